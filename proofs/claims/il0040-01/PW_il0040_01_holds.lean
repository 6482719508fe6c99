import PyProof.Rows.All
import Wide.All
import OpenK.AllK
import Wide.FinOn
import PySem.Challenge.RW_il0040_01
open PySem PySem.W PyProof.Rows
set_option Elab.async false
set_option maxRecDepth 100000
set_option maxHeartbeats 8000000
set_option linter.unusedVariables false
set_option linter.unusedSimpArgs false
set_option linter.all false
set_option compiler.extract_closed false
set_option hygiene false
section
open PySem PySem.W PyProof.Rows
namespace Mine.hd
noncomputable def fdP : Stmt → Arguments
  | .FunctionDef _ a _ _ _ _ _ _ _ _ => a
  | _ => default
noncomputable def fdB : Stmt → List Stmt
  | .FunctionDef _ _ b _ _ _ _ _ _ _ => b
  | _ => []
noncomputable def fdS : Stmt → Scope
  | .FunctionDef _ _ _ _ _ _ s _ _ _ => s
  | _ => default
noncomputable def stAt (i : Nat) : Stmt := PySem.Challenge.pw_il0040_01.main.body.getD i (.Pass default)
noncomputable def lP0 : Arguments := by
  refine (?f : (x : Arguments) → x = fdP (stAt 0) → Arguments) _ (by dsimp only [fdP, stAt, PySem.Challenge.pw_il0040_01, List.getD, List.getD_cons_succ, List.getD_cons_zero, List.getElem?_cons_succ, List.getElem?_cons_zero, Option.getD_some, Option.getD])
  case f => exact fun x _ => x
noncomputable def lB0 : List Stmt := by
  refine (?f : (x : List Stmt) → x = fdB (stAt 0) → List Stmt) _ (by dsimp only [fdB, stAt, PySem.Challenge.pw_il0040_01, List.getD, List.getD_cons_succ, List.getD_cons_zero, List.getElem?_cons_succ, List.getElem?_cons_zero, Option.getD_some, Option.getD])
  case f => exact fun x _ => x
noncomputable def lS0 : Scope := by
  refine (?f : (x : Scope) → x = fdS (stAt 0) → Scope) _ (by dsimp only [fdS, stAt, PySem.Challenge.pw_il0040_01, List.getD, List.getD_cons_succ, List.getD_cons_zero, List.getElem?_cons_succ, List.getElem?_cons_zero, Option.getD_some, Option.getD])
  case f => exact fun x _ => x
noncomputable def lP3 : Arguments := by
  refine (?f : (x : Arguments) → x = fdP (stAt 3) → Arguments) _ (by dsimp only [fdP, stAt, PySem.Challenge.pw_il0040_01, List.getD, List.getD_cons_succ, List.getD_cons_zero, List.getElem?_cons_succ, List.getElem?_cons_zero, Option.getD_some, Option.getD])
  case f => exact fun x _ => x
noncomputable def lB3 : List Stmt := by
  refine (?f : (x : List Stmt) → x = fdB (stAt 3) → List Stmt) _ (by dsimp only [fdB, stAt, PySem.Challenge.pw_il0040_01, List.getD, List.getD_cons_succ, List.getD_cons_zero, List.getElem?_cons_succ, List.getElem?_cons_zero, Option.getD_some, Option.getD])
  case f => exact fun x _ => x
noncomputable def lS3 : Scope := by
  refine (?f : (x : Scope) → x = fdS (stAt 3) → Scope) _ (by dsimp only [fdS, stAt, PySem.Challenge.pw_il0040_01, List.getD, List.getD_cons_succ, List.getD_cons_zero, List.getElem?_cons_succ, List.getElem?_cons_zero, Option.getD_some, Option.getD])
  case f => exact fun x _ => x
noncomputable def lP6 : Arguments := by
  refine (?f : (x : Arguments) → x = fdP (stAt 6) → Arguments) _ (by dsimp only [fdP, stAt, PySem.Challenge.pw_il0040_01, List.getD, List.getD_cons_succ, List.getD_cons_zero, List.getElem?_cons_succ, List.getElem?_cons_zero, Option.getD_some, Option.getD])
  case f => exact fun x _ => x
noncomputable def lB6 : List Stmt := by
  refine (?f : (x : List Stmt) → x = fdB (stAt 6) → List Stmt) _ (by dsimp only [fdB, stAt, PySem.Challenge.pw_il0040_01, List.getD, List.getD_cons_succ, List.getD_cons_zero, List.getElem?_cons_succ, List.getElem?_cons_zero, Option.getD_some, Option.getD])
  case f => exact fun x _ => x
noncomputable def lS6 : Scope := by
  refine (?f : (x : Scope) → x = fdS (stAt 6) → Scope) _ (by dsimp only [fdS, stAt, PySem.Challenge.pw_il0040_01, List.getD, List.getD_cons_succ, List.getD_cons_zero, List.getElem?_cons_succ, List.getElem?_cons_zero, Option.getD_some, Option.getD])
  case f => exact fun x _ => x
noncomputable def lP7 : Arguments := by
  refine (?f : (x : Arguments) → x = fdP (stAt 7) → Arguments) _ (by dsimp only [fdP, stAt, PySem.Challenge.pw_il0040_01, List.getD, List.getD_cons_succ, List.getD_cons_zero, List.getElem?_cons_succ, List.getElem?_cons_zero, Option.getD_some, Option.getD])
  case f => exact fun x _ => x
noncomputable def lB7 : List Stmt := by
  refine (?f : (x : List Stmt) → x = fdB (stAt 7) → List Stmt) _ (by dsimp only [fdB, stAt, PySem.Challenge.pw_il0040_01, List.getD, List.getD_cons_succ, List.getD_cons_zero, List.getElem?_cons_succ, List.getElem?_cons_zero, Option.getD_some, Option.getD])
  case f => exact fun x _ => x
noncomputable def lS7 : Scope := by
  refine (?f : (x : Scope) → x = fdS (stAt 7) → Scope) _ (by dsimp only [fdS, stAt, PySem.Challenge.pw_il0040_01, List.getD, List.getD_cons_succ, List.getD_cons_zero, List.getElem?_cons_succ, List.getElem?_cons_zero, Option.getD_some, Option.getD])
  case f => exact fun x _ => x
noncomputable def lP8 : Arguments := by
  refine (?f : (x : Arguments) → x = fdP (stAt 8) → Arguments) _ (by dsimp only [fdP, stAt, PySem.Challenge.pw_il0040_01, List.getD, List.getD_cons_succ, List.getD_cons_zero, List.getElem?_cons_succ, List.getElem?_cons_zero, Option.getD_some, Option.getD])
  case f => exact fun x _ => x
noncomputable def lB8 : List Stmt := by
  refine (?f : (x : List Stmt) → x = fdB (stAt 8) → List Stmt) _ (by dsimp only [fdB, stAt, PySem.Challenge.pw_il0040_01, List.getD, List.getD_cons_succ, List.getD_cons_zero, List.getElem?_cons_succ, List.getElem?_cons_zero, Option.getD_some, Option.getD])
  case f => exact fun x _ => x
noncomputable def lS8 : Scope := by
  refine (?f : (x : Scope) → x = fdS (stAt 8) → Scope) _ (by dsimp only [fdS, stAt, PySem.Challenge.pw_il0040_01, List.getD, List.getD_cons_succ, List.getD_cons_zero, List.getElem?_cons_succ, List.getElem?_cons_zero, Option.getD_some, Option.getD])
  case f => exact fun x _ => x
noncomputable def lP9 : Arguments := by
  refine (?f : (x : Arguments) → x = fdP (stAt 9) → Arguments) _ (by dsimp only [fdP, stAt, PySem.Challenge.pw_il0040_01, List.getD, List.getD_cons_succ, List.getD_cons_zero, List.getElem?_cons_succ, List.getElem?_cons_zero, Option.getD_some, Option.getD])
  case f => exact fun x _ => x
noncomputable def lB9 : List Stmt := by
  refine (?f : (x : List Stmt) → x = fdB (stAt 9) → List Stmt) _ (by dsimp only [fdB, stAt, PySem.Challenge.pw_il0040_01, List.getD, List.getD_cons_succ, List.getD_cons_zero, List.getElem?_cons_succ, List.getElem?_cons_zero, Option.getD_some, Option.getD])
  case f => exact fun x _ => x
noncomputable def lS9 : Scope := by
  refine (?f : (x : Scope) → x = fdS (stAt 9) → Scope) _ (by dsimp only [fdS, stAt, PySem.Challenge.pw_il0040_01, List.getD, List.getD_cons_succ, List.getD_cons_zero, List.getElem?_cons_succ, List.getElem?_cons_zero, Option.getD_some, Option.getD])
  case f => exact fun x _ => x
noncomputable def lP11 : Arguments := by
  refine (?f : (x : Arguments) → x = fdP (stAt 11) → Arguments) _ (by dsimp only [fdP, stAt, PySem.Challenge.pw_il0040_01, List.getD, List.getD_cons_succ, List.getD_cons_zero, List.getElem?_cons_succ, List.getElem?_cons_zero, Option.getD_some, Option.getD])
  case f => exact fun x _ => x
noncomputable def lB11 : List Stmt := by
  refine (?f : (x : List Stmt) → x = fdB (stAt 11) → List Stmt) _ (by dsimp only [fdB, stAt, PySem.Challenge.pw_il0040_01, List.getD, List.getD_cons_succ, List.getD_cons_zero, List.getElem?_cons_succ, List.getElem?_cons_zero, Option.getD_some, Option.getD])
  case f => exact fun x _ => x
noncomputable def lS11 : Scope := by
  refine (?f : (x : Scope) → x = fdS (stAt 11) → Scope) _ (by dsimp only [fdS, stAt, PySem.Challenge.pw_il0040_01, List.getD, List.getD_cons_succ, List.getD_cons_zero, List.getElem?_cons_succ, List.getElem?_cons_zero, Option.getD_some, Option.getD])
  case f => exact fun x _ => x
noncomputable def lP13 : Arguments := by
  refine (?f : (x : Arguments) → x = fdP (stAt 13) → Arguments) _ (by dsimp only [fdP, stAt, PySem.Challenge.pw_il0040_01, List.getD, List.getD_cons_succ, List.getD_cons_zero, List.getElem?_cons_succ, List.getElem?_cons_zero, Option.getD_some, Option.getD])
  case f => exact fun x _ => x
noncomputable def lB13 : List Stmt := by
  refine (?f : (x : List Stmt) → x = fdB (stAt 13) → List Stmt) _ (by dsimp only [fdB, stAt, PySem.Challenge.pw_il0040_01, List.getD, List.getD_cons_succ, List.getD_cons_zero, List.getElem?_cons_succ, List.getElem?_cons_zero, Option.getD_some, Option.getD])
  case f => exact fun x _ => x
noncomputable def lS13 : Scope := by
  refine (?f : (x : Scope) → x = fdS (stAt 13) → Scope) _ (by dsimp only [fdS, stAt, PySem.Challenge.pw_il0040_01, List.getD, List.getD_cons_succ, List.getD_cons_zero, List.getElem?_cons_succ, List.getElem?_cons_zero, Option.getD_some, Option.getD])
  case f => exact fun x _ => x
noncomputable def lP14 : Arguments := by
  refine (?f : (x : Arguments) → x = fdP (stAt 14) → Arguments) _ (by dsimp only [fdP, stAt, PySem.Challenge.pw_il0040_01, List.getD, List.getD_cons_succ, List.getD_cons_zero, List.getElem?_cons_succ, List.getElem?_cons_zero, Option.getD_some, Option.getD])
  case f => exact fun x _ => x
noncomputable def lB14 : List Stmt := by
  refine (?f : (x : List Stmt) → x = fdB (stAt 14) → List Stmt) _ (by dsimp only [fdB, stAt, PySem.Challenge.pw_il0040_01, List.getD, List.getD_cons_succ, List.getD_cons_zero, List.getElem?_cons_succ, List.getElem?_cons_zero, Option.getD_some, Option.getD])
  case f => exact fun x _ => x
noncomputable def lS14 : Scope := by
  refine (?f : (x : Scope) → x = fdS (stAt 14) → Scope) _ (by dsimp only [fdS, stAt, PySem.Challenge.pw_il0040_01, List.getD, List.getD_cons_succ, List.getD_cons_zero, List.getElem?_cons_succ, List.getElem?_cons_zero, Option.getD_some, Option.getD])
  case f => exact fun x _ => x
noncomputable def lP15 : Arguments := by
  refine (?f : (x : Arguments) → x = fdP (stAt 15) → Arguments) _ (by dsimp only [fdP, stAt, PySem.Challenge.pw_il0040_01, List.getD, List.getD_cons_succ, List.getD_cons_zero, List.getElem?_cons_succ, List.getElem?_cons_zero, Option.getD_some, Option.getD])
  case f => exact fun x _ => x
noncomputable def lB15 : List Stmt := by
  refine (?f : (x : List Stmt) → x = fdB (stAt 15) → List Stmt) _ (by dsimp only [fdB, stAt, PySem.Challenge.pw_il0040_01, List.getD, List.getD_cons_succ, List.getD_cons_zero, List.getElem?_cons_succ, List.getElem?_cons_zero, Option.getD_some, Option.getD])
  case f => exact fun x _ => x
noncomputable def lS15 : Scope := by
  refine (?f : (x : Scope) → x = fdS (stAt 15) → Scope) _ (by dsimp only [fdS, stAt, PySem.Challenge.pw_il0040_01, List.getD, List.getD_cons_succ, List.getD_cons_zero, List.getElem?_cons_succ, List.getElem?_cons_zero, Option.getD_some, Option.getD])
  case f => exact fun x _ => x
noncomputable def lP16 : Arguments := by
  refine (?f : (x : Arguments) → x = fdP (stAt 16) → Arguments) _ (by dsimp only [fdP, stAt, PySem.Challenge.pw_il0040_01, List.getD, List.getD_cons_succ, List.getD_cons_zero, List.getElem?_cons_succ, List.getElem?_cons_zero, Option.getD_some, Option.getD])
  case f => exact fun x _ => x
noncomputable def lB16 : List Stmt := by
  refine (?f : (x : List Stmt) → x = fdB (stAt 16) → List Stmt) _ (by dsimp only [fdB, stAt, PySem.Challenge.pw_il0040_01, List.getD, List.getD_cons_succ, List.getD_cons_zero, List.getElem?_cons_succ, List.getElem?_cons_zero, Option.getD_some, Option.getD])
  case f => exact fun x _ => x
noncomputable def lS16 : Scope := by
  refine (?f : (x : Scope) → x = fdS (stAt 16) → Scope) _ (by dsimp only [fdS, stAt, PySem.Challenge.pw_il0040_01, List.getD, List.getD_cons_succ, List.getD_cons_zero, List.getElem?_cons_succ, List.getElem?_cons_zero, Option.getD_some, Option.getD])
  case f => exact fun x _ => x
noncomputable def lP17 : Arguments := by
  refine (?f : (x : Arguments) → x = fdP (stAt 17) → Arguments) _ (by dsimp only [fdP, stAt, PySem.Challenge.pw_il0040_01, List.getD, List.getD_cons_succ, List.getD_cons_zero, List.getElem?_cons_succ, List.getElem?_cons_zero, Option.getD_some, Option.getD])
  case f => exact fun x _ => x
noncomputable def lB17 : List Stmt := by
  refine (?f : (x : List Stmt) → x = fdB (stAt 17) → List Stmt) _ (by dsimp only [fdB, stAt, PySem.Challenge.pw_il0040_01, List.getD, List.getD_cons_succ, List.getD_cons_zero, List.getElem?_cons_succ, List.getElem?_cons_zero, Option.getD_some, Option.getD])
  case f => exact fun x _ => x
noncomputable def lS17 : Scope := by
  refine (?f : (x : Scope) → x = fdS (stAt 17) → Scope) _ (by dsimp only [fdS, stAt, PySem.Challenge.pw_il0040_01, List.getD, List.getD_cons_succ, List.getD_cons_zero, List.getElem?_cons_succ, List.getElem?_cons_zero, Option.getD_some, Option.getD])
  case f => exact fun x _ => x
noncomputable def lP18 : Arguments := by
  refine (?f : (x : Arguments) → x = fdP (stAt 18) → Arguments) _ (by dsimp only [fdP, stAt, PySem.Challenge.pw_il0040_01, List.getD, List.getD_cons_succ, List.getD_cons_zero, List.getElem?_cons_succ, List.getElem?_cons_zero, Option.getD_some, Option.getD])
  case f => exact fun x _ => x
noncomputable def lB18 : List Stmt := by
  refine (?f : (x : List Stmt) → x = fdB (stAt 18) → List Stmt) _ (by dsimp only [fdB, stAt, PySem.Challenge.pw_il0040_01, List.getD, List.getD_cons_succ, List.getD_cons_zero, List.getElem?_cons_succ, List.getElem?_cons_zero, Option.getD_some, Option.getD])
  case f => exact fun x _ => x
noncomputable def lS18 : Scope := by
  refine (?f : (x : Scope) → x = fdS (stAt 18) → Scope) _ (by dsimp only [fdS, stAt, PySem.Challenge.pw_il0040_01, List.getD, List.getD_cons_succ, List.getD_cons_zero, List.getElem?_cons_succ, List.getElem?_cons_zero, Option.getD_some, Option.getD])
  case f => exact fun x _ => x
noncomputable def lP19 : Arguments := by
  refine (?f : (x : Arguments) → x = fdP (stAt 19) → Arguments) _ (by dsimp only [fdP, stAt, PySem.Challenge.pw_il0040_01, List.getD, List.getD_cons_succ, List.getD_cons_zero, List.getElem?_cons_succ, List.getElem?_cons_zero, Option.getD_some, Option.getD])
  case f => exact fun x _ => x
noncomputable def lB19 : List Stmt := by
  refine (?f : (x : List Stmt) → x = fdB (stAt 19) → List Stmt) _ (by dsimp only [fdB, stAt, PySem.Challenge.pw_il0040_01, List.getD, List.getD_cons_succ, List.getD_cons_zero, List.getElem?_cons_succ, List.getElem?_cons_zero, Option.getD_some, Option.getD])
  case f => exact fun x _ => x
noncomputable def lS19 : Scope := by
  refine (?f : (x : Scope) → x = fdS (stAt 19) → Scope) _ (by dsimp only [fdS, stAt, PySem.Challenge.pw_il0040_01, List.getD, List.getD_cons_succ, List.getD_cons_zero, List.getElem?_cons_succ, List.getElem?_cons_zero, Option.getD_some, Option.getD])
  case f => exact fun x _ => x
noncomputable def lP20 : Arguments := by
  refine (?f : (x : Arguments) → x = fdP (stAt 20) → Arguments) _ (by dsimp only [fdP, stAt, PySem.Challenge.pw_il0040_01, List.getD, List.getD_cons_succ, List.getD_cons_zero, List.getElem?_cons_succ, List.getElem?_cons_zero, Option.getD_some, Option.getD])
  case f => exact fun x _ => x
noncomputable def lB20 : List Stmt := by
  refine (?f : (x : List Stmt) → x = fdB (stAt 20) → List Stmt) _ (by dsimp only [fdB, stAt, PySem.Challenge.pw_il0040_01, List.getD, List.getD_cons_succ, List.getD_cons_zero, List.getElem?_cons_succ, List.getElem?_cons_zero, Option.getD_some, Option.getD])
  case f => exact fun x _ => x
noncomputable def lS20 : Scope := by
  refine (?f : (x : Scope) → x = fdS (stAt 20) → Scope) _ (by dsimp only [fdS, stAt, PySem.Challenge.pw_il0040_01, List.getD, List.getD_cons_succ, List.getD_cons_zero, List.getElem?_cons_succ, List.getElem?_cons_zero, Option.getD_some, Option.getD])
  case f => exact fun x _ => x
noncomputable def lP21 : Arguments := by
  refine (?f : (x : Arguments) → x = fdP (stAt 21) → Arguments) _ (by dsimp only [fdP, stAt, PySem.Challenge.pw_il0040_01, List.getD, List.getD_cons_succ, List.getD_cons_zero, List.getElem?_cons_succ, List.getElem?_cons_zero, Option.getD_some, Option.getD])
  case f => exact fun x _ => x
noncomputable def lB21 : List Stmt := by
  refine (?f : (x : List Stmt) → x = fdB (stAt 21) → List Stmt) _ (by dsimp only [fdB, stAt, PySem.Challenge.pw_il0040_01, List.getD, List.getD_cons_succ, List.getD_cons_zero, List.getElem?_cons_succ, List.getElem?_cons_zero, Option.getD_some, Option.getD])
  case f => exact fun x _ => x
noncomputable def lS21 : Scope := by
  refine (?f : (x : Scope) → x = fdS (stAt 21) → Scope) _ (by dsimp only [fdS, stAt, PySem.Challenge.pw_il0040_01, List.getD, List.getD_cons_succ, List.getD_cons_zero, List.getElem?_cons_succ, List.getElem?_cons_zero, Option.getD_some, Option.getD])
  case f => exact fun x _ => x
noncomputable def lP22 : Arguments := by
  refine (?f : (x : Arguments) → x = fdP (stAt 22) → Arguments) _ (by dsimp only [fdP, stAt, PySem.Challenge.pw_il0040_01, List.getD, List.getD_cons_succ, List.getD_cons_zero, List.getElem?_cons_succ, List.getElem?_cons_zero, Option.getD_some, Option.getD])
  case f => exact fun x _ => x
noncomputable def lB22 : List Stmt := by
  refine (?f : (x : List Stmt) → x = fdB (stAt 22) → List Stmt) _ (by dsimp only [fdB, stAt, PySem.Challenge.pw_il0040_01, List.getD, List.getD_cons_succ, List.getD_cons_zero, List.getElem?_cons_succ, List.getElem?_cons_zero, Option.getD_some, Option.getD])
  case f => exact fun x _ => x
noncomputable def lS22 : Scope := by
  refine (?f : (x : Scope) → x = fdS (stAt 22) → Scope) _ (by dsimp only [fdS, stAt, PySem.Challenge.pw_il0040_01, List.getD, List.getD_cons_succ, List.getD_cons_zero, List.getElem?_cons_succ, List.getElem?_cons_zero, Option.getD_some, Option.getD])
  case f => exact fun x _ => x
noncomputable def lP24 : Arguments := by
  refine (?f : (x : Arguments) → x = fdP (stAt 24) → Arguments) _ (by dsimp only [fdP, stAt, PySem.Challenge.pw_il0040_01, List.getD, List.getD_cons_succ, List.getD_cons_zero, List.getElem?_cons_succ, List.getElem?_cons_zero, Option.getD_some, Option.getD])
  case f => exact fun x _ => x
noncomputable def lB24 : List Stmt := by
  refine (?f : (x : List Stmt) → x = fdB (stAt 24) → List Stmt) _ (by dsimp only [fdB, stAt, PySem.Challenge.pw_il0040_01, List.getD, List.getD_cons_succ, List.getD_cons_zero, List.getElem?_cons_succ, List.getElem?_cons_zero, Option.getD_some, Option.getD])
  case f => exact fun x _ => x
noncomputable def lS24 : Scope := by
  refine (?f : (x : Scope) → x = fdS (stAt 24) → Scope) _ (by dsimp only [fdS, stAt, PySem.Challenge.pw_il0040_01, List.getD, List.getD_cons_succ, List.getD_cons_zero, List.getElem?_cons_succ, List.getElem?_cons_zero, Option.getD_some, Option.getD])
  case f => exact fun x _ => x
noncomputable def lP45 : Arguments := by
  refine (?f : (x : Arguments) → x = fdP (stAt 45) → Arguments) _ (by dsimp only [fdP, stAt, PySem.Challenge.pw_il0040_01, List.getD, List.getD_cons_succ, List.getD_cons_zero, List.getElem?_cons_succ, List.getElem?_cons_zero, Option.getD_some, Option.getD])
  case f => exact fun x _ => x
noncomputable def lB45 : List Stmt := by
  refine (?f : (x : List Stmt) → x = fdB (stAt 45) → List Stmt) _ (by dsimp only [fdB, stAt, PySem.Challenge.pw_il0040_01, List.getD, List.getD_cons_succ, List.getD_cons_zero, List.getElem?_cons_succ, List.getElem?_cons_zero, Option.getD_some, Option.getD])
  case f => exact fun x _ => x
noncomputable def lS45 : Scope := by
  refine (?f : (x : Scope) → x = fdS (stAt 45) → Scope) _ (by dsimp only [fdS, stAt, PySem.Challenge.pw_il0040_01, List.getD, List.getD_cons_succ, List.getD_cons_zero, List.getElem?_cons_succ, List.getElem?_cons_zero, Option.getD_some, Option.getD])
  case f => exact fun x _ => x
noncomputable def lP47 : Arguments := by
  refine (?f : (x : Arguments) → x = fdP (stAt 47) → Arguments) _ (by dsimp only [fdP, stAt, PySem.Challenge.pw_il0040_01, List.getD, List.getD_cons_succ, List.getD_cons_zero, List.getElem?_cons_succ, List.getElem?_cons_zero, Option.getD_some, Option.getD])
  case f => exact fun x _ => x
noncomputable def lB47 : List Stmt := by
  refine (?f : (x : List Stmt) → x = fdB (stAt 47) → List Stmt) _ (by dsimp only [fdB, stAt, PySem.Challenge.pw_il0040_01, List.getD, List.getD_cons_succ, List.getD_cons_zero, List.getElem?_cons_succ, List.getElem?_cons_zero, Option.getD_some, Option.getD])
  case f => exact fun x _ => x
noncomputable def lS47 : Scope := by
  refine (?f : (x : Scope) → x = fdS (stAt 47) → Scope) _ (by dsimp only [fdS, stAt, PySem.Challenge.pw_il0040_01, List.getD, List.getD_cons_succ, List.getD_cons_zero, List.getElem?_cons_succ, List.getElem?_cons_zero, Option.getD_some, Option.getD])
  case f => exact fun x _ => x
noncomputable def lP48 : Arguments := by
  refine (?f : (x : Arguments) → x = fdP (stAt 48) → Arguments) _ (by dsimp only [fdP, stAt, PySem.Challenge.pw_il0040_01, List.getD, List.getD_cons_succ, List.getD_cons_zero, List.getElem?_cons_succ, List.getElem?_cons_zero, Option.getD_some, Option.getD])
  case f => exact fun x _ => x
noncomputable def lB48 : List Stmt := by
  refine (?f : (x : List Stmt) → x = fdB (stAt 48) → List Stmt) _ (by dsimp only [fdB, stAt, PySem.Challenge.pw_il0040_01, List.getD, List.getD_cons_succ, List.getD_cons_zero, List.getElem?_cons_succ, List.getElem?_cons_zero, Option.getD_some, Option.getD])
  case f => exact fun x _ => x
noncomputable def lS48 : Scope := by
  refine (?f : (x : Scope) → x = fdS (stAt 48) → Scope) _ (by dsimp only [fdS, stAt, PySem.Challenge.pw_il0040_01, List.getD, List.getD_cons_succ, List.getD_cons_zero, List.getElem?_cons_succ, List.getElem?_cons_zero, Option.getD_some, Option.getD])
  case f => exact fun x _ => x
noncomputable def lP49 : Arguments := by
  refine (?f : (x : Arguments) → x = fdP (stAt 49) → Arguments) _ (by dsimp only [fdP, stAt, PySem.Challenge.pw_il0040_01, List.getD, List.getD_cons_succ, List.getD_cons_zero, List.getElem?_cons_succ, List.getElem?_cons_zero, Option.getD_some, Option.getD])
  case f => exact fun x _ => x
noncomputable def lB49 : List Stmt := by
  refine (?f : (x : List Stmt) → x = fdB (stAt 49) → List Stmt) _ (by dsimp only [fdB, stAt, PySem.Challenge.pw_il0040_01, List.getD, List.getD_cons_succ, List.getD_cons_zero, List.getElem?_cons_succ, List.getElem?_cons_zero, Option.getD_some, Option.getD])
  case f => exact fun x _ => x
noncomputable def lS49 : Scope := by
  refine (?f : (x : Scope) → x = fdS (stAt 49) → Scope) _ (by dsimp only [fdS, stAt, PySem.Challenge.pw_il0040_01, List.getD, List.getD_cons_succ, List.getD_cons_zero, List.getElem?_cons_succ, List.getElem?_cons_zero, Option.getD_some, Option.getD])
  case f => exact fun x _ => x
noncomputable def heap_39 : Params → Frag := by
  refine (?f : (x : Params → Frag) → x = (fun P => (nat_lit 2, Obj.mk Value.none none (Data.dict #[]) #[]) ::
  (nat_lit 3, Obj.mk (Value.type "dict") none (Data.dict #[DictEntry.mk (PyData.keyHash P (Str.ofString "__name__")) (Value.str (Str.ofString "__name__") (nat_lit 165)) (Value.str (Str.ofString "law_il0040_01") (nat_lit 459)), DictEntry.mk (PyData.keyHash P (Str.ofString "__doc__")) (Value.str (Str.ofString "__doc__") (nat_lit 166)) Value.none, DictEntry.mk (PyData.keyHash P (Str.ofString "__package__")) (Value.str (Str.ofString "__package__") (nat_lit 167)) Value.none, DictEntry.mk (PyData.keyHash P (Str.ofString "__loader__")) (Value.str (Str.ofString "__loader__") (nat_lit 168)) (Value.builtin "__main__.__loader__#opaque"), DictEntry.mk (PyData.keyHash P (Str.ofString "__spec__")) (Value.str (Str.ofString "__spec__") (nat_lit 169)) Value.none, DictEntry.mk (PyData.keyHash P (Str.ofString "__annotations__")) (Value.str (Str.ofString "__annotations__") (nat_lit 170)) (Value.ref (nat_lit 6)), DictEntry.mk (PyData.keyHash P (Str.ofString "__builtins__")) (Value.str (Str.ofString "__builtins__") (nat_lit 171)) (Value.ref (nat_lit 4)), DictEntry.mk (PyData.keyHash P (Str.ofString "__file__")) (Value.str (Str.ofString "__file__") (nat_lit 173)) (Value.str (Str.ofString "/claim/cut.py") (nat_lit 172)), DictEntry.mk (PyData.keyHash P (Str.ofString "__cached__")) (Value.str (Str.ofString "__cached__") (nat_lit 174)) Value.none, DictEntry.mk (PyData.keyHash P (Str.ofString "_wall")) (Value.str (Str.ofString "_wall") (nat_lit 193)) (Value.ref (nat_lit 21)), DictEntry.mk (PyData.keyHash P (Str.ofString "bytes_types")) (Value.str (Str.ofString "bytes_types") (nat_lit 196)) (Value.ref (nat_lit 22)), DictEntry.mk (PyData.keyHash P (Str.ofString "_bytes_from_decode_data")) (Value.str (Str.ofString "_bytes_from_decode_data") (nat_lit 203)) (Value.ref (nat_lit 29)), DictEntry.mk (PyData.keyHash P (Str.ofString "Error")) (Value.str (Str.ofString "Error") (nat_lit 223)) (Value.ref (nat_lit 39)), DictEntry.mk (PyData.keyHash P (Str.ofString "_ascii_buffer")) (Value.str (Str.ofString "_ascii_buffer") (nat_lit 231)) (Value.ref (nat_lit 49)), DictEntry.mk (PyData.keyHash P (Str.ofString "_truth")) (Value.str (Str.ofString "_truth") (nat_lit 239)) (Value.ref (nat_lit 56)), DictEntry.mk (PyData.keyHash P (Str.ofString "_b64_value")) (Value.str (Str.ofString "_b64_value") (nat_lit 246)) (Value.ref (nat_lit 63)), DictEntry.mk (PyData.keyHash P (Str.ofString "a2b_base64")) (Value.str (Str.ofString "a2b_base64") (nat_lit 262)) (Value.ref (nat_lit 71)), DictEntry.mk (PyData.keyHash P (Str.ofString "b64decode")) (Value.str (Str.ofString "b64decode") (nat_lit 273)) (Value.ref (nat_lit 79)), DictEntry.mk (PyData.keyHash P (Str.ofString "heapreplace")) (Value.str (Str.ofString "heapreplace") (nat_lit 284)) (Value.ref (nat_lit 86)), DictEntry.mk (PyData.keyHash P (Str.ofString "heapify")) (Value.str (Str.ofString "heapify") (nat_lit 293)) (Value.ref (nat_lit 93)), DictEntry.mk (PyData.keyHash P (Str.ofString "_heapreplace_max")) (Value.str (Str.ofString "_heapreplace_max") (nat_lit 302)) (Value.ref (nat_lit 100)), DictEntry.mk (PyData.keyHash P (Str.ofString "_heapify_max")) (Value.str (Str.ofString "_heapify_max") (nat_lit 311)) (Value.ref (nat_lit 107)), DictEntry.mk (PyData.keyHash P (Str.ofString "_siftdown")) (Value.str (Str.ofString "_siftdown") (nat_lit 323)) (Value.ref (nat_lit 114)), DictEntry.mk (PyData.keyHash P (Str.ofString "_siftup")) (Value.str (Str.ofString "_siftup") (nat_lit 336)) (Value.ref (nat_lit 121)), DictEntry.mk (PyData.keyHash P (Str.ofString "_siftdown_max")) (Value.str (Str.ofString "_siftdown_max") (nat_lit 348)) (Value.ref (nat_lit 128)), DictEntry.mk (PyData.keyHash P (Str.ofString "_siftup_max")) (Value.str (Str.ofString "_siftup_max") (nat_lit 361)) (Value.ref (nat_lit 135)), DictEntry.mk (PyData.keyHash P (Str.ofString "nsmallest")) (Value.str (Str.ofString "nsmallest") (nat_lit 367)) (Value.ref (nat_lit 141)), DictEntry.mk (PyData.keyHash P (Str.ofString "nlargest")) (Value.str (Str.ofString "nlargest") (nat_lit 373)) (Value.ref (nat_lit 147)), DictEntry.mk (PyData.keyHash P (Str.ofString "S_IFMT")) (Value.str (Str.ofString "S_IFMT") (nat_lit 382)) (Value.ref (nat_lit 154)), DictEntry.mk (PyData.keyHash P (Str.ofString "S_IFDIR")) (Value.str (Str.ofString "S_IFDIR") (nat_lit 384)) (Value.int 16384 (nat_lit 383)), DictEntry.mk (PyData.keyHash P (Str.ofString "S_IFCHR")) (Value.str (Str.ofString "S_IFCHR") (nat_lit 386)) (Value.int 8192 (nat_lit 385)), DictEntry.mk (PyData.keyHash P (Str.ofString "S_IFBLK")) (Value.str (Str.ofString "S_IFBLK") (nat_lit 388)) (Value.int 24576 (nat_lit 387)), DictEntry.mk (PyData.keyHash P (Str.ofString "S_IFREG")) (Value.str (Str.ofString "S_IFREG") (nat_lit 390)) (Value.int 32768 (nat_lit 389)), DictEntry.mk (PyData.keyHash P (Str.ofString "S_IFIFO")) (Value.str (Str.ofString "S_IFIFO") (nat_lit 392)) (Value.int 4096 (nat_lit 391)), DictEntry.mk (PyData.keyHash P (Str.ofString "S_IFLNK")) (Value.str (Str.ofString "S_IFLNK") (nat_lit 394)) (Value.int 40960 (nat_lit 393)), DictEntry.mk (PyData.keyHash P (Str.ofString "S_IFSOCK")) (Value.str (Str.ofString "S_IFSOCK") (nat_lit 396)) (Value.int 49152 (nat_lit 395)), DictEntry.mk (PyData.keyHash P (Str.ofString "S_ISUID")) (Value.str (Str.ofString "S_ISUID") (nat_lit 398)) (Value.int 2048 (nat_lit 397)), DictEntry.mk (PyData.keyHash P (Str.ofString "S_ISGID")) (Value.str (Str.ofString "S_ISGID") (nat_lit 400)) (Value.int 1024 (nat_lit 399)), DictEntry.mk (PyData.keyHash P (Str.ofString "S_ISVTX")) (Value.str (Str.ofString "S_ISVTX") (nat_lit 402)) (Value.int 512 (nat_lit 401)), DictEntry.mk (PyData.keyHash P (Str.ofString "S_IRUSR")) (Value.str (Str.ofString "S_IRUSR") (nat_lit 404)) (Value.int 256 (nat_lit 403)), DictEntry.mk (PyData.keyHash P (Str.ofString "S_IWUSR")) (Value.str (Str.ofString "S_IWUSR") (nat_lit 406)) (Value.int 128 (nat_lit 405)), DictEntry.mk (PyData.keyHash P (Str.ofString "S_IXUSR")) (Value.str (Str.ofString "S_IXUSR") (nat_lit 408)) (Value.int 64 (nat_lit 407)), DictEntry.mk (PyData.keyHash P (Str.ofString "S_IRGRP")) (Value.str (Str.ofString "S_IRGRP") (nat_lit 410)) (Value.int 32 (nat_lit 409)), DictEntry.mk (PyData.keyHash P (Str.ofString "S_IWGRP")) (Value.str (Str.ofString "S_IWGRP") (nat_lit 412)) (Value.int 16 (nat_lit 411)), DictEntry.mk (PyData.keyHash P (Str.ofString "S_IXGRP")) (Value.str (Str.ofString "S_IXGRP") (nat_lit 414)) (Value.int 8 (nat_lit 413)), DictEntry.mk (PyData.keyHash P (Str.ofString "S_IROTH")) (Value.str (Str.ofString "S_IROTH") (nat_lit 416)) (Value.int 4 (nat_lit 415)), DictEntry.mk (PyData.keyHash P (Str.ofString "S_IWOTH")) (Value.str (Str.ofString "S_IWOTH") (nat_lit 418)) (Value.int 2 (nat_lit 417)), DictEntry.mk (PyData.keyHash P (Str.ofString "S_IXOTH")) (Value.str (Str.ofString "S_IXOTH") (nat_lit 420)) (Value.int 1 (nat_lit 419)), DictEntry.mk (PyData.keyHash P (Str.ofString "_filemode_table")) (Value.str (Str.ofString "_filemode_table") (nat_lit 446)) (Value.ref (nat_lit 187)), DictEntry.mk (PyData.keyHash P (Str.ofString "filemode")) (Value.str (Str.ofString "filemode") (nat_lit 458)) (Value.ref (nat_lit 194)), DictEntry.mk (PyData.keyHash P (Str.ofString "_law_word")) (Value.str (Str.ofString "_law_word") (nat_lit 466)) (Value.ref (nat_lit 199)), DictEntry.mk (PyData.keyHash P (Str.ofString "_law_number")) (Value.str (Str.ofString "_law_number") (nat_lit 477)) (Value.ref (nat_lit 206)), DictEntry.mk (PyData.keyHash P (Str.ofString "law")) (Value.str (Str.ofString "law") (nat_lit 483)) (Value.ref (nat_lit 211))] 53) #[]) ::
  (nat_lit 15, Obj.mk (Value.type "tuple") none (Data.seq #[]) #[]) ::
  (nat_lit 17, Obj.mk (Value.type "tuple") none (Data.seq #[Value.str (Str.ofString "k") (nat_lit 190)]) #[]) ::
  (nat_lit 18, Obj.mk (Value.type "tuple") none (Data.seq #[]) #[]) ::
  (nat_lit 20, Obj.mk (Value.type "code") none (Data.fields #[Value.str (Str.ofString "_wall") (nat_lit 187), Value.str (Str.ofString "_wall") (nat_lit 188), Value.str (Str.ofString "/claim/cut.py") (nat_lit 189), Value.int 1 (nat_lit 0), Value.int 1 (nat_lit 0), Value.int 0 (nat_lit 0), Value.int 0 (nat_lit 0), Value.int 3 (nat_lit 0), Value.ref (nat_lit 15), Value.bool true, Value.int 181 (nat_lit 0), Value.ref (nat_lit 16), Value.none, Value.ref (nat_lit 17), Value.ref (nat_lit 18), Value.ref (nat_lit 19), Value.int 191 (nat_lit 0), Value.int 1 (nat_lit 0), Value.str (Str.ofString "/claim/cut.py") (nat_lit 192)]) #[]) ::
  (nat_lit 21, Obj.mk (Value.type "function") none (Data.func (FuncData.mk (Str.ofString "_wall") (Str.ofString "_wall") lP0 (FuncBody.stmts lB0) lS0 3 [] Value.none Value.none Value.none (Value.str (Str.ofString "__main__") (nat_lit 164)) none (Value.ref (nat_lit 20)) Value.none 0)) #[]) ::
  (nat_lit 22, Obj.mk (Value.type "tuple") none (Data.seq #[Value.type "bytes", Value.type "bytearray"]) #[]) ::
  (nat_lit 23, Obj.mk (Value.type "tuple") none (Data.seq #[]) #[]) ::
  (nat_lit 25, Obj.mk (Value.type "tuple") none (Data.seq #[Value.str (Str.ofString "s") (nat_lit 200)]) #[]) ::
  (nat_lit 26, Obj.mk (Value.type "tuple") none (Data.seq #[]) #[]) ::
  (nat_lit 28, Obj.mk (Value.type "code") none (Data.fields #[Value.str (Str.ofString "_bytes_from_decode_data") (nat_lit 197), Value.str (Str.ofString "_bytes_from_decode_data") (nat_lit 198), Value.str (Str.ofString "/claim/cut.py") (nat_lit 199), Value.int 6 (nat_lit 0), Value.int 1 (nat_lit 0), Value.int 0 (nat_lit 0), Value.int 0 (nat_lit 0), Value.int 3 (nat_lit 0), Value.ref (nat_lit 23), Value.bool true, Value.int 181 (nat_lit 0), Value.ref (nat_lit 24), Value.none, Value.ref (nat_lit 25), Value.ref (nat_lit 26), Value.ref (nat_lit 27), Value.int 201 (nat_lit 0), Value.int 6 (nat_lit 0), Value.str (Str.ofString "/claim/cut.py") (nat_lit 202)]) #[]) ::
  (nat_lit 29, Obj.mk (Value.type "function") none (Data.func (FuncData.mk (Str.ofString "_bytes_from_decode_data") (Str.ofString "_bytes_from_decode_data") lP3 (FuncBody.stmts lB3) lS3 3 [] Value.none Value.none Value.none (Value.str (Str.ofString "cpy313.base64") (nat_lit 194)) none (Value.ref (nat_lit 28)) Value.none 0)) #[]) ::
  (nat_lit 30, Obj.mk (Value.type "tuple") none (Data.seq #[Value.type "ValueError"]) #[]) ::
  (nat_lit 37, Obj.mk (Value.type "tuple") none (Data.seq #[]) #[]) ::
  (nat_lit 38, Obj.mk (Value.type "dict") none (Data.dict #[DictEntry.mk (PyData.keyHash P (Str.ofString "__module__")) (Value.str (Str.ofString "__module__") (nat_lit 213)) (Value.str (Str.ofString "binascii") (nat_lit 204)), DictEntry.mk (PyData.keyHash P (Str.ofString "__firstlineno__")) (Value.str (Str.ofString "__firstlineno__") (nat_lit 217)) (Value.int 19 (nat_lit 216)), DictEntry.mk (PyData.keyHash P (Str.ofString "__static_attributes__")) (Value.str (Str.ofString "__static_attributes__") (nat_lit 218)) (Value.ref (nat_lit 37)), DictEntry.mk (PyData.keyHash P (Str.ofString "__weakref__")) (Value.str (Str.ofString "__weakref__") (nat_lit 220)) (Value.ref (nat_lit 40)), DictEntry.mk (PyData.keyHash P (Str.ofString "__doc__")) (Value.str (Str.ofString "__doc__") (nat_lit 221)) Value.none] 3) #[]) ::
  (nat_lit 39, Obj.mk (Value.type "type") none (Data.cls (ClassData.mk (Str.ofString "Error") [Value.type "ValueError"] [Value.ref (nat_lit 39), Value.type "ValueError", Value.type "Exception", Value.type "BaseException", Value.type "object"] 38 (Str.ofString "Error") true [] [] false none false)) #[some (Value.ref (nat_lit 30)), none, some (Value.str (Str.ofString "Error") (nat_lit 206)), some (Value.str (Str.ofString "Error") (nat_lit 214)), some (Value.builtin "ValueError.__new__"), some (Value.bool true)]) ::
  (nat_lit 40, Obj.mk (Value.type "getset_descriptor") none (Data.fields #[Value.str (Str.ofString "__weakref__") (nat_lit 219), Value.ref (nat_lit 39), Value.builtin "ExceptionGroup.__weakref__", Value.none]) #[]) ::
  (nat_lit 43, Obj.mk (Value.type "tuple") none (Data.seq #[]) #[]) ::
  (nat_lit 45, Obj.mk (Value.type "tuple") none (Data.seq #[Value.str (Str.ofString "data") (nat_lit 227), Value.str (Str.ofString "t") (nat_lit 228)]) #[]) ::
  (nat_lit 46, Obj.mk (Value.type "tuple") none (Data.seq #[]) #[]) ::
  (nat_lit 48, Obj.mk (Value.type "code") none (Data.fields #[Value.str (Str.ofString "_ascii_buffer") (nat_lit 224), Value.str (Str.ofString "_ascii_buffer") (nat_lit 225), Value.str (Str.ofString "/claim/cut.py") (nat_lit 226), Value.int 21 (nat_lit 0), Value.int 1 (nat_lit 0), Value.int 0 (nat_lit 0), Value.int 0 (nat_lit 0), Value.int 3 (nat_lit 0), Value.ref (nat_lit 43), Value.bool true, Value.int 181 (nat_lit 0), Value.ref (nat_lit 44), Value.none, Value.ref (nat_lit 45), Value.ref (nat_lit 46), Value.ref (nat_lit 47), Value.int 229 (nat_lit 0), Value.int 21 (nat_lit 0), Value.str (Str.ofString "/claim/cut.py") (nat_lit 230)]) #[]) ::
  (nat_lit 49, Obj.mk (Value.type "function") none (Data.func (FuncData.mk (Str.ofString "_ascii_buffer") (Str.ofString "_ascii_buffer") lP6 (FuncBody.stmts lB6) lS6 3 [] Value.none Value.none Value.none (Value.str (Str.ofString "binascii") (nat_lit 204)) none (Value.ref (nat_lit 48)) Value.none 0)) #[]) ::
  (nat_lit 50, Obj.mk (Value.type "tuple") none (Data.seq #[]) #[]) ::
  (nat_lit 52, Obj.mk (Value.type "tuple") none (Data.seq #[Value.str (Str.ofString "x") (nat_lit 235), Value.str (Str.ofString "t") (nat_lit 236)]) #[]) ::
  (nat_lit 53, Obj.mk (Value.type "tuple") none (Data.seq #[]) #[]) ::
  (nat_lit 55, Obj.mk (Value.type "code") none (Data.fields #[Value.str (Str.ofString "_truth") (nat_lit 232), Value.str (Str.ofString "_truth") (nat_lit 233), Value.str (Str.ofString "/claim/cut.py") (nat_lit 234), Value.int 32 (nat_lit 0), Value.int 1 (nat_lit 0), Value.int 0 (nat_lit 0), Value.int 0 (nat_lit 0), Value.int 3 (nat_lit 0), Value.ref (nat_lit 50), Value.bool true, Value.int 181 (nat_lit 0), Value.ref (nat_lit 51), Value.none, Value.ref (nat_lit 52), Value.ref (nat_lit 53), Value.ref (nat_lit 54), Value.int 237 (nat_lit 0), Value.int 32 (nat_lit 0), Value.str (Str.ofString "/claim/cut.py") (nat_lit 238)]) #[]) ::
  (nat_lit 56, Obj.mk (Value.type "function") none (Data.func (FuncData.mk (Str.ofString "_truth") (Str.ofString "_truth") lP7 (FuncBody.stmts lB7) lS7 3 [] Value.none Value.none Value.none (Value.str (Str.ofString "binascii") (nat_lit 204)) none (Value.ref (nat_lit 55)) Value.none 0)) #[]) ::
  (nat_lit 57, Obj.mk (Value.type "tuple") none (Data.seq #[]) #[]) ::
  (nat_lit 59, Obj.mk (Value.type "tuple") none (Data.seq #[Value.str (Str.ofString "c") (nat_lit 243)]) #[]) ::
  (nat_lit 60, Obj.mk (Value.type "tuple") none (Data.seq #[]) #[]) ::
  (nat_lit 62, Obj.mk (Value.type "code") none (Data.fields #[Value.str (Str.ofString "_b64_value") (nat_lit 240), Value.str (Str.ofString "_b64_value") (nat_lit 241), Value.str (Str.ofString "/claim/cut.py") (nat_lit 242), Value.int 37 (nat_lit 0), Value.int 1 (nat_lit 0), Value.int 0 (nat_lit 0), Value.int 0 (nat_lit 0), Value.int 3 (nat_lit 0), Value.ref (nat_lit 57), Value.bool true, Value.int 181 (nat_lit 0), Value.ref (nat_lit 58), Value.none, Value.ref (nat_lit 59), Value.ref (nat_lit 60), Value.ref (nat_lit 61), Value.int 244 (nat_lit 0), Value.int 37 (nat_lit 0), Value.str (Str.ofString "/claim/cut.py") (nat_lit 245)]) #[]) ::
  (nat_lit 63, Obj.mk (Value.type "function") none (Data.func (FuncData.mk (Str.ofString "_b64_value") (Str.ofString "_b64_value") lP8 (FuncBody.stmts lB8) lS8 3 [] Value.none Value.none Value.none (Value.str (Str.ofString "binascii") (nat_lit 204)) none (Value.ref (nat_lit 62)) Value.none 0)) #[]) ::
  (nat_lit 64, Obj.mk (Value.type "dict") none (Data.dict #[DictEntry.mk (PyData.keyHash P (Str.ofString "strict_mode")) (Value.str (Str.ofString "strict_mode") (nat_lit 247)) (Value.bool false)] 1) #[]) ::
  (nat_lit 65, Obj.mk (Value.type "tuple") none (Data.seq #[]) #[]) ::
  (nat_lit 67, Obj.mk (Value.type "tuple") none (Data.seq #[Value.str (Str.ofString "data") (nat_lit 251), Value.str (Str.ofString "strict_mode") (nat_lit 252), Value.str (Str.ofString "ascii_data") (nat_lit 253), Value.str (Str.ofString "out") (nat_lit 254), Value.str (Str.ofString "quad_pos") (nat_lit 255), Value.str (Str.ofString "leftchar") (nat_lit 256), Value.str (Str.ofString "pads") (nat_lit 257), Value.str (Str.ofString "i") (nat_lit 258), Value.str (Str.ofString "this_ch") (nat_lit 259)]) #[]) ::
  (nat_lit 68, Obj.mk (Value.type "tuple") none (Data.seq #[]) #[]) ::
  (nat_lit 70, Obj.mk (Value.type "code") none (Data.fields #[Value.str (Str.ofString "a2b_base64") (nat_lit 248), Value.str (Str.ofString "a2b_base64") (nat_lit 249), Value.str (Str.ofString "/claim/cut.py") (nat_lit 250), Value.int 49 (nat_lit 0), Value.int 1 (nat_lit 0), Value.int 1 (nat_lit 0), Value.int 1 (nat_lit 0), Value.int 3 (nat_lit 0), Value.ref (nat_lit 65), Value.bool true, Value.int 181 (nat_lit 0), Value.ref (nat_lit 66), Value.none, Value.ref (nat_lit 67), Value.ref (nat_lit 68), Value.ref (nat_lit 69), Value.int 260 (nat_lit 0), Value.int 49 (nat_lit 0), Value.str (Str.ofString "/claim/cut.py") (nat_lit 261)]) #[]) ::
  (nat_lit 71, Obj.mk (Value.type "function") none (Data.func (FuncData.mk (Str.ofString "a2b_base64") (Str.ofString "a2b_base64") lP9 (FuncBody.stmts lB9) lS9 3 [] Value.none (Value.ref (nat_lit 64)) Value.none (Value.str (Str.ofString "binascii") (nat_lit 204)) none (Value.ref (nat_lit 70)) Value.none 0)) #[]) ::
  (nat_lit 72, Obj.mk (Value.type "tuple") none (Data.seq #[Value.none, Value.bool false]) #[]) ::
  (nat_lit 73, Obj.mk (Value.type "tuple") none (Data.seq #[]) #[]) ::
  (nat_lit 75, Obj.mk (Value.type "tuple") none (Data.seq #[Value.str (Str.ofString "s") (nat_lit 268), Value.str (Str.ofString "altchars") (nat_lit 269), Value.str (Str.ofString "validate") (nat_lit 270)]) #[]) ::
  (nat_lit 76, Obj.mk (Value.type "tuple") none (Data.seq #[]) #[]) ::
  (nat_lit 78, Obj.mk (Value.type "code") none (Data.fields #[Value.str (Str.ofString "b64decode") (nat_lit 265), Value.str (Str.ofString "b64decode") (nat_lit 266), Value.str (Str.ofString "/claim/cut.py") (nat_lit 267), Value.int 104 (nat_lit 0), Value.int 3 (nat_lit 0), Value.int 0 (nat_lit 0), Value.int 0 (nat_lit 0), Value.int 3 (nat_lit 0), Value.ref (nat_lit 73), Value.bool true, Value.int 181 (nat_lit 0), Value.ref (nat_lit 74), Value.none, Value.ref (nat_lit 75), Value.ref (nat_lit 76), Value.ref (nat_lit 77), Value.int 271 (nat_lit 0), Value.int 104 (nat_lit 0), Value.str (Str.ofString "/claim/cut.py") (nat_lit 272)]) #[]) ::
  (nat_lit 79, Obj.mk (Value.type "function") none (Data.func (FuncData.mk (Str.ofString "b64decode") (Str.ofString "b64decode") lP11 (FuncBody.stmts lB11) lS11 3 [] (Value.ref (nat_lit 72)) Value.none Value.none (Value.str (Str.ofString "cpy313.base64") (nat_lit 263)) none (Value.ref (nat_lit 78)) Value.none 0)) #[]) ::
  (nat_lit 80, Obj.mk (Value.type "tuple") none (Data.seq #[]) #[]) ::
  (nat_lit 82, Obj.mk (Value.type "tuple") none (Data.seq #[Value.str (Str.ofString "heap") (nat_lit 279), Value.str (Str.ofString "item") (nat_lit 280), Value.str (Str.ofString "returnitem") (nat_lit 281)]) #[]) ::
  (nat_lit 83, Obj.mk (Value.type "tuple") none (Data.seq #[]) #[]) ::
  (nat_lit 85, Obj.mk (Value.type "code") none (Data.fields #[Value.str (Str.ofString "heapreplace") (nat_lit 276), Value.str (Str.ofString "heapreplace") (nat_lit 277), Value.str (Str.ofString "/claim/cut.py") (nat_lit 278), Value.int 112 (nat_lit 0), Value.int 2 (nat_lit 0), Value.int 0 (nat_lit 0), Value.int 0 (nat_lit 0), Value.int 3 (nat_lit 0), Value.ref (nat_lit 80), Value.bool true, Value.int 181 (nat_lit 0), Value.ref (nat_lit 81), Value.none, Value.ref (nat_lit 82), Value.ref (nat_lit 83), Value.ref (nat_lit 84), Value.int 282 (nat_lit 0), Value.int 112 (nat_lit 0), Value.str (Str.ofString "/claim/cut.py") (nat_lit 283)]) #[]) ::
  (nat_lit 86, Obj.mk (Value.type "function") none (Data.func (FuncData.mk (Str.ofString "heapreplace") (Str.ofString "heapreplace") lP13 (FuncBody.stmts lB13) lS13 3 [] Value.none Value.none Value.none (Value.str (Str.ofString "cpy313.heapq") (nat_lit 274)) none (Value.ref (nat_lit 85)) Value.none 0)) #[]) ::
  (nat_lit 87, Obj.mk (Value.type "tuple") none (Data.seq #[]) #[]) ::
  (nat_lit 89, Obj.mk (Value.type "tuple") none (Data.seq #[Value.str (Str.ofString "x") (nat_lit 288), Value.str (Str.ofString "n") (nat_lit 289), Value.str (Str.ofString "i") (nat_lit 290)]) #[]) ::
  (nat_lit 90, Obj.mk (Value.type "tuple") none (Data.seq #[]) #[]) ::
  (nat_lit 92, Obj.mk (Value.type "code") none (Data.fields #[Value.str (Str.ofString "heapify") (nat_lit 285), Value.str (Str.ofString "heapify") (nat_lit 286), Value.str (Str.ofString "/claim/cut.py") (nat_lit 287), Value.int 117 (nat_lit 0), Value.int 1 (nat_lit 0), Value.int 0 (nat_lit 0), Value.int 0 (nat_lit 0), Value.int 3 (nat_lit 0), Value.ref (nat_lit 87), Value.bool true, Value.int 181 (nat_lit 0), Value.ref (nat_lit 88), Value.none, Value.ref (nat_lit 89), Value.ref (nat_lit 90), Value.ref (nat_lit 91), Value.int 291 (nat_lit 0), Value.int 117 (nat_lit 0), Value.str (Str.ofString "/claim/cut.py") (nat_lit 292)]) #[]) ::
  (nat_lit 93, Obj.mk (Value.type "function") none (Data.func (FuncData.mk (Str.ofString "heapify") (Str.ofString "heapify") lP14 (FuncBody.stmts lB14) lS14 3 [] Value.none Value.none Value.none (Value.str (Str.ofString "cpy313.heapq") (nat_lit 274)) none (Value.ref (nat_lit 92)) Value.none 0)) #[]) ::
  (nat_lit 94, Obj.mk (Value.type "tuple") none (Data.seq #[]) #[]) ::
  (nat_lit 96, Obj.mk (Value.type "tuple") none (Data.seq #[Value.str (Str.ofString "heap") (nat_lit 297), Value.str (Str.ofString "item") (nat_lit 298), Value.str (Str.ofString "returnitem") (nat_lit 299)]) #[]) ::
  (nat_lit 97, Obj.mk (Value.type "tuple") none (Data.seq #[]) #[]) ::
  (nat_lit 99, Obj.mk (Value.type "code") none (Data.fields #[Value.str (Str.ofString "_heapreplace_max") (nat_lit 294), Value.str (Str.ofString "_heapreplace_max") (nat_lit 295), Value.str (Str.ofString "/claim/cut.py") (nat_lit 296), Value.int 121 (nat_lit 0), Value.int 2 (nat_lit 0), Value.int 0 (nat_lit 0), Value.int 0 (nat_lit 0), Value.int 3 (nat_lit 0), Value.ref (nat_lit 94), Value.bool true, Value.int 181 (nat_lit 0), Value.ref (nat_lit 95), Value.none, Value.ref (nat_lit 96), Value.ref (nat_lit 97), Value.ref (nat_lit 98), Value.int 300 (nat_lit 0), Value.int 121 (nat_lit 0), Value.str (Str.ofString "/claim/cut.py") (nat_lit 301)]) #[]) ::
  (nat_lit 100, Obj.mk (Value.type "function") none (Data.func (FuncData.mk (Str.ofString "_heapreplace_max") (Str.ofString "_heapreplace_max") lP15 (FuncBody.stmts lB15) lS15 3 [] Value.none Value.none Value.none (Value.str (Str.ofString "cpy313.heapq") (nat_lit 274)) none (Value.ref (nat_lit 99)) Value.none 0)) #[]) ::
  (nat_lit 101, Obj.mk (Value.type "tuple") none (Data.seq #[]) #[]) ::
  (nat_lit 103, Obj.mk (Value.type "tuple") none (Data.seq #[Value.str (Str.ofString "x") (nat_lit 306), Value.str (Str.ofString "n") (nat_lit 307), Value.str (Str.ofString "i") (nat_lit 308)]) #[]) ::
  (nat_lit 104, Obj.mk (Value.type "tuple") none (Data.seq #[]) #[]) ::
  (nat_lit 106, Obj.mk (Value.type "code") none (Data.fields #[Value.str (Str.ofString "_heapify_max") (nat_lit 303), Value.str (Str.ofString "_heapify_max") (nat_lit 304), Value.str (Str.ofString "/claim/cut.py") (nat_lit 305), Value.int 126 (nat_lit 0), Value.int 1 (nat_lit 0), Value.int 0 (nat_lit 0), Value.int 0 (nat_lit 0), Value.int 3 (nat_lit 0), Value.ref (nat_lit 101), Value.bool true, Value.int 181 (nat_lit 0), Value.ref (nat_lit 102), Value.none, Value.ref (nat_lit 103), Value.ref (nat_lit 104), Value.ref (nat_lit 105), Value.int 309 (nat_lit 0), Value.int 126 (nat_lit 0), Value.str (Str.ofString "/claim/cut.py") (nat_lit 310)]) #[]) ::
  (nat_lit 107, Obj.mk (Value.type "function") none (Data.func (FuncData.mk (Str.ofString "_heapify_max") (Str.ofString "_heapify_max") lP16 (FuncBody.stmts lB16) lS16 3 [] Value.none Value.none Value.none (Value.str (Str.ofString "cpy313.heapq") (nat_lit 274)) none (Value.ref (nat_lit 106)) Value.none 0)) #[]) ::
  (nat_lit 108, Obj.mk (Value.type "tuple") none (Data.seq #[]) #[]) ::
  (nat_lit 110, Obj.mk (Value.type "tuple") none (Data.seq #[Value.str (Str.ofString "heap") (nat_lit 315), Value.str (Str.ofString "startpos") (nat_lit 316), Value.str (Str.ofString "pos") (nat_lit 317), Value.str (Str.ofString "newitem") (nat_lit 318), Value.str (Str.ofString "parentpos") (nat_lit 319), Value.str (Str.ofString "parent") (nat_lit 320)]) #[]) ::
  (nat_lit 111, Obj.mk (Value.type "tuple") none (Data.seq #[]) #[]) ::
  (nat_lit 113, Obj.mk (Value.type "code") none (Data.fields #[Value.str (Str.ofString "_siftdown") (nat_lit 312), Value.str (Str.ofString "_siftdown") (nat_lit 313), Value.str (Str.ofString "/claim/cut.py") (nat_lit 314), Value.int 130 (nat_lit 0), Value.int 3 (nat_lit 0), Value.int 0 (nat_lit 0), Value.int 0 (nat_lit 0), Value.int 3 (nat_lit 0), Value.ref (nat_lit 108), Value.bool true, Value.int 181 (nat_lit 0), Value.ref (nat_lit 109), Value.none, Value.ref (nat_lit 110), Value.ref (nat_lit 111), Value.ref (nat_lit 112), Value.int 321 (nat_lit 0), Value.int 130 (nat_lit 0), Value.str (Str.ofString "/claim/cut.py") (nat_lit 322)]) #[]) ::
  (nat_lit 114, Obj.mk (Value.type "function") none (Data.func (FuncData.mk (Str.ofString "_siftdown") (Str.ofString "_siftdown") lP17 (FuncBody.stmts lB17) lS17 3 [] Value.none Value.none Value.none (Value.str (Str.ofString "cpy313.heapq") (nat_lit 274)) none (Value.ref (nat_lit 113)) Value.none 0)) #[]) ::
  (nat_lit 115, Obj.mk (Value.type "tuple") none (Data.seq #[]) #[]) ::
  (nat_lit 117, Obj.mk (Value.type "tuple") none (Data.seq #[Value.str (Str.ofString "heap") (nat_lit 327), Value.str (Str.ofString "pos") (nat_lit 328), Value.str (Str.ofString "endpos") (nat_lit 329), Value.str (Str.ofString "startpos") (nat_lit 330), Value.str (Str.ofString "newitem") (nat_lit 331), Value.str (Str.ofString "childpos") (nat_lit 332), Value.str (Str.ofString "rightpos") (nat_lit 333)]) #[]) ::
  (nat_lit 118, Obj.mk (Value.type "tuple") none (Data.seq #[]) #[]) ::
  (nat_lit 120, Obj.mk (Value.type "code") none (Data.fields #[Value.str (Str.ofString "_siftup") (nat_lit 324), Value.str (Str.ofString "_siftup") (nat_lit 325), Value.str (Str.ofString "/claim/cut.py") (nat_lit 326), Value.int 141 (nat_lit 0), Value.int 2 (nat_lit 0), Value.int 0 (nat_lit 0), Value.int 0 (nat_lit 0), Value.int 3 (nat_lit 0), Value.ref (nat_lit 115), Value.bool true, Value.int 181 (nat_lit 0), Value.ref (nat_lit 116), Value.none, Value.ref (nat_lit 117), Value.ref (nat_lit 118), Value.ref (nat_lit 119), Value.int 334 (nat_lit 0), Value.int 141 (nat_lit 0), Value.str (Str.ofString "/claim/cut.py") (nat_lit 335)]) #[]) ::
  (nat_lit 121, Obj.mk (Value.type "function") none (Data.func (FuncData.mk (Str.ofString "_siftup") (Str.ofString "_siftup") lP18 (FuncBody.stmts lB18) lS18 3 [] Value.none Value.none Value.none (Value.str (Str.ofString "cpy313.heapq") (nat_lit 274)) none (Value.ref (nat_lit 120)) Value.none 0)) #[]) ::
  (nat_lit 122, Obj.mk (Value.type "tuple") none (Data.seq #[]) #[]) ::
  (nat_lit 124, Obj.mk (Value.type "tuple") none (Data.seq #[Value.str (Str.ofString "heap") (nat_lit 340), Value.str (Str.ofString "startpos") (nat_lit 341), Value.str (Str.ofString "pos") (nat_lit 342), Value.str (Str.ofString "newitem") (nat_lit 343), Value.str (Str.ofString "parentpos") (nat_lit 344), Value.str (Str.ofString "parent") (nat_lit 345)]) #[]) ::
  (nat_lit 125, Obj.mk (Value.type "tuple") none (Data.seq #[]) #[]) ::
  (nat_lit 127, Obj.mk (Value.type "code") none (Data.fields #[Value.str (Str.ofString "_siftdown_max") (nat_lit 337), Value.str (Str.ofString "_siftdown_max") (nat_lit 338), Value.str (Str.ofString "/claim/cut.py") (nat_lit 339), Value.int 155 (nat_lit 0), Value.int 3 (nat_lit 0), Value.int 0 (nat_lit 0), Value.int 0 (nat_lit 0), Value.int 3 (nat_lit 0), Value.ref (nat_lit 122), Value.bool true, Value.int 181 (nat_lit 0), Value.ref (nat_lit 123), Value.none, Value.ref (nat_lit 124), Value.ref (nat_lit 125), Value.ref (nat_lit 126), Value.int 346 (nat_lit 0), Value.int 155 (nat_lit 0), Value.str (Str.ofString "/claim/cut.py") (nat_lit 347)]) #[]) ::
  (nat_lit 128, Obj.mk (Value.type "function") none (Data.func (FuncData.mk (Str.ofString "_siftdown_max") (Str.ofString "_siftdown_max") lP19 (FuncBody.stmts lB19) lS19 3 [] Value.none Value.none Value.none (Value.str (Str.ofString "cpy313.heapq") (nat_lit 274)) none (Value.ref (nat_lit 127)) Value.none 0)) #[]) ::
  (nat_lit 129, Obj.mk (Value.type "tuple") none (Data.seq #[]) #[]) ::
  (nat_lit 131, Obj.mk (Value.type "tuple") none (Data.seq #[Value.str (Str.ofString "heap") (nat_lit 352), Value.str (Str.ofString "pos") (nat_lit 353), Value.str (Str.ofString "endpos") (nat_lit 354), Value.str (Str.ofString "startpos") (nat_lit 355), Value.str (Str.ofString "newitem") (nat_lit 356), Value.str (Str.ofString "childpos") (nat_lit 357), Value.str (Str.ofString "rightpos") (nat_lit 358)]) #[]) ::
  (nat_lit 132, Obj.mk (Value.type "tuple") none (Data.seq #[]) #[]) ::
  (nat_lit 134, Obj.mk (Value.type "code") none (Data.fields #[Value.str (Str.ofString "_siftup_max") (nat_lit 349), Value.str (Str.ofString "_siftup_max") (nat_lit 350), Value.str (Str.ofString "/claim/cut.py") (nat_lit 351), Value.int 166 (nat_lit 0), Value.int 2 (nat_lit 0), Value.int 0 (nat_lit 0), Value.int 0 (nat_lit 0), Value.int 3 (nat_lit 0), Value.ref (nat_lit 129), Value.bool true, Value.int 181 (nat_lit 0), Value.ref (nat_lit 130), Value.none, Value.ref (nat_lit 131), Value.ref (nat_lit 132), Value.ref (nat_lit 133), Value.int 359 (nat_lit 0), Value.int 166 (nat_lit 0), Value.str (Str.ofString "/claim/cut.py") (nat_lit 360)]) #[]) ::
  (nat_lit 135, Obj.mk (Value.type "function") none (Data.func (FuncData.mk (Str.ofString "_siftup_max") (Str.ofString "_siftup_max") lP20 (FuncBody.stmts lB20) lS20 3 [] Value.none Value.none Value.none (Value.str (Str.ofString "cpy313.heapq") (nat_lit 274)) none (Value.ref (nat_lit 134)) Value.none 0)) #[]) ::
  (nat_lit 136, Obj.mk (Value.type "tuple") none (Data.seq #[Value.none]) #[]) ::
  (nat_lit 137, Obj.mk (Value.type "tuple") none (Data.seq #[]) #[]) ::
  (nat_lit 140, Obj.mk (Value.type "code") none (Data.fields #[Value.str (Str.ofString "nsmallest") (nat_lit 362), Value.str (Str.ofString "nsmallest") (nat_lit 363), Value.str (Str.ofString "/claim/cut.py") (nat_lit 364), Value.int 180 (nat_lit 0), Value.int 3 (nat_lit 0), Value.int 0 (nat_lit 0), Value.int 0 (nat_lit 0), Value.int 3 (nat_lit 0), Value.ref (nat_lit 137), Value.bool true, Value.int 181 (nat_lit 0), Value.ref (nat_lit 138), Value.none, Value.none, Value.none, Value.ref (nat_lit 139), Value.int 365 (nat_lit 0), Value.int 180 (nat_lit 0), Value.str (Str.ofString "/claim/cut.py") (nat_lit 366)]) #[]) ::
  (nat_lit 141, Obj.mk (Value.type "function") none (Data.func (FuncData.mk (Str.ofString "nsmallest") (Str.ofString "nsmallest") lP21 (FuncBody.stmts lB21) lS21 3 [] (Value.ref (nat_lit 136)) Value.none Value.none (Value.str (Str.ofString "cpy313.heapq") (nat_lit 274)) none (Value.ref (nat_lit 140)) Value.none 0)) #[]) ::
  (nat_lit 142, Obj.mk (Value.type "tuple") none (Data.seq #[Value.none]) #[]) ::
  (nat_lit 143, Obj.mk (Value.type "tuple") none (Data.seq #[]) #[]) ::
  (nat_lit 146, Obj.mk (Value.type "code") none (Data.fields #[Value.str (Str.ofString "nlargest") (nat_lit 368), Value.str (Str.ofString "nlargest") (nat_lit 369), Value.str (Str.ofString "/claim/cut.py") (nat_lit 370), Value.int 225 (nat_lit 0), Value.int 3 (nat_lit 0), Value.int 0 (nat_lit 0), Value.int 0 (nat_lit 0), Value.int 3 (nat_lit 0), Value.ref (nat_lit 143), Value.bool true, Value.int 181 (nat_lit 0), Value.ref (nat_lit 144), Value.none, Value.none, Value.none, Value.ref (nat_lit 145), Value.int 371 (nat_lit 0), Value.int 225 (nat_lit 0), Value.str (Str.ofString "/claim/cut.py") (nat_lit 372)]) #[]) ::
  (nat_lit 147, Obj.mk (Value.type "function") none (Data.func (FuncData.mk (Str.ofString "nlargest") (Str.ofString "nlargest") lP22 (FuncBody.stmts lB22) lS22 3 [] (Value.ref (nat_lit 142)) Value.none Value.none (Value.str (Str.ofString "cpy313.heapq") (nat_lit 274)) none (Value.ref (nat_lit 146)) Value.none 0)) #[]) ::
  (nat_lit 148, Obj.mk (Value.type "tuple") none (Data.seq #[]) #[]) ::
  (nat_lit 150, Obj.mk (Value.type "tuple") none (Data.seq #[Value.str (Str.ofString "mode") (nat_lit 379)]) #[]) ::
  (nat_lit 151, Obj.mk (Value.type "tuple") none (Data.seq #[]) #[]) ::
  (nat_lit 153, Obj.mk (Value.type "code") none (Data.fields #[Value.str (Str.ofString "S_IFMT") (nat_lit 376), Value.str (Str.ofString "S_IFMT") (nat_lit 377), Value.str (Str.ofString "/claim/cut.py") (nat_lit 378), Value.int 271 (nat_lit 0), Value.int 1 (nat_lit 0), Value.int 0 (nat_lit 0), Value.int 0 (nat_lit 0), Value.int 3 (nat_lit 0), Value.ref (nat_lit 148), Value.bool true, Value.int 181 (nat_lit 0), Value.ref (nat_lit 149), Value.none, Value.ref (nat_lit 150), Value.ref (nat_lit 151), Value.ref (nat_lit 152), Value.int 380 (nat_lit 0), Value.int 271 (nat_lit 0), Value.str (Str.ofString "/claim/cut.py") (nat_lit 381)]) #[]) ::
  (nat_lit 154, Obj.mk (Value.type "function") none (Data.func (FuncData.mk (Str.ofString "S_IFMT") (Str.ofString "S_IFMT") lP24 (FuncBody.stmts lB24) lS24 3 [] Value.none Value.none Value.none (Value.str (Str.ofString "cpy313.stat") (nat_lit 374)) none (Value.ref (nat_lit 153)) Value.none 0)) #[]) ::
  (nat_lit 155, Obj.mk (Value.type "tuple") none (Data.seq #[Value.int 40960 (nat_lit 393), Value.str (Str.ofString "l") (nat_lit 421)]) #[]) ::
  (nat_lit 156, Obj.mk (Value.type "tuple") none (Data.seq #[Value.int 49152 (nat_lit 395), Value.str (Str.ofString "s") (nat_lit 422)]) #[]) ::
  (nat_lit 157, Obj.mk (Value.type "tuple") none (Data.seq #[Value.int 32768 (nat_lit 389), Value.str (Str.ofString "-") (nat_lit 423)]) #[]) ::
  (nat_lit 158, Obj.mk (Value.type "tuple") none (Data.seq #[Value.int 24576 (nat_lit 387), Value.str (Str.ofString "b") (nat_lit 424)]) #[]) ::
  (nat_lit 159, Obj.mk (Value.type "tuple") none (Data.seq #[Value.int 16384 (nat_lit 383), Value.str (Str.ofString "d") (nat_lit 425)]) #[]) ::
  (nat_lit 160, Obj.mk (Value.type "tuple") none (Data.seq #[Value.int 8192 (nat_lit 385), Value.str (Str.ofString "c") (nat_lit 426)]) #[]) ::
  (nat_lit 161, Obj.mk (Value.type "tuple") none (Data.seq #[Value.int 4096 (nat_lit 391), Value.str (Str.ofString "p") (nat_lit 427)]) #[]) ::
  (nat_lit 162, Obj.mk (Value.type "tuple") none (Data.seq #[Value.ref (nat_lit 155), Value.ref (nat_lit 156), Value.ref (nat_lit 157), Value.ref (nat_lit 158), Value.ref (nat_lit 159), Value.ref (nat_lit 160), Value.ref (nat_lit 161)]) #[]) ::
  (nat_lit 163, Obj.mk (Value.type "tuple") none (Data.seq #[Value.int 256 (nat_lit 403), Value.str (Str.ofString "r") (nat_lit 428)]) #[]) ::
  (nat_lit 164, Obj.mk (Value.type "tuple") none (Data.seq #[Value.ref (nat_lit 163)]) #[]) ::
  (nat_lit 165, Obj.mk (Value.type "tuple") none (Data.seq #[Value.int 128 (nat_lit 405), Value.str (Str.ofString "w") (nat_lit 429)]) #[]) ::
  (nat_lit 166, Obj.mk (Value.type "tuple") none (Data.seq #[Value.ref (nat_lit 165)]) #[]) ::
  (nat_lit 167, Obj.mk (Value.type "tuple") none (Data.seq #[Value.int 2112 (nat_lit 430), Value.str (Str.ofString "s") (nat_lit 431)]) #[]) ::
  (nat_lit 168, Obj.mk (Value.type "tuple") none (Data.seq #[Value.int 2048 (nat_lit 397), Value.str (Str.ofString "S") (nat_lit 432)]) #[]) ::
  (nat_lit 169, Obj.mk (Value.type "tuple") none (Data.seq #[Value.int 64 (nat_lit 407), Value.str (Str.ofString "x") (nat_lit 433)]) #[]) ::
  (nat_lit 170, Obj.mk (Value.type "tuple") none (Data.seq #[Value.ref (nat_lit 167), Value.ref (nat_lit 168), Value.ref (nat_lit 169)]) #[]) ::
  (nat_lit 171, Obj.mk (Value.type "tuple") none (Data.seq #[Value.int 32 (nat_lit 409), Value.str (Str.ofString "r") (nat_lit 434)]) #[]) ::
  (nat_lit 172, Obj.mk (Value.type "tuple") none (Data.seq #[Value.ref (nat_lit 171)]) #[]) ::
  (nat_lit 173, Obj.mk (Value.type "tuple") none (Data.seq #[Value.int 16 (nat_lit 411), Value.str (Str.ofString "w") (nat_lit 435)]) #[]) ::
  (nat_lit 174, Obj.mk (Value.type "tuple") none (Data.seq #[Value.ref (nat_lit 173)]) #[]) ::
  (nat_lit 175, Obj.mk (Value.type "tuple") none (Data.seq #[Value.int 1032 (nat_lit 436), Value.str (Str.ofString "s") (nat_lit 437)]) #[]) ::
  (nat_lit 176, Obj.mk (Value.type "tuple") none (Data.seq #[Value.int 1024 (nat_lit 399), Value.str (Str.ofString "S") (nat_lit 438)]) #[]) ::
  (nat_lit 177, Obj.mk (Value.type "tuple") none (Data.seq #[Value.int 8 (nat_lit 413), Value.str (Str.ofString "x") (nat_lit 439)]) #[]) ::
  (nat_lit 178, Obj.mk (Value.type "tuple") none (Data.seq #[Value.ref (nat_lit 175), Value.ref (nat_lit 176), Value.ref (nat_lit 177)]) #[]) ::
  (nat_lit 179, Obj.mk (Value.type "tuple") none (Data.seq #[Value.int 4 (nat_lit 415), Value.str (Str.ofString "r") (nat_lit 440)]) #[]) ::
  (nat_lit 180, Obj.mk (Value.type "tuple") none (Data.seq #[Value.ref (nat_lit 179)]) #[]) ::
  (nat_lit 181, Obj.mk (Value.type "tuple") none (Data.seq #[Value.int 2 (nat_lit 417), Value.str (Str.ofString "w") (nat_lit 441)]) #[]) ::
  (nat_lit 182, Obj.mk (Value.type "tuple") none (Data.seq #[Value.ref (nat_lit 181)]) #[]) ::
  (nat_lit 183, Obj.mk (Value.type "tuple") none (Data.seq #[Value.int 513 (nat_lit 442), Value.str (Str.ofString "t") (nat_lit 443)]) #[]) ::
  (nat_lit 184, Obj.mk (Value.type "tuple") none (Data.seq #[Value.int 512 (nat_lit 401), Value.str (Str.ofString "T") (nat_lit 444)]) #[]) ::
  (nat_lit 185, Obj.mk (Value.type "tuple") none (Data.seq #[Value.int 1 (nat_lit 419), Value.str (Str.ofString "x") (nat_lit 445)]) #[]) ::
  (nat_lit 186, Obj.mk (Value.type "tuple") none (Data.seq #[Value.ref (nat_lit 183), Value.ref (nat_lit 184), Value.ref (nat_lit 185)]) #[]) ::
  (nat_lit 187, Obj.mk (Value.type "tuple") none (Data.seq #[Value.ref (nat_lit 162), Value.ref (nat_lit 164), Value.ref (nat_lit 166), Value.ref (nat_lit 170), Value.ref (nat_lit 172), Value.ref (nat_lit 174), Value.ref (nat_lit 178), Value.ref (nat_lit 180), Value.ref (nat_lit 182), Value.ref (nat_lit 186)]) #[]) ::
  (nat_lit 188, Obj.mk (Value.type "tuple") none (Data.seq #[]) #[]) ::
  (nat_lit 190, Obj.mk (Value.type "tuple") none (Data.seq #[Value.str (Str.ofString "mode") (nat_lit 450), Value.str (Str.ofString "perm") (nat_lit 451), Value.str (Str.ofString "index") (nat_lit 452), Value.str (Str.ofString "table") (nat_lit 453), Value.str (Str.ofString "bit") (nat_lit 454), Value.str (Str.ofString "char") (nat_lit 455)]) #[]) ::
  (nat_lit 191, Obj.mk (Value.type "tuple") none (Data.seq #[]) #[]) ::
  (nat_lit 193, Obj.mk (Value.type "code") none (Data.fields #[Value.str (Str.ofString "filemode") (nat_lit 447), Value.str (Str.ofString "filemode") (nat_lit 448), Value.str (Str.ofString "/claim/cut.py") (nat_lit 449), Value.int 293 (nat_lit 0), Value.int 1 (nat_lit 0), Value.int 0 (nat_lit 0), Value.int 0 (nat_lit 0), Value.int 3 (nat_lit 0), Value.ref (nat_lit 188), Value.bool true, Value.int 181 (nat_lit 0), Value.ref (nat_lit 189), Value.none, Value.ref (nat_lit 190), Value.ref (nat_lit 191), Value.ref (nat_lit 192), Value.int 456 (nat_lit 0), Value.int 293 (nat_lit 0), Value.str (Str.ofString "/claim/cut.py") (nat_lit 457)]) #[]) ::
  (nat_lit 194, Obj.mk (Value.type "function") none (Data.func (FuncData.mk (Str.ofString "filemode") (Str.ofString "filemode") lP45 (FuncBody.stmts lB45) lS45 3 [] Value.none Value.none Value.none (Value.str (Str.ofString "cpy313.stat") (nat_lit 374)) none (Value.ref (nat_lit 193)) Value.none 0)) #[]) ::
  (nat_lit 195, Obj.mk (Value.type "tuple") none (Data.seq #[]) #[]) ::
  (nat_lit 198, Obj.mk (Value.type "code") none (Data.fields #[Value.str (Str.ofString "_law_word") (nat_lit 461), Value.str (Str.ofString "_law_word") (nat_lit 462), Value.str (Str.ofString "/claim/cut.py") (nat_lit 463), Value.int 311 (nat_lit 0), Value.int 1 (nat_lit 0), Value.int 0 (nat_lit 0), Value.int 0 (nat_lit 0), Value.int 3 (nat_lit 0), Value.ref (nat_lit 195), Value.bool true, Value.int 181 (nat_lit 0), Value.ref (nat_lit 196), Value.none, Value.none, Value.none, Value.ref (nat_lit 197), Value.int 464 (nat_lit 0), Value.int 311 (nat_lit 0), Value.str (Str.ofString "/claim/cut.py") (nat_lit 465)]) #[]) ::
  (nat_lit 199, Obj.mk (Value.type "function") none (Data.func (FuncData.mk (Str.ofString "_law_word") (Str.ofString "_law_word") lP47 (FuncBody.stmts lB47) lS47 3 [] Value.none Value.none Value.none (Value.str (Str.ofString "law_il0040_01") (nat_lit 459)) none (Value.ref (nat_lit 198)) Value.none 0)) #[]) ::
  (nat_lit 200, Obj.mk (Value.type "tuple") none (Data.seq #[]) #[]) ::
  (nat_lit 202, Obj.mk (Value.type "tuple") none (Data.seq #[Value.str (Str.ofString "word") (nat_lit 470), Value.str (Str.ofString "pair") (nat_lit 471), Value.str (Str.ofString "letters") (nat_lit 472), Value.str (Str.ofString "value") (nat_lit 473), Value.str (Str.ofString "sign") (nat_lit 474)]) #[]) ::
  (nat_lit 203, Obj.mk (Value.type "tuple") none (Data.seq #[]) #[]) ::
  (nat_lit 205, Obj.mk (Value.type "code") none (Data.fields #[Value.str (Str.ofString "_law_number") (nat_lit 467), Value.str (Str.ofString "_law_number") (nat_lit 468), Value.str (Str.ofString "/claim/cut.py") (nat_lit 469), Value.int 319 (nat_lit 0), Value.int 2 (nat_lit 0), Value.int 0 (nat_lit 0), Value.int 0 (nat_lit 0), Value.int 3 (nat_lit 0), Value.ref (nat_lit 200), Value.bool true, Value.int 181 (nat_lit 0), Value.ref (nat_lit 201), Value.none, Value.ref (nat_lit 202), Value.ref (nat_lit 203), Value.ref (nat_lit 204), Value.int 475 (nat_lit 0), Value.int 319 (nat_lit 0), Value.str (Str.ofString "/claim/cut.py") (nat_lit 476)]) #[]) ::
  (nat_lit 206, Obj.mk (Value.type "function") none (Data.func (FuncData.mk (Str.ofString "_law_number") (Str.ofString "_law_number") lP48 (FuncBody.stmts lB48) lS48 3 [] Value.none Value.none Value.none (Value.str (Str.ofString "law_il0040_01") (nat_lit 459)) none (Value.ref (nat_lit 205)) Value.none 0)) #[]) ::
  (nat_lit 207, Obj.mk (Value.type "tuple") none (Data.seq #[]) #[]) ::
  (nat_lit 210, Obj.mk (Value.type "code") none (Data.fields #[Value.str (Str.ofString "law") (nat_lit 478), Value.str (Str.ofString "law") (nat_lit 479), Value.str (Str.ofString "/claim/cut.py") (nat_lit 480), Value.int 325 (nat_lit 0), Value.int 1 (nat_lit 0), Value.int 0 (nat_lit 0), Value.int 0 (nat_lit 0), Value.int 3 (nat_lit 0), Value.ref (nat_lit 207), Value.bool true, Value.int 181 (nat_lit 0), Value.ref (nat_lit 208), Value.none, Value.none, Value.none, Value.ref (nat_lit 209), Value.int 481 (nat_lit 0), Value.int 325 (nat_lit 0), Value.str (Str.ofString "/claim/cut.py") (nat_lit 482)]) #[]) ::
  (nat_lit 211, Obj.mk (Value.type "function") none (Data.func (FuncData.mk (Str.ofString "law") (Str.ofString "law") lP49 (FuncBody.stmts lB49) lS49 3 [] Value.none Value.none Value.none (Value.str (Str.ofString "law_il0040_01") (nat_lit 459)) none (Value.ref (nat_lit 210)) Value.none 0)) #[]) :: []) → Params → Frag) _ (by delta lP0 lB0 lS0 lP3 lB3 lS3 lP6 lB6 lS6 lP7 lB7 lS7 lP8 lB8 lS8 lP9 lB9 lS9 lP11 lB11 lS11 lP13 lB13 lS13 lP14 lB14 lS14 lP15 lB15 lS15 lP16 lB16 lS16 lP17 lB17 lS17 lP18 lB18 lS18 lP19 lB19 lS19 lP20 lB20 lS20 lP21 lB21 lS21 lP22 lB22 lS22 lP24 lB24 lS24 lP45 lB45 lS45 lP47 lB47 lS47 lP48 lB48 lS48 lP49 lB49 lS49; exact rfl)
  case f => exact fun x _ => x
noncomputable def V0 : List Stmt := [stAt 0, stAt 2, stAt 3, stAt 5, stAt 6, stAt 7, stAt 8, stAt 13, stAt 14, stAt 15, stAt 16, stAt 17, stAt 18, stAt 19, stAt 20, stAt 24, stAt 25, stAt 26, stAt 27, stAt 28, stAt 29, stAt 30, stAt 31, stAt 32, stAt 33, stAt 34, stAt 35, stAt 36, stAt 37, stAt 38, stAt 39, stAt 40, stAt 41, stAt 42, stAt 43, stAt 44, stAt 45, stAt 47, stAt 48, stAt 49]
noncomputable def view_39 : Program := by
  refine (?f : (x : List Stmt) → x = V0 → Program) _ (by unfold V0; dsimp only [stAt, PySem.Challenge.pw_il0040_01, List.getD, List.getD_cons_succ, List.getD_cons_zero, List.getElem?_cons_succ, List.getElem?_cons_zero, Option.getD_some, Option.getD])
  case f => exact fun x _ => { (OpenRow.toRowW (OpenLaw.row PySem.Challenge.rw_il0040_01)).1 with main := { (OpenRow.toRowW (OpenLaw.row PySem.Challenge.rw_il0040_01)).1.main with body := x } }
end Mine.hd
end
namespace Mine
local macro_rules | `(tactic| walk_at "lia") => `(tactic| first | lia | omega)
section
open PySem PySem.W PyProof.Rows PySem.Calls
inductive Ex2 {α0 α1 : Type} (P : α0 → α1 → Prop) : Prop | mk (x0 : α0) (x1 : α1) (h : P x0 x1) : Ex2 P
inductive Ex3 {α0 α1 α2 : Type} (P : α0 → α1 → α2 → Prop) : Prop | mk (x0 : α0) (x1 : α1) (x2 : α2) (h : P x0 x1 x2) : Ex3 P
inductive Ex4 {α0 α1 α2 α3 : Type} (P : α0 → α1 → α2 → α3 → Prop) : Prop | mk (x0 : α0) (x1 : α1) (x2 : α2) (x3 : α3) (h : P x0 x1 x2 x3) : Ex4 P
inductive Ex5 {α0 α1 α2 α3 α4 : Type} (P : α0 → α1 → α2 → α3 → α4 → Prop) : Prop | mk (x0 : α0) (x1 : α1) (x2 : α2) (x3 : α3) (x4 : α4) (h : P x0 x1 x2 x3 x4) : Ex5 P
inductive Ex6 {α0 α1 α2 α3 α4 α5 : Type} (P : α0 → α1 → α2 → α3 → α4 → α5 → Prop) : Prop | mk (x0 : α0) (x1 : α1) (x2 : α2) (x3 : α3) (x4 : α4) (x5 : α5) (h : P x0 x1 x2 x3 x4 x5) : Ex6 P
inductive Ex8 {α0 α1 α2 α3 α4 α5 α6 α7 : Type} (P : α0 → α1 → α2 → α3 → α4 → α5 → α6 → α7 → Prop) : Prop | mk (x0 : α0) (x1 : α1) (x2 : α2) (x3 : α3) (x4 : α4) (x5 : α5) (x6 : α6) (x7 : α7) (h : P x0 x1 x2 x3 x4 x5 x6 x7) : Ex8 P
inductive Ex9 {α0 α1 α2 α3 α4 α5 α6 α7 α8 : Type} (P : α0 → α1 → α2 → α3 → α4 → α5 → α6 → α7 → α8 → Prop) : Prop | mk (x0 : α0) (x1 : α1) (x2 : α2) (x3 : α3) (x4 : α4) (x5 : α5) (x6 : α6) (x7 : α7) (x8 : α8) (h : P x0 x1 x2 x3 x4 x5 x6 x7 x8) : Ex9 P
inductive And3 (p0 p1 p2 : Prop) : Prop | mk (h0 : p0) (h1 : p1) (h2 : p2) : And3 p0 p1 p2
inductive And4 (p0 p1 p2 p3 : Prop) : Prop | mk (h0 : p0) (h1 : p1) (h2 : p2) (h3 : p3) : And4 p0 p1 p2 p3
inductive And5 (p0 p1 p2 p3 p4 : Prop) : Prop | mk (h0 : p0) (h1 : p1) (h2 : p2) (h3 : p3) (h4 : p4) : And5 p0 p1 p2 p3 p4
inductive And6 (p0 p1 p2 p3 p4 p5 : Prop) : Prop | mk (h0 : p0) (h1 : p1) (h2 : p2) (h3 : p3) (h4 : p4) (h5 : p5) : And6 p0 p1 p2 p3 p4 p5
inductive And7 (p0 p1 p2 p3 p4 p5 p6 : Prop) : Prop | mk (h0 : p0) (h1 : p1) (h2 : p2) (h3 : p3) (h4 : p4) (h5 : p5) (h6 : p6) : And7 p0 p1 p2 p3 p4 p5 p6
inductive And8 (p0 p1 p2 p3 p4 p5 p6 p7 : Prop) : Prop | mk (h0 : p0) (h1 : p1) (h2 : p2) (h3 : p3) (h4 : p4) (h5 : p5) (h6 : p6) (h7 : p7) : And8 p0 p1 p2 p3 p4 p5 p6 p7
inductive Less (I : Nat → Shared → Prop) (n : Nat) (s : Shared) : Prop | mk (m : Nat) (h : m < n) (i : I m s) : Less I n s
/-- what holds after a statement that others follow -/
noncomputable def PN (R : Shared → Prop) (Q : Flow → Shared → Prop) : Flow → Shared → Prop := fun f s => match f with | .next => R s | f => Q f s
/-- what holds after a loop's body -/
noncomputable def PL (I : Nat → Shared → Prop) (n : Nat) (Q : Flow → Shared → Prop) : Flow → Shared → Prop := fun f s => match f with | .next | .cont => Less I n s | .brk => Q .next s | .ret v => Q (.ret v) s
section
variable {R : Shared → Prop} {Q : Flow → Shared → Prop} {I : Nat → Shared → Prop} {n : Nat} {s : Shared} {v : Value}
theorem PN.next (h : R s) : PN R Q .next s := h
theorem PN.ret (h : Q (.ret v) s) : PN R Q (.ret v) s := h
theorem PN.brk (h : Q .brk s) : PN R Q .brk s := h
theorem PN.cont (h : Q .cont s) : PN R Q .cont s := h
theorem PL.next (h : Less I n s) : PL I n Q .next s := h
theorem PL.cont (h : Less I n s) : PL I n Q .cont s := h
theorem PL.brk (h : Q .next s) : PL I n Q .brk s := h
theorem PL.ret (h : Q (.ret v) s) : PL I n Q (.ret v) s := h
end
/-- a post by a name of its own -/
structure Post (Q : Flow → Shared → Prop) (P : Flow → Shared → Prop) : Prop where
  h : ∀ f s, P f s → Q f s
theorem post_use {Q P : Flow → Shared → Prop} {f : Flow} {s : Shared} (H : Post Q P) (h : P f s) : Q f s := H.h f s h
noncomputable def PostFor (P : Flow → Shared → Prop) (G : (Flow → Shared → Prop) → Prop) : Prop := ∀ Q, Post Q P → G Q
theorem PostFor.intro {P : Flow → Shared → Prop} {G : (Flow → Shared → Prop) → Prop} (h : ∀ Q, Post Q P → G Q) : PostFor P G := h
theorem PostFor.go {P : Flow → Shared → Prop} {G : (Flow → Shared → Prop) → Prop} (h : PostFor P G) : G P := h P ⟨fun _ _ x => x⟩
section
variable {M : Model} {A : Around} {E : Value → Shared → Prop} {s : Shared} {env : Env}
theorem x_cons {st : Stmt} {rest : List Stmt} {Q : Flow → Shared → Prop}
    (h : ∀ Q', Post Q' (PN (fun s' => wpAny M A (execs rest env) Q E s') Q) → wpAny M A (exec st env) Q' E s) :
    wpAny M A (execs (st :: rest) env) Q E s := by
  refine wpAny_execs_cons (h _ ⟨fun f s' hf => ?_⟩)
  cases f <;> exact hf
end
end
section
open PySem PySem.W PyProof.Rows
noncomputable abbrev lawW : RowW := OpenRow.toRowW (OpenLaw.row PySem.Challenge.rw_il0040_01)
noncomputable abbrev lawV : List (Str × WData) := [(Str.ofString "_filemode_table", WData.tuple [WData.tuple [WData.tuple [WData.int 40960, WData.str { cps := #[108] }], WData.tuple [WData.int 49152, WData.str { cps := #[115] }], WData.tuple [WData.int 32768, WData.str { cps := #[45] }], WData.tuple [WData.int 24576, WData.str { cps := #[98] }], WData.tuple [WData.int 16384, WData.str { cps := #[100] }], WData.tuple [WData.int 8192, WData.str { cps := #[99] }], WData.tuple [WData.int 4096, WData.str { cps := #[112] }]], WData.tuple [WData.tuple [WData.int 256, WData.str { cps := #[114] }]], WData.tuple [WData.tuple [WData.int 128, WData.str { cps := #[119] }]], WData.tuple [WData.tuple [WData.int 2112, WData.str { cps := #[115] }], WData.tuple [WData.int 2048, WData.str { cps := #[83] }], WData.tuple [WData.int 64, WData.str { cps := #[120] }]], WData.tuple [WData.tuple [WData.int 32, WData.str { cps := #[114] }]], WData.tuple [WData.tuple [WData.int 16, WData.str { cps := #[119] }]], WData.tuple [WData.tuple [WData.int 1032, WData.str { cps := #[115] }], WData.tuple [WData.int 1024, WData.str { cps := #[83] }], WData.tuple [WData.int 8, WData.str { cps := #[120] }]], WData.tuple [WData.tuple [WData.int 4, WData.str { cps := #[114] }]], WData.tuple [WData.tuple [WData.int 2, WData.str { cps := #[119] }]], WData.tuple [WData.tuple [WData.int 513, WData.str { cps := #[116] }], WData.tuple [WData.int 512, WData.str { cps := #[84] }], WData.tuple [WData.int 1, WData.str { cps := #[120] }]]])]
noncomputable abbrev lawK : Hook := kmHook Mine.hd.heap_39 (2 :: 3 :: 15 :: 17 :: 18 :: 20 :: 21 :: 22 :: 23 :: 25 :: 26 :: 28 :: 29 :: 30 :: 37 :: 38 :: 39 :: 40 :: 43 :: 45 :: 46 :: 48 :: 49 :: 50 :: 52 :: 53 :: 55 :: 56 :: 57 :: 59 :: 60 :: 62 :: 63 :: 64 :: 65 :: 67 :: 68 :: 70 :: 71 :: 72 :: 73 :: 75 :: 76 :: 78 :: 79 :: 80 :: 82 :: 83 :: 85 :: 86 :: 87 :: 89 :: 90 :: 92 :: 93 :: 94 :: 96 :: 97 :: 99 :: 100 :: 101 :: 103 :: 104 :: 106 :: 107 :: 108 :: 110 :: 111 :: 113 :: 114 :: 115 :: 117 :: 118 :: 120 :: 121 :: 122 :: 124 :: 125 :: 127 :: 128 :: 129 :: 131 :: 132 :: 134 :: 135 :: 136 :: 137 :: 140 :: 141 :: 142 :: 143 :: 146 :: 147 :: 148 :: 150 :: 151 :: 153 :: 154 :: 155 :: 156 :: 157 :: 158 :: 159 :: 160 :: 161 :: 162 :: 163 :: 164 :: 165 :: 166 :: 167 :: 168 :: 169 :: 170 :: 171 :: 172 :: 173 :: 174 :: 175 :: 176 :: 177 :: 178 :: 179 :: 180 :: 181 :: 182 :: 183 :: 184 :: 185 :: 186 :: 187 :: 188 :: 190 :: 191 :: 193 :: 194 :: 195 :: 198 :: 199 :: 200 :: 202 :: 203 :: 205 :: 206 :: 207 :: 210 :: 211 :: []) (fun _ => by kernel_rfl) [208]
theorem said : OpenLaw.wellSaid PySem.Challenge.rw_il0040_01 = true := by
  refine (congrFun PySem.W.Fast.te9446332074065402090 _).trans ?_
  delta PySem.W.Fast.tw9446332074065402090
  repeat' first
    | with_reducible refine look_both ?_ ?_
    | delta PySem.W.Fast.tw17960256430627541270
    | delta PySem.W.Fast.tw2436336058641802641
    | delta PySem.W.Fast.tw9825065953147845992
    | delta PySem.W.Fast.tw12908688711261696721
  all_goals (as_aux_lemma => kernel_rfl)
noncomputable abbrev ends (p : Program) (N : Nat) (w : World) : Option Shared :=
    ((PySem.W.Fast.tw10274390034422433532 PySem.W.Fast.tw14364793385576792824 (opening p) w N (PySem.W.Fast.tw1435165496053646825 (opening p)).1 (PySem.W.Fast.tw1435165496053646825 (opening p)).2).bind (PySem.W.Fast.tw14289696077712309145 p)).bind
    fun s₀ => match s₀.heap.isNs mainGlobals && s₀.gens.size == 0 with
  | true => (PySem.W.Fast.tw14082659384304107361 PySem.W.Fast.tw14364793385576792824 p w s₀.heap.objs.size (s₀.heap.nsMap mainGlobals "__annotations__") N s₀ (topStub p)).bind fun s₁ => match staticsOk (importedModules p.main.body) s₀.heap s₁.heap && namesBound p s₁.heap && gensDone s₁ && laidKept s₀.heap s₁.heap with
      | true => some s₁
      | false => none
  | false => none
theorem two_maps {α β γ : Type} {f : α → β} {g : α → γ} {b : β} {c : γ} : ∀ {o : Option α}, o.map f = some b → o.map g = some c → o.map (fun s => (f s, g s)) = some (b, c)
  | some x, h, h' => by rw [Option.map_some, Option.some.inj h, Option.some.inj h']
theorem quickO {p q : Program} {loose : List Str} {Xt : Shared → Bool} {α : Type} {Yf : Shared → α} {Ya : World → α} {N : Nat}
  (h1 : ∀ w : World, (ends p N w).map (PySem.W.Fast.tw4187177175401517315 q loose (importedModules p.main.body) Xt true) = some (openGood q loose)) (h2 : ∀ w : World, (ends p N w).map Yf = some (Ya w)) : LeftO p q loose Xt Yf Ya N := by
  intro w
  unfold openEnds
  have e := two_maps (h1 w) (h2 w)
  unfold ends at e
  rw [← PySem.W.Fast.te4187177175401517315, ← PySem.W.Fast.te10274390034422433532, ← PySem.W.Fast.te14364793385576792824, ← PySem.W.Fast.te1435165496053646825, ← PySem.W.Fast.te14289696077712309145, ← PySem.W.Fast.te14082659384304107361] at e
  exact e
noncomputable abbrev lawP : Program := (OpenLaw.row PySem.Challenge.rw_il0040_01).prog
noncomputable abbrev lawL : List Str := [Str.ofString "bytes_types", Str.ofString "a2b_base64", Str.ofString "b64decode", Str.ofString "nsmallest", Str.ofString "nlargest", Str.ofString "_filemode_table"]
theorem leftA (w : World) : (ends lawP 2672 w).map (PySem.W.Fast.tw4187177175401517315 Mine.hd.view_39 lawL (importedModules lawP.main.body) (fun s => xlAt Mine.hd.view_39 lawV s && recOk (RowW.records lawW) s) true) = some (openGood Mine.hd.view_39 lawL) := by kernel_rfl
theorem leftB (w : World) : (ends lawP 2672 w).map (Hook.obs lawK) = some (Hook.val lawK w) := by kernel_rfl
theorem left : LeftO (OpenLaw.row PySem.Challenge.rw_il0040_01).prog Mine.hd.view_39 [Str.ofString "bytes_types", Str.ofString "a2b_base64", Str.ofString "b64decode", Str.ofString "nsmallest", Str.ofString "nlargest", Str.ofString "_filemode_table"] (fun s => xlAt Mine.hd.view_39 lawV s && recOk (RowW.records lawW) s) (Hook.obs lawK) (Hook.val lawK) 2672 := quickO leftA leftB
theorem prom : (OpenRow.toRowW (OpenLaw.row PySem.Challenge.rw_il0040_01)).promised := by w_witness2
end
section
open PySem PySem.W PyProof.Rows PySem.Calls
/-! ## States -/
noncomputable def Sw (s s' : Shared) : Prop := ∃ h t, s' = { s with heap := h, toks := t }
theorem Sw.refl (s : Shared) : Sw s s := ⟨s.heap, s.toks, rfl⟩
theorem Sw.trans {a b c : Shared} (x : Sw a b) (y : Sw b c) : Sw a c := by
  obtain ⟨h, t, rfl⟩ := x
  obtain ⟨h', t', rfl⟩ := y
  exact ⟨h', t', rfl⟩
theorem Sw.mk' {s : Shared} {h : Heap} {t : Nat} : Sw s { s with heap := h, toks := t } := ⟨h, t, rfl⟩
inductive SetsTo (x : Str) (v : Value) : List (Str × Value) → List (Str × Value) → Prop
  | nil : SetsTo x v [] [(x, v)]
  | here {u r} : SetsTo x v ((x, u) :: r) ((x, v) :: r)
  | there {y u r r'} : x ≠ y → SetsTo x v r r' → SetsTo x v ((y, u) :: r) ((y, u) :: r')
noncomputable def LocOk (m : Str → Option Value) (l : List (Str × Value)) : Prop := ∀ x v, l.lookup x = some v → m x = some v
theorem SetsTo.look {x : Str} {v : Value} {l l' : List (Str × Value)} (h : SetsTo x v l l') (y : Str) : l'.lookup y = if y = x then some v else l.lookup y := by
  induction h with
  | nil =>
    by_cases e : y = x
    · subst e; simp [List.lookup_cons]
    · have : (y == x) = false := by simpa using e
      simp [List.lookup_cons, e, this]
  | here =>
    by_cases e : y = x
    · subst e; simp [List.lookup_cons]
    · have : (y == x) = false := by simpa using e
      simp [List.lookup_cons, e, this]
  | @there z u r r' ne _ ih =>
    by_cases e : y = z
    · subst e; simp [List.lookup_cons, Ne.symm ne]
    · have : (y == z) = false := by simpa using e
      simp only [List.lookup_cons, this]
      exact ih
theorem LocOk.set {m : Str → Option Value} {l l' : List (Str × Value)} {x : Str} {v : Value} (H : LocOk m l) (h : SetsTo x v l l') : LocOk (fun y => if y = x then some v else m y) l' := by
  intro y u e
  rw [h.look] at e
  by_cases q : y = x
  · simpa [q] using e
  · simp only [q, if_false] at e ⊢; exact H y u e
/-- what the ledger says of an object: a list's items, or the very object -/
inductive Kn where
  | lst (items : List Value)
  | ob (o : Obj)
  | pr (P : Obj → Prop)
noncomputable abbrev lstO (items : List Value) (n : Nat) : Obj := { cls := .type "list", data := .seq items.toArray n }
noncomputable def Kn.ok : Kn → Obj → Prop
  | .lst items, o => ∃ n, o = lstO items n
  | .ob o', o => o = o'
  | .pr P, o => P o
inductive LedUp (a : Addr) (o o' : Kn) : List (Addr × Kn) → List (Addr × Kn) → Prop
  | here {r} : LedUp a o o' ((a, o) :: r) ((a, o') :: r)
  | there {p r r'} : LedUp a o o' r r' → LedUp a o o' (p :: r) (p :: r')
theorem LedUp.mem {a : Addr} {o o' : Kn} {l l' : List (Addr × Kn)} (h : LedUp a o o' l l') : (a, o) ∈ l := by
  induction h with
  | here => exact .head _
  | there _ ih => exact .tail _ ih
theorem LedUp.map {a : Addr} {o o' : Kn} {l l' : List (Addr × Kn)} (h : LedUp a o o' l l') : l'.map (·.1) = l.map (·.1) := by
  induction h with
  | here => rfl
  | there _ ih => simp [ih]
theorem LedUp.mem' {a : Addr} {o o' : Kn} {l l' : List (Addr × Kn)} (h : LedUp a o o' l l') (nd : (l.map (·.1)).Nodup) : ∀ p ∈ l', p = (a, o') ∨ (p ∈ l ∧ p.1 ≠ a) := by
  induction h with
  | here =>
    rename_i r
    intro p hp
    simp only [List.map_cons, List.nodup_cons] at nd
    rcases List.mem_cons.mp hp with rfl | hp
    · exact .inl rfl
    · exact .inr ⟨.tail _ hp, fun e => nd.1 (e ▸ List.mem_map_of_mem hp)⟩
  | there h ih =>
    rename_i q r r'
    intro p hp
    simp only [List.map_cons, List.nodup_cons] at nd
    rcases List.mem_cons.mp hp with rfl | hp
    · exact .inr ⟨.head _, fun e => nd.1 (e ▸ List.mem_map_of_mem h.mem)⟩
    · rcases ih nd.2 p hp with e | ⟨e, ne⟩
      · exact .inl e
      · exact .inr ⟨.tail _ e, ne⟩
structure Out (s₀ : Shared) (W : List Addr) (led : List (Addr × Kn)) (s : Shared) : Prop where
  sw : Sw s₀ s
  keep : ∀ b o, s₀.heap.get? b = some o → b ∉ W → s.heap.get? b = some o
  hold : ∀ p ∈ led, ∃ o, s.heap.get? p.1 = some o ∧ p.2.ok o
structure St (s₀ : Shared) (W : List Addr) (L : Addr) (l : List (Str × Value)) (led : List (Addr × Kn)) (s : Shared) : Prop extends Out s₀ W led s where
  loc : ∃ m, s.heap.Ns L m ∧ LocOk m l
  nd : (led.map (·.1)).Nodup
  ne : ∀ p ∈ led, p.1 ≠ L
  fr : ∀ p ∈ led, p.1 ∈ W ∨ s₀.heap.get? p.1 = none
  neW : L ∉ W
  above : s₀.heap.get? L = none
section
variable {s₀ s s' : Shared} {W : List Addr} {L : Addr} {l l' : List (Str × Value)} {led led' : List (Addr × Kn)}
theorem St.ltL (S : St s₀ W L l led s) : L < s.heap.objs.size := by obtain ⟨m, hn, _⟩ := S.loc; exact hn.lt
theorem St.toks (S : St s₀ W L l led s) (t : Nat) : St s₀ W L l led { s with toks := t } :=
  ⟨⟨S.sw.trans ⟨_, _, rfl⟩, S.keep, S.hold⟩, S.loc, S.nd, S.ne, S.fr, S.neW, S.above⟩
theorem St.keeps (S : St s₀ W L l led s) (hw : Sw s s') (hk : ∀ b o, s.heap.get? b = some o → s'.heap.get? b = some o) : St s₀ W L l led s' :=
  ⟨⟨S.sw.trans hw, fun b o e n => hk _ _ (S.keep b o e n), fun p hp => let ⟨o, e, q⟩ := S.hold p hp; ⟨o, hk _ _ e, q⟩⟩, (let ⟨m, hn, hl⟩ := S.loc; ⟨m, hn.keeps hk, hl⟩), S.nd, S.ne, S.fr, S.neW, S.above⟩
theorem St.out (S : St s₀ W L l led s) (O : Out s [] [] s') : St s₀ W L l led s' := S.keeps O.sw fun b o e => O.keep b o e (by simp)
theorem St.store {x : Str} {v : Value} {h' : Heap} {t : Nat} (S : St s₀ W L l led s) (hl : SetsTo x v l l')
    (h : ∀ m, s.heap.Ns L m → h'.Ns L (fun y => if y = x then some v else m y)) (hs : Heap.SameBut L s.heap h') : St s₀ W L l' led { s with heap := h', toks := t } := by
  refine ⟨⟨S.sw.trans ⟨_, _, rfl⟩, fun b o e n => (hs.2 b fun q => ?_).trans (S.keep b o e n), fun p hp => let ⟨o, e, q⟩ := S.hold p hp; ⟨o, (hs.2 _ (S.ne p hp)).trans e, q⟩⟩, ?_, S.nd, S.ne, S.fr, S.neW, S.above⟩
  · rw [q, S.above] at e; cases e
  · obtain ⟨m, hn, hm⟩ := S.loc
    exact ⟨_, h m hn, hm.set hl⟩
theorem St.upd {a : Addr} {o o' : Kn} {ob : Obj} {h' : Heap} {t : Nat} (S : St s₀ W L l led s) (hu : LedUp a o o' led led') (ho : h'.get? a = some ob) (hk : o'.ok ob)
    (hs : ∀ b o, b ≠ a → s.heap.get? b = some o → h'.get? b = some o) : St s₀ W L l led' { s with heap := h', toks := t } := by
  have ha := S.fr _ hu.mem
  have hm := hu.mem' S.nd
  refine ⟨⟨S.sw.trans ⟨_, _, rfl⟩, fun b o e n => hs b o (fun q => ?_) (S.keep b o e n), fun p hp => ?_⟩, ?_, by rw [hu.map]; exact S.nd, fun p hp => ?_, fun p hp => ?_, S.neW, S.above⟩
  · subst q
    rcases ha with ha | ha
    · exact n ha
    · rw [ha] at e; cases e
  · rcases hm p hp with rfl | ⟨h, ne⟩
    · exact ⟨ob, ho, hk⟩
    · obtain ⟨q, e, r⟩ := S.hold p h
      exact ⟨q, hs _ _ ne e, r⟩
  · obtain ⟨m, hn, hm⟩ := S.loc
    exact ⟨m, hn.at' fun o e => hs L o (fun q => S.ne _ hu.mem q.symm) e, hm⟩
  · rcases hm p hp with rfl | ⟨h, _⟩
    · exact S.ne (a, o) hu.mem
    · exact S.ne p h
  · rcases hm p hp with rfl | ⟨h, _⟩
    · exact S.fr (a, o) hu.mem
    · exact S.fr p h
theorem St.push {o : Obj} {kn : Kn} {h' : Heap} {t : Nat} (S : St s₀ W L l led s) (ho : h'.get? s.heap.objs.size = some o) (hq : kn.ok o) (hk : ∀ b o, s.heap.get? b = some o → h'.get? b = some o) :
    St s₀ W L l ((s.heap.objs.size, kn) :: led) { s with heap := h', toks := t } := by
  refine ⟨⟨S.sw.trans ⟨_, _, rfl⟩, fun b o e n => hk _ _ (S.keep b o e n), fun p hp => ?_⟩, (let ⟨m, hn, hl⟩ := S.loc; ⟨m, hn.keeps hk, hl⟩), ?_, fun p hp => ?_, fun p hp => ?_, S.neW, S.above⟩
  · rcases List.mem_cons.mp hp with rfl | hp
    · exact ⟨o, ho, hq⟩
    · obtain ⟨q, e, r⟩ := S.hold p hp
      exact ⟨q, hk _ _ e, r⟩
  · rw [List.map_cons, List.nodup_cons]
    refine ⟨fun hm => ?_, S.nd⟩
    obtain ⟨p, hp, e⟩ := List.mem_map.mp hm
    obtain ⟨q, e', _⟩ := S.hold p hp
    have := Heap.lt_size e'
    rw [e] at this
    exact Nat.lt_irrefl _ this
  · rcases List.mem_cons.mp hp with rfl | hp
    · exact Nat.ne_of_gt S.ltL
    · exact S.ne p hp
  · rcases List.mem_cons.mp hp with rfl | hp
    · by_cases hW : s.heap.objs.size ∈ W
      · exact .inl hW
      · right
        cases q : s₀.heap.get? s.heap.objs.size with
        | none => rfl
        | some o' => exact absurd (Heap.lt_size (S.keep _ _ q hW)) (Nat.lt_irrefl _)
    · exact S.fr p hp
theorem St.drop {p : Addr × Kn} (S : St s₀ W L l (p :: led) s) : St s₀ W L l led s :=
  ⟨⟨S.sw, S.keep, fun q hq => S.hold q (.tail _ hq)⟩, S.loc, (by have := S.nd; rw [List.map_cons, List.nodup_cons] at this; exact this.2), fun q hq => S.ne q (.tail _ hq), fun q hq => S.fr q (.tail _ hq), S.neW, S.above⟩
theorem St.mono_loc (S : St s₀ W L l led s) (h : ∀ x v, l'.lookup x = some v → l.lookup x = some v) : St s₀ W L l' led s :=
  ⟨⟨S.sw, S.keep, S.hold⟩, (let ⟨m, hn, hl⟩ := S.loc; ⟨m, hn, fun x v e => hl x v (h x v e)⟩), S.nd, S.ne, S.fr, S.neW, S.above⟩
theorem St.called {a : Addr} {o o' : Kn} (S : St s₀ W L l led s) (hu : LedUp a o o' led led') (O : Out s [a] [(a, o')] s') : St s₀ W L l led' s' := by
  obtain ⟨h', t, rfl⟩ := O.sw
  obtain ⟨q, e, r⟩ := O.hold _ (.head _)
  exact S.upd hu e r fun b o hb e => O.keep b o e (by simpa using hb)
end
/-! ## Room -/
structure Ok (A : Around) (n : Nat) : Prop where
  d : A.depth + n < recursionLimit
  h : A.handled = none
  u : A.units + 8 * n < cLine
theorem Ok.deeper {A : Around} {n : Nat} {env : Env} (H : Ok A (n + 1)) : Ok (A.deeper env) n := by
  have h1 := H.d
  have h2 := H.u
  refine ⟨?_, H.h, ?_⟩
  · show A.depth + 1 + n < recursionLimit; omega
  · show A.units + 3 + 8 * n < cLine; omega
theorem Ok.le {A : Around} {n k : Nat} (H : Ok A n) (h : k ≤ n) : Ok A k := by
  have h1 := H.d
  have h2 := H.u
  exact ⟨by omega, H.h, by omega⟩
/-! ## Ground -/
structure Gnd (w : World) (mg mb : Str → Option Value) (h : Heap) : Prop where
  X : (hd.heap_39 w.params).In h
  g : h.Ns mainGlobals mg
  b : h.Ns builtinsNs mb
  bi : ∀ x : Str, x ≠ "__name__" → mb x = bootBuiltins x
  lim : h.NoLimit
theorem Gnd.keeps {w : World} {mg mb : Str → Option Value} {h h' : Heap} (G : Gnd w mg mb h) (hk : ∀ b o, h.get? b = some o → h'.get? b = some o) : Gnd w mg mb h' :=
  ⟨fun a o e => hk _ _ (G.X a o e), G.g.keeps hk, G.b.keeps hk, G.bi, G.lim.keeps hk⟩
section
variable {prog : Program} {w : World} {A : Around} {E : Value → Shared → Prop} {s : Shared} {mg mb : Str → Option Value}
theorem fn_call {f : Addr} {oc : Value} {od an : Option Addr} {name qual : Str} {params : Arguments} {body : List Stmt} {scope : Scope} {dV kV doc pm cdv ct : Value} {osl : Array (Option Value)} {pos : List Value} {kw : List (Str × Value)}
    {binds : List (Str × Value)} {Q : Value → Shared → Prop} (G : Gnd w mg mb s.heap) {n : Nat} (hA : Ok A (n + 1))
    (ho : (hd.heap_39 w.params).lookup f = some ⟨oc, od, .func (fnOf name qual params body scope dV kV doc pm an cdv ct), osl⟩) (hcd : codeIn (hd.heap_39 w.params) cdv qual = true)
    (hbind : BindsTo s (fnOf name qual params body scope dV kV doc pm an cdv ct) ⟨pos, kw⟩ binds) (hloc : (binds.all fun x => decide (scope.names.lookup x.1 = some .local)) = true)
    (h : ∀ s₁ L, St s [] L binds [] s₁ → Gnd w mg mb s₁.heap → Ok (A.deeper (envX qual scope L f cdv [])) n →
      wpAny (model prog w) (A.deeper (envX qual scope L f cdv [])) (execs body (envX qual scope L f cdv [])) (fun fl s' => Q (match fl with | .ret v => v | _ => .none) s') (fun _ _ => False) s₁)
    (hnd : (binds.map (·.1)).Nodup)
    (hcell : ∀ x ∈ scope.names, x.2 ≠ .cell) (hco : scope.isCoroutine = false := by rfl) (hgen : scope.isGenerator = false := by rfl) (hk : scope.kind = .function := by rfl) :
    wpAny (model prog w) A (call (.ref f) pos kw) Q E s := by
  have hd1 := hA.d
  refine wpAny_call (codeAny_call_def (fd := fnOf name qual params body scope dV kV doc pm an cdv ct) (by omega) (G.X f _ ho) rfl G.lim (codeRec_of G.X hcd) rfl hbind hcell (locs hloc) (fun h₁ hns hk₁ => ?_) hco hgen hk)
  have none_at : s.heap.get? s.heap.objs.size = none := by
    cases q : s.heap.get? s.heap.objs.size with
    | none => rfl
    | some o' => exact absurd (Heap.lt_size q) (Nat.lt_irrefl _)
  refine wpAny_mono (h { s with heap := h₁, toks := s.toks + binds.length } s.heap.objs.size ⟨⟨Sw.mk', fun b o e _ => hk₁ b o e, fun _ hp => nomatch hp⟩, ⟨_, hns, ?_⟩, by simp, fun _ hp => (nomatch hp), fun _ hp => (nomatch hp), by simp, none_at⟩ (G.keeps hk₁) hA.deeper) (fun fl s' x => x) fun _ _ x => x.elim
  intro x v e
  rw [← e]
  have key : ∀ (l : List (Str × Value)), (l.map (·.1)).Nodup → ∀ y, l.reverse.lookup y = l.lookup y := by
    intro l
    induction l with
    | nil => intro _ y; rfl
    | cons p r ih =>
      intro nd y
      obtain ⟨p1, p2⟩ := p
      simp only [List.map_cons, List.nodup_cons] at nd
      rw [List.reverse_cons, List.lookup_append, ih nd.2]
      by_cases hy : y = p1
      · subst hy
        have : r.lookup y = none := by
          rw [List.lookup_eq_none_iff]
          intro q hq
          simp only [bne_iff_ne, ne_eq, beq_eq_false_iff_ne] at *
          intro e
          exact nd.1 (e ▸ List.mem_map_of_mem hq)
        simp [this, List.lookup]
      · have hb : (y == p1) = false := by simpa using hy
        simp [hb, List.lookup]
  exact key binds hnd x
end
end
section
open PySem PySem.W PyProof.Rows PySem.Calls
noncomputable def GW (w : World) (mg mb : Str → Option Value) (s₀ : Shared) (W : List Addr) : Prop :=
  ∀ h' : Heap, (∀ b o, s₀.heap.get? b = some o → b ∉ W → h'.get? b = some o) → Gnd w mg mb h'
theorem Gnd.toW {w : World} {mg mb : Str → Option Value} {s : Shared} (G : Gnd w mg mb s.heap) : GW w mg mb s [] := fun h' hk => G.keeps fun b o e => hk b o e (by simp)
theorem GW.at_ {w : World} {mg mb : Str → Option Value} {s₀ s : Shared} {W : List Addr} {L : Addr} {l : List (Str × Value)} {led : List (Addr × Kn)} (G : GW w mg mb s₀ W) (S : St s₀ W L l led s) : Gnd w mg mb s.heap := G _ S.keep
section
variable {prog : Program} {w : World} {A : Around} {E : Value → Shared → Prop} {s₀ s : Shared} {mg mb : Str → Option Value} {W : List Addr} {L a : Addr} {l l' : List (Str × Value)} {led led' : List (Addr × Kn)}
  {cn : Str} {cs : Scope} {ccd : Value} {cl : List (Str × Addr)} {x : Str} {pos : Pos} {v : Value}
theorem ev_loc {Q : Value → Shared → Prop} (S : St s₀ W L l led s) (hv : l.lookup x = some v) (h : Q v s)
    (hk : cs.kind = .function) (hx : (envX cn cs L a ccd cl).kindOf x = some .local) (hd : (x == ("__debug__" : Str)) = false) :
    wpAny (model prog w) A (eval (.Name x pos) (envX cn cs L a ccd cl)) Q E s := by
  obtain ⟨m, hn, hm⟩ := S.loc
  exact wpAny_Name (wpAny_loadName_local hk hx hn (hm x v hv) h) hd
theorem ldn_loc {Q : Value → Shared → Prop} (S : St s₀ W L l led s) (hv : l.lookup x = some v) (h : Q v s)
    (hk : cs.kind = .function) (hx : (envX cn cs L a ccd cl).kindOf x = some .local) :
    wpAny (model prog w) A (loadName (envX cn cs L a ccd cl) x) Q E s := by
  obtain ⟨m, hn, hm⟩ := S.loc
  exact wpAny_loadName_local hk hx hn (hm x v hv) h
theorem ev_glob {Q : Value → Shared → Prop} (G : GW w mg mb s₀ W) (S : St s₀ W L l led s) (hv : mg x = some v) (h : Q v s)
    (hk : cs.kind = .function) (hx : (envX cn cs L a ccd cl).kindOf x = some .globalImplicit) (hd : (x == ("__debug__" : Str)) = false) :
    wpAny (model prog w) A (eval (.Name x pos) (envX cn cs L a ccd cl)) Q E s :=
  Name_function_global hk hx (loadGlobal_global (env := envX cn cs L a ccd cl) (G.at_ S).g hv h) hd
theorem ev_bi {Q : Value → Shared → Prop} (G : GW w mg mb s₀ W) (S : St s₀ W L l led s) (hmiss : mg x = none) (hv : bootBuiltins x = some v) (hn : x ≠ "__name__") (h : Q v s)
    (hk : cs.kind = .function) (hx : (envX cn cs L a ccd cl).kindOf x = some .globalImplicit) (hd : (x == ("__debug__" : Str)) = false) :
    wpAny (model prog w) A (eval (.Name x pos) (envX cn cs L a ccd cl)) Q E s :=
  Name_function_global hk hx (loadGlobal_builtin (env := envX cn cs L a ccd cl) (G.at_ S).g hmiss (G.at_ S).b (((G.at_ S).bi x hn).trans hv) h) hd
theorem st_loc {Q : Unit → Shared → Prop} (S : St s₀ W L l led s) (hl : SetsTo x v l l') (h : ∀ s', St s₀ W L l' led s' → Q () s')
    (hk : cs.kind = .function) (hx : (envX cn cs L a ccd cl).kindOf x = some .local) :
    wpAny (model prog w) A (storeName (envX cn cs L a ccd cl) x v) Q E s := by
  obtain ⟨m, hn, hm⟩ := S.loc
  refine wpAny_storeName_local hx hn (fun h' hn' hs => h _ ?_) (by show (cs.kind == .class || (cs.kind == .module && L != mainGlobals)) = false; rw [hk]; rfl)
  have hs' : Heap.SameBut L s.heap h' := hs
  refine ⟨⟨S.sw.trans ⟨_, _, rfl⟩, fun b o e n => (hs'.2 b fun q => ?_).trans (S.keep b o e n), fun p hp => let ⟨o, e, q⟩ := S.hold p hp; ⟨o, (hs'.2 _ (S.ne p hp)).trans e, q⟩⟩, ⟨_, hn', hm.set hl⟩, S.nd, S.ne, S.fr, S.neW, S.above⟩
  rw [q, S.above] at e; cases e
/-! constants -/
theorem ev_int {i : Int} {k : Nat} {env : Env} {Q : Value → Shared → Prop} (S : St s₀ W L l led s) (h : ∀ t s', St s₀ W L l led s' → Q (.int i t) s') :
    wpAny (model prog w) A (eval (.Constant (.int i) k pos) env) Q E s := wpAny_Constant_int (h _ _ (S.toks _))
theorem ev_str {i : Str} {k : Nat} {env : Env} {Q : Value → Shared → Prop} (S : St s₀ W L l led s) (h : ∀ t s', St s₀ W L l led s' → Q (.str i t) s') :
    wpAny (model prog w) A (eval (.Constant (.str i) k pos) env) Q E s := wpAny_Constant_str (h _ _ (S.toks _))
theorem ev_bytes {i : List UInt8} {k : Nat} {env : Env} {Q : Value → Shared → Prop} (S : St s₀ W L l led s) (h : ∀ t s', St s₀ W L l led s' → Q (.bytes i.toArray t) s') :
    wpAny (model prog w) A (eval (.Constant (.bytes i) k pos) env) Q E s := fun _ _ _ => h _ _ (S.toks _)
/-! int operations -/
variable {i j : Int} {ti tj : Tok} {Q : Value → Shared → Prop}
theorem op_add (S : St s₀ W L l led s) (h : ∀ t s', St s₀ W L l led s' → Q (.int (i + j) t) s') : wpAny (model prog w) A (binaryOp .Add (.int i ti) (.int j tj)) Q E s := add_int (h _ _ (S.toks _))
theorem op_sub (S : St s₀ W L l led s) (h : ∀ t s', St s₀ W L l led s' → Q (.int (i - j) t) s') : wpAny (model prog w) A (binaryOp .Sub (.int i ti) (.int j tj)) Q E s := sub_int' (h _ _ (S.toks _))
theorem op_mul (S : St s₀ W L l led s) (hm : PySem.IntMulOk i j) (h : ∀ t s', St s₀ W L l led s' → Q (.int (i * j) t) s') : wpAny (model prog w) A (binaryOp .Mult (.int i ti) (.int j tj)) Q E s := mul_int (h _ _ (S.toks _)) hm
theorem op_mod (S : St s₀ W L l led s) (hj : j ≠ 0) (h : ∀ t s', St s₀ W L l led s' → Q (.int (i.fmod j) t) s') : wpAny (model prog w) A (binaryOp .Mod (.int i ti) (.int j tj)) Q E s := mod_int' hj (h _ _ (S.toks _))
theorem op_and (S : St s₀ W L l led s) (h : ∀ t s', St s₀ W L l led s' → Q (.int (Builtin.bitAnd i j) t) s') : wpAny (model prog w) A (binaryOp .BitAnd (.int i ti) (.int j tj)) Q E s := and_int (h _ _ (S.toks _))
theorem op_or (S : St s₀ W L l led s) (h : ∀ t s', St s₀ W L l led s' → Q (.int (Builtin.bitOr i j) t) s') : wpAny (model prog w) A (binaryOp .BitOr (.int i ti) (.int j tj)) Q E s := or_int (h _ _ (S.toks _))
theorem op_shr (S : St s₀ W L l led s) (hj : 0 ≤ j) (h : ∀ t s', St s₀ W L l led s' → Q (.int (i.fdiv (2 ^ j.toNat)) t) s') : wpAny (model prog w) A (binaryOp .RShift (.int i ti) (.int j tj)) Q E s := rshift_int hj (h _ _ (S.toks _))
theorem op_shl (S : St s₀ W L l led s) (hj : 0 ≤ j) (hj2 : j ≤ 1000000) (hi : i.natAbs < 2 ^ 64) (h : ∀ t s', St s₀ W L l led s' → Q (.int (i * 2 ^ j.toNat) t) s') : wpAny (model prog w) A (binaryOp .LShift (.int i ti) (.int j tj)) Q E s := lshift_int_small hj hj2 hi (h _ _ (S.toks _))
theorem op_pow (S : St s₀ W L l led s) (hj : 0 ≤ j) (hj2 : j ≤ 1000000) (hi : i.natAbs < 2 ^ 64) (h : ∀ t s', St s₀ W L l led s' → Q (.int (i ^ j.toNat) t) s') : wpAny (model prog w) A (binaryOp .Pow (.int i ti) (.int j tj)) Q E s := pow_int_small hj hj2 hi (h _ _ (S.toks _))
theorem op_fdiv (S : St s₀ W L l led s) (hj : j ≠ 0) (hj2 : j.natAbs.log2 < 9000) (h : ∀ t s', St s₀ W L l led s' → Q (.int (i.fdiv j) t) s') : wpAny (model prog w) A (binaryOp .FloorDiv (.int i ti) (.int j tj)) Q E s := floordiv_int hj (h _ _ (S.toks _)) (Or.inl (PyProof.noPylong_of_log2 hj2))
theorem op_iadd (S : St s₀ W L l led s) (h : ∀ t s', St s₀ W L l led s' → Q (.int (i + j) t) s') : wpAny (model prog w) A (inplaceOp .Add (.int i ti) (.int j tj)) Q E s := iadd_int (h _ _ (S.toks _))
theorem op_isub (S : St s₀ W L l led s) (h : ∀ t s', St s₀ W L l led s' → Q (.int (i - j) t) s') : wpAny (model prog w) A (inplaceOp .Sub (.int i ti) (.int j tj)) Q E s := isub_int (h _ _ (S.toks _))
theorem op_neg (S : St s₀ W L l led s) (h : ∀ t s', St s₀ W L l led s' → Q (.int (-i) t) s') : wpAny (model prog w) A (unaryOp .USub (.int i ti)) Q E s := neg_int (h _ _ (S.toks _))
end
/-! names above -/
section
variable {w : World} {mg mb : Str → Option Value} {h : Heap}
theorem g_bytes_from_decode_data (G : Gnd w mg mb h) : mg (Str.ofString "_bytes_from_decode_data") = some (.ref 29) := mg_of G.X G.g (by kernel_rfl!)
theorem g_ascii_buffer (G : Gnd w mg mb h) : mg (Str.ofString "_ascii_buffer") = some (.ref 49) := mg_of G.X G.g (by kernel_rfl!)
theorem g_truth (G : Gnd w mg mb h) : mg (Str.ofString "_truth") = some (.ref 56) := mg_of G.X G.g (by kernel_rfl!)
theorem g_b64_value (G : Gnd w mg mb h) : mg (Str.ofString "_b64_value") = some (.ref 63) := mg_of G.X G.g (by kernel_rfl!)
theorem g_a2b_base64 (G : Gnd w mg mb h) : mg (Str.ofString "a2b_base64") = some (.ref 71) := mg_of G.X G.g (by kernel_rfl!)
theorem g_b64decode (G : Gnd w mg mb h) : mg (Str.ofString "b64decode") = some (.ref 79) := mg_of G.X G.g (by kernel_rfl!)
theorem g_heapreplace (G : Gnd w mg mb h) : mg (Str.ofString "heapreplace") = some (.ref 86) := mg_of G.X G.g (by kernel_rfl!)
theorem g_heapify (G : Gnd w mg mb h) : mg (Str.ofString "heapify") = some (.ref 93) := mg_of G.X G.g (by kernel_rfl!)
theorem g_heapreplace_max (G : Gnd w mg mb h) : mg (Str.ofString "_heapreplace_max") = some (.ref 100) := mg_of G.X G.g (by kernel_rfl!)
theorem g_heapify_max (G : Gnd w mg mb h) : mg (Str.ofString "_heapify_max") = some (.ref 107) := mg_of G.X G.g (by kernel_rfl!)
theorem g_siftdown (G : Gnd w mg mb h) : mg (Str.ofString "_siftdown") = some (.ref 114) := mg_of G.X G.g (by kernel_rfl!)
theorem g_siftup (G : Gnd w mg mb h) : mg (Str.ofString "_siftup") = some (.ref 121) := mg_of G.X G.g (by kernel_rfl!)
theorem g_siftdown_max (G : Gnd w mg mb h) : mg (Str.ofString "_siftdown_max") = some (.ref 128) := mg_of G.X G.g (by kernel_rfl!)
theorem g_siftup_max (G : Gnd w mg mb h) : mg (Str.ofString "_siftup_max") = some (.ref 135) := mg_of G.X G.g (by kernel_rfl!)
theorem g_nsmallest (G : Gnd w mg mb h) : mg (Str.ofString "nsmallest") = some (.ref 141) := mg_of G.X G.g (by kernel_rfl!)
theorem g_nlargest (G : Gnd w mg mb h) : mg (Str.ofString "nlargest") = some (.ref 147) := mg_of G.X G.g (by kernel_rfl!)
theorem g_S_IFMT (G : Gnd w mg mb h) : mg (Str.ofString "S_IFMT") = some (.ref 154) := mg_of G.X G.g (by kernel_rfl!)
theorem g_filemode (G : Gnd w mg mb h) : mg (Str.ofString "filemode") = some (.ref 194) := mg_of G.X G.g (by kernel_rfl!)
theorem g_law_word (G : Gnd w mg mb h) : mg (Str.ofString "_law_word") = some (.ref 199) := mg_of G.X G.g (by kernel_rfl!)
theorem g_law_number (G : Gnd w mg mb h) : mg (Str.ofString "_law_number") = some (.ref 206) := mg_of G.X G.g (by kernel_rfl!)
theorem n_isinstance (G : Gnd w mg mb h) : mg (Str.ofString "isinstance") = none := mg_none_of G.X G.g (by kernel_rfl!)
theorem n_str (G : Gnd w mg mb h) : mg (Str.ofString "str") = none := mg_none_of G.X G.g (by kernel_rfl!)
theorem n_bytes (G : Gnd w mg mb h) : mg (Str.ofString "bytes") = none := mg_none_of G.X G.g (by kernel_rfl!)
theorem n_type (G : Gnd w mg mb h) : mg (Str.ofString "type") = none := mg_none_of G.X G.g (by kernel_rfl!)
theorem n_len (G : Gnd w mg mb h) : mg (Str.ofString "len") = none := mg_none_of G.X G.g (by kernel_rfl!)
theorem n_range (G : Gnd w mg mb h) : mg (Str.ofString "range") = none := mg_none_of G.X G.g (by kernel_rfl!)
theorem n_reversed (G : Gnd w mg mb h) : mg (Str.ofString "reversed") = none := mg_none_of G.X G.g (by kernel_rfl!)
theorem n_zip (G : Gnd w mg mb h) : mg (Str.ofString "zip") = none := mg_none_of G.X G.g (by kernel_rfl!)
theorem n_enumerate (G : Gnd w mg mb h) : mg (Str.ofString "enumerate") = none := mg_none_of G.X G.g (by kernel_rfl!)
theorem n_iter (G : Gnd w mg mb h) : mg (Str.ofString "iter") = none := mg_none_of G.X G.g (by kernel_rfl!)
theorem n_object (G : Gnd w mg mb h) : mg (Str.ofString "object") = none := mg_none_of G.X G.g (by kernel_rfl!)
theorem n_min (G : Gnd w mg mb h) : mg (Str.ofString "min") = none := mg_none_of G.X G.g (by kernel_rfl!)
theorem n_max (G : Gnd w mg mb h) : mg (Str.ofString "max") = none := mg_none_of G.X G.g (by kernel_rfl!)
theorem n_sorted (G : Gnd w mg mb h) : mg (Str.ofString "sorted") = none := mg_none_of G.X G.g (by kernel_rfl!)
theorem n_list (G : Gnd w mg mb h) : mg (Str.ofString "list") = none := mg_none_of G.X G.g (by kernel_rfl!)
theorem n_int (G : Gnd w mg mb h) : mg (Str.ofString "int") = none := mg_none_of G.X G.g (by kernel_rfl!)
theorem b_isinstance : bootBuiltins (Str.ofString "isinstance") = some (.builtin "isinstance") := by boot_fast
theorem b_str : bootBuiltins (Str.ofString "str") = some (.type "str") := by boot_fast
theorem b_bytes : bootBuiltins (Str.ofString "bytes") = some (.type "bytes") := by boot_fast
theorem b_type : bootBuiltins (Str.ofString "type") = some (.type "type") := by boot_fast
theorem b_len : bootBuiltins (Str.ofString "len") = some (.builtin "len") := by boot_fast
theorem b_range : bootBuiltins (Str.ofString "range") = some (.type "range") := by boot_fast
theorem b_reversed : bootBuiltins (Str.ofString "reversed") = some (.type "reversed") := by boot_fast
theorem b_zip : bootBuiltins (Str.ofString "zip") = some (.type "zip") := by boot_fast
theorem b_enumerate : bootBuiltins (Str.ofString "enumerate") = some (.type "enumerate") := by boot_fast
theorem b_iter : bootBuiltins (Str.ofString "iter") = some (.builtin "iter") := by boot_fast
theorem b_object : bootBuiltins (Str.ofString "object") = some (.type "object") := by boot_fast
theorem b_min : bootBuiltins (Str.ofString "min") = some (.builtin "min") := by boot_fast
theorem b_max : bootBuiltins (Str.ofString "max") = some (.builtin "max") := by boot_fast
theorem b_sorted : bootBuiltins (Str.ofString "sorted") = some (.builtin "sorted") := by boot_fast
theorem b_list : bootBuiltins (Str.ofString "list") = some (.type "list") := by boot_fast
theorem b_int : bootBuiltins (Str.ofString "int") = some (.type "int") := by boot_fast
theorem look_mem {x : Str} {v : Value} : ∀ {l : List (Str × Value)}, l.lookup x = some v → (x, v) ∈ l
  | [], h => nomatch h
  | (y, u) :: r, h => by
    rw [List.lookup_cons] at h
    by_cases e : x = y
    · subst e
      simp at h
      subst h
      exact .head _
    · have hb : (x == y) = false := by simpa using e
      rw [hb] at h
      exact .tail _ (look_mem h)
noncomputable def gtab : List (Str × Value) := [(Str.ofString "_bytes_from_decode_data", .ref 29), (Str.ofString "_ascii_buffer", .ref 49), (Str.ofString "_truth", .ref 56), (Str.ofString "_b64_value", .ref 63), (Str.ofString "a2b_base64", .ref 71), (Str.ofString "b64decode", .ref 79), (Str.ofString "heapreplace", .ref 86), (Str.ofString "heapify", .ref 93), (Str.ofString "_heapreplace_max", .ref 100), (Str.ofString "_heapify_max", .ref 107), (Str.ofString "_siftdown", .ref 114), (Str.ofString "_siftup", .ref 121), (Str.ofString "_siftdown_max", .ref 128), (Str.ofString "_siftup_max", .ref 135), (Str.ofString "nsmallest", .ref 141), (Str.ofString "nlargest", .ref 147), (Str.ofString "S_IFMT", .ref 154), (Str.ofString "filemode", .ref 194), (Str.ofString "_law_word", .ref 199), (Str.ofString "_law_number", .ref 206), (Str.ofString "_filemode_table", .ref 187)]
theorem g_all {x : Str} {v : Value} (G : Gnd w mg mb h) (e : gtab.lookup x = some v) : mg x = some v := by
  have key : ∀ p ∈ gtab, mg p.1 = some p.2 := by
    simp only [gtab, List.forall_mem_cons]
    exact ⟨g_bytes_from_decode_data G, g_ascii_buffer G, g_truth G, g_b64_value G, g_a2b_base64 G, g_b64decode G, g_heapreplace G, g_heapify G, g_heapreplace_max G, g_heapify_max G, g_siftdown G, g_siftup G, g_siftdown_max G, g_siftup_max G, g_nsmallest G, g_nlargest G, g_S_IFMT G, g_filemode G, g_law_word G, g_law_number G, mg_of G.X G.g (by kernel_rfl!), fun _ h => nomatch h⟩
  exact key _ (look_mem e)
noncomputable def btab : List (Str × Value) := [(Str.ofString "isinstance", .builtin "isinstance"), (Str.ofString "str", .type "str"), (Str.ofString "bytes", .type "bytes"), (Str.ofString "type", .type "type"), (Str.ofString "len", .builtin "len"), (Str.ofString "range", .type "range"), (Str.ofString "reversed", .type "reversed"), (Str.ofString "zip", .type "zip"), (Str.ofString "enumerate", .type "enumerate"), (Str.ofString "iter", .builtin "iter"), (Str.ofString "object", .type "object"), (Str.ofString "min", .builtin "min"), (Str.ofString "max", .builtin "max"), (Str.ofString "sorted", .builtin "sorted"), (Str.ofString "list", .type "list"), (Str.ofString "int", .type "int"), (Str.ofString "bool", .type "bool")]
theorem n_all {x : Str} {v : Value} (G : Gnd w mg mb h) (e : btab.lookup x = some v) : mg x = none := by
  have key : ∀ p ∈ btab, mg p.1 = none := by
    simp only [btab, List.forall_mem_cons]
    exact ⟨n_isinstance G, n_str G, n_bytes G, n_type G, n_len G, n_range G, n_reversed G, n_zip G, n_enumerate G, n_iter G, n_object G, n_min G, n_max G, n_sorted G, n_list G, n_int G, mg_none_of G.X G.g (by kernel_rfl!), fun _ h => nomatch h⟩
  exact key _ (look_mem e)
theorem b_all {x : Str} {v : Value} (e : btab.lookup x = some v) : bootBuiltins x = some v := by
  have key : ∀ p ∈ btab, bootBuiltins p.1 = some p.2 := by
    simp only [btab, List.forall_mem_cons]
    exact ⟨b_isinstance, b_str, b_bytes, b_type, b_len, b_range, b_reversed, b_zip, b_enumerate, b_iter, b_object, b_min, b_max, b_sorted, b_list, b_int, by boot_fast, fun _ h => nomatch h⟩
  exact key _ (look_mem e)
end
end
section
open PySem PySem.W PyProof.Rows PySem.Calls
section
variable {prog : Program} {w : World} {A : Around} {E : Value → Shared → Prop} {s₀ s : Shared} {mg mb : Str → Option Value} {W : List Addr} {L a D : Addr} {l l' : List (Str × Value)} {led led' : List (Addr × Kn)}
  {env : Env} {x : Str} {pos pos' : Pos} {v : Value}
theorem x_assign {value : Expr} {Q : Flow → Shared → Prop} (hs : swapsWith value (some (.Name x pos')) pos.line env = pure false)
    (h : wpAny (model prog w) A (eval value env) (fun v s₁ => wpAny (model prog w) A (storeName env x v) (fun _ s' => Q .next s') E s₁) E s) :
    wpAny (model prog w) A (exec (.Assign [.Name x pos'] value pos) env) Q E s := wpAny_Assign_Name h hs
theorem x_aug {op : Operator} {value : Expr} {Q : Flow → Shared → Prop}
    (h : wpAny (model prog w) A (loadName env x) (fun old s₁ => wpAny (model prog w) A (eval value env) (fun v s₂ => wpAny (model prog w) A (inplaceOp op old v)
      (fun r s₃ => wpAny (model prog w) A (storeName env x r) (fun _ s' => Q .next s') E s₃) E s₂) E s₁) E s) :
    wpAny (model prog w) A (exec (.AugAssign (.Name x pos') op value pos) env) Q E s := wpAny_AugAssign_Name h
theorem e_cmp1 {le r : Expr} {op : CmpOp} {Q : Value → Shared → Prop} (hm : behindInMarks op r = false)
    (h : wpAny (model prog w) A (eval le env) (fun a s₁ => wpAny (model prog w) A (eval r env) (fun b s₂ => wpAny (model prog w) A (compareOp op a b) Q E s₂) E s₁) E s) :
    wpAny (model prog w) A (eval (.Compare le [op] [r] pos) env) Q E s := wpAny_Compare1 h hm
theorem t_cmp1 {le r : Expr} {op : CmpOp} {whole : Sem Value} {Q : Bool → Shared → Prop} (hm : behindInMarks op r = false)
    (h : wpAny (model prog w) A (eval le env) (fun a s₁ => wpAny (model prog w) A (eval r env) (fun b s₂ => wpAny (model prog w) A (compareOp op a b) (fun c s₃ => wpAny (model prog w) A (truthy c) Q E s₃) E s₂) E s₁) E s) :
    wpAny (model prog w) A (isTrue (.Compare le [op] [r] pos) env whole) Q E s := wpAny_isTrue_Compare1 h hm
theorem x_assign_sub {o i value : Expr} {Q : Flow → Shared → Prop} (hs : swapsWith value (some (.Subscript o i pos')) pos.line env = pure false)
    (h : wpAny (model prog w) A (eval value env) (fun v s₁ => wpAny (model prog w) A (eval o env) (fun ov s₂ => wpAny (model prog w) A (eval i env) (fun iv s₃ =>
      wpAny (model prog w) A (setItem ov iv v) (fun _ s' => Q .next s') E s₃) E s₂) E s₁) E s) :
    wpAny (model prog w) A (exec (.Assign [.Subscript o i pos'] value pos) env) Q E s := wpAny_Assign_Subscript h hs
/-! ## calls by a name -/
theorem e_call {id : Str} {p : Pos} {args : List Expr} {keywords : List Keyword} {Q : Value → Shared → Prop}
    (h : wpAny (model prog w) A (eval (.Name id p) env) (fun f s₁ => wpAny (model prog w) A (callWith pos f [] (backTo pos (starEach args env)) (backToKw pos (keywordEach keywords env))) Q E s₁) E s) :
    wpAny (model prog w) A (eval (.Call (.Name id p) args keywords pos) env) Q E s := wpAny_Call_Name_kw h
theorem cw_fn {f : Addr} {e : Expr} {rest : List Expr} {Q : Value → Shared → Prop} (G : GW w mg mb s₀ W)
    (hf : ∃ o fd, (hd.heap_39 w.params).lookup f = some o ∧ o.data = .func fd)
    (he : backTo pos (starEach (e :: rest) env) = (false, eval e env) :: backTo pos (starEach rest env))
    (h : wpAny (model prog w) A (spliced (backTo pos (starEach (e :: rest) env))) (fun vs s₁ => (∃ L l led, St s₀ W L l led s₁) ∧ wpAny (model prog w) A (call (.ref f) vs) Q E s₁) E s) :
    wpAny (model prog w) A (callWith pos (.ref f) [] (backTo pos (starEach (e :: rest) env)) (backToKw pos (keywordEach [] env))) Q E s := by
  obtain ⟨o, fd, ho, hd⟩ := hf
  show wpAny (model prog w) A (callWith pos (.ref f) [] (backTo pos (starEach (e :: rest) env)) []) Q E s
  refine callWith_function (o := o) (fd := fd) ?_
  rw [he] at h ⊢
  refine evalArgs_plain (wpAny_mono h (fun vs s₁ h₁ => ?_) fun _ _ x => x)
  obtain ⟨⟨L, l, led, S⟩, hc⟩ := h₁
  exact ⟨⟨(G.at_ S).X _ _ ho, hd⟩, hc⟩
theorem cw_bi {id : String} {e : Expr} {rest : List Expr} {Q : Value → Shared → Prop}
    (he : backTo pos (starEach (e :: rest) env) = (false, eval e env) :: backTo pos (starEach rest env)) (hpl : (backTo pos (starEach (e :: rest) env)).any (·.1) = false)
    (h : wpAny (model prog w) A (spliced (backTo pos (starEach (e :: rest) env))) (fun vs s₁ => wpAny (model prog w) A (call (.builtin id) vs) Q E s₁) E s) :
    wpAny (model prog w) A (callWith pos (.builtin id) [] (backTo pos (starEach (e :: rest) env)) (backToKw pos (keywordEach [] env))) Q E s := by
  show wpAny (model prog w) A (callWith pos (.builtin id) [] (backTo pos (starEach (e :: rest) env)) []) Q E s
  refine callWith_builtin hpl ?_
  rw [he] at h ⊢
  exact evalArgs_plain h
theorem cw_ty {T : String} {e : Expr} {rest : List Expr} {Q : Value → Shared → Prop}
    (he : backTo pos (starEach (e :: rest) env) = (false, eval e env) :: backTo pos (starEach rest env)) (hpl : (backTo pos (starEach (e :: rest) env)).any (·.1) = false)
    (h : wpAny (model prog w) A (spliced (backTo pos (starEach (e :: rest) env))) (fun vs s₁ => wpAny (model prog w) A (call (.type T) vs) Q E s₁) E s) :
    wpAny (model prog w) A (callWith pos (.type T) [] (backTo pos (starEach (e :: rest) env)) (backToKw pos (keywordEach [] env))) Q E s := by
  show wpAny (model prog w) A (callWith pos (.type T) [] (backTo pos (starEach (e :: rest) env)) []) Q E s
  refine PyProof.Rows.callWith_type hpl ?_
  rw [he] at h ⊢
  exact evalArgs_plain h
theorem a_cons {e : Expr} {rest : List Expr} {Q : List Value → Shared → Prop} (hs : starEach (e :: rest) env = (false, eval e env) :: starEach rest env)
    (h : wpAny (model prog w) A (eval e env) (fun v s₁ => wpAny (model prog w) A (spliced (backTo pos (starEach rest env))) (fun vs s₂ => Q (v :: vs) s₂) E s₁) E s) :
    wpAny (model prog w) A (spliced (backTo pos (starEach (e :: rest) env))) Q E s := wpAny_items_cons h hs
/-! ## lists of the ledger -/
theorem St.isList {its : List Value} (S : St s₀ W L l led s) (hm : (D, .lst its) ∈ led) : s.heap.IsList D its.toArray := by
  obtain ⟨o, e, n, rfl⟩ := S.hold _ hm
  exact ⟨_, e, rfl, n, rfl⟩
theorem sub_lst {value slice : Expr} {its : List Value} {k : Int} {u : Tok} {Q : Value → Shared → Prop} (S : St s₀ W L l led s) (hm : (D, .lst its) ∈ led)
    (h0 : 0 ≤ k) (hfit : k < 2 ^ 63) (hx : its[k.toNat]? = some v)
    (hs : subscripted slice false (.ref D) (.int k u) = operate [.ref D, .int k u] (getItem (.ref D) (.int k u))) (hg : ∀ r, letTemporaryGo value (.ref D) r = pure ()) (h : Q v s) :
    wpAny (model prog w) A (subscriptTail value slice (.ref D) (.int k u)) Q E s := item_listL (S.isList hm) h0 hfit hx h hs hg
theorem set_lst {its : List Value} {k : Int} {u : Tok} {Q : Unit → Shared → Prop} (S : St s₀ W L l led s) (hu : LedUp D (.lst its) (.lst (its.set k.toNat v)) led led')
    (h0 : 0 ≤ k) (hfit : k < 2 ^ 63) (hn : k < its.length) (h : ∀ s', St s₀ W L l led' s' → Q () s') :
    wpAny (model prog w) A (setItem (.ref D) (.int k u) v) Q E s := by
  obtain ⟨o, ho, n, rfl⟩ := S.hold _ hu.mem
  have hl : s.heap.IsList D its.toArray := ⟨_, ho, rfl, n, rfl⟩
  unfold setItem
  try with_reducible refine wpAny_holding ?_
  first | refine wpAny_bind (wpAny_pure ?_) | skip
  refine wpAny_bind (wpAny_sequenceKey hl.typeIs (by decide) ?_)
  refine wpAny_bind (wpAny_callSpecial?_slot (name := Str.ofString "__setitem__") hl.typeIs slot_list_setitem
    (wpAny_call_entry slot_list_setitem hl.typeIs entry_list_setitem ?_ (args_list_setitem _ _ _)))
  show wpAny _ _ (Builtin.List.listSubscript? (.int k u) >>= _) _ _ s
  refine wpAny_bind (wpAny_listSubscript_int (fitsIndex_of h0 hfit) ?_)
  clear hfit
  obtain ⟨j, rfl⟩ := Int.eq_ofNat_of_zero_le h0
  have hj : j < its.toArray.size := by simp; omega
  have hx' : its.toArray[j]? = some its.toArray[j] := Array.getElem?_eq_getElem hj
  show wpAny _ _ ((seqItemAt D j >>= fun r => pure (r.map (j, ·))) >>= _) _ _ s
  refine wpAny_bind (wpAny_bind (wpAny_seqItemAt ho rfl (wpAny_pure ?_)))
  rw [hx']
  show wpAny _ _ (setSeqItemAt D j v >>= _) _ _ s
  have hnew : (s.heap.update D (Obj.mapSeq (·.setIfInBounds j v))).get? D = some (lstO (its.set j v) n) := by
    have := Heap.get?_update_self (f := Obj.mapSeq (·.setIfInBounds j v)) ho (by simp [Obj.mapSeq, Obj.isFreed])
    rw [this]
    simp [Obj.mapSeq, lstO]
  have fin : Q () { s with heap := s.heap.update D (Obj.mapSeq (·.setIfInBounds j v)) } :=
    h _ (S.upd (t := s.toks) hu hnew ⟨n, rfl⟩ fun b o hb e => (Heap.SameBut.update ..).extBut b o hb e)
  refine wpAny_bind (wpAny_setSeqItemAt ho rfl ?_)
  first
    | exact wpAny_bind (wpAny_pure (wpAny_pure ⟨.none, rfl, wpAny_pure fin⟩))
    | exact wpAny_pure ⟨.none, rfl, wpAny_pure fin⟩
theorem len_lst {its : List Value} {Q : Value → Shared → Prop} (S : St s₀ W L l led s) (hm : (D, .lst its) ∈ led) (hz : its.length ≤ 1000000) (h : ∀ t s', St s₀ W L l led s' → Q (.int its.length t) s') :
    wpAny (model prog w) A (call (.builtin "len") [.ref D]) Q E s := by
  refine call_len_list (S.isList hm) (by simp; omega) ?_
  have := h (s.toks + 1) { s with toks := s.toks + 1 + 1 } (S.toks _)
  simpa using this
/-! ## while -/
theorem x_while {test : Expr} {body orelse : List Stmt} {Q : Flow → Shared → Prop} (I : Nat → Shared → Prop) (n : Nat)
    (h : I n s)
    (turn : ∀ n s E', I n s → PostFor (PL I n Q) fun QB => wpAny (model prog w) A (isTrue test env (eval test env)) (fun b s₂ => if b then wpAny (model prog w) A (execs body env) QB E' s₂
        else wpAny (model prog w) A (execs orelse env) Q E' s₂) E' s) :
    wpAny (model prog w) A (exec (.While test body orelse pos) env) Q E s :=
  wpAny_While (codeAny_whileLoop I (fun n s hI => turn n s _ hI _ ⟨fun f s h => by cases f <;> first | exact h | (obtain ⟨m, a, b⟩ := h; exact ⟨m, a, b⟩)⟩) n h)
end
end
section
open PySem PySem.W PyProof.Rows PySem.Calls
theorem slot_bytes_lt : Slot "bytes" (cmpInfo .Lt).2.1 "bytes.__lt__" :=
  .of (owner := "bytes") (n := "__lt__") (by rw [typeLookup_type, builtinLookup_eq_fast]; kernel_rfl) (by decide +kernel) (by decide +kernel) (by decide +kernel)
    (by first | exact .inl (by decide +kernel) | exact .inr (by decide +kernel)) (by rw [isSubtype_type]; kernel_rfl)
theorem entry_bytes_lt : entryFor table "bytes.__lt__" = some Builtin.«bytes.__lt__» := entryFor_of_tree (by kernel_rfl)
theorem args_bytes_lt_2 (a b : Value) : argsOk "bytes.__lt__" ⟨[a, b], []⟩ := by
  unfold argsOk; rw [signature?_of (id := "bytes.__lt__") (n := ['_', '_', 't', 'l', '_', '_']) (o := ['s', 'e', 't', 'y', 'b']) (by kernel_rfl) FB.owner_bytes]; kernel_rfl
/-- bytes in order -/
noncomputable def ltB : List UInt8 → List UInt8 → Bool
  | _, [] => false
  | [], _ :: _ => true
  | x :: xs, y :: ys => if x < y then true else if y < x then false else ltB xs ys
theorem order_lt : ∀ (a b : List UInt8), Builtin.Bytes.holds "__lt__" (Builtin.Bytes.order a b) = ltB a b
  | [], [] => rfl
  | [], _ :: _ => rfl
  | _ :: _, [] => rfl
  | x :: xs, y :: ys => by
    have ih := order_lt xs ys
    unfold Builtin.Bytes.order ltB
    by_cases h1 : x < y
    · simp [h1, Builtin.Bytes.holds]
    · by_cases h2 : y < x
      · simp [h1, h2, Builtin.Bytes.holds]
      · simp [h1, h2, ih]
theorem gives_bytes_lt (b c : Array UInt8) (t u : Tok) : Gives (Builtin.«bytes.__lt__» ⟨[.bytes b t, .bytes c u], []⟩) (.val (.bool (ltB b.toList c.toList))) := by
  refine .of_wp fun M A E s Q hq => ?_
  show wpAny M A (isInstance (.bytes c u) (.type "bytes") >>= fun r => _) _ E s
  refine wpAny_bind (wpAny_isInstance (typeIs_bytes s c u) F.sub_bytes_bytes ?_)
  exact wpAny_pure ⟨_, rfl, by rw [← order_lt] at hq; exact hq⟩
/-! keys of a heap: (bytes, number, spot) -/
structure Ky where
  k : List UInt8
  o : Int
  e : Int
  deriving DecidableEq
noncomputable def Ky.lt (x y : Ky) : Bool := if x.k = y.k then (if x.o = y.o then decide (x.e < y.e) else decide (x.o < y.o)) else ltB x.k y.k
noncomputable def IsK (h : Heap) (v : Value) (y : Ky) : Prop := ∃ a t1 t2 t3, v = .ref a ∧ IsTup h a #[.bytes y.k.toArray t1, .int y.o t2, .int y.e t3]
theorem IsK.keeps {h h' : Heap} {v : Value} {y : Ky} (H : IsK h v y) (hk : ∀ b o, h.get? b = some o → o.cls = .type "tuple" → h'.get? b = some o) : IsK h' v y := by
  obtain ⟨a, t1, t2, t3, rfl, o, ho, hc, hd⟩ := H
  exact ⟨a, t1, t2, t3, rfl, o, hk _ _ ho hc, hc, hd⟩
section
variable {prog : Program} {w : World} {A : Around} {E : Value → Shared → Prop} {s : Shared}
theorem eqBool_bytes {b c : List UInt8} {t u : Tok} {Q : Bool → Shared → Prop} (h : Q (decide (b = c)) s) : wpAny (model prog w) A (eqBool (.bytes b.toArray t) (.bytes c.toArray u)) Q E s := by
  unfold eqBool
  show wpAny _ _ (if (Value.bytes b.toArray t == Value.bytes c.toArray u) = true then _ else _) Q E s
  by_cases hab : (Value.bytes b.toArray t == Value.bytes c.toArray u) = true
  · rw [if_pos hab]
    have e : b = c := by have := eq_of_beq hab; injection this with e _; simpa using e
    subst e
    exact wpAny_bind (wpAny_rule (wpAny_pure (by simpa using h)))
  · rw [if_neg hab]
    refine wpAny_bind (richCompare_gives (op := .Eq) (T := "bytes") rfl rfl FB.slot_bytes_eq FB.entry_bytes_eq (FB.args_bytes_eq_2 _ _) (gives_bytes_eq _ _ t u) (fun x => nomatch x) (wpAny_truthy_bool ?_))
    have : (b.toArray.toList == c.toArray.toList) = decide (b = c) := by rw [Bool.eq_iff_iff]; simp
    rw [this]; exact h
theorem rich_lt_bytes {b c : List UInt8} {t u : Tok} {Q : Value → Shared → Prop} (h : Q (.bool (ltB b c)) s) : wpAny (model prog w) A (richCompare .Lt (.bytes b.toArray t) (.bytes c.toArray u)) Q E s :=
  richCompare_gives (op := .Lt) (T := "bytes") rfl rfl slot_bytes_lt entry_bytes_lt (args_bytes_lt_2 _ _) (gives_bytes_lt _ _ t u) (fun x => nomatch x) h
theorem op_lt_bytes {b c : List UInt8} {t u : Tok} {Q : Value → Shared → Prop} (h : Q (.bool (ltB b c)) s) : wpAny (model prog w) A (compareOp .Lt (.bytes b.toArray t) (.bytes c.toArray u)) Q E s := rich_lt_bytes h
theorem rich_lt_ky {v v' : Value} {x y : Ky} {Q : Value → Shared → Prop} (hu : A.units + 8 < cLine) (hx : IsK s.heap v x) (hy : IsK s.heap v' y) (h : Q (.bool (x.lt y)) s) :
    wpAny (model prog w) A (richCompare .Lt v v') Q E s := by
  obtain ⟨a, t1, t2, t3, rfl, hta⟩ := hx
  obtain ⟨b, u1, u2, u3, rfl, htb⟩ := hy
  refine wpAny_richCompare_same_room (op := .Lt) (T := "tuple") hta.typeIs htb.typeIs F.slot_tuple_lt
    (wpAny_call_entry F.slot_tuple_lt hta.typeIs F.entry_tuple_lt ?_ (F.args_tuple_lt_2 _ _)) (by omega)
  show wpAny _ _ (isInstance (.ref b) (.type "tuple") >>= fun r => _) _ _ s
  refine wpAny_bind (wpAny_isInstance htb.typeIs sub_tuple_tuple ?_)
  simp only [Bool.not_true, Bool.false_eq_true, if_false]
  refine wpAny_bind (tupleItemsOf_ hta (wpAny_bind (tupleItemsOf_ htb ?_)))
  simp only [List.zip_cons_cons, List.zip_nil_right, List.forIn_cons, List.forIn_nil]
  have fin : ∀ (b : Bool), b = x.lt y → wpAny (model prog w) A.in1 (ret (.bool b)) (fun fin s' => ∃ v, fin = Fin.done (Flow.ret v) ∧ v ≠ Value.notImplemented ∧ Q v s') E s :=
    fun b e => wpAny_pure ⟨_, rfl, (by intro e; cases e), by rw [e]; exact h⟩
  refine wpAny_bind (wpAny_bind (wpAny_bind (eqBool_bytes ?_)))
  by_cases hk : x.k = y.k
  · simp only [hk, decide_true, Bool.not_true, Bool.false_eq_true, if_false]
    refine wpAny_pure (wpAny_bind (wpAny_bind (wpAny_eqBool_int ?_)))
    by_cases ho : x.o = y.o
    · simp only [ho, beq_self_eq_true, Bool.not_true, Bool.false_eq_true, if_false]
      refine wpAny_pure (wpAny_bind (wpAny_bind (wpAny_eqBool_int ?_)))
      by_cases he : x.e = y.e
      · simp only [he, beq_self_eq_true, Bool.not_true, Bool.false_eq_true, if_false]
        refine wpAny_pure (wpAny_pure ?_)
        exact fin _ (by simp [Ky.lt, hk, ho, he])
      · have : (x.e == y.e) = false := by simpa using he
        simp only [this, Bool.not_false, if_true]
        refine wpAny_bind (wpAny_rule (wpAny_bind (lt_int ?_)))
        refine wpAny_bind (wpAny_pure (wpAny_pure (wpAny_pure (wpAny_pure ⟨_, rfl, (by intro e; cases e), ?_⟩))))
        have : x.lt y = decide (x.e < y.e) := by simp [Ky.lt, hk, ho]
        rw [this] at h; exact h
    · have : (x.o == y.o) = false := by simpa using ho
      simp only [this, Bool.not_false, if_true]
      refine wpAny_bind (wpAny_rule (wpAny_bind (lt_int ?_)))
      refine wpAny_bind (wpAny_pure (wpAny_pure (wpAny_pure (wpAny_pure ⟨_, rfl, (by intro e; cases e), ?_⟩))))
      have : x.lt y = decide (x.o < y.o) := by simp [Ky.lt, hk, ho]
      rw [this] at h; exact h
  · simp only [hk, decide_false, Bool.not_false, if_true]
    refine wpAny_bind (wpAny_rule (wpAny_bind (rich_lt_bytes ?_)))
    refine wpAny_bind (wpAny_pure (wpAny_pure (wpAny_pure (wpAny_pure ⟨_, rfl, (by intro e; cases e), ?_⟩))))
    have : x.lt y = ltB x.k y.k := by simp [Ky.lt, hk]
    rw [this] at h; exact h
theorem op_lt_ky {v v' : Value} {x y : Ky} {Q : Value → Shared → Prop} (hu : A.units + 8 < cLine) (hx : IsK s.heap v x) (hy : IsK s.heap v' y) (h : Q (.bool (x.lt y)) s) :
    wpAny (model prog w) A (compareOp .Lt v v') Q E s := rich_lt_ky hu hx hy h
end
end
section
open PySem PySem.W PyProof.Rows PySem.Calls
theorem Out.none {s₀ s : Shared} {W : List Addr} {led : List (Addr × Kn)} (O : Out s₀ W led s) : Out s₀ W [] s := ⟨O.sw, O.keep, fun _ hp => nomatch hp⟩
theorem Out.sub {s₀ s : Shared} {W : List Addr} {led led' : List (Addr × Kn)} (O : Out s₀ W led s) (h : ∀ p ∈ led', p ∈ led) : Out s₀ W led' s := ⟨O.sw, O.keep, fun p hp => O.hold p (h p hp)⟩
noncomputable abbrev P2 := Value × Ky
noncomputable def IsKs (h : Heap) (ps : List P2) : Prop := ∀ p ∈ ps, IsK h p.1 p.2
theorem St.openW {s₀ s : Shared} {L D : Addr} {l : List (Str × Value)} {o : Obj} {kn : Kn} (S : St s₀ [] L l [] s) (hD : s₀.heap.get? D = some o) (hk : kn.ok o) : St s₀ [D] L l [(D, kn)] s := by
  have hne : D ≠ L := fun e => by rw [e, S.above] at hD; cases hD
  refine ⟨⟨S.sw, fun b o e _ => S.keep b o e (by simp), fun p hp => ?_⟩, S.loc, by simp, fun p hp => ?_, fun p hp => ?_, ?_, S.above⟩
  · rw [List.mem_singleton.mp hp]; exact ⟨o, S.keep _ _ hD (by simp), hk⟩
  · rw [List.mem_singleton.mp hp]; exact hne
  · rw [List.mem_singleton.mp hp]; simp
  · simpa using Ne.symm hne
theorem St.pre {s₀ s : Shared} {W : List Addr} {L : Addr} {l r : List (Str × Value)} {led : List (Addr × Kn)} (S : St s₀ W L (l ++ r) led s) : St s₀ W L l led s :=
  S.mono_loc fun x v e => by rw [List.lookup_append, e]; rfl
theorem Out.isK {s₀ s : Shared} {D : Addr} {led : List (Addr × Kn)} {vs : List Value} {k : Nat} {v : Value} {y : Ky} (S : Out s₀ [D] led s) (hD : s₀.heap.get? D = some (lstO vs k)) (H : IsK s₀.heap v y) : IsK s.heap v y :=
  H.keeps fun b o e hc => S.keep b o e fun hm => by
    rw [List.mem_singleton.mp hm, hD] at e
    cases e
    exact absurd (show Value.type "list" = Value.type "tuple" from hc) (by decide)
theorem IsKs.set {h : Heap} {ps : List P2} (H : IsKs h ps) {i : Nat} {p : P2} (hp : IsK h p.1 p.2) : IsKs h (ps.set i p) := fun q hq => by
  rcases List.mem_or_eq_of_mem_set hq with hq | rfl
  · exact H q hq
  · exact hp
theorem IsKs.at {h : Heap} {ps : List P2} (H : IsKs h ps) {i : Nat} {p : P2} (hp : ps[i]? = some p) : IsK h p.1 p.2 := H p (List.mem_of_getElem? hp)
theorem map_at {ps : List P2} {i : Nat} {p : P2} (hp : ps[i]? = some p) : (ps.map (·.1))[i]? = some p.1 := by rw [List.getElem?_map, hp]; rfl
theorem half_int (p : Nat) (h : 0 < p) : ((p : Int) - 1).fdiv (2 ^ (1 : Int).toNat) = ((p - 1) / 2 : Nat) := by
  show ((p : Int) - 1).fdiv 2 = _
  rw [Int.fdiv_eq_ediv_of_nonneg _ (by omega)]; omega
theorem GW.next {w : World} {mg mb : Str → Option Value} {s₀ s : Shared} {W : List Addr} {L : Addr} {l : List (Str × Value)} {led : List (Addr × Kn)} (G : GW w mg mb s₀ W) (S : St s₀ W L l led s) : GW w mg mb s W :=
  fun h' hk => G h' fun b o e n => hk b o (S.keep b o e n) n
theorem x_expr {prog : Program} {w : World} {A : Around} {E : Value → Shared → Prop} {s : Shared} {env : Env} {e : Expr} {pos : Pos} {Q : Flow → Shared → Prop} (hi : interactive env = false) (hs : swapsWith e none pos.line env = pure false)
    (h : wpAny (model prog w) A (eval e env) (fun v s' => match v with | .ref _ => False | _ => Q .next s') E s) : wpAny (model prog w) A (exec (.Expr e pos) env) Q E s := wpAny_Expr h hi hs
theorem ift {P Q : Prop} (h : P) : if true = true then P else Q := h
theorem iff' {P Q : Prop} (h : Q) : if false = true then P else Q := h
theorem and_st {s₀ s : Shared} {W : List Addr} {L : Addr} {l : List (Str × Value)} {led : List (Addr × Kn)} {P : Prop} (S : St s₀ W L l led s) (h : P) : (∃ L l led, St s₀ W L l led s) ∧ P := ⟨⟨_, _, _, S⟩, h⟩
theorem St.led1 {s₀ s : Shared} {W : List Addr} {L D : Addr} {l : List (Str × Value)} {led : List (Addr × Kn)} {its : List Value} (S : St s₀ W L l led s) (h : (D, .lst its) ∈ led) : ∃ k, s.heap.get? D = some (lstO its k) := by
  obtain ⟨o, e, k, rfl⟩ := S.hold _ h
  exact ⟨k, e⟩
theorem Out.isKs {s₀ s : Shared} {D : Addr} {led : List (Addr × Kn)} {vs : List Value} {k : Nat} {ps : List P2} (S : Out s₀ [D] led s) (hD : s₀.heap.get? D = some (lstO vs k)) (H : IsKs s₀.heap ps) : IsKs s.heap ps :=
  fun p hp => S.isK hD (H p hp)
end
section
open PySem PySem.W PyProof.Rows PySem.Calls
inductive LedRm (a : Addr) : List (Addr × Kn) → List (Addr × Kn) → Prop
  | here {k r} : LedRm a ((a, k) :: r) r
  | there {p r r'} : LedRm a r r' → LedRm a (p :: r) (p :: r')
theorem LedRm.sub {a : Addr} {l l' : List (Addr × Kn)} (h : LedRm a l l') : l'.Sublist l := by
  induction h with
  | here => exact List.sublist_cons_self ..
  | there _ ih => exact ih.cons₂ _
theorem LedRm.mem {a : Addr} {l l' : List (Addr × Kn)} (h : LedRm a l l') : ∃ k, (a, k) ∈ l := by
  induction h with
  | here => exact ⟨_, .head _⟩
  | there _ ih => obtain ⟨k, hk⟩ := ih; exact ⟨k, .tail _ hk⟩
theorem LedRm.off {a : Addr} {l l' : List (Addr × Kn)} (h : LedRm a l l') (nd : (l.map (·.1)).Nodup) : ∀ p ∈ l', p.1 ≠ a := by
  induction h with
  | here =>
    intro p hp e
    simp only [List.map_cons, List.nodup_cons] at nd
    exact nd.1 (e ▸ List.mem_map_of_mem hp)
  | there h ih =>
    rename_i q r r'
    intro p hp
    simp only [List.map_cons, List.nodup_cons] at nd
    rcases List.mem_cons.mp hp with rfl | hp
    · intro e
      obtain ⟨k, hk⟩ := h.mem
      exact nd.1 (e ▸ List.mem_map_of_mem (f := (·.1)) hk)
    · exact ih nd.2 p hp
section
variable {s₀ s s' : Shared} {W : List Addr} {L D : Addr} {l l' : List (Str × Value)} {led led' : List (Addr × Kn)}
theorem St.subled (S : St s₀ W L l led s) (h : led'.Sublist led) : St s₀ W L l led' s :=
  ⟨⟨S.sw, S.keep, fun p hp => S.hold p (h.subset hp)⟩, S.loc, S.nd.sublist (h.map _), fun p hp => S.ne p (h.subset hp), fun p hp => S.fr p (h.subset hp), S.neW, S.above⟩
theorem St.forget {h' : Heap} {t : Nat} (S : St s₀ W L l led s) (hr : LedRm D led led') (hs : ∀ b o, b ≠ D → s.heap.get? b = some o → h'.get? b = some o) : St s₀ W L l led' { s with heap := h', toks := t } := by
  obtain ⟨k, hm⟩ := hr.mem
  have ha := S.fr _ hm
  have hoff := hr.off S.nd
  have hsub := hr.sub
  refine ⟨⟨S.sw.trans ⟨_, _, rfl⟩, fun b o e n => hs b o (fun q => ?_) (S.keep b o e n), fun p hp => ?_⟩, ?_, S.nd.sublist (hsub.map _), fun p hp => S.ne p (hsub.subset hp), fun p hp => S.fr p (hsub.subset hp), S.neW, S.above⟩
  · subst q
    rcases ha with ha | ha
    · exact n ha
    · rw [ha] at e; cases e
  · obtain ⟨o, e, r⟩ := S.hold p (hsub.subset hp)
    exact ⟨o, hs _ _ (hoff p hp) e, r⟩
  · obtain ⟨m, hn, hm'⟩ := S.loc
    exact ⟨m, hn.at' fun o e => hs L o (fun q => S.ne _ hm q.symm) e, hm'⟩
theorem St.ob {o : Obj} (S : St s₀ W L l led s) (hm : (D, .ob o) ∈ led) : s.heap.get? D = some o := by
  obtain ⟨o', e, rfl⟩ := S.hold _ hm
  exact e
theorem St.new {o : Obj} {kn : Kn} {h' : Heap} {t : Nat} (S : St s₀ W L l led s) (e : h' = s.heap.push o) (hf : o.isFreed = false) (hq : kn.ok o) :
    St s₀ W L l ((s.heap.objs.size, kn) :: led) { s with heap := h', toks := t } := by
  subst e
  exact S.push (Heap.get?_push_size _ hf) hq fun b o' q => Heap.get?_push_of_some _ q
end
section
variable {prog : Program} {w : World} {A : Around} {E : Value → Shared → Prop} {s₀ s : Shared} {W : List Addr} {L D I : Addr} {l l' : List (Str × Value)} {led led' : List (Addr × Kn)}
  {env : Env} {pos : Pos}
theorem x_for {target iter : Expr} {body orelse : List Stmt} {Q : Flow → Shared → Prop} (hs : ∀ x, foldedSetIterable iter env x = pure x)
    (h : wpAny (model prog w) A (eval iter env) (fun x s₁ => wpAny (model prog w) A (pyIter x) (fun it s₂ =>
      codeAny (model prog w) A (.forLoop target it body orelse env) (fun r s' => match r with | .ok f => Q f s' | .error e => cameBackBy (model prog w) A env E e s') s₂) E s₁) E s) :
    wpAny (model prog w) A (exec (.For target iter body orelse pos) env) Q E s := wpAny_For h hs
theorem for_loop {target : Expr} {body orelse : List Stmt} {it : Value} {Q : Flow → Shared → Prop} {X : Value → Shared → Prop} (ht : ∀ v, letOwnedTupleGo target it v = pure ()) (Inv : Nat → Shared → Prop) (n : Nat) (hI : Inv n s)
    (turn : ∀ n s E', Inv n s → PostFor (PL Inv n Q) fun QB => wpAny (model prog w) A (pyNext it) (fun r s₁ => match r with
      | none => wpAny (model prog w) A (execs orelse env) Q E' s₁
      | some v => wpAny (model prog w) A (assign target env v) (fun _ s₂ => wpAny (model prog w) A (execs body env) QB E' s₂) E' s₁) E' s) :
    codeAny (model prog w) A (.forLoop target it body orelse env) (fun r s' => match r with | .ok f => Q f s' | .error e => X e s') s :=
  codeAny_forLoop Inv (fun n s hI => turn n s _ hI _ ⟨fun f s h => by cases f <;> first | exact h | (obtain ⟨m, a, b⟩ := h; exact ⟨m, a, b⟩)⟩) n hI ht
theorem asg_name {x : Str} {p : Pos} {v : Value} {Q : Unit → Shared → Prop} (h : wpAny (model prog w) A (storeName env x v) Q E s) : wpAny (model prog w) A (assign (.Name x p) env v) Q E s := wpAny_assign_Name h
/-! ranges -/
noncomputable abbrev rangeO (a b c : Int) (t u v : Tok) : Obj := { cls := .type "range", data := .fields #[.int a t, .int b u, .int c v] }
noncomputable abbrev ritO (x left step : Int) : Obj := { cls := .type "range_iterator", data := .fields #[rawInt x, rawInt left, rawInt step] }
theorem c_range1 {n : Int} {t : Tok} {Q : Value → Shared → Prop} (S : St s₀ W L l led s) (h : ∀ r t0 t1 s', St s₀ W L l ((r, .ob (rangeO 0 n 1 t0 t t1)) :: led) s' → Q (.ref r) s') :
    wpAny (model prog w) A (call (.type "range") [.int n t]) Q E s := call_range_1 (h _ _ _ _ (S.new rfl rfl rfl))
theorem it_range {a b c : Int} {t u v : Tok} {r : Addr} {Q : Value → Shared → Prop} (S : St s₀ W L l led s) (hm : (r, .ob (rangeO a b c t u v)) ∈ led) (hs : Builtin.Range.small a b c = true)
    (h : ∀ I s', St s₀ W L l ((I, .ob (ritO a (Builtin.Range.rangeSize a b c) c)) :: led) s' → Q (.ref I) s') : wpAny (model prog w) A (pyIter (.ref r)) Q E s :=
  wpAny_pyIter_range (S.ob hm) hs (h _ _ (S.new (t := s.toks) rfl rfl rfl))
theorem it_rit {x left step : Int} {Q : Value → Shared → Prop} (S : St s₀ W L l led s) (hm : (I, .ob (ritO x left step)) ∈ led) (h : Q (.ref I) s) : wpAny (model prog w) A (pyIter (.ref I)) Q E s :=
  wpAny_pyIter_rangeiter (S.ob hm) h
theorem nx_rit {x left step : Int} {Q : Option Value → Shared → Prop} (S : St s₀ W L l led s) (hu : LedUp I (.ob (ritO x left step)) (.ob (ritO (x + step) (left - 1) step)) led led') (h0 : 0 < left)
    (h : ∀ t s', St s₀ W L l led' s' → Q (some (.int x t)) s') : wpAny (model prog w) A (pyNext (.ref I)) Q E s :=
  wpAny_pyNext_range_item (S.ob hu.mem) h0 fun h' hi hs => h _ _ (S.upd hu hi rfl fun b o hb e => hs.extBut b o hb e)
theorem nx_rit_end {x left step : Int} {Q : Option Value → Shared → Prop} (S : St s₀ W L l led s) (hA : A.handled = none) (hm : (I, .ob (ritO x left step)) ∈ led) (hr : LedRm I led led') (h0 : left ≤ 0)
    (h : ∀ s', St s₀ W L l led' s' → Q none s') : wpAny (model prog w) A (pyNext (.ref I)) Q E s :=
  wpAny_pyNext_range_end hA (S.ob hm) h0 fun h' hs => h _ (S.forget (t := s.toks) hr fun b o hb e => hs b o hb e)
/-! reversed(range(n)) -/
theorem sub_rit_reversed : isSubtype (.type "range_iterator") (.type "reversed") = pure false := by rw [isSubtype_type]; kernel_rfl
theorem call_range_reversed {r : Addr} {n : Int} {t u v : Tok} {Q : Value → Shared → Prop} (hr : s.heap.get? r = some (rangeO 0 n 1 t u v)) (h0 : 0 ≤ n) (h1 : n ≤ 1000000)
    (h : Q (.ref s.heap.objs.size) { s with heap := s.heap.push (ritO (n - 1) n (-1)) }) : wpAny (model prog w) A (call (.builtin "range.__reversed__") [.ref r]) Q E s := by
  have hT : s.TypeIs (.ref r) "range" := ⟨_, hr, rfl⟩
  have hsz : Builtin.Range.rangeSize 0 n 1 = n := by
    unfold Builtin.Range.rangeSize
    simp only [show (1 : Int) > 0 by decide, if_true, Int.ediv_one]
    split <;> walk_at "lia"
  refine wpAny_call_entry F.slot_range_reversed hT F.entry_range_reversed ?_ (F.args_range_reversed_1 _)
  unfold Builtin.«range.__reversed__»
  refine wpAny_bind (wpAny_of_eq (a := Value.ref r) rfl ?_)
  refine wpAny_bind (m := Builtin.Range.rangeFields (.ref r)) ?_
  unfold Builtin.Range.rangeFields
  refine wpAny_bind (wpAny_field hr rfl (x := .int 0 t) rfl (wpAny_bind (wpAny_of_eq (a := some 0) rfl ?_)))
  refine wpAny_bind (wpAny_field hr rfl (x := .int n u) rfl (wpAny_bind (wpAny_of_eq (a := some n) rfl ?_)))
  refine wpAny_bind (wpAny_field hr rfl (x := .int 1 v) rfl (wpAny_bind (wpAny_of_eq (a := some 1) rfl ?_)))
  refine wpAny_pure ?_
  dsimp only
  have hsmall : (Builtin.Range.rangeFitsLong 0 && Builtin.Range.rangeFitsLong n && Builtin.Range.rangeFitsLong 1 && Builtin.Range.rangeFitsLong (-1) && Builtin.Range.rangeFitsLong (0 - 1) && Builtin.Range.rangeFitsLong (Builtin.Range.rangeSize 0 n 1)) = true := by
    rw [hsz]
    simp only [Builtin.Range.rangeFitsLong, Bool.and_eq_true, decide_eq_true_eq]
    walk_at "lia"
  rw [hsmall]
  simp only [Bool.not_true, Bool.false_eq_true, if_false, if_true, hsz, Int.mul_one, Int.zero_add]
  try refine wpAny_bind (wpAny_pure ?_)
  exact wpAny_bind (wpAny_newObj_type (wpAny_pure ⟨_, rfl, h⟩))
theorem code_reversed_range {r : Addr} {n : Int} {t u v : Tok} {Q₁ : Value → Shared → Prop} (hr : s.heap.get? r = some (rangeO 0 n 1 t u v)) (h0 : 0 ≤ n) (h1 : n ≤ 1000000)
    (h : Q₁ (.ref s.heap.objs.size) { s with heap := s.heap.push (ritO (n - 1) n (-1)) }) :
    codeAny (model prog w) A (.call (.builtin "reversed.__new__") ⟨[.type "reversed", .ref r], []⟩) (wants Q₁ E) s := by
  have hT : s.TypeIs (.ref r) "range" := ⟨_, hr, rfl⟩
  refine codeAny_of_tree ?_
  show wpAny _ A.in1 (do checkBuiltinCall "reversed.__new__" ⟨[.type "reversed", .ref r], []⟩; again (.builtin "reversed.__new__" ⟨[.type "reversed", .ref r], []⟩)) _ _ s
  refine wpAny_bind (wpAny_of_eq (F.newCall_reversed_1 _) (wpAny_pure ⟨plainId_quiet F.plain_reversed_new _, codeAny_builtin F.entry_reversed_new ?_⟩))
  rw [Around.under_plainId F.plain_reversed_new _]
  unfold Builtin.«reversed.__new__»
  refine wpAny_bind (wpAny_of_eq (newClass_reversed _) ?_)
  try dsimp only
  refine wpAny_bind (wpAny_of_eq (a := ()) (by first | rfl | kernel_rfl) ?_)
  refine wpAny_bind (wpAny_of_eq (a := ()) (by first | rfl | kernel_rfl) ?_)
  try dsimp only
  refine wpAny_bind (wpAny_specialOf hT F.slot_range_reversed.lookup ?_)
  try dsimp only
  refine wpAny_bind (wpAny_of_eq (F.slot_range_reversed.bind _) ?_)
  try dsimp only
  first
  | rw [if_neg (show ¬ ((Value.builtin "range.__reversed__" == Value.none) = true) from Bool.false_ne_true)]
  | (show wpAny _ _ (if (Value.builtin "range.__reversed__" == Value.none) = true then _ else _) _ _ _; rw [if_neg (show ¬ ((Value.builtin "range.__reversed__" == Value.none) = true) from Bool.false_ne_true)])
  refine wpAny_bind (wpAny_rule ?_)
  refine wpAny_bind (m := runValue (.call (.builtin "range.__reversed__") ⟨[.ref r], []⟩)) (show wpAny _ _ (call (.builtin "range.__reversed__") [.ref r]) _ _ _ from call_range_reversed hr h0 h1 ?_)
  first
  | exact wpAny_pure h
  | exact wpAny_bind (wpAny_pure (wpAny_pure h))
theorem c_reversed_range {r : Addr} {n : Int} {t u v : Tok} {Q : Value → Shared → Prop} (S : St s₀ W L l led s) (hm : (r, .ob (rangeO 0 n 1 t u v)) ∈ led) (h0 : 0 ≤ n) (h1 : n ≤ 1000000)
    (h : ∀ I s', St s₀ W L l ((I, .ob (ritO (n - 1) n (-1))) :: led) s' → Q (.ref I) s') : wpAny (model prog w) A (call (.type "reversed") [.ref r]) Q E s := by
  refine callType_other (U := "range_iterator") (Q₁ := fun obj s₁ => obj = .ref s.heap.objs.size ∧ s₁ = { s with heap := s.heap.push (ritO (n - 1) n (-1)) }) (by decide +kernel) F.create_reversed ⟨_, _, F.mro_reversed⟩ F.made_reversed sub_rit_reversed (F.typeCall_reversed_1 _) (code_reversed_range (S.ob hm) h0 h1 ⟨rfl, rfl⟩) ?_
  rintro obj s₁ ⟨rfl, rfl⟩
  exact ⟨⟨_, Heap.get?_push_size _ rfl, rfl⟩, h _ _ (S.new (t := s.toks) rfl rfl rfl)⟩
end
end
section
open PySem PySem.W PyProof.Rows PySem.Calls
/-! ## joining the outcome of a piece (a call, a comprehension) to a state -/
theorem St.merge {s₀ s s' : Shared} {W W' : List Addr} {L : Addr} {l : List (Str × Value)} {led lw rest : List (Addr × Kn)} (S : St s₀ W L l led s) (O : Out s W' lw s')
    (hW : ∀ a ∈ W', a ∈ led.map (·.1)) (hl : ∀ p ∈ lw, p.1 ∈ W' ∨ s.heap.get? p.1 = none) (hn : (lw.map (·.1)).Nodup) (hr : rest.Sublist led) (hr2 : ∀ p ∈ rest, p.1 ∉ W') : St s₀ W L l (lw ++ rest) s' := by
  have hWL : ∀ a ∈ W', a ≠ L := fun a ha => by
    obtain ⟨p, hp, rfl⟩ := List.mem_map.mp (hW a ha)
    exact S.ne p hp
  have hW0 : ∀ a ∈ W', a ∈ W ∨ s₀.heap.get? a = none := fun a ha => by
    obtain ⟨p, hp, rfl⟩ := List.mem_map.mp (hW a ha)
    exact S.fr p hp
  have hrest : ∀ p ∈ rest, ∃ o, s'.heap.get? p.1 = some o ∧ p.2.ok o := fun p hp => by
    obtain ⟨o, e, q⟩ := S.hold p (hr.subset hp)
    exact ⟨o, O.keep _ _ e (hr2 p hp), q⟩
  refine ⟨⟨S.sw.trans O.sw, fun b o e n => O.keep b o (S.keep b o e n) fun hb => ?_, fun p hp => ?_⟩, ?_, ?_, fun p hp => ?_, fun p hp => ?_, S.neW, S.above⟩
  · rcases hW0 b hb with h | h
    · exact n h
    · rw [h] at e; cases e
  · rcases List.mem_append.mp hp with h | h
    · exact O.hold p h
    · exact hrest p h
  · obtain ⟨m, hn, hm⟩ := S.loc
    exact ⟨m, hn.at' fun o e => O.keep L o e fun h => hWL L h rfl, hm⟩
  · rw [List.map_append, List.nodup_append]
    refine ⟨hn, S.nd.sublist (hr.map _), fun a ha b hb e => ?_⟩
    subst e
    obtain ⟨p, hp, rfl⟩ := List.mem_map.mp ha
    obtain ⟨q, hq, e⟩ := List.mem_map.mp hb
    rcases hl p hp with h | h
    · exact hr2 q hq (e ▸ h)
    · obtain ⟨o, e', _⟩ := S.hold q (hr.subset hq)
      rw [e, h] at e'; cases e'
  · rcases List.mem_append.mp hp with h | h
    · rcases hl p h with h1 | h1
      · exact hWL _ h1
      · intro e
        obtain ⟨m, hn, _⟩ := S.loc
        obtain ⟨o, _, _, ho, _⟩ := hn
        rw [e, ho] at h1; cases h1
    · exact S.ne p (hr.subset h)
  · rcases List.mem_append.mp hp with h | h
    · rcases hl p h with h1 | h1
      · exact hW0 _ h1
      · by_cases q : p.1 ∈ W
        · exact .inl q
        · right
          cases e : s₀.heap.get? p.1 with
          | none => rfl
          | some o => have := S.keep _ _ e q; rw [h1] at this; cases this
    · exact S.fr p (hr.subset h)
/-- a state off which a namespace of no account was written -/
theorem St.off {s₀ s : Shared} {W : List Addr} {L C : Addr} {l : List (Str × Value)} {led : List (Addr × Kn)} {h' : Heap} (S : St s₀ W L l led s) (hC : s₀.heap.get? C = none) (hL : C ≠ L) (hl : ∀ p ∈ led, p.1 ≠ C) (hs : Heap.SameBut C s.heap h') :
    St s₀ W L l led { s with heap := h' } := by
  refine ⟨⟨S.sw.trans ⟨_, _, rfl⟩, fun b o e n => hs.extBut b o (fun q => ?_) (S.keep b o e n), fun p hp => ?_⟩, ?_, S.nd, S.ne, S.fr, S.neW, S.above⟩
  · rw [q, hC] at e; cases e
  · obtain ⟨o, e, q⟩ := S.hold p hp
    exact ⟨o, hs.extBut _ _ (hl p hp) e, q⟩
  · obtain ⟨m, hn, hm⟩ := S.loc
    exact ⟨m, hn.sameBut hs (Ne.symm hL), hm⟩
section
variable {prog : Program} {w : World} {A : Around} {E : Value → Shared → Prop} {s₀ s : Shared} {mg mb : Str → Option Value} {W : List Addr} {L a D : Addr} {l l' : List (Str × Value)} {led led' : List (Addr × Kn)}
  {env : Env} {x : Str} {pos pos' : Pos} {v : Value}
/-! names in any function-like frame -/
theorem evE_loc {Q : Value → Shared → Prop} (S : St s₀ W L l led s) (hv : l.lookup x = some v) (h : Q v s)
    (hL : env.locals = L) (hk : env.scope.kind = .function) (hx : env.kindOf x = some .local) (hd : (x == ("__debug__" : Str)) = false) :
    wpAny (model prog w) A (eval (.Name x pos) env) Q E s := by
  obtain ⟨m, hn, hm⟩ := S.loc
  exact wpAny_Name (wpAny_loadName_local hk hx (hL ▸ hn) (hm x v hv) h) hd
theorem evE_glob {Q : Value → Shared → Prop} (G : GW w mg mb s₀ W) (S : St s₀ W L l led s) (hv : mg x = some v) (h : Q v s)
    (hg : env.globals = mainGlobals) (hk : env.scope.kind = .function) (hx : env.kindOf x = some .globalImplicit) (hd : (x == ("__debug__" : Str)) = false) :
    wpAny (model prog w) A (eval (.Name x pos) env) Q E s :=
  Name_function_global hk hx (loadGlobal_global (env := env) (hg ▸ (G.at_ S).g) hv h) hd
theorem evE_bi {Q : Value → Shared → Prop} (G : GW w mg mb s₀ W) (S : St s₀ W L l led s) (hmiss : mg x = none) (hv : bootBuiltins x = some v) (hn : x ≠ "__name__") (h : Q v s)
    (hg : env.globals = mainGlobals) (hb : env.builtins = builtinsNs) (hk : env.scope.kind = .function) (hx : env.kindOf x = some .globalImplicit) (hd : (x == ("__debug__" : Str)) = false) :
    wpAny (model prog w) A (eval (.Name x pos) env) Q E s :=
  Name_function_global hk hx (loadGlobal_builtin (env := env) (hg ▸ (G.at_ S).g) hmiss (hb ▸ (G.at_ S).b) (((G.at_ S).bi x hn).trans hv) h) hd
theorem evE_cell {c : Addr} {Q : Value → Shared → Prop} (hc : env.cells.lookup x = some c) (hv : s.heap.IsCell c (some v)) (h : Q v s) (hk : env.scope.kind = .function) (hx : env.kindOf x = some .cell) (hd : (x == ("__debug__" : Str)) = false) :
    wpAny (model prog w) A (eval (.Name x pos) env) Q E s := wpAny_Name (wpAny_loadName_cell hk hx hc hv h) hd
theorem evE_free {c : Addr} {Q : Value → Shared → Prop} (hc : env.cells.lookup x = some c) (hv : s.heap.IsCell c (some v)) (h : Q v s) (hk : env.scope.kind = .function) (hx : env.kindOf x = some .free) (hd : (x == ("__debug__" : Str)) = false)
    (hn : (x == ("__classdict__" : Str)) = false) : wpAny (model prog w) A (eval (.Name x pos) env) Q E s := wpAny_Name (wpAny_loadName_free hk hx hc hv h hn) hd
theorem stE_loc {Q : Unit → Shared → Prop} (S : St s₀ W L l led s) (hl : SetsTo x v l l') (h : ∀ s', St s₀ W L l' led s' → Q () s')
    (hL : env.locals = L) (hp : (env.scope.kind == .class || (env.scope.kind == .module && env.locals != env.globals)) = false) (hx : env.kindOf x = some .local) :
    wpAny (model prog w) A (storeName env x v) Q E s := by
  obtain ⟨m, hn, hm⟩ := S.loc
  subst hL
  refine wpAny_storeName_local hx hn (fun h' hn' hs => h _ ?_) hp
  refine ⟨⟨S.sw.trans ⟨_, _, rfl⟩, fun b o e n => (hs.2 b fun q => ?_).trans (S.keep b o e n), fun p hp => let ⟨o, e, q⟩ := S.hold p hp; ⟨o, (hs.2 _ (S.ne p hp)).trans e, q⟩⟩, ⟨_, hn', hm.set hl⟩, S.nd, S.ne, S.fr, S.neW, S.above⟩
  rw [q, S.above] at e; cases e
/-! the comprehension of one clause -/
noncomputable def CompIn (s₂ : Shared) (W : List Addr) (C D : Addr) (lc : List (Str × Value)) (ys : List Value) (lw : List (Addr × Kn)) (s : Shared) : Prop := St s₂ W C lc ((D, .lst ys) :: lw) s
theorem comp_go {elt target iter : Expr} {ifs : List Expr} {scope : Scope} {cl : List (Str × Addr)} {use : Option (Value → Sem Unit)} {Q : Value → Shared → Prop}
    (hs : ∀ x, foldedSetIterable iter env x = pure x) (hclos : closureFor scope env = pure cl) (hcell : ∀ y ∈ scope.names, y.2 ≠ .cell) (hkind : scope.kind = .function)
    (hnames : ∀ y ∈ scope.names, y.2 = .local → scope.names.lookup y.1 = some .local)
    (h : wpAny (model prog w) A (eval iter env) (fun xv s₁ => wpAny (model prog w) A (pyIter xv) (fun it s₂ =>
      Ex4 fun (W' : List Addr) (lw : List (Addr × Kn)) (J : Addr → Addr → Nat → Shared → Prop) (Fin : Addr → Addr → Shared → Prop) => And7 ((∀ p ∈ lw, ∃ o, s₂.heap.get? p.1 = some o ∧ p.2.ok o)) ((lw.map (·.1)).Nodup) ((∀ p ∈ lw, p.1 ∈ W')) ((∀ a ∈ W', a < s₂.heap.objs.size)) ((∀ C D s, s₂.heap.get? C = none → s₂.heap.get? D = none → St s₂ W' C [] ((D, .lst []) :: lw) s → (∃ n, J C D n s) ∧ ∀ (Q₁ : Value → Shared → Prop) E', Q₁ it s → wpAny (model prog w) A (pyIter it) Q₁ E' s)) ((∀ C D n s E', J C D n s → wpAny (model prog w) A (pyNext it) (fun r s₁ => match r with
          | none => Fin C D s₁
          | some v => wpAny (model prog w) A (letOwnedTupleGo target it v) (fun _ s₁' => wpAny (model prog w) A (assign target (compEnvC scope cl C env) v) (fun _ s₂' =>
              wpAny (model prog w) A (forIn ifs true fun c r => if r = true then do let ok ← isTrue c (compEnvC scope cl C env) (eval c (compEnvC scope cl C env)); pure (ForInStep.yield ok) else pure (ForInStep.yield r)) (fun ok s₃ =>
                if ok = true then wpAny (model prog w) A (eval elt (compEnvC scope cl C env)) (fun y s₄ => wpAny (model prog w) A (call (.builtin "list.append") [.ref D, y]) (fun _ s₅ => ∃ m, m < n ∧ J C D m s₅) E' s₄) E' s₃
                else ∃ m, m < n ∧ J C D m s₃) E' s₂') E' s₁') E' s₁) E' s)) ((∀ C D s', s₂.heap.get? C = none → s₂.heap.get? D = none → C ≠ D → Fin C D s' → ∃ m, s'.heap.Ns C m ∧ match use with
          | none => ∀ h', Heap.SameBut C s'.heap h' → Q (.ref D) { s' with heap := h' }
          | some u => wpAny (model prog w) A (u (.ref D)) (fun _ s'' => (∃ m, s''.heap.Ns C m) ∧ ∀ h', Heap.SameBut C s''.heap h' → Q .none { s'' with heap := h' }) E s'))) E s₁) E s) :
    wpAny (model prog w) A (comprehension (.ListComp elt [⟨target, iter, ifs, 0⟩] scope pos) scope env pos' (newList []) false (eval iter env) use) Q E s := by
  refine wpAny_comprehension_free (use := use) (g := ⟨target, iter, ifs, 0⟩) (gs := []) rfl hs hclos hkind hnames (wpAny_mono h (fun xv s₁ h₁ => wpAny_mono h₁ (fun it s₂ h₂ => ?_) fun _ _ e => e) fun _ _ e => e)
  obtain ⟨W', lw, J, Fin, hold, nd, hW, hlt, init, turn, fin⟩ := h₂
  refine wpAny_newObj_type (wpAny_newFunctionEnv hcell (by intro y hy; simp at hy) (fun h₁ hns₁ hsb₁ => ?_) hkind)
  dsimp only at hns₁ hsb₁ ⊢
  generalize hH2 : s₂.heap.push { cls := .type "list", dict := none, data := .seq ([] : List Value).toArray } = H2 at hns₁ hsb₁ ⊢
  have hC : H2.objs.size = s₂.heap.objs.size + 1 := by rw [← hH2, Heap.size_push]
  have hDC : s₂.heap.objs.size ≠ H2.objs.size := by rw [hC]; exact Nat.ne_of_lt (Nat.lt_succ_self _)
  have below : ∀ b, b < s₂.heap.objs.size → b ≠ H2.objs.size ∧ b ≠ s₂.heap.objs.size := fun b hb => ⟨by rw [hC]; exact Nat.ne_of_lt (Nat.lt_succ_of_lt hb), Nat.ne_of_lt hb⟩
  have old : ∀ b o, s₂.heap.get? b = some o → h₁.get? b = some o := fun b o e => hsb₁.extBut b o (below b (Heap.lt_size e)).1 (Heap.get?_push_of_some _ (hH2 ▸ Heap.get?_push_of_some _ e))
  have hacc : h₁.get? s₂.heap.objs.size = some (lstO [] 0) := hsb₁.extBut _ _ hDC (Heap.get?_push_of_some _ (hH2 ▸ Heap.get?_push_size _ rfl))
  have fresh : ∀ a, s₂.heap.objs.size ≤ a → s₂.heap.get? a = none := fun a ha => by
    cases e : s₂.heap.get? a with
    | none => rfl
    | some o' => exact absurd (Heap.lt_size e) (Nat.not_lt.mpr ha)
  have hCf : s₂.heap.get? H2.objs.size = none := fresh _ (by rw [hC]; exact Nat.le_succ _)
  have hDf : s₂.heap.get? s₂.heap.objs.size = none := fresh _ (Nat.le_refl _)
  have S0 : St s₂ W' H2.objs.size [] ((s₂.heap.objs.size, .lst []) :: lw) { s₂ with heap := h₁, toks := s₂.toks + ([] : List (Str × Value)).length } := by
    refine ⟨⟨⟨_, _, rfl⟩, fun b o e _ => old b o e, fun p hp => ?_⟩, ⟨_, hns₁, fun x v e => by cases e⟩, ?_, fun p hp => ?_, fun p hp => ?_, ?_, hCf⟩
    · rcases List.mem_cons.mp hp with rfl | hp
      · exact ⟨_, hacc, _, rfl⟩
      · obtain ⟨o, e, q⟩ := hold p hp
        exact ⟨o, old _ _ e, q⟩
    · rw [List.map_cons, List.nodup_cons]
      refine ⟨fun hm => ?_, nd⟩
      obtain ⟨p, hp, e⟩ := List.mem_map.mp hm
      exact (below _ (hlt _ (hW p hp))).2 e
    · rcases List.mem_cons.mp hp with rfl | hp
      · exact hDC
      · exact (below _ (hlt _ (hW p hp))).1
    · rcases List.mem_cons.mp hp with rfl | hp
      · exact .inr hDf
      · exact .inl (hW p hp)
    · exact fun hm => (below _ (hlt _ hm)).1 rfl
  obtain ⟨⟨n, hJ⟩, hit⟩ := init _ _ _ hCf hDf S0
  have loop : codeAny (model prog w) A (.compLoop (.ListComp elt [⟨target, iter, ifs, 0⟩] scope pos) 0 it (.ref s₂.heap.objs.size) (compEnvC scope cl H2.objs.size env))
      (compPost (model prog w) A E use Q (.ref s₂.heap.objs.size) H2.objs.size) { s₂ with heap := h₁, toks := s₂.toks + ([] : List (Str × Value)).length } := by
    refine codeAny_loop rfl (J H2.objs.size s₂.heap.objs.size) (fun n s hI => ?_) n hJ
    show wpAny _ A ((compTurn (.ListComp elt [⟨target, iter, ifs, 0⟩] scope pos) 0 it (.ref s₂.heap.objs.size) (compEnvC scope cl H2.objs.size env)).onRaise (fun x => do noteFrame x (compEnvC scope cl H2.objs.size env); theTreesLotGoes x)) _ _ s
    refine wpAny_noted ?_
    rw [compTurn_list]
    refine wpAny_bind (wpAny_standAt (wpAny_bind (wpAny_mono (turn _ _ n s _ hI) (fun r s₁ h₁ => ?_) fun _ _ h' => h')))
    cases r with
    | none =>
      refine wpAny_pure ?_
      obtain ⟨m, hm, hq⟩ := fin _ _ _ hCf hDf (Ne.symm hDC) h₁
      cases use with
      | none => exact ⟨m, hm, hq⟩
      | some u => exact wpAny_mono hq (fun _ s'' ⟨⟨m, h1⟩, h2⟩ => ⟨m, h1, h2⟩) fun _ _ e => e
    | some v =>
      refine wpAny_bind (wpAny_mono h₁ (fun _ s₁' h₁' => ?_) fun _ _ h' => h')
      refine wpAny_bind (wpAny_mono h₁' (fun _ s₂ h₂ => wpAny_bind (wpAny_mono h₂ (fun ok s₃ h₃ => ?_) fun _ _ h' => h')) fun _ _ h' => h')
      cases ok with
      | false => exact wpAny_pure ⟨rfl, h₃⟩
      | true => exact wpAny_bind (wpAny_bind (wpAny_mono h₃ (fun x s₄ h₄ => wpAny_bind (wpAny_mono h₄ (fun _ s₅ h₅ => wpAny_pure (wpAny_pure ⟨rfl, h₅⟩)) fun _ _ h' => h')) fun _ _ h' => h'))
  exact codeAny_compStart_list loop (hit _ _ loop)
end
end
section
open PySem PySem.W PyProof.Rows PySem.Calls
noncomputable abbrev S (l : List Nat) : Str := ⟨l.toArray⟩
theorem S_app (a b : List Nat) : S a ++ S b = S (a ++ b) := by
  show Str.mk (a.toArray ++ b.toArray) = _
  simp
theorem S_len (a : List Nat) : (S a).length = a.length := by simp [Str.length]
inductive Chs : List Value → List Nat → Prop
  | nil : Chs [] []
  | cons {c t vs cs} : Chs vs cs → Chs (.str (S [c]) t :: vs) (c :: cs)
theorem Chs.length {vs : List Value} {cs : List Nat} (h : Chs vs cs) : vs.length = cs.length := by
  induction h with
  | nil => rfl
  | cons _ ih => simp [ih]
theorem Chs.snoc {vs : List Value} {cs : List Nat} {c : Nat} {t : Tok} (h : Chs vs cs) : Chs (vs ++ [.str (S [c]) t]) (cs ++ [c]) := by
  induction h with
  | nil => exact .cons .nil
  | cons _ ih => exact .cons ih
theorem Chs.at {vs : List Value} {cs : List Nat} (h : Chs vs cs) : ∀ {i : Nat}, i < cs.length → ∃ c t, vs[i]? = some (.str (S [c]) t) ∧ cs[i]? = some c := by
  induction h with
  | nil => intro i hi; simp at hi
  | @cons c t vs cs h ih =>
    intro i hi
    cases i with
    | zero => exact ⟨c, t, rfl, rfl⟩
    | succ i => exact ih (by simpa using hi)
/-! iterators as the ledger sees them -/
noncomputable abbrev litK (a : Addr) (i : Nat) : Kn := .pr fun o => o.cls = .type "list_iterator" ∧ o.data = .fields #[.ref a, .int i 0]
noncomputable abbrev titK (a : Addr) (i : Nat) : Kn := .pr fun o => o.cls = .type "tuple_iterator" ∧ o.data = .fields #[.ref a, .int i 0]
noncomputable abbrev sitK (x : Str) (t : Tok) (i : Nat) : Kn := .pr fun o => o.cls = .type "str_ascii_iterator" ∧ o.data = .fields #[.str x t, .int i 0]
noncomputable abbrev bitK (b : Array UInt8) (t : Tok) (i : Nat) : Kn := .pr fun o => o.cls = .type "bytes_iterator" ∧ o.data = .fields #[.bytes b t, .int i 0]
section
variable {prog : Program} {w : World} {A : Around} {E : Value → Shared → Prop} {s₀ s : Shared} {W : List Addr} {L D I a : Addr} {l l' : List (Str × Value)} {led led' : List (Addr × Kn)}
  {env : Env} {pos : Pos} {v : Value}
theorem it_list {its : List Value} {Q : Value → Shared → Prop} (S : St s₀ W L l led s) (hl : s.heap.IsList a its.toArray) (h : ∀ I s', St s₀ W L l ((I, litK a 0) :: led) s' → s'.heap.IsList a its.toArray → Q (.ref I) s') : wpAny (model prog w) A (pyIter (.ref a)) Q E s :=
  wpAny_pyIter_list hl (h _ _ (S.new (t := s.toks) rfl rfl ⟨rfl, rfl⟩) (by obtain ⟨o, e, r⟩ := hl; exact ⟨o, Heap.get?_push_of_some _ e, r⟩))
theorem St.kn {kn : Kn} (S : St s₀ W L l led s) (hm : (I, kn) ∈ led) : ∃ o, s.heap.get? I = some o ∧ kn.ok o := S.hold _ hm
theorem it_lit {i : Nat} {Q : Value → Shared → Prop} (S : St s₀ W L l led s) (hm : (I, litK a i) ∈ led) (h : Q (.ref I) s) : wpAny (model prog w) A (pyIter (.ref I)) Q E s := wpAny_pyIter_listiter (S.kn hm) h
theorem nx_lit {its : List Value} {i : Nat} {Q : Option Value → Shared → Prop} (S : St s₀ W L l led s) (hu : LedUp I (litK a i) (litK a (i + 1)) led led') (hl : s.heap.IsList a its.toArray) (hx : its[i]? = some v)
    (h : ∀ s', St s₀ W L l led' s' → Q (some v) s') : wpAny (model prog w) A (pyNext (.ref I)) Q E s :=
  wpAny_pyNext_list_item (S.kn hu.mem) hl (by simpa using hx) fun h' ⟨o, ho, hi⟩ hs => h _ (S.upd (t := s.toks) hu ho hi fun b o hb e => hs.extBut b o hb e)
theorem nx_lit_end {its : List Value} {i : Nat} {Q : Option Value → Shared → Prop} (S : St s₀ W L l led s) (hA : A.handled = none) (hm : (I, litK a i) ∈ led) (hr : LedRm I led led') (hl : s.heap.IsList a its.toArray) (hx : its[i]? = none)
    (h : ∀ s', St s₀ W L l led' s' → Q none s') : wpAny (model prog w) A (pyNext (.ref I)) Q E s :=
  wpAny_pyNext_list_end hA (S.kn hm) hl (by simpa using hx) fun h' hs => h _ (S.forget (t := s.toks) hr fun b o hb e => hs b o hb e)
theorem it_tup {its : List Value} {Q : Value → Shared → Prop} (S : St s₀ W L l led s) (hl : IsTup s.heap a its.toArray) (h : ∀ I s', St s₀ W L l ((I, titK a 0) :: led) s' → IsTup s'.heap a its.toArray → Q (.ref I) s') : wpAny (model prog w) A (pyIter (.ref a)) Q E s :=
  wpAny_pyIter_tuple hl (h _ _ (S.new (t := s.toks) rfl rfl ⟨rfl, rfl⟩) (by obtain ⟨o, e, r⟩ := hl; exact ⟨o, Heap.get?_push_of_some _ e, r⟩))
theorem nx_tit {its : List Value} {i : Nat} {Q : Option Value → Shared → Prop} (S : St s₀ W L l led s) (hu : LedUp I (titK a i) (titK a (i + 1)) led led') (hl : IsTup s.heap a its.toArray) (hx : its[i]? = some v)
    (h : ∀ s', St s₀ W L l led' s' → Q (some v) s') : wpAny (model prog w) A (pyNext (.ref I)) Q E s :=
  wpAny_pyNext_tuple_item (S.kn hu.mem) hl (by simpa using hx) fun h' ⟨o, ho, hi⟩ hs => h _ (S.upd (t := s.toks) hu ho hi fun b o hb e => hs.extBut b o hb e)
theorem nx_tit_end {its : List Value} {i : Nat} {Q : Option Value → Shared → Prop} (S : St s₀ W L l led s) (hA : A.handled = none) (hm : (I, titK a i) ∈ led) (hr : LedRm I led led') (hl : IsTup s.heap a its.toArray) (hx : its[i]? = none)
    (h : ∀ s', St s₀ W L l led' s' → Q none s') : wpAny (model prog w) A (pyNext (.ref I)) Q E s :=
  wpAny_pyNext_tuple_end hA (S.kn hm) hl (by simpa using hx) fun h' hs => h _ (S.forget (t := s.toks) hr fun b o hb e => hs b o hb e)
theorem it_str {x : Str} {t : Tok} {Q : Value → Shared → Prop} (S : St s₀ W L l led s) (ha : x.cps.all (· < 128) = true) (h : ∀ I s', St s₀ W L l ((I, sitK x t 0) :: led) s' → Q (.ref I) s') : wpAny (model prog w) A (pyIter (.str x t)) Q E s :=
  wpAny_pyIter_ascii ha (h _ _ (S.new (t := s.toks) rfl rfl ⟨rfl, rfl⟩))
theorem it_sit {x : Str} {t : Tok} {i : Nat} {Q : Value → Shared → Prop} (S : St s₀ W L l led s) (hm : (I, sitK x t i) ∈ led) (h : Q (.ref I) s) : wpAny (model prog w) A (pyIter (.ref I)) Q E s := wpAny_pyIter_striter_ascii (S.kn hm) h
theorem nx_sit {x : Str} {t : Tok} {i c : Nat} {Q : Option Value → Shared → Prop} (S : St s₀ W L l led s) (hu : LedUp I (sitK x t i) (sitK x t (i + 1)) led led') (hx : x.cps[i]? = some c)
    (h : ∀ t' s', St s₀ W L l led' s' → Q (some (.str (Mine.S [c]) t')) s') : wpAny (model prog w) A (pyNext (.ref I)) Q E s :=
  wpAny_pyNext_ascii_item (S.kn hu.mem) hx fun h' ⟨o, ho, hi⟩ hs => h _ _ (S.upd hu ho hi fun b o hb e => hs.extBut b o hb e)
theorem nx_sit_end {x : Str} {t : Tok} {i : Nat} {Q : Option Value → Shared → Prop} (S : St s₀ W L l led s) (hA : A.handled = none) (hm : (I, sitK x t i) ∈ led) (hr : LedRm I led led') (hx : x.cps[i]? = none)
    (h : ∀ s', St s₀ W L l led' s' → Q none s') : wpAny (model prog w) A (pyNext (.ref I)) Q E s :=
  wpAny_pyNext_ascii_end hA (S.kn hm) hx fun h' hs => h _ (S.forget (t := s.toks) hr fun b o hb e => hs b o hb e)
theorem it_bytes {b : Array UInt8} {t : Tok} {Q : Value → Shared → Prop} (S : St s₀ W L l led s) (h : ∀ I s', St s₀ W L l ((I, bitK b t 0) :: led) s' → Q (.ref I) s') : wpAny (model prog w) A (pyIter (.bytes b t)) Q E s :=
  KBw.pyIter_bytes (h _ _ (S.new (t := s.toks) rfl rfl ⟨rfl, rfl⟩))
theorem nx_bit {b : Array UInt8} {t : Tok} {i : Nat} {c : UInt8} {Q : Option Value → Shared → Prop} (S : St s₀ W L l led s) (hu : LedUp I (bitK b t i) (bitK b t (i + 1)) led led') (hx : b[i]? = some c)
    (h : ∀ t' s', St s₀ W L l led' s' → Q (some (.int (c.toNat : Int) t')) s') : wpAny (model prog w) A (pyNext (.ref I)) Q E s :=
  KBw.next_item (S.kn hu.mem) hx fun h' ⟨o, ho, hi⟩ hs => h _ _ (S.upd hu ho hi fun b o hb e => hs.extBut b o hb e)
theorem nx_bit_end {b : Array UInt8} {t : Tok} {i : Nat} {Q : Option Value → Shared → Prop} (S : St s₀ W L l led s) (hA : A.handled = none) (hm : (I, bitK b t i) ∈ led) (hr : LedRm I led led') (hx : b[i]? = none)
    (h : ∀ s', St s₀ W L l led' s' → Q none s') : wpAny (model prog w) A (pyNext (.ref I)) Q E s :=
  KBw.next_end hA (S.kn hm) hx fun h' hs => h _ (S.forget (t := s.toks) hr fun b o hb e => hs b o hb e)
/-! strings -/
theorem op_sadd {x y : List Nat} {t u : Tok} {Q : Value → Shared → Prop} (S : St s₀ W L l led s) (hz : x.length + y.length ≤ 1000) (h : ∀ t s', St s₀ W L l led s' → Q (.str (Mine.S (x ++ y)) t) s') :
    wpAny (model prog w) A (binaryOp .Add (.str (Mine.S x) t) (.str (Mine.S y) u)) Q E s :=
  PyProof.Rows.add_str (fun t' k => by rw [S_app]; exact h _ _ (S.toks k)) (by rw [S_len, S_len]; exact Nat.le_trans hz (by decide))
theorem op_isadd {x y : List Nat} {t u : Tok} {Q : Value → Shared → Prop} (S : St s₀ W L l led s) (hz : x.length + y.length ≤ 1000) (h : ∀ t s', St s₀ W L l led s' → Q (.str (Mine.S (x ++ y)) t) s') :
    wpAny (model prog w) A (inplaceOp .Add (.str (Mine.S x) t) (.str (Mine.S y) u)) Q E s :=
  PyProof.Rows.iadd_str (fun t' k => by rw [S_app]; exact h _ _ (S.toks k)) (by rw [S_len, S_len]; exact Nat.le_trans hz (by decide))
theorem item_S {x : List Nat} {t u : Tok} {k : Int} {c : Nat} {value slice : Expr} {Q : Value → Shared → Prop} (S : St s₀ W L l led s) (h0 : 0 ≤ k) (hc : x[k.toNat]? = some c) (hz : x.length ≤ 1000)
    (h : ∀ t s', St s₀ W L l led s' → Q (.str (Mine.S [c]) t) s')
    (hs : subscripted slice false (.str (Mine.S x) t) (.int k u) = operate [.str (Mine.S x) t, .int k u] (getItem (.str (Mine.S x) t) (.int k u)) := by with_unfolding_all rfl)
    (ht : ∀ r, letTemporaryGo value (.str (Mine.S x) t) r = pure () := by intro _; with_unfolding_all rfl) :
    wpAny (model prog w) A (subscriptTail value slice (.str (Mine.S x) t) (.int k u)) Q E s := by
  have hlt : k.toNat < x.length := by
    rcases Nat.lt_or_ge k.toNat x.length with h | h
    · exact h
    · rw [List.getElem?_eq_none h] at hc; cases hc
  refine item_str (by simp [fitsSsize]; walk_at "lia") (by rw [S_len]; walk_at "lia") (by rw [S_len]; walk_at "lia") (fun _ => ?_) hs ht
  rw [item_meets h0 (n := c) (by simpa using hc)]
  exact h _ _ (S.toks _)
theorem in_S {x : List Nat} {c : Nat} {t u : Tok} {Q : Value → Shared → Prop} (h : Q (.bool (decide (c ∈ x))) s) : wpAny (model prog w) A (compareOp .In (.str (Mine.S [c]) u) (.str (Mine.S x) t)) Q E s :=
  PyProof.Rows.in_str (by rw [StrLaws.found_one]; simpa using h)
theorem notin_S {x : List Nat} {c : Nat} {t u : Tok} {Q : Value → Shared → Prop} (h : Q (.bool (!(decide (c ∈ x)))) s) : wpAny (model prog w) A (compareOp .NotIn (.str (Mine.S [c]) u) (.str (Mine.S x) t)) Q E s :=
  PyProof.Rows.notIn_str (by rw [StrLaws.found_one]; simpa using h)
theorem index_S {x y : Str} {t u : Tok} {i : Nat} {Q : Value → Shared → Prop} (S : St s₀ W L l led s) (ho : Builtin.Str.occurrences x y 0 x.length 1 = [i]) (h : ∀ t s', St s₀ W L l led s' → Q (.int i t) s') :
    wpAny (model prog w) A (call (.builtin "str.index") [.str x t, .str y u]) Q E s := SC.index ho (h _ _ (S.toks _))
/-! methods -/
theorem e_meth1 {o e : Expr} {name : Str} {apos : Pos} {Q : Value → Shared → Prop}
    (hbase : attributeBase o name env (eval o env) = eval o env) (hs : starEach [e] env = [(false, eval e env)]) (hline : (apos.endLine == pos.line) = true)
    (h : wpAny (model prog w) A (eval o env) (fun ov s₁ => MethodOnS prog w A E name ov pos [(false, eval e env)] Q s₁) E s) :
    wpAny (model prog w) A (eval (.Call (.Attribute o name apos) [e] [] pos) env) Q E s := Call_method1 hbase hs hline h
theorem m_of {name : Str} {ov : Value} {T id : String} {x : Sem Value} {Q : Value → Shared → Prop} (pa : PlainAttrs T) (slot : Slot T name id) (ty : typeOf (.builtin id) = pure (.type "method_descriptor")) (hT : s.TypeIs ov T)
    (hd : ∀ a, ov = .ref a → ∃ ob, s.heap.get? a = some ob ∧ ob.dict = none) (h : wpAny (model prog w) A x (fun v s₁ => wpAny (model prog w) A (call (.builtin id) [ov, v]) Q E s₁) E s) :
    MethodOnS prog w A E name ov pos [(false, x)] Q s :=
  ⟨T, id, pa, slot, ty, hT, hd, callWith_builtin rfl (evalArgs_plain (spliced_cons (wpAny_mono h (fun v s₁ h₁ => spliced_nil h₁) fun _ _ e => e)))⟩
theorem m_append {its : List Value} {x : Sem Value} {Q : Value → Shared → Prop} (S : St s₀ W L l led s) (hm : (D, .lst its) ∈ led) (h : wpAny (model prog w) A x (fun v s₁ => wpAny (model prog w) A (call (.builtin "list.append") [.ref D, v]) Q E s₁) E s) :
    MethodOnS prog w A E "append" (.ref D) pos [(false, x)] Q s := by
  obtain ⟨o, e, n, rfl⟩ := S.hold _ hm
  exact m_of F.plainAttrs_list slot_list_append F.type_list_append ⟨_, e, rfl⟩ (fun a q => by cases q; exact ⟨_, e, rfl⟩) h
theorem m_index {y : Str} {t : Tok} {x : Sem Value} {Q : Value → Shared → Prop} (h : wpAny (model prog w) A x (fun v s₁ => wpAny (model prog w) A (call (.builtin "str.index") [.str y t, v]) Q E s₁) E s) :
    MethodOnS prog w A E "index" (.str y t) pos [(false, x)] Q s := m_of F.plainAttrs_str F.slot_str_index F.type_str_index (typeIs_str _ _ _) (fun _ e => nomatch e) h
theorem c_append {its : List Value} {Q : Value → Shared → Prop} (S : St s₀ W L l led s) (hu : LedUp D (.lst its) (.lst (its ++ [v])) led led') (hz : its.length ≤ 100000) (h : ∀ s', St s₀ W L l led' s' → Q .none s') :
    wpAny (model prog w) A (call (.builtin "list.append") [.ref D, v]) Q E s := by
  obtain ⟨o, e, n, rfl⟩ := S.hold _ hu.mem
  refine append_at (hsz := by simp; exact Nat.le_trans hz (by decide)) e fun h' hs e' => ?_
  refine h _ (S.upd (t := s.toks) hu e' ⟨n + 1, by simp [lstO]⟩ fun b o hb e => hs.extBut b o hb e)
theorem e_list0 {Q : Value → Shared → Prop} (S : St s₀ W L l led s) (h : ∀ D s', St s₀ W L l ((D, .lst []) :: led) s' → Q (.ref D) s') : wpAny (model prog w) A (eval (.List [] pos) env) Q E s :=
  wpAny_List (spliced_nil ⟨by decide, h _ _ (S.new (t := s.toks) rfl rfl ⟨0, rfl⟩)⟩)
end
end
section
open PySem PySem.W PyProof.Rows PySem.Calls
/-- r w x s S t T, the signs of rights; and these with p c d b l -/
noncomputable def signs7 : List Nat := [114, 119, 120, 115, 83, 116, 84]
noncomputable def signs12 : List Nat := [114, 119, 120, 115, 83, 116, 84, 112, 99, 100, 98, 108]
noncomputable def lettersL : List Nat := [65,66,67,68,69,70,71,72,73,74,75,76,77,78,79,80,81,82,83,84,85,86,87,88,89,90,97,98,99,100,101,102,103,104,105,106,107,108,109,110,111,112,113,114,115,116,117,118,119,120,121,122]
noncomputable def lIx (c : Nat) : Nat := if c ≤ 90 then c - 65 else c - 71
noncomputable def fig (p q c : Nat) : Nat := if c = p then 62 else if c = q then 63 else lIx c
noncomputable def numV (p q : Nat) (cs : List Nat) : Nat := cs.foldl (fun v c => v * 64 + fig p q c) 0
theorem occ_p : ∀ p ∈ signs7, ∀ q ∈ signs7, p ≠ q → Builtin.Str.occurrences (S [p, q]) (S [p]) 0 (S [p, q]).length 1 = [0] := by decide +kernel
theorem occ_q : ∀ p ∈ signs7, ∀ q ∈ signs7, p ≠ q → Builtin.Str.occurrences (S [p, q]) (S [q]) 0 (S [p, q]).length 1 = [1] := by decide +kernel
theorem occ_l : ∀ c ∈ signs12, Builtin.Str.occurrences (S lettersL) (S [c]) 0 (S lettersL).length 1 = [lIx c] := by decide +kernel
theorem letters_eq : Str.ofString "ABCDEFGHIJKLMNOPQRSTUVWXYZabcdefghijklmnopqrstuvwxyz" = S lettersL := by kernel_rfl!
theorem fig_le (p q c : Nat) (h : c ≤ 122) : fig p q c < 64 := by
  unfold fig lIx
  split
  · decide
  · split
    · decide
    · split <;> omega
theorem numV_lt (p q : Nat) (cs : List Nat) (h : ∀ c ∈ cs, c ≤ 122) : numV p q cs < 64 ^ cs.length := by
  unfold numV
  suffices H : ∀ (cs : List Nat) (v k : Nat), (∀ c ∈ cs, c ≤ 122) → v < 64 ^ k → cs.foldl (fun v c => v * 64 + fig p q c) v < 64 ^ (k + cs.length) by
    have := H cs 0 0 h (by decide)
    simpa using this
  intro cs
  induction cs with
  | nil => intro v k _ hv; simpa using hv
  | cons c cs ih =>
    intro v k hc hv
    have h1 := fig_le p q c (hc c (.head _))
    have := ih (v * 64 + fig p q c) (k + 1) (fun c hc' => hc c (.tail _ hc')) (by rw [Nat.pow_succ]; omega)
    simp only [List.foldl_cons, List.length_cons]
    rwa [show k + (cs.length + 1) = k + 1 + cs.length from by omega]
theorem signs12_le : ∀ c ∈ signs12, c ≤ 122 := by decide
theorem mulNat {a b : Nat} (ha : a < 2 ^ 100) (hb : b < 2 ^ 100) : PySem.IntMulOk (a : Int) (b : Int) :=
  PySem.IntMulOk.of_bits (Nat.le_trans ((intBits_le_iff (m := 100)).mpr (by simpa using ha)) (by decide)) (Nat.le_trans ((intBits_le_iff (m := 100)).mpr (by simpa using hb)) (by decide))
section
variable {prog : Program} {w : World} {A : Around} {E : Value → Shared → Prop} {s₀ s : Shared} {W : List Addr} {L D I a : Addr} {l l' : List (Str × Value)} {led led' : List (Addr × Kn)}
  {env : Env} {pos : Pos} {v : Value}
theorem ev_S {x : List Nat} {i : Str} {k : Nat} {Q : Value → Shared → Prop} (hi : i = Mine.S x) (S : St s₀ W L l led s) (h : ∀ t s', St s₀ W L l led s' → Q (.str (Mine.S x) t) s') :
    wpAny (model prog w) A (eval (.Constant (.str i) k pos) env) Q E s := by
  subst hi
  exact ev_str S h
theorem St.list (S : St s₀ W L l led s) {its : List Value} (hl : s₀.heap.IsList a its.toArray) (ha : a ∉ W) : s.heap.IsList a its.toArray := by
  obtain ⟨o, e, r⟩ := hl
  exact ⟨o, S.keep _ _ e ha, r⟩
theorem len_base {its : List Value} {Q : Value → Shared → Prop} (S : St s₀ W L l led s) (hl : s.heap.IsList a its.toArray) (hz : its.length ≤ 1000000) (h : ∀ t s', St s₀ W L l led s' → Q (.int its.length t) s') :
    wpAny (model prog w) A (call (.builtin "len") [.ref a]) Q E s := by
  refine call_len_list hl (by simp; omega) ?_
  have := h (s.toks + 1) { s with toks := s.toks + 1 + 1 } (S.toks _)
  simpa using this
theorem e_if {test body orelse : Expr} {Q : Value → Shared → Prop}
    (h : wpAny (model prog w) A (isTrue test env (eval test env)) (fun b s₁ => if b = true then wpAny (model prog w) A (eval body env) Q E s₁ else wpAny (model prog w) A (eval orelse env) Q E s₁) E s) :
    wpAny (model prog w) A (eval (.IfExp test body orelse pos) env) Q E s := wpAny_IfExp h
end
end
section
open PySem PySem.W PyProof.Rows PySem.Calls
open Builtin Builtin._codecs in
theorem enc_tree (x : Str) (t u : Tok) : «str.encode» ⟨[.str x t, .str (Str.ofString "ascii") u], []⟩ = (do ret (← encodeRoad "str.encode" (.str x t) x (Str.ofString "ascii") none)) := by
  first | kernel_rfl | (with_unfolding_all rfl)
open Builtin Builtin._codecs in
theorem enc_road (id : String) (self : Value) (x : Str) (errors : Option Str) : encodeRoad id self x (Str.ofString "ascii") errors = (do mkBytes (← encodeNarrow id asciiCodec errors self x)) := by
  first | rfl | (unfold encodeRoad; rfl) | (unfold encodeRoad; simp only []; rfl) | decide
theorem forIn_two {β : Type} {n : Nat} {init : β} (mid : β) {f : Nat → β → Sem (ForInStep β)} (h1 : f 0 init = pure (.yield mid)) (h2 : ∀ i, f i mid = pure (.done mid)) (h0 : 0 < n) : forIn [:n] init f = pure mid := by
  rw [Std.Legacy.Range.forIn_eq_forIn_range']
  obtain ⟨k, rfl⟩ : ∃ k, n = k + 1 := ⟨n - 1, by omega⟩
  have hsz : Std.Legacy.Range.size [:k + 1] = k + 1 := by simp [Std.Legacy.Range.size]
  rw [hsz]
  show forIn (List.range' 0 (k + 1) 1) init f = _
  rw [List.range'_succ, List.forIn_cons, h1]
  show forIn (List.range' (0 + 1) k 1) mid f = _
  cases k with
  | zero => rfl
  | succ k => rw [List.range'_succ, List.forIn_cons, h2]; rfl
noncomputable def byteL (l : List Nat) : List UInt8 := l.map (·.toUInt8)
open Builtin Builtin._codecs in
theorem enc_narrow (id : String) (l : List Nat) (self : Value) (h : ∀ c ∈ l, c < 128) (h0 : l ≠ []) (hz : l.length ≤ 1000) : encodeNarrow id asciiCodec none self (S l) = pure (byteL l).toArray := by
  have hbad : Array.findIdx? asciiCodec.bad l.toArray = none := by
    rw [Array.findIdx?_eq_none_iff]
    intro x hx
    have := h x (by simpa using hx)
    simp [asciiCodec]; omega
  have hfold : ∀ (l : List Nat) (acc : Array UInt8), List.foldl (fun acc y => acc ++ (asciiCodec.bytesOf y).toArray) acc l = acc ++ (byteL l).toArray := by
    intro l
    induction l with
    | nil => intro acc; simp [byteL]
    | cons a l ih => intro acc; rw [List.foldl_cons, ih]; simp [asciiCodec, byteL]
  cases l with
  | nil => exact absurd rfl h0
  | cons a r =>
    have hb : asciiCodec.bad a = false := by have := h a (.head _); simp [asciiCodec]; omega
    unfold encodeNarrow
    dsimp only
    rw [forIn_two (mid := (r.length + 1, (byteL (a :: r)).toArray, ({} : Faults)))]
    · rfl
    · rw [if_neg (by decide)]
      simp only [List.getElem?_toArray, List.getElem?_cons_zero, hb, Bool.not_false, if_true]
      have e : (a :: r).toArray.extract 0 = (a :: r).toArray := by simp
      simp only [e, hbad, Option.getD_none, Nat.zero_add]
      congr 2
      rw [← Array.foldl_toList]
      simp [hfold]
    · intro i
      have hz' : r.length + 1 ≤ 1000 := hz
      have hs : (1000 : Nat) ≤ sizeLine := by decide
      rw [if_neg (by simp only [byteL, List.size_toArray, List.length_map, List.length_cons]; omega)]
      have e : (a :: r).toArray[r.length + 1]? = none := by simp
      simp only [e]
    · simp [S_len]
section
variable {prog : Program} {w : World} {A : Around} {E : Value → Shared → Prop} {s₀ s : Shared} {W : List Addr} {L D I a : Addr} {l l' : List (Str × Value)} {led led' : List (Addr × Kn)}
  {env : Env} {pos : Pos} {v : Value}
theorem c_encode {x : List Nat} {t u : Tok} {Q : Value → Shared → Prop} (S : St s₀ W L l led s) (hx : ∀ c ∈ x, c < 128) (h0 : x ≠ []) (hz : x.length ≤ 1000) (h : ∀ t s', St s₀ W L l led s' → Q (.bytes (byteL x).toArray t) s') :
    wpAny (model prog w) A (call (.builtin "str.encode") [.str (Mine.S x) t, .str (Str.ofString "ascii") u]) Q E s := by
  refine wpAny_call_entry F.slot_str_encode (typeIs_str _ _ _) F.entry_str_encode ?_ (F.args_str_encode_2 _ _)
  rw [enc_tree, enc_road, enc_narrow _ _ _ hx h0 hz]
  have hb : (byteL x).toArray.size ≤ sizeLine := by simp only [byteL, List.size_toArray, List.length_map]; exact Nat.le_trans hz (by decide)
  exact wpAny_bind (wpAny_bind (wpAny_pure (wpAny_mkBytes (hb := hb) (wpAny_pure ⟨_, rfl, h _ _ (S.toks _)⟩))))
end
end
section
open PySem PySem.W PyProof.Rows PySem.Calls
theorem bitOr_nat (a b : Nat) : Builtin.bitOr (a : Int) (b : Int) = ((a ||| b : Nat) : Int) := by
  unfold Builtin.bitOr Builtin.bitAnd Builtin.bitNot
  have h1 : ¬ (0 : Int) ≤ -(a : Int) - 1 := by omega
  have h2 : ¬ (0 : Int) ≤ -(b : Int) - 1 := by omega
  simp only [h1, h2, decide_false]
  have e1 : (-(-(a : Int) - 1) - 1).toNat = a := by omega
  have e2 : (-(-(b : Int) - 1) - 1).toNat = b := by omega
  rw [e1, e2]
  omega
theorem bitAnd_nat (a b : Nat) : Builtin.bitAnd (a : Int) (b : Int) = ((a &&& b : Nat) : Int) := by
  unfold Builtin.bitAnd
  simp
/-- the table of maketrans for the signs p and q -/
noncomputable def trTab (p q : Nat) : Array UInt8 := ((byteL [p, q]).toArray.toList.zip [43, 47]).foldl (fun t (f, x) => t.setIfInBounds f.toNat x) ((Array.range 256).map (·.toUInt8))
noncomputable def alph : List Nat := signs12 ++ [45, 63, 65]
noncomputable def trC (p q c : Nat) : Nat := if c = p then 43 else if c = q then 47 else c
theorem tr_get (p q c : Nat) (hp : p < 256) (hq : q < 256) (hc : c < 256) : (trTab p q).size = 256 ∧ (trTab p q)[c]? = some (if c = q then 47 else if c = p then 43 else c.toUInt8) := by
  have e : trTab p q = (((Array.range 256).map (·.toUInt8)).setIfInBounds (p % 256) 43).setIfInBounds (q % 256) 47 := rfl
  rw [e, Nat.mod_eq_of_lt hp, Nat.mod_eq_of_lt hq]
  refine ⟨by rw [Array.size_setIfInBounds, Array.size_setIfInBounds, Array.size_map, Array.size_range], ?_⟩
  rw [Array.getElem?_setIfInBounds, Array.size_setIfInBounds, Array.getElem?_setIfInBounds, Array.size_map, Array.size_range, Array.getElem?_map, Array.getElem?_range, if_pos hc, if_pos hp, if_pos hq]
  by_cases h1 : q = c
  · rw [if_pos h1, if_pos h1.symm]
  · rw [if_neg h1, if_neg (Ne.symm h1)]
    by_cases h2 : p = c
    · rw [if_pos h2, if_pos h2.symm]
    · rw [if_neg h2, if_neg (Ne.symm h2)]; rfl
theorem sg_lt : ∀ p ∈ signs7, p < 256 := by decide
theorem al_lt : ∀ p ∈ alph, p < 256 := by decide
theorem tr_all (p : Nat) (hp : p ∈ signs7) (q : Nat) (hq : q ∈ signs7) (hpq : p ≠ q) : ((trTab p q).size = 256 ∧ ∀ c ∈ alph, (trTab p q).getD c c.toUInt8 = (trC p q c).toUInt8) := by
  have h := fun c hc => tr_get p q c (sg_lt p hp) (sg_lt q hq) hc
  refine ⟨(h 0 (by decide)).1, fun c hc => ?_⟩
  rw [Array.getD_eq_getD_getElem?, (h c (al_lt c hc)).2]
  unfold trC
  by_cases h1 : c = q
  · rw [if_pos h1, if_neg (fun h => hpq (h.symm.trans h1)), if_pos h1]; rfl
  · rw [if_neg h1, if_neg h1]
    by_cases h2 : c = p
    · rw [if_pos h2, if_pos h2]; rfl
    · rw [if_neg h2, if_neg h2]; rfl
theorem alph_lt : ∀ c ∈ alph, c < 128 := by decide
open Builtin Builtin.Bytes in
theorem mk_tree (p q : Nat) (t u : Tok) : «bytes.maketrans» ⟨[.bytes (byteL [p, q]).toArray t, .bytes [43, 47].toArray u], []⟩ = (do ret (← mkBytes (trTab p q))) := by
  unfold «bytes.maketrans» maketransM
  simp only [noKeywords, checkCount, List.headD_cons, KBd.like_eq, List.getD_cons_succ, List.getD_cons_zero]
  rfl
theorem mk_args (a b : Value) : checkBuiltinCall "bytes.maketrans" ⟨[a, b], []⟩ = pure () := (congrFun (congrFun PySem.W.Fast.te10254737850608025244 _) _).trans (by kernel_rfl)
theorem mk_plain : plainId "bytes.maketrans" = true := by decide +kernel
theorem mk_entry : entryFor table "bytes.maketrans" = some Builtin.«bytes.maketrans» := entryFor_of_tree (by kernel_rfl)
theorem tr_slot : Slot "bytes" "translate" "bytes.translate" :=
  .of (owner := "bytes") (n := "translate") (by rw [typeLookup_type, builtinLookup_eq_fast]; kernel_rfl) (by decide +kernel) (by decide +kernel) (by decide +kernel)
    (by first | exact .inl (by decide +kernel) | exact .inr (by decide +kernel)) (by rw [isSubtype_type]; kernel_rfl)
theorem tr_entry : entryFor table "bytes.translate" = some Builtin.«bytes.translate» := entryFor_of_tree (by kernel_rfl)
theorem tr_args (a b : Value) : argsOk "bytes.translate" ⟨[a, b], []⟩ := by unfold argsOk; kernel_rfl
theorem tr_type : typeOf (.builtin "bytes.translate") = pure (.type "method_descriptor") := by show builtinType _ = _; rw [builtinType_eq_fast]; kernel_rfl
open Builtin Builtin.Bytes in
theorem tr_tree (x T : Array UInt8) (t u : Tok) (hT : T.size = 256) : «bytes.translate» ⟨[.bytes x t, .bytes T u], []⟩ =
    (if (x.map fun c => T.getD c.toNat c) == x then (do rule "bytes.translate.unchanged"; ret (.bytes x t)) else (do ret (← mkBytes (x.map fun c => T.getD c.toNat c)))) := by
  unfold «bytes.translate» translateM
  simp only [KBd.like_eq]
  have hp : payload (.bytes x t) = pure x := rfl
  have hf : x.filter (fun a => !(#[] : Array UInt8).contains a) = x := by simp
  have hf2 : x.filter (fun _ => true) = x := by simp
  simp [hT, hp, hf]
  rw [hf2]
  by_cases e : Array.map (fun c => T[c.toNat]?.getD c) x = x
  · rw [if_pos e, if_pos e]; first | rfl | kernel_rfl
  · rw [if_neg e, if_neg e]; first | rfl | kernel_rfl
section
variable {prog : Program} {w : World} {A : Around} {E : Value → Shared → Prop} {s₀ s : Shared} {W : List Addr} {L D I a : Addr} {l l' : List (Str × Value)} {led led' : List (Addr × Kn)}
  {env : Env} {pos : Pos} {v : Value} {mg mb : Str → Option Value}
theorem getm_mk {pl : Sem Bool} {Q : Value × List Value → Shared → Prop} (G : Gnd w mg mb s.heap) (S : St s₀ W L l led s) (h : ∀ s', St s₀ W L l led s' → Q (.builtin "bytes.maketrans", []) s') :
    wpAny (model prog w) A (getMethod (.type "bytes") (Str.ofString "maketrans") pl) Q E s := by
  have X := G.X
  have hstub : opaqueClassAbove (.type "bytes") = pure none := by unfold opaqueClassAbove; dsimp only; rw [show Manifest.isStub "bytes" = false by decide +kernel]; rfl
  have ht : typeOf (.type "bytes") = pure (.type "type") := by first | rfl | kernel_rfl
  have L0 : Looks (model prog w) s.heap (typeOf (.type "bytes")) (.type "type") := Looks.of_pure ht
  have hg : findIn (hd.heap_39 w.params) (.type "type") "__getattribute__" = some (some (.builtin "type.__getattribute__")) := type_tga
  have e : findCls (hd.heap_39 w.params) (.type "bytes") (.type "type") (Str.ofString "maketrans") = some (.val (.builtin "bytes.maketrans")) := by kernel_rfl
  unfold getMethod specialOf
  refine wpAny_bind (wpAny_bind (L0.here ((looks_findIn X hg).here ?_)))
  dsimp only
  rw [if_pos canon_tga]
  refine wpAny_bind (wpAny_mono (Q := fun v => Q (v, [])) (E := E) ?_ (fun _ _ z => wpAny_pure z) fun _ _ z => z)
  have LO : Looks (model prog w) s.heap (opaqueClassAbove (.type "bytes")) none := Looks.of_pure hstub
  refine cls_open X LO L0 hg (looks_hook X (r := none) (by rfl)) (by show subIn _ _ _ = _; rfl) e ?_
  exact wpAny_pure (handed_on (by first | rfl | decide +kernel) (h _ (S.toks _)))
theorem c_maketrans {p q : Nat} {t u : Tok} {Q : Value → Shared → Prop} (S : St s₀ W L l led s) (hz : (trTab p q).size = 256) (h : ∀ t s', St s₀ W L l led s' → Q (.bytes (trTab p q) t) s') :
    wpAny (model prog w) A (call (.builtin "bytes.maketrans") [.bytes (byteL [p, q]).toArray t, .bytes [43, 47].toArray u]) Q E s := by
  refine wpAny_call (codeAny_call_builtin mk_plain mk_entry ?_)
  refine wpAny_of_eq (mk_args _ _) ?_
  dsimp only
  rw [mk_tree]
  exact wpAny_bind (wpAny_mkBytes (hb := by rw [hz]; decide) (wpAny_pure (h _ _ (S.toks _))))
theorem c_translate {x : List Nat} {p q : Nat} {t u : Tok} {Q : Value → Shared → Prop} (S : St s₀ W L l led s) (hp : p ∈ signs7) (hq : q ∈ signs7) (hpq : p ≠ q) (hx : ∀ c ∈ x, c ∈ alph) (hz : x.length ≤ 1000) (h : ∀ t s', St s₀ W L l led s' → Q (.bytes (byteL (x.map (trC p q))).toArray t) s') :
    wpAny (model prog w) A (call (.builtin "bytes.translate") [.bytes (byteL x).toArray t, .bytes (trTab p q) u]) Q E s := by
  obtain ⟨h256, hall⟩ := tr_all p hp q hq hpq
  have hmap : (byteL x).toArray.map (fun c => (trTab p q).getD c.toNat c) = (byteL (x.map (trC p q))).toArray := by
    simp only [byteL, List.map_toArray, List.map_map]
    congr 1
    refine List.map_congr_left fun c hc => ?_
    have h1 := hall c (hx c hc)
    have h2 := alph_lt c (hx c hc)
    show (trTab p q).getD (c.toUInt8).toNat c.toUInt8 = (trC p q c).toUInt8
    rw [← h1]
    congr 1
    show c % 256 = c
    omega
  refine wpAny_call_entry tr_slot (typeIs_bytes _ _ _) tr_entry ?_ (tr_args _ _)
  rw [tr_tree _ _ _ _ h256, hmap]
  split
  · rename_i e
    have e := eq_of_beq e
    refine wpAny_bind (wpAny_rule (wpAny_pure ⟨_, rfl, ?_⟩))
    rw [← e]
    exact h _ _ S
  · refine wpAny_bind (wpAny_mkBytes (hb := by simp only [byteL, List.size_toArray, List.length_map]; exact Nat.le_trans hz (by decide)) (wpAny_pure ⟨_, rfl, h _ _ (S.toks _)⟩))
theorem m_translate {b : Array UInt8} {t : Tok} {x : Sem Value} {Q : Value → Shared → Prop} (h : wpAny (model prog w) A x (fun v s₁ => wpAny (model prog w) A (call (.builtin "bytes.translate") [.bytes b t, v]) Q E s₁) E s) :
    MethodOnS prog w A E "translate" (.bytes b t) pos [(false, x)] Q s := m_of FB.plainAttrs_bytes tr_slot tr_type (PySem.W.typeIs_bytes _ _ _) (fun _ e => nomatch e) h
theorem m_encode {y : Str} {t : Tok} {x : Sem Value} {Q : Value → Shared → Prop} (h : wpAny (model prog w) A x (fun v s₁ => wpAny (model prog w) A (call (.builtin "str.encode") [.str y t, v]) Q E s₁) E s) :
    MethodOnS prog w A E "encode" (.str y t) pos [(false, x)] Q s := m_of F.plainAttrs_str F.slot_str_encode F.type_str_encode (typeIs_str _ _ _) (fun _ e => nomatch e) h
theorem e_maketrans {o : Expr} {args : List Expr} {apos : Pos} {Q : Value → Shared → Prop} (G : GW w mg mb s₀ W)
    (hbase : attributeBase o "maketrans" env (eval o env) = eval o env)
    (hfew : ((backTo pos (starEach args env)).all (fun x => !x.1) && (backToKw pos (keywordEach [] env)).all (fun x => x.1.isSome)
      && decide (args.length + ([] : List Keyword).length + (if ([] : List Keyword).isEmpty then 0 else 1) < 30)) = true)
    (hline : (apos.endLine == pos.line) = true)
    (h : wpAny (model prog w) A (eval o env) (fun ov s₁ => ov = .type "bytes" ∧ (∃ L l led, St s₀ W L l led s₁ ∧ ∀ s', St s₀ W L l led s' →
      wpAny (model prog w) A (callWith pos (.builtin "bytes.maketrans") [] (backTo pos (starEach args env)) []) Q E s')) E s) :
    wpAny (model prog w) A (eval (.Call (.Attribute o "maketrans" apos) args [] pos) env) Q E s := by
  rw [arm_eval_Call, hbase]
  refine wpAny_bind (wpAny_mono h (fun ov s₁ h₁ => ?_) fun _ _ e => e)
  obtain ⟨rfl, L, l, led, S, hc⟩ := h₁
  refine wpAny_bind (wpAny_standAt ?_)
  have hform : methodCallForm (args.length + ([] : List Keyword).length) (backTo pos (starEach args env)) (backToKw pos (keywordEach [] env)) = true := hfew
  have hpos : methodCallPos true o env apos pos = pure pos := by unfold methodCallPos; simp [hline]
  unfold methodCall
  rw [hform]
  refine wpAny_bind (wpAny_holding (getm_mk (G.at_ S) S fun s' S' => ?_))
  exact wpAny_bind (wpAny_of_eq hpos (hc s' S'))
end
end
section
open PySem PySem.W PyProof.Rows PySem.Calls
noncomputable def val64 (c : Nat) : Nat := if 65 ≤ c ∧ c ≤ 90 then c - 65 else if 97 ≤ c ∧ c ≤ 122 then c - 71 else if 48 ≤ c ∧ c ≤ 57 then c + 4 else if c = 43 then 62 else if c = 47 then 63 else 64
section
variable {w : World} {mg mb : Str → Option Value} {h : Heap}
end
section
variable {prog : Program} {w : World} {A : Around} {E : Value → Shared → Prop} {s₀ s : Shared} {W : List Addr} {L D I a : Addr} {l l' : List (Str × Value)} {led led' : List (Addr × Kn)}
  {env : Env} {pos : Pos} {v : Value} {mg mb : Str → Option Value}
theorem c_type {T : String} {Q : Value → Shared → Prop} (hT : s.TypeIs v T) (hn : (Value.type T == Value.type "builtin_function_or_method") = false) (h : Q (.type T) s) : wpAny (model prog w) A (call (.type "type") [v]) Q E s := call_type_of hT hn h
theorem is_ty_t {T : String} {Q : Value → Shared → Prop} (h : Q (.bool true) s) : wpAny (model prog w) A (compareOp .Is (.type T) (.type T)) Q E s := wpAny_is_self rfl h
theorem is_ty_f {T U : String} {Q : Value → Shared → Prop} (hn : (Value.type T == Value.type U) = false) (h : Q (.bool false) s) : wpAny (model prog w) A (compareOp .Is (.type T) (.type U)) Q E s := wpAny_is_plain rfl (by rw [hn]; exact h)
theorem is_none_f {Q : Value → Shared → Prop} (hn : (v == .none) = false) (h : Q (.bool false) s) : wpAny (model prog w) A (compareOp .Is v .none) Q E s := PyProof.Rows.is_none_gen (by rw [hn]; exact h)
theorem isnot_none_f {Q : Value → Shared → Prop} (hn : (v == .none) = false) (h : Q (.bool true) s) : wpAny (model prog w) A (compareOp .IsNot v .none) Q E s := by
  show wpAny _ A (do return .bool (!(← isSame v .none))) Q E s
  have hi : isSame v .none = pure (v == .none) := by cases v <;> rfl
  rw [hi, hn]
  exact wpAny_bind (wpAny_pure (wpAny_pure h))
theorem ev_none {k : Nat} {Q : Value → Shared → Prop} (h : Q .none s) : wpAny (model prog w) A (eval (.Constant .none k pos) env) Q E s := fun _ _ _ => h
theorem ev_true {k : Nat} {b : Bool} {Q : Value → Shared → Prop} (h : Q (.bool b) s) : wpAny (model prog w) A (eval (.Constant (.bool b) k pos) env) Q E s := fun _ _ _ => h
theorem x_try {body orelse : List Stmt} {h₀ : ExceptHandler} {hs : List ExceptHandler} {Q : Flow → Shared → Prop}
    (h : ∀ E' : Value → Shared → Prop, wpAny (model prog w) A (execs body env) (fun f s₁ => match f with | .next => wpAny (model prog w) A (execs orelse env) Q E s₁ | f => Q f s₁) E' s) :
    wpAny (model prog w) A (exec (.Try body (h₀ :: hs) orelse [] pos) env) Q E s := wpAny_Try_except (h _)
theorem c_isi {x : Value} {Tx T : String} {Q : Value → Shared → Prop} (hx : s.TypeIs x Tx) (hty : typeOf (.type T) = pure (.type "type"))
    (hsub : isSubtype (.type Tx) (.type T) = pure true) (h : Q (.bool true) s) : wpAny (model prog w) A (call (.builtin "isinstance") [x, .type T]) Q E s := call_isinstance_yes hx hty hsub h
end
end
section
open PySem PySem.W PyProof.Rows PySem.Calls
noncomputable def a2step (st : Nat × Nat × List Nat) (c : Nat) : Nat × Nat × List Nat :=
  if 64 ≤ val64 c then st else
  if st.1 = 0 then (1, val64 c, st.2.2)
  else if st.1 = 1 then (2, val64 c % 16, st.2.2 ++ [st.2.1 * 4 + val64 c / 16])
  else if st.1 = 2 then (3, val64 c % 4, st.2.2 ++ [st.2.1 * 16 + val64 c / 4])
  else (0, 0, st.2.2 ++ [st.2.1 * 64 + val64 c])
noncomputable def a2 (cs : List Nat) : Nat × Nat × List Nat := cs.foldl a2step (0, 0, [])
structure A2ok (st : Nat × Nat × List Nat) : Prop where
  q : st.1 ≤ 3
  l0 : st.2.1 < 64
  l2 : st.1 = 2 → st.2.1 < 16
  l3 : st.1 = 3 → st.2.1 < 4
  o : ∀ b ∈ st.2.2, b < 256
theorem A2ok.step {st : Nat × Nat × List Nat} (h : A2ok st) (c : Nat) : A2ok (a2step st c) := by
  obtain ⟨q, l0, l2, l3, o⟩ := h
  unfold a2step
  split
  · exact ⟨q, l0, l2, l3, o⟩
  split
  · exact ⟨by simp, by simp; walk_at "lia", by simp, by simp, o⟩
  split
  · refine ⟨by simp, by simp; walk_at "lia", by simp; walk_at "lia", by simp, fun b hb => ?_⟩
    rcases List.mem_append.mp hb with hb | hb
    · exact o b hb
    · simp at hb; walk_at "lia"
  split
  · refine ⟨by simp, by simp; walk_at "lia", by simp, by simp; walk_at "lia", fun b hb => ?_⟩
    rcases List.mem_append.mp hb with hb | hb
    · exact o b hb
    · simp at hb
      have := l2 (by assumption)
      walk_at "lia"
  · refine ⟨by simp, by simp, by simp, by simp, fun b hb => ?_⟩
    rcases List.mem_append.mp hb with hb | hb
    · exact o b hb
    · simp at hb
      have := l3 (by walk_at "lia")
      walk_at "lia"
theorem a2_snoc (cs : List Nat) (c : Nat) : a2 (cs ++ [c]) = a2step (a2 cs) c := by simp [a2]
theorem a2_ok (cs : List Nat) : A2ok (a2 cs) := by
  unfold a2
  suffices H : ∀ (cs : List Nat) st, A2ok st → A2ok (cs.foldl a2step st) from H cs _ ⟨by simp, by simp, by simp, by simp, by simp⟩
  intro cs
  induction cs with
  | nil => exact fun _ h => h
  | cons c cs ih => exact fun st h => ih _ (h.step c)
theorem or_shift (k : Nat) {a b : Nat} (h : b < 2 ^ k) : a * 2 ^ k ||| b = a * 2 ^ k + b := by
  rw [Nat.mul_comm]; exact (Nat.two_pow_add_eq_or_of_lt h a).symm
theorem ints_snoc {vs : List Value} {ns : List Int} {i : Int} {t : Tok} (h : IntsAre vs ns) : IntsAre (vs ++ [.int i t]) (ns ++ [i]) := h.append (.cons i t .nil)
section
variable {prog : Program} {w : World} {A : Around} {E : Value → Shared → Prop} {s₀ s : Shared} {W : List Addr} {L D I a : Addr} {l l' : List (Str × Value)} {led led' : List (Addr × Kn)}
  {env : Env} {pos : Pos} {v : Value} {mg mb : Str → Option Value}
theorem tr_int {i : Int} {t : Tok} {Q : Bool → Shared → Prop} (h : Q (decide (i ≠ 0)) s) : wpAny (model prog w) A (truthy (.int i t)) Q E s := PyProof.Rows.truthy_int (by
  have : (i != 0) = decide (i ≠ 0) := by by_cases e : i = 0 <;> simp [e]
  rw [this]; exact h)
theorem op_ne {i j : Int} {t u : Tok} {Q : Value → Shared → Prop} (h : Q (.bool (decide (i ≠ j))) s) : wpAny (model prog w) A (compareOp .NotEq (.int i t) (.int j u)) Q E s := ne_int (by
  have : (i != j) = decide (i ≠ j) := by by_cases e : i = j <;> simp [e]
  rw [this]; exact h)
/-- left << k | b -/
theorem op_shlN {k a : Nat} {t u : Tok} {Q : Value → Shared → Prop} (S : St s₀ W L l led s) (hk : k ≤ 6) (ha : a < 64) (h : ∀ t s', St s₀ W L l led s' → Q (.int ((a * 2 ^ k : Nat) : Int) t) s') :
    wpAny (model prog w) A (binaryOp .LShift (.int (a : Int) t) (.int (k : Int) u)) Q E s :=
  op_shl S (by walk_at "lia") (by walk_at "lia") (Nat.lt_trans (show (a : Int).natAbs < 64 by walk_at "lia") (by decide)) fun t s' S' => by have := h t s' S'; push_cast at this; simpa using this
theorem op_shrN {k a : Nat} {t u : Tok} {Q : Value → Shared → Prop} (S : St s₀ W L l led s) (h : ∀ t s', St s₀ W L l led s' → Q (.int ((a / 2 ^ k : Nat) : Int) t) s') :
    wpAny (model prog w) A (binaryOp .RShift (.int (a : Int) t) (.int (k : Int) u)) Q E s :=
  op_shr S (by walk_at "lia") fun t s' S' => by
    have := h t s' S'
    have e : (a : Int).fdiv (2 ^ (k : Int).toNat) = ((a / 2 ^ k : Nat) : Int) := by
      rw [Int.toNat_natCast, Int.fdiv_eq_ediv_of_nonneg _ (by exact Int.le_of_lt (Int.pow_pos (by decide)))]
      push_cast; rfl
    rw [e]; exact this
theorem op_and15 {a : Nat} {t u : Tok} {Q : Value → Shared → Prop} (S : St s₀ W L l led s) (h : ∀ t s', St s₀ W L l led s' → Q (.int ((a % 16 : Nat) : Int) t) s') :
    wpAny (model prog w) A (binaryOp .BitAnd (.int (a : Int) t) (.int 15 u)) Q E s := op_and S fun t s' S' => by rw [bitAnd_m4]; exact h t s' S'
theorem op_and3 {a : Nat} {t u : Tok} {Q : Value → Shared → Prop} (S : St s₀ W L l led s) (h : ∀ t s', St s₀ W L l led s' → Q (.int ((a % 4 : Nat) : Int) t) s') :
    wpAny (model prog w) A (binaryOp .BitAnd (.int (a : Int) t) (.int 3 u)) Q E s := op_and S fun t s' S' => by rw [bitAnd_m2]; exact h t s' S'
theorem op_orN {a b : Nat} {t u : Tok} {Q : Value → Shared → Prop} (S : St s₀ W L l led s) (h : ∀ t s', St s₀ W L l led s' → Q (.int ((a ||| b : Nat) : Int) t) s') :
    wpAny (model prog w) A (binaryOp .BitOr (.int (a : Int) t) (.int (b : Int) u)) Q E s := op_or S fun t s' S' => by rw [bitOr_nat]; exact h t s' S'
end
end
section
open PySem PySem.W PyProof.Rows PySem.Calls
theorem trC_ok : ∀ p ∈ signs7, ∀ q ∈ signs7, ∀ c ∈ alph, trC p q c < 128 ∧ trC p q c ≠ 61 := by decide +kernel
theorem signs7_lt : ∀ c ∈ signs7, c < 128 := by decide
section
variable {prog : Program} {w : World} {A : Around} {E : Value → Shared → Prop} {s₀ s : Shared} {W : List Addr} {L D I a : Addr} {l l' : List (Str × Value)} {led led' : List (Addr × Kn)}
  {env : Env} {pos : Pos} {v : Value} {mg mb : Str → Option Value}
theorem len_byt {b : Array UInt8} {t : Tok} {Q : Value → Shared → Prop} (S : St s₀ W L l led s) (hz : b.size ≤ 1000000) (h : ∀ t s', St s₀ W L l led s' → Q (.int b.size t) s') :
    wpAny (model prog w) A (call (.builtin "len") [.bytes b t]) Q E s := by
  have e : (KBw.bInts b).length = b.size := by simp [KBw.bInts]
  exact KBw.len_K rfl (by rw [e]; omega) (by rw [e]; exact h _ _ (S.toks _))
theorem cw_fn_kw {f : Addr} {e : Expr} {rest : List Expr} {kws : List Keyword} {Q : Value → Shared → Prop} (G : GW w mg mb s₀ W)
    (hf : ∃ o fd, (hd.heap_39 w.params).lookup f = some o ∧ o.data = .func fd)
    (he : backTo pos (starEach (e :: rest) env) = (false, eval e env) :: backTo pos (starEach rest env))
    (hall : (backToKw pos (keywordEach kws env)).all (·.1.isSome) = true)
    (h : wpAny (model prog w) A (spliced (backTo pos (starEach (e :: rest) env))) (fun vs s₁ => wpAny (model prog w) A (evalAll ((backToKw pos (keywordEach kws env)).map (·.2))) (fun ks s₂ => (∃ L l led, St s₀ W L l led s₂) ∧
      wpAny (model prog w) A (call (.ref f) vs (((backToKw pos (keywordEach kws env)).filterMap (·.1)).zip ks)) Q E s₂) E s₁) E s) :
    wpAny (model prog w) A (callWith pos (.ref f) [] (backTo pos (starEach (e :: rest) env)) (backToKw pos (keywordEach kws env))) Q E s := by
  obtain ⟨o, fd, ho, hd⟩ := hf
  refine callWith_function_kw (o := o) (fd := fd) ?_
  rw [he] at h ⊢
  refine evalArgs_kw hall (wpAny_mono h (fun vs s₁ h₁ => wpAny_mono h₁ (fun ks s₂ h₂ => ?_) fun _ _ x => x) fun _ _ x => x)
  obtain ⟨⟨L, l, led, S⟩, hc⟩ := h₂
  exact ⟨⟨(G.at_ S).X _ _ ho, hd⟩, hc⟩
theorem cw_bi0 {id : String} {e : Expr} {rest : List Expr} {Q : Value → Shared → Prop}
    (he : backTo pos (starEach (e :: rest) env) = (false, eval e env) :: backTo pos (starEach rest env)) (hpl : (backTo pos (starEach (e :: rest) env)).any (·.1) = false)
    (h : wpAny (model prog w) A (spliced (backTo pos (starEach (e :: rest) env))) (fun vs s₁ => wpAny (model prog w) A (call (.builtin id) vs) Q E s₁) E s) :
    wpAny (model prog w) A (callWith pos (.builtin id) [] (backTo pos (starEach (e :: rest) env)) []) Q E s := cw_bi he hpl h
end
end
section
open PySem PySem.W PyProof.Rows PySem.Calls
section
variable {prog : Program} {w : World} {A : Around} {E : Value → Shared → Prop} {s₀ s : Shared} {W : List Addr} {L D I a : Addr} {l l' l'' l''' : List (Str × Value)} {led led' : List (Addr × Kn)}
  {env : Env} {pos : Pos} {v : Value} {mg mb : Str → Option Value}
theorem ldg_lit {elts : List Expr} {x1} {T : Addr} {i : Nat} {Q : Unit → Shared → Prop} (S : St s₀ W L l led s) (hm : (I, litK a i) ∈ led) (h : Q () s) :
    wpAny (model prog w) A (letOwnedTupleGo (.Tuple elts x1 pos) (.ref I) (.ref T)) Q E s := wpAny_letOwnedTupleGo_listiter (S.kn hm) h
theorem ldg_tit {elts : List Expr} {x1} {T : Addr} {i : Nat} {Q : Unit → Shared → Prop} (S : St s₀ W L l led s) (hm : (I, titK a i) ∈ led) (h : Q () s) :
    wpAny (model prog w) A (letOwnedTupleGo (.Tuple elts x1 pos) (.ref I) (.ref T)) Q E s := by
  obtain ⟨o, ho, hc, hd⟩ := S.kn hm
  unfold letOwnedTupleGo
  refine wpAny_bind (wpAny_load ho ?_)
  rw [hc, hd]
  show wpAny _ A (if (["enumerate", "zip", "dict_itemiterator", "dict_reverseitemiterator", "odict_iterator", "itertools.zip_longest", "itertools.pairwise"].contains "tuple_iterator" &&
      (#[.ref a, .int i 0] : Array Value)[0]? == some (rawInt T)) = true then _ else _) Q E s
  rw [if_neg (by
    intro h
    rw [show (["enumerate", "zip", "dict_itemiterator", "dict_reverseitemiterator", "odict_iterator", "itertools.zip_longest", "itertools.pairwise"].contains "tuple_iterator") = false from by decide, Bool.false_and] at h
    cases h)]
  exact wpAny_pure h
theorem asg_tup2 {x1 x2 : Str} {p1 p2 : Pos} {k : Nat} {T : Addr} {v1 v2 : Value} {Q : Unit → Shared → Prop} (S : St s₀ W L l led s) (hA : A.handled = none) (ht : IsTup s.heap T #[v1, v2])
    (h1 : SetsTo x1 v1 l l') (h2 : SetsTo x2 v2 l' l'') (h : ∀ s', St s₀ W L l'' led s' → Q () s')
    (hL : env.locals = L) (hp : (env.scope.kind == .class || (env.scope.kind == .module && env.locals != env.globals)) = false) (hx1 : env.kindOf x1 = some .local) (hx2 : env.kindOf x2 = some .local) :
    wpAny (model prog w) A (assign (.Tuple [.Name x1 p1, .Name x2 p2] k pos) env (.ref T)) Q E s := by
  refine assign_Tuple_tuple hA ht rfl rfl fun h₅ he => ?_
  have S5 : St s₀ W L l led { s with heap := h₅ } := S.keeps ⟨_, _, rfl⟩ fun b o e => he b o (Nat.ne_of_lt (Heap.lt_size e)) e
  refine assignInOrder_cons (wpAny_assign_Name (stE_loc S5 h1 (fun s6 S6 => ?_) hL hp hx1))
  refine assignInOrder_cons (wpAny_assign_Name (stE_loc S6 h2 (fun s7 S7 => ?_) hL hp hx2))
  exact assignInOrder_nil (h _ S7)
theorem asg_tup3 {x1 x2 x3 : Str} {p1 p2 p3 : Pos} {k : Nat} {T : Addr} {v1 v2 v3 : Value} {Q : Unit → Shared → Prop} (S : St s₀ W L l led s) (hA : A.handled = none) (ht : IsTup s.heap T #[v1, v2, v3])
    (h1 : SetsTo x1 v1 l l') (h2 : SetsTo x2 v2 l' l'') (h3 : SetsTo x3 v3 l'' l''') (h : ∀ s', St s₀ W L l''' led s' → Q () s')
    (hL : env.locals = L) (hp : (env.scope.kind == .class || (env.scope.kind == .module && env.locals != env.globals)) = false) (hx1 : env.kindOf x1 = some .local) (hx2 : env.kindOf x2 = some .local) (hx3 : env.kindOf x3 = some .local) :
    wpAny (model prog w) A (assign (.Tuple [.Name x1 p1, .Name x2 p2, .Name x3 p3] k pos) env (.ref T)) Q E s := by
  refine assign_Tuple_tuple hA ht rfl rfl fun h₅ he => ?_
  have S5 : St s₀ W L l led { s with heap := h₅ } := S.keeps ⟨_, _, rfl⟩ fun b o e => he b o (Nat.ne_of_lt (Heap.lt_size e)) e
  refine assignInOrder_cons (wpAny_assign_Name (stE_loc S5 h1 (fun s6 S6 => ?_) hL hp hx1))
  refine assignInOrder_cons (wpAny_assign_Name (stE_loc S6 h2 (fun s7 S7 => ?_) hL hp hx2))
  refine assignInOrder_cons (wpAny_assign_Name (stE_loc S7 h3 (fun s8 S8 => ?_) hL hp hx3))
  exact assignInOrder_nil (h _ S8)
/-! a for loop with any target -/
theorem for_any {target : Expr} {body orelse : List Stmt} {it : Value} {Q : Flow → Shared → Prop} {X : Value → Shared → Prop} (Inv : Nat → Shared → Prop) (n : Nat) (hI : Inv n s)
    (turn : ∀ n s E', Inv n s → PostFor (PL Inv n Q) fun QB => wpAny (model prog w) A (pyNext it) (fun r s₁ => match r with
      | none => wpAny (model prog w) A (execs orelse env) Q E' s₁
      | some v => wpAny (model prog w) A (letOwnedTupleGo target it v) (fun _ s₁' => wpAny (model prog w) A (assign target env v) (fun _ s₂ => wpAny (model prog w) A (execs body env) QB E' s₂) E' s₁') E' s₁) E' s) :
    codeAny (model prog w) A (.forLoop target it body orelse env) (fun r s' => match r with | .ok f => Q f s' | .error e => X e s') s :=
  codeAny_forLoop_any Inv (fun n s hI => turn n s _ hI _ ⟨fun f s h => by cases f <;> first | exact h | (obtain ⟨m, a, b⟩ := h; exact ⟨m, a, b⟩)⟩) n hI
/-! enumerate over a tuple -/
theorem wpAny_nextOf_tuple_item {it t : Addr} {i : Nat} {items} {x : Value} {Q : Value → Shared → Prop} (hit : s.heap.IsTupleIter it t i)
    (ht : s.heap.IsTuple t items) (hx : items[i]? = some x)
    (hQ : ∀ h', h'.IsTupleIter it t (i + 1) → Heap.SameBut it s.heap h' → Q x { s with heap := h' }) :
    wpAny (model prog w) A (Builtin.SmallTypes.nextOf (.ref it)) Q E s := by
  obtain ⟨o, ho, hc, hd⟩ := id hit
  obtain ⟨ol, hol, _, nl, hdl⟩ := ht
  unfold Builtin.SmallTypes.nextOf
  refine wpAny_bind (wpAny_callSpecial?_slot (name := Str.ofString "__next__") hit.typeIs F.slot_tuple_iterator_next
    (wpAny_call_entry F.slot_tuple_iterator_next hit.typeIs F.entry_tuple_iterator_next ?_ (F.args_tuple_iterator_next_1 _)))
  show wpAny _ _ (field (.ref it) 0 >>= _) _ _ s
  refine wpAny_bind (wpAny_field ho hd (x := .ref t) rfl ?_)
  show wpAny _ _ (if (Value.ref t == Value.none) = true then _ else _) _ _ s
  rw [if_neg (show ¬ ((Value.ref t == Value.none) = true) from Bool.false_ne_true)]
  show wpAny _ _ (field (.ref it) 1 >>= _) _ _ s
  refine wpAny_bind (wpAny_field ho hd (x := .int i 0) rfl ?_)
  show wpAny _ _ (seqItems? (.ref t) >>= _) _ _ s
  refine wpAny_bind (wpAny_seqItems hol hdl ?_)
  simp only [Int.toNat_natCast, hx]
  refine wpAny_bind (wpAny_setField ho hd (by simp) (wpAny_pure ⟨x, rfl, wpAny_pure (hQ _ ?_ (Heap.SameBut.update ..))⟩))
  exact ⟨_, Heap.get?_update_self _ ho (Obj.isFreed_of_fields (Obj.data_mapFields hd _)), (Obj.cls_mapFields ..).trans hc, by
    rw [Obj.data_mapFields hd]; simp [rawInt]⟩
theorem wpAny_nextOf_tuple_end {it t : Addr} {i : Nat} {items} {Q : Value → Shared → Prop} (hh : A.handled = none)
    (hit : s.heap.IsTupleIter it t i) (ht : s.heap.IsTuple t items) (hx : items[i]? = none)
    (hE : ∀ h' e, Heap.ExtBut it s.heap h' → (∃ o, h'.get? e = some o ∧ o.cls = .type "StopIteration") → E (.ref e) { s with heap := h' }) :
    wpAny (model prog w) A (Builtin.SmallTypes.nextOf (.ref it)) Q E s := by
  obtain ⟨o, ho, hc, hd⟩ := id hit
  obtain ⟨ol, hol, _, nl, hdl⟩ := ht
  unfold Builtin.SmallTypes.nextOf
  refine wpAny_bind (wpAny_callSpecial?_slot (name := Str.ofString "__next__") hit.typeIs F.slot_tuple_iterator_next
    (wpAny_call_entry F.slot_tuple_iterator_next hit.typeIs F.entry_tuple_iterator_next ?_ (F.args_tuple_iterator_next_1 _)))
  show wpAny _ _ (field (.ref it) 0 >>= _) _ _ s
  refine wpAny_bind (wpAny_field ho hd (x := .ref t) rfl ?_)
  show wpAny _ _ (if (Value.ref t == Value.none) = true then _ else _) _ _ s
  rw [if_neg (show ¬ ((Value.ref t == Value.none) = true) from Bool.false_ne_true)]
  show wpAny _ _ (field (.ref it) 1 >>= _) _ _ s
  refine wpAny_bind (wpAny_field ho hd (x := .int i 0) rfl ?_)
  show wpAny _ _ (seqItems? (.ref t) >>= _) _ _ s
  refine wpAny_bind (wpAny_seqItems hol hdl ?_)
  simp only [Int.toNat_natCast, hx]
  refine wpAny_bind (wpAny_rule (wpAny_bind (wpAny_setField ho hd (by simp) ?_)))
  show wpAny _ _ (newExc (.type "StopIteration") [] >>= _) _ _ _
  refine wpAny_bind ?_
  simp only [newExc, newTuple]
  refine wpAny_bind (wpAny_newObj_type ?_ (by size_fits))
  refine wpAny_bind (m := firstArgMember _ _) (wpAny_of_eq (a := Value.none) (by first | rfl | (simp only [firstArgMember]; rfl)) ?_)
  refine wpAny_newObj_type ?_ (by size_fits)
  simp only [raiseNew]
  refine wpAny_bind (wpAny_handled ?_)
  first | rw [show A.in1.handled = none from hh] | rw [hh]
  refine wpAny_bind (wpAny_pure (wpAny_throw ?_))
  exact hE _ _ (((Heap.SameBut.update ..).extBut.push _).push _) ⟨_, Heap.get?_push_size _ rfl, rfl⟩
end
theorem Heap_IsTuple.extBut {h h' : Heap} {a b : Addr} {items : Array Value} (x : h.IsTuple a items) (hs : Heap.ExtBut b h h') (hab : a ≠ b) : h'.IsTuple a items := let ⟨o, ho, r⟩ := x; ⟨o, hs a o hab ho, r⟩
theorem Draws.tuple {prog : Program} {w : World} {A : Around} (hh : A.handled = none) (it l : Addr) (hne : l ≠ it) (items : Array Value) :
    Draws prog w A it [it, l] items.size (fun i v => items[i]? = some v) (fun i h => h.IsTupleIter it l i ∧ h.IsTuple l items) where
  live := fun _ _ st => let ⟨o, ho, _⟩ := st.1; ⟨o, ho⟩
  frame := fun _ _ _ st hk => ⟨let ⟨o, e, r⟩ := st.1; ⟨o, hk it (by simp) o e, r⟩, let ⟨o, e, r⟩ := st.2; ⟨o, hk l (by simp) o e, r⟩⟩
  item := fun i s Q E hi st hQ => by
    refine wpAny_nextOf_tuple_item st.1 st.2 (x := items[i]) (by simp [hi]) fun h' hit' hs' => ?_
    exact hQ _ h' s.toks (by simp [hi]) ⟨hit', Heap_IsTuple.extBut st.2 hs'.extBut hne⟩ hs'
  done := fun s Q E st hE => wpAny_nextOf_tuple_end hh st.1 st.2 (by simp) hE
theorem meets_enumerate_newT (l : Addr) (items : Array Value) (n : Nat) (dct : Option Addr) (sl : Array (Option Value)) :
    Meets (Builtin.«enumerate.__new__» ⟨[.type "enumerate", .ref l], []⟩) (fun _ R s => s.heap.get? l = some { cls := .type "tuple", dict := dct, data := .seq items n, slots := sl } ∧
      R (.ok (.ret (.ref (s.heap.push { cls := .type "tuple_iterator", data := .fields #[.ref l, .int 0 0] }).objs.size)))
        { s with heap := (s.heap.push { cls := .type "tuple_iterator", data := .fields #[.ref l, .int 0 0] }).push { cls := .type "enumerate", data := .fields #[.none, .bool false, .ref s.heap.objs.size, rawInt 0, .none, .none] } }) :=
  .of_wp fun prog w A R s h => by
    obtain ⟨hp, g, d, tk, os⟩ := s; obtain ⟨hl, h⟩ := h
    have hsub := sub_enumerate
    have hL : Heap.IsTuple (Shared.heap ⟨hp, g, d, tk, os⟩) l items := ⟨_, hl, rfl, n, rfl⟩
    wp_walk using AutoSeq1.wpAny_loadPart' hl
    refine wpAny_stack_any fun st => wpAny_pure ?_
    split
    · rename_i c _ _ _ _ _
      cases (c == Value.type "enumerate")
      · wp_walk using AutoSeq1.wpAny_loadPart' hl, wpAny_pyIter_tuple hL
        exact ⟨_, rfl, h⟩
      · wp_walk using AutoSeq1.wpAny_loadPart' hl, wpAny_pyIter_tuple hL
        exact ⟨_, rfl, h⟩
    · wp_walk using AutoSeq1.wpAny_loadPart' hl, wpAny_pyIter_tuple hL
      exact ⟨_, rfl, h⟩
end
section
open PySem PySem.W PyProof.Rows PySem.Calls
noncomputable abbrev enO (it : Addr) (i : Int) (old : Value) : Obj := { cls := .type "enumerate", dict := none, data := .fields #[.none, .bool false, .ref it, rawInt i, .none, old], slots := #[] }
noncomputable abbrev enK (it : Addr) (i : Int) : Kn := .pr fun o => ∃ old, o = enO it i old
section
variable {prog : Program} {w : World} {A : Around} {E : Value → Shared → Prop} {s₀ s : Shared} {W : List Addr} {L D I a e T : Addr} {l l' l'' l''' : List (Str × Value)} {led led' rest : List (Addr × Kn)}
  {env : Env} {pos : Pos} {v : Value} {mg mb : Str → Option Value}
theorem nodup2 {p q : Addr × Kn} (h : ((p :: q :: rest).map (·.1)).Nodup) : p.1 ≠ q.1 ∧ (∀ r ∈ rest, r.1 ∉ [p.1, q.1]) := by
  simp only [List.map_cons, List.nodup_cons, List.mem_cons, not_or] at h
  refine ⟨h.1.1, fun r hr hm => ?_⟩
  have hm' : r.1 ∈ rest.map (·.1) := List.mem_map_of_mem hr
  rcases List.mem_cons.mp hm with e | hm
  · exact h.1.2 (e ▸ hm')
  · exact h.2.1 ((List.mem_singleton.mp hm) ▸ hm')
theorem c_enum {its : Array Value} {Q : Value → Shared → Prop} (S : St s₀ W L l led s) (hT : IsTup s.heap T its) (h : ∀ e I s', St s₀ W L l ((e, enK I 0) :: (I, titK T 0) :: led) s' → IsTup s'.heap T its → Q (.ref e) s') :
    wpAny (model prog w) A (call (.type "enumerate") [.ref T]) Q E s := by
  obtain ⟨⟨c, dct, dt, sl⟩, hl, hc, n, hd⟩ := id hT
  replace hc : c = .type "tuple" := hc
  replace hd : dt = .seq its n := hd
  subst hc hd
  refine callType_new F.called_enumerate (by decide) (F.typeCall_enumerate_1 _) (F.newCall_enumerate_1 _) (fun obj => F.args_object_init_2 obj _) F.entry_enumerate_new
    (meets_enumerate_newT T its n dct sl) ⟨hl, ?_⟩
  have S1 := S.new (o := { cls := .type "tuple_iterator", data := .fields #[.ref T, .int 0 0] }) (kn := titK T 0) (h' := s.heap.push { cls := .type "tuple_iterator", data := .fields #[.ref T, .int 0 0] }) (t := s.toks) rfl rfl ⟨rfl, rfl⟩
  have S2 := S1.new (o := enO s.heap.objs.size 0 .none) (kn := enK s.heap.objs.size 0) (t := s.toks) rfl rfl ⟨_, rfl⟩
  refine ⟨⟨_, Heap.get?_push_size _ rfl, rfl⟩, h _ _ _ S2 ?_⟩
  exact ⟨_, Heap.get?_push_of_some _ (Heap.get?_push_of_some _ hl), rfl, n, rfl⟩
theorem it_enum {i : Int} {Q : Value → Shared → Prop} (S : St s₀ W L l led s) (hm : (e, enK I i) ∈ led) (h : Q (.ref e) s) : wpAny (model prog w) A (pyIter (.ref e)) Q E s := by
  obtain ⟨o, ho, old, rfl⟩ := S.kn hm
  exact wpAny_pyIter_enum ho h
theorem nx_enum {its : Array Value} {i : Nat} {x : Value} {Q : Option Value → Shared → Prop} (hA : A.handled = none) (S : St s₀ W L l ((e, enK I i) :: (I, titK T i) :: rest) s) (hT : IsTup s.heap T its) (hx : its[i]? = some x)
    (h : ∀ Tn s₁, (∀ (elts : List Expr) (x1 : Nat) (pos : Pos) (Q' : Unit → Shared → Prop) (E' : Value → Shared → Prop), (∀ t s', St s₀ W L l ((e, enK I ((i + 1 : Nat) : Int)) :: (I, titK T (i + 1)) :: rest) s' → IsTup s'.heap Tn #[.int i t, x] → Q' () s') → wpAny (model prog w) A (letOwnedTupleGo (.Tuple elts x1 pos) (.ref e) (.ref Tn)) Q' E' s₁) → Q (some (.ref Tn)) s₁) :
    wpAny (model prog w) A (pyNext (.ref e)) Q E s := by
  obtain ⟨oe, he, old, rfl⟩ := S.kn (.head _)
  obtain ⟨oi, hi, hic⟩ := S.kn (.tail _ (.head _))
  obtain ⟨hei, hoff⟩ := nodup2 S.nd
  have hTI : T ≠ I := fun q => by
    obtain ⟨o, ho, hc, _⟩ := hT
    rw [q, hi] at ho
    cases ho
    exact absurd (hc.symm.trans hic.1) (by decide)
  have hTe : T ≠ e := fun q => by
    obtain ⟨o, ho, hc, _⟩ := hT
    rw [q, he] at ho
    cases ho
    exact absurd (show Value.type "enumerate" = Value.type "tuple" from hc) (by decide)
  have hlt : i < its.size := by
    rcases Nat.lt_or_ge i its.size with h | h
    · exact h
    · rw [Array.getElem?_eq_none h] at hx; cases hx
  refine wpAny_pyNext_enum_itemD (Draws.tuple (A := A.in1) hA I T hTI its) he ⟨⟨oi, hi, hic⟩, hT⟩ hlt hei (by simp only [List.mem_cons, List.not_mem_nil, or_false, not_or]; exact ⟨hei, Ne.symm hTe⟩) ?_
  intro x' h' tk hx' hout hst htup hsz hk
  have hx' : its[i]? = some x' := hx'
  rw [hx] at hx'
  cases hx'
  refine h _ _ fun elts x1 pos Q' E' hq => ?_
  refine wpAny_letOwnedTupleGo_enum hout fun h'' he'' hs'' => ?_
  have hne : s.heap.objs.size ≠ e := Nat.ne_of_gt (Heap.lt_size he)
  have hS : St s₀ W L l ([(e, enK I ((i + 1 : Nat) : Int)), (I, titK T (i + 1))] ++ rest) { s with heap := h'', toks := tk + 1 } := by
    refine S.merge (W' := [e, I]) ⟨⟨_, _, rfl⟩, fun b o hb hn => ?_, fun p hp => ?_⟩ (by simp) (fun p hp => .inl ?_) (by simpa using hei) (List.sublist_append_right [_, _] _) hoff
    · simp only [List.mem_cons, List.not_mem_nil, or_false, not_or] at hn
      exact hs''.extBut b o hn.1 (hk b o hn.1 hn.2 hb)
    · rcases List.mem_cons.mp hp with rfl | hp
      · exact ⟨_, he'', x, rfl⟩
      · rw [List.mem_singleton.mp hp]
        obtain ⟨⟨o, ho, hr⟩, _⟩ := hst
        exact ⟨o, hs''.extBut _ _ (Ne.symm hei) ho, hr⟩
    · rcases List.mem_cons.mp hp with rfl | hp
      · simp
      · rw [List.mem_singleton.mp hp]; simp
  exact hq tk _ hS ⟨_, hs''.extBut _ _ hne htup, rfl, _, rfl⟩
theorem nx_enum_end {its : Array Value} {i : Nat} {Q : Option Value → Shared → Prop} (hA : A.handled = none) (S : St s₀ W L l ((e, enK I i) :: (I, titK T i) :: rest) s) (hT : IsTup s.heap T its) (hx : i = its.size)
    (h : ∀ s', St s₀ W L l rest s' → Q none s') : wpAny (model prog w) A (pyNext (.ref e)) Q E s := by
  obtain ⟨oe, he, old, rfl⟩ := S.kn (.head _)
  obtain ⟨oi, hi, hic⟩ := S.kn (.tail _ (.head _))
  have hTI : T ≠ I := fun q => by
    obtain ⟨o, ho, hc, _⟩ := hT
    rw [q, hi] at ho
    cases ho
    exact absurd (hc.symm.trans hic.1) (by decide)
  subst hx
  refine wpAny_pyNext_enum_endD (Draws.tuple (A := A.in1) hA I T hTI its) he ⟨⟨oi, hi, hic⟩, hT⟩ fun h' hs' => ?_
  exact h _ ((S.forget (t := s.toks) (.there .here) fun b o hb e => hs' b o hb e).drop)
/-! ''.join -/
theorem Chs.strs {vs : List Value} {cs : List Nat} (h : Chs vs cs) : ∃ l : List (Str × Tok), vs = strValues l ∧ l.map (·.1) = cs.map fun c => Mine.S [c] := by
  induction h with
  | nil => exact ⟨[], rfl, rfl⟩
  | @cons c t vs cs _ ih =>
    obtain ⟨l, h1, h2⟩ := ih
    exact ⟨(Mine.S [c], t) :: l, by rw [h1]; rfl, by simp [h2]⟩
theorem glued_chars (cs : List Nat) : Builtin.Str.glued (Str.ofString "") (cs.map fun c => Mine.S [c]) = Mine.S cs := by
  cases cs with
  | nil => rfl
  | cons c r =>
    unfold Builtin.Str.glued
    simp only [List.map_cons, List.drop_succ_cons, List.drop_zero, List.headD_cons]
    have key : ∀ (r : List Nat) (acc : Array Nat), List.foldl (fun acc p => acc ++ (Str.ofString "").cps ++ p.cps) acc (r.map fun c => Mine.S [c]) = acc ++ r.toArray := by
      intro r
      induction r with
      | nil => intro acc; simp
      | cons d r ih =>
        intro acc
        rw [List.map_cons, List.foldl_cons, ih]
        have : (Str.ofString "").cps = #[] := rfl
        rw [this]
        simp
    rw [key]
    simp
theorem join_ok (cs : List Nat) (h : cs.length ≤ 1000) : Builtin.Str.tooLong ((cs.map fun c => Mine.S [c]).toArray.foldl (· + ·.length + (Str.ofString "").length) 0) = false := by
  have key : ∀ (r : List Nat) (n : Nat), List.foldl (fun n p => n + Str.length p + (Str.ofString "").length) n (r.map fun c => Mine.S [c]) = n + r.length := by
    intro r
    induction r with
    | nil => intro n; rfl
    | cons d r ih =>
      intro n
      rw [List.map_cons, List.foldl_cons, ih, S_len]
      show n + 1 + 0 + r.length = n + (r.length + 1)
      omega
  rw [List.foldl_toArray, key]
  have : (1000 : Nat) ≤ sizeLine := by decide
  simp [Builtin.Str.tooLong]
  omega
theorem c_join {vs : List Value} {cs : List Nat} {t : Tok} {Q : Value → Shared → Prop} (S : St s₀ W L l led s) (hl : s.heap.IsList a vs.toArray) (hc : Chs vs cs) (hz : cs.length ≤ 1000) (h : ∀ t s', St s₀ W L l led s' → Q (.str (Mine.S cs) t) s') :
    wpAny (model prog w) A (call (.builtin "str.join") [.str (Str.ofString "") t, .ref a]) Q E s := by
  obtain ⟨l', rfl, h2⟩ := hc.strs
  refine call_meets F.slot_str_join (typeIs_str _ _ _) F.entry_str_join (F.args_str_join_2 _ _) (meets_str_join_list (Str.ofString "") t a l' (by rw [h2]; exact join_ok cs hz)) ⟨hl, ?_⟩
  have hg : Txt.join (Str.ofString "") (l'.map (·.1)) = Mine.S cs := by rw [h2]; exact glued_chars cs
  refine post_join l' ⟨by rw [hg, S_len]; exact Nat.le_trans hz (by decide), fun t' k => ?_⟩
  rw [hg]
  exact h _ _ (S.toks k)
theorem m_join {y : Str} {t : Tok} {x : Sem Value} {Q : Value → Shared → Prop} (h : wpAny (model prog w) A x (fun v s₁ => wpAny (model prog w) A (call (.builtin "str.join") [.str y t, v]) Q E s₁) E s) :
    MethodOnS prog w A E "join" (.str y t) pos [(false, x)] Q s := m_of F.plainAttrs_str F.slot_str_join F.type_str_join (typeIs_str _ _ _) (fun _ e => nomatch e) h
end
end
section
open PySem PySem.W PyProof.Rows PySem.Calls
inductive PairsAt (h : Heap) : List Value → List (Nat × Nat) → Prop
  | nil : PairsAt h [] []
  | cons {Pa : Addr} {x : Str} {t1 t2 : Tok} {b c : Nat} {i : Int} {its row} : IsTup h Pa #[.int i t1, .str x t2] → i = (b : Int) → x = S [c] → PairsAt h its row → PairsAt h (.ref Pa :: its) ((b, c) :: row)
inductive RowsAt (h : Heap) : List Value → List (List (Nat × Nat)) → Prop
  | nil : RowsAt h [] []
  | cons {Ra : Addr} {its row vs rows} : IsTup h Ra its.toArray → PairsAt h its row → RowsAt h vs rows → RowsAt h (.ref Ra :: vs) (row :: rows)
theorem PairsAt.at {h : Heap} {its : List Value} {row : List (Nat × Nat)} (H : PairsAt h its row) : ∀ {j : Nat}, j < row.length → ∃ Pa t1 t2 b c, its[j]? = some (.ref Pa) ∧ row[j]? = some (b, c) ∧ IsTup h Pa #[.int (b : Int) t1, .str (S [c]) t2] := by
  induction H with
  | nil => intro j hj; simp at hj
  | @cons Pa x t1 t2 b c i its row ht hi hx _ ih =>
    subst hi hx
    intro j hj
    cases j with
    | zero => exact ⟨Pa, t1, t2, b, c, rfl, rfl, ht⟩
    | succ j => exact ih (by simpa using hj)
theorem PairsAt.length {h : Heap} {its : List Value} {row : List (Nat × Nat)} (H : PairsAt h its row) : its.length = row.length := by
  induction H with
  | nil => rfl
  | cons _ _ _ _ ih => simp [ih]
theorem RowsAt.at {h : Heap} {vs : List Value} {rows : List (List (Nat × Nat))} (H : RowsAt h vs rows) : ∀ {i : Nat}, i < rows.length → ∃ Ra its row, vs[i]? = some (.ref Ra) ∧ rows[i]? = some row ∧ IsTup h Ra its.toArray ∧ PairsAt h its row := by
  induction H with
  | nil => intro i hi; simp at hi
  | @cons Ra its row vs rows ht hp _ ih =>
    intro i hi
    cases i with
    | zero => exact ⟨Ra, its, row, rfl, rfl, ht, hp⟩
    | succ i => exact ih (by simpa using hi)
noncomputable def row0 : List (Nat × Nat) := [(40960, 108), (49152, 115), (32768, 45), (24576, 98), (16384, 100), (8192, 99), (4096, 112)]
noncomputable def rowsT : List (List (Nat × Nat)) := [[(256, 114)], [(128, 119)], [(2112, 115), (2048, 83), (64, 120)], [(32, 114)], [(16, 119)], [(1032, 115), (1024, 83), (8, 120)], [(4, 114)], [(2, 119)], [(513, 116), (512, 84), (1, 120)]]
noncomputable def pick (test : Nat → Bool) (d : Nat) : List (Nat × Nat) → Nat
  | [] => d
  | (b, c) :: r => if test b then c else pick test d r
noncomputable def listing (mode : Nat) : List Nat := pick (fun b => mode &&& 61440 == b) 63 row0 :: rowsT.map (pick (fun b => mode &&& b == b) 45)
noncomputable def tst (mode i b : Nat) : Bool := if i = 0 then mode &&& 61440 == b else mode &&& b == b
noncomputable def dfl (i : Nat) : Nat := if i = 0 then 63 else 45
theorem listing_at {mode i : Nat} {row : List (Nat × Nat)} (h : (row0 :: rowsT)[i]? = some row) : (listing mode)[i]? = some (pick (tst mode i) (dfl i) row) := by
  cases i with
  | zero =>
    simp only [List.getElem?_cons_zero, Option.some.injEq] at h
    subst h
    rfl
  | succ i =>
    simp only [List.getElem?_cons_succ] at h
    simp only [listing, List.getElem?_cons_succ, List.getElem?_map, h, Option.map_some]
    rfl
theorem and_beq (a b c : Nat) : (Builtin.bitAnd (a : Int) (b : Int) == (c : Int)) = (a &&& b == c) := by
  rw [bitAnd_nat]
  by_cases h : a &&& b = c
  · simp [h]
  · have h' : ¬ (((a &&& b : Nat) : Int) = (c : Int)) := by omega
    rw [beq_eq_false_iff_ne.mpr h, beq_eq_false_iff_ne.mpr h']
noncomputable def tabL : List Value := [.ref 162, .ref 164, .ref 166, .ref 170, .ref 172, .ref 174, .ref 178, .ref 180, .ref 182, .ref 186]
section
variable {w : World} {mg mb : Str → Option Value} {h : Heap}
theorem tup_of {a : Addr} {o : Obj} {items : Array Value} (G : Gnd w mg mb h) (e : (hd.heap_39 w.params).lookup a = some o) (hc : o.cls = .type "tuple") (hd : o.data = .seq items 0) : IsTup h a items := ⟨_, G.X _ _ e, hc, 0, hd⟩
theorem table_at (G : Gnd w mg mb h) : IsTup h 187 tabL.toArray := tup_of G rfl rfl rfl
theorem rows_at (G : Gnd w mg mb h) : RowsAt h tabL (row0 :: rowsT) := by
  refine .cons (tup_of G rfl rfl rfl) ?_ (.cons (tup_of G rfl rfl rfl) ?_ (.cons (tup_of G rfl rfl rfl) ?_ (.cons (tup_of G rfl rfl rfl) ?_ (.cons (tup_of G rfl rfl rfl) ?_ (.cons (tup_of G rfl rfl rfl) ?_ (.cons (tup_of G rfl rfl rfl) ?_ (.cons (tup_of G rfl rfl rfl) ?_ (.cons (tup_of G rfl rfl rfl) ?_ (.cons (tup_of G rfl rfl rfl) ?_ .nil)))))))))
  all_goals repeat' (first | exact .nil | refine .cons (tup_of G rfl rfl rfl) rfl (by kernel_rfl) ?_)
end
theorem St.tup {s₀ s : Shared} {W : List Addr} {L a : Addr} {l : List (Str × Value)} {led : List (Addr × Kn)} {its : Array Value} (S : St s₀ W L l led s) (hT : IsTup s₀.heap a its) (ha : a ∉ W) : IsTup s.heap a its := by
  obtain ⟨o, e, r⟩ := hT
  exact ⟨o, S.keep _ _ e ha, r⟩
end
section
open PySem PySem.W PyProof.Rows PySem.Calls
section
variable {prog : Program} {w : World} {A : Around} {E : Value → Shared → Prop} {s₀ s : Shared} {W : List Addr} {L D I a : Addr} {l l' : List (Str × Value)} {led led' rest : List (Addr × Kn)}
  {env : Env} {pos pos' : Pos} {v : Value} {mg mb : Str → Option Value}
/-- what is to be shown of a comprehension once its iterator stands; U says what follows with the list -/
inductive CompOk (prog : Program) (w : World) (A : Around) (elt target : Expr) (ifs : List Expr) (scope : Scope) (cl : List (Str × Addr)) (env : Env) (it : Value) (s₂ : Shared)
    (U : Shared → List Addr → Addr → List (Str × Value) → List (Addr × Kn) → Addr → Shared → Prop) : Prop
  | mk (s₀ : Shared) (W : List Addr) (L : Addr) (l : List (Str × Value)) (lw rest : List (Addr × Kn)) (R : Nat → List Value → List (Addr × Kn) → List (Str × Value) → Shared → Prop) (F : List Value → List (Addr × Kn) → Shared → Prop) (n : Nat)
    (h1 : St s₀ W L l (lw ++ rest) s₂)
    (h2 : ∀ a ∈ W, ∃ o, s₂.heap.get? a = some o)
    (h3 : ∀ s', (∀ b o, b ∉ lw.map (·.1) → s₂.heap.get? b = some o → s'.heap.get? b = some o) → R n [] lw [] s')
    (h4 : ∀ C D s (Q₁ : Value → Shared → Prop) E', St s₂ (lw.map (·.1)) C [] ((D, .lst []) :: lw) s → Q₁ it s → wpAny (model prog w) A (pyIter it) Q₁ E' s)
    (h5 : ∀ C D n s E' lc ys lw', St s₂ (lw.map (·.1)) C lc ((D, .lst ys) :: lw') s → R n ys lw' lc s → wpAny (model prog w) A (pyNext it) (fun r s₁ => match r with
      | none => Ex3 fun lc' ys' lw'' => St s₂ (lw.map (·.1)) C lc' ((D, .lst ys') :: lw'') s₁ ∧ F ys' lw'' s₁
      | some v => wpAny (model prog w) A (letOwnedTupleGo target it v) (fun _ s₁' => wpAny (model prog w) A (assign target (compEnvC scope cl C env) v) (fun _ s₂' =>
          wpAny (model prog w) A (forIn ifs true fun c r => if r = true then do let ok ← isTrue c (compEnvC scope cl C env) (eval c (compEnvC scope cl C env)); pure (ForInStep.yield ok) else pure (ForInStep.yield r)) (fun ok s₃ =>
            if ok = true then wpAny (model prog w) A (eval elt (compEnvC scope cl C env)) (fun y s₄ => wpAny (model prog w) A (call (.builtin "list.append") [.ref D, y]) (fun _ s₅ => Ex4 fun m lc' ys' lw'' => And3 (m < n) (St s₂ (lw.map (·.1)) C lc' ((D, .lst ys') :: lw'') s₅) (R m ys' lw'' lc' s₅)) E' s₄) E' s₃
            else Ex4 fun m lc' ys' lw'' => And3 (m < n) (St s₂ (lw.map (·.1)) C lc' ((D, .lst ys') :: lw'') s₃) (R m ys' lw'' lc' s₃)) E' s₂') E' s₁') E' s₁) E' s)
    (h6 : ∀ ys lw' s' s'', F ys lw' s' → (∀ b o x k, s'.heap.get? b = some o → o.data = .seq x k → s''.heap.get? b = some o) → F ys lw' s'')
    (h7 : ∀ D ys lw' s', F ys lw' s' → St s₀ W L l ((D, .lst ys) :: (lw' ++ rest)) s' → U s₀ W L l ((D, .lst ys) :: (lw' ++ rest)) D s')
    : CompOk prog w A elt target ifs scope cl env it s₂ U
theorem comp_any {elt target iter : Expr} {ifs : List Expr} {scope : Scope} {cl : List (Str × Addr)} {use : Option (Value → Sem Unit)} {Q : Value → Shared → Prop}
    {U : Shared → List Addr → Addr → List (Str × Value) → List (Addr × Kn) → Addr → Shared → Prop}
    (hs : ∀ x, foldedSetIterable iter env x = pure x) (hclos : closureFor scope env = pure cl) (hcell : ∀ y ∈ scope.names, y.2 ≠ .cell) (hkind : scope.kind = .function)
    (hnames : ∀ y ∈ scope.names, y.2 = .local → scope.names.lookup y.1 = some .local)
    (hU : match use with
      | none => ∀ s₀ W L l led D s', U s₀ W L l led D s' → St s₀ W L l led s' → Q (.ref D) s'
      | some u => ∀ (C : Addr) s₀ W L l led D s', U s₀ W L l led D s' → St s₀ W L l led s' → s₀.heap.get? C = none → C ≠ L → (∀ p ∈ led, p.1 ≠ C) → (∃ m, s'.heap.Ns C m) → wpAny (model prog w) A (u (.ref D)) (fun _ s'' => (∃ m, s''.heap.Ns C m) ∧ ∀ h', Heap.SameBut C s''.heap h' → Q .none { s'' with heap := h' }) E s')
    (h : wpAny (model prog w) A (eval iter env) (fun xv s₁ => wpAny (model prog w) A (pyIter xv) (fun it s₂ => CompOk prog w A elt target ifs scope cl env it s₂ U) E s₁) E s) :
    wpAny (model prog w) A (comprehension (.ListComp elt [⟨target, iter, ifs, 0⟩] scope pos) scope env pos' (newList []) false (eval iter env) use) Q E s := by
  refine comp_go hs hclos hcell hkind hnames (wpAny_mono h (fun xv s₁ h₁ => wpAny_mono h₁ (fun it s₂ h₂ => ?_) fun _ _ e => e) fun _ _ e => e)
  obtain ⟨s₀, W, L, l, lw, rest, R, F, n, S₂, hWs, hR, hit, turn, hF, hend⟩ := h₂
  have hlw : ∀ p ∈ lw, p ∈ lw ++ rest := fun p hp => List.mem_append_left _ hp
  have ndl : (lw.map (·.1)).Nodup := S₂.nd.sublist ((List.sublist_append_left lw rest).map _)
  have hoff : ∀ p ∈ rest, p.1 ∉ lw.map (·.1) := fun p hp hm => by
    have := S₂.nd
    rw [List.map_append, List.nodup_append] at this
    exact this.2.2 _ hm _ (List.mem_map_of_mem hp) rfl
  refine ⟨lw.map (·.1), lw, fun C D n s => Ex3 fun lc ys lw' => St s₂ (lw.map (·.1)) C lc ((D, .lst ys) :: lw') s ∧ R n ys lw' lc s, fun C D s => Ex3 fun lc ys lw' => St s₂ (lw.map (·.1)) C lc ((D, .lst ys) :: lw') s ∧ F ys lw' s,
    fun p hp => S₂.hold p (hlw p hp), ndl, fun p hp => List.mem_map_of_mem hp, fun a ha => ?_, ?_, ?_, ?_⟩
  · obtain ⟨p, hp, rfl⟩ := List.mem_map.mp ha
    obtain ⟨o, e, _⟩ := S₂.hold p (hlw p hp)
    exact Heap.lt_size e
  · intro C D s hC hD S
    refine ⟨⟨n, [], [], lw, S, ?_⟩, fun Q₁ E' hq => hit C D s Q₁ E' S hq⟩
    exact hR s fun b o hb e => S.keep b o e hb
  · rintro C D n s E' ⟨lc, ys, lw', S, hR'⟩
    refine wpAny_mono (turn C D n s E' lc ys lw' S hR') (fun r s₁ h₁ => ?_) fun _ _ e => e
    cases r with
    | none => exact h₁
    | some v =>
      refine wpAny_mono h₁ (fun _ s₁' h₁' => wpAny_mono h₁' (fun _ s₂' h₂' => wpAny_mono h₂' (fun ok s₃ h₃ => ?_) fun _ _ e => e) fun _ _ e => e) fun _ _ e => e
      cases ok with
      | false =>
        obtain ⟨m, lc', ys', lw'', hm, S', hR''⟩ := h₃
        exact ⟨m, hm, lc', ys', lw'', S', hR''⟩
      | true =>
        refine wpAny_mono h₃ (fun y s₄ h₄ => wpAny_mono h₄ (fun _ s₅ h₅ => ?_) fun _ _ e => e) fun _ _ e => e
        obtain ⟨m, lc', ys', lw'', hm, S', hR''⟩ := h₅
        exact ⟨m, hm, lc', ys', lw'', S', hR''⟩
  · rintro C D s' hC hD hCD ⟨lc, ys, lw', S, hf⟩
    have SO : St s₀ W L l ((D, .lst ys) :: (lw' ++ rest)) s' := by
      refine S₂.merge (lw := (D, .lst ys) :: lw') S.toOut (fun a ha => ?_) S.fr S.nd (List.sublist_append_right lw rest) hoff
      rw [List.map_append]
      exact List.mem_append_left _ ha
    have hCs₀ : s₀.heap.get? C = none := by
      cases q : s₀.heap.get? C with
      | none => rfl
      | some o =>
        by_cases hw : C ∈ W
        · obtain ⟨o, e⟩ := hWs C hw
          rw [hC] at e; cases e
        · have := S₂.keep C o q hw
          rw [hC] at this; cases this
    have hCL : C ≠ L := fun q => by
      obtain ⟨m, hn, _⟩ := S₂.loc
      obtain ⟨o, _, _, ho, _⟩ := hn
      rw [← q, hC] at ho; cases ho
    have hCl : ∀ p ∈ (D, .lst ys) :: (lw' ++ rest), p.1 ≠ C := fun p hp q => by
      rcases List.mem_cons.mp hp with rfl | hp
      · exact hCD q.symm
      · rcases List.mem_append.mp hp with hp | hp
        · exact S.ne p (.tail _ hp) q
        · obtain ⟨o, e, _⟩ := S₂.hold p (List.mem_append_right _ hp)
          rw [q, hC] at e; cases e
    obtain ⟨m, hn, hm⟩ := S.loc
    refine ⟨m, hn, ?_⟩
    have hfs : ∀ h', Heap.SameBut C s'.heap h' → F ys lw' { s' with heap := h' } := fun h' hs => hF _ _ _ _ hf fun b o x k e hd => hs.extBut b o (fun q => by
      subst q
      obtain ⟨oc, es, ep, hoc, hdc, _⟩ := hn
      rw [e] at hoc; cases hoc
      rw [hd] at hdc; cases hdc) e
    cases use with
    | none =>
      intro h' hs
      have S' := SO.off hCs₀ hCL hCl hs
      exact hU _ _ _ _ _ _ _ (hend D ys lw' _ (hfs h' hs) S') S'
    | some u => exact hU C _ _ _ _ _ D s' (hend D ys lw' s' hf SO) SO hCs₀ hCL hCl ⟨m, hn⟩
theorem e_comp {elt target iter : Expr} {ifs : List Expr} {scope : Scope} {cl : List (Str × Addr)} {Q : Value → Shared → Prop}
    (hs : ∀ x, foldedSetIterable iter env x = pure x) (hclos : closureFor scope env = pure cl) (hcell : ∀ y ∈ scope.names, y.2 ≠ .cell) (hkind : scope.kind = .function)
    (hnames : ∀ y ∈ scope.names, y.2 = .local → scope.names.lookup y.1 = some .local)
    (h : wpAny (model prog w) A (eval iter env) (fun xv s₁ => wpAny (model prog w) A (pyIter xv) (fun it s₂ => CompOk prog w A elt target ifs scope cl env it s₂ (fun _ _ _ _ _ D s' => Q (.ref D) s')) E s₁) E s) :
    wpAny (model prog w) A (eval (.ListComp elt [⟨target, iter, ifs, 0⟩] scope pos) env) Q E s := by
  rw [eval_ListComp]
  exact comp_any (use := none) hs hclos hcell hkind hnames (fun _ _ _ _ _ _ _ hu _ => hu) h
theorem x_assign_comp {elt target iter : Expr} {ifs : List Expr} {scope : Scope} {cl : List (Str × Addr)} {y : Str} {py : Pos} {spos : Pos} {Q : Flow → Shared → Prop}
    (hsw : swapsWith (.ListComp elt [⟨target, iter, ifs, 0⟩] scope pos) (some (.Name y py)) spos.line env = pure true)
    (hs : ∀ x, foldedSetIterable iter env x = pure x) (hclos : closureFor scope env = pure cl) (hcell : ∀ y ∈ scope.names, y.2 ≠ .cell) (hkind : scope.kind = .function)
    (hnames : ∀ y ∈ scope.names, y.2 = .local → scope.names.lookup y.1 = some .local)
    (hp : (env.scope.kind == .class || (env.scope.kind == .module && env.locals != env.globals)) = false) (hx : env.kindOf y = some .local)
    (h : wpAny (model prog w) A (eval iter env) (fun xv s₁ => wpAny (model prog w) A (pyIter xv) (fun it s₂ => CompOk prog w A elt target ifs scope cl env it s₂
      (fun s₀ W L l led D s' => env.locals = L ∧ ∃ l', SetsTo y (.ref D) l l' ∧ ∀ s'', St s₀ W L l' led s'' → Q .next s'')) E s₁) E s) :
    wpAny (model prog w) A (exec (.Assign [.Name y py] (.ListComp elt [⟨target, iter, ifs, 0⟩] scope pos) spos) env) Q E s := by
  rw [exec_Assign_Name_used _ _ _ _ hsw]
  refine wpAny_bind (wpAny_standAt (wpAny_bind ?_))
  show wpAny _ A (do let _ ← comprehension (.ListComp elt [⟨target, iter, ifs, 0⟩] scope pos) scope env _ (newList []) false (eval iter env) (some (assign (.Name y py) env))) _ _ s
  refine wpAny_bind (wpAny_mono (comp_any (use := some (assign (.Name y py) env)) (Q := fun _ s' => Q .next s') hs hclos hcell hkind hnames ?_ h) (fun _ s' hq => wpAny_pure (wpAny_pure hq)) fun _ _ e => e)
  rintro C s₀ W L l led D s' ⟨rfl, l', hl, hq⟩ S hC hCL hCl ⟨m, hnC⟩
  obtain ⟨mm, hn, hm⟩ := S.loc
  refine wpAny_assign_Name (wpAny_storeName_local hx hn (fun h₂ hn₂ hs₂ => ?_) hp)
  have S2 : St s₀ W env.locals l' led { s' with heap := h₂, toks := s'.toks + 1 } := by
    refine ⟨⟨S.sw.trans ⟨_, _, rfl⟩, fun b o e n => (hs₂.2 b fun q => ?_).trans (S.keep b o e n), fun p hp => let ⟨o, e, q⟩ := S.hold p hp; ⟨o, (hs₂.2 _ (S.ne p hp)).trans e, q⟩⟩, ⟨_, hn₂, hm.set hl⟩, S.nd, S.ne, S.fr, S.neW, S.above⟩
    rw [q, S.above] at e; cases e
  exact ⟨⟨m, hnC.sameBut hs₂ hCL⟩, fun h' hs' => hq _ (S2.off hC hCL hCl hs')⟩
/-! numbers not below nought -/
variable {x y k p : Nat} {t u : Tok} {Q : Value → Shared → Prop}
theorem op_fdivN (S : St s₀ W L l led s) (hk : 0 < k) (hk2 : k < 2 ^ 64) (h : ∀ t s', St s₀ W L l led s' → Q (.int ((x / k : Nat) : Int) t) s') : wpAny (model prog w) A (binaryOp .FloorDiv (.int (x : Int) t) (.int (k : Int) u)) Q E s :=
  op_fdiv S (by walk_at "lia") (by
    have : (k : Int).natAbs = k := by walk_at "lia"
    rw [this]
    exact Nat.lt_of_le_of_lt (Nat.le_of_lt_succ ((Nat.log2_lt (by walk_at "lia")).mpr (Nat.lt_of_lt_of_le hk2 (by decide)) : k.log2 < 65)) (by decide)) fun t s' S' => by
    have e : (x : Int).fdiv (k : Int) = ((x / k : Nat) : Int) := by rw [Int.fdiv_eq_ediv_of_nonneg _ (by walk_at "lia")]; rfl
    rw [e]; exact h t s' S'
theorem op_modN (S : St s₀ W L l led s) (hk : 0 < k) (h : ∀ t s', St s₀ W L l led s' → Q (.int ((x % k : Nat) : Int) t) s') : wpAny (model prog w) A (binaryOp .Mod (.int (x : Int) t) (.int (k : Int) u)) Q E s :=
  op_mod S (by walk_at "lia") fun t s' S' => by
    have e : (x : Int).fmod (k : Int) = ((x % k : Nat) : Int) := by rw [Int.fmod_eq_emod_of_nonneg _ (by walk_at "lia")]; rfl
    rw [e]; exact h t s' S'
theorem op_fdivL (S : St s₀ W L l led s) (hk : 0 < (OfNat.ofNat k : Nat)) (hk2 : (OfNat.ofNat k : Nat) < 2 ^ 64) (h : ∀ t s', St s₀ W L l led s' → Q (.int ((x / (OfNat.ofNat k : Nat) : Nat) : Int) t) s') : wpAny (model prog w) A (binaryOp .FloorDiv (.int (x : Int) t) (.int (OfNat.ofNat k) u)) Q E s := op_fdivN S hk hk2 h
theorem op_modL (S : St s₀ W L l led s) (hk : 0 < (OfNat.ofNat k : Nat)) (h : ∀ t s', St s₀ W L l led s' → Q (.int ((x % (OfNat.ofNat k : Nat) : Nat) : Int) t) s') : wpAny (model prog w) A (binaryOp .Mod (.int (x : Int) t) (.int (OfNat.ofNat k) u)) Q E s := op_modN S hk h
theorem op_mulL (S : St s₀ W L l led s) (hk : (OfNat.ofNat k : Nat) < 2 ^ 64) (h : ∀ t s', St s₀ W L l led s' → Q (.int (((OfNat.ofNat k : Nat) * x : Nat) : Int) t) s') : wpAny (model prog w) A (binaryOp .Mult (.int (OfNat.ofNat k) t) (.int (x : Int) u)) Q E s :=
  op_mul S (PySem.IntMulOk.of_left ((intBits_le_iff (m := 64)).mpr (by have hk : k < 2 ^ 64 := hk; show (k : Int).natAbs < _; walk_at "lia"))) fun t s' S' => by
    have h1 : Q (.int ((k * x : Nat) : Int) t) s' := h t s' S'
    push_cast at h1
    exact h1
theorem op_addN (S : St s₀ W L l led s) (h : ∀ t s', St s₀ W L l led s' → Q (.int ((x + y : Nat) : Int) t) s') : wpAny (model prog w) A (binaryOp .Add (.int (x : Int) t) (.int (y : Int) u)) Q E s :=
  op_add S fun t s' S' => by have := h t s' S'; push_cast at this; exact this
theorem op_powS (S : St s₀ W L l led s) (hp : p ≤ (OfNat.ofNat y : Nat)) (hy : (OfNat.ofNat y : Nat) ≤ 1000) (hk : (OfNat.ofNat k : Nat) < 2 ^ 64) (h : ∀ t s', St s₀ W L l led s' → Q (.int (((OfNat.ofNat k : Nat) ^ ((OfNat.ofNat y : Nat) - p) : Nat) : Int) t) s') :
    wpAny (model prog w) A (binaryOp .Pow (.int (OfNat.ofNat k) t) (.int (OfNat.ofNat y - (p : Int)) u)) Q E s := by
  have hp : p ≤ y := hp
  have hy : y ≤ 1000 := hy
  have hk : k < 2 ^ 64 := hk
  have h : ∀ t s', St s₀ W L l led s' → Q (.int ((k ^ (y - p) : Nat) : Int) t) s' := h
  refine op_pow S (by show (0 : Int) ≤ (y : Int) - p; walk_at "lia") (by show (y : Int) - p ≤ 1000000; walk_at "lia") (by show (k : Int).natAbs < _; walk_at "lia") fun t s' S' => ?_
  have e : ((OfNat.ofNat k : Int) ^ ((OfNat.ofNat y : Int) - (p : Int)).toNat) = ((k ^ (y - p) : Nat) : Int) := by
    show ((k : Int) ^ ((y : Int) - (p : Int)).toNat) = _
    rw [show ((y : Int) - (p : Int)).toNat = y - p by walk_at "lia"]; push_cast; rfl
  rw [e]; exact h t s' S'
theorem item_SN {xs : List Nat} {c : Nat} {value slice : Expr} (S : St s₀ W L l led s) (hc : xs[k]? = some c) (hz : xs.length ≤ 1000) (h : ∀ t s', St s₀ W L l led s' → Q (.str (Mine.S [c]) t) s')
    (hs : subscripted slice false (.str (Mine.S xs) t) (.int (k : Int) u) = operate [.str (Mine.S xs) t, .int (k : Int) u] (getItem (.str (Mine.S xs) t) (.int (k : Int) u)) := by with_unfolding_all rfl)
    (ht : ∀ r, letTemporaryGo value (.str (Mine.S xs) t) r = pure () := by intro _; with_unfolding_all rfl) :
    wpAny (model prog w) A (subscriptTail value slice (.str (Mine.S xs) t) (.int (k : Int) u)) Q E s := item_S S (by walk_at "lia") (by simpa using hc) hz h hs ht
theorem tail_b {value slice : Expr} {o i : Value} {T id : String} (hT : s.TypeIs o T)
    (hl : typeLookup (.type T) "__getitem__" = pure (some (.builtin id))) (h : wpAny (model prog w) A (getItem o i) Q E s)
    (hs : subscripted slice false o i = operate [o, i] (getItem o i) := by with_unfolding_all rfl) :
    wpAny (model prog w) A (subscriptTail value slice o i) Q E s := by
  unfold subscriptTail
  refine wpAny_bind ?_
  rw [getitemInPython_of_ne hT.not_modules]
  refine wpAny_bind (wpAny_specialOf hT hl ?_)
  have fin : wpAny (model prog w) A (subscripted slice false o i) (fun r s₃ => wpAny (model prog w) A (letTemporaryGo value o r >>= fun _ => pure r) Q E s₃) E s := by
    rw [hs]
    exact wpAny_operating (wpAny_mono h (fun r s₃ h₃ => wpAny_bind (wpAny_letTemporaryGo (wpAny_pure h₃))) fun _ _ x => x)
  first
    | exact wpAny_pure (wpAny_bind fin)
    | exact wpAny_bind (wpAny_pure (wpAny_bind fin))
    | exact wpAny_bind fin
theorem item_tupN {its : Array Value} {x : Value} {T : Addr} {value slice : Expr} (hT : IsTup s.heap T its) (hx : its[k]? = some x) (hfit : (k : Int) < 2 ^ 63) (h : Q x s)
    (hs : subscripted slice false (.ref T) (.int (k : Int) u) = operate [.ref T, .int (k : Int) u] (getItem (.ref T) (.int (k : Int) u)) := by with_unfolding_all rfl) :
    wpAny (model prog w) A (subscriptTail value slice (.ref T) (.int (k : Int) u)) Q E s := by
  have hlt : k < its.size := by
    rcases Nat.lt_or_ge k its.size with h | h
    · exact h
    · rw [Array.getElem?_eq_none h] at hx; cases hx
  exact tail_b hT.typeIs slot_tuple_getitem.lookup (getItem_tuple hT (by walk_at "lia") hfit (StrLaws.seqIndex_nonneg (by walk_at "lia") (by walk_at "lia")) (by simpa using hx) h) hs
end
end
section
open PySem PySem.W PyProof.Rows PySem.Calls
noncomputable def kindL : List Nat := [63,112,99,63,100,63,98,63,45,63,108,63,115,63,63,63]
noncomputable def xL (p : Nat) : List Nat := if p = 2 then [45,120,84,116] else [45,120,83,115]
noncomputable def dig (mode p : Nat) : Nat := mode / 8 ^ (2 - p) % 8
noncomputable def ext (mode p : Nat) : Nat := mode / 2 ^ (11 - p) % 2
noncomputable def tri (mode p : Nat) : List Nat := [[45, 114].getD (dig mode p / 4) 0, [45, 119].getD (dig mode p / 2 % 2) 0, (xL p).getD (dig mode p % 2 + 2 * ext mode p) 0]
noncomputable def textTo (mode : Nat) : Nat → List Nat
  | 0 => [kindL.getD (mode / 4096) 0]
  | p + 1 => textTo mode p ++ tri mode p
noncomputable def lawText (mode : Nat) : List Nat := textTo mode 3
noncomputable def word (mode : Nat) : List Nat := (lawText mode).filter fun c => !(decide (c ∈ [45, 63]))
theorem textTo_len (mode p : Nat) : (textTo mode p).length = 1 + 3 * p := by
  induction p with
  | zero => rfl
  | succ p ih => simp [textTo, tri, ih]; omega
theorem getD_lt {l : List Nat} {i n : Nat} (h : ∀ c ∈ l, c < n) (h0 : 0 < n) : l.getD i 0 < n := by
  rw [List.getD_eq_getElem?_getD]
  cases q : l[i]? with
  | none => simpa using h0
  | some c => exact h c (List.mem_of_getElem? q)
theorem text_lt (mode p : Nat) : ∀ c ∈ textTo mode p, c < 128 := by
  induction p with
  | zero =>
    intro c hc
    rw [List.mem_singleton.mp hc]
    exact getD_lt (by decide) (by decide)
  | succ p ih =>
    intro c hc
    rcases List.mem_append.mp hc with hc | hc
    · exact ih c hc
    · simp only [tri, List.mem_cons, List.not_mem_nil, or_false] at hc
      rcases hc with rfl | rfl | rfl
      · exact getD_lt (by decide) (by decide)
      · exact getD_lt (by decide) (by decide)
      · exact getD_lt (by unfold xL; split <;> decide) (by decide)
theorem kind_eq : Str.ofString "?pc?d?b?-?l?s???" = S kindL := by kernel_rfl!
theorem r_eq : Str.ofString "-r" = S [45, 114] := by kernel_rfl!
theorem w_eq : Str.ofString "-w" = S [45, 119] := by kernel_rfl!
theorem xs_eq : Str.ofString "-xSs" = S [45, 120, 83, 115] := by kernel_rfl!
theorem xt_eq : Str.ofString "-xTt" = S [45, 120, 84, 116] := by kernel_rfl!
theorem getD_some {l : List Nat} {i : Nat} (h : i < l.length) : l[i]? = some (l.getD i 0) := by simp [List.getD, h]
section
variable {prog : Program} {w : World} {A : Around} {E : Value → Shared → Prop} {s₀ s : Shared} {W : List Addr} {L D I a : Addr} {l l' : List (Str × Value)} {led led' rest : List (Addr × Kn)}
  {env : Env} {pos pos' : Pos} {v : Value} {mg mb : Str → Option Value}
theorem e_tuple {elts : List Expr} {k : Nat} {Q : Value → Shared → Prop}
    (h : wpAny (model prog w) A (spliced (backTo pos (starEach elts env))) (fun vs s₁ => Ex5 fun s₀ W L l led => And3 (St s₀ W L l led s₁) (vs.length ≤ 1000) (∀ T s', St s₀ W L l ((T, .ob { cls := .type "tuple", data := .seq vs.toArray }) :: led) s' → Q (.ref T) s')) E s) :
    wpAny (model prog w) A (eval (.Tuple elts k pos) env) Q E s :=
  wpAny_Tuple (wpAny_mono h (fun vs s₁ ⟨s₀, W, L, l, led, S, hz, hq⟩ => ⟨Nat.le_trans hz (by decide), hq _ _ (S.new (t := s₁.toks) rfl rfl rfl)⟩) fun _ _ e => e)
theorem St.tupO {items : Array Value} (S : St s₀ W L l led s) (hm : (a, .ob { cls := .type "tuple", data := .seq items }) ∈ led) : IsTup s.heap a items := ⟨_, S.ob hm, rfl, _, rfl⟩
theorem St.noloc (S : St s₀ W L l led s) : St s₀ W L [] led s := S.mono_loc fun x v e => by cases e
theorem GW.comp {lw : List (Addr × Kn)} (G : GW w mg mb s₀ W) (S : St s₀ W L l (lw ++ rest) s) : GW w mg mb s (lw.map (·.1)) :=
  fun h' hk => G h' fun b o e n => hk b o (S.keep b o e n) fun hm => by
    obtain ⟨p, hp, rfl⟩ := List.mem_map.mp hm
    rcases S.fr p (List.mem_append_left _ hp) with h | h
    · exact n h
    · rw [h] at e; cases e
theorem go_name {x : Str} {p : Pos} {it v : Value} {Q : Unit → Shared → Prop} (h : Q () s) : wpAny (model prog w) A (letOwnedTupleGo (.Name x p) it v) Q E s := wpAny_of_eq rfl h
/-- the tests of a comprehension: none, and one -/
theorem tests0 {Q : Bool → Shared → Prop} {cenv : Env} (h : Q true s) :
    wpAny (model prog w) A (forIn ([] : List Expr) true fun c r => if r = true then do let ok ← isTrue c cenv (eval c cenv); pure (ForInStep.yield ok) else pure (ForInStep.yield r)) Q E s := wpAny_tests_nil h
theorem tests1 {e : Expr} {Q : Bool → Shared → Prop} {cenv : Env} (h : wpAny (model prog w) A (isTrue e cenv (eval e cenv)) Q E s) :
    wpAny (model prog w) A (forIn [e] true fun c r => if r = true then do let ok ← isTrue c cenv (eval c cenv); pure (ForInStep.yield ok) else pure (ForInStep.yield r)) Q E s := by
  rw [List.forIn_cons]
  simp only [if_true]
  refine wpAny_bind (wpAny_bind (wpAny_mono h (fun ok s' hq => wpAny_pure ?_) fun _ _ e => e))
  exact wpAny_pure hq
theorem item_x {t1 t2 t3 u : Tok} {p : Nat} {T : Addr} {value slice : Expr} {Q : Value → Shared → Prop} (hT : IsTup s.heap T ([.str (Str.ofString "-xSs") t1, .str (Str.ofString "-xSs") t2, .str (Str.ofString "-xTt") t3] : List Value).toArray) (hp : p < 3)
    (h : ∀ tx, Q (.str (Mine.S (xL p)) tx) s)
    (hs : subscripted slice false (.ref T) (.int (p : Int) u) = operate [.ref T, .int (p : Int) u] (getItem (.ref T) (.int (p : Int) u)) := by with_unfolding_all rfl) :
    wpAny (model prog w) A (subscriptTail value slice (.ref T) (.int (p : Int) u)) Q E s := by
  rw [xs_eq, xt_eq] at hT
  obtain ⟨tx, hx⟩ : ∃ tx, (([.str (Mine.S [45, 120, 83, 115]) t1, .str (Mine.S [45, 120, 83, 115]) t2, .str (Mine.S [45, 120, 84, 116]) t3] : List Value).toArray)[p]? = some (.str (Mine.S (xL p)) tx) := by
    have hp3 : p = 0 ∨ p = 1 ∨ p = 2 := by omega
    rcases hp3 with rfl | rfl | rfl
    · exact ⟨_, rfl⟩
    · exact ⟨_, rfl⟩
    · exact ⟨_, rfl⟩
  exact item_tupN hT hx (by omega) (h tx) hs
end
end
section
open PySem PySem.W PyProof.Rows PySem.Calls
noncomputable def NextR (prog : Program) (w : World) (s₀ : Shared) (W : List Addr) (L : Addr) (l : List (Str × Value)) (i : Addr) (k k' : Kn) (P : Value → Prop) : Prop :=
  ∀ (A : Around) (E : Value → Shared → Prop) s led led' (Q : Value → Shared → Prop), St s₀ W L l led s → LedUp i k k' led led' → (∀ x s', P x → St s₀ W L l led' s' → Q x s') → wpAny (model prog w) A (Builtin.SmallTypes.nextOf (.ref i)) Q E s
noncomputable def NextE (prog : Program) (w : World) (s₀ : Shared) (W : List Addr) (L : Addr) (l : List (Str × Value)) (i : Addr) (k : Kn) : Prop :=
  ∀ (A : Around) (E : Value → Shared → Prop) s led led' (Q : Value → Shared → Prop), A.handled = none → St s₀ W L l led s → (i, k) ∈ led → LedRm i led led' →
    (∀ e s', St s₀ W L l led' s' → (∃ o, s'.heap.get? e = some o ∧ o.cls = .type "StopIteration") → E (.ref e) s') → wpAny (model prog w) A (Builtin.SmallTypes.nextOf (.ref i)) Q E s
section
variable {prog : Program} {w : World} {A : Around} {E : Value → Shared → Prop} {s₀ s : Shared} {W : List Addr} {L D I a : Addr} {l l' : List (Str × Value)} {led led' rest rest1 rest2 : List (Addr × Kn)}
  {env : Env} {pos pos' : Pos} {v : Value} {mg mb : Str → Option Value}
theorem nextR_list {ax : Addr} {its : List Value} {i : Nat} {x : Value} (hl : ∀ led s, St s₀ W L l led s → s.heap.IsList ax its.toArray) (hx : its[i]? = some x) : NextR prog w s₀ W L l I (litK ax i) (litK ax (i + 1)) (· = x) :=
  fun A E s led led' Q S hu h => wpAny_nextOf_list_item (S.kn hu.mem) (hl _ _ S) (by simpa using hx) fun h' ⟨o, ho, hi⟩ hs => h _ _ rfl (S.upd (t := s.toks) hu ho hi fun b o hb e => hs.extBut b o hb e)
theorem nextE_list {ax : Addr} {its : List Value} {i : Nat} (hl : ∀ led s, St s₀ W L l led s → s.heap.IsList ax its.toArray) (hx : its[i]? = none) : NextE prog w s₀ W L l I (litK ax i) :=
  fun A E s led led' Q hA S hm hr h => wpAny_nextOf_list_end hA (S.kn hm) (hl _ _ S) (by simpa using hx) fun h' e hs he => h _ _ (S.forget (t := s.toks) hr fun b o hb e => hs b o hb e) he
theorem nextR_range {x left step : Int} (h0 : 0 < left) : NextR prog w s₀ W L l I (.ob (ritO x left step)) (.ob (ritO (x + step) (left - 1) step)) (fun v => ∃ t, v = .int x t) := fun A E s led led' Q S hu h => by
  have hit := S.ob hu.mem
  have hT : s.TypeIs (.ref I) "range_iterator" := ⟨_, hit, rfl⟩
  unfold Builtin.SmallTypes.nextOf
  refine wpAny_bind (wpAny_callSpecial?_slot (name := Str.ofString "__next__") hT F.slot_range_iterator_next
    (call_meets F.slot_range_iterator_next hT F.entry_range_iterator_next (F.args_range_iterator_next_1 _) (AutoRange.range_iterator___next___range_iterator_1 I x left step (by omega)) ⟨hit, ?_⟩))
  refine wpAny_pure (h _ _ ⟨_, rfl⟩ (S.upd hu (Heap.get?_update_self _ (Heap.get?_update_self _ hit rfl) rfl) rfl fun b o hb e => ((Heap.SameBut.update ..).trans (Heap.SameBut.update ..)).extBut b o hb e))
theorem nextE_range {x left step : Int} (h0 : left ≤ 0) : NextE prog w s₀ W L l I (.ob (ritO x left step)) := fun A E s led led' Q hA S hm hr h => by
  have hit := S.ob hm
  have hT : s.TypeIs (.ref I) "range_iterator" := ⟨_, hit, rfl⟩
  unfold Builtin.SmallTypes.nextOf
  refine wpAny_bind (wpAny_callSpecial?_slot (name := Str.ofString "__next__") hT F.slot_range_iterator_next
    (wpAny_call_entry F.slot_range_iterator_next hT F.entry_range_iterator_next ?_ (F.args_range_iterator_next_1 _)))
  show wpAny _ _ (field (.ref I) 0 >>= _) _ _ s
  refine wpAny_bind (wpAny_field hit rfl (x := rawInt x) rfl ?_)
  show wpAny _ _ (field (.ref I) 1 >>= _) _ _ s
  refine wpAny_bind (wpAny_field hit rfl (x := rawInt left) rfl ?_)
  show wpAny _ _ (field (.ref I) 2 >>= _) _ _ s
  refine wpAny_bind (wpAny_field hit rfl (x := rawInt step) rfl ?_)
  show wpAny _ _ (if left ≤ 0 then _ else _) _ _ s
  rw [if_pos h0]
  refine wpAny_bind (wpAny_rule ?_)
  refine wpAny_bind ?_
  show wpAny _ _ (newExc (.type "StopIteration") [] >>= _) _ _ _
  refine wpAny_bind ?_
  simp only [newExc, newTuple]
  refine wpAny_bind (wpAny_newObj_type ?_ (by size_fits))
  refine wpAny_bind (m := firstArgMember _ _) (wpAny_of_eq (a := Value.none) (by first | rfl | (simp only [firstArgMember]; rfl)) ?_)
  refine wpAny_newObj_type ?_ (by size_fits)
  simp only [raiseNew]
  refine wpAny_bind (wpAny_handled ?_)
  first | rw [show A.in1.handled = none from hA] | rw [hA]
  refine wpAny_bind (wpAny_pure (wpAny_throw ?_))
  exact h _ _ (S.forget (t := s.toks) hr fun b o hb e => ((((Heap.ExtBut.refl I s.heap).push _).push _) b o hb e)) ⟨_, Heap.get?_push_size _ rfl, rfl⟩
noncomputable abbrev zK (TI TO : Addr) (f0 : Value) : Kn := .ob { cls := .type "zip", dict := none, data := .fields #[f0, .bool false, .bool false, .ref TI, .ref TO], slots := #[] }
noncomputable abbrev pairO (x y : Value) : Obj := { cls := .type "tuple", data := .seq #[x, y] }
noncomputable abbrev pK : Kn := .pr fun o => ∃ x y, o = pairO x y
theorem LedUp.self (a : Addr) (k k' : Kn) (r : List (Addr × Kn)) : LedUp a k k' ((a, k) :: r) ((a, k') :: r) := .here
theorem nx_zip {z TI TO i1 i2 : Addr} {k1 k1' k2 k2' : Kn} {P1 P2 : Value → Prop} {Q : Option Value → Shared → Prop}
    (S : St s₀ W L l ((z, zK TI TO .none) :: (TO, pK) :: (TI, .ob (pairO (.ref i1) (.ref i2))) :: rest) s) (u1 : LedUp i1 k1 k1' rest rest1) (u2 : LedUp i2 k2 k2' rest1 rest2)
    (n1 : NextR prog w s₀ W L l i1 k1 k1' P1) (n2 : NextR prog w s₀ W L l i2 k2 k2' P2)
    (h : ∀ T x y s₁, P1 x → P2 y → (∀ (elts : List Expr) (x1 : Nat) (pos : Pos) (Q' : Unit → Shared → Prop) (E' : Value → Shared → Prop), (∀ s', St s₀ W L l ((T, .ob (pairO x y)) :: (z, zK TI TO .none) :: (TO, pK) :: (TI, .ob (pairO (.ref i1) (.ref i2))) :: rest2) s' → Q' () s') →
      wpAny (model prog w) A (letOwnedTupleGo (.Tuple elts x1 pos) (.ref z) (.ref T)) Q' E' s₁) → Q (some (.ref T)) s₁) :
    wpAny (model prog w) A (pyNext (.ref z)) Q E s := by
  have hz := S.ob (.head _)
  have hT : s.TypeIs (.ref z) "zip" := ⟨_, hz, rfl⟩
  unfold pyNext
  refine wpAny_bind (wpAny_attempt (wpAny_callSpecial?_slot (name := Str.ofString "__next__") hT F.slot_zip_next
    (wpAny_call_entry F.slot_zip_next hT F.entry_zip_next ?_ (F.args_zip_next_1 _))))
  show wpAny _ _ (field (.ref z) 2 >>= _) _ _ _
  refine wpAny_bind (wpAny_field hz rfl (x := .bool false) rfl ?_)
  show wpAny _ _ (field (.ref z) 3 >>= _) _ _ _
  refine wpAny_bind (wpAny_field hz rfl (x := .ref TI) rfl ?_)
  refine wpAny_bind (wpAny_seqItems (S.ob (.tail _ (.tail _ (.head _)))) rfl ?_)
  show wpAny _ _ (Builtin.SmallTypes.ownedTupleIsFree (.ref z) >>= _) _ _ _
  refine wpAny_bind ?_
  unfold Builtin.SmallTypes.ownedTupleIsFree
  refine wpAny_bind (wpAny_field hz rfl (x := .none) rfl (wpAny_pure ?_))
  simp only [if_true]
  refine wpAny_bind (wpAny_rule ?_)
  refine wpAny_bind (wpAny_field hz rfl (x := .ref TO) rfl ?_)
  refine wpAny_bind (wpAny_setField_rec hz (by simp) fun h₁ hz₁ hs₁ => ?_)
  have S1 := S.upd (t := s.toks) (.here (o' := zK TI TO .ellipsis)) hz₁ rfl fun b o hb e => hs₁.extBut b o hb e
  refine wpAny_bind ?_
  simp only [List.zipIdx_cons, List.zipIdx_nil, List.forIn_cons, List.forIn_nil]
  refine wpAny_bind (wpAny_bind (wpAny_onRaise ?_))
  show wpAny _ _ (Builtin.SmallTypes.nextOf (.ref i1) >>= _) _ _ _
  refine wpAny_bind (n1 _ _ _ _ _ _ S1 (.there (.there (.there u1))) fun x s2 hx S2 => wpAny_pure ?_)
  obtain ⟨oTO, hTO, a1, b1, rfl⟩ := S2.kn (.tail _ (.head _))
  refine wpAny_bind (wpAny_seqItems hTO rfl ?_)
  refine wpAny_bind (wpAny_updateSeq_pair hTO fun h₃ hTO₃ hs₃ => ?_)
  have S3 := S2.upd (t := s2.toks) (o := pK) (o' := .ob (pairO x b1)) (.there .here) hTO₃ rfl fun b o hb e => hs₃.extBut b o hb e
  refine wpAny_bind (wpAny_letGo (wpAny_pure ?_))
  refine wpAny_bind (wpAny_bind (wpAny_onRaise ?_))
  show wpAny _ _ (Builtin.SmallTypes.nextOf (.ref i2) >>= _) _ _ _
  refine wpAny_bind (n2 _ _ _ _ _ _ S3 (.there (.there (.there u2))) fun y s4 hy S4 => wpAny_pure ?_)
  have hTO₄ := S4.ob (.tail _ (.head _))
  refine wpAny_bind (wpAny_seqItems hTO₄ rfl ?_)
  refine wpAny_bind (wpAny_updateSeq_pair hTO₄ fun h₅ hTO₅ hs₅ => ?_)
  have S5 := S4.upd (t := s4.toks) (o := .ob (pairO x b1)) (o' := .ob (pairO x y)) (.there .here) hTO₅ rfl fun b o hb e => hs₅.extBut b o hb e
  refine wpAny_bind (wpAny_letGo (wpAny_pure (wpAny_pure ?_)))
  refine wpAny_bind (wpAny_seqItems (S5.ob (.tail _ (.head _))) rfl ?_)
  refine wpAny_bind (wpAny_newTuple ?_)
  have S6 := S5.new (t := s4.toks) (o := pairO x y) (kn := .ob (pairO x y)) rfl rfl rfl
  show wpAny _ _ (Builtin.SmallTypes.ownedTupleHandOut (.ref z) (.ref h₅.objs.size) >>= _) _ _ _
  refine wpAny_bind ?_
  unfold Builtin.SmallTypes.ownedTupleHandOut
  refine wpAny_bind (wpAny_setField_rec (S6.ob (.tail _ (.head _))) (by simp) fun h₇ hz₇ hs₇ => ?_)
  have S7 := S6.upd (t := s4.toks) (o' := zK TI TO (rawInt h₅.objs.size)) (.there .here) hz₇ rfl fun b o hb e => hs₇.extBut b o hb e
  refine wpAny_setField_rec (S7.ob (.tail _ (.head _))) (by simp) fun h₈ hz₈ hs₈ => ?_
  have S8 := S7.upd (t := s4.toks) (o' := zK TI TO (rawInt h₅.objs.size)) (.there .here) hz₈ rfl fun b o hb e => hs₈.extBut b o hb e
  refine wpAny_pure ⟨_, rfl, ?_⟩
  refine wpAny_pure (h h₅.objs.size x y _ hx hy fun elts x1 pos Q' E' hq => ?_)
  refine wpAny_letOwnedTupleGo_zip (S8.ob (.tail _ (.head _))) fun h₉ hz₉ hs₉ => ?_
  have S9 := S8.upd (t := s4.toks) (o' := zK TI TO .none) (.there .here) hz₉ rfl fun b o hb e => hs₉.extBut b o hb e
  exact hq _ (S9.upd (t := s4.toks) (o := .ob (pairO x y)) (o' := pK) (.there (.there .here)) (S9.ob (.tail _ (.tail _ (.head _)))) ⟨x, y, rfl⟩ fun b o _ e => e)
theorem nx_zip_end1 {z TI TO i1 i2 : Addr} {k1 : Kn} {Q : Option Value → Shared → Prop} (hA : A.handled = none)
    (S : St s₀ W L l ((z, zK TI TO .none) :: (TO, pK) :: (TI, .ob (pairO (.ref i1) (.ref i2))) :: rest) s) (hm : (i1, k1) ∈ rest) (hr : LedRm i1 rest rest1)
    (n1 : NextE prog w s₀ W L l i1 k1) (h : ∀ s', St s₀ W L l rest1 s' → Q none s') : wpAny (model prog w) A (pyNext (.ref z)) Q E s := by
  have hz := S.ob (.head _)
  have hT : s.TypeIs (.ref z) "zip" := ⟨_, hz, rfl⟩
  unfold pyNext
  refine wpAny_bind (wpAny_attempt (wpAny_callSpecial?_slot (name := Str.ofString "__next__") hT F.slot_zip_next
    (wpAny_call_entry F.slot_zip_next hT F.entry_zip_next ?_ (F.args_zip_next_1 _))))
  show wpAny _ _ (field (.ref z) 2 >>= _) _ _ _
  refine wpAny_bind (wpAny_field hz rfl (x := .bool false) rfl ?_)
  show wpAny _ _ (field (.ref z) 3 >>= _) _ _ _
  refine wpAny_bind (wpAny_field hz rfl (x := .ref TI) rfl ?_)
  refine wpAny_bind (wpAny_seqItems (S.ob (.tail _ (.tail _ (.head _)))) rfl ?_)
  show wpAny _ _ (Builtin.SmallTypes.ownedTupleIsFree (.ref z) >>= _) _ _ _
  refine wpAny_bind ?_
  unfold Builtin.SmallTypes.ownedTupleIsFree
  refine wpAny_bind (wpAny_field hz rfl (x := .none) rfl (wpAny_pure ?_))
  simp only [if_true]
  refine wpAny_bind (wpAny_rule ?_)
  refine wpAny_bind (wpAny_field hz rfl (x := .ref TO) rfl ?_)
  refine wpAny_bind (wpAny_setField_rec hz (by simp) fun h₁ hz₁ hs₁ => ?_)
  have S1 := S.upd (t := s.toks) (.here (o' := zK TI TO .ellipsis)) hz₁ rfl fun b o hb e => hs₁.extBut b o hb e
  refine wpAny_bind ?_
  simp only [List.zipIdx_cons, List.zipIdx_nil, List.forIn_cons, List.forIn_nil]
  refine wpAny_bind (wpAny_bind (wpAny_onRaise ?_))
  show wpAny _ _ (Builtin.SmallTypes.nextOf (.ref i1) >>= _) _ _ _
  refine wpAny_bind (n1 _ _ _ _ _ _ (by first | exact hA | (show A.in1.handled = none; exact hA)) S1 (.tail _ (.tail _ (.tail _ hm))) (.there (.there (.there hr))) fun e s2 S2 he => ?_)
  obtain ⟨oe, hoe, hce⟩ := he
  refine wpAny_setField_rec (S2.ob (.head _)) (by simp) fun h₃ hz₃ hs₃ => ?_
  have S3 := S2.upd (t := s2.toks) (.here (o' := zK TI TO .none)) hz₃ rfl fun b o hb e => hs₃.extBut b o hb e
  have hez : e ≠ z := fun q => by
    subst q
    have := S2.ob (.head _)
    rw [this] at hoe; cases hoe
    exact absurd (show Value.type "zip" = Value.type "StopIteration" from hce) (by decide)
  refine wpAny_bind (wpAny_isInstance (T := "StopIteration") (b := true) ⟨oe, hs₃.extBut _ _ hez hoe, hce⟩ isSubtype_stop ?_)
  exact wpAny_pure (h _ S3.drop.drop.drop)
theorem it_zip {z TI TO : Addr} {f0 : Value} {Q : Value → Shared → Prop} (S : St s₀ W L l led s) (hm : (z, zK TI TO f0) ∈ led) (h : Q (.ref z) s) : wpAny (model prog w) A (pyIter (.ref z)) Q E s := wpAny_pyIter_zip (S.ob hm) h
/-- zip of two lists -/
theorem c_zip_ll {l1 l2 : Addr} {xs ys : Array Value} {Q : Value → Shared → Prop} (S : St s₀ W L l led s) (hl1 : s.heap.IsList l1 xs) (hl2 : s.heap.IsList l2 ys)
    (h : ∀ z TI TO i1 i2 s', St s₀ W L l ((z, zK TI TO .none) :: (TO, pK) :: (TI, .ob (pairO (.ref i1) (.ref i2))) :: (i2, litK l2 0) :: (i1, litK l1 0) :: led) s' → Q (.ref z) s') :
    wpAny (model prog w) A (call (.type "zip") [.ref l1, .ref l2]) Q E s := by
  refine callType_new F.called_zip (by decide) (F.typeCall_zip_2 _ _) (F.newCall_zip_2 _ _) (fun obj => F.args_object_init_3 obj _ _) F.entry_zip_new
    (meets_zip_new l1 l2 xs ys) ⟨hl1, hl2, ?_⟩
  have S1 := S.new (t := s.toks) (h' := zipH1 s.heap l1) (kn := litK l1 0) rfl rfl ⟨rfl, rfl⟩
  have S2 := S1.new (t := s.toks) (h' := zipH2 s.heap l1 l2) (kn := litK l2 0) rfl rfl ⟨rfl, rfl⟩
  have S3 := S2.new (t := s.toks) (h' := zipH3 s.heap l1 l2) (kn := .ob (pairO (.ref s.heap.objs.size) (.ref (zipH1 s.heap l1).objs.size))) rfl rfl rfl
  have S4 := S3.new (t := s.toks) (h' := zipH4 s.heap l1 l2) (kn := pK) rfl rfl ⟨_, _, rfl⟩
  have S5 := S4.new (t := s.toks) (h' := zipH5 s.heap l1 l2) (kn := zK (zipH2 s.heap l1 l2).objs.size (zipH3 s.heap l1 l2).objs.size .none) rfl rfl rfl
  exact ⟨⟨_, Heap.get?_push_size _ rfl, rfl⟩, h _ _ _ _ _ _ S5⟩
end
noncomputable abbrev zrH1 (h : Heap) (a b c : Int) : Heap := h.push (ritO a (Builtin.Range.rangeSize a b c) c)
noncomputable abbrev zrH2 (h : Heap) (a b c : Int) (I : Addr) : Heap := (zrH1 h a b c).push (pairO (.ref h.objs.size) (.ref I))
noncomputable abbrev zrH3 (h : Heap) (a b c : Int) (I : Addr) : Heap := (zrH2 h a b c I).push (pairO .none .none)
noncomputable abbrev zrH4 (h : Heap) (a b c : Int) (I : Addr) : Heap := (zrH3 h a b c I).push { cls := .type "zip", data := .fields #[.none, .bool false, .bool false, .ref (zrH1 h a b c).objs.size, .ref (zrH2 h a b c I).objs.size] }
theorem Heap_IsListIter_push {h : Heap} {I ax : Addr} {i : Nat} (x : h.IsListIter I ax i) (o : Obj) : (h.push o).IsListIter I ax i := let ⟨o', e, r⟩ := x; ⟨o', Heap.get?_push_of_some _ e, r⟩
theorem meets_zip_rl (r I ax : Addr) (i : Nat) (a b c : Int) (t u v : Tok) (hsm : Builtin.Range.small a b c = true) :
    Meets (Builtin.«zip.__new__» ⟨[.type "zip", .ref r, .ref I], []⟩) (fun _ R s => s.heap.get? r = some (rangeO a b c t u v) ∧ s.heap.IsListIter I ax i ∧
      R (.ok (.ret (.ref (zrH3 s.heap a b c I).objs.size))) { s with heap := zrH4 s.heap a b c I }) :=
  .of_wp fun prog w A R s h => by
    obtain ⟨hp, g, d, tk, os⟩ := s; obtain ⟨hl1, hl2, h⟩ := h
    have hsub := sub_zip
    have hL1 : (Shared.heap ⟨hp, g, d, tk, os⟩).get? r = some (rangeO a b c t u v) := hl1
    have hL2 : Heap.IsListIter (Shared.heap ⟨zrH1 hp a b c, g, d, tk, os⟩) I ax i := Heap_IsListIter_push hl2 _
    wp_walk using wpAny_pyIter_range hL1 hsm, wpAny_pyIter_listiter hL2
    exact ⟨_, rfl, h⟩
section
variable {prog : Program} {w : World} {A : Around} {E : Value → Shared → Prop} {s₀ s : Shared} {W : List Addr} {L : Addr} {l : List (Str × Value)} {led : List (Addr × Kn)}
/-- zip of a range and an iterator of a list -/
theorem c_zip_rl {r I ax : Addr} {i : Nat} {a b c : Int} {t u v : Tok} {Q : Value → Shared → Prop} (S : St s₀ W L l led s) (hr : (r, .ob (rangeO a b c t u v)) ∈ led) (hI : (I, litK ax i) ∈ led) (hsm : Builtin.Range.small a b c = true)
    (h : ∀ z TI TO i1 s', St s₀ W L l ((z, zK TI TO .none) :: (TO, pK) :: (TI, .ob (pairO (.ref i1) (.ref I))) :: (i1, .ob (ritO a (Builtin.Range.rangeSize a b c) c)) :: led) s' → Q (.ref z) s') :
    wpAny (model prog w) A (call (.type "zip") [.ref r, .ref I]) Q E s := by
  refine callType_new F.called_zip (by decide) (F.typeCall_zip_2 _ _) (F.newCall_zip_2 _ _) (fun obj => F.args_object_init_3 obj _ _) F.entry_zip_new
    (meets_zip_rl r I ax i a b c t u v hsm) ⟨S.ob hr, S.kn hI, ?_⟩
  have S1 := S.new (t := s.toks) (h' := zrH1 s.heap a b c) (kn := .ob (ritO a (Builtin.Range.rangeSize a b c) c)) rfl rfl rfl
  have S3 := S1.new (t := s.toks) (h' := zrH2 s.heap a b c I) (kn := .ob (pairO (.ref s.heap.objs.size) (.ref I))) rfl rfl rfl
  have S4 := S3.new (t := s.toks) (h' := zrH3 s.heap a b c I) (kn := pK) rfl rfl ⟨_, _, rfl⟩
  have S5 := S4.new (t := s.toks) (h' := zrH4 s.heap a b c I) (kn := zK (zrH1 s.heap a b c).objs.size (zrH2 s.heap a b c I).objs.size .none) rfl rfl rfl
  exact ⟨⟨_, Heap.get?_push_size _ rfl, rfl⟩, h _ _ _ _ _ S5⟩
end
end
section
open PySem PySem.W PyProof.Rows PySem.Calls
noncomputable abbrev cellK (v : Value) : Kn := .pr fun o => o.data = .cell (some v)
section
variable {prog : Program} {w : World} {A : Around} {E : Value → Shared → Prop} {s₀ s : Shared} {W : List Addr} {L D I a : Addr} {l l' : List (Str × Value)} {led led' rest : List (Addr × Kn)}
  {env : Env} {pos pos' : Pos} {v : Value} {mg mb : Str → Option Value}
theorem St.cell {c : Addr} (S : St s₀ W L l led s) (hm : (c, cellK v) ∈ led) : s.heap.IsCell c (some v) := S.kn hm
theorem fn_call1 {f : Addr} {oc : Value} {od an : Option Addr} {name qual : Str} {params : Arguments} {body : List Stmt} {scope : Scope} {dV kV doc pm cdv ct : Value} {osl : Array (Option Value)} {vals : List Value} {kw : List (Str × Value)}
    {binds : List (Str × Value)} {lcl : List (Str × Value)} {kx : Str} {kv : Value} {Q : Value → Shared → Prop} (G : Gnd w mg mb s.heap) {n : Nat} (hA : Ok A (n + 1))
    (ho : (hd.heap_39 w.params).lookup f = some ⟨oc, od, .func (fnOf name qual params body scope dV kV doc pm an cdv ct), osl⟩) (hcd : codeIn (hd.heap_39 w.params) cdv qual = true)
    (hbind : BindsTo s (fnOf name qual params body scope dV kV doc pm an cdv ct) ⟨vals, kw⟩ binds)
    (hcs : ∀ L, cellsFrom (L + 1) scope.names [] = [(kx, L + 1)])
    (hkind : (binds.all fun x => scope.names.lookup x.1 == some .local || (scope.names.lookup x.1 == some .cell && x.1 == kx)) = true)
    (hcm : bindC (fun x => scope.names.lookup x) binds (fun _ => none) kx = some kv)
    (hlm : ∀ x v, lcl.lookup x = some v → bindL (fun x => scope.names.lookup x) binds (fun _ => none) x = some v)
    (h : ∀ s₁ L, St s [] L lcl [(L + 1, cellK kv)] s₁ → Gnd w mg mb s₁.heap → Ok (A.deeper (envX qual scope L f cdv [(kx, L + 1)])) n →
      wpAny (model prog w) (A.deeper (envX qual scope L f cdv [(kx, L + 1)])) (execs body (envX qual scope L f cdv [(kx, L + 1)])) (fun fl s' => Q (match fl with | .ret v => v | _ => .none) s') (fun _ _ => False) s₁)
    (hco : scope.isCoroutine = false := by rfl) (hgen : scope.isGenerator = false := by rfl) (hk : scope.kind = .function := by rfl) :
    wpAny (model prog w) A (call (.ref f) vals kw) Q E s := by
  have hd1 := hA.d
  refine wpAny_call (codeAny_call_function (fd := fnOf name qual params body scope dV kV doc pm an cdv ct) (by omega) (G.X f _ ho) rfl hco hgen rfl (codeRec_of G.X hcd) (hbind _ _ _ _ ?_))
  refine wpAny_newFunctionEnv_cells hk (fun x hx => ?_) fun env he s₁ x => ?_
  · have hkx := List.all_eq_true.mp hkind x hx
    simp only [Bool.or_eq_true, Bool.and_eq_true, beq_iff_eq] at hkx
    rcases hkx with h | ⟨h1, h2⟩
    · exact .inl h
    · refine .inr ⟨h1, ?_⟩
      show ((cellsFrom (s.heap.objs.size + 1) scope.names []).lookup x.1).isSome = true
      rw [hcs, h2]
      simp
  have hcsl := hcs s.heap.objs.size
  have hce : cellsFrom (s.heap.objs.size + 1) (fnOf name qual params body scope dV kV doc pm an cdv ct).scope.names [] = [(kx, s.heap.objs.size + 1)] := hcsl
  rw [hce] at he
  subst he
  have none_at : ∀ a, s.heap.objs.size ≤ a → s.heap.get? a = none := fun a ha => by
    cases q : s.heap.get? a with
    | none => rfl
    | some o' => exact absurd (Heap.lt_size q) (Nat.not_lt.mpr ha)
  refine ⟨G.lim.keeps x.toInCall.keep, codeAny_func ?_⟩
  obtain ⟨h₁, tk, rfl, hkeep⟩ := x.done
  have hcell := x.cell kx (s.heap.objs.size + 1) (by simp [newEnv])
  replace hcell : h₁.IsCell (s.heap.objs.size + 1) (bindC (fun x => scope.names.lookup x) binds (fun _ => none) kx) := hcell
  rw [hcm] at hcell
  have S1 : St s [] s.heap.objs.size lcl [(s.heap.objs.size + 1, cellK kv)] { s with heap := h₁, toks := tk } := by
    refine ⟨⟨Sw.mk', fun b o e _ => hkeep b o e, fun p hp => ?_⟩, ⟨_, x.toInCall.ns, fun y v e => hlm y v e⟩, by simp, fun p hp => ?_, fun p hp => ?_, by simp, none_at _ (Nat.le_refl _)⟩
    · rw [List.mem_singleton.mp hp]; exact hcell
    · rw [List.mem_singleton.mp hp]; exact Nat.succ_ne_self _
    · rw [List.mem_singleton.mp hp]; exact .inr (none_at _ (Nat.le_succ _))
  exact wpAny_mono (h _ s.heap.objs.size S1 (G.keeps hkeep) hA.deeper) (fun fl s' x => x) fun _ _ x => x.elim
end
end
section
open PySem PySem.W PyProof.Rows PySem.Calls
/-- the key: what is called with a spot gives the bytes of it -/
structure KeyOk (prog : Program) (w : World) (s : Shared) (W : List Addr) (kf : Addr) (ks : Nat → List UInt8) (N : Nat) : Prop where
  fn : ∃ o fd, s.heap.get? kf = some o ∧ o.data = .func fd
  off : kf ∉ W
  call : ∀ (A : Around) (E : Value → Shared → Prop) (s' : Shared) (i : Nat) (t : Tok) (Q : Value → Shared → Prop), (∀ b o, s.heap.get? b = some o → b ∉ W → s'.heap.get? b = some o) → Ok A 3 → i < N →
    (∀ t' s'', Out s' [] [] s'' → Q (.bytes (ks i).toArray t') s'') → wpAny (model prog w) A (call (.ref kf) [.int (i : Int) t]) Q E s'
/-- what is picked from: the list of spots, or an iterator of it; L0 is the caller's frame -/
inductive Src (s : Shared) (Sp L0 : Addr) : Value → List Addr → Prop
  | list : Src s Sp L0 (.ref Sp) [L0]
  | iter {I : Addr} : s.heap.IsListIter I Sp 0 → I ≠ L0 → Src s Sp L0 (.ref I) [I, L0]
theorem St.addW {s₀ s : Shared} {W : List Addr} {L I : Addr} {l : List (Str × Value)} {led : List (Addr × Kn)} {kn : Kn} {o : Obj} (S : St s₀ W L l led s) (hD : s₀.heap.get? I = some o) (hk : kn.ok o) (hI : I ∉ W) : St s₀ (I :: W) L l ((I, kn) :: led) s := by
  have hne : I ≠ L := fun e => by rw [e, S.above] at hD; cases hD
  have hnl : ∀ p ∈ led, p.1 ≠ I := fun p hp e => by
    rcases S.fr p hp with h | h
    · exact hI (e ▸ h)
    · rw [e, hD] at h; cases h
  refine ⟨⟨S.sw, fun b o e hb => S.keep b o e fun hm => hb (.tail _ hm), fun p hp => ?_⟩, S.loc, ?_, fun p hp => ?_, fun p hp => ?_, ?_, S.above⟩
  · rcases List.mem_cons.mp hp with rfl | hp
    · exact ⟨o, S.keep _ _ hD hI, hk⟩
    · exact S.hold p hp
  · rw [List.map_cons, List.nodup_cons]
    refine ⟨fun hm => ?_, S.nd⟩
    obtain ⟨p, hp, e⟩ := List.mem_map.mp hm
    exact hnl p hp e
  · rcases List.mem_cons.mp hp with rfl | hp
    · exact hne
    · exact S.ne p hp
  · rcases List.mem_cons.mp hp with rfl | hp
    · exact .inl (.head _)
    · rcases S.fr p hp with h | h
      · exact .inl (.tail _ h)
      · exact .inr h
  · intro hm
    rcases List.mem_cons.mp hm with e | hm
    · exact hne e.symm
    · exact S.neW hm
theorem look2 {a b : Str} {va vb v : Value} {x : Str} (hab : a ≠ b) (e : List.lookup x [(a, va), (b, vb)] = some v) : (if x = b then some vb else if x = a then some va else none) = some v := by
  rw [List.lookup_cons] at e
  by_cases h1 : x = a
  · subst h1
    rw [if_neg hab, if_pos rfl]
    simpa using e
  · have hb1 : (x == a) = false := by simpa using h1
    rw [hb1] at e
    rw [List.lookup_cons] at e
    by_cases h2 : x = b
    · subst h2
      rw [if_pos rfl]
      simpa using e
    · have hb2 : (x == b) = false := by simpa using h2
      rw [hb2] at e
      simp at e
section
variable {prog : Program} {w : World} {A : Around} {E : Value → Shared → Prop} {s₀ s : Shared} {W : List Addr} {L D I a c : Addr} {l l' : List (Str × Value)} {led led' rest : List (Addr × Kn)}
  {env : Env} {pos pos' : Pos} {v : Value} {mg mb : Str → Option Value} {x : Str}
/-- a name that is a cell, by the ledger -/
theorem evE_cellL {Q : Value → Shared → Prop} (S : St s₀ W L l led s) (hc : env.cells.lookup x = some c) (hm : (c, cellK v) ∈ led) (h : Q v s) (hk : env.scope.kind = .function) (hx : env.kindOf x = some .cell) (hd : (x == ("__debug__" : Str)) = false) :
    wpAny (model prog w) A (eval (.Name x pos) env) Q E s := evE_cell hc (S.cell hm) h hk hx hd
/-- a call by a name that stands for a function of the base -/
theorem cw_key {f : Addr} {e : Expr} {rest : List Expr} {Q : Value → Shared → Prop} (hf : ∃ o fd, s₀.heap.get? f = some o ∧ o.data = .func fd) (hW : f ∉ W)
    (he : backTo pos (starEach (e :: rest) env) = (false, eval e env) :: backTo pos (starEach rest env))
    (h : wpAny (model prog w) A (spliced (backTo pos (starEach (e :: rest) env))) (fun vs s₁ => (∃ L l led, St s₀ W L l led s₁) ∧ wpAny (model prog w) A (call (.ref f) vs) Q E s₁) E s) :
    wpAny (model prog w) A (callWith pos (.ref f) [] (backTo pos (starEach (e :: rest) env)) (backToKw pos (keywordEach [] env))) Q E s := by
  obtain ⟨o, fd, ho, hd⟩ := hf
  show wpAny (model prog w) A (callWith pos (.ref f) [] (backTo pos (starEach (e :: rest) env)) []) Q E s
  refine callWith_function (o := o) (fd := fd) ?_
  rw [he] at h ⊢
  refine evalArgs_plain (wpAny_mono h (fun vs s₁ h₁ => ?_) fun _ _ x => x)
  obtain ⟨⟨L, l, led, S⟩, hc⟩ := h₁
  exact ⟨⟨S.keep _ _ ho hW, hd⟩, hc⟩
/-- one statement, with what it leaves -/
theorem x_then {st : Stmt} {rest : List Stmt} {Q : Flow → Shared → Prop} (R : Shared → Prop) (h1 : PostFor (PN R Q) fun QB => wpAny (model prog w) A (exec st env) QB E s)
    (h2 : ∀ s', R s' → wpAny (model prog w) A (execs rest env) Q E s') : wpAny (model prog w) A (execs (st :: rest) env) Q E s := by
  refine wpAny_execs_cons (wpAny_mono h1.go (fun f s' hf => ?_) fun _ _ e => e)
  cases f with
  | next => exact h2 s' hf
  | _ => exact hf
end
end
section
open PySem PySem.W PyProof.Rows PySem.Calls
noncomputable abbrev slotK (o : Obj) : Kn := .pr fun o' => ∃ sl, o' = { o with slots := sl }
noncomputable abbrev exc0K (cls : String) : Kn := .pr fun o => o.cls = .type cls ∧ ∃ vs, o.data = .fields vs ∧ vs[1]? = some .none
noncomputable abbrev excK (cls : String) (tb : Addr) : Kn := .pr fun o => o.cls = .type cls ∧ ∃ vs, o.data = .fields vs ∧ vs[1]? = some (.ref tb)
noncomputable abbrev tbK : Kn := .pr fun o => ∃ ts, o.data = .fields ts ∧ 3 < ts.size
section
variable {prog : Program} {w : World} {A : Around} {E : Value → Shared → Prop} {s₀ s : Shared} {W : List Addr} {L D I a e tb L0 : Addr} {l l' : List (Str × Value)} {led led' rest : List (Addr × Kn)}
  {env env0 : Env} {pos pos' : Pos} {v : Value} {mg mb : Str → Option Value}
theorem St.fresh {h' : Heap} {t : Nat} {o : Obj} {kn : Kn} (S : St s₀ W L l led s) (hk : ∀ b o, s.heap.get? b = some o → h'.get? b = some o) (ho : h'.get? e = some o) (hn : s.heap.get? e = none) (hq : kn.ok o) :
    St s₀ W L l ((e, kn) :: led) { s with heap := h', toks := t } := by
  have S1 : St s₀ W L l led { s with heap := h', toks := t } := S.keeps ⟨_, _, rfl⟩ hk
  refine S.merge (W' := []) (lw := [(e, kn)]) (rest := led) ⟨⟨_, _, rfl⟩, fun b o x _ => hk b o x, fun p hp => ?_⟩ (by simp) (fun p hp => .inr ?_) (by simp) (List.Sublist.refl _) (by simp)
  · rw [List.mem_singleton.mp hp]; exact ⟨o, ho, hq⟩
  · rw [List.mem_singleton.mp hp]; exact hn
theorem St.perm (S : St s₀ W L l led s) (hp : led'.Perm led) : St s₀ W L l led' s :=
  ⟨⟨S.sw, S.keep, fun p h => S.hold p (hp.mem_iff.mp h)⟩, S.loc, (hp.map _).nodup_iff.mpr S.nd, fun p h => S.ne p (hp.mem_iff.mp h), fun p h => S.fr p (hp.mem_iff.mp h), S.neW, S.above⟩
theorem note_St {cls : String} {o0 : Obj} {Q : Unit → Shared → Prop} (S : St s₀ W L l ((e, exc0K cls) :: (L0, slotK o0) :: led) s) (hfr : A.frames = some [env, env0]) (hf : env.frame = some L) (hf0 : env0.frame = some L0)
    (hk : env.scope.kind ≠ .module) (hk0 : env0.scope.kind ≠ .module) (hd0 : ∀ vs, o0.data ≠ .fields vs)
    (h : ∀ tb s', St s₀ W L l ((tb, tbK) :: (e, excK cls tb) :: (L0, slotK o0) :: led) s' → Q () s') : wpAny (model prog w) A (noteFrame (.ref e) env) Q E s := by
  obtain ⟨oe, he, hcls, vs, hd, h1⟩ := S.kn (.head _)
  obtain ⟨oL, hL, sl, rfl⟩ := S.kn (.tail _ (.head _))
  have hsz : 1 < vs.size := (Array.getElem?_eq_some_iff.mp h1).1
  have nd := S.nd
  simp only [List.map_cons, List.nodup_cons, List.mem_cons, not_or] at nd
  have hLL := S.loc
  obtain ⟨m, hn, hm⟩ := hLL
  obtain ⟨oN, es, ep, hoN, hdN, _⟩ := id hn
  have hl : s.heap.FunFrames {} [env, env0] := ⟨hk, ⟨L, oN, hf, rfl, hoN, fun vs q => by rw [hdN] at q; cases q⟩, hk0, ⟨L0, _, hf0, rfl, hL, fun vs q => hd0 vs q⟩, trivial⟩
  unfold noteFrame
  simp only [hf]
  refine wpAny_bind (wpAny_field he hd h1 ?_)
  rw [if_neg (show ¬ ((Value.none != Value.none) = true) from by simp)]
  refine wpAny_bind (wpAny_frameOf_fun hfr hl hf fun h₁ hs₁ => ?_)
  have hfm : ([env, env0] : List Env).filterMap (·.frame) = [L, L0] := by simp [hf, hf0]
  rw [hfm] at hs₁
  have S1 : St s₀ W L l ((e, exc0K cls) :: (L0, slotK o0) :: led) { s with heap := h₁ } := by
    refine ⟨⟨S.sw.trans ⟨_, _, rfl⟩, fun b o x n => ?_, fun p hp => ?_⟩, ⟨m, ?_, hm⟩, S.nd, S.ne, S.fr, S.neW, S.above⟩
    · have hb : b ∉ [L, L0] := by
        intro hm
        rcases List.mem_cons.mp hm with q | hm
        · rw [q, S.above] at x; cases x
        · rw [List.mem_singleton.mp hm] at x n
          rcases S.fr _ (.tail _ (.head _)) with q | q
          · exact n q
          · rw [q] at x; cases x
      exact (hs₁.2.1 b hb).trans (S.keep b o x n)
    · rcases List.mem_cons.mp hp with rfl | hp
      · exact ⟨oe, (hs₁.2.1 e (by simp only [List.mem_cons, List.not_mem_nil, or_false, not_or]; exact ⟨S.ne _ (.head _), nd.1.1⟩)).trans he, hcls, vs, hd, h1⟩
      · rcases List.mem_cons.mp hp with rfl | hp
        · obtain ⟨sl', e'⟩ := hs₁.2.2 _ _ hL
          exact ⟨_, e', sl', rfl⟩
        · obtain ⟨o, ho, hq⟩ := S.hold p (.tail _ (.tail _ hp))
          refine ⟨o, (hs₁.2.1 _ ?_).trans ho, hq⟩
          simp only [List.mem_cons, List.not_mem_nil, or_false, not_or]
          refine ⟨S.ne p (.tail _ (.tail _ hp)), fun q => nd.2.1 ?_⟩
          rw [← q]; exact List.mem_map_of_mem hp
    · obtain ⟨sl', e'⟩ := hs₁.2.2 _ _ hoN
      exact ⟨_, es, ep, e', hdN, (by obtain ⟨_, _, _, ho', hd', r⟩ := hn; rw [hoN] at ho'; cases ho'; rw [hdN] at hd'; cases hd'; exact r)⟩
  refine wpAny_bind (wpAny_entryPlaceOf fun pl hpl => ?_)
  unfold EntryCells.newEntry newFields
  refine wpAny_bind (wpAny_newObj_type ?_ (hpl.sizeOk5 _ _ _ _ _))
  have S2 := S1.new (t := s.toks) (o := { cls := .type "traceback", dict := none, data := .fields ([Value.none, .ref L, .none, rawInt L, .none] ++ (if pl.isEmpty then List.replicate 6 Value.none else pl)).toArray }) (kn := tbK) rfl rfl ⟨_, rfl, by simp⟩
  have he₁ : h₁.get? e = some oe := (hs₁.2.1 e (by simp only [List.mem_cons, List.not_mem_nil, or_false, not_or]; exact ⟨S.ne _ (.head _), nd.1.1⟩)).trans he
  have he₂ := Heap.get?_push_of_some (h := h₁) { cls := .type "traceback", dict := none, data := .fields ([Value.none, .ref L, .none, rawInt L, .none] ++ (if pl.isEmpty then List.replicate 6 Value.none else pl)).toArray } he₁
  refine wpAny_setField he₂ hd hsz ?_
  have hd₃ := Obj.data_mapFields hd (·.setIfInBounds 1 (Value.ref h₁.objs.size))
  have S3 := S2.upd (t := s.toks) (o := exc0K cls) (o' := excK cls h₁.objs.size) (.there .here) (Heap.get?_update_self (Obj.mapFields (·.setIfInBounds 1 (Value.ref h₁.objs.size))) he₂ (Obj.isFreed_of_fields hd₃))
    ⟨(Obj.cls_mapFields _ _).trans hcls, _, hd₃, by simp [hsz]⟩ fun b o hb x => (Heap.SameBut.update ..).extBut b o hb x
  exact h _ _ S3
theorem flight_St {cls : String} {Q : Unit → Shared → Prop} (S : St s₀ W L l led s) (hm : (e, excK cls tb) ∈ led) (ht : (tb, tbK) ∈ led) (hu : LedUp tb tbK tbK led led) (h : ∀ s', St s₀ W L l led s' → Q () s') : wpAny (model prog w) A (setFlight (.ref e) none) Q E s := by
  obtain ⟨oe, he, hcls, vs, hd, h1⟩ := S.kn hm
  obtain ⟨otb, htb, ts, hdt, hsz⟩ := S.kn ht
  have hd₃ := Obj.data_mapFields hdt (·.setIfInBounds 3 Value.none)
  refine wpAny_setFlight_none he hd h1 htb hdt hsz (h _ ?_)
  exact S.upd (t := s.toks) hu (Heap.get?_update_self _ htb (Obj.isFreed_of_fields hd₃)) ⟨_, hd₃, by simpa using hsz⟩ fun b o hb x => (Heap.SameBut.update ..).extBut b o hb x
/-! len of an iterator of a list -/
theorem no_len_listiter : typeLookup (.type "list_iterator") "__len__" = pure none := by rw [typeLookup_type, builtinLookup_eq_fast]; kernel_rfl
theorem c_len_iter {ax : Addr} {i : Nat} {Q : Value → Shared → Prop} (hA : A.handled = none) (S : St s₀ W L l led s) (hm : (I, litK ax i) ∈ led) (h : ∀ e s', St s₀ W L l ((e, exc0K "TypeError") :: led) s' → E (.ref e) s') :
    wpAny (model prog w) A (call (.builtin "len") [.ref I]) Q E s := by
  obtain ⟨o, ho, hc, hd⟩ := S.kn hm
  have hT : s.TypeIs (.ref I) "list_iterator" := ⟨o, ho, hc⟩
  refine call_function_any kind_len plain_len entry_len (args_len1 _) ?_
  unfold Builtin.«len»
  refine wpAny_bind (m := oneArg "len" _) (wpAny_pure ?_)
  refine wpAny_bind (m := callSpecial? (.ref I) (Str.ofString "__len__")) (wpAny_callSpecial?_none hT no_len_listiter ?_)
  dsimp only
  refine wpAny_bind (wpAny_rule ?_)
  refine wpAny_bind (wpAny_typeNameOf' hT (by decide) ?_)
  refine raiseError_exc excClass_TypeError (by first | exact hA | (show A.in1.handled = none; exact hA)) (fun h' tk e x => ?_) (by decide +kernel)
  obtain ⟨ob, t, hob, hcls, hdat⟩ := x.there
  exact h _ _ (S.fresh x.keeps hob x.new ⟨hcls, _, hdat, rfl⟩)
/-! iter -/
theorem c_iter {x : Value} {Q : Value → Shared → Prop} (h : wpAny (model prog w) A.in1 (pyIter x) Q E s) : wpAny (model prog w) A (call (.builtin "iter") [x]) Q E s := by
  refine call_function_entry (by decide +kernel) (by decide +kernel) kdk_entry_iter (kdk_args_iter _) ?_
  unfold Builtin.«iter»
  refine wpAny_bind (m := someArgs "iter" 1 2 _) (wpAny_of_eq (a := [x]) (by first | rfl | kernel_rfl!) ?_)
  show wpAny _ _ (pyIter x >>= _) _ _ _
  exact wpAny_bind (wpAny_mono h (fun v s' hv => wpAny_pure ⟨_, rfl, hv⟩) fun _ _ e => e)
end
end
section
open PySem PySem.W PyProof.Rows PySem.Calls
theorem te1 : isSubtype (.type "TypeError") (.type "BaseException") = pure true := by rw [isSubtype_type]; kernel_rfl
theorem te2 : isSubtype (.type ((Manifest.find? "TypeError").elim "type" fun x => x.metatype)) (.type "tuple") = pure false := by rw [isSubtype_type]; kernel_rfl
theorem te3 : isSubtype (.type "AttributeError") (.type "BaseException") = pure true := by rw [isSubtype_type]; kernel_rfl
theorem te4 : isSubtype (.type ((Manifest.find? "AttributeError").elim "type" fun x => x.metatype)) (.type "tuple") = pure false := by rw [isSubtype_type]; kernel_rfl
theorem te5 : isSubtype (.type "TypeError") (.type "TypeError") = pure true := by rw [isSubtype_type]; kernel_rfl
theorem te6 : isSubtype (.type "TypeError") (.type "AttributeError") = pure false := by rw [isSubtype_type]; kernel_rfl
section
variable {w : World} {mg mb : Str → Option Value} {h : Heap}
theorem n_TypeError (G : Gnd w mg mb h) : mg (Str.ofString "TypeError") = none := mg_none_of G.X G.g (by kernel_rfl!)
theorem b_TypeError : bootBuiltins (Str.ofString "TypeError") = some (.type "TypeError") := by boot_fast
theorem n_AttributeError (G : Gnd w mg mb h) : mg (Str.ofString "AttributeError") = none := mg_none_of G.X G.g (by kernel_rfl!)
theorem b_AttributeError : bootBuiltins (Str.ofString "AttributeError") = some (.type "AttributeError") := by first | decide +kernel | kernel_rfl
end
end
section
open PySem PySem.W PyProof.Rows PySem.Calls
theorem a2_skip (st : Nat × Nat × List Nat) (cs : List Nat) : cs.foldl a2step st = (cs.filter fun c => decide (val64 c < 64)).foldl a2step st := by
  induction cs generalizing st with
  | nil => rfl
  | cons c cs ih =>
    rw [List.foldl_cons, ih]
    by_cases h : val64 c < 64
    · rw [List.filter_cons_of_pos (by simpa using h), List.foldl_cons]
    · rw [List.filter_cons_of_neg (by simpa using h)]
      congr 1
      unfold a2step
      rw [if_pos (by omega)]
theorem a2_four {c0 c1 c2 c3 l : Nat} {out : List Nat} (h0 : val64 c0 < 64) (h1 : val64 c1 < 64) (h2 : val64 c2 < 64) (h3 : val64 c3 < 64) :
    a2step (a2step (a2step (a2step (0, l, out) c0) c1) c2) c3 = (0, 0, out ++ [val64 c0 * 4 + val64 c1 / 16, val64 c1 % 16 * 16 + val64 c2 / 4, val64 c2 % 4 * 64 + val64 c3]) := by
  have e0 : a2step (0, l, out) c0 = (1, val64 c0, out) := by unfold a2step; rw [if_neg (by omega)]; rfl
  have e1 : a2step (1, val64 c0, out) c1 = (2, val64 c1 % 16, out ++ [val64 c0 * 4 + val64 c1 / 16]) := by unfold a2step; rw [if_neg (by omega)]; rfl
  have e2 : ∀ o, a2step (2, val64 c1 % 16, o) c2 = (3, val64 c2 % 4, o ++ [val64 c1 % 16 * 16 + val64 c2 / 4]) := fun o => by unfold a2step; rw [if_neg (by omega)]; rfl
  have e3 : ∀ o, a2step (3, val64 c2 % 4, o) c3 = (0, 0, o ++ [val64 c2 % 4 * 64 + val64 c3]) := fun o => by unfold a2step; rw [if_neg (by omega)]; rfl
  rw [e0, e1, e2, e3]
  simp
noncomputable def be3 (v : Nat) : List Nat := [v / 65536 % 256, v / 256 % 256, v % 256]
noncomputable def be9 (v : Nat) : List Nat := [v / 256 ^ 8 % 256, v / 256 ^ 7 % 256, v / 256 ^ 6 % 256, v / 256 ^ 5 % 256, v / 256 ^ 4 % 256, v / 256 ^ 3 % 256, v / 256 ^ 2 % 256, v / 256 ^ 1 % 256, v / 256 ^ 0 % 256]
noncomputable def val256 (ds : List Nat) : Nat := ds.foldl (fun v d => v * 256 + d) 0
theorem val256_snoc (ds : List Nat) (d : Nat) : val256 (ds ++ [d]) = val256 ds * 256 + d := by unfold val256; rw [List.foldl_append]; rfl
theorem fold256 (ds : List Nat) (v : Nat) : ds.foldl (fun v d => v * 256 + d) v = v * 256 ^ ds.length + val256 ds := by
  unfold val256
  induction ds generalizing v with
  | nil => simp
  | cons d ds ih =>
    rw [List.foldl_cons, List.foldl_cons, ih, ih (0 * 256 + d), List.length_cons, Nat.pow_succ]
    rw [Nat.zero_mul, Nat.zero_add, Nat.add_mul, Nat.mul_assoc, Nat.mul_comm 256, Nat.add_assoc]
theorem val256_app (xs ys : List Nat) : val256 (xs ++ ys) = val256 xs * 256 ^ ys.length + val256 ys := by
  show (xs ++ ys).foldl _ 0 = _
  rw [List.foldl_append, fold256]; rfl
noncomputable def digs : Nat → Nat → List Nat
  | 0, _ => []
  | n + 1, v => digs n (v / 256) ++ [v % 256]
theorem dig_val : ∀ n v, v < 256 ^ n → val256 (digs n v) = v
  | 0, v, h => (Nat.lt_one_iff.mp h).symm
  | n + 1, v, h => by
    rw [digs, val256_snoc, dig_val n (v / 256) (Nat.div_lt_of_lt_mul (by rw [Nat.mul_comm, ← Nat.pow_succ]; exact h)), Nat.div_add_mod']
theorem dig_lt : ∀ n v, ∀ d ∈ digs n v, d < 256
  | 0, v, d, h => nomatch h
  | n + 1, v, d, h => by
    rw [digs, List.mem_append, List.mem_singleton] at h
    rcases h with h | rfl
    · exact dig_lt n _ d h
    · exact Nat.mod_lt _ (by decide)
theorem dig_of (ds : List Nat) : (∀ d ∈ ds, d < 256) → digs ds.length (val256 ds) = ds := by
  generalize hn : ds.length = n
  induction n generalizing ds with
  | zero => intro _; rw [List.length_eq_zero_iff.mp hn]; rfl
  | succ n ih =>
    intro h
    have hne : ds ≠ [] := by intro e; rw [e] at hn; cases hn
    obtain ⟨ys, d, e⟩ : ∃ ys d, ds = ys ++ [d] := ⟨_, _, (List.dropLast_concat_getLast hne).symm⟩
    subst e
    have hd : d < 256 := h d (by simp)
    have hy : ys.length = n := by rw [List.length_append] at hn; exact Nat.succ.inj hn
    have e1 : (val256 ys * 256 + d) / 256 = val256 ys := by rw [Nat.mul_comm, Nat.mul_add_div (by decide), Nat.div_eq_of_lt hd, Nat.add_zero]
    have e2 : (val256 ys * 256 + d) % 256 = d := by rw [Nat.mul_comm, Nat.mul_add_mod, Nat.mod_eq_of_lt hd]
    rw [digs, val256_snoc, e1, e2, ih ys hy fun x hx => h x (List.mem_append_left _ hx)]
theorem be3_dig (v : Nat) : be3 v = digs 3 v := by
  simp only [digs, Nat.div_div_eq_div_mul]; rfl
theorem be9_dig (v : Nat) : be9 v = digs 9 v := by
  simp only [digs, Nat.div_div_eq_div_mul]
  unfold be9
  rw [Nat.pow_zero, Nat.div_one]
  rfl
theorem four_be3 {a b c d : Nat} (ha : a < 64) (hb : b < 64) (hc : c < 64) (hd : d < 64) : [a * 4 + b / 16, b % 16 * 16 + c / 4, c % 4 * 64 + d] = be3 (((a * 64 + b) * 64 + c) * 64 + d) := by
  have hb' := Nat.div_add_mod b 16
  have hc' := Nat.div_add_mod c 4
  have h1 : b / 16 < 4 := Nat.div_lt_of_lt_mul hb
  have h2 : b % 16 < 16 := Nat.mod_lt _ (by decide)
  have h3 : c / 4 < 16 := Nat.div_lt_of_lt_mul hc
  have h4 : c % 4 < 4 := Nat.mod_lt _ (by decide)
  generalize b / 16 = b1 at *
  generalize b % 16 = b0 at *
  generalize c / 4 = c1 at *
  generalize c % 4 = c0 at *
  have e : ((a * 64 + b) * 64 + c) * 64 + d = val256 [a * 4 + b1, b0 * 16 + c1, c0 * 64 + d] := by
    show _ = ((0 * 256 + (a * 4 + b1)) * 256 + (b0 * 16 + c1)) * 256 + (c0 * 64 + d)
    omega
  rw [e, be3_dig]
  refine (dig_of [_, _, _] ?_).symm
  intro x hx
  simp only [List.mem_cons, List.not_mem_nil, or_false] at hx
  rcases hx with rfl | rfl | rfl <;> omega
theorem be9_of {x y z : Nat} (hx : x < 256 ^ 3) (hy : y < 256 ^ 3) (hz : z < 256 ^ 3) : be3 x ++ be3 y ++ be3 z = be9 ((x * 256 ^ 3 + y) * 256 ^ 3 + z) := by
  have e : (x * 256 ^ 3 + y) * 256 ^ 3 + z = val256 (be3 x ++ be3 y ++ be3 z) := by
    rw [val256_app, val256_app, be3_dig, be3_dig, be3_dig, dig_val 3 _ hx, dig_val 3 _ hy, dig_val 3 _ hz]
    rfl
  rw [e, be9_dig]
  refine (dig_of _ ?_).symm
  intro d hd
  rw [be3_dig, be3_dig, be3_dig, List.mem_append, List.mem_append] at hd
  rcases hd with (h | h) | h <;> exact dig_lt _ _ _ h
noncomputable def val12 (vs : List Nat) : Nat := vs.foldl (fun v c => v * 64 + c) 0
theorem four_of {cs : List Nat} {n : Nat} (h : cs.length = n + 4) : ∃ a b c d r, cs = a :: b :: c :: d :: r ∧ r.length = n := by
  rcases cs with _ | ⟨a, _ | ⟨b, _ | ⟨c, _ | ⟨d, r⟩⟩⟩⟩
  all_goals first | exact ⟨_, _, _, _, _, rfl, Nat.add_right_cancel (m := 4) h⟩ | (exfalso; simp at h; try omega)
theorem a2_twelve {cs : List Nat} (hl : cs.length = 12) (hv : ∀ c ∈ cs, val64 c < 64) : a2 cs = (0, 0, be9 (val12 (cs.map val64))) := by
  obtain ⟨c0, c1, c2, c3, r1, rfl, h1⟩ := four_of (n := 8) hl
  obtain ⟨c4, c5, c6, c7, r2, rfl, h2⟩ := four_of (n := 4) h1
  obtain ⟨c8, c9, c10, c11, r3, rfl, h3⟩ := four_of (n := 0) h2
  obtain rfl := List.length_eq_zero_iff.mp h3
  · clear hl h1 h2 h3
    have h := fun c hc => hv c hc
    simp only [List.mem_cons, List.not_mem_nil, or_false, forall_eq_or_imp, forall_eq] at h
    obtain ⟨h0, h1, h2, h3, h4, h5, h6, h7, h8, h9, h10, h11⟩ := h
    have four : ∀ {a b c d : Nat}, a < 64 → b < 64 → c < 64 → d < 64 → ((a * 64 + b) * 64 + c) * 64 + d < 256 ^ 3 := fun ha hb hc hd => by omega
    unfold a2
    simp only [List.foldl_cons, List.foldl_nil]
    rw [a2_four h0 h1 h2 h3, a2_four h4 h5 h6 h7, a2_four h8 h9 h10 h11, four_be3 h0 h1 h2 h3, four_be3 h4 h5 h6 h7, four_be3 h8 h9 h10 h11]
    rw [List.nil_append, be9_of (four h0 h1 h2 h3) (four h4 h5 h6 h7) (four h8 h9 h10 h11)]
    congr 3
    have f4 : ∀ v a b c d : Nat, [a, b, c, d].foldl (fun v c => v * 64 + c) v = v * 256 ^ 3 + (((a * 64 + b) * 64 + c) * 64 + d) := by
      intro v a b c d
      simp only [List.foldl_cons, List.foldl_nil]
      omega
    have e : val12 ([c0, c1, c2, c3, c4, c5, c6, c7, c8, c9, c10, c11].map val64) = (([val64 c0, val64 c1, val64 c2, val64 c3] ++ [val64 c4, val64 c5, val64 c6, val64 c7]) ++ [val64 c8, val64 c9, val64 c10, val64 c11]).foldl (fun v c => v * 64 + c) 0 := rfl
    rw [e, List.foldl_append, List.foldl_append, f4, f4, f4, Nat.zero_mul, Nat.zero_add]
end
section
open PySem PySem.W PyProof.Rows PySem.Calls
theorem and_bit (m i : Nat) : m &&& 2 ^ i = (m.testBit i).toNat * 2 ^ i := by
  apply Nat.eq_of_testBit_eq
  intro j
  rw [Nat.testBit_and, Nat.testBit_two_pow]
  by_cases h : i = j
  · subst h
    cases m.testBit i <;> simp
  · cases m.testBit i <;> simp [h]
theorem bit1 (m b c d : Nat) (x : Bool) (hb : 0 ≠ b) (h : m &&& b = x.toNat * b) : pick (fun b => m &&& b == b) d [(b, c)] = [d, c].getD x.toNat 0 := by
  unfold pick pick
  rw [h]
  cases x
  · rw [if_neg (by simpa using hb)]; rfl
  · rw [if_pos (by simp)]; rfl
theorem bit2 (m o a b c1 c2 c3 d : Nat) (x y : Bool) (hn : 0 ≠ a ∧ 0 ≠ b ∧ 0 ≠ o ∧ a ≠ b ∧ a ≠ o ∧ b ≠ o) (ho : a ||| b = o) (hx : m &&& a = x.toNat * a) (hy : m &&& b = y.toNat * b) :
    pick (fun b => m &&& b == b) d [(o, c1), (b, c2), (a, c3)] = [d, c3, c2, c1].getD (x.toNat + 2 * y.toNat) 0 := by
  obtain ⟨h1, h2, h3, h4, h5, h6⟩ := hn
  unfold pick pick pick pick
  have e : m &&& o = (m &&& a) ||| (m &&& b) := by rw [← ho, Nat.and_or_distrib_left]
  rw [e, hx, hy]
  cases x <;> cases y <;> simp only [Bool.toNat_false, Bool.toNat_true, Nat.zero_mul, Nat.one_mul, Nat.zero_or, Nat.or_zero, ho, beq_iff_eq, h1, h2, h3, h5, h6, if_true, if_false] <;> rfl
theorem row_bits (m k l : Nat) (c1 c2 c3 : Nat) (hk : k < l) : pick (fun b => m &&& b == b) 45 [(2 ^ k ||| 2 ^ l, c1), (2 ^ l, c2), (2 ^ k, c3)] = [45, c3, c2, c1].getD (m / 2 ^ k % 2 + 2 * (m / 2 ^ l % 2)) 0 := by
  have p1 := Nat.two_pow_pos k
  have p2 := Nat.pow_lt_pow_right (a := 2) (by decide) hk
  have p3 := Nat.two_pow_add_eq_or_of_lt p2 1
  rw [Nat.mul_one, Nat.or_comm] at p3
  rw [← Nat.toNat_testBit, ← Nat.toNat_testBit]
  exact bit2 m _ _ _ _ _ _ _ _ _ (by rw [← p3]; exact ⟨Nat.ne_of_lt p1, Nat.ne_of_lt (Nat.lt_trans p1 p2), Nat.ne_of_lt (Nat.add_pos_right _ p1), Nat.ne_of_lt p2, Nat.ne_of_lt (Nat.lt_add_of_pos_left (Nat.lt_trans p1 p2)), Nat.ne_of_lt (Nat.lt_add_of_pos_right p1)⟩) rfl (and_bit m k) (and_bit m l)
theorem row_bit (m k c : Nat) : pick (fun b => m &&& b == b) 45 [(2 ^ k, c)] = [45, c].getD (m / 2 ^ k % 2) 0 := by
  have p1 := Nat.two_pow_pos k
  rw [← Nat.toNat_testBit]
  exact bit1 m _ _ _ _ (Nat.ne_of_lt p1) (and_bit m k)
theorem dig_bit (m j i : Nat) (hi : i < 3) : m / 2 ^ j % 2 ^ 3 / 2 ^ i % 2 = m / 2 ^ (j + i) % 2 := by
  rw [← Nat.toNat_testBit, ← Nat.toNat_testBit, Nat.testBit_mod_two_pow, Nat.testBit_div_two_pow, decide_eq_true hi, Bool.true_and, Nat.add_comm]
theorem tri_bits (m p j : Nat) (hj : 8 ^ (2 - p) = 2 ^ j) : tri m p = [[45, 114].getD (m / 2 ^ (j + 2) % 2) 0, [45, 119].getD (m / 2 ^ (j + 1) % 2) 0, (xL p).getD (m / 2 ^ (j + 0) % 2 + 2 * (m / 2 ^ (11 - p) % 2)) 0] := by
  have h4 : m / 2 ^ j % 2 ^ 3 / 2 ^ 2 = m / 2 ^ (j + 2) % 2 := by
    rw [← dig_bit m j 2 (by decide)]
    exact (Nat.mod_eq_of_lt (Nat.div_lt_of_lt_mul (Nat.mod_lt _ (by decide)))).symm
  unfold tri dig ext
  rw [hj, ← h4, ← dig_bit m j 1 (by decide), ← dig_bit m j 0 (by decide), Nat.pow_zero, Nat.div_one]
theorem rows_tri (m : Nat) : rowsT.map (pick (fun b => m &&& b == b) 45) = tri m 0 ++ tri m 1 ++ tri m 2 := by
  rw [tri_bits m 0 6 rfl, tri_bits m 1 3 rfl, tri_bits m 2 0 rfl]
  have c : ∀ {a b : Nat} {l l' : List Nat}, a = b → l = l' → a :: l = b :: l' := fun h h' => h ▸ h' ▸ rfl
  exact c (row_bit m 8 114) (c (row_bit m 7 119) (c (row_bits m 6 11 115 83 120 (by decide)) (c (row_bit m 5 114) (c (row_bit m 4 119) (c (row_bits m 3 10 115 83 120 (by decide)) (c (row_bit m 2 114) (c (row_bit m 1 119) (c (row_bits m 0 9 116 84 120 (by decide)) rfl))))))))
theorem and_high {mode : Nat} (h : mode < 65536) : mode &&& 61440 = mode / 4096 * 4096 := by
  have e1 : (61440 : Nat) = (2 ^ 4 - 1) <<< 12 := by decide
  have e2 : mode / 4096 * 4096 = (mode >>> 12) <<< 12 := by rw [Nat.shiftRight_eq_div_pow, Nat.shiftLeft_eq]
  rw [e1, e2]
  apply Nat.eq_of_testBit_eq
  intro i
  rw [Nat.testBit_and, Nat.testBit_shiftLeft, Nat.testBit_shiftLeft, Nat.testBit_shiftRight, Nat.testBit_two_pow_sub_one]
  by_cases hi : 12 ≤ i
  · have : 12 + (i - 12) = i := by omega
    simp only [hi, decide_true, Bool.true_and, this]
    by_cases h4 : i - 12 < 4
    · simp [h4]
    · have : mode.testBit i = false := Nat.testBit_lt_two_pow (Nat.lt_of_lt_of_le h (show 65536 ≤ 2 ^ i from Nat.le_trans (by decide : 65536 ≤ 2 ^ 16) (Nat.pow_le_pow_right (by decide) (by omega))))
      simp [h4, this]
  · simp [hi]
theorem kind16 : ∀ k < 16, pick (fun b => k * 4096 == b) 63 row0 = kindL.getD k 0 := by decide +kernel
theorem listing_eq {mode : Nat} (h : mode < 65536) : listing mode = lawText mode := by
  have h0 : pick (fun b => mode &&& 61440 == b) 63 row0 = kindL.getD (mode / 4096) 0 := by
    rw [← kind16 (mode / 4096) (by omega), and_high h]
  unfold listing lawText
  rw [h0, rows_tri]
  simp only [textTo]
  simp
theorem pick_mem (t : Nat → Bool) (d : Nat) : ∀ row : List (Nat × Nat), pick t d row ∈ d :: row.map (·.2)
  | [] => .head _
  | (b, c) :: r => by
    unfold pick
    split
    · simp
    · have := pick_mem t d r
      rcases List.mem_cons.mp this with h | h
      · rw [h]; exact .head _
      · exact .tail _ (.tail _ h)
theorem listing_mem {mode : Nat} : ∀ c ∈ listing mode, c ∈ signs12 ++ [45, 63] := by
  intro c hc
  unfold listing at hc
  rcases List.mem_cons.mp hc with rfl | hc
  · have h := pick_mem (fun b => mode &&& 61440 == b) 63 row0
    exact (by decide : ∀ c ∈ 63 :: row0.map (·.2), c ∈ signs12 ++ [45, 63]) _ h
  · obtain ⟨row, hrow, rfl⟩ := List.mem_map.mp hc
    have h := pick_mem (fun b => mode &&& b == b) 45 row
    exact (by decide : ∀ row ∈ rowsT, ∀ c ∈ 45 :: row.map (·.2), c ∈ signs12 ++ [45, 63]) row hrow _ h
theorem word_mem {mode : Nat} (h : mode < 65536) : ∀ c ∈ word mode, c ∈ signs12 := by
  intro c hc
  unfold word at hc
  rw [← listing_eq h] at hc
  obtain ⟨h1, h2⟩ := List.mem_filter.mp hc
  have h3 := listing_mem c h1
  rcases List.mem_append.mp h3 with h4 | h4
  · exact h4
  · simp [h4] at h2
theorem word_len (mode : Nat) : (word mode).length ≤ 10 := by
  unfold word
  exact Nat.le_trans (List.length_filter_le _ _) (by unfold lawText; rw [textTo_len]; decide)
theorem val_tr : ∀ p ∈ signs7, ∀ q ∈ signs7, p ≠ q → (∀ c ∈ signs12, val64 (trC p q c) = fig p q c ∧ val64 (trC p q c) < 64) ∧ val64 (trC p q 65) = 0 ∧ val64 (trC p q 45) = 64 ∧ val64 (trC p q 63) = 64 := by decide +kernel
noncomputable def cipher (mode : Nat) : List Nat := listing mode ++ List.replicate (12 - (word mode).length) 65
theorem cipher_alph {mode : Nat} : ∀ c ∈ cipher mode, c ∈ alph := by
  intro c hc
  rcases List.mem_append.mp hc with h | h
  · have := listing_mem c h
    unfold alph
    rcases List.mem_append.mp this with h | h
    · exact List.mem_append_left _ h
    · refine List.mem_append_right _ ?_
      simp only [List.mem_cons, List.not_mem_nil, or_false] at h ⊢
      omega
  · rw [List.eq_of_mem_replicate h]; decide
theorem cipher_len {mode : Nat} : (cipher mode).length ≤ 1000 ∧ cipher mode ≠ [] := by
  refine ⟨?_, ?_⟩
  · unfold cipher
    rw [List.length_append, List.length_replicate]
    have : (listing mode).length = 10 := by simp [listing, rowsT]
    omega
  · unfold cipher listing; simp
noncomputable def numOf (p q mode : Nat) : Nat := numV p q (word mode) * 64 ^ (12 - (word mode).length)
theorem val12_app (xs ys : List Nat) (v : Nat) : (xs ++ ys).foldl (fun v c => v * 64 + c) v = ys.foldl (fun v c => v * 64 + c) (xs.foldl (fun v c => v * 64 + c) v) := List.foldl_append
theorem val12_zero (k v : Nat) : (List.replicate k 0).foldl (fun v c => v * 64 + c) v = v * 64 ^ k := by
  induction k generalizing v with
  | zero => simp
  | succ k ih => rw [List.replicate_succ, List.foldl_cons, ih, Nat.pow_succ, Nat.add_zero, Nat.mul_assoc, Nat.mul_comm 64]
theorem b64_law {mode p q : Nat} (h : mode < 65536) (hp : p ∈ signs7) (hq : q ∈ signs7) (hpq : p ≠ q) : a2 ((cipher mode).map (trC p q)) = (0, 0, be9 (numOf p q mode)) := by
  obtain ⟨hv, h65, h45, h63⟩ := val_tr p hp q hq hpq
  have hwl := word_len mode
  have hflt : ((cipher mode).map (trC p q)).filter (fun c => decide (val64 c < 64)) = (word mode ++ List.replicate (12 - (word mode).length) 65).map (trC p q) := by
    unfold cipher
    rw [List.map_append, List.filter_append, List.map_append]
    congr 1
    · unfold word
      rw [← listing_eq h, List.filter_map]
      congr 1
      refine List.filter_congr fun c hc => ?_
      have hm := listing_mem c hc
      show decide (val64 (trC p q c) < 64) = !(decide (c ∈ [45, 63]))
      rcases List.mem_append.mp hm with h | h
      · have h1 : c ∉ [45, 63] := fun h2 => (by decide : ∀ c ∈ signs12, c ∉ [45, 63]) c h h2
        simp only [(hv c h).2, h1, decide_true, decide_false, Bool.not_false]
      · have h2 : val64 (trC p q c) = 64 := by
          simp only [List.mem_cons, List.not_mem_nil, or_false] at h
          rcases h with rfl | rfl
          · exact h45
          · exact h63
        simp only [h2, h, decide_true, Bool.not_true]
        decide
    · rw [List.map_replicate, List.filter_eq_self.mpr]
      intro c hc
      rw [List.eq_of_mem_replicate hc, h65]; decide
  unfold a2
  rw [a2_skip, hflt]
  have hlt : ∀ c ∈ (word mode ++ List.replicate (12 - (word mode).length) 65).map (trC p q), val64 c < 64 := by
    intro c hc
    obtain ⟨d, hd, rfl⟩ := List.mem_map.mp hc
    rcases List.mem_append.mp hd with h' | h'
    · exact (hv d (word_mem h d h')).2
    · rw [List.eq_of_mem_replicate h', h65]; decide
  have h12 := a2_twelve (cs := (word mode ++ List.replicate (12 - (word mode).length) 65).map (trC p q)) (by simp; omega) hlt
  unfold a2 at h12
  rw [h12]
  congr 3
  unfold val12 numOf numV
  rw [List.map_map, List.map_append, val12_app, List.map_replicate]
  have e : (val64 ∘ trC p q) 65 = 0 := h65
  rw [e, val12_zero]
  congr 1
  have hmap : (word mode).map (val64 ∘ trC p q) = (word mode).map (fig p q) := List.map_congr_left fun c hc => (hv c (word_mem h c hc)).1
  rw [hmap, List.foldl_map]
end
section
open PySem PySem.W PyProof.Rows PySem.Calls
theorem val256_lt {ds : List Nat} (h : ∀ d ∈ ds, d < 256) : val256 ds < 256 ^ ds.length := by
  induction ds with
  | nil => simp [val256]
  | cons d ds ih =>
    have h1 := ih fun x hx => h x (.tail _ hx)
    have h2 := h d (.head _)
    have e : val256 (d :: ds) = d * 256 ^ ds.length + val256 ds := by
      show ds.foldl (fun v d => v * 256 + d) (0 * 256 + d) = _
      rw [fold256]; simp
    rw [e, List.length_cons, Nat.pow_succ]
    have h3 : d * 256 ^ ds.length ≤ 255 * 256 ^ ds.length := Nat.mul_le_mul_right _ (by walk_at "lia")
    walk_at "lia"
theorem val256_cons (d : Nat) (ds : List Nat) : val256 (d :: ds) = d * 256 ^ ds.length + val256 ds := by
  show ds.foldl (fun v d => v * 256 + d) (0 * 256 + d) = _
  rw [fold256]; simp
theorem u8_lt {a b : Nat} (ha : a < 256) (hb : b < 256) : (a.toUInt8 < b.toUInt8) ↔ a < b := by
  rw [UInt8.lt_iff_toNat_lt]
  show a % 256 < b % 256 ↔ a < b
  walk_at "lia"
theorem ltB_val : ∀ {xs ys : List Nat}, xs.length = ys.length → (∀ d ∈ xs, d < 256) → (∀ d ∈ ys, d < 256) → ltB (byteL xs) (byteL ys) = decide (val256 xs < val256 ys)
  | [], [], _, _, _ => rfl
  | x :: xs, y :: ys, hl, hx, hy => by
    have ih := ltB_val (xs := xs) (ys := ys) (by simpa using hl) (fun d hd => hx d (.tail _ hd)) (fun d hd => hy d (.tail _ hd))
    have hx0 := hx x (.head _)
    have hy0 := hy y (.head _)
    have vx := val256_lt (ds := xs) fun d hd => hx d (.tail _ hd)
    have vy := val256_lt (ds := ys) fun d hd => hy d (.tail _ hd)
    have hl' : xs.length = ys.length := by simpa using hl
    show (if x.toUInt8 < y.toUInt8 then true else if y.toUInt8 < x.toUInt8 then false else ltB (byteL xs) (byteL ys)) = _
    rw [val256_cons, val256_cons, hl', ih]
    rw [hl'] at vx
    by_cases h1 : x < y
    · rw [if_pos ((u8_lt hx0 hy0).mpr h1)]
      have : (x + 1) * 256 ^ ys.length ≤ y * 256 ^ ys.length := Nat.mul_le_mul_right _ h1
      rw [Nat.add_mul, Nat.one_mul] at this
      symm; rw [decide_eq_true_iff]; walk_at "lia"
    · rw [if_neg (fun h => h1 ((u8_lt hx0 hy0).mp h))]
      by_cases h2 : y < x
      · rw [if_pos ((u8_lt hy0 hx0).mpr h2)]
        have : (y + 1) * 256 ^ ys.length ≤ x * 256 ^ ys.length := Nat.mul_le_mul_right _ h2
        rw [Nat.add_mul, Nat.one_mul] at this
        symm; rw [decide_eq_false_iff_not]; walk_at "lia"
      · rw [if_neg (fun h => h2 ((u8_lt hy0 hx0).mp h))]
        obtain rfl : x = y := by walk_at "lia"
        congr 1
        rw [eq_iff_iff]; walk_at "lia"
theorem be9_val {v : Nat} (h : v < 256 ^ 9) : val256 (be9 v) = v := by
  rw [be9_dig]
  exact dig_val 9 v h
theorem be9_lt (v : Nat) : ∀ d ∈ be9 v, d < 256 := by
  rw [be9_dig]
  exact dig_lt 9 v
theorem ltB_be9 {x y : Nat} (hx : x < 256 ^ 9) (hy : y < 256 ^ 9) : ltB (byteL (be9 x)) (byteL (be9 y)) = decide (x < y) := by
  rw [ltB_val (xs := be9 x) (ys := be9 y) rfl (be9_lt x) (be9_lt y), be9_val hx, be9_val hy]
theorem numOf_lt {mode p q : Nat} (h : mode < 65536) : numOf p q mode < 256 ^ 9 := by
  have h1 := numV_lt p q (word mode) fun c hc => signs12_le c (word_mem h c hc)
  have h2 := word_len mode
  unfold numOf
  have : numV p q (word mode) * 64 ^ (12 - (word mode).length) < 64 ^ (word mode).length * 64 ^ (12 - (word mode).length) := Nat.mul_lt_mul_of_pos_right h1 (Nat.pow_pos (by decide))
  rw [← Nat.pow_add] at this
  refine Nat.lt_of_lt_of_le this ?_
  rw [show (word mode).length + (12 - (word mode).length) = 12 by walk_at "lia"]
  decide
end
open PySem PySem.W PyProof.Rows PySem.Calls
local macro_rules | `(tactic| walk_at ".A") => `(tactic| with_reducible assumption)
local macro_rules | `(tactic| walk_at ".R") => `(tactic| rfl)
local macro_rules | `(tactic| walk_at ".D") => `(tactic| decide)
local macro_rules | `(tactic| walk_at ".U") => `(tactic| with_unfolding_all rfl)
local macro_rules | `(tactic| walk_at ".X") => `(tactic| exact ⟨_, _, rfl, rfl⟩)
local macro_rules | `(tactic| walk_at ".M") => `(tactic| first | exact PySem.IntMulOk.of_left (by decide) | exact PySem.IntMulOk.of_right (by decide) | mul_fits)
local macro_rules | `(tactic| walk_at ".P") => `(tactic| first | exact map_at (by assumption) | assumption)
local macro_rules | `(tactic| walk_at ".V") => `(tactic| (intro e_; with_unfolding_all rfl))
local macro_rules | `(tactic| walk_at ".E") => `(tactic| (intro e_; rfl))
local macro_rules | `(tactic| walk_at ".G") => `(tactic| with_reducible exact GW.at_ (by assumption) (by assumption))
local macro_rules | `(tactic| walk_at ".T") => `(tactic| first | exact typeIs_str _ _ _ | exact PySem.W.typeIs_bytes _ _ _ | rfl)
local macro_rules | `(tactic| walk_at ".S") => `(tactic| exact F.sub_str_str)
local macro_rules | `(tactic| walk_at ".N") => `(tactic| ((try simp only [List.length_map, List.length_set]); walk_at "lia"))
local macro_rules | `(tactic| walk_at $key:str) => do
  let d := match key.getString with
    | "mem" => "List.mem_cons_self | List.mem_cons_of_mem _ re ; re mem"
    | "sets" => "SetsTo.nil | SetsTo.here | SetsTo.there ne re ; ne .D ; re sets"
    | "led" => "LedUp.here | LedUp.there re ; re led"
    | "gname" => "g_all jg je ; jg .G ; je .R"
    | "bmiss" => "n_TypeError j ; j .G | n_AttributeError j ; j .G | n_all jg je ; jg .G ; je .R"
    | "bval" => "b_TypeError | b_AttributeError | b_all je ; je .R"
    | "name" => "evE_loc kS kv ? kL kk kx kd ; kS .A ; kL .R ; kx .R ; kv .R ; kk .R ; kd .D | evE_glob kG kS kv ? kg kk kx kd ; kG .A ; kS .A ; kv gname ; kx .R ; kg .R ; kk .R ; kd .D | evE_bi kG kS km kv kn ? kg kb kk kx kd ; kG .A ; kS .A ; km bmiss ; kv bval ; kn .D ; kg .R ; kb .R ; kk .R ; kx .R ; kd .D"
    | "store" => "stE_loc kS kl ? kL kp kx ; kS .A ; kL .R ; kp .R ; kl sets ; kx .R ; > s_ S_"
    | "ev" => "x_cons ? ; > Q_ hQ_ | PN.next ? | PN.ret ? | PL.next ? | PL.ret ? | PL.brk ? | PL.cont ? | PN.brk ? | PN.cont ? | post_use kH ? ; kH .A | PostFor.intro ? ; > Q_ hQ_ | wpAny_execs_nil ? | wpAny_If ? | x_assign ks ? ; ks .R | x_assign_sub ks ? ; ks .R | x_aug ? | wpAny_Return_some ? | SiftDown.break_ ? | x_expr ki ks ? ; ki .R ; ks .R | wpAny_isTrue_BoolOp ? | wpAny_allTrue_And_cons ? | wpAny_allTrue_And_nil ? | wpAny_allTrue_Or_cons ? | wpAny_allTrue_Or_nil ? | wpAny_isTrue_Not ? | cw_fn kG kf ke ? ; kG .A ; kf .X ; ke .R | cw_bi ke kp ? ; ke .R ; kp .R | cw_ty ke kp ? ; ke .R ; kp .R | SiftDown.continue_ ? | wpAny_BinOp ? | e_cmp1 ks ? ; ks .U | t_cmp1 ks ? ; ks .U | wpAny_truthy_bool ? | ift ? | iff' ? | and_st kS ? ; kS .A | Subscript_ ? | e_call ? | a_cons ks ? ; ks .R | wpAny_items_nil ? | ev_int kS ? ; kS .A ; > t_ s_ S_ | op_add kS ? ; kS .A ; > t_ s_ S_ | op_sub kS ? ; kS .A ; > t_ s_ S_ | op_and kS ? ; kS .A ; > t_ s_ S_ | op_mul kS km ? ; kS .A ; km .M ; > t_ s_ S_ | lt_int ? | gt_int ? | le_int ? | ge_int ? | eq_int ? | ne_int ? | op_fdiv kS k0 k9 ? ; kS .A ; k0 .D ; k9 .D ; > t_ s_ S_ | x_for ks ? ; ks .E | asg_name ? | @store | @name"
    | "item" => "sub_lst kS km k0 kf kx ks kg ? ; kS .A ; km mem ; k0 lia ; kf lia ; kx .P ; ks .U ; kg .V"
    | "setitem" => "set_lst kS ku k0 kf kn ? ; kS .A ; ku led ; k0 lia ; kf lia ; kn .N ; > s_ S_"
    | "ev8" => "@ev | e_if ? | e_meth1 kb ks kl ? ; kb .R ; ks .R ; kl .R | notin_S ? | in_S ? | e_list0 kS ? ; kS .A ; > t_ s_ S_ | m_append kS km ? ; kS .A ; km mem | c_append kS ku kz ? ; kS .A ; ku led ; kz lia ; > s_ S_"
    | "evC" => "@ev8 | isTrue_chain ? km ; km .U | test_link ? | is_ty_t ? | is_ty_f kn ? ; kn .D | is_none_f kn ? ; kn .R | isnot_none_f kn ? ; kn .R | c_isi kT ky ku ? ; kT .T ; ky .R ; ku .S | x_try ? ; > e_ | m_encode ? | ev_str kS ? ; kS .A ; > t_ s_ S_ | ev_none ? | ev_true ? | c_type kT kn ? ; kT .T ; kn .D | wpAny_isTrue_value ? he ; he .R"
    | "evD" => "op_ne ? | op_and15 kS ? ; kS .A ; > t_ s_ S_ | op_and3 kS ? ; kS .A ; > t_ s_ S_ | @evC | tr_int ?"
    | "evJ" => "op_fdivL kS k0 k1 ? ; kS .A ; k0 .D ; k1 .D ; > t_ s_ S_ | op_modL kS k0 ? ; kS .A ; k0 .D ; > t_ s_ S_ | op_mulL kS k1 ? ; kS .A ; k1 .D ; > t_ s_ S_ | op_addN kS ? ; kS .A ; > t_ s_ S_ | @evD"
    | "evM" => "@evJ | evE_cellL kS kc km ? kk kx kd ; kS .A ; kx .R ; kc .R ; km mem ; kk .R ; kd .D"
    | "evU" => "x_exprA ki ks ? ; ki .R ; ks .R | @evM | cw_kw ke kp ka kn ? ; ke .R ; kp .R ; ka .R ; kn .R | kws_cons ? | kws_nil ?"
    | "evW" => "@evU | e_meth0 kb kl ? ; kb .R ; kl .R | m_sort kS km ? ; kS .A ; km mem | exec_tup ks kw ? ; ks .R ; kw .R"
    | "evX" => "@evW | wpAny_UnaryOp ? | op_neg kS ? ; kS .A ; > t_ s_ S_"
    | _ => ""
  if d.isEmpty then Lean.Macro.throwUnsupported
  let mut alts : Array (Lean.TSyntax ``Lean.Parser.Tactic.tacticSeq) := #[]
  for a in d.splitOn " | " do
    let segs := a.splitOn " ; "
    let ws := segs.head!.splitOn " "
    let h := ws.head!
    let mut t ← `(tactic| walk_at $(Lean.Syntax.mkStrLit (h.drop 1).toString):str)
    if h.front != '@' then
      let mut g := Lean.Syntax.mkApp (Lean.mkIdent h.toName) #[]
      let mut named := false
      let mut as : Array Lean.Term := #[]
      for w in ws.tail! do
        if w == "?" then as := as.push (← `(?_))
        else
          named := true
          if w == "_" then as := as.push (← `(_)) else as := as.push (← `(?$(Lean.mkIdent w.toName):ident))
      let e := Lean.Syntax.mkApp (Lean.mkIdent h.toName) as
      t ← if named then `(tactic| with_reducible refine' $e) else `(tactic| with_reducible refine $e)
    for c in segs.tail! do
      let cs := c.splitOn " "
      if c.front == '>' then
        let xs : Array Lean.Ident := (cs.tail!.map fun x => Lean.mkIdent x.toName).toArray
        t ← `(tactic| ($t; intro $xs*))
      else
        t ← `(tactic| ($t; (case $(Lean.mkIdent cs.head!.toName):ident => walk_at $(Lean.Syntax.mkStrLit cs.tail!.head!):str)))
    alts := alts.push (← `(Lean.Parser.Tactic.tacticSeq| $t:tactic))
  `(tactic| first $[| $alts:tacticSeq]*)
section
section
variable {prog : Program} {w : World} {A : Around} {E : Value → Shared → Prop} {s : Shared} {mg mb : Str → Option Value}
theorem c_S_IFMT {m : Int} {t : Tok} {Q : Value → Shared → Prop} {n : Nat} (G : Gnd w mg mb s.heap) (hA : Ok A (n + 1))
    (h : ∀ s' t', Out s [] [] s' → Q (.int (Builtin.bitAnd m 61440) t') s') : wpAny (model prog w) A (call (.ref 154) [.int m t]) Q E s := by
  refine fn_call (binds := [(Str.ofString "mode", .int m t)]) G hA rfl (by kernel_rfl!) (BindsTo.of_eq rfl) (by rfl) ?_ (by simp only [List.map]; decide) (by decide)
  intro s₁ L S G₁ hA₁
  have G := G.toW
  clear G₁
  repeat' (walk_at "ev")
  exact h _ _ (Out.none (St.toOut (by assumption)))
end
/-! ## the heap's two moves, on plain lists -/
section
variable {α : Type}
/-- up from a place, while «c parent x» -/
noncomputable def sdn (c : α → α → Bool) (x : α) (start : Nat) (its : List α) (pos : Nat) : List α :=
  if h : start < pos then
    match its[(pos - 1) / 2]? with
    | some p => if c p x then sdn c x start (its.set pos p) ((pos - 1) / 2) else its.set pos x
    | none => its.set pos x
  else its.set pos x
termination_by pos
decreasing_by omega
theorem sdn_move {c : α → α → Bool} {x p : α} {start n : Nat} {its : List α} (h : start < n) (hp : its[(n - 1) / 2]? = some p) (hc : c p x = true) : sdn c x start its n = sdn c x start (its.set n p) ((n - 1) / 2) := by
  conv => lhs; rw [sdn]
  simp [h, hp, hc]
theorem sdn_stop {c : α → α → Bool} {x p : α} {start n : Nat} {its : List α} (h : start < n) (hp : its[(n - 1) / 2]? = some p) (hc : c p x = false) : sdn c x start its n = its.set n x := by
  rw [sdn]; simp [h, hp, hc]
theorem sdn_end {c : α → α → Bool} {x : α} {start n : Nat} {its : List α} (h : ¬ start < n) : sdn c x start its n = its.set n x := by
  rw [sdn]; simp [h]
end
section
variable {prog : Program} {w : World} {A : Around} {E : Value → Shared → Prop} {s : Shared} {mg mb : Str → Option Value}
end
section
variable {prog : Program} {w : World} {A : Around} {E : Value → Shared → Prop} {s : Shared} {mg mb : Str → Option Value}
noncomputable abbrev invP11 := fun (s : Shared) (D : Addr) (L : Addr) (start : Nat) (t1 : Tok) (x : P2) (ps : List P2) (pos : Nat) => (fun n s' => Ex2 fun (ps' : List P2) (t : Tok) => And5 (St s [D] L [(Str.ofString "heap", .ref D), (Str.ofString "startpos", .int start t1), (Str.ofString "pos", .int n t), (Str.ofString "newitem", x.1)] [(D, .lst (ps'.map (·.1)))] s') (IsKs s.heap ps') (ps'.length = ps.length) (n < ps.length) (sdn (fun p x => p.2.lt x.2) x start ps' n = sdn (fun p x => p.2.lt x.2) x start ps pos) : Nat → Shared → Prop)
theorem c_siftdown_max {D : Addr} {ps : List P2} {x : P2} {start pos : Nat} {t1 t2 : Tok} {Q : Value → Shared → Prop} {n : Nat} (G : GW w mg mb s [D]) (hA : Ok A (n + 2)) (hl : ∃ k, s.heap.get? D = some (lstO (ps.map (·.1)) k))
    (hk : IsKs s.heap ps) (hz : ps.length ≤ 1000) (hx : ps[pos]? = some x)
    (h : ∀ s', Out s [D] [(D, .lst ((sdn (fun p x => p.2.lt x.2) x start ps pos).map (·.1)))] s' → Q .none s') :
    wpAny (model prog w) A (call (.ref 128) [.ref D, .int start t1, .int pos t2]) Q E s := by
  obtain ⟨k, hD⟩ := hl
  refine fn_call (binds := [(Str.ofString "heap", .ref D), (Str.ofString "startpos", .int start t1), (Str.ofString "pos", .int pos t2)]) (G _ fun _ _ e _ => e) hA rfl (by kernel_rfl!) (BindsTo.of_eq rfl) (by rfl) ?_ (by simp only [List.map]; decide) (by decide)
  intro s₁ L S _ hA₁
  have S := S.openW hD (kn := .lst (ps.map (·.1))) ⟨k, rfl⟩
  have hpos : pos < ps.length := by
    rcases Nat.lt_or_ge pos ps.length with q | q
    · exact q
    · rw [List.getElem?_eq_none q] at hx; cases hx
  repeat' (walk_at "ev")
  walk_at "item"
  repeat' (walk_at "ev")
  refine x_while (invP11 s D L start t1 x ps pos) pos ⟨ps, t2, by assumption, hk, rfl, hpos, rfl⟩ ?_
  rintro n s' E' ⟨ps', t, S', hk', hl', hn', hs'⟩
  refine PostFor.intro fun Qb hQb => ?_
  repeat' (walk_at "ev")
  refine split_dec (fun hlt => ?_) (fun hge => ?_)
  · have hlt : start < n := by omega
    repeat' (walk_at "ev")
    refine op_shr (by assumption) (by omega) ?_
    intro _ _ _
    rw [half_int n (by omega)]
    repeat' (walk_at "ev")
    obtain ⟨p, hp⟩ : ∃ p, ps'[(n - 1) / 2]? = some p := ⟨ps'[(n - 1) / 2]'(by omega), List.getElem?_eq_getElem _⟩
    walk_at "item"
    repeat' (walk_at "ev")
    refine op_lt_ky (by have := hA₁.u; omega) (Out.isK (by exact (St.toOut (by assumption))) hD (hk'.at hp)) (Out.isK (St.toOut (by assumption)) hD (hk.at hx)) ?_
    repeat' (walk_at "ev")
    refine split_bool (fun hc => ?_) (fun hc => ?_)
    · repeat' (walk_at "ev")
      walk_at "setitem"
      repeat' (walk_at "ev")
      refine ⟨(n - 1) / 2, by omega, ps'.set n p, _, by rw [List.map_set]; exact St.pre (r := [_, _]) (by assumption), hk'.set (hk'.at hp), by simpa using hl', by omega, ?_⟩
      rw [← hs', sdn_move hlt hp hc]
    · repeat' (walk_at "ev")
      walk_at "setitem"
      repeat' (walk_at "ev")
      refine h _ ?_
      rw [← hs', sdn_stop hlt hp hc, List.map_set]
      exact St.toOut (by assumption)
  · repeat' (walk_at "ev")
    walk_at "setitem"
    repeat' (walk_at "ev")
    refine h _ ?_
    rw [← hs', sdn_end (by omega), List.map_set]
    exact St.toOut (by assumption)
noncomputable abbrev invP12 := fun (s : Shared) (D : Addr) (L : Addr) (start : Nat) (t1 : Tok) (x : P2) (ps : List P2) (pos : Nat) => (fun n s' => Ex2 fun (ps' : List P2) (t : Tok) => And5 (St s [D] L [(Str.ofString "heap", .ref D), (Str.ofString "startpos", .int start t1), (Str.ofString "pos", .int n t), (Str.ofString "newitem", x.1)] [(D, .lst (ps'.map (·.1)))] s') (IsKs s.heap ps') (ps'.length = ps.length) (n < ps.length) (sdn (fun p x => x.2.lt p.2) x start ps' n = sdn (fun p x => x.2.lt p.2) x start ps pos) : Nat → Shared → Prop)
theorem c_siftdown {D : Addr} {ps : List P2} {x : P2} {start pos : Nat} {t1 t2 : Tok} {Q : Value → Shared → Prop} {n : Nat} (G : GW w mg mb s [D]) (hA : Ok A (n + 2)) (hl : ∃ k, s.heap.get? D = some (lstO (ps.map (·.1)) k))
    (hk : IsKs s.heap ps) (hz : ps.length ≤ 1000) (hx : ps[pos]? = some x)
    (h : ∀ s', Out s [D] [(D, .lst ((sdn (fun p x => x.2.lt p.2) x start ps pos).map (·.1)))] s' → Q .none s') :
    wpAny (model prog w) A (call (.ref 114) [.ref D, .int start t1, .int pos t2]) Q E s := by
  obtain ⟨k, hD⟩ := hl
  refine fn_call (binds := [(Str.ofString "heap", .ref D), (Str.ofString "startpos", .int start t1), (Str.ofString "pos", .int pos t2)]) (G _ fun _ _ e _ => e) hA rfl (by kernel_rfl!) (BindsTo.of_eq rfl) (by rfl) ?_ (by simp only [List.map]; decide) (by decide)
  intro s₁ L S _ hA₁
  have S := S.openW hD (kn := .lst (ps.map (·.1))) ⟨k, rfl⟩
  have hpos : pos < ps.length := by
    rcases Nat.lt_or_ge pos ps.length with q | q
    · exact q
    · rw [List.getElem?_eq_none q] at hx; cases hx
  repeat' (walk_at "ev")
  walk_at "item"
  repeat' (walk_at "ev")
  refine x_while (invP12 s D L start t1 x ps pos) pos ⟨ps, t2, by assumption, hk, rfl, hpos, rfl⟩ ?_
  rintro n s' E' ⟨ps', t, S', hk', hl', hn', hs'⟩
  refine PostFor.intro fun Qb hQb => ?_
  repeat' (walk_at "ev")
  refine split_dec (fun hlt => ?_) (fun hge => ?_)
  · have hlt : start < n := by omega
    repeat' (walk_at "ev")
    refine op_shr (by assumption) (by omega) ?_
    intro _ _ _
    rw [half_int n (by omega)]
    repeat' (walk_at "ev")
    obtain ⟨p, hp⟩ : ∃ p, ps'[(n - 1) / 2]? = some p := ⟨ps'[(n - 1) / 2]'(by omega), List.getElem?_eq_getElem _⟩
    walk_at "item"
    repeat' (walk_at "ev")
    refine op_lt_ky (by have := hA₁.u; omega) (Out.isK (St.toOut (by assumption)) hD (hk.at hx)) (Out.isK (by exact (St.toOut (by assumption))) hD (hk'.at hp)) ?_
    repeat' (walk_at "ev")
    refine split_bool (fun hc => ?_) (fun hc => ?_)
    · repeat' (walk_at "ev")
      walk_at "setitem"
      repeat' (walk_at "ev")
      refine ⟨(n - 1) / 2, by omega, ps'.set n p, _, by rw [List.map_set]; exact St.pre (r := [_, _]) (by assumption), hk'.set (hk'.at hp), by simpa using hl', by omega, ?_⟩
      rw [← hs', sdn_move hlt hp hc]
    · repeat' (walk_at "ev")
      walk_at "setitem"
      repeat' (walk_at "ev")
      refine h _ ?_
      rw [← hs', sdn_stop hlt hp hc, List.map_set]
      exact St.toOut (by assumption)
  · repeat' (walk_at "ev")
    walk_at "setitem"
    repeat' (walk_at "ev")
    refine h _ ?_
    rw [← hs', sdn_end (by omega), List.map_set]
    exact St.toOut (by assumption)
end
end
section
section
variable {α : Type}
/-- down from a place, the hole going to the child that «pk» picks -/
noncomputable def sup (pk : α → α → Bool) (its : List α) (pos : Nat) : List α × Nat :=
  if h : 2 * pos + 1 < its.length then
    match its[2 * pos + 1]?, its[2 * pos + 1 + 1]? with
    | some a, some b => if pk a b then sup pk (its.set pos b) (2 * pos + 1 + 1) else sup pk (its.set pos a) (2 * pos + 1)
    | some a, none => sup pk (its.set pos a) (2 * pos + 1)
    | none, _ => (its, pos)
  else (its, pos)
termination_by its.length - pos
decreasing_by all_goals (rw [List.length_set]; walk_at "lia")
theorem sup_r {pk : α → α → Bool} {its : List α} {p : Nat} {a b : α} (ha : its[2 * p + 1]? = some a) (hb : its[2 * p + 1 + 1]? = some b) (h : pk a b = true) : sup pk its p = sup pk (its.set p b) (2 * p + 1 + 1) := by
  have hlt : 2 * p + 1 < its.length := (List.getElem?_eq_some_iff.mp ha).1
  conv => lhs; rw [sup, dif_pos hlt]
  simp only [ha, hb, h, if_true, Bool.false_eq_true, if_false]
theorem sup_l {pk : α → α → Bool} {its : List α} {p : Nat} {a b : α} (ha : its[2 * p + 1]? = some a) (hb : its[2 * p + 1 + 1]? = some b) (h : pk a b = false) : sup pk its p = sup pk (its.set p a) (2 * p + 1) := by
  have hlt : 2 * p + 1 < its.length := (List.getElem?_eq_some_iff.mp ha).1
  conv => lhs; rw [sup, dif_pos hlt]
  simp only [ha, hb, h, if_true, Bool.false_eq_true, if_false]
theorem sup_o {pk : α → α → Bool} {its : List α} {p : Nat} {a : α} (ha : its[2 * p + 1]? = some a) (hb : ¬ 2 * p + 1 + 1 < its.length) : sup pk its p = sup pk (its.set p a) (2 * p + 1) := by
  have hlt : 2 * p + 1 < its.length := (List.getElem?_eq_some_iff.mp ha).1
  have hb' : its[2 * p + 1 + 1]? = none := List.getElem?_eq_none (by walk_at "lia")
  conv => lhs; rw [sup, dif_pos hlt]
  simp only [ha, hb']
theorem sup_end {pk : α → α → Bool} {its : List α} {p : Nat} (h : ¬ 2 * p + 1 < its.length) : sup pk its p = (its, p) := by
  rw [sup, dif_neg h]
noncomputable def siftup (c pk : α → α → Bool) (x : α) (its : List α) (pos : Nat) : List α := sdn c x pos ((sup pk its pos).1.set (sup pk its pos).2 x) (sup pk its pos).2
end
section
variable {prog : Program} {w : World} {A : Around} {E : Value → Shared → Prop} {s : Shared} {mg mb : Str → Option Value}
noncomputable abbrev invP21 := fun (s : Shared) (D : Addr) (L : Addr) (ps : List P2) (pos : Nat) (x : P2) => (fun m s' => Ex6 fun (ps' : List P2) (p : Nat) (ta tb tc td : Tok) => And6 (St s [D] L [(Str.ofString "heap", .ref D), (Str.ofString "pos", .int p ta), (Str.ofString "endpos", .int ps.length tb), (Str.ofString "startpos", .int pos tc), (Str.ofString "newitem", x.1), (Str.ofString "childpos", .int (2 * (p : Int) + 1) td)] [(D, .lst (ps'.map (·.1)))] s') (IsKs s.heap ps') (ps'.length = ps.length) (p < ps.length) (sup (fun a b => !(b.2.lt a.2)) ps' p = sup (fun a b => !(b.2.lt a.2)) ps pos) (m = ps.length - p) : Nat → Shared → Prop)
theorem c_siftup_max {D : Addr} {ps : List P2} {x : P2} {pos : Nat} {t1 : Tok} {Q : Value → Shared → Prop} {n : Nat} (G : GW w mg mb s [D]) (hA : Ok A (n + 3)) (hl : ∃ k, s.heap.get? D = some (lstO (ps.map (·.1)) k))
    (hk : IsKs s.heap ps) (hz : ps.length ≤ 1000) (hx : ps[pos]? = some x)
    (h : ∀ s', Out s [D] [(D, .lst ((siftup (fun p x => p.2.lt x.2) (fun a b => !(b.2.lt a.2)) x ps pos).map (·.1)))] s' → Q .none s') :
    wpAny (model prog w) A (call (.ref 135) [.ref D, .int pos t1]) Q E s := by
  obtain ⟨k, hD⟩ := hl
  refine fn_call (binds := [(Str.ofString "heap", .ref D), (Str.ofString "pos", .int pos t1)]) (G _ fun _ _ e _ => e) hA rfl (by kernel_rfl!) (BindsTo.of_eq rfl) (by rfl) ?_ (by simp only [List.map]; decide) (by decide)
  intro s₁ L S _ hA₁
  have S := S.openW hD (kn := .lst (ps.map (·.1))) ⟨k, rfl⟩
  have hpos : pos < ps.length := by
    rcases Nat.lt_or_ge pos ps.length with q | q
    · exact q
    · rw [List.getElem?_eq_none q] at hx; cases hx
  repeat' (walk_at "ev")
  refine len_lst (by assumption) (by walk_at "mem") (by simp; walk_at "lia") ?_
  intro _ _ _
  rw [List.length_map]
  repeat' (walk_at "ev")
  walk_at "item"
  repeat' (walk_at "ev")
  refine x_while (invP21 s D L ps pos x) (ps.length - pos) ⟨ps, pos, _, _, _, _, by assumption, hk, rfl, hpos, rfl, rfl⟩ ?_
  rintro m s' E' ⟨ps', p, ta, tb, tc, td, S', hk', hl', hn', hs', rfl⟩
  refine PostFor.intro fun Qb hQb => ?_
  repeat' (walk_at "ev")
  refine split_dec (fun hlt => ?_) (fun hge => ?_)
  · have hlt : 2 * p + 1 < ps'.length := by walk_at "lia"
    obtain ⟨a, ha⟩ : ∃ a, ps'[(2 * (p : Int) + 1).toNat]? = some a := ⟨ps'[2 * p + 1]'(by walk_at "lia"), by rw [show (2 * (p : Int) + 1).toNat = 2 * p + 1 from by walk_at "lia"]; exact List.getElem?_eq_getElem _⟩
    have ha' : ps'[2 * p + 1]? = some a := ha
    repeat' (walk_at "ev")
    refine split_dec (fun hr => ?_) (fun hr => ?_)
    · have hr : 2 * p + 1 + 1 < ps'.length := by walk_at "lia"
      obtain ⟨b, hb⟩ : ∃ b, ps'[(2 * (p : Int) + 1 + 1).toNat]? = some b := ⟨ps'[2 * p + 1 + 1]'(by walk_at "lia"), by rw [show (2 * (p : Int) + 1 + 1).toNat = 2 * p + 1 + 1 from by walk_at "lia"]; exact List.getElem?_eq_getElem _⟩
      have hb' : ps'[2 * p + 1 + 1]? = some b := hb
      repeat' (first | walk_at "ev" | walk_at "item")
      refine op_lt_ky (by have := hA₁.u; walk_at "lia") (Out.isK (St.toOut (by assumption)) hD (hk'.at hb')) (Out.isK (St.toOut (by assumption)) hD (hk'.at ha')) ?_
      repeat' (walk_at "ev")
      refine split_bool (fun hc => ?_) (fun hc => ?_)
      · repeat' (first | walk_at "ev" | walk_at "item" | walk_at "setitem")
        refine' ⟨ps.length - (2 * p + 1 + 1), by walk_at "lia", ps'.set p b, 2 * p + 1 + 1, _, _, _, _, ?hS, hk'.set (hk'.at hb'), by simpa using hl', by walk_at "lia", by rw [← hs', sup_r ha' hb' hc], rfl⟩
        case hS =>
          rw [List.map_set, show ((2 * p + 1 + 1 : Nat) : Int) = 2 * (p : Int) + 1 + 1 from by walk_at "lia"]
          exact St.pre (r := [_]) (by assumption)
      · repeat' (first | walk_at "ev" | walk_at "item" | walk_at "setitem")
        refine' ⟨ps.length - (2 * p + 1), by walk_at "lia", ps'.set p a, 2 * p + 1, _, _, _, _, ?hS, hk'.set (hk'.at ha'), by simpa using hl', by walk_at "lia", by rw [← hs', sup_l ha' hb' hc], rfl⟩
        case hS =>
          rw [List.map_set, show ((2 * p + 1 : Nat) : Int) = 2 * (p : Int) + 1 from by walk_at "lia"]
          exact St.pre (r := [_]) (by assumption)
    · repeat' (first | walk_at "ev" | walk_at "item" | walk_at "setitem")
      refine' ⟨ps.length - (2 * p + 1), by walk_at "lia", ps'.set p a, 2 * p + 1, _, _, _, _, ?hS, hk'.set (hk'.at ha'), by simpa using hl', by walk_at "lia", by rw [← hs', sup_o ha' (by walk_at "lia")], rfl⟩
      case hS =>
        rw [List.map_set, show ((2 * p + 1 : Nat) : Int) = 2 * (p : Int) + 1 from by walk_at "lia"]
        exact St.pre (r := [_]) (by assumption)
  · have hend := sup_end (pk := (fun a b => !(b.2.lt a.2))) (its := ps') (p := p) (by walk_at "lia")
    repeat' (first | walk_at "ev" | walk_at "item" | walk_at "setitem")
    have S2 := ‹St s [D] L _ [(D, _)] _›
    refine c_siftdown_max (ps := ps'.set p x) (x := x) (G.next S2) hA₁ (by rw [List.map_set]; exact St.led1 S2 List.mem_cons_self) (Out.isKs S2.toOut hD (hk'.set (hk.at hx))) (by simpa using (by walk_at "lia" : ps'.length ≤ 1000)) (by rw [List.getElem?_set_self (by walk_at "lia")]) (fun s3 O => ?_)
    have S3 := St.called S2 LedUp.here O
    clear S2
    repeat' (walk_at "ev")
    refine h _ ?_
    have e : siftup (fun p x => p.2.lt x.2) (fun a b => !(b.2.lt a.2)) x ps pos = sdn (fun p x => p.2.lt x.2) x pos (ps'.set p x) p := by unfold siftup; rw [← hs', hend]
    rw [e]
    exact S3.toOut
noncomputable abbrev invP22 := fun (s : Shared) (D : Addr) (L : Addr) (ps : List P2) (pos : Nat) (x : P2) => (fun m s' => Ex6 fun (ps' : List P2) (p : Nat) (ta tb tc td : Tok) => And6 (St s [D] L [(Str.ofString "heap", .ref D), (Str.ofString "pos", .int p ta), (Str.ofString "endpos", .int ps.length tb), (Str.ofString "startpos", .int pos tc), (Str.ofString "newitem", x.1), (Str.ofString "childpos", .int (2 * (p : Int) + 1) td)] [(D, .lst (ps'.map (·.1)))] s') (IsKs s.heap ps') (ps'.length = ps.length) (p < ps.length) (sup (fun a b => !(a.2.lt b.2)) ps' p = sup (fun a b => !(a.2.lt b.2)) ps pos) (m = ps.length - p) : Nat → Shared → Prop)
theorem c_siftup {D : Addr} {ps : List P2} {x : P2} {pos : Nat} {t1 : Tok} {Q : Value → Shared → Prop} {n : Nat} (G : GW w mg mb s [D]) (hA : Ok A (n + 3)) (hl : ∃ k, s.heap.get? D = some (lstO (ps.map (·.1)) k))
    (hk : IsKs s.heap ps) (hz : ps.length ≤ 1000) (hx : ps[pos]? = some x)
    (h : ∀ s', Out s [D] [(D, .lst ((siftup (fun p x => x.2.lt p.2) (fun a b => !(a.2.lt b.2)) x ps pos).map (·.1)))] s' → Q .none s') :
    wpAny (model prog w) A (call (.ref 121) [.ref D, .int pos t1]) Q E s := by
  obtain ⟨k, hD⟩ := hl
  refine fn_call (binds := [(Str.ofString "heap", .ref D), (Str.ofString "pos", .int pos t1)]) (G _ fun _ _ e _ => e) hA rfl (by kernel_rfl!) (BindsTo.of_eq rfl) (by rfl) ?_ (by simp only [List.map]; decide) (by decide)
  intro s₁ L S _ hA₁
  have S := S.openW hD (kn := .lst (ps.map (·.1))) ⟨k, rfl⟩
  have hpos : pos < ps.length := by
    rcases Nat.lt_or_ge pos ps.length with q | q
    · exact q
    · rw [List.getElem?_eq_none q] at hx; cases hx
  repeat' (walk_at "ev")
  refine len_lst (by assumption) (by walk_at "mem") (by simp; walk_at "lia") ?_
  intro _ _ _
  rw [List.length_map]
  repeat' (walk_at "ev")
  walk_at "item"
  repeat' (walk_at "ev")
  refine x_while (invP22 s D L ps pos x) (ps.length - pos) ⟨ps, pos, _, _, _, _, by assumption, hk, rfl, hpos, rfl, rfl⟩ ?_
  rintro m s' E' ⟨ps', p, ta, tb, tc, td, S', hk', hl', hn', hs', rfl⟩
  refine PostFor.intro fun Qb hQb => ?_
  repeat' (walk_at "ev")
  refine split_dec (fun hlt => ?_) (fun hge => ?_)
  · have hlt : 2 * p + 1 < ps'.length := by walk_at "lia"
    obtain ⟨a, ha⟩ : ∃ a, ps'[(2 * (p : Int) + 1).toNat]? = some a := ⟨ps'[2 * p + 1]'(by walk_at "lia"), by rw [show (2 * (p : Int) + 1).toNat = 2 * p + 1 from by walk_at "lia"]; exact List.getElem?_eq_getElem _⟩
    have ha' : ps'[2 * p + 1]? = some a := ha
    repeat' (walk_at "ev")
    refine split_dec (fun hr => ?_) (fun hr => ?_)
    · have hr : 2 * p + 1 + 1 < ps'.length := by walk_at "lia"
      obtain ⟨b, hb⟩ : ∃ b, ps'[(2 * (p : Int) + 1 + 1).toNat]? = some b := ⟨ps'[2 * p + 1 + 1]'(by walk_at "lia"), by rw [show (2 * (p : Int) + 1 + 1).toNat = 2 * p + 1 + 1 from by walk_at "lia"]; exact List.getElem?_eq_getElem _⟩
      have hb' : ps'[2 * p + 1 + 1]? = some b := hb
      repeat' (first | walk_at "ev" | walk_at "item")
      refine op_lt_ky (by have := hA₁.u; walk_at "lia") (Out.isK (St.toOut (by assumption)) hD (hk'.at ha')) (Out.isK (St.toOut (by assumption)) hD (hk'.at hb')) ?_
      repeat' (walk_at "ev")
      refine split_bool (fun hc => ?_) (fun hc => ?_)
      · repeat' (first | walk_at "ev" | walk_at "item" | walk_at "setitem")
        refine' ⟨ps.length - (2 * p + 1 + 1), by walk_at "lia", ps'.set p b, 2 * p + 1 + 1, _, _, _, _, ?hS, hk'.set (hk'.at hb'), by simpa using hl', by walk_at "lia", by rw [← hs', sup_r ha' hb' hc], rfl⟩
        case hS =>
          rw [List.map_set, show ((2 * p + 1 + 1 : Nat) : Int) = 2 * (p : Int) + 1 + 1 from by walk_at "lia"]
          exact St.pre (r := [_]) (by assumption)
      · repeat' (first | walk_at "ev" | walk_at "item" | walk_at "setitem")
        refine' ⟨ps.length - (2 * p + 1), by walk_at "lia", ps'.set p a, 2 * p + 1, _, _, _, _, ?hS, hk'.set (hk'.at ha'), by simpa using hl', by walk_at "lia", by rw [← hs', sup_l ha' hb' hc], rfl⟩
        case hS =>
          rw [List.map_set, show ((2 * p + 1 : Nat) : Int) = 2 * (p : Int) + 1 from by walk_at "lia"]
          exact St.pre (r := [_]) (by assumption)
    · repeat' (first | walk_at "ev" | walk_at "item" | walk_at "setitem")
      refine' ⟨ps.length - (2 * p + 1), by walk_at "lia", ps'.set p a, 2 * p + 1, _, _, _, _, ?hS, hk'.set (hk'.at ha'), by simpa using hl', by walk_at "lia", by rw [← hs', sup_o ha' (by walk_at "lia")], rfl⟩
      case hS =>
        rw [List.map_set, show ((2 * p + 1 : Nat) : Int) = 2 * (p : Int) + 1 from by walk_at "lia"]
        exact St.pre (r := [_]) (by assumption)
  · have hend := sup_end (pk := (fun a b => !(a.2.lt b.2))) (its := ps') (p := p) (by walk_at "lia")
    repeat' (first | walk_at "ev" | walk_at "item" | walk_at "setitem")
    have S2 := ‹St s [D] L _ [(D, _)] _›
    refine c_siftdown (ps := ps'.set p x) (x := x) (G.next S2) hA₁ (by rw [List.map_set]; exact St.led1 S2 List.mem_cons_self) (Out.isKs S2.toOut hD (hk'.set (hk.at hx))) (by simpa using (by walk_at "lia" : ps'.length ≤ 1000)) (by rw [List.getElem?_set_self (by walk_at "lia")]) (fun s3 O => ?_)
    have S3 := St.called S2 LedUp.here O
    clear S2
    repeat' (walk_at "ev")
    refine h _ ?_
    have e : siftup (fun p x => x.2.lt p.2) (fun a b => !(a.2.lt b.2)) x ps pos = sdn (fun p x => x.2.lt p.2) x pos (ps'.set p x) p := by unfold siftup; rw [← hs', hend]
    rw [e]
    exact S3.toOut
end
end
section
section
variable {α : Type}
noncomputable def hpf (c pk : α → α → Bool) : Nat → List α → List α
  | 0, l => l
  | i + 1, l => hpf c pk i (match l[i]? with | some x => siftup c pk x l i | none => l)
end
section
variable {α : Type}
theorem sdn_length (c : α → α → Bool) (x : α) (start : Nat) (its : List α) (pos : Nat) : (sdn c x start its pos).length = its.length := by
  induction pos using Nat.strongRecOn generalizing its with
  | ind n ih =>
    by_cases h : start < n
    · cases hp : its[(n - 1) / 2]? with
      | none => rw [sdn]; simp [h, hp]
      | some p =>
        cases hc : c p x with
        | true => rw [sdn_move h hp hc, ih _ (by omega)]; simp
        | false => rw [sdn_stop h hp hc]; simp
    · rw [sdn_end h]; simp
theorem sdn_mem (c : α → α → Bool) (x : α) (start : Nat) (its : List α) (pos : Nat) : ∀ q ∈ sdn c x start its pos, q = x ∨ q ∈ its := by
  induction pos using Nat.strongRecOn generalizing its with
  | ind n ih =>
    have fin : ∀ q ∈ its.set n x, q = x ∨ q ∈ its := fun q hq => (List.mem_or_eq_of_mem_set hq).symm
    by_cases h : start < n
    · cases hp : its[(n - 1) / 2]? with
      | none => rw [sdn]; simpa [h, hp] using fin
      | some p =>
        cases hc : c p x with
        | true =>
          rw [sdn_move h hp hc]
          intro q hq
          rcases ih _ (by omega) _ q hq with e | e
          · exact .inl e
          · rcases List.mem_or_eq_of_mem_set e with e | e
            · exact .inr e
            · exact .inr (e ▸ List.mem_of_getElem? hp)
        | false => rw [sdn_stop h hp hc]; exact fin
    · rw [sdn_end h]; exact fin
theorem sup_facts (pk : α → α → Bool) : ∀ (k : Nat) (its : List α) (pos : Nat), its.length - pos ≤ k → ((sup pk its pos).1.length = its.length ∧ (∀ q ∈ (sup pk its pos).1, q ∈ its) ∧ (pos < its.length → (sup pk its pos).2 < its.length)) := by
  intro k
  induction k with
  | zero =>
    intro its pos h
    rw [sup_end (by omega)]
    exact ⟨rfl, fun _ hq => hq, fun hp => hp⟩
  | succ k ih =>
    intro its pos h
    by_cases hlt : 2 * pos + 1 < its.length
    · obtain ⟨a, ha⟩ : ∃ a, its[2 * pos + 1]? = some a := ⟨its[2 * pos + 1], List.getElem?_eq_getElem _⟩
      have step : ∀ (q : α) (np : Nat), q ∈ its → pos < np → np < its.length → sup pk its pos = sup pk (its.set pos q) np →
          ((sup pk its pos).1.length = its.length ∧ (∀ q ∈ (sup pk its pos).1, q ∈ its) ∧ (pos < its.length → (sup pk its pos).2 < its.length)) := by
        intro q np hq h1 h2 e
        rw [e]
        obtain ⟨e1, e2, e3⟩ := ih (its.set pos q) np (by rw [List.length_set]; omega)
        refine ⟨by rw [e1, List.length_set], fun z hz => ?_, fun _ => by have := e3 (by rw [List.length_set]; exact h2); rwa [List.length_set] at this⟩
        rcases List.mem_or_eq_of_mem_set (e2 z hz) with w | w
        · exact w
        · exact w ▸ hq
      by_cases hr : 2 * pos + 1 + 1 < its.length
      · obtain ⟨b, hb⟩ : ∃ b, its[2 * pos + 1 + 1]? = some b := ⟨its[2 * pos + 1 + 1], List.getElem?_eq_getElem _⟩
        cases hc : pk a b with
        | true => exact step b _ (List.mem_of_getElem? hb) (by omega) hr (sup_r ha hb hc)
        | false => exact step a _ (List.mem_of_getElem? ha) (by omega) hlt (sup_l ha hb hc)
      · exact step a _ (List.mem_of_getElem? ha) (by omega) hlt (sup_o ha hr)
    · rw [sup_end hlt]
      exact ⟨rfl, fun _ hq => hq, fun hp => hp⟩
theorem siftup_length (c pk : α → α → Bool) (x : α) (its : List α) (pos : Nat) : (siftup c pk x its pos).length = its.length := by
  unfold siftup
  rw [sdn_length, List.length_set, (sup_facts pk _ its pos (Nat.le_refl _)).1]
theorem siftup_mem (c pk : α → α → Bool) (x : α) (its : List α) (pos : Nat) : ∀ q ∈ siftup c pk x its pos, q = x ∨ q ∈ its := by
  unfold siftup
  intro q hq
  rcases sdn_mem _ _ _ _ _ q hq with e | e
  · exact .inl e
  · rcases List.mem_or_eq_of_mem_set e with e | e
    · exact .inr ((sup_facts pk _ its pos (Nat.le_refl _)).2.1 q e)
    · exact .inl e
end
theorem IsKs.siftup {h : Heap} {ps : List P2} (H : IsKs h ps) {c pk : P2 → P2 → Bool} {x : P2} {i : Nat} (hx : IsK h x.1 x.2) : IsKs h (siftup c pk x ps i) := fun q hq => by
  rcases siftup_mem c pk x ps i q hq with rfl | e
  · exact hx
  · exact H q e
theorem fdiv2 (n : Nat) : ((n : Int)).fdiv 2 = ((n / 2 : Nat) : Int) := by rw [Int.fdiv_eq_ediv_of_nonneg _ (by omega)]; omega
section
variable {prog : Program} {w : World} {A : Around} {E : Value → Shared → Prop} {s : Shared} {mg mb : Str → Option Value}
theorem c_heapify_max {D : Addr} {ps : List P2} {Q : Value → Shared → Prop} {n : Nat} (G : GW w mg mb s [D]) (hA : Ok A (n + 4)) (hl : ∃ k, s.heap.get? D = some (lstO (ps.map (·.1)) k))
    (hk : IsKs s.heap ps) (hz : ps.length ≤ 1000)
    (h : ∀ s', Out s [D] [(D, .lst ((hpf (fun p x => p.2.lt x.2) (fun a b => !(b.2.lt a.2)) (ps.length / 2) ps).map (·.1)))] s' → Q .none s') :
    wpAny (model prog w) A (call (.ref 107) [.ref D]) Q E s := by
  obtain ⟨k, hD⟩ := hl
  refine fn_call (binds := [(Str.ofString "x", .ref D)]) (G _ fun _ _ e _ => e) hA rfl (by kernel_rfl!) (BindsTo.of_eq rfl) (by rfl) ?_ (by simp only [List.map]; decide) (by decide)
  intro s₁ L S _ hA₁
  have S := S.openW hD (kn := .lst (ps.map (·.1))) ⟨k, rfl⟩
  repeat' (walk_at "ev")
  refine len_lst (by assumption) (by walk_at "mem") (by simp; omega) ?_
  intro tn _ _
  rw [List.length_map]
  repeat' (walk_at "ev")
  rw [fdiv2]
  repeat' (walk_at "ev")
  refine c_range1 (by assumption) ?_
  intro r t0 t1 _ _
  repeat' (walk_at "ev")
  refine c_reversed_range (by assumption) (by walk_at "mem") (by omega) (by omega) ?_
  intro I _ _
  refine it_rit (by assumption) (by walk_at "mem") ?_
  have S0 := ‹St s [D] L _ [(I, _), (r, _), (D, _)] _›
  refine for_loop (fun _ => rfl) (fun m s' => ∃ ps' : List P2, And5 (St s [D] L [(Str.ofString "x", .ref D), (Str.ofString "n", .int ps.length tn)] [(I, .ob (ritO ((m : Int) - 1) m (-1))), (r, .ob (rangeO 0 (ps.length / 2 : Nat) 1 t0 _ t1)), (D, .lst (ps'.map (·.1)))] s') (IsKs s.heap ps') (ps'.length = ps.length) (m ≤ ps.length) (hpf (fun p x => p.2.lt x.2) (fun a b => !(b.2.lt a.2)) m ps' = hpf (fun p x => p.2.lt x.2) (fun a b => !(b.2.lt a.2)) (ps.length / 2) ps)) (ps.length / 2) ⟨ps, S0, hk, rfl, by omega, rfl⟩ ?_
  clear S0
  rintro m s' E' ⟨ps', S', hk', hl', hm', hs'⟩
  refine PostFor.intro fun Qb hQb => ?_
  cases m with
  | zero =>
    refine nx_rit_end S' hA₁.h (by walk_at "mem") LedRm.here (by omega) ?_
    intro s2 S2
    repeat' (walk_at "ev")
    refine h _ ?_
    rw [← hs']
    exact S2.toOut.sub (by simp [hpf])
  | succ j =>
    rw [show (((j + 1 : Nat) : Int) - 1) = (j : Int) from by omega, show (((j + 1 : Nat) : Int)) = (j : Int) + 1 from by omega] at S'
    refine nx_rit S' LedUp.here (by omega) ?_
    intro ti s2 S2
    rw [show (j : Int) + 1 - 1 = j from by omega, show (j : Int) + -1 = (j : Int) - 1 from by omega] at S2
    obtain ⟨x, hx⟩ : ∃ x, ps'[j]? = some x := ⟨ps'[j]'(by omega), List.getElem?_eq_getElem _⟩
    clear S'
    repeat' (walk_at "ev")
    have S3 := ‹St s [D] L _ [(I, _), (r, _), (D, _)] _›
    refine c_siftup_max (ps := ps') (x := x) (G.next S3) hA₁ (St.led1 S3 (by walk_at "mem")) (Out.isKs S3.toOut hD hk') (by omega) hx (fun s4 O => ?_)
    have S4 := St.called S3 (LedUp.there (LedUp.there LedUp.here)) O
    repeat' (walk_at "ev")
    refine ⟨j, by omega, siftup (fun p x => p.2.lt x.2) (fun a b => !(b.2.lt a.2)) x ps' j, St.pre (r := [_]) S4, ?_, ?_, by omega, ?_⟩
    · exact hk'.siftup (hk'.at hx)
    · rw [siftup_length]; exact hl'
    · rw [← hs', hpf, hx]
theorem c_heapify {D : Addr} {ps : List P2} {Q : Value → Shared → Prop} {n : Nat} (G : GW w mg mb s [D]) (hA : Ok A (n + 4)) (hl : ∃ k, s.heap.get? D = some (lstO (ps.map (·.1)) k))
    (hk : IsKs s.heap ps) (hz : ps.length ≤ 1000)
    (h : ∀ s', Out s [D] [(D, .lst ((hpf (fun p x => x.2.lt p.2) (fun a b => !(a.2.lt b.2)) (ps.length / 2) ps).map (·.1)))] s' → Q .none s') :
    wpAny (model prog w) A (call (.ref 93) [.ref D]) Q E s := by
  obtain ⟨k, hD⟩ := hl
  refine fn_call (binds := [(Str.ofString "x", .ref D)]) (G _ fun _ _ e _ => e) hA rfl (by kernel_rfl!) (BindsTo.of_eq rfl) (by rfl) ?_ (by simp only [List.map]; decide) (by decide)
  intro s₁ L S _ hA₁
  have S := S.openW hD (kn := .lst (ps.map (·.1))) ⟨k, rfl⟩
  repeat' (walk_at "ev")
  refine len_lst (by assumption) (by walk_at "mem") (by simp; omega) ?_
  intro tn _ _
  rw [List.length_map]
  repeat' (walk_at "ev")
  rw [fdiv2]
  repeat' (walk_at "ev")
  refine c_range1 (by assumption) ?_
  intro r t0 t1 _ _
  repeat' (walk_at "ev")
  refine c_reversed_range (by assumption) (by walk_at "mem") (by omega) (by omega) ?_
  intro I _ _
  refine it_rit (by assumption) (by walk_at "mem") ?_
  have S0 := ‹St s [D] L _ [(I, _), (r, _), (D, _)] _›
  refine for_loop (fun _ => rfl) (fun m s' => ∃ ps' : List P2, And5 (St s [D] L [(Str.ofString "x", .ref D), (Str.ofString "n", .int ps.length tn)] [(I, .ob (ritO ((m : Int) - 1) m (-1))), (r, .ob (rangeO 0 (ps.length / 2 : Nat) 1 t0 _ t1)), (D, .lst (ps'.map (·.1)))] s') (IsKs s.heap ps') (ps'.length = ps.length) (m ≤ ps.length) (hpf (fun p x => x.2.lt p.2) (fun a b => !(a.2.lt b.2)) m ps' = hpf (fun p x => x.2.lt p.2) (fun a b => !(a.2.lt b.2)) (ps.length / 2) ps)) (ps.length / 2) ⟨ps, S0, hk, rfl, by omega, rfl⟩ ?_
  clear S0
  rintro m s' E' ⟨ps', S', hk', hl', hm', hs'⟩
  refine PostFor.intro fun Qb hQb => ?_
  cases m with
  | zero =>
    refine nx_rit_end S' hA₁.h (by walk_at "mem") LedRm.here (by omega) ?_
    intro s2 S2
    repeat' (walk_at "ev")
    refine h _ ?_
    rw [← hs']
    exact S2.toOut.sub (by simp [hpf])
  | succ j =>
    rw [show (((j + 1 : Nat) : Int) - 1) = (j : Int) from by omega, show (((j + 1 : Nat) : Int)) = (j : Int) + 1 from by omega] at S'
    refine nx_rit S' LedUp.here (by omega) ?_
    intro ti s2 S2
    rw [show (j : Int) + 1 - 1 = j from by omega, show (j : Int) + -1 = (j : Int) - 1 from by omega] at S2
    obtain ⟨x, hx⟩ : ∃ x, ps'[j]? = some x := ⟨ps'[j]'(by omega), List.getElem?_eq_getElem _⟩
    clear S'
    repeat' (walk_at "ev")
    have S3 := ‹St s [D] L _ [(I, _), (r, _), (D, _)] _›
    refine c_siftup (ps := ps') (x := x) (G.next S3) hA₁ (St.led1 S3 (by walk_at "mem")) (Out.isKs S3.toOut hD hk') (by omega) hx (fun s4 O => ?_)
    have S4 := St.called S3 (LedUp.there (LedUp.there LedUp.here)) O
    repeat' (walk_at "ev")
    refine ⟨j, by omega, siftup (fun p x => x.2.lt p.2) (fun a b => !(a.2.lt b.2)) x ps' j, St.pre (r := [_]) S4, ?_, ?_, by omega, ?_⟩
    · exact hk'.siftup (hk'.at hx)
    · rw [siftup_length]; exact hl'
    · rw [← hs', hpf, hx]
theorem c_heapreplace_max {D : Addr} {ps : List P2} {x y : P2} {Q : Value → Shared → Prop} {n : Nat} (G : GW w mg mb s [D]) (hA : Ok A (n + 4)) (hl : ∃ k, s.heap.get? D = some (lstO (ps.map (·.1)) k))
    (hk : IsKs s.heap ps) (hz : ps.length ≤ 1000) (hx : ps[0]? = some x) (hy : IsK s.heap y.1 y.2)
    (h : ∀ s', Out s [D] [(D, .lst ((siftup (fun p x => p.2.lt x.2) (fun a b => !(b.2.lt a.2)) y (ps.set 0 y) 0).map (·.1)))] s' → Q x.1 s') :
    wpAny (model prog w) A (call (.ref 100) [.ref D, y.1]) Q E s := by
  obtain ⟨k, hD⟩ := hl
  refine fn_call (binds := [(Str.ofString "heap", .ref D), (Str.ofString "item", y.1)]) (G _ fun _ _ e _ => e) hA rfl (by kernel_rfl!) (BindsTo.of_eq rfl) (by rfl) ?_ (by simp only [List.map]; decide) (by decide)
  intro s₁ L S _ hA₁
  have S := S.openW hD (kn := .lst (ps.map (·.1))) ⟨k, rfl⟩
  have hpos : 0 < ps.length := (List.getElem?_eq_some_iff.mp hx).1
  repeat' (first | walk_at "ev" | walk_at "item" | walk_at "setitem")
  have S3 := ‹St s [D] L _ [(D, _)] _›
  refine c_siftup_max (ps := ps.set 0 y) (x := y) (pos := 0) (G.next S3) hA₁ (by rw [List.map_set]; exact St.led1 S3 List.mem_cons_self) (Out.isKs S3.toOut hD (hk.set hy)) (by rw [List.length_set]; omega) (by rw [List.getElem?_set_self (by omega)]) (fun s4 O => ?_)
  have S4 := St.called S3 LedUp.here O
  clear S3
  repeat' (walk_at "ev")
  exact h _ S4.toOut
theorem c_heapreplace {D : Addr} {ps : List P2} {x y : P2} {Q : Value → Shared → Prop} {n : Nat} (G : GW w mg mb s [D]) (hA : Ok A (n + 4)) (hl : ∃ k, s.heap.get? D = some (lstO (ps.map (·.1)) k))
    (hk : IsKs s.heap ps) (hz : ps.length ≤ 1000) (hx : ps[0]? = some x) (hy : IsK s.heap y.1 y.2)
    (h : ∀ s', Out s [D] [(D, .lst ((siftup (fun p x => x.2.lt p.2) (fun a b => !(a.2.lt b.2)) y (ps.set 0 y) 0).map (·.1)))] s' → Q x.1 s') :
    wpAny (model prog w) A (call (.ref 86) [.ref D, y.1]) Q E s := by
  obtain ⟨k, hD⟩ := hl
  refine fn_call (binds := [(Str.ofString "heap", .ref D), (Str.ofString "item", y.1)]) (G _ fun _ _ e _ => e) hA rfl (by kernel_rfl!) (BindsTo.of_eq rfl) (by rfl) ?_ (by simp only [List.map]; decide) (by decide)
  intro s₁ L S _ hA₁
  have S := S.openW hD (kn := .lst (ps.map (·.1))) ⟨k, rfl⟩
  have hpos : 0 < ps.length := (List.getElem?_eq_some_iff.mp hx).1
  repeat' (first | walk_at "ev" | walk_at "item" | walk_at "setitem")
  have S3 := ‹St s [D] L _ [(D, _)] _›
  refine c_siftup (ps := ps.set 0 y) (x := y) (pos := 0) (G.next S3) hA₁ (by rw [List.map_set]; exact St.led1 S3 List.mem_cons_self) (Out.isKs S3.toOut hD (hk.set hy)) (by rw [List.length_set]; omega) (by rw [List.getElem?_set_self (by omega)]) (fun s4 O => ?_)
  have S4 := St.called S3 LedUp.here O
  clear S3
  repeat' (walk_at "ev")
  exact h _ S4.toOut
end
end
section
section
variable {prog : Program} {w : World} {A : Around} {E : Value → Shared → Prop} {s : Shared} {mg mb : Str → Option Value}
noncomputable abbrev invP41 := fun (s : Shared) (L : Addr) (Wd : Addr) (p : Nat) (q : Nat) (t : Tok) (tl : Tok) (cs : List Nat) (I : Addr) => (fun m s' => Ex2 fun i tv => St s [] L [(Str.ofString "word", .ref Wd), (Str.ofString "pair", .str (S [p, q]) t), (Str.ofString "letters", .str (S lettersL) tl), (Str.ofString "value", .int (numV p q (cs.take i) : Nat) tv)] [(I, litK Wd i)] s' ∧ i + m = cs.length : Nat → Shared → Prop)
theorem c_law_number {Wd : Addr} {vs : List Value} {cs : List Nat} {p q : Nat} {t : Tok} {Q : Value → Shared → Prop} {n : Nat} (G : GW w mg mb s []) (hA : Ok A (n + 1))
    (hl : s.heap.IsList Wd vs.toArray) (hc : Chs vs cs) (h12 : ∀ c ∈ cs, c ∈ signs12) (hlen : cs.length ≤ 12) (hp : p ∈ signs7) (hq : q ∈ signs7) (hpq : p ≠ q)
    (h : ∀ t' s', Out s [] [] s' → Q (.int ((numV p q cs * 64 ^ (12 - cs.length) : Nat) : Int) t') s') :
    wpAny (model prog w) A (call (.ref 206) [.ref Wd, .str (S [p, q]) t]) Q E s := by
  refine fn_call (binds := [(Str.ofString "word", .ref Wd), (Str.ofString "pair", .str (S [p, q]) t)]) (G _ fun _ _ e _ => e) hA rfl (by kernel_rfl!) (BindsTo.of_eq rfl) (by rfl) ?_ (by simp only [List.map]; decide) (by decide)
  intro s₁ L S₁ _ hA₁
  repeat' (walk_at "ev8")
  refine ev_S (x := lettersL) letters_eq (by assumption) ?_
  intro tl _ _
  repeat' (walk_at "ev8")
  rename Tok => t0
  have S3 := S_
  refine it_list S3 (S3.list hl (by simp)) ?_
  intro I s4 S4 _
  clear S3
  refine for_loop (fun _ => rfl) (invP41 s L Wd p q t tl cs I) cs.length ⟨0, t0, S4, by omega⟩ ?_
  rintro m s' E' ⟨i, tv, S', hm⟩
  refine PostFor.intro fun Qb hQb => ?_
  rcases m with _ | j
  · refine nx_lit_end S' hA₁.h (by walk_at "mem") LedRm.here (S'.list hl (by simp)) (List.getElem?_eq_none (by rw [hc.length]; omega)) ?_
    intro s5 S5
    rw [List.take_of_length_le (by omega)] at S5
    repeat' (walk_at "ev8")
    refine len_base (by assumption) (St.list (by assumption) hl (by simp)) (by rw [hc.length]; omega) ?_
    intro t5 s6 S6
    rw [hc.length]
    repeat' (walk_at "ev8")
    refine op_pow (by assumption) (by omega) (by omega) (by decide) ?_
    intro t6 s7 S7
    refine op_mul (by assumption) ?_ ?_
    · have hpow : ((64 : Int) ^ (12 - (cs.length : Int)).toNat) = ((64 ^ (12 - cs.length) : Nat) : Int) := by
        rw [show (12 - (cs.length : Int)).toNat = 12 - cs.length from by omega]; norm_cast
      rw [hpow]
      refine mulNat (Nat.lt_of_lt_of_le (numV_lt p q cs fun c hc => signs12_le c (h12 c hc)) ?_) (Nat.lt_of_le_of_lt (Nat.pow_le_pow_right (by decide) (show 12 - cs.length ≤ 12 from by omega)) (by decide))
      exact Nat.le_trans (Nat.pow_le_pow_right (by decide) hlen) (by decide)
    · intro t8 s8 S8
      have hpow : ((numV p q cs : Nat) : Int) * ((64 : Int) ^ (12 - (cs.length : Int)).toNat) = ((numV p q cs * 64 ^ (12 - cs.length) : Nat) : Int) := by
        rw [show (12 - (cs.length : Int)).toNat = 12 - cs.length from by omega]; norm_cast
      rw [hpow]
      repeat' (walk_at "ev8")
      exact h _ _ S8.toOut.none
  · obtain ⟨c, tc, hv, hcc⟩ := hc.at (i := i) (by omega)
    refine nx_lit S' LedUp.here (S'.list hl (by simp)) hv ?_
    intro s5 S5
    have hcm : c ∈ cs := List.mem_of_getElem? hcc
    have hstep : numV p q (cs.take (i + 1)) = numV p q (cs.take i) * 64 + fig p q c := by
      rw [List.take_add_one, hcc]
      simp [numV]
    repeat' (walk_at "ev8")
    have fin : ∀ (n : Nat) t6 s6, fig p q c = n → St s [] L [(Str.ofString "word", .ref Wd), (Str.ofString "pair", .str (S [p, q]) t), (Str.ofString "letters", .str (S lettersL) tl), (Str.ofString "value", .int ((numV p q (cs.take i) : Nat) * 64 + (n : Int)) t6), (Str.ofString "sign", .str (S [c]) tc)] [(I, litK Wd (i + 1))] s6 →
        Less (invP41 s L Wd p q t tl cs I) (j + 1) s6 := by
      intro n t6 s6 hn S6
      refine ⟨j, by omega, i + 1, t6, ?_, by omega⟩
      rw [hstep, hn, show (((numV p q (cs.take i) * 64 + n : Nat)) : Int) = (numV p q (cs.take i) : Nat) * 64 + (n : Int) from by omega]
      exact (S6.pre (r := [(Str.ofString "sign", .str (S [c]) tc)]))
    refine split_dec (fun hin => ?_) (fun hin => ?_)
    · repeat' (walk_at "ev8")
      refine m_index ?_
      repeat' (walk_at "ev8")
      by_cases hcp : c = p
      · subst hcp
        refine index_S (by assumption) (occ_p c hp q hq hpq) ?_
        intro t6 s6 S6
        repeat' (walk_at "ev8")
        exact fin (62 + 0) _ _ (by simp [fig]) (by assumption)
      · have hcq : c = q := by simpa [hcp] using hin
        subst hcq
        refine index_S (by assumption) (occ_q p hp c hq hpq) ?_
        intro t6 s6 S6
        repeat' (walk_at "ev8")
        exact fin (62 + 1) _ _ (by simp [fig, hcp]) (by assumption)
    · repeat' (walk_at "ev8")
      refine m_index ?_
      repeat' (walk_at "ev8")
      refine index_S (by assumption) (occ_l c (h12 c hcm)) ?_
      intro t6 s6 S6
      repeat' (walk_at "ev8")
      refine fin (lIx c) _ _ ?_ (by assumption)
      simp only [List.mem_cons, List.not_mem_nil, or_false, not_or] at hin
      simp [fig, hin.1, hin.2]
end
end
section
section
variable {prog : Program} {w : World} {A : Around} {E : Value → Shared → Prop} {s : Shared} {mg mb : Str → Option Value}
theorem wp_cut {M : Model} {A : Around} {E : Value → Shared → Prop} {s : Shared} {α : Type} {c : Sem α} {P Q : α → Shared → Prop} (h : wpAny M A c P E s) (h2 : ∀ b s', P b s' → Q b s') : wpAny M A c Q E s := wpAny_mono h h2 fun _ _ e => e
theorem chain_t {a c b : Nat} (h : (a : Int) ≤ (c : Int)) : decide ((c : Int) ≤ (b : Int)) = decide (a ≤ c ∧ c ≤ b) := by
  rw [decide_eq_decide]; omega
theorem chain_f {a c b : Nat} (h : ¬ (a : Int) ≤ (c : Int)) : false = decide (a ≤ c ∧ c ≤ b) := by
  symm; rw [decide_eq_false_iff_not]; omega
theorem v64_1 {c : Nat} (h : 65 ≤ c ∧ c ≤ 90) : (c : Int) - 65 = ((val64 c : Nat) : Int) := by
  unfold val64; rw [if_pos h]; omega
theorem v64_2 {c : Nat} (h1 : ¬ (65 ≤ c ∧ c ≤ 90)) (h : 97 ≤ c ∧ c ≤ 122) : (c : Int) - 71 = ((val64 c : Nat) : Int) := by
  unfold val64; rw [if_neg h1, if_pos h]; omega
theorem v64_3 {c : Nat} (h1 : ¬ (65 ≤ c ∧ c ≤ 90)) (h2 : ¬ (97 ≤ c ∧ c ≤ 122)) (h : 48 ≤ c ∧ c ≤ 57) : (c : Int) + 4 = ((val64 c : Nat) : Int) := by
  unfold val64; rw [if_neg h1, if_neg h2, if_pos h]; omega
theorem v64_r {c : Nat} (h1 : ¬ (65 ≤ c ∧ c ≤ 90)) (h2 : ¬ (97 ≤ c ∧ c ≤ 122)) (h3 : ¬ (48 ≤ c ∧ c ≤ 57)) : val64 c = if c = 43 then 62 else if c = 47 then 63 else 64 := by
  unfold val64; rw [if_neg h1, if_neg h2, if_neg h3]
theorem c_b64_value {c : Nat} {t : Tok} {Q : Value → Shared → Prop} {n : Nat} (G : GW w mg mb s []) (hA : Ok A (n + 1))
    (h : ∀ t' s', Out s [] [] s' → Q (.int ((val64 c : Nat) : Int) t') s') :
    wpAny (model prog w) A (call (.ref 63) [.int (c : Int) t]) Q E s := by
  refine fn_call (binds := [(Str.ofString "c", .int (c : Int) t)]) (G _ fun _ _ e _ => e) hA rfl (by kernel_rfl!) (BindsTo.of_eq rfl) (by rfl) ?_ (by simp only [List.map]; decide) (by decide)
  intro s₁ L S₁ _ hA₁
  have fin : ∀ (i : Int) t' s', St s [] L [(Str.ofString "c", .int (c : Int) t)] [] s' → i = ((val64 c : Nat) : Int) → Q (.int i t') s' := fun i t' s' S' e => e ▸ h _ _ S'.toOut
  refine x_cons ?_
  intro Q1 hQ1
  refine wpAny_If ?_
  refine wp_cut (P := fun b s' => b = decide (65 ≤ c ∧ c ≤ 90) ∧ St s [] L [(Str.ofString "c", .int (c : Int) t)] [] s') ?_ ?_
  · clear hQ1
    repeat' (walk_at "evC")
    refine split_dec (fun h1 => ?_) (fun h1 => ?_)
    · repeat' (walk_at "evC")
      refine test_last ?_
      repeat' (walk_at "evC")
      exact ⟨chain_t h1, by assumption⟩
    · repeat' (walk_at "evC")
      exact ⟨chain_f h1, by assumption⟩
  rintro b s1 ⟨rfl, S1⟩
  refine split_dec (fun h1 => ?_) (fun h1 => ?_)
  · repeat' (walk_at "evC")
    exact fin _ _ _ (by assumption) (v64_1 h1)
  refine wpAny_execs_nil ?_
  refine post_use hQ1 (PN.next ?_)
  clear hQ1 Q1
  refine x_cons ?_
  intro Q2 hQ2
  refine wpAny_If ?_
  refine wp_cut (P := fun b s' => b = decide (97 ≤ c ∧ c ≤ 122) ∧ St s [] L [(Str.ofString "c", .int (c : Int) t)] [] s') ?_ ?_
  · clear hQ2
    repeat' (walk_at "evC")
    refine split_dec (fun h1 => ?_) (fun h1 => ?_)
    · repeat' (walk_at "evC")
      refine test_last ?_
      repeat' (walk_at "evC")
      exact ⟨chain_t h1, by assumption⟩
    · repeat' (walk_at "evC")
      exact ⟨chain_f h1, by assumption⟩
  rintro b s1 ⟨rfl, S1⟩
  refine split_dec (fun h2 => ?_) (fun h2 => ?_)
  · repeat' (walk_at "evC")
    exact fin _ _ _ (by assumption) (v64_2 h1 h2)
  refine wpAny_execs_nil ?_
  refine post_use hQ2 (PN.next ?_)
  clear hQ2 Q2
  refine x_cons ?_
  intro Q3 hQ3
  refine wpAny_If ?_
  refine wp_cut (P := fun b s' => b = decide (48 ≤ c ∧ c ≤ 57) ∧ St s [] L [(Str.ofString "c", .int (c : Int) t)] [] s') ?_ ?_
  · clear hQ3
    repeat' (walk_at "evC")
    refine split_dec (fun h1 => ?_) (fun h1 => ?_)
    · repeat' (walk_at "evC")
      refine test_last ?_
      repeat' (walk_at "evC")
      exact ⟨chain_t h1, by assumption⟩
    · repeat' (walk_at "evC")
      exact ⟨chain_f h1, by assumption⟩
  rintro b s1 ⟨rfl, S1⟩
  refine split_dec (fun h3 => ?_) (fun h3 => ?_)
  · repeat' (walk_at "evC")
    exact fin _ _ _ (by assumption) (v64_3 h1 h2 h3)
  refine wpAny_execs_nil ?_
  refine post_use hQ3 (PN.next ?_)
  clear hQ3 Q3
  repeat' (first | walk_at "evC" | refine split_dec (fun _ => ?_) (fun _ => ?_))
  all_goals exact fin _ _ _ (by assumption) (by rw [v64_r h1 h2 h3]; split <;> (try split) <;> omega)
theorem c_ascii_buffer {x : List UInt8} {t : Tok} {Q : Value → Shared → Prop} {n : Nat} (G : GW w mg mb s []) (hA : Ok A (n + 1))
    (h : ∀ t' s', Out s [] [] s' → Q (.bytes x.toArray t') s') :
    wpAny (model prog w) A (call (.ref 49) [.bytes x.toArray t]) Q E s := by
  refine fn_call (binds := [(Str.ofString "data", .bytes x.toArray t)]) (G _ fun _ _ e _ => e) hA rfl (by kernel_rfl!) (BindsTo.of_eq rfl) (by rfl) ?_ (by simp only [List.map]; decide) (by decide)
  intro s₁ L S₁ _ hA₁
  repeat' (walk_at "evC")
  exact h _ _ (St.toOut (by assumption))
theorem c_truth {b : Bool} {Q : Value → Shared → Prop} {n : Nat} (G : GW w mg mb s []) (hA : Ok A (n + 1))
    (h : ∀ s', Out s [] [] s' → Q (.bool b) s') :
    wpAny (model prog w) A (call (.ref 56) [.bool b]) Q E s := by
  refine fn_call (binds := [(Str.ofString "x", .bool b)]) (G _ fun _ _ e _ => e) hA rfl (by kernel_rfl!) (BindsTo.of_eq rfl) (by rfl) ?_ (by simp only [List.map]; decide) (by decide)
  intro s₁ L S₁ _ hA₁
  repeat' (walk_at "evC")
  cases b
  · refine iff' ?_
    repeat' (walk_at "evC")
    exact h _ (St.toOut (by assumption))
  · refine ift ?_
    repeat' (walk_at "evC")
    exact h _ (St.toOut (by assumption))
theorem c_bfd {x : List Nat} {t : Tok} {Q : Value → Shared → Prop} {n : Nat} (G : GW w mg mb s []) (hA : Ok A (n + 1)) (hx : ∀ c ∈ x, c < 128) (h0 : x ≠ []) (hz : x.length ≤ 1000)
    (h : ∀ t' s', Out s [] [] s' → Q (.bytes (byteL x).toArray t') s') :
    wpAny (model prog w) A (call (.ref 29) [.str (S x) t]) Q E s := by
  refine fn_call (binds := [(Str.ofString "s", .str (S x) t)]) (G _ fun _ _ e _ => e) hA rfl (by kernel_rfl!) (BindsTo.of_eq rfl) (by rfl) ?_ (by simp only [List.map]; decide) (by decide)
  intro s₁ L S₁ _ hA₁
  repeat' (walk_at "evC")
  refine c_encode (by assumption) hx h0 hz ?_
  intro t2 s2 S2
  repeat' (walk_at "evC")
  exact h _ _ S2.toOut
end
end
section
section
variable {prog : Program} {w : World} {A : Around} {E : Value → Shared → Prop} {s : Shared} {mg mb : Str → Option Value}
theorem a2_take_succ {cs : List Nat} {k c : Nat} (h : cs[k]? = some c) : a2 (cs.take (k + 1)) = a2step (a2 (cs.take k)) c := by
  rw [List.take_add_one, h]; exact a2_snoc _ _
noncomputable abbrev invP61 := fun (s : Shared) (L : Addr) (cs : List Nat) (t : Tok) (t2 : Tok) (I : Addr) => (fun m s' => Ex8 fun D k vs ii tq tl tp ti => And4 (St s [] L [(Str.ofString "data", .bytes (byteL cs).toArray t), (Str.ofString "strict_mode", .bool false), (Str.ofString "ascii_data", .bytes (byteL cs).toArray t2), (Str.ofString "out", .ref D), (Str.ofString "quad_pos", .int ((a2 (cs.take k)).1 : Nat) tq), (Str.ofString "leftchar", .int ((a2 (cs.take k)).2.1 : Nat) tl), (Str.ofString "pads", .int 0 tp), (Str.ofString "i", .int ii ti)] [(I, bitK (byteL cs).toArray t2 k), (D, .lst vs)] s') (k + m = cs.length) (IntsAre vs ((a2 (cs.take k)).2.2.map fun b : Nat => (b : Int))) (vs.length ≤ k) : Nat → Shared → Prop)
theorem c_a2b {cs : List Nat} {t : Tok} {Q : Value → Shared → Prop} {n : Nat} (G : GW w mg mb s []) (hA : Ok A (n + 2)) (hc : ∀ c ∈ cs, c < 128 ∧ c ≠ 61) (hz : cs.length ≤ 1000) (hq : (a2 cs).1 = 0)
    (h : ∀ t' s', Out s [] [] s' → Q (.bytes (byteL (a2 cs).2.2).toArray t') s') :
    wpAny (model prog w) A (call (.ref 71) [.bytes (byteL cs).toArray t] [(Str.ofString "strict_mode", .bool false)]) Q E s := by
  refine fn_call (binds := [(Str.ofString "data", .bytes (byteL cs).toArray t), (Str.ofString "strict_mode", .bool false)]) (G _ fun _ _ e _ => e) hA rfl (by kernel_rfl!) (BindsTo.of_eq rfl) (by rfl) ?_ (by simp only [List.map]; decide) (by decide)
  intro s₁ L S₁ _ hA₁
  repeat' (walk_at "evD")
  refine c_ascii_buffer (G.next (by assumption)) hA₁ ?_
  intro t2 s2 O2
  have S2 := St.out (by assumption) O2
  clear O2
  repeat' (walk_at "evD")
  refine c_truth (G.next (by assumption)) hA₁ ?_
  intro s3 O3
  have S3 := St.out (by assumption) O3
  clear O3
  repeat' (walk_at "evD")
  refine it_bytes (by assumption) ?_
  intro I s4 S4
  refine for_loop (fun _ => rfl) (invP61 s L cs t t2 I) cs.length ⟨_, 0, [], _, _, _, _, _, S4, by walk_at "lia", .nil, by simp⟩ ?_
  rintro m s' E' ⟨D, k, vs, ii, tq, tl, tp, ti, S', hm, hi, hvl⟩
  refine PostFor.intro fun Qb hQb => ?_
  have ok := a2_ok (cs.take k)
  rcases m with _ | j
  · refine nx_bit_end S' hA₁.h (by walk_at "mem") LedRm.here (by simp [byteL]; walk_at "lia") ?_
    intro s5 S5
    rw [List.take_of_length_le (by walk_at "lia")] at S5 hi ok
    rw [hq] at S5
    repeat' (first | walk_at "evD" | (refine split_dec (fun _ => ?_) (fun _ => ?_) <;> try (exfalso; walk_at "lia")))
    have S6 := ‹St s [] L _ [(D, _)] _›
    have hns : ∀ n ∈ (a2 cs).2.2.map (fun b : Nat => (b : Int)), 0 ≤ n ∧ n < 256 := fun n hn => by
      obtain ⟨b, hb, rfl⟩ := List.mem_map.mp hn
      have := ok.o b hb
      walk_at "lia"
    have hsz : (1000 : Nat) ≤ sizeLine := by decide
    refine call_bytes_ints (S6.isList (by walk_at "mem")) hi hns (by walk_at "lia") hA₁.h ?_
    intro h' t' tk hk
    have S7 := S6.keeps (s' := { ‹Shared› with heap := h', toks := tk }) ⟨_, _, rfl⟩ hk
    have e : byteArr ((a2 cs).2.2.map fun b : Nat => (b : Int)) = (byteL (a2 cs).2.2).toArray := by
      simp [byteArr, byteL]
    rw [e]
    repeat' (walk_at "evD")
    exact h _ _ S7.toOut.none
  · obtain ⟨c, hck⟩ : ∃ c, cs[k]? = some c := ⟨cs[k]'(by walk_at "lia"), List.getElem?_eq_getElem _⟩
    have hc1 := hc c (List.mem_of_getElem? hck)
    refine nx_bit S' LedUp.here (c := c.toUInt8) (by simp [byteL, hck]) ?_
    intro tc s5 S5
    rw [show ((c.toUInt8).toNat : Int) = (c : Int) by show ((c % 256 : Nat) : Int) = c; walk_at "lia"]
    have fin : ∀ (q lf : Nat) ii vs' tq tl tp ti vc s6, a2step (a2 (cs.take k)) c = (q, lf, (a2step (a2 (cs.take k)) c).2.2) → IntsAre vs' ((a2step (a2 (cs.take k)) c).2.2.map fun b : Nat => (b : Int)) → vs'.length ≤ k + 1 →
        St s [] L [(Str.ofString "data", .bytes (byteL cs).toArray t), (Str.ofString "strict_mode", .bool false), (Str.ofString "ascii_data", .bytes (byteL cs).toArray t2),
          (Str.ofString "out", .ref D), (Str.ofString "quad_pos", .int (q : Nat) tq), (Str.ofString "leftchar", .int (lf : Nat) tl), (Str.ofString "pads", .int 0 tp), (Str.ofString "i", .int ii ti), (Str.ofString "this_ch", vc)]
          [(I, bitK (byteL cs).toArray t2 (k + 1)), (D, .lst vs')] s6 →
        Less (invP61 s L cs t t2 I) (j + 1) s6 := by
      intro q lf ii vs' tq tl tp ti vc s6 he hi' hl' S6
      refine ⟨j, by walk_at "lia", D, k + 1, vs', ii, tq, tl, tp, ti, ?_, by walk_at "lia", ?_, hl'⟩
      · rw [a2_take_succ hck, he]
        exact S6.pre (r := [(Str.ofString "this_ch", vc)])
      · rw [a2_take_succ hck]; exact hi'
    clear S'
    repeat' (first | walk_at "evD" | (refine split_dec (fun _ => ?_) (fun _ => ?_) <;> try (exfalso; walk_at "lia")))
    refine c_b64_value (G.next (by assumption)) hA₁ ?_
    intro t6 s6 O6
    have S6 := St.out (by assumption) O6
    clear O6 S5
    have hsp : ∀ c ∈ cs, val64 c ≤ 64 := fun c _ => by unfold val64; (repeat' split) <;> walk_at "lia"
    have hv64 := hsp c (List.mem_of_getElem? hck)
    repeat' (first | walk_at "evD" | (refine split_dec (fun _ => ?_) (fun _ => ?_) <;> try (exfalso; walk_at "lia")))
    · rename_i hge _ _ _ _
      have e : a2step (a2 (cs.take k)) c = a2 (cs.take k) := by unfold a2step; rw [if_pos (by walk_at "lia")]
      exact fin _ _ _ vs _ _ _ _ _ _ (by rw [e]) (by rw [e]; exact hi) (by walk_at "lia") (by assumption)
    · have e : a2step (a2 (cs.take k)) c = (1, val64 c, (a2 (cs.take k)).2.2) := by unfold a2step; rw [if_neg (by walk_at "lia"), if_pos (by walk_at "lia")]
      exact fin 1 _ _ vs _ _ _ _ _ _ (by rw [e]) (by rw [e]; exact hi) (by walk_at "lia") (by assumption)
    · refine op_shlN (k := 2) (by assumption) (by walk_at "lia") ok.l0 ?_
      intro _ _ _
      repeat' (walk_at "evD")
      refine op_shrN (k := 4) (by assumption) ?_
      intro _ _ _
      refine op_orN (by assumption) ?_
      intro _ _ _
      rw [or_shift 2 (by walk_at "lia")]
      repeat' (walk_at "evD")
      have e : a2step (a2 (cs.take k)) c = (2, val64 c % 16, (a2 (cs.take k)).2.2 ++ [(a2 (cs.take k)).2.1 * 2 ^ 2 + val64 c / 2 ^ 4]) := by unfold a2step; rw [if_neg (by walk_at "lia"), if_neg (by walk_at "lia"), if_pos (by walk_at "lia")]
      have S9 := ‹St s [] L _ [(I, _), (D, _)] _›
      exact fin 2 _ _ _ _ _ _ _ _ _ (by rw [e]) (by rw [e, List.map_append]; exact ints_snoc hi) (by simp; walk_at "lia") S9
    · refine op_shlN (k := 4) (by assumption) (by walk_at "lia") ok.l0 ?_
      intro _ _ _
      repeat' (walk_at "evD")
      refine op_shrN (k := 2) (by assumption) ?_
      intro _ _ _
      refine op_orN (by assumption) ?_
      intro _ _ _
      rw [or_shift 4 (by walk_at "lia")]
      repeat' (walk_at "evD")
      have e : a2step (a2 (cs.take k)) c = (3, val64 c % 4, (a2 (cs.take k)).2.2 ++ [(a2 (cs.take k)).2.1 * 2 ^ 4 + val64 c / 2 ^ 2]) := by unfold a2step; rw [if_neg (by walk_at "lia"), if_neg (by walk_at "lia"), if_neg (by walk_at "lia"), if_pos (by walk_at "lia")]
      have S9 := ‹St s [] L _ [(I, _), (D, _)] _›
      exact fin 3 _ _ _ _ _ _ _ _ _ (by rw [e]) (by rw [e, List.map_append]; exact ints_snoc hi) (by simp; walk_at "lia") S9
    · refine op_shlN (k := 6) (by assumption) (by walk_at "lia") ok.l0 ?_
      intro _ _ _
      repeat' (walk_at "evD")
      refine op_orN (by assumption) ?_
      intro _ _ _
      rw [or_shift 6 (by walk_at "lia")]
      repeat' (walk_at "evD")
      have e : a2step (a2 (cs.take k)) c = (0, 0, (a2 (cs.take k)).2.2 ++ [(a2 (cs.take k)).2.1 * 2 ^ 6 + val64 c]) := by unfold a2step; rw [if_neg (by walk_at "lia"), if_neg (by walk_at "lia"), if_neg (by walk_at "lia"), if_neg (by walk_at "lia")]
      have S9 := ‹St s [] L _ [(I, _), (D, _)] _›
      exact fin 0 0 _ _ _ _ _ _ _ _ (by rw [e]) (by rw [e, List.map_append]; exact ints_snoc hi) (by simp; walk_at "lia") S9
end
end
section
section
variable {prog : Program} {w : World} {A : Around} {E : Value → Shared → Prop} {s : Shared} {mg mb : Str → Option Value}
theorem c_b64decode {x : List Nat} {p q : Nat} {t u : Tok} {Q : Value → Shared → Prop} {n : Nat} (G : GW w mg mb s []) (hA : Ok A (n + 3)) (hx : ∀ c ∈ x, c ∈ alph) (h0 : x ≠ []) (hz : x.length ≤ 1000)
    (hp : p ∈ signs7) (hq : q ∈ signs7) (hpq : p ≠ q) (hf : (a2 (x.map (trC p q))).1 = 0)
    (h : ∀ t' s', Out s [] [] s' → Q (.bytes (byteL (a2 (x.map (trC p q))).2.2).toArray t') s') :
    wpAny (model prog w) A (call (.ref 79) [.str (S x) t, .str (S [p, q]) u]) Q E s := by
  refine fn_call (binds := [(Str.ofString "s", .str (S x) t), (Str.ofString "altchars", .str (S [p, q]) u), (Str.ofString "validate", .bool false)]) (G _ fun _ _ e _ => e) hA rfl (by kernel_rfl!) (binds_K (G _ fun _ _ e _ => e).X rfl rfl rfl rfl rfl) (by rfl) ?_ (by simp only [List.map]; decide) (by decide)
  intro s₁ L S₁ _ hA₁
  repeat' (walk_at "evD")
  refine c_bfd (G.next (by assumption)) hA₁ (fun c hc => alph_lt c (hx c hc)) h0 hz ?_
  intro t2 s2 O2
  have S2 := St.out (by assumption) O2
  clear O2
  repeat' (walk_at "evD")
  refine c_bfd (G.next (by assumption)) hA₁ (fun c hc => ?_) (by simp) (by simp) ?_
  · rcases List.mem_cons.mp hc with rfl | hc
    · exact signs7_lt _ hp
    · rw [List.mem_singleton.mp hc]; exact signs7_lt _ hq
  intro t3 s3 O3
  have S3 := St.out (by assumption) O3
  clear O3
  repeat' (walk_at "evD")
  refine wpAny_Assert_holds ?_
  repeat' (walk_at "evD")
  refine len_byt (by assumption) (by simp [byteL]) ?_
  intro t4 s4 S4
  repeat' (walk_at "evD")
  refine ⟨by simp [byteL], ?_⟩
  repeat' (walk_at "evD")
  refine m_translate ?_
  refine e_maketrans G rfl rfl rfl ?_
  repeat' (walk_at "evD")
  refine ⟨rfl, _, _, _, by assumption, fun s5 S5 => ?_⟩
  clear S4
  refine cw_bi0 rfl rfl ?_
  repeat' (walk_at "evD")
  refine ev_bytes (by assumption) ?_
  intro t6 s6 S6
  repeat' (walk_at "evD")
  refine c_maketrans (by assumption) (tr_all p hp q hq hpq).1 ?_
  intro t7 s7 S7
  refine c_translate (by assumption) hp hq hpq hx hz ?_
  intro t8 s8 S8
  repeat' (walk_at "evD")
  refine cw_fn_kw G ⟨_, _, rfl, rfl⟩ rfl rfl ?_
  repeat' (walk_at "evD")
  refine kws_cons ?_
  repeat' (walk_at "evD")
  refine kws_nil ?_
  repeat' (walk_at "evD")
  refine c_a2b (G.next (by assumption)) hA₁ (fun c hc => ?_) (by simpa using hz) hf ?_
  · obtain ⟨d, hd, rfl⟩ := List.mem_map.mp hc
    exact trC_ok p hp q hq d (hx d hd)
  intro t9 s9 O9
  have S9 := St.out (by assumption) O9
  repeat' (walk_at "evD")
  repeat' (walk_at "evD")
  exact h _ _ S9.toOut.none
end
end
section
section
variable {prog : Program} {w : World} {A : Around} {E : Value → Shared → Prop} {s : Shared} {mg mb : Str → Option Value}
theorem c_filemode {mode : Nat} {tm : Tok} {Q : Value → Shared → Prop} {n : Nat} (G : GW w mg mb s []) (hA : Ok A (n + 2))
    (h : ∀ t' s', Out s [] [] s' → Q (.str (S (listing mode)) t') s') :
    wpAny (model prog w) A (call (.ref 194) [.int (mode : Int) tm]) Q E s := by
  refine fn_call (binds := [(Str.ofString "mode", .int (mode : Int) tm)]) (G _ fun _ _ e _ => e) hA rfl (by kernel_rfl!) (BindsTo.of_eq rfl) (by rfl) ?_ (by simp only [List.map]; decide) (by decide)
  intro s₁ L S₁ _ hA₁
  repeat' (walk_at "evD")
  refine c_enum (by assumption) (table_at (G.at_ (by assumption))) ?_
  intro e I s2 S2 _
  refine it_enum S2 (.head _) ?_
  refine for_any (fun m s' => Ex3 fun i vs D => And3 (St s [] L [(Str.ofString "mode", .int (mode : Int) tm), (Str.ofString "perm", .ref D)] [(e, enK I ((i : Nat) : Int)), (I, titK 187 i), (D, .lst vs)] s') (i + m = 10) (Chs vs ((listing mode).take i))) 10 ⟨0, [], _, S2, rfl, .nil⟩ ?_
  clear S2
  rintro m s' E' ⟨i, vs, D, S', hm, hc⟩
  refine PostFor.intro fun Qb hQb => ?_
  have hvl : vs.length ≤ 10 := by rw [hc.length]; simp; omega
  rcases m with _ | m
  · refine nx_enum_end hA₁.h S' (table_at (G.at_ S')) (by simp [tabL]; omega) ?_
    intro s3 S3
    rw [List.take_of_length_le (by simp [listing, rowsT]; omega)] at hc
    repeat' (walk_at "evD")
    refine m_join ?_
    repeat' (walk_at "evD")
    refine c_join (by assumption) (St.isList (by assumption) (by walk_at "mem")) hc (by simp [listing, rowsT]) ?_
    intro t4 s4 S4
    repeat' (walk_at "evD")
    exact h _ _ S4.toOut.none
  · have hR := rows_at (G _ fun _ _ e _ => e)
    obtain ⟨Ra, its, row, hx, hrow, hRa, hP⟩ := hR.at (i := i) (by simp [rowsT]; omega)
    refine nx_enum hA₁.h S' (table_at (G.at_ S')) (by simpa using hx) ?_
    intro Tn s3 hgo
    refine hgo _ _ _ _ _ fun t3 s4 S4 hT4 => ?_
    clear S' hgo
    refine asg_tup2 S4 hA₁.h hT4 (by walk_at "sets") (by walk_at "sets") ?_ rfl rfl rfl rfl
    intro s5 S5
    clear S4 hT4
    repeat' (walk_at "evD")
    have hli := listing_at (mode := mode) hrow
    have hlist : (listing mode).take (i + 1) = (listing mode).take i ++ [pick (tst mode i) (dfl i) row] := by rw [List.take_add_one, hli]; rfl
    refine it_tup (by assumption) (St.tup (by assumption) hRa (by simp)) ?_
    intro J s6 S6 _
    clear S5
    refine for_any (fun m' s' => ∃ j, And3 (St s [] L [(Str.ofString "mode", .int (mode : Int) tm), (Str.ofString "perm", .ref D), (Str.ofString "index", .int i t3), (Str.ofString "table", .ref Ra)] [(J, titK Ra j), (e, enK I ((i + 1 : Nat) : Int)), (I, titK 187 (i + 1)), (D, .lst vs)] s') (j + m' = row.length) (pick (tst mode i) (dfl i) (row.drop j) = pick (tst mode i) (dfl i) row)) row.length ⟨0, S6, by omega, rfl⟩ ?_
    clear S6
    have fin : ∀ (c : Nat) tc s' l', c = pick (tst mode i) (dfl i) row → St s [] L ([(Str.ofString "mode", .int (mode : Int) tm), (Str.ofString "perm", .ref D)] ++ l') [(e, enK I ((i + 1 : Nat) : Int)), (I, titK 187 (i + 1)), (D, .lst (vs ++ [.str (S [c]) tc]))] s' →
        Less (fun m s' => Ex3 fun i vs D => And3 (St s [] L [(Str.ofString "mode", .int (mode : Int) tm), (Str.ofString "perm", .ref D)] [(e, enK I ((i : Nat) : Int)), (I, titK 187 i), (D, .lst vs)] s') (i + m = 10) (Chs vs ((listing mode).take i))) (m + 1) s' := by
      intro c tc s' l' hcc S7
      refine ⟨m, by omega, i + 1, _, D, S7.pre (r := l'), by omega, ?_⟩
      rw [hlist, ← hcc]
      exact hc.snoc
    rintro m' s' E'' ⟨j, S7, hj, hpk⟩
    refine PostFor.intro fun Qb hQb => ?_
    rcases m' with _ | m'
    · refine nx_tit_end S7 hA₁.h (.head _) LedRm.here (S7.tup hRa (by simp)) (List.getElem?_eq_none (by rw [hP.length]; omega)) ?_
      intro s8 S8
      rw [List.drop_eq_nil_of_le (by omega)] at hpk
      have hpk : dfl i = pick (tst mode i) (dfl i) row := hpk
      repeat' (walk_at "evD")
      refine split_dec (fun h0 => ?_) (fun h0 => ?_)
      · repeat' (walk_at "evD")
        have S9 := ‹St s [] L _ [(e, _), (I, _), (D, _)] _›
        exact fin 63 _ _ [_, _] (by rw [← hpk]; unfold dfl; rw [if_pos (by omega)]) S9
      · repeat' (walk_at "evD")
        have S9 := ‹St s [] L _ [(e, _), (I, _), (D, _)] _›
        exact fin 45 _ _ [_, _] (by rw [← hpk]; unfold dfl; rw [if_neg (by omega)]) S9
    · obtain ⟨Pa, t1, t2, b, c, hit, hrj, hPa⟩ := hP.at (j := j) (by omega)
      refine nx_tit S7 LedUp.here (S7.tup hRa (by simp)) hit ?_
      intro s8 S8
      refine ldg_tit S8 (.head _) ?_
      refine asg_tup2 S8 hA₁.h (S8.tup hPa (by simp)) (by walk_at "sets") (by walk_at "sets") ?_ rfl rfl rfl rfl
      intro s9 S9
      clear S7 S8
      have hdrop : row.drop j = (b, c) :: row.drop (j + 1) := by
        obtain ⟨hlt, he⟩ := List.getElem?_eq_some_iff.mp hrj
        rw [List.drop_eq_getElem_cons hlt, he]
      rw [hdrop] at hpk
      repeat' (walk_at "evD")
      refine split_dec (fun h0 => ?_) (fun h0 => ?_)
      · repeat' (walk_at "evD")
        have S9' := ‹St s [] L _ [(J, _), (e, _), (I, _), (D, _)] _›
        refine c_S_IFMT (G.at_ (by assumption)) hA₁ ?_
        intro s10 t10 O10
        have S10 := St.out (by assumption) O10
        clear O10
        repeat' (walk_at "evD")
        have hab : (Builtin.bitAnd (mode : Int) 61440 == (b : Int)) = (mode &&& 61440 == b) := and_beq mode 61440 b
        rw [hab]
        have htst : tst mode i b = (mode &&& 61440 == b) := by unfold tst; rw [if_pos (by omega)]
        cases ht : (mode &&& 61440 == b)
        · refine iff' ?_
          repeat' (walk_at "evD")
          have S11 := ‹St s [] L _ [(J, _), (e, _), (I, _), (D, _)] _›
          refine ⟨m', by omega, j + 1, S11.pre (r := [_, _]), by omega, ?_⟩
          rw [← hpk, pick, htst, ht]; rfl
        · refine ift ?_
          repeat' (walk_at "evD")
          have S11 := ‹St s [] L _ [(J, _), (e, _), (I, _), (D, _)] _›
          refine fin c _ _ [_, _, _, _] ?_ S11.drop
          rw [← hpk, pick, htst, ht]; rfl
      · repeat' (walk_at "evD")
        rw [and_beq mode b b]
        have htst : tst mode i b = (mode &&& b == b) := by unfold tst; rw [if_neg (by omega)]
        cases ht : (mode &&& b == b)
        · refine iff' ?_
          repeat' (walk_at "evD")
          have S11 := ‹St s [] L _ [(J, _), (e, _), (I, _), (D, _)] _›
          refine ⟨m', by omega, j + 1, S11.pre (r := [_, _]), by omega, ?_⟩
          rw [← hpk, pick, htst, ht]; rfl
        · refine ift ?_
          repeat' (walk_at "evD")
          have S11 := ‹St s [] L _ [(J, _), (e, _), (I, _), (D, _)] _›
          refine fin c _ _ [_, _, _, _] ?_ S11.drop
          rw [← hpk, pick, htst, ht]; rfl
end
end
section
section
variable {prog : Program} {w : World} {A : Around} {E : Value → Shared → Prop} {s : Shared} {mg mb : Str → Option Value}
noncomputable abbrev invP91 := fun (s : Shared) (L : Addr) (mode : Nat) (tm : Tok) (I : Addr) => (fun m s' => Ex3 fun p tt led => St s [] L [(Str.ofString "mode", .int (mode : Int) tm), (Str.ofString "text", .str (S (textTo mode p)) tt)] ((I, .ob (ritO (p : Int) (m : Int) 1)) :: led) s' ∧ p + m = 3 : Nat → Shared → Prop)
theorem c_law_word {mode : Nat} {tm : Tok} {Q : Value → Shared → Prop} {n : Nat} (G : GW w mg mb s []) (hA : Ok A (n + 2)) (hmode : mode < 65536)
    (h : ∀ D vs s', Out s [] [(D, .lst vs)] s' → s.heap.get? D = none → Chs vs (word mode) → Q (.ref D) s') :
    wpAny (model prog w) A (call (.ref 199) [.int (mode : Int) tm]) Q E s := by
  refine fn_call (binds := [(Str.ofString "mode", .int (mode : Int) tm)]) (G _ fun _ _ e _ => e) hA rfl (by kernel_rfl!) (BindsTo.of_eq rfl) (by rfl) ?_ (by simp only [List.map]; decide) (by decide)
  intro s₁ L S₁ _ hA₁
  repeat' (walk_at "evJ")
  rw [kind_eq]
  refine item_SN (by assumption) (getD_some (by simp [kindL]; walk_at "lia")) (by simp [kindL]) ?_
  intro t2 s2 S2
  repeat' (walk_at "evJ")
  refine c_range1 (by assumption) ?_
  intro r t0 t1 s3 S3
  refine it_range S3 (.head _) (by decide) ?_
  intro I s4 S4
  refine for_loop (fun _ => rfl) (invP91 s L mode tm I) 3 ⟨0, t2, _, S4, rfl⟩ ?_
  clear S4 S3 S2
  rintro m s' E' ⟨p, tt, led, S', hm⟩
  refine PostFor.intro fun Qb hQb => ?_
  rcases m with _ | m
  · refine nx_rit_end S' hA₁.h (by walk_at "mem") LedRm.here (by walk_at "lia") ?_
    intro s5 S5
    obtain rfl : p = 3 := by walk_at "lia"
    clear S'
    repeat' (walk_at "evJ")
    refine e_comp (fun _ => rfl) rfl (by decide) rfl (by decide) ?_
    repeat' (walk_at "evJ")
    refine it_str (by assumption) (by simpa using text_lt mode 3) ?_
    intro J s6 S6
    refine ⟨s, [], L, _, [(J, sitK (S (textTo mode 3)) tt 0)], led, fun m ys lw lc s' => ∃ i, lw = [(J, sitK (S (textTo mode 3)) tt i)] ∧ i + m = 10 ∧ Chs ys (((lawText mode).take i).filter fun c => !(decide (c ∈ [45, 63]))),
      fun ys lw s' => lw = [] ∧ Chs ys (word mode), 10, S6, by simp, fun _ _ => ⟨0, rfl, rfl, .nil⟩, ?_, ?_, ?_, ?_⟩
    · intro C D s' Q₁ E'' SC hq
      exact it_sit SC (by walk_at "mem") hq
    · rintro C D m s' E'' lc ys lw SC ⟨i, rfl, hi, hc⟩
      rcases m with _ | m
      · refine nx_sit_end SC hA₁.h (by walk_at "mem") (.there .here) (by simp [textTo_len]; walk_at "lia") ?_
        intro s7 S7
        rw [List.take_of_length_le (by unfold lawText; rw [textTo_len]; walk_at "lia")] at hc
        exact ⟨lc, ys, [], S7, rfl, hc⟩
      · obtain ⟨c, hci⟩ : ∃ c, (lawText mode)[i]? = some c := ⟨_, List.getElem?_eq_getElem (by unfold lawText; rw [textTo_len]; walk_at "lia")⟩
        refine nx_sit SC (.there .here) (c := c) (by simpa [lawText] using hci) ?_
        intro tc s7 S7
        have S7 := S7.noloc
        clear SC
        refine go_name ?_
        repeat' (walk_at "evJ")
        refine tests1 ?_
        repeat' (walk_at "evJ")
        rw [show (Str.ofString "-?").1.toList = [45, 63] from by kernel_rfl]
        have hyl : ys.length ≤ 10 := by
          rw [hc.length]
          exact Nat.le_trans (List.length_filter_le _ _) (by rw [List.length_take]; walk_at "lia")
        have htake : ((lawText mode).take (i + 1)).filter (fun c => !(decide (c ∈ [45, 63]))) = ((lawText mode).take i).filter (fun c => !(decide (c ∈ [45, 63]))) ++ [c].filter (fun c => !(decide (c ∈ [45, 63]))) := by
          rw [List.take_add_one, hci, List.filter_append]; rfl
        have hfc : [c].filter (fun c => !(decide (c ∈ [45, 63]))) = if (!decide (c ∈ [45, 63])) = true then [c] else [] := by rw [List.filter_cons]; rfl
        cases hb : (!decide (c ∈ [45, 63]))
        · refine iff' ?_
          exact ⟨m, _, ys, _, by walk_at "lia", by assumption, i + 1, rfl, by walk_at "lia", by rw [htake, hfc, hb]; simpa using hc⟩
        · refine ift ?_
          repeat' (walk_at "evJ")
          have S9 := ‹St _ _ C _ [(D, .lst (ys ++ _)), (J, _)] _›
          exact ⟨m, _, _, _, by walk_at "lia", S9, i + 1, rfl, by walk_at "lia", by rw [htake, hfc, hb]; exact hc.snoc⟩
    · rintro ys lw s' s'' hF _
      exact hF
    · rintro D ys lw s' ⟨rfl, hc⟩ SD
      repeat' (walk_at "evJ")
      refine h D ys s' (SD.toOut.sub fun p hp => ?_) ?_ hc
      · rw [List.mem_singleton.mp hp]; exact .head _
      · rcases SD.fr _ (.head _) with h | h
        · cases h
        · exact h
  · refine nx_rit S' LedUp.here (by walk_at "lia") ?_
    intro tp s5 S5
    clear S'
    repeat' (walk_at "evJ")
    refine op_powS (by assumption) (by walk_at "lia") (by walk_at "lia") (by decide) ?_
    intro t6 s6 S6
    have hpow : ∀ b : Nat, b ≤ 8 → 0 < b → ∀ k, k ≤ 11 → 0 < b ^ k ∧ b ^ k < 2 ^ 64 := fun b hb h0 k hk => ⟨Nat.pow_pos h0, Nat.lt_of_le_of_lt (Nat.le_trans (Nat.pow_le_pow_left hb k) (Nat.pow_le_pow_right (by decide) hk)) (by decide)⟩
    refine op_fdivN S6 (hpow 8 (by decide) (by decide) _ (by walk_at "lia")).1 (hpow 8 (by decide) (by decide) _ (by walk_at "lia")).2 ?_
    intro t7 s7 S7
    repeat' (walk_at "evJ")
    refine op_powS (by assumption) (by walk_at "lia") (by walk_at "lia") (by decide) ?_
    intro t8 s8 S8
    refine op_fdivN S8 (hpow 2 (by decide) (by decide) _ (by walk_at "lia")).1 (hpow 2 (by decide) (by decide) _ (by walk_at "lia")).2 ?_
    intro t9 s9 S9
    repeat' (walk_at "evJ")
    have hd8 : mode / 8 ^ (2 - p) % 8 < 8 := Nat.mod_lt _ (by decide)
    have he2 : mode / 2 ^ (11 - p) % 2 < 2 := Nat.mod_lt _ (by decide)
    refine ldn_loc (by assumption) rfl ?_ rfl rfl
    repeat' (walk_at "evJ")
    rw [r_eq]
    refine item_SN (by assumption) (getD_some (by simp; walk_at "lia")) (by simp) ?_
    intro t10 s10 S10
    repeat' (walk_at "evJ")
    rw [w_eq]
    refine item_SN (by assumption) (getD_some (by simp; walk_at "lia")) (by simp) ?_
    intro t11 s11 S11
    repeat' (walk_at "evJ")
    refine op_sadd (by assumption) (by simp) ?_
    intro t12 s12 S12
    refine op_isadd (by assumption) (by simp [textTo_len]; walk_at "lia") ?_
    intro t13 s13 S13
    repeat' (walk_at "evJ")
    refine ldn_loc (by assumption) rfl ?_ rfl rfl
    repeat' (walk_at "evJ")
    refine e_tuple ?_
    repeat' (walk_at "evJ")
    refine ⟨_, _, _, _, _, by assumption, by simp, fun T s14 S14 => ?_⟩
    repeat' (walk_at "evJ")
    have hTT := S14.tupO (.head _)
    refine item_x hTT (by walk_at "lia") ?_
    intro tx
    repeat' (walk_at "evJ")
    have hxl : (xL p).length = 4 := by unfold xL; split <;> rfl
    refine item_SN (by assumption) (getD_some (by rw [hxl]; walk_at "lia")) (by rw [hxl]; decide) ?_
    intro t15 s15 S15
    refine op_isadd (by assumption) (by simp [textTo_len]; walk_at "lia") ?_
    intro t16 s16 S16
    repeat' (walk_at "evJ")
    have S17 := ‹St s [] L _ ((T, _) :: (I, _) :: led) _›
    refine ⟨m, by walk_at "lia", p + 1, t16, led, ?_, by walk_at "lia"⟩
    have e : textTo mode (p + 1) = textTo mode p ++ ([[45, 114].getD (mode / 8 ^ (2 - p) % 8 / 4) 0] ++ [[45, 119].getD (mode / 8 ^ (2 - p) % 8 / 2 % 2) 0]) ++ [(xL p).getD (mode / 8 ^ (2 - p) % 8 % 2 + 2 * (mode / 2 ^ (11 - p) % 2)) 0] := by
      simp [textTo, tri, dig, ext]
    rw [e, show ((p + 1 : Nat) : Int) = (p : Int) + 1 by walk_at "lia"]
    have S18 := (S17.drop).pre (l := [(Str.ofString "mode", _), (Str.ofString "text", _)]) (r := [_, _, _])
    rw [show (((m + 1 : Nat) : Int)) - 1 = (m : Int) by walk_at "lia"] at S18
    exact S18
end
end
section
open PySem PySem.W PyProof.Rows PySem.Calls
section
variable {α : Type} {r : α → α → Bool}
structure Ord (r : α → α → Bool) : Prop where
  asy : ∀ a b, r a b = true → r b a = false
  tr : ∀ a b c, r a b = true → r b c = true → r a c = true
  ntr : ∀ a b c, r a b = false → r b c = false → r a c = false
/-- the pairs of a child and its parent, the parent at pos or behind, that are in order; hole and its neighbours left out -/
noncomputable def HpB (r : α → α → Bool) (l : List α) (pos h : Nat) : Prop := ∀ j a b, 0 < j → pos ≤ (j - 1) / 2 → l[j]? = some a → l[(j - 1) / 2]? = some b → j ≠ h → (j - 1) / 2 ≠ h → r a b = false
noncomputable def HpF (r : α → α → Bool) (l : List α) (pos : Nat) : Prop := ∀ j a b, 0 < j → pos ≤ (j - 1) / 2 → l[j]? = some a → l[(j - 1) / 2]? = some b → r a b = false
/-- what hangs on the hole is in order with what stands over it -/
noncomputable def HpG (r : α → α → Bool) (l : List α) (pos h : Nat) : Prop := pos < h → ∀ j a b, 0 < j → (j - 1) / 2 = h → l[j]? = some a → l[(h - 1) / 2]? = some b → r a b = false
inductive Dsc (pos : Nat) : Nat → Prop
  | here : Dsc pos pos
  | down {h : Nat} : pos < h → Dsc pos ((h - 1) / 2) → Dsc pos h
theorem Dsc.le {pos h : Nat} (d : Dsc pos h) : pos ≤ h := by
  cases d with
  | here => exact Nat.le_refl _
  | down h1 _ => walk_at "lia"
theorem Dsc.up {pos h : Nat} (d : Dsc pos h) (hlt : pos < h) : Dsc pos ((h - 1) / 2) := by
  cases d with
  | here => walk_at "lia"
  | down _ h2 => exact h2
theorem perm_move {l : List α} {h j : Nat} {b x : α} (hj : l[j]? = some b) (hne : h ≠ j) (hh : h < l.length) : ((l.set h b).set j x).Perm (l.set h x) := by
  obtain ⟨hjl, hjb⟩ := List.getElem?_eq_some_iff.mp hj
  have := List.set_set_perm (as := l.set h x) (i := h) (j := j) (by simpa using hh) (by simpa using hjl)
  rw [List.getElem_set_ne hne, List.getElem_set_self, List.set_set, hjb] at this
  exact this
theorem sdn_ok (O : Ord r) {x : α} {pos : Nat} : ∀ (h : Nat) (l : List α), Dsc pos h → h < l.length → HpB r l pos h → HpG r l pos h → (∀ j a, 0 < j → (j - 1) / 2 = h → l[j]? = some a → r a x = false) →
    HpF r (sdn (fun p x => r x p) x pos l h) pos ∧ (sdn (fun p x => r x p) x pos l h).Perm (l.set h x) := by
  intro h
  induction h using Nat.strongRecOn with
  | ind h ih =>
    intro l hd hh hB hG hC
    have fin : (∀ b, pos < h → l[(h - 1) / 2]? = some b → r x b = false) → HpF r (l.set h x) pos := by
      intro hp j a b hj hpj ha hb
      rw [List.getElem?_set] at ha hb
      by_cases e1 : h = j
      · subst e1
        have e2 : h ≠ (h - 1) / 2 := by walk_at "lia"
        simp only [e2, if_false] at hb
        simp only [if_true, hh, Option.some.injEq] at ha
        subst ha
        exact hp b (by walk_at "lia") hb
      · simp only [e1, if_false] at ha
        by_cases e2 : h = (j - 1) / 2
        · simp only [e2.symm, if_true, hh, Option.some.injEq] at hb
          subst hb
          exact hC j a hj e2.symm ha
        · simp only [e2, if_false] at hb
          exact hB j a b hj hpj ha hb (Ne.symm e1) (Ne.symm e2)
    by_cases hlt : pos < h
    · obtain ⟨p, hp⟩ : ∃ p, l[(h - 1) / 2]? = some p := ⟨l[(h - 1) / 2]'(by walk_at "lia"), List.getElem?_eq_getElem _⟩
      cases hc : r x p with
      | true =>
        rw [sdn_move (c := fun p x => r x p) hlt hp hc]
        have hne : h ≠ (h - 1) / 2 := by walk_at "lia"
        refine (fun (i : HpF r (sdn (fun p x => r x p) x pos (l.set h p) ((h - 1) / 2)) pos ∧ (sdn (fun p x => r x p) x pos (l.set h p) ((h - 1) / 2)).Perm ((l.set h p).set ((h - 1) / 2) x)) => ⟨i.1, i.2.trans (perm_move hp hne hh)⟩)
          (ih ((h - 1) / 2) (by walk_at "lia") (l.set h p) (hd.up hlt) (by rw [List.length_set]; walk_at "lia") ?_ ?_ ?_)
        · intro j a b hj hpj ha hb n1 n2
          rw [List.getElem?_set] at ha hb
          by_cases e1 : h = j
          · subst e1; exact (n2 rfl).elim
          · simp only [e1, if_false] at ha
            by_cases e2 : h = (j - 1) / 2
            · simp only [e2.symm, if_true, hh, Option.some.injEq] at hb
              subst hb
              exact hG hlt j a p hj e2.symm ha hp
            · simp only [e2, if_false] at hb
              exact hB j a b hj hpj ha hb (Ne.symm e1) (Ne.symm e2)
        · intro hlt2 j a b hj hpj ha hb
          have hdu := hd.up hlt
          rw [List.getElem?_set] at ha hb
          have e3 : h ≠ ((h - 1) / 2 - 1) / 2 := by walk_at "lia"
          simp only [e3, if_false] at hb
          have hpb : r p b = false := hB ((h - 1) / 2) p b (by walk_at "lia") (by have := (hdu.up hlt2).le; walk_at "lia") hp hb (by walk_at "lia") (by walk_at "lia")
          by_cases e1 : h = j
          · subst e1
            simp only [if_true, hh, Option.some.injEq] at ha
            subst ha
            exact hpb
          · simp only [e1, if_false] at ha
            have hap : r a p = false := hB j a p hj (by have := hdu.le; walk_at "lia") ha (by rw [hpj]; exact hp) (Ne.symm e1) (by walk_at "lia")
            exact O.ntr a p b hap hpb
        · intro j a hj hpj ha
          rw [List.getElem?_set] at ha
          by_cases e1 : h = j
          · subst e1
            simp only [if_true, hh, Option.some.injEq] at ha
            subst ha
            exact O.asy x p hc
          · simp only [e1, if_false] at ha
            have hap : r a p = false := hB j a p hj (by have := (hd.up hlt).le; walk_at "lia") ha (by rw [hpj]; exact hp) (Ne.symm e1) (by walk_at "lia")
            cases q : r a x with
            | false => rfl
            | true => rw [O.tr a x p q hc] at hap; cases hap
      | false =>
        rw [sdn_stop (c := fun p x => r x p) hlt hp hc]
        exact ⟨fin fun b _ hb => by rw [hp] at hb; cases hb; exact hc, List.Perm.refl _⟩
    · rw [sdn_end hlt]
      exact ⟨fin fun b h1 _ => absurd h1 hlt, List.Perm.refl _⟩
theorem sup_ok (O : Ord r) {x : α} {pos : Nat} : ∀ (n h : Nat) (l : List α), l.length - h ≤ n → Dsc pos h → h < l.length → HpB r l pos h → HpG r l pos h →
    Dsc pos (sup (fun a b => !(r a b)) l h).2 ∧ (sup (fun a b => !(r a b)) l h).2 < l.length ∧ (sup (fun a b => !(r a b)) l h).1.length = l.length ∧ l.length ≤ 2 * (sup (fun a b => !(r a b)) l h).2 + 1 ∧
    HpB r (sup (fun a b => !(r a b)) l h).1 pos (sup (fun a b => !(r a b)) l h).2 ∧ HpG r (sup (fun a b => !(r a b)) l h).1 pos (sup (fun a b => !(r a b)) l h).2 ∧
    ((sup (fun a b => !(r a b)) l h).1.set (sup (fun a b => !(r a b)) l h).2 x).Perm (l.set h x) := by
  intro n
  induction n with
  | zero => intro h l hn hd hh; walk_at "lia"
  | succ n ih =>
    intro h l hn hd hh hB hG
    by_cases hlt : 2 * h + 1 < l.length
    · obtain ⟨a, ha⟩ : ∃ a, l[2 * h + 1]? = some a := ⟨l[2 * h + 1], List.getElem?_eq_getElem _⟩
      have step : ∀ (j : Nat) (q : α), (j = 2 * h + 1 ∨ j = 2 * h + 2) → l[j]? = some q → (∀ i o, i ≠ j → 0 < i → (i - 1) / 2 = h → l[i]? = some o → r o q = false) →
          sup (fun a b => !(r a b)) l h = sup (fun a b => !(r a b)) (l.set h q) j →
          Dsc pos (sup (fun a b => !(r a b)) l h).2 ∧ (sup (fun a b => !(r a b)) l h).2 < l.length ∧ (sup (fun a b => !(r a b)) l h).1.length = l.length ∧ l.length ≤ 2 * (sup (fun a b => !(r a b)) l h).2 + 1 ∧
          HpB r (sup (fun a b => !(r a b)) l h).1 pos (sup (fun a b => !(r a b)) l h).2 ∧ HpG r (sup (fun a b => !(r a b)) l h).1 pos (sup (fun a b => !(r a b)) l h).2 ∧
          ((sup (fun a b => !(r a b)) l h).1.set (sup (fun a b => !(r a b)) l h).2 x).Perm (l.set h x) := by
        intro j q hj hq hsib he
        have hjl : j < l.length := (List.getElem?_eq_some_iff.mp hq).1
        have hpj : (j - 1) / 2 = h := by walk_at "lia"
        have hne : h ≠ j := by walk_at "lia"
        have hdl := hd.le
        have r1 := ih j (l.set h q) (by rw [List.length_set]; walk_at "lia") (.down (by walk_at "lia") (hpj ▸ hd)) (by rw [List.length_set]; exact hjl) ?_ ?_
        · rw [he]
          rw [List.length_set] at r1
          obtain ⟨a1, a2, a3, a4, a5, a6, a7⟩ := r1
          exact ⟨a1, a2, a3, a4, a5, a6, a7.trans (perm_move hq hne hh)⟩
        · intro i y b hi hpi hy hb n1 n2
          rw [List.getElem?_set] at hy hb
          by_cases e1 : h = i
          · subst e1
            have e2 : h ≠ (h - 1) / 2 := by walk_at "lia"
            simp only [e2, if_false] at hb
            simp only [if_true, hh, Option.some.injEq] at hy
            subst hy
            exact hG (by walk_at "lia") j q b (by walk_at "lia") hpj hq hb
          · simp only [e1, if_false] at hy
            by_cases e2 : h = (i - 1) / 2
            · simp only [e2.symm, if_true, hh, Option.some.injEq] at hb
              subst hb
              exact hsib i y n1 hi e2.symm hy
            · simp only [e2, if_false] at hb
              exact hB i y b hi hpi hy hb (Ne.symm e1) (Ne.symm e2)
        · intro _ i y b hi hpi hy hb
          rw [List.getElem?_set] at hy hb
          have e1 : h ≠ i := by walk_at "lia"
          simp only [e1, if_false] at hy
          simp only [hpj, if_true, hh, Option.some.injEq] at hb
          subst hb
          exact hB i y q hi (by walk_at "lia") hy (by rw [hpi]; exact hq) (Ne.symm e1) (by walk_at "lia")
      by_cases hr : 2 * h + 1 + 1 < l.length
      · obtain ⟨b, hb⟩ : ∃ b, l[2 * h + 1 + 1]? = some b := ⟨l[2 * h + 1 + 1], List.getElem?_eq_getElem _⟩
        cases hab : r a b with
        | false =>
          refine step (2 * h + 1 + 1) b (.inr rfl) hb (fun i o hi h0 hp ho => ?_) (sup_r ha hb (by simp [hab]))
          obtain rfl : i = 2 * h + 1 := by walk_at "lia"
          rw [ha] at ho; cases ho; exact hab
        | true =>
          refine step (2 * h + 1) a (.inl rfl) ha (fun i o hi h0 hp ho => ?_) (sup_l ha hb (by simp [hab]))
          obtain rfl : i = 2 * h + 1 + 1 := by walk_at "lia"
          rw [hb] at ho; cases ho; exact O.asy _ _ hab
      · refine step (2 * h + 1) a (.inl rfl) ha (fun i o hi h0 hp ho => ?_) (sup_o ha hr)
        have := (List.getElem?_eq_some_iff.mp ho).1
        walk_at "lia"
    · rw [sup_end hlt]
      exact ⟨hd, hh, rfl, by show l.length ≤ 2 * h + 1; walk_at "lia", hB, hG, List.Perm.refl _⟩
theorem siftup_ok (O : Ord r) {x : α} {pos : Nat} {l : List α} (hx : l[pos]? = some x) (h : HpF r l (pos + 1)) :
    HpF r (siftup (fun p x => r x p) (fun a b => !(r a b)) x l pos) pos ∧ (siftup (fun p x => r x p) (fun a b => !(r a b)) x l pos).Perm l := by
  have hlt : pos < l.length := (List.getElem?_eq_some_iff.mp hx).1
  have hxe : l[pos] = x := (List.getElem?_eq_some_iff.mp hx).2
  obtain ⟨a1, a2, a3, a4, a5, a6, a7⟩ := sup_ok O (x := x) (pos := pos) l.length pos l (by walk_at "lia") .here hlt (fun j a b hj hp ha hb n1 n2 => h j a b hj (by walk_at "lia") ha hb) (fun h1 => absurd h1 (Nat.lt_irrefl _))
  generalize hs : sup (fun a b => !(r a b)) l pos = sp at a1 a2 a3 a4 a5 a6 a7
  obtain ⟨l', h'⟩ := sp
  dsimp only at a1 a2 a3 a4 a5 a6 a7
  unfold siftup
  rw [hs]
  dsimp only
  have e : l.set pos x = l := by rw [← hxe]; exact List.set_getElem_self hlt
  have b1 := sdn_ok O (x := x) (pos := pos) h' (l'.set h' x) a1 (by rw [List.length_set, a3]; exact a2) ?_ ?_ ?_
  · rw [List.set_set] at b1
    rw [e] at a7
    exact ⟨b1.1, b1.2.trans a7⟩
  · intro j a b hj hp ha hb n1 n2
    rw [List.getElem?_set_ne (Ne.symm n1)] at ha
    rw [List.getElem?_set_ne (Ne.symm n2)] at hb
    exact a5 j a b hj hp ha hb n1 n2
  · intro _ j a b hj hp ha hb
    have := (List.getElem?_eq_some_iff.mp ha).1
    rw [List.length_set] at this
    walk_at "lia"
  · intro j a hj hp ha
    have := (List.getElem?_eq_some_iff.mp ha).1
    rw [List.length_set] at this
    walk_at "lia"
theorem hpf_ok (O : Ord r) : ∀ (n : Nat) (l : List α), n ≤ l.length → HpF r l n → HpF r (hpf (fun p x => r x p) (fun a b => !(r a b)) n l) 0 ∧ (hpf (fun p x => r x p) (fun a b => !(r a b)) n l).Perm l := by
  intro n
  induction n with
  | zero => intro l _ h; exact ⟨h, List.Perm.refl _⟩
  | succ n ih =>
    intro l hn h
    have hlt : n < l.length := by walk_at "lia"
    have hx : l[n]? = some l[n] := List.getElem?_eq_getElem hlt
    unfold hpf
    rw [hx]
    dsimp only
    obtain ⟨h1, h2⟩ := siftup_ok O hx h
    obtain ⟨h3, h4⟩ := ih _ (by rw [h2.length_eq]; walk_at "lia") h1
    exact ⟨h3, h4.trans h2⟩
theorem half_ok (l : List α) : HpF r l (l.length / 2) := by
  intro j a b hj hp ha hb
  have := (List.getElem?_eq_some_iff.mp ha).1
  walk_at "lia"
/-- heapify: a heap of the same items -/
theorem heapify_ok (O : Ord r) (l : List α) : HpF r (hpf (fun p x => r x p) (fun a b => !(r a b)) (l.length / 2) l) 0 ∧ (hpf (fun p x => r x p) (fun a b => !(r a b)) (l.length / 2) l).Perm l :=
  hpf_ok O _ l (by walk_at "lia") (half_ok l)
/-- the root of a heap stands over all -/
theorem root_ok (O : Ord r) {l : List α} (h : HpF r l 0) {x : α} (hx : l[0]? = some x) (irr : r x x = false) : ∀ (j : Nat) (a : α), l[j]? = some a → r a x = false := by
  intro j
  induction j using Nat.strongRecOn with
  | ind j ih =>
    intro a ha
    by_cases hj : j = 0
    · subst hj; rw [hx] at ha; cases ha; exact irr
    · have hlt := (List.getElem?_eq_some_iff.mp ha).1
      obtain ⟨b, hb⟩ : ∃ b, l[(j - 1) / 2]? = some b := ⟨l[(j - 1) / 2]'(by walk_at "lia"), List.getElem?_eq_getElem _⟩
      exact O.ntr a b x (h j a b (by walk_at "lia") (by walk_at "lia") ha hb) (ih _ (by walk_at "lia") b hb)
/-- the root replaced -/
theorem replace_ok (O : Ord r) {l : List α} (h : HpF r l 0) {y : α} (h0 : 0 < l.length) :
    HpF r (siftup (fun p x => r x p) (fun a b => !(r a b)) y (l.set 0 y) 0) 0 ∧ (siftup (fun p x => r x p) (fun a b => !(r a b)) y (l.set 0 y) 0).Perm (l.set 0 y) := by
  refine siftup_ok O (by simp [h0]) fun j a b hj hp ha hb => ?_
  rw [List.getElem?_set_ne (by walk_at "lia")] at ha
  rw [List.getElem?_set_ne (by walk_at "lia")] at hb
  exact h j a b hj (by walk_at "lia") ha hb
end
end
section
open PySem PySem.W PyProof.Rows PySem.Calls
/-- first by f, of those that are alike the earlier -/
noncomputable def Lx (f : Nat → Int) (i j : Nat) : Prop := f i < f j ∨ (f i = f j ∧ i < j)
theorem Lx.tr {f : Nat → Int} {i j k : Nat} (a : Lx f i j) (b : Lx f j k) : Lx f i k := by
  unfold Lx at *; walk_at "lia"
theorem Lx.irr {f : Nat → Int} {i : Nat} : ¬ Lx f i i := by unfold Lx; walk_at "lia"
theorem Lx.tri {f : Nat → Int} {i j : Nat} (h : i ≠ j) : Lx f i j ∨ Lx f j i := by unfold Lx; walk_at "lia"
theorem nodup_len : ∀ {a b : List Nat}, a.Nodup → (∀ x ∈ a, x ∈ b) → a.length ≤ b.length
  | [], _, _, _ => Nat.zero_le _
  | x :: a, b, h, hs => by
    rw [List.nodup_cons] at h
    have hx : x ∈ b := hs x (.head _)
    have := nodup_len (a := a) (b := b.erase x) h.2 fun y hy => by
      have hne : y ≠ x := fun e => h.1 (e ▸ hy)
      exact (List.mem_erase_of_ne hne).mpr (hs y (.tail _ hy))
    rw [List.length_erase_of_mem hx] at this
    have hb : 0 < b.length := List.length_pos_of_mem hx
    rw [List.length_cons]
    walk_at "lia"
structure Sel (f : Nat → Int) (N n : Nat) (out : List Nat) : Prop where
  sorted : out.Pairwise (Lx f)
  mem : ∀ i ∈ out, i < N
  len : out.length = min n N
  least : ∀ i ∈ out, ∀ j < N, j ∉ out → Lx f i j
theorem Sel.nodup {f : Nat → Int} {N n : Nat} {out : List Nat} (h : Sel f N n out) : out.Nodup := by
  refine List.Pairwise.imp ?_ h.sorted
  intro a b hab e
  subst e
  exact Lx.irr hab
theorem sorted_uniq {f : Nat → Int} : ∀ {a b : List Nat}, a.Pairwise (Lx f) → b.Pairwise (Lx f) → (∀ x, x ∈ a ↔ x ∈ b) → a = b
  | [], [], _, _, _ => rfl
  | [], y :: b, _, _, h => absurd ((h y).mpr (.head _)) (by simp)
  | x :: a, [], _, _, h => absurd ((h x).mp (.head _)) (by simp)
  | x :: a, y :: b, ha, hb, h => by
    rw [List.pairwise_cons] at ha hb
    have hxy : x = y := by
      rcases List.mem_cons.mp ((h x).mp (.head _)) with e | hx
      · exact e
      · rcases List.mem_cons.mp ((h y).mpr (.head _)) with e | hy
        · exact e.symm
        · exact absurd ((ha.1 y hy).tr (hb.1 x hx)) Lx.irr
    subst hxy
    have := sorted_uniq ha.2 hb.2 fun z => by
      constructor
      · intro hz
        rcases List.mem_cons.mp ((h z).mp (.tail _ hz)) with e | hz'
        · subst e; exact absurd (ha.1 z hz) Lx.irr
        · exact hz'
      · intro hz
        rcases List.mem_cons.mp ((h z).mpr (.tail _ hz)) with e | hz'
        · subst e; exact absurd (hb.1 z hz) Lx.irr
        · exact hz'
    rw [this]
theorem Sel.uniq {f : Nat → Int} {N n : Nat} {a b : List Nat} (ha : Sel f N n a) (hb : Sel f N n b) : a = b := by
  refine sorted_uniq ha.sorted hb.sorted ?_
  have key : ∀ {a b : List Nat}, Sel f N n a → Sel f N n b → ∀ x ∈ a, x ∈ b := by
    intro a b ha hb x hx
    refine Classical.byContradiction fun hxb => ?_
    have hsub : ∀ y ∈ b, y ∈ a := fun y hy => Classical.byContradiction fun hya => Lx.irr ((ha.least x hx y (hb.mem y hy) hya).tr (hb.least y hy x (ha.mem x hx) hxb))
    have h1 : (x :: b).Nodup := List.nodup_cons.mpr ⟨hxb, hb.nodup⟩
    have h2 : (x :: b).length ≤ a.length := nodup_len h1 fun y hy => by
      rcases List.mem_cons.mp hy with rfl | hy
      · exact hx
      · exact hsub y hy
    rw [List.length_cons, hb.len, ha.len] at h2
    walk_at "lia"
  exact fun x => ⟨key ha hb x, key hb ha x⟩
/-- of the whole in order the first n are picked -/
theorem Sel.of_sorted {f : Nat → Int} {N n : Nat} {all : List Nat} (hs : all.Pairwise (Lx f)) (hp : all.Perm (List.range N)) : Sel f N n (all.take n) := by
  have hl : all.length = N := by rw [hp.length_eq, List.length_range]
  refine ⟨hs.sublist (List.take_sublist _ _), fun i hi => List.mem_range.mp (hp.mem_iff.mp (List.mem_of_mem_take hi)), by rw [List.length_take, hl], fun i hi j hj hji => ?_⟩
  have hja : j ∈ all := hp.mem_iff.mpr (List.mem_range.mpr hj)
  rw [← List.take_append_drop n all] at hs hja
  rcases List.mem_append.mp hja with h | h
  · exact absurd h hji
  · exact (List.pairwise_append.mp hs).2.2 i hi j h
end
section
open PySem PySem.W PyProof.Rows PySem.Calls
noncomputable def run {α : Type} (c : Nat → Nat → Bool) : KasT α → α
  | .ret a => a
  | .ask i j k => run c (k (c i j))
theorem run_bind {α β : Type} (c : Nat → Nat → Bool) (g : α → KasT β) : ∀ t : KasT α, run c (t.bind g) = run c (g (run c t))
  | .ret _ => rfl
  | .ask i j k => run_bind c g (k (c i j))
variable {f : Nat → Int}
noncomputable abbrev cf (f : Nat → Int) : Nat → Nat → Bool := fun i j => decide (f i < f j)
theorem asc_run (p : Array Nat) : ∀ (fuel n : Nat), n ≤ run (cf f) (kas_asc p fuel n) ∧ run (cf f) (kas_asc p fuel n) ≤ n + fuel ∧
    (∀ k, n ≤ k → k < run (cf f) (kas_asc p fuel n) → ¬ f (p.getD k 0) < f (p.getD (k - 1) 0)) ∧
    (run (cf f) (kas_asc p fuel n) < n + fuel → f (p.getD (run (cf f) (kas_asc p fuel n)) 0) < f (p.getD (run (cf f) (kas_asc p fuel n) - 1) 0)) := by
  intro fuel
  induction fuel with
  | zero => intro n; exact ⟨Nat.le_refl _, Nat.le_refl _, fun k h1 h2 => absurd h2 (Nat.not_lt.mpr h1), fun h => absurd h (Nat.lt_irrefl _)⟩
  | succ fuel ih =>
    intro n
    show n ≤ run (cf f) (if cf f (p.getD n 0) (p.getD (n - 1) 0) = true then .ret n else kas_asc p fuel (n + 1)) ∧ _ 
    have e : run (cf f) (kas_asc p (fuel + 1) n) = run (cf f) (if cf f (p.getD n 0) (p.getD (n - 1) 0) = true then .ret n else kas_asc p fuel (n + 1)) := rfl
    rw [e]
    by_cases hc : f (p.getD n 0) < f (p.getD (n - 1) 0)
    · have hc' : cf f (p.getD n 0) (p.getD (n - 1) 0) = true := by simpa [cf] using hc
      rw [if_pos hc']
      exact ⟨Nat.le_refl _, by show n ≤ _; walk_at "lia", fun k h1 h2 => absurd h2 (Nat.not_lt.mpr h1), fun _ => hc⟩
    · have hc' : ¬ cf f (p.getD n 0) (p.getD (n - 1) 0) = true := by simpa [cf] using hc
      rw [if_neg hc']
      obtain ⟨h1, h2, h3, h4⟩ := ih (n + 1)
      refine ⟨by walk_at "lia", by walk_at "lia", fun k k1 k2 => ?_, fun h => h4 (by walk_at "lia")⟩
      by_cases hk : k = n
      · subst hk; exact hc
      · exact h3 k (by walk_at "lia") k2
/-- where the item at k belongs among the k before it -/
theorem place_run (p : Array Nat) (k : Nat) (hs : ∀ i j, i < j → j < k → f (p.getD i 0) ≤ f (p.getD j 0)) : ∀ (fuel l r : Nat), l ≤ r → r ≤ k → r - l ≤ fuel →
    (∀ i, i < l → f (p.getD i 0) ≤ f (p.getD k 0)) → (∀ i, r ≤ i → i < k → f (p.getD k 0) < f (p.getD i 0)) →
    run (cf f) (kas_place p k fuel l r) ≤ k ∧ (∀ i, i < run (cf f) (kas_place p k fuel l r) → f (p.getD i 0) ≤ f (p.getD k 0)) ∧ (∀ i, run (cf f) (kas_place p k fuel l r) ≤ i → i < k → f (p.getD k 0) < f (p.getD i 0)) := by
  intro fuel
  induction fuel with
  | zero =>
    intro l r hlr hrk hf hl hr
    obtain rfl : l = r := by walk_at "lia"
    exact ⟨hrk, hl, hr⟩
  | succ fuel ih =>
    intro l r hlr hrk hf hl hr
    by_cases hge : l ≥ r
    · have e : kas_place p k (fuel + 1) l r = .ret l := by show (if l ≥ r then KasT.ret l else _) = _; rw [if_pos hge]
      rw [e]
      obtain rfl : l = r := by walk_at "lia"
      exact ⟨hrk, hl, hr⟩
    · have e : run (cf f) (kas_place p k (fuel + 1) l r) = run (cf f) (if cf f (p.getD k 0) (p.getD ((l + r) / 2) 0) = true then kas_place p k fuel l ((l + r) / 2) else kas_place p k fuel ((l + r) / 2 + 1) r) := by
        show run (cf f) (if l ≥ r then KasT.ret l else _) = _
        rw [if_neg hge]; rfl
      rw [e]
      by_cases hc : f (p.getD k 0) < f (p.getD ((l + r) / 2) 0)
      · have hc' : cf f (p.getD k 0) (p.getD ((l + r) / 2) 0) = true := by simpa [cf] using hc
        rw [if_pos hc']
        refine ih l ((l + r) / 2) (by walk_at "lia") (by walk_at "lia") (by walk_at "lia") hl fun i h1 h2 => ?_
        by_cases hi : i = (l + r) / 2
        · subst hi; exact hc
        · have := hs ((l + r) / 2) i (by walk_at "lia") h2
          walk_at "lia"
      · have hc' : ¬ cf f (p.getD k 0) (p.getD ((l + r) / 2) 0) = true := by simpa [cf] using hc
        rw [if_neg hc']
        refine ih ((l + r) / 2 + 1) r (by walk_at "lia") hrk (by walk_at "lia") (fun i h1 => ?_) hr
        by_cases hi : i = (l + r) / 2
        · subst hi; walk_at "lia"
        · have := hs i ((l + r) / 2) (by walk_at "lia") (by walk_at "lia")
          walk_at "lia"
theorem getD_bubble {p : Array Nat} {src d : Nat} (hs : src < p.size) (hd : d ≤ src) (k : Nat) :
    (bubble p src d).getD k 0 = if k = src - d then p.getD src 0 else if src - d < k ∧ k ≤ src then p.getD (k - 1) 0 else p.getD k 0 := by
  simp only [Array.getD_eq_getD_getElem?, getElem?_bubble hs d hd k]
  split
  · rfl
  · split <;> rfl
theorem getD_rev {p : Array Nat} {i j : Nat} (hj : j ≤ p.size) (k : Nat) : (kas_rev p i j).getD k 0 = if i ≤ k ∧ k < j then p.getD (i + j - 1 - k) 0 else p.getD k 0 := by
  unfold kas_rev
  simp only [Array.getD_eq_getD_getElem?, getElem?_mirror_all hj k]
  split <;> rfl
/-- the first m in order, of the numbers below m; the others where they were -/
structure Pre (f : Nat → Int) (p : Array Nat) (m : Nat) : Prop where
  asc : ∀ i j, i < j → j < m → Lx f (p.getD i 0) (p.getD j 0)
  low : ∀ i, i < m → p.getD i 0 < m
  rest : ∀ i, m ≤ i → i < p.size → p.getD i 0 = i
theorem Lx.le {i j : Nat} (h : Lx f i j) : f i ≤ f j := by unfold Lx at h; walk_at "lia"
theorem bin_run : ∀ (fuel k : Nat) (p : Array Nat), k + fuel = p.size → Pre f p k → (run (cf f) (kas_bin fuel p k)).Perm p ∧ Pre f (run (cf f) (kas_bin fuel p k)) p.size := by
  intro fuel
  induction fuel with
  | zero =>
    intro k p hk h
    obtain rfl : k = p.size := by walk_at "lia"
    exact ⟨Array.Perm.refl _, h⟩
  | succ fuel ih =>
    intro k p hk h
    have hks : k < p.size := by walk_at "lia"
    obtain ⟨hl1, hl2, hl3⟩ := place_run (f := f) p k (fun i j hij hj => (h.asc i j hij hj).le) k 0 k (Nat.zero_le _) (Nat.le_refl _) (by walk_at "lia") (fun i hi => absurd hi (Nat.not_lt_zero _)) (fun i h1 h2 => absurd h2 (Nat.not_lt.mpr h1))
    have e : run (cf f) (kas_bin (fuel + 1) p k) = run (cf f) (kas_bin fuel (bubble p k (k - run (cf f) (kas_place p k k 0 k))) (k + 1)) := by
      show run (cf f) ((kas_place p k k 0 k).bind fun l => kas_bin fuel (bubble p k (k - l)) (k + 1)) = _
      rw [run_bind]
    rw [e]
    generalize run (cf f) (kas_place p k k 0 k) = l at hl1 hl2 hl3
    have hb := fun i => getD_bubble (p := p) (src := k) (d := k - l) hks (by walk_at "lia") i
    have hkk : k - (k - l) = l := by walk_at "lia"
    simp only [hkk] at hb
    have hpk : p.getD k 0 = k := h.rest k (Nat.le_refl _) hks
    have hpre : Pre f (bubble p k (k - l)) (k + 1) := ?_
    · obtain ⟨i1, i2⟩ := ih (k + 1) (bubble p k (k - l)) (by rw [bubble_size]; walk_at "lia") hpre
      rw [bubble_size] at i2
      exact ⟨i1.trans (bubble_perm _ _ _), i2⟩
    refine ⟨fun i j hij hj => ?_, fun i hi => ?_, fun i h1 h2 => ?_⟩
    · rw [hb i, hb j]
      by_cases ei : i = l
      · subst ei
        rw [if_pos rfl]
        by_cases ej : j = i
        · walk_at "lia"
        · rw [if_neg ej, if_pos ⟨by walk_at "lia", by walk_at "lia"⟩]
          exact .inl (hl3 (j - 1) (by walk_at "lia") (by walk_at "lia"))
      · rw [if_neg ei]
        by_cases hi : l < i ∧ i ≤ k
        · rw [if_pos hi, if_neg (by walk_at "lia"), if_pos ⟨by walk_at "lia", by walk_at "lia"⟩]
          exact h.asc (i - 1) (j - 1) (by walk_at "lia") (by walk_at "lia")
        · rw [if_neg hi]
          have hil : i < l := by walk_at "lia"
          by_cases ej : j = l
          · subst ej
            rw [if_pos rfl, hpk]
            have h1 := hl2 i hil
            rw [hpk] at h1
            have h2 := h.low i (by walk_at "lia")
            unfold Lx; walk_at "lia"
          · rw [if_neg ej]
            by_cases hj2 : l < j ∧ j ≤ k
            · rw [if_pos hj2]
              exact h.asc i (j - 1) (by walk_at "lia") (by walk_at "lia")
            · rw [if_neg hj2]
              exact h.asc i j hij (by walk_at "lia")
    · rw [hb i]
      by_cases e1 : i = l
      · rw [if_pos e1, hpk]; walk_at "lia"
      · rw [if_neg e1]
        by_cases e2 : l < i ∧ i ≤ k
        · rw [if_pos e2]
          have := h.low (i - 1) (by walk_at "lia"); walk_at "lia"
        · rw [if_neg e2]
          have := h.low i (by walk_at "lia"); walk_at "lia"
    · rw [bubble_size] at h2
      rw [hb i, if_neg (by walk_at "lia"), if_neg (by walk_at "lia")]
      exact h.rest i (by walk_at "lia") h2
end
section
open PySem PySem.W PyProof.Rows PySem.Calls
variable {f : Nat → Int}
structure Dn (f : Nat → Int) (p : Array Nat) (n b : Nat) : Prop where
  bn : b < n
  ns : n ≤ p.size
  a : ∀ i j, i < j → j < b → Lx f (p.getD j 0) (p.getD i 0)
  g : ∀ i j, b ≤ i → i < j → j < n → f (p.getD i 0) = f (p.getD j 0) ∧ p.getD i 0 < p.getD j 0
  ab : ∀ i j, i < b → b ≤ j → j < n → f (p.getD j 0) < f (p.getD i 0)
  low : ∀ i, i < n → p.getD i 0 < n
  rest : ∀ i, n ≤ i → i < p.size → p.getD i 0 = i
theorem kas_rev_size' (p : Array Nat) (i j : Nat) : (kas_rev p i j).size = p.size := mirror_size _ _ _ _
theorem kas_rev_perm (p : Array Nat) (i j : Nat) : (kas_rev p i j).Perm p := mirror_perm _ _ _ _
/-- the last group turned round: all descends -/
theorem Dn.turn {p : Array Nat} {n b : Nat} (h : Dn f p n b) : (∀ i j, i < j → j < n → Lx f ((kas_rev p b n).getD j 0) ((kas_rev p b n).getD i 0)) ∧ (∀ i, i < n → (kas_rev p b n).getD i 0 < n) ∧
    (∀ i, n ≤ i → i < p.size → (kas_rev p b n).getD i 0 = i) ∧ (∀ i, i < n → f (p.getD (n - 1) 0) ≤ f ((kas_rev p b n).getD i 0)) := by
  have hr := fun k => getD_rev (p := p) (i := b) (j := n) h.ns k
  have hb := h.bn
  refine ⟨fun i j hij hj => ?_, fun i hi => ?_, fun i h1 h2 => ?_, fun i hi => ?_⟩
  · rw [hr i, hr j]
    by_cases hjb : b ≤ j
    · rw [if_pos (show b ≤ j ∧ j < n from ⟨hjb, hj⟩)]
      by_cases hib : b ≤ i
      · rw [if_pos (show b ≤ i ∧ i < n from ⟨hib, by walk_at "lia"⟩)]
        obtain ⟨e1, e2⟩ := h.g (b + n - 1 - j) (b + n - 1 - i) (by walk_at "lia") (by walk_at "lia") (by walk_at "lia")
        exact .inr ⟨e1, e2⟩
      · rw [if_neg (by walk_at "lia")]
        exact .inl (h.ab i (b + n - 1 - j) (by walk_at "lia") (by walk_at "lia") (by walk_at "lia"))
    · rw [if_neg (by walk_at "lia"), if_neg (by walk_at "lia")]
      exact h.a i j hij (by walk_at "lia")
  · rw [hr i]
    by_cases hib : b ≤ i ∧ i < n
    · rw [if_pos hib]; exact h.low _ (by walk_at "lia")
    · rw [if_neg hib]; exact h.low _ hi
  · rw [hr i, if_neg (by walk_at "lia")]; exact h.rest i h1 h2
  · rw [hr i]
    by_cases hib : b ≤ i ∧ i < n
    · rw [if_pos hib]
      by_cases e : b + n - 1 - i = n - 1
      · rw [e]; exact Int.le_refl _
      · rw [(h.g (b + n - 1 - i) (n - 1) (by walk_at "lia") (by walk_at "lia") (by walk_at "lia")).1]; exact Int.le_refl _
    · rw [if_neg hib]
      exact Int.le_of_lt (h.ab i (n - 1) (by walk_at "lia") (by walk_at "lia") (by walk_at "lia"))
theorem desc_run : ∀ (fuel : Nat) (p : Array Nat) (n q : Nat), n + fuel = p.size → q < n → Dn f p n (n - (q + 1)) →
    (run (cf f) (kas_desc fuel p n q)).1.Perm p ∧ (run (cf f) (kas_desc fuel p n q)).2.2 < (run (cf f) (kas_desc fuel p n q)).2.1 ∧ (run (cf f) (kas_desc fuel p n q)).2.1 ≤ p.size ∧
      Dn f (run (cf f) (kas_desc fuel p n q)).1 (run (cf f) (kas_desc fuel p n q)).2.1 ((run (cf f) (kas_desc fuel p n q)).2.1 - ((run (cf f) (kas_desc fuel p n q)).2.2 + 1)) := by
  intro fuel
  induction fuel with
  | zero => intro p n q hn hq h; exact ⟨Array.Perm.refl _, hq, h.ns, h⟩
  | succ fuel ih =>
    intro p n q hn hq h
    have hns : n < p.size := by walk_at "lia"
    have hpn : p.getD n 0 = n := h.rest n (Nat.le_refl _) hns
    have e : run (cf f) (kas_desc (fuel + 1) p n q) = run (cf f) (if cf f (p.getD n 0) (p.getD (n - 1) 0) = true then (if q > 0 then kas_desc fuel (kas_rev p (n - (q + 1)) n) (n + 1) 0 else kas_desc fuel p (n + 1) 0)
        else .ask (p.getD (n - 1) 0) (p.getD n 0) fun d => if d = true then .ret (p, n, q) else kas_desc fuel p (n + 1) (q + 1)) := rfl
    rw [e]
    by_cases hc : f (p.getD n 0) < f (p.getD (n - 1) 0)
    · rw [if_pos (by simpa [cf] using hc)]
      by_cases hq0 : q > 0
      · rw [if_pos hq0]
        obtain ⟨t1, t2, t3, t4⟩ := h.turn
        have hr := fun k => getD_rev (p := p) (i := n - (q + 1)) (j := n) h.ns k
        have hnew : (kas_rev p (n - (q + 1)) n).getD n 0 = n := t3 n (Nat.le_refl _) hns
        have hd : Dn f (kas_rev p (n - (q + 1)) n) (n + 1) (n + 1 - (0 + 1)) := by
          refine ⟨by walk_at "lia", by rw [kas_rev_size']; walk_at "lia", fun i j hij hj => t1 i j hij (by walk_at "lia"), fun i j h1 h2 h3 => by walk_at "lia", fun i j h1 h2 h3 => ?_, fun i hi => ?_, fun i h1 h2 => t3 i (by walk_at "lia") (by rwa [kas_rev_size'] at h2)⟩
          · obtain rfl : j = n := by walk_at "lia"
            rw [hnew]
            have := t4 i (by walk_at "lia")
            rw [hpn] at hc
            walk_at "lia"
          · by_cases hi' : i < n
            · have := t2 i hi'; walk_at "lia"
            · obtain rfl : i = n := by walk_at "lia"
              rw [hnew]; walk_at "lia"
        obtain ⟨r1, r2, r3, r4⟩ := ih (kas_rev p (n - (q + 1)) n) (n + 1) 0 (by rw [kas_rev_size']; walk_at "lia") (by walk_at "lia") hd
        rw [kas_rev_size'] at r3
        exact ⟨r1.trans (kas_rev_perm _ _ _), r2, r3, r4⟩
      · rw [if_neg hq0]
        obtain rfl : q = 0 := by walk_at "lia"
        have hd : Dn f p (n + 1) (n + 1 - (0 + 1)) := by
          refine ⟨by walk_at "lia", by walk_at "lia", fun i j hij hj => ?_, fun i j h1 h2 h3 => by walk_at "lia", fun i j h1 h2 h3 => ?_, fun i hi => ?_, fun i h1 h2 => h.rest i (by walk_at "lia") h2⟩
          · by_cases hj' : j < n - (0 + 1)
            · exact h.a i j hij hj'
            · exact .inl (h.ab i j (by walk_at "lia") (by walk_at "lia") (by walk_at "lia"))
          · obtain rfl : j = n := by walk_at "lia"
            by_cases hi' : i = j - 1
            · subst hi'; exact hc
            · have := h.ab i (j - 1) (by walk_at "lia") (by walk_at "lia") (by walk_at "lia")
              walk_at "lia"
          · by_cases hi' : i < n
            · have := h.low i hi'; walk_at "lia"
            · obtain rfl : i = n := by walk_at "lia"
              rw [hpn]; walk_at "lia"
        exact ih p (n + 1) 0 (by walk_at "lia") (by walk_at "lia") hd
    · rw [if_neg (by simpa [cf] using hc)]
      show _ ∧ _
      have e2 : run (cf f) (.ask (p.getD (n - 1) 0) (p.getD n 0) fun d => if d = true then .ret (p, n, q) else kas_desc fuel p (n + 1) (q + 1)) = run (cf f) (if cf f (p.getD (n - 1) 0) (p.getD n 0) = true then .ret (p, n, q) else kas_desc fuel p (n + 1) (q + 1)) := rfl
      rw [e2]
      by_cases hc2 : f (p.getD (n - 1) 0) < f (p.getD n 0)
      · rw [if_pos (by simpa [cf] using hc2)]
        exact ⟨Array.Perm.refl _, hq, h.ns, h⟩
      · rw [if_neg (by simpa [cf] using hc2)]
        have heq : f (p.getD (n - 1) 0) = f (p.getD n 0) := by walk_at "lia"
        have hd : Dn f p (n + 1) (n + 1 - (q + 1 + 1)) := by
          have hbe : n + 1 - (q + 1 + 1) = n - (q + 1) := by walk_at "lia"
          rw [hbe]
          refine ⟨by walk_at "lia", by walk_at "lia", h.a, fun i j h1 h2 h3 => ?_, fun i j h1 h2 h3 => ?_, fun i hi => ?_, fun i h1 h2 => h.rest i (by walk_at "lia") h2⟩
          · by_cases hj : j < n
            · exact h.g i j h1 h2 hj
            · obtain rfl : j = n := by walk_at "lia"
              rw [hpn] at heq ⊢
              refine ⟨?_, h.low i h2⟩
              by_cases hi : i = j - 1
              · subst hi; exact heq
              · rw [(h.g i (j - 1) h1 (by walk_at "lia") (by walk_at "lia")).1]; exact heq
          · by_cases hj : j < n
            · exact h.ab i j h1 h2 hj
            · obtain rfl : j = n := by walk_at "lia"
              rw [← heq]
              exact h.ab i (j - 1) h1 (by walk_at "lia") (by walk_at "lia")
          · by_cases hi' : i < n
            · have := h.low i hi'; walk_at "lia"
            · obtain rfl : i = n := by walk_at "lia"
              rw [hpn]; walk_at "lia"
        exact ih p (n + 1) (q + 1) (by walk_at "lia") (by walk_at "lia") hd
end
section
open PySem PySem.W PyProof.Rows PySem.Calls
variable {f : Nat → Int}
theorem pre_ext {p : Array Nat} {n : Nat} (h : Pre f p n) (h1 : 1 ≤ n) : ∀ (m : Nat), n ≤ m → m ≤ p.size → (∀ k, n ≤ k → k < m → ¬ f (p.getD k 0) < f (p.getD (k - 1) 0)) → Pre f p m := by
  intro m hnm
  induction m with
  | zero => intro _ _; walk_at "lia"
  | succ m ih =>
    intro hm hk
    by_cases e : n = m + 1
    · rw [← e]; exact h
    · have hp := ih (by walk_at "lia") (by walk_at "lia") fun k k1 k2 => hk k k1 (by walk_at "lia")
      have hpm : p.getD m 0 = m := h.rest m (by walk_at "lia") (by walk_at "lia")
      have hlt := hk m (by walk_at "lia") (by walk_at "lia")
      refine ⟨fun i j hij hj => ?_, fun i hi => ?_, fun i i1 i2 => h.rest i (by walk_at "lia") i2⟩
      · by_cases hj' : j < m
        · exact hp.asc i j hij hj'
        · obtain rfl : j = m := by walk_at "lia"
          have hlow := hp.low i (by walk_at "lia")
          have hle : f (p.getD i 0) ≤ f (p.getD (j - 1) 0) := by
            by_cases hi : i = j - 1
            · rw [hi]; exact Int.le_refl _
            · exact (hp.asc i (j - 1) (by walk_at "lia") (by walk_at "lia")).le
          rw [hpm] at hlt ⊢
          unfold Lx
          walk_at "lia"
      · by_cases hi' : i < m
        · have := hp.low i hi'; walk_at "lia"
        · obtain rfl : i = m := by walk_at "lia"
          rw [hpm]; walk_at "lia"
theorem asc_pre {p : Array Nat} {n : Nat} (h : Pre f p n) (h1 : 1 ≤ n) (hn : n ≤ p.size) : Pre f p (run (cf f) (kas_asc p (p.size - n) n)) ∧ n ≤ run (cf f) (kas_asc p (p.size - n) n) ∧ run (cf f) (kas_asc p (p.size - n) n) ≤ p.size := by
  obtain ⟨a1, a2, a3, _⟩ := asc_run (f := f) p (p.size - n) n
  exact ⟨pre_ext h h1 _ a1 (by walk_at "lia") a3, a1, by walk_at "lia"⟩
theorem tail3_run {p : Array Nat} {n : Nat} (h1 : 1 ≤ n) (hn : n ≤ p.size) (hd : ∀ i j, i < j → j < n → Lx f (p.getD j 0) (p.getD i 0)) (hl : ∀ i, i < n → p.getD i 0 < n) (hr : ∀ i, n ≤ i → i < p.size → p.getD i 0 = i) :
    1 ≤ (run (cf f) (kas_tail3 n p.size p)).1 ∧ (run (cf f) (kas_tail3 n p.size p)).1 ≤ p.size ∧ (run (cf f) (kas_tail3 n p.size p)).2.Perm p ∧ Pre f (run (cf f) (kas_tail3 n p.size p)).2 (run (cf f) (kas_tail3 n p.size p)).1 := by
  have hg := fun k => getD_rev (p := p) (i := 0) (j := n) hn k
  have hp : Pre f (kas_rev p 0 n) n := by
    refine ⟨fun i j hij hj => ?_, fun i hi => ?_, fun i i1 i2 => ?_⟩
    · rw [hg i, hg j, if_pos (by walk_at "lia"), if_pos (by walk_at "lia")]
      exact hd _ _ (by walk_at "lia") (by walk_at "lia")
    · rw [hg i, if_pos (by walk_at "lia")]; exact hl _ (by walk_at "lia")
    · rw [kas_rev_size'] at i2
      rw [hg i, if_neg (by walk_at "lia")]; exact hr i i1 i2
  have e : run (cf f) (kas_tail3 n p.size p) = (run (cf f) (kas_asc (kas_rev p 0 n) (p.size - n) n), kas_rev p 0 n) := by
    show run (cf f) ((kas_asc (kas_rev p 0 n) (p.size - n) n).bind fun m => .ret (m, kas_rev p 0 n)) = _
    rw [run_bind]; rfl
  rw [e]
  have h2 := asc_pre hp h1 (by rw [kas_rev_size']; exact hn)
  rw [kas_rev_size'] at h2
  exact ⟨by dsimp only; walk_at "lia", h2.2.2, kas_rev_perm _ _ _, h2.1⟩
theorem descPart_run {p : Array Nat} {n : Nat} (hn : n < p.size) (h1 : 1 ≤ n) (hd : Dn f p (n + 1) n) :
    1 ≤ (run (cf f) (kas_descPart n p.size p)).1 ∧ (run (cf f) (kas_descPart n p.size p)).1 ≤ p.size ∧ (run (cf f) (kas_descPart n p.size p)).2.Perm p ∧ Pre f (run (cf f) (kas_descPart n p.size p)).2 (run (cf f) (kas_descPart n p.size p)).1 := by
  have e : run (cf f) (kas_descPart n p.size p) = run (cf f) ((fun r : Array Nat × Nat × Nat => if r.2.2 > 0 then kas_tail3 r.2.1 p.size (kas_rev r.1 (r.2.1 - (r.2.2 + 1)) r.2.1) else kas_tail3 r.2.1 p.size r.1) (run (cf f) (kas_desc (p.size - (n + 1)) p (n + 1) 0))) := by
    show run (cf f) ((kas_desc (p.size - (n + 1)) p (n + 1) 0).bind _) = _
    rw [run_bind]
  rw [e]
  obtain ⟨r1, r2, r3, r4⟩ := desc_run (f := f) (p.size - (n + 1)) p (n + 1) 0 (by walk_at "lia") (by walk_at "lia") hd
  generalize run (cf f) (kas_desc (p.size - (n + 1)) p (n + 1) 0) = r at r1 r2 r3 r4
  obtain ⟨p', n', q'⟩ := r
  dsimp only at r1 r2 r3 r4 ⊢
  have hsz : p'.size = p.size := r1.size_eq
  by_cases hq : q' > 0
  · rw [if_pos hq]
    obtain ⟨t1, t2, t3, t4⟩ := r4.turn
    have hs2 : (kas_rev p' (n' - (q' + 1)) n').size = p.size := by rw [kas_rev_size', hsz]
    have := tail3_run (f := f) (p := kas_rev p' (n' - (q' + 1)) n') (n := n') (by walk_at "lia") (by walk_at "lia") t1 t2 (fun i i1 i2 => t3 i i1 (by walk_at "lia"))
    rw [hs2] at this
    exact ⟨this.1, this.2.1, this.2.2.1.trans ((kas_rev_perm _ _ _).trans r1), this.2.2.2⟩
  · rw [if_neg hq]
    obtain rfl : q' = 0 := by walk_at "lia"
    have := tail3_run (f := f) (p := p') (n := n') (by walk_at "lia") (by walk_at "lia") (fun i j hij hj => ?_) r4.low r4.rest
    · rw [hsz] at this
      exact ⟨this.1, this.2.1, this.2.2.1.trans r1, this.2.2.2⟩
    · by_cases hj' : j < n' - (0 + 1)
      · exact r4.a i j hij hj'
      · exact .inl (r4.ab i j (by walk_at "lia") (by walk_at "lia") hj)
theorem count_run {p : Array Nat} (h0 : 1 ≤ p.size) (hid : ∀ i, i < p.size → p.getD i 0 = i) :
    1 ≤ (run (cf f) (kas_count p.size p)).1 ∧ (run (cf f) (kas_count p.size p)).1 ≤ p.size ∧ (run (cf f) (kas_count p.size p)).2.Perm p ∧ Pre f (run (cf f) (kas_count p.size p)).2 (run (cf f) (kas_count p.size p)).1 := by
  have hp1 : Pre f p 1 := ⟨fun i j hij hj => by walk_at "lia", fun i hi => by rw [hid i (by walk_at "lia")]; walk_at "lia", fun i _ i2 => hid i i2⟩
  have e : run (cf f) (kas_count p.size p) = run (cf f) ((fun n => if (n == p.size) = true then .ret (n, p) else if n > 1 then .ask (p.getD 0 0) (p.getD (n - 1) 0) fun c => if c = true then .ret (n, p) else kas_descPart n p.size (kas_rev p 0 n)
    else kas_descPart n p.size p) (run (cf f) (kas_asc p (p.size - 1) 1))) := by
    show run (cf f) ((kas_asc p (p.size - 1) 1).bind _) = _
    rw [run_bind]
  rw [e]
  obtain ⟨a1, a2, a3, a4⟩ := asc_run (f := f) p (p.size - 1) 1
  have hpre := asc_pre hp1 (Nat.le_refl _) h0
  generalize run (cf f) (kas_asc p (p.size - 1) 1) = n at a1 a2 a3 a4 hpre
  obtain ⟨b1, b2, b3⟩ := hpre
  dsimp only
  by_cases hn : n = p.size
  · rw [if_pos (by simpa using hn)]
    exact ⟨a1, b3, Array.Perm.refl _, b1⟩
  · rw [if_neg (by simpa using hn)]
    have hstop := a4 (by walk_at "lia")
    have hpn : p.getD n 0 = n := hid n (by walk_at "lia")
    by_cases h1 : n > 1
    · rw [if_pos h1]
      have e2 : run (cf f) (.ask (p.getD 0 0) (p.getD (n - 1) 0) fun c => if c = true then .ret (n, p) else kas_descPart n p.size (kas_rev p 0 n)) = run (cf f) (if cf f (p.getD 0 0) (p.getD (n - 1) 0) = true then .ret (n, p) else kas_descPart n p.size (kas_rev p 0 n)) := rfl
      rw [e2]
      by_cases hc : f (p.getD 0 0) < f (p.getD (n - 1) 0)
      · rw [if_pos (by simpa [cf] using hc)]
        exact ⟨a1, b3, Array.Perm.refl _, b1⟩
      · rw [if_neg (by simpa [cf] using hc)]
        have hg := fun k => getD_rev (p := p) (i := 0) (j := n) b3 k
        have heq : ∀ i, i < n → f (p.getD i 0) = f (p.getD (n - 1) 0) := by
          intro i hi
          have u1 : f (p.getD 0 0) ≤ f (p.getD i 0) := by
            by_cases h : i = 0
            · rw [h]; exact Int.le_refl _
            · exact (b1.asc 0 i (by walk_at "lia") hi).le
          have u2 : f (p.getD i 0) ≤ f (p.getD (n - 1) 0) := by
            by_cases h : i = n - 1
            · rw [h]; exact Int.le_refl _
            · exact (b1.asc i (n - 1) (by walk_at "lia") (by walk_at "lia")).le
          walk_at "lia"
        have hs2 : (kas_rev p 0 n).size = p.size := kas_rev_size' _ _ _
        have hd : Dn f (kas_rev p 0 n) (n + 1) n := by
          refine ⟨by walk_at "lia", by walk_at "lia", fun i j hij hj => ?_, fun i j h1 h2 h3 => by walk_at "lia", fun i j h1 h2 h3 => ?_, fun i hi => ?_, fun i i1 i2 => ?_⟩
          · rw [hg i, hg j, if_pos (by walk_at "lia"), if_pos (by walk_at "lia")]
            exact b1.asc _ _ (by walk_at "lia") (by walk_at "lia")
          · obtain rfl : j = n := by walk_at "lia"
            rw [hg i, hg j, if_neg (by walk_at "lia"), if_pos (by walk_at "lia"), heq (0 + j - 1 - i) (by walk_at "lia")]
            exact hstop
          · rw [hg i]
            by_cases h : 0 ≤ i ∧ i < n
            · rw [if_pos h]; have := b1.low (0 + n - 1 - i) (by walk_at "lia"); walk_at "lia"
            · rw [if_neg h]
              obtain rfl : i = n := by walk_at "lia"
              rw [hpn]; walk_at "lia"
          · rw [hg i, if_neg (by walk_at "lia")]; exact hid i (by walk_at "lia")
        have := descPart_run (f := f) (p := kas_rev p 0 n) (n := n) (by walk_at "lia") a1 hd
        rw [hs2] at this
        exact ⟨this.1, this.2.1, this.2.2.1.trans (kas_rev_perm _ _ _), this.2.2.2⟩
    · rw [if_neg h1]
      obtain rfl : n = 1 := by walk_at "lia"
      refine descPart_run (by walk_at "lia") (Nat.le_refl _) ⟨by walk_at "lia", by walk_at "lia", fun i j hij hj => by walk_at "lia", fun i j h1 h2 h3 => by walk_at "lia", fun i j h1 h2 h3 => ?_, fun i hi => by rw [hid i (by walk_at "lia")]; walk_at "lia", fun i _ i2 => hid i i2⟩
      obtain rfl : i = 0 := by walk_at "lia"
      obtain rfl : j = 1 := by walk_at "lia"
      exact hstop
/-- the sort: the numbers below n in the order of f, of those alike the lesser first -/
theorem sort_run {n : Nat} (h0 : 1 ≤ n) : (run (cf f) (kas_sort n)).Perm (List.range n).toArray ∧ (run (cf f) (kas_sort n)).toList.Pairwise (Lx f) := by
  have hsz : (List.range n).toArray.size = n := by simp
  have hid : ∀ i, i < (List.range n).toArray.size → (List.range n).toArray.getD i 0 = i := by
    intro i hi
    rw [hsz] at hi
    simp [Array.getD_eq_getD_getElem?, hi]
  have hc := count_run (f := f) (p := (List.range n).toArray) (by rw [hsz]; exact h0) hid
  rw [hsz] at hc
  have e : run (cf f) (kas_sort n) = run (cf f) ((fun r : Nat × Array Nat => if r.1 < n then kas_bin (n - max r.1 1) r.2 (max r.1 1) else .ret r.2) (run (cf f) (kas_count n (List.range n).toArray))) := by
    show run (cf f) ((kas_count n (List.toArray (List.range n))).bind _) = _
    rw [run_bind]
  rw [e]
  generalize run (cf f) (kas_count n (List.range n).toArray) = r at hc
  obtain ⟨m, p⟩ := r
  obtain ⟨c1, c2, c3, c4⟩ := hc
  dsimp only at c1 c2 c3 c4 ⊢
  have hps : p.size = n := by rw [c3.size_eq, hsz]
  have fin : ∀ {p' : Array Nat}, p'.Perm p → Pre f p' p.size → p'.Perm (List.range n).toArray ∧ p'.toList.Pairwise (Lx f) := by
    intro p' h1 h2
    refine ⟨h1.trans c3, ?_⟩
    have hs' : p'.size = p.size := h1.size_eq
    rw [List.pairwise_iff_getElem]
    intro i j hi hj hij
    have := h2.asc i j hij (by rw [← hs']; simpa using hj)
    simpa [Array.getD_eq_getD_getElem?, show i < p'.size by simpa using hi, show j < p'.size by simpa using hj] using this
  by_cases hm : m < n
  · rw [if_pos hm]
    have hmax : max m 1 = m := by walk_at "lia"
    rw [hmax]
    have hb := bin_run (f := f) (n - m) m p (by walk_at "lia") c4
    exact fin hb.1 hb.2
  · rw [if_neg hm]
    obtain rfl : m = n := by walk_at "lia"
    exact fin (Array.Perm.refl _) (hps ▸ c4)
end
section
open PySem PySem.W PyProof.Rows PySem.Calls
noncomputable def GoodP {α : Type} (n : Nat) (P : α → Prop) : KasT α → Prop
  | .ret a => P a
  | .ask i j k => i < n ∧ j < n ∧ ∀ b, GoodP n P (k b)
theorem good_bind {α β : Type} {n : Nat} {P : α → Prop} {Q : β → Prop} {g : α → KasT β} : ∀ t : KasT α, GoodP n P t → (∀ a, P a → GoodP n Q (g a)) → GoodP n Q (t.bind g)
  | .ret a, h, hg => hg a h
  | .ask i j k, h, hg => ⟨h.1, h.2.1, fun b => good_bind (k b) (h.2.2 b) hg⟩
noncomputable def InN (n : Nat) (p : Array Nat) : Prop := ∀ k, p.getD k 0 < n
theorem inN_perm {n : Nat} {p p' : Array Nat} (h0 : 0 < n) (hp : p'.Perm p) (h : InN n p) : InN n p' := by
  intro k
  rw [Array.getD_eq_getD_getElem?]
  cases q : p'[k]? with
  | none => simpa using h0
  | some x =>
    have hx : x ∈ p' := Array.mem_of_getElem? q
    have hx' : x ∈ p := hp.mem_iff.mp hx
    obtain ⟨i, hi, rfl⟩ := Array.mem_iff_getElem.mp hx'
    have := h i
    simpa [Array.getD_eq_getD_getElem?, hi] using this
variable {n : Nat}
theorem good_asc (p : Array Nat) (hp : InN n p) : ∀ fuel m, GoodP n (fun _ : Nat => True) (kas_asc p fuel m)
  | 0, _ => trivial
  | fuel + 1, m => ⟨hp _, hp _, fun b => by cases b; exact good_asc p hp fuel (m + 1); exact trivial⟩
theorem good_desc (h0 : 0 < n) : ∀ fuel p m q, InN n p → GoodP n (fun r : Array Nat × Nat × Nat => InN n r.1) (kas_desc fuel p m q)
  | 0, p, m, q, hp => hp
  | fuel + 1, p, m, q, hp => by
    refine ⟨hp _, hp _, fun b => ?_⟩
    cases b with
    | true =>
      show GoodP n _ (if q > 0 then kas_desc fuel (kas_rev p (m - (q + 1)) m) (m + 1) 0 else kas_desc fuel p (m + 1) 0)
      split
      · exact good_desc h0 fuel _ _ _ (inN_perm h0 (kas_rev_perm _ _ _) hp)
      · exact good_desc h0 fuel _ _ _ hp
    | false =>
      refine ⟨hp _, hp _, fun d => ?_⟩
      cases d with
      | true => exact hp
      | false => exact good_desc h0 fuel _ _ _ hp
theorem good_tail3 (h0 : 0 < n) (m nrem : Nat) (p : Array Nat) (hp : InN n p) : GoodP n (fun r : Nat × Array Nat => InN n r.2) (kas_tail3 m nrem p) :=
  good_bind _ (good_asc _ (inN_perm h0 (kas_rev_perm _ _ _) hp) _ _) fun _ _ => inN_perm h0 (kas_rev_perm _ _ _) hp
theorem good_descPart (h0 : 0 < n) (m nrem : Nat) (p : Array Nat) (hp : InN n p) : GoodP n (fun r : Nat × Array Nat => InN n r.2) (kas_descPart m nrem p) :=
  good_bind _ (good_desc h0 _ _ _ _ hp) fun r hr => by
    split
    · exact good_tail3 h0 _ _ _ (inN_perm h0 (kas_rev_perm _ _ _) hr)
    · exact good_tail3 h0 _ _ _ hr
theorem good_count (h0 : 0 < n) (nrem : Nat) (p : Array Nat) (hp : InN n p) : GoodP n (fun r : Nat × Array Nat => InN n r.2) (kas_count nrem p) :=
  good_bind _ (good_asc _ hp _ _) fun m _ => by
    split
    · exact hp
    · split
      · refine ⟨hp _, hp _, fun b => ?_⟩
        cases b with
        | true => exact hp
        | false => exact good_descPart h0 _ _ _ (inN_perm h0 (kas_rev_perm _ _ _) hp)
      · exact good_descPart h0 _ _ _ hp
theorem good_place (p : Array Nat) (hp : InN n p) (k : Nat) : ∀ fuel l r, GoodP n (fun _ : Nat => True) (kas_place p k fuel l r)
  | 0, _, _ => trivial
  | fuel + 1, l, r => by
    show GoodP n _ (if l ≥ r then KasT.ret l else _)
    split
    · exact trivial
    · refine ⟨hp _, hp _, fun b => ?_⟩
      cases b with
      | true => exact good_place p hp k fuel _ _
      | false => exact good_place p hp k fuel _ _
theorem good_bin (h0 : 0 < n) : ∀ fuel p k, InN n p → GoodP n (fun _ : Array Nat => True) (kas_bin fuel p k)
  | 0, _, _, _ => trivial
  | fuel + 1, p, k, hp => good_bind _ (good_place p hp k _ _ _) fun l _ => good_bin h0 fuel _ _ (inN_perm h0 (bubble_perm _ _ _) hp)
theorem good_sort (h0 : 0 < n) : GoodP n (fun _ : Array Nat => True) (kas_sort n) :=
  good_bind _ (good_count h0 _ _ (fun k => by
    rw [Array.getD_eq_getD_getElem?]
    by_cases hk : k < n
    · simp [hk]
    · simpa [hk] using h0)) fun r hr => by
    split
    · exact good_bin h0 _ _ _ hr
    · exact trivial
/-- the tree of questions, where each is answered by c and what is true of the state stays so -/
theorem wp_run {α : Type} {cmp : Nat → Nat → (Bool → Shared → Prop) → Shared → Prop} {c : Nat → Nat → Bool} {Inv : Shared → Prop} {P : α → Prop}
    (hc : ∀ i j (C : Bool → Shared → Prop) s, i < n → j < n → Inv s → (∀ s', Inv s' → C (c i j) s') → cmp i j C s) : ∀ (t : KasT α) (Q : α → Shared → Prop) (s : Shared), GoodP n P t → Inv s → (∀ s', Inv s' → Q (run c t) s') → t.kasWp cmp Q s
  | .ret a, Q, s, _, hi, hq => hq s hi
  | .ask i j k, Q, s, hg, hi, hq => hc i j _ s hg.1 hg.2.1 hi fun s' hi' => wp_run hc (k (c i j)) Q s' (hg.2.2 _) hi' hq
end
section
open PySem PySem.W PyProof.Rows PySem.Calls
/-- of the first m the n first in the order, as a set -/
structure Few (f : Nat → Int) (m n : Nat) (out : List Nat) : Prop where
  nd : out.Nodup
  mem : ∀ i ∈ out, i < m
  len : out.length = n
  least : ∀ i ∈ out, ∀ j < m, j ∉ out → Lx f i j
theorem Few.start (f : Nat → Int) (n : Nat) : Few f n n (List.range n) :=
  ⟨List.nodup_range, fun i hi => List.mem_range.mp hi, List.length_range, fun i hi j hj hji => absurd (List.mem_range.mpr hj) hji⟩
theorem Few.perm {f : Nat → Int} {m n : Nat} {a b : List Nat} (h : Few f m n a) (hp : b.Perm a) : Few f m n b :=
  ⟨hp.nodup_iff.mpr h.nd, fun i hi => h.mem i (hp.mem_iff.mp hi), hp.length_eq.trans h.len, fun i hi j hj hji => h.least i (hp.mem_iff.mp hi) j hj fun q => hji (hp.mem_iff.mpr q)⟩
/-- the next one is not less than the last of those: they stay -/
theorem Few.stay {f : Nat → Int} {m n : Nat} {out : List Nat} {t : Nat} (h : Few f m n out) (ht : t ∈ out) (htop : ∀ i ∈ out, i ≠ t → Lx f i t) (hm : ¬ f m < f t) : Few f (m + 1) n out := by
  refine ⟨h.nd, fun i hi => Nat.lt_succ_of_lt (h.mem i hi), h.len, fun i hi j hj hji => ?_⟩
  by_cases hjm : j < m
  · exact h.least i hi j hjm hji
  · obtain rfl : j = m := by walk_at "lia"
    have htm : Lx f t j := by
      have := h.mem t ht
      unfold Lx; walk_at "lia"
    by_cases e : i = t
    · rw [e]; exact htm
    · exact (htop i hi e).tr htm
/-- it is less: it takes the place of the last -/
theorem Few.take {f : Nat → Int} {m n : Nat} {rest : List Nat} {t : Nat} (h : Few f m n (t :: rest)) (htop : ∀ i ∈ rest, Lx f i t) (hm : f m < f t) : Few f (m + 1) n (m :: rest) := by
  have hnd := List.nodup_cons.mp h.nd
  refine ⟨List.nodup_cons.mpr ⟨fun hmr => Nat.lt_irrefl _ (h.mem m (.tail _ hmr)), hnd.2⟩, fun i hi => ?_, h.len, fun i hi j hj hji => ?_⟩
  · rcases List.mem_cons.mp hi with rfl | hi
    · walk_at "lia"
    · exact Nat.lt_succ_of_lt (h.mem i (.tail _ hi))
  · have hjm : j ≠ m := fun e => hji (e ▸ .head _)
    have hjr : j ∉ rest := fun q => hji (.tail _ q)
    have hmt : Lx f m t := .inl hm
    have hit : Lx f i t := by
      rcases List.mem_cons.mp hi with rfl | hi
      · exact hmt
      · exact htop i hi
    by_cases hjt : j = t
    · rw [hjt]; exact hit
    · have htj : Lx f t j := h.least t (.head _) j (by walk_at "lia") fun q => by
        rcases List.mem_cons.mp q with e | q
        · exact hjt e
        · exact hjr q
      exact hit.tr htj
/-- in order they are the selection -/
theorem Few.sel {f : Nat → Int} {N n : Nat} {out : List Nat} (h : Few f N n out) (hn : n ≤ N) (hs : out.Pairwise (Lx f)) : Sel f N n out :=
  ⟨hs, h.mem, by rw [h.len]; walk_at "lia", h.least⟩
end
section
open PySem PySem.W PyProof.Rows PySem.Calls
theorem ltB_irr : ∀ l : List UInt8, ltB l l = false
  | [] => rfl
  | a :: l => by
    have h : ¬ a < a := by rw [UInt8.lt_iff_toNat_lt]; walk_at "lia"
    unfold ltB; simp [h, ltB_irr l]
theorem ltB_tri : ∀ a b : List UInt8, a = b ∨ ltB a b = true ∨ ltB b a = true
  | [], [] => .inl rfl
  | [], _ :: _ => .inr (.inl rfl)
  | _ :: _, [] => .inr (.inr rfl)
  | x :: xs, y :: ys => by
    by_cases h1 : x < y
    · exact .inr (.inl (by unfold ltB; simp [h1]))
    · by_cases h2 : y < x
      · exact .inr (.inr (by unfold ltB; simp [h2]))
      · obtain rfl : x = y := by
          rw [UInt8.lt_iff_toNat_lt] at h1 h2
          exact UInt8.toNat_inj.mp (by walk_at "lia")
        rcases ltB_tri xs ys with h | h | h
        · exact .inl (by rw [h])
        · exact .inr (.inl (by unfold ltB; simp [h1, h]))
        · exact .inr (.inr (by unfold ltB; simp [h1, h]))
theorem ltB_tr : ∀ {a b c : List UInt8}, ltB a b = true → ltB b c = true → ltB a c = true
  | _, _, [], _, h => by unfold ltB at h; cases h
  | _, [], _ :: _, h, _ => by unfold ltB at h; cases h
  | [], _ :: _, _ :: _, _, _ => rfl
  | x :: xs, y :: ys, z :: zs, h1, h2 => by
    unfold ltB at h1 h2 ⊢
    by_cases a1 : x < y
    · by_cases b1 : y < z
      · have : x < z := by rw [UInt8.lt_iff_toNat_lt] at *; walk_at "lia"
        rw [if_pos this]
      · rw [if_neg b1] at h2
        by_cases b2 : z < y
        · rw [if_pos b2] at h2; cases h2
        · obtain rfl : y = z := by
            rw [UInt8.lt_iff_toNat_lt] at b1 b2
            exact UInt8.toNat_inj.mp (by walk_at "lia")
          rw [if_pos a1]
    · rw [if_neg a1] at h1
      by_cases a2 : y < x
      · rw [if_pos a2] at h1; cases h1
      · rw [if_neg a2] at h1
        obtain rfl : x = y := by
          rw [UInt8.lt_iff_toNat_lt] at a1 a2
          exact UInt8.toNat_inj.mp (by walk_at "lia")
        by_cases b1 : x < z
        · rw [if_pos b1]
        · rw [if_neg b1] at h2 ⊢
          by_cases b2 : z < x
          · rw [if_pos b2] at h2; cases h2
          · rw [if_neg b2] at h2 ⊢
            exact ltB_tr h1 h2
theorem ky_irr (a : Ky) : a.lt a = false := by unfold Ky.lt; simp
theorem ky_tri (a b : Ky) : a = b ∨ a.lt b = true ∨ b.lt a = true := by
  obtain ⟨k1, o1, e1⟩ := a
  obtain ⟨k2, o2, e2⟩ := b
  unfold Ky.lt
  dsimp only
  by_cases hk : k1 = k2
  · subst hk
    by_cases ho : o1 = o2
    · subst ho
      simp only [if_true, decide_eq_true_eq, Ky.mk.injEq, true_and]
      walk_at "lia"
    · have ho' : ¬ o2 = o1 := fun h => ho h.symm
      simp only [if_true, ho, ho', if_false, decide_eq_true_eq, Ky.mk.injEq, true_and, false_and, false_or]
      walk_at "lia"
  · have hk' : ¬ k2 = k1 := fun h => hk h.symm
    simp only [hk, hk', if_false, Ky.mk.injEq, false_and, false_or]
    rcases ltB_tri k1 k2 with h | h
    · exact absurd h hk
    · exact h
theorem ky_tr {a b c : Ky} (h1 : a.lt b = true) (h2 : b.lt c = true) : a.lt c = true := by
  obtain ⟨k1, o1, e1⟩ := a
  obtain ⟨k2, o2, e2⟩ := b
  obtain ⟨k3, o3, e3⟩ := c
  unfold Ky.lt at *
  dsimp only at *
  by_cases a1 : k1 = k2
  · subst a1
    rw [if_pos rfl] at h1
    by_cases b1 : k1 = k3
    · subst b1
      rw [if_pos rfl] at h2 ⊢
      by_cases x : o1 = o2
      · subst x
        rw [if_pos rfl] at h1
        by_cases y : o1 = o3
        · subst y
          rw [if_pos rfl] at h2 ⊢
          rw [decide_eq_true_eq] at *
          walk_at "lia"
        · rw [if_neg y] at h2 ⊢
          exact h2
      · rw [if_neg x] at h1
        by_cases y : o2 = o3
        · subst y
          rw [if_neg x]
          exact h1
        · rw [if_neg y] at h2
          rw [decide_eq_true_eq] at h1 h2
          rw [if_neg (by walk_at "lia"), decide_eq_true_eq]
          walk_at "lia"
    · rw [if_neg b1] at h2 ⊢
      exact h2
  · rw [if_neg a1] at h1
    by_cases b1 : k2 = k3
    · subst b1
      rw [if_neg a1]; exact h1
    · rw [if_neg b1] at h2
      have h3 := ltB_tr h1 h2
      rw [if_neg (fun e => by rw [e] at h1; have := ltB_tr h1 h2; rw [ltB_irr] at this; cases this)]
      exact h3
theorem ky_asy {a b : Ky} (h : a.lt b = true) : b.lt a = false := by
  cases q : b.lt a with
  | false => rfl
  | true => have := ky_tr h q; rw [ky_irr] at this; cases this
theorem ky_ntr {a b c : Ky} (h1 : a.lt b = false) (h2 : b.lt c = false) : a.lt c = false := by
  cases q : a.lt c with
  | false => rfl
  | true =>
    rcases ky_tri b c with e | e | e
    · subst e; rw [h1] at q; cases q
    · rw [h2] at e; cases e
    · have := ky_tr q e; rw [h1] at this; cases this
/-- the order of the least heap, and of the greatest -/
theorem ord_min : Ord (fun a b : P2 => a.2.lt b.2) := ⟨fun a b h => ky_asy h, fun a b c h1 h2 => ky_tr h1 h2, fun a b c h1 h2 => ky_ntr h1 h2⟩
theorem ord_max : Ord (fun a b : P2 => b.2.lt a.2) := ⟨fun a b h => ky_asy h, fun a b c h1 h2 => ky_tr h2 h1, fun a b c h1 h2 => ky_ntr h2 h1⟩
end
section
open PySem PySem.W PyProof.Rows PySem.Calls
/-- the number of those before: a number in the order of r -/
noncomputable def rank (r : Nat → Nat → Bool) (n i : Nat) : Nat := ((List.range n).filter fun k => r k i).length
theorem filter_le {p q : Nat → Bool} : ∀ {l : List Nat}, (∀ k ∈ l, p k = true → q k = true) → (l.filter p).length ≤ (l.filter q).length
  | [], _ => Nat.le_refl _
  | x :: l, h => by
    have ih := filter_le (p := p) (q := q) (l := l) fun k hk => h k (.tail _ hk)
    have hx := h x (.head _)
    rw [List.filter_cons, List.filter_cons]
    cases hp : p x with
    | true => rw [hx hp]; simpa using ih
    | false =>
      cases q x with
      | true => simp; omega
      | false => simpa using ih
theorem filter_lt {p q : Nat → Bool} {x : Nat} : ∀ {l : List Nat}, (∀ k ∈ l, p k = true → q k = true) → x ∈ l → p x = false → q x = true → (l.filter p).length < (l.filter q).length
  | [], _, hx, _, _ => by cases hx
  | y :: l, h, hx, h1, h2 => by
    rw [List.filter_cons, List.filter_cons]
    have hl := filter_le (p := p) (q := q) (l := l) fun k hk => h k (.tail _ hk)
    rcases List.mem_cons.mp hx with rfl | hx
    · rw [h1, h2]; simp; omega
    · have ih := filter_lt (p := p) (q := q) (l := l) (fun k hk => h k (.tail _ hk)) hx h1 h2
      have hy := h y (.head _)
      cases hp : p y with
      | true => rw [hy hp]; simpa using ih
      | false =>
        cases q y with
        | true => simp; omega
        | false => simpa using ih
theorem rank_lt {r : Nat → Nat → Bool} {n : Nat} (O : Ord r) (i j : Nat) (hi : i < n) (hj : j < n) : decide ((rank r n i : Int) < (rank r n j : Int)) = r i j := by
  have irr : ∀ a, r a a = false := fun a => by
    cases q : r a a with
    | false => rfl
    | true => have := O.asy a a q; rw [q] at this; cases this
  cases h : r i j with
  | true =>
    have : rank r n i < rank r n j := filter_lt (x := i) (fun k _ hk => O.tr k i j hk h) (List.mem_range.mpr hi) (irr i) h
    simpa using by omega
  | false =>
    have : rank r n j ≤ rank r n i := filter_le fun k _ hk => by
      cases q : r k i with
      | true => rfl
      | false => have := O.ntr k i j q h; rw [hk] at this; cases this
    simpa using by omega
/-- up or down -/
noncomputable def sg (b : Bool) (f : Nat → Int) : Nat → Int := fun i => if b = true then - f i else f i
theorem getD_map_lt {l : List Value} {i : Nat} (h : i < l.length) : l.getD i Value.none = l[i] := by simp [h]
section
variable {prog : Program} {w : World} {A : Around} {E : Value → Shared → Prop} {s : Shared}
theorem rev_perm {n : Nat} {p : List Nat} (h : p.Perm (List.range n)) : (p.reverse.map fun i => n - 1 - i).Perm (List.range n) := by
  refine (List.perm_ext_iff_of_nodup ?_ List.nodup_range).mpr fun a => ?_
  · have hn : p.reverse.Nodup := (List.reverse_perm p).nodup_iff.mpr (h.nodup_iff.mpr List.nodup_range)
    rw [List.Nodup, List.pairwise_map]
    refine hn.imp_of_mem fun {x y} hx hy hxy e => ?_
    have h1 := List.mem_range.mp (h.mem_iff.mp (List.mem_reverse.mp hx))
    have h2 := List.mem_range.mp (h.mem_iff.mp (List.mem_reverse.mp hy))
    omega
  · rw [List.mem_map, List.mem_range]
    constructor
    · rintro ⟨x, hx, rfl⟩
      have h1 := List.mem_range.mp (h.mem_iff.mp (List.mem_reverse.mp hx))
      omega
    · intro ha
      exact ⟨n - 1 - a, List.mem_reverse.mpr (h.mem_iff.mpr (List.mem_range.mpr (by omega))), by omega⟩
theorem sort_both {κ : SortKind} {ks vs : List Value} {f : Nat → Int} {Q : SortSt → Shared → Prop} (b : Bool) (hl : ks.length = vs.length) (h2 : 2 ≤ vs.length) (h64 : vs.length < 64)
    (hc : ∀ i j, i < vs.length → j < vs.length → ∀ C : Bool → Shared → Prop, C (decide (f i < f j)) s → wpAny (model prog w) A (keyLt' κ (ks.getD i .none) (ks.getD j .none)) C (fun _ _ => False) s)
    (h : ∀ st (p : List Nat), p.Perm (List.range vs.length) → p.Pairwise (Lx (sg b f)) → failedOf st = none → (if b = true then ((arrOf st).map (·.2)).reverse else (arrOf st).map (·.2)) = (p.map fun i => vs.getD i .none).toArray → Q st s) :
    wpAny (model prog w) A ((sortRuns').run (SortSt.mk' κ (if b = true then (ks.toArray.zip vs.toArray).reverse else ks.toArray.zip vs.toArray) #[] 7 none)) (fun r s' => Q r.2 s') E s := by
  have hlen : ∀ {l : List Value}, l.length = vs.length → (katRev b l).length = vs.length := fun hl => by rw [kat_len, hl]
  have hgo : ∀ (g : Nat → Int), (∀ i j, i < vs.length → j < vs.length → ∀ C : Bool → Shared → Prop, C (decide (g i < g j)) s → wpAny (model prog w) A (keyLt' κ ((katRev b ks).getD i .none) ((katRev b ks).getD j .none)) C (fun _ _ => False) s) →
      (∀ st (p : List Nat), p.Perm (List.range vs.length) → p.Pairwise (Lx g) → failedOf st = none → (arrOf st).map (·.2) = (p.map fun i => (katRev b vs).getD i .none).toArray → Q st s) →
      wpAny (model prog w) A ((sortRuns').run (SortSt.mk' κ (if b = true then (ks.toArray.zip vs.toArray).reverse else ks.toArray.zip vs.toArray) #[] 7 none)) (fun r s' => Q r.2 s') E s := by
    intro g hcg hg
    rw [kat_pairs b hl]
    have e : (katRev b vs).length = vs.length := hlen rfl
    refine kat_run (G := fun p s' => s' = s ∧ p.toList.Perm (List.range vs.length) ∧ p.toList.Pairwise (Lx g)) (by rw [hlen hl, e]) (by rw [e]; exact h2) (by rw [e]; exact h64) (fun p st' s' hp har hf hq => ?_) ?_
    · obtain ⟨rfl, h1, h2⟩ := hq
      exact hg st' p.toList h1 h2 hf (kat_snds (by rw [hlen hl, e]) har)
    · rw [e]
      refine wp_run (n := vs.length) (c := cf g) (Inv := fun s' => s' = s) (P := fun _ => True) ?_ _ _ _ (good_sort (by omega)) rfl ?_
      · rintro i j C s' hi hj rfl hC
        exact hcg i j hi hj C (hC _ rfl)
      · rintro s' rfl
        have := sort_run (f := g) (n := vs.length) (by omega)
        exact ⟨rfl, by simpa using (Array.perm_iff_toList_perm.mp this.1), this.2⟩
  cases b with
  | false =>
    have e : sg false f = f := by funext i; simp [sg]
    rw [e] at h
    exact hgo f hc fun st p h1 h3 h4 h5 => h st p h1 h3 h4 (by simpa [katRev] using h5)
  | true =>
    have hrev : ∀ {l : List Value} {i : Nat}, l.length = vs.length → i < vs.length → (katRev true l).getD i Value.none = l.getD (vs.length - 1 - i) Value.none := by
      intro l i hl hi
      have h1 : i < (katRev true l).length := by rw [kat_len, hl]; exact hi
      have h2 : vs.length - 1 - i < l.length := by omega
      rw [getD_map_lt h1, getD_map_lt h2]
      have : (katRev true l)[i] = l.reverse[i]'(by simpa [katRev] using h1) := by simp [katRev]
      rw [this, List.getElem_reverse]
      congr 1
      omega
    refine hgo (fun i => f (vs.length - 1 - i)) (fun i j hi hj C hC => ?_) fun st p h1 h3 h4 h5 => ?_
    · rw [hrev hl hi, hrev hl hj]
      exact hc _ _ (by omega) (by omega) C hC
    · have hmem : ∀ i ∈ p, i < vs.length := fun i hi => List.mem_range.mp (h1.mem_iff.mp hi)
      refine h st (p.reverse.map fun i => vs.length - 1 - i) (rev_perm h1) ?_ h4 ?_
      · rw [List.pairwise_map, List.pairwise_reverse]
        refine h3.imp_of_mem fun {x y} hx hy hxy => ?_
        have h1 := hmem x hx
        have h2 := hmem y hy
        unfold Lx sg at *
        simp only [if_true] at *
        omega
      · rw [if_pos rfl, h5]
        apply Array.toList_inj.mp
        simp only [List.reverse_toArray, List.map_map]
        rw [← List.map_reverse]
        refine List.map_congr_left fun i hi => ?_
        show (katRev true vs).getD i Value.none = vs.getD (vs.length - 1 - i) Value.none
        exact hrev rfl (hmem i (List.mem_reverse.mp hi))
/-! kinds and answers -/
theorem slot_bytes_lt' : Slot "bytes" (Str.ofString "__lt__") "bytes.__lt__" :=
  .of (owner := "bytes") (n := "__lt__") (by rw [typeLookup_type, builtinLookup_eq_fast]; kernel_rfl) (by decide +kernel) (by decide +kernel) (by decide +kernel)
    (by first | exact .inl (by decide +kernel) | exact .inr (by decide +kernel)) (by rw [isSubtype_type]; kernel_rfl)
theorem oneLt_bytes {b c : List UInt8} {t u : Tok} {Q : Bool → Shared → Prop} (h : Q (ltB b c) s) : wpAny (model prog w) A (oneLt' true (.bytes b.toArray t) (.bytes c.toArray u)) Q E s := by
  rw [oneLt'_eq]
  simp only [if_true]
  refine wpAny_bind (wpAny_cRoomFor_byValue rfl ?_)
  refine wpAny_bind (wpAny_callSpecialIfBound?_slot (typeIs_bytes s b.toArray t) slot_bytes_lt' (call_givesAt (P := fun _ => True) slot_bytes_lt' (typeIs_bytes s b.toArray t) entry_bytes_lt (args_bytes_lt_2 _ _) (gives_bytes_lt b.toArray c.toArray t u).at trivial ?_))
  exact wpAny_truthy_bool h
end
end
section
open PySem PySem.W PyProof.Rows PySem.Calls
/-- what is to be known of a list for its sort: its kind is found, and each two are told apart by f -/
noncomputable def Srt (prog : Program) (w : World) (P : Shared → Prop) (ks : List Value) (f : Nat → Int) : Prop :=
  ∃ κ : SortKind, (∀ (A : Around) (E : Value → Shared → Prop) (Q : SortKind → Shared → Prop) (s : Shared), P s → Q κ s → wpAny (model prog w) A (keyKind' ks.toArray) Q E s) ∧
    ∀ (A : Around) (s : Shared) (i j : Nat) (C : Bool → Shared → Prop), P s → i < ks.length → j < ks.length → C (decide (f i < f j)) s → wpAny (model prog w) A (keyLt' κ (ks.getD i .none) (ks.getD j .none)) C (fun _ _ => False) s
/-- pairs of ints -/
noncomputable def IsP (h : Heap) (v : Value) (y : Int × Int) : Prop := ∃ a t1 t2, v = .ref a ∧ IsTup h a #[.int y.1 t1, .int y.2 t2]
theorem IsP.keeps {h h' : Heap} {v : Value} {y : Int × Int} (H : IsP h v y) (hk : ∀ b o, h.get? b = some o → o.cls = .type "tuple" → h'.get? b = some o) : IsP h' v y := by
  obtain ⟨a, t1, t2, rfl, o, ho, hc, hd⟩ := H
  exact ⟨a, t1, t2, rfl, o, hk _ _ ho hc, hc, hd⟩
noncomputable def ltP (x y : Int × Int) : Bool := if x.1 = y.1 then decide (x.2 < y.2) else decide (x.1 < y.1)
theorem ord_ltP : Ord ltP := by
  refine ⟨fun a b => ?_, fun a b c => ?_, fun a b c => ?_⟩ <;> unfold ltP <;> intros <;> (repeat' split at *) <;> simp only [decide_eq_true_eq, decide_eq_false_iff_not] at * <;> walk_at "lia"
theorem Ord.on {α : Type} {r : α → α → Bool} (O : Ord r) (g : Nat → α) : Ord (fun i j => r (g i) (g j)) := ⟨fun a b => O.asy _ _, fun a b c => O.tr _ _ _, fun a b c => O.ntr _ _ _⟩
theorem ord_ky : Ord Ky.lt := ⟨fun a b h => ky_asy h, fun a b c h1 h2 => ky_tr h1 h2, fun a b c h1 h2 => ky_ntr h1 h2⟩
section
variable {prog : Program} {w : World} {A : Around} {E : Value → Shared → Prop} {s : Shared}
theorem IsTup.seq {h : Heap} {a : Addr} {xs : Array Value} (H : IsTup h a xs) : ∃ o n, h.get? a = some o ∧ o.cls = .type "tuple" ∧ o.data = .seq xs n := by
  obtain ⟨o, ho, hc, n, hd⟩ := H
  exact ⟨o, n, ho, hc, hd⟩
theorem key_lt_ky {v v' : Value} {x y : Ky} {Q : Bool → Shared → Prop} (hx : IsK s.heap v x) (hy : IsK s.heap v' y) (h : Q (x.lt y) s) : wpAny (model prog w) A (keyLt' (tuples' true) v v') Q (fun _ _ => False) s := by
  obtain ⟨a, t1, t2, t3, rfl, hx⟩ := hx
  obtain ⟨b, u1, u2, u3, rfl, hy⟩ := hy
  obtain ⟨ox, n, hx1, _, hx2⟩ := IsTup.seq hx
  obtain ⟨oy, k, hy1, _, hy2⟩ := IsTup.seq hy
  refine kat_lt hx1 hx2 hy1 hy2 ?_
  show KatLex prog w A true _ Q [(.bytes x.k.toArray t1, .bytes y.k.toArray u1), (.int x.o t2, .int y.o u2), (.int x.e t3, .int y.e u3)] 0 s
  refine kat_cons (eqBool_bytes ?_)
  by_cases hk : x.k = y.k
  · simp only [hk, decide_true]
    refine kat_yes (kat_cons (wpAny_eqBool_int ?_))
    by_cases ho : x.o = y.o
    · simp only [ho, beq_self_eq_true]
      refine kat_yes (kat_cons (wpAny_eqBool_int ?_))
      by_cases he : x.e = y.e
      · simp only [he, beq_self_eq_true]
        refine kat_yes (kat_nil ?_)
        have : x.lt y = decide (3 < 3) := by simp [Ky.lt, hk, ho, he]
        rw [this] at h; exact h
      · have hb : (x.e == y.e) = false := by simpa using he
        simp only [hb]
        refine kat_no (kat_one _ _ (lt_int ?_))
        have : x.lt y = decide (x.e < y.e) := by simp [Ky.lt, hk, ho]
        rw [this] at h; exact h
    · have hb : (x.o == y.o) = false := by simpa using ho
      simp only [hb]
      refine kat_no (kat_one _ _ (lt_int ?_))
      have : x.lt y = decide (x.o < y.o) := by simp [Ky.lt, hk, ho]
      rw [this] at h; exact h
  · simp only [hk, decide_false]
    refine kat_no (oneLt_bytes ?_)
    have : x.lt y = ltB x.k y.k := by simp [Ky.lt, hk]
    rw [this] at h; exact h
theorem key_lt_p {v v' : Value} {x y : Int × Int} {Q : Bool → Shared → Prop} (hx : IsP s.heap v x) (hy : IsP s.heap v' y) (h : Q (ltP x y) s) : wpAny (model prog w) A (keyLt' (tuples' true) v v') Q (fun _ _ => False) s := by
  obtain ⟨a, t1, t2, rfl, hx⟩ := hx
  obtain ⟨b, u1, u2, rfl, hy⟩ := hy
  obtain ⟨ox, n, hx1, _, hx2⟩ := IsTup.seq hx
  obtain ⟨oy, k, hy1, _, hy2⟩ := IsTup.seq hy
  refine kat_lt hx1 hx2 hy1 hy2 ?_
  show KatLex prog w A true _ Q [(.int x.1 t1, .int y.1 u1), (.int x.2 t2, .int y.2 u2)] 0 s
  refine kat_cons (wpAny_eqBool_int ?_)
  by_cases ho : x.1 = y.1
  · simp only [ho, beq_self_eq_true]
    refine kat_yes (kat_cons (wpAny_eqBool_int ?_))
    by_cases he : x.2 = y.2
    · simp only [he, beq_self_eq_true]
      refine kat_yes (kat_nil ?_)
      have : ltP x y = decide (2 < 2) := by simp [ltP, ho, he]
      rw [this] at h; exact h
    · have hb : (x.2 == y.2) = false := by simpa using he
      simp only [hb]
      refine kat_no (kat_one _ _ (lt_int ?_))
      have : ltP x y = decide (x.2 < y.2) := by simp [ltP, ho]
      rw [this] at h; exact h
  · have hb : (x.1 == y.1) = false := by simpa using ho
    simp only [hb]
    refine kat_no (oneLt_int ?_)
    have : ltP x y = decide (x.1 < y.1) := by simp [ltP, ho]
    rw [this] at h; exact h
theorem tups_of {vs : List Value} {h : Heap} {P : Value → Prop} : (∀ v ∈ vs, ∃ a f xs, v = .ref a ∧ IsTup h a xs ∧ xs[0]? = some f ∧ P f) → ∃ fs, KatTups h vs fs ∧ fs.length = vs.length ∧ ∀ f ∈ fs, P f := by
  induction vs with
  | nil => exact fun _ => ⟨[], trivial, rfl, fun _ h => nomatch h⟩
  | cons v vs ih =>
    intro H
    obtain ⟨a, f, xs, rfl, ht, hf, hp⟩ := H v (.head _)
    obtain ⟨fs, h1, h2, h3⟩ := ih fun u hu => H u (.tail _ hu)
    obtain ⟨o, n, ho, hc, hd⟩ := IsTup.seq ht
    exact ⟨f :: fs, KatTups.cons ho hc hd hf h1, by simp [h2], fun g hg => by
      rcases List.mem_cons.mp hg with rfl | hg
      · exact hp
      · exact h3 g hg⟩
noncomputable def kyAt (ps : List P2) (i : Nat) : Ky := (ps.getD i (.none, ⟨[], 0, 0⟩)).2
theorem srt_ky {ps : List P2} (h0 : 0 < ps.length) : Srt prog w (fun s => IsKs s.heap ps) (ps.map (·.1)) (fun i => (rank (fun i j => (kyAt ps i).lt (kyAt ps j)) ps.length i : Int)) := by
  refine ⟨tuples' true, fun A E Q s hP hq => ?_, fun A s i j C hP hi hj hC => ?_⟩
  · obtain ⟨fs, h1, h2, h3⟩ := tups_of (h := s.heap) (vs := ps.map (·.1)) (P := fun v => ∃ b t, v = .bytes b t) fun v hv => by
      obtain ⟨p, hp, rfl⟩ := List.mem_map.mp hv
      obtain ⟨a, t1, t2, t3, e, ht⟩ := hP p hp
      exact ⟨a, _, _, e, ht, rfl, _, _, rfl⟩
    refine kat_kind (T := .type "bytes") h1 (by rw [h2, List.length_map]; exact h0) (fun v hv => ?_) (by decide) hq
    obtain ⟨b, t, rfl⟩ := h3 v hv
    exact Looks.of_pure rfl
  · rw [List.length_map] at hi hj
    rw [rank_lt (ord_ky.on _) i j hi hj] at hC
    have hk : ∀ i, i < ps.length → IsK s.heap ((ps.map (·.1)).getD i .none) (kyAt ps i) := fun i hi => by
      have h1 : (ps.map (·.1)).getD i Value.none = ps[i].1 := by simp [hi]
      have h2 : kyAt ps i = ps[i].2 := by unfold kyAt; simp [hi]
      rw [h1, h2]
      exact hP _ (List.getElem_mem hi)
    exact key_lt_ky (hk i hi) (hk j hj) hC
noncomputable abbrev PP := Value × (Int × Int)
noncomputable def IsPs (h : Heap) (ps : List PP) : Prop := ∀ p ∈ ps, IsP h p.1 p.2
noncomputable def ppAt (ps : List PP) (i : Nat) : Int × Int := (ps.getD i (.none, (0, 0))).2
theorem srt_p {ps : List PP} (h0 : 0 < ps.length) : Srt prog w (fun s => IsPs s.heap ps) (ps.map (·.1)) (fun i => (rank (fun i j => ltP (ppAt ps i) (ppAt ps j)) ps.length i : Int)) := by
  refine ⟨tuples' true, fun A E Q s hP hq => ?_, fun A s i j C hP hi hj hC => ?_⟩
  · obtain ⟨fs, h1, h2, h3⟩ := tups_of (h := s.heap) (vs := ps.map (·.1)) (P := fun v => ∃ b t, v = .int b t) fun v hv => by
      obtain ⟨p, hp, rfl⟩ := List.mem_map.mp hv
      obtain ⟨a, t1, t2, e, ht⟩ := hP p hp
      exact ⟨a, _, _, e, ht, rfl, _, _, rfl⟩
    refine kat_kind (T := .type "int") h1 (by rw [h2, List.length_map]; exact h0) (fun v hv => ?_) (by decide) hq
    obtain ⟨b, t, rfl⟩ := h3 v hv
    exact Looks.of_pure rfl
  · rw [List.length_map] at hi hj
    rw [rank_lt (ord_ltP.on _) i j hi hj] at hC
    have hk : ∀ i, i < ps.length → IsP s.heap ((ps.map (·.1)).getD i .none) (ppAt ps i) := fun i hi => by
      have h1 : (ps.map (·.1)).getD i Value.none = ps[i].1 := by simp [hi]
      have h2 : ppAt ps i = ps[i].2 := by unfold ppAt; simp [hi]
      rw [h1, h2]
      exact hP _ (List.getElem_mem hi)
    exact key_lt_p (hk i hi) (hk j hj) hC
theorem srt_bytes {vs : List Value} {k : Nat → List UInt8} {f : Nat → Int} (h2 : 2 ≤ vs.length) (hv : ∀ i < vs.length, ∃ t, vs[i]? = some (.bytes (k i).toArray t)) (hf : ∀ i < vs.length, ∀ j < vs.length, ltB (k i) (k j) = decide (f i < f j)) : Srt prog w (fun _ => True) vs f := by
  refine ⟨oneType', fun A E Q s _ hq => ?_, fun A s i j C _ hi hj hC => ?_⟩
  · refine kas_kind (T := .type "bytes") h2 (fun v hv' => ?_) (by decide) (by decide) hq
    obtain ⟨i, hi, rfl⟩ := List.getElem_of_mem hv'
    obtain ⟨t, e⟩ := hv i hi
    rw [List.getElem?_eq_getElem hi] at e
    rw [Option.some.inj e]
    exact Looks.of_pure rfl
  · obtain ⟨t, e⟩ := hv i hi
    obtain ⟨u, e'⟩ := hv j hj
    rw [keyLt'_oneType, List.getD_eq_getElem?_getD, List.getD_eq_getElem?_getD, e, e']
    refine oneLt_bytes ?_
    rw [hf i hi j hj]; exact hC
end
end
section
open PySem PySem.W PyProof.Rows PySem.Calls
theorem LedUp.pm {a : Addr} {o o' : Kn} {l l' : List (Addr × Kn)} (h : LedUp a o o' l l') : ∃ r, l.Perm ((a, o) :: r) ∧ l'.Perm ((a, o') :: r) := by
  induction h with
  | here => exact ⟨_, .refl _, .refl _⟩
  | @there p r r' h ih =>
    obtain ⟨q, h1, h2⟩ := ih
    exact ⟨p :: q, (h1.cons p).trans (.swap ..), (h2.cons p).trans (.swap ..)⟩
/-- the tree of list.sort without a key -/
noncomputable def lsortT (D : Addr) (b : Bool) : Sem PySem.Fin := (do
    let items ← Builtin.List.listItems (.ref D)
    Builtin.List.listUpdate (.ref D) fun _ => #[]
    let before ← seqEpoch D
    let held ← newTuple items.toList
    let keyStore ← newList []
    holding [held, keyStore] do
      if b then rule "list.sort.reverse"
      let kind ← if items.size < 2 then pure general' else keyKind' items
      let ((), s) ← (if items.size < 2 then pure () else sortRuns').run (SortSt.mk' kind (if b then (items.zip items).reverse else items.zip items) #[] 7 none)
      let sorted := (arrOf s).map (·.2)
      let touched := (← seqEpoch D) != before
      Builtin.List.listUpdate (.ref D) fun _ => if b then sorted.reverse else sorted
      if let some e := failedOf s then rule "list.sort.comparison-raised"; throw e
      if touched then rule "list.sort.modified"; raiseError "ValueError" "list modified during sort"
      ret .none)
theorem lsortT_rev (D : Addr) (b : Bool) : Builtin.«list.sort» ⟨[.ref D], [(Str.ofString "reverse", .bool b)]⟩ = lsortT D b := list_sort_rev D b
theorem lsortT_plain (D : Addr) : Builtin.«list.sort» ⟨[.ref D], []⟩ = lsortT D false := list_sort_plain D
section
variable {prog : Program} {w : World} {A : Around} {E : Value → Shared → Prop} {s₀ s : Shared} {mg mb : Str → Option Value} {W : List Addr} {L D : Addr} {l : List (Str × Value)} {led r : List (Addr × Kn)} {its : List Value} {f : Nat → Int} {P : Shared → Prop}
theorem small_line {n : Nat} (h : n < 64) : n ≤ sizeLine := by rw [sizeLine_eq]; omega
theorem lsort_go {b : Bool} {R : PySem.Fin → Shared → Prop} (S : St s₀ W L l ((D, .lst its) :: r) s) (h2 : 2 ≤ its.length) (h64 : its.length < 64) (hS : Srt prog w P its f)
    (hP : ∀ s', (∀ c o, c ≠ D → s.heap.get? c = some o → s'.heap.get? c = some o) → P s')
    (h : ∀ (p : List Nat) s', p.Perm (List.range its.length) → p.Pairwise (Lx (sg b f)) → St s₀ W L l ((D, .lst (p.map fun i => its.getD i .none)) :: r) s' → (∀ c o, c ≠ D → s.heap.get? c = some o → s'.heap.get? c = some o) → R (.done (.ret .none)) s') :
    wpAny (model prog w) A (lsortT D b) R E s := by
  obtain ⟨κ, hk, hc⟩ := hS
  obtain ⟨o, ho, n, rfl⟩ := S.hold _ (.head _)
  have hz : its.toArray.size = its.length := by simp
  unfold lsortT
  refine wpAny_bind (listItems_at ho rfl ?_)
  refine wpAny_bind (listUpdate_at ho rfl ?_ (by rw [hz]; exact small_line h64) (Nat.zero_le _))
  have sb := Heap.SameBut.update s.heap D (Obj.mapSeq fun _ => (#[] : Array Value))
  have S1 := S.upd (t := s.toks) (o' := .lst []) .here (get?_update_seq ho fun _ => #[]) ⟨_, rfl⟩ fun c o hc e => sb.extBut c o hc e
  have k1 : ∀ c o, c ≠ D → s.heap.get? c = some o → (s.heap.update D (Obj.mapSeq fun _ => (#[] : Array Value))).get? c = some o := fun c o hc e => sb.extBut c o hc e
  obtain ⟨o1, ho1, n1, rfl⟩ := S1.hold _ (.head _)
  refine wpAny_bind (seqEpoch_at ho1 rfl ?_)
  refine wpAny_bind (wpAny_newTuple ?_ (by simpa using small_line h64))
  have S2 := S1.new (t := s.toks) (o := { cls := .type "tuple", data := .seq its.toArray.toList.toArray }) (kn := .pr fun _ => True) rfl rfl trivial
  refine wpAny_bind (wpAny_newList ?_ (Nat.zero_le _))
  have S3 := S2.new (t := s.toks) (o := { cls := .type "list", data := .seq ([] : List Value).toArray }) (kn := .pr fun _ => True) rfl rfl trivial
  refine wpAny_holding ?_
  generalize hs3 : ({ s with heap := ((s.heap.update D (Obj.mapSeq fun _ => (#[] : Array Value))).push { cls := .type "tuple", data := .seq its.toArray.toList.toArray }).push { cls := .type "list", data := .seq ([] : List Value).toArray }, toks := s.toks } : Shared) = s3 at S3
  have k3 : ∀ c o, c ≠ D → s.heap.get? c = some o → s3.heap.get? c = some o := fun c o hc e => by
    rw [← hs3]
    exact Heap.get?_push_of_some _ (Heap.get?_push_of_some _ (k1 c o hc e))
  have hn2 : ¬ its.toArray.size < 2 := by rw [hz]; omega
  dsimp only
  rw [if_neg hn2, if_neg hn2]
  have step : ∀ t : Sem PySem.Fin, wpAny (model prog w) A t R E s3 → wpAny (model prog w) A (if b = true then (do let _ ← rule "list.sort.reverse"; t) else t) R E s3 := by
    intro t ht
    split
    · exact wpAny_bind (wpAny_rule ht)
    · exact ht
  refine step _ ?_
  refine wpAny_bind (hk A E _ s3 (hP s3 k3) ?_)
  refine wpAny_bind (wpAny_mono (sort_both (f := f) (Q := fun st s' => s' = s3 ∧ ∃ p : List Nat, p.Perm (List.range its.length) ∧ p.Pairwise (Lx (sg b f)) ∧ failedOf st = none ∧ (if b = true then ((arrOf st).map (·.2)).reverse else (arrOf st).map (·.2)) = (p.map fun i => its.getD i .none).toArray)
    b rfl h2 h64 (fun i j hi hj C hC => hc A s3 i j C (hP s3 k3) hi hj hC) fun st p hp hpw hf hout => ⟨rfl, p, hp, hpw, hf, hout⟩) ?_ fun _ _ e => e)
  rintro ⟨⟨⟩, st⟩ s3 ⟨rfl, p, hp, hpw, hf, hout⟩
  dsimp only
  rw [hout]
  generalize hP' : (p.map fun i => its.getD i Value.none) = out
  have hol : out.length = its.length := by rw [← hP']; simp [hp.length_eq]
  obtain ⟨o4, ho4, n4, rfl⟩ := S3.drop.drop.hold _ (.head _)
  have hD : ∀ {h : Heap}, True := fun {_} => trivial
  refine wpAny_bind (seqEpoch_at ho4 rfl ?_)
  refine wpAny_bind (listUpdate_at ho4 rfl ?_ (Nat.zero_le _) (by rw [List.size_toArray, hol, sizeLine_eq]; omega))
  rw [hf]
  have hn : n4 = n1 := by
    have h1 := (Heap.get?_push_of_some { cls := .type "list", data := .seq ([] : List Value).toArray } (Heap.get?_push_of_some { cls := .type "tuple", data := .seq its.toArray.toList.toArray } ho1))
    rw [← hs3] at ho4
    have h2 := h1.symm.trans ho4
    injection h2 with h2
    injection h2 with _ _ h2 _
    injection h2 with _ h2
    exact h2.symm
  subst hn
  have sb4 := Heap.SameBut.update s3.heap D (Obj.mapSeq fun _ => out.toArray)
  have hup := get?_update_seq ho4 (fun _ => out.toArray)
  have S4 := S3.drop.drop.upd (t := s3.toks) (o' := .lst out) .here hup ⟨_, rfl⟩ fun c o hc e => sb4.extBut c o hc e
  simp only [bne_self_eq_false, Bool.false_eq_true, if_false]
  exact wpAny_pure (h p _ hp hpw (hP' ▸ S4) fun c o hc e => sb4.extBut c o hc (k3 c o hc e))
theorem c_lsort {b : Bool} {kw : List (Str × Value)} {led2 : List Value → List (Addr × Kn)} {Q : Value → Shared → Prop} (S : St s₀ W L l led s) (hkw : kw = [] ∧ b = false ∨ kw = [(Str.ofString "reverse", .bool b)]) (hu : ∀ out, LedUp D (.lst its) (.lst out) led (led2 out))
    (h2 : 2 ≤ its.length) (h64 : its.length < 64) (hS : Srt prog w P its f) (hP : ∀ s', (∀ c o, c ≠ D → s.heap.get? c = some o → s'.heap.get? c = some o) → P s')
    (h : ∀ (p : List Nat) s', p.Perm (List.range its.length) → p.Pairwise (Lx (sg b f)) → St s₀ W L l (led2 (p.map fun i => its.getD i .none)) s' → (∀ c o, c ≠ D → s.heap.get? c = some o → s'.heap.get? c = some o) → Q .none s') :
    wpAny (model prog w) A (call (.builtin "list.sort") [.ref D] kw) Q E s := by
  obtain ⟨r, hr, _⟩ := (hu []).pm
  have S0 : St s₀ W L l ((D, .lst its) :: r) s := S.perm hr.symm
  have hfin : ∀ out, (led2 out).Perm ((D, .lst out) :: r) := fun out => by
    obtain ⟨r', h1, h2⟩ := (hu out).pm
    exact h2.trans ((hr.symm.trans h1).cons_inv.symm.cons _)
  obtain ⟨k, hk⟩ := S0.led1 (.head _)
  have body : ∀ (B : Args), Builtin.«list.sort» B = lsortT D b → wpAny (model prog w) A.in1 (Builtin.«list.sort» B) (fun fin s' => ∃ v, fin = .done (.ret v) ∧ Q v s') E s := fun B hB => by
    rw [hB]
    exact lsort_go S0 h2 h64 hS hP fun p s' hp hpw S' hk' => ⟨_, rfl, h p s' hp hpw (S'.perm (hfin _)) hk'⟩
  rcases hkw with ⟨rfl, rfl⟩ | rfl
  · exact wpAny_call_entry slot_list_sort ⟨_, hk, rfl⟩ entry_list_sort (body _ (lsortT_plain D)) (args_list_sort _)
  · exact wpAny_call_entry_kw slot_list_sort ⟨_, hk, rfl⟩ entry_list_sort (body _ (lsortT_rev D b)) (args_list_sort_rev _ _)
end
end
section
open PySem PySem.W PyProof.Rows PySem.Calls
theorem Ok.in1 {A : Around} {n : Nat} (H : Ok A (n + 1)) : Ok A.in1 n := by
  have h1 := H.d
  have h2 := H.u
  refine ⟨?_, H.h, ?_⟩
  · show A.depth + n < recursionLimit; walk_at "lia"
  · show A.units + 1 + 8 * n < cLine; walk_at "lia"
section
variable {prog : Program} {w : World} {A : Around} {E : Value → Shared → Prop} {s₀ s : Shared} {mg mb : Str → Option Value} {W : List Addr} {L D a : Addr} {l : List (Str × Value)} {led r : List (Addr × Kn)} {its : List Value} {f : Nat → Int} {P : Shared → Prop}
  {kf : Addr} {ks : Nat → List UInt8} {N : Nat}
theorem ksort_go {b : Bool} {R : PySem.Fin → Shared → Prop} (S : St s₀ W L l ((D, .lst its) :: r) s) (h2 : 2 ≤ its.length) (h64 : its.length < 64) (hA : Ok A 3) (hkey : KeyOk prog w s₀ W kf ks N)
    (hits : ∀ i (h : i < its.length), i < N ∧ ∃ t, its[i]? = some (.int (i : Int) t))
    (hf : ∀ i < its.length, ∀ j < its.length, ltB (ks i) (ks j) = decide (f i < f j))
    (h : ∀ (p : List Nat) s', p.Perm (List.range its.length) → p.Pairwise (Lx (sg b f)) → St s₀ W L l ((D, .lst (p.map fun i => its.getD i .none)) :: r) s' → R (.done (.ret .none)) s') :
    wpAny (model prog w) A (ksk_tree D (.ref kf) b) R E s := by
  obtain ⟨o, ho, n, rfl⟩ := S.hold _ (.head _)
  have hz : its.toArray.size = its.length := by simp
  unfold ksk_tree
  refine wpAny_bind (listItems_at ho rfl ?_)
  refine wpAny_bind (listUpdate_at ho rfl ?_ (by rw [hz]; exact small_line h64) (Nat.zero_le _))
  have sb := Heap.SameBut.update s.heap D (Obj.mapSeq fun _ => (#[] : Array Value))
  obtain ⟨n1, ho1⟩ : ∃ n1, (s.heap.update D (Obj.mapSeq fun _ => (#[] : Array Value))).get? D = some (lstO [] n1) := ⟨_, get?_update_seq ho fun _ => #[]⟩
  have S1 := S.upd (t := s.toks) (o' := .ob (lstO [] n1)) .here ho1 rfl fun c o hc e => sb.extBut c o hc e
  refine wpAny_bind (seqEpoch_at ho1 rfl ?_)
  refine wpAny_bind (wpAny_newTuple ?_ (by simpa using small_line h64))
  have S2 := S1.new (t := s.toks) (o := { cls := .type "tuple", data := .seq its.toArray.toList.toArray }) (kn := .pr fun _ => True) rfl rfl trivial
  refine wpAny_bind (wpAny_newList ?_ (Nat.zero_le _))
  have S3 := S2.new (t := s.toks) (o := { cls := .type "list", data := .seq ([] : List Value).toArray }) (kn := .lst []) rfl rfl ⟨0, rfl⟩
  refine wpAny_holding ?_
  dsimp only at S3
  generalize (s.heap.update D (Obj.mapSeq fun _ => (#[] : Array Value))).objs.size = hT at S3 ⊢
  generalize hkS : ((s.heap.update D (Obj.mapSeq fun _ => (#[] : Array Value))).push { cls := .type "tuple", data := .seq its.toArray.toList.toArray }).objs.size = kS at S3 ⊢
  generalize hs3 : ({ s with heap := ((s.heap.update D (Obj.mapSeq fun _ => (#[] : Array Value))).push { cls := .type "tuple", data := .seq its.toArray.toList.toArray }).push { cls := .type "list", data := .seq ([] : List Value).toArray }, toks := s.toks } : Shared) = s3 at S3 ⊢
  clear hs3 hkS S2 S1 sb ho1 ho
  unfold ksk_rest
  refine wpAny_bind (wpAny_rule ?_)
  first
    | rw [List.forIn_toArray]
    | (rw [← Array.forIn_toList]; simp only [List.toList_toArray])
    | rw [← Array.forIn_toList]
  refine wpAny_bind (ksk_fold (fun i s' => ∃ keys : List Value, keys.length = i ∧ (∀ k < i, ∃ t, keys[k]? = some (.bytes (ks k).toArray t)) ∧ St s₀ W L l ((kS, .lst keys) :: (hT, .pr fun _ => True) :: (D, .ob (lstO [] n1)) :: r) s') its 0 s3 ⟨[], rfl, fun k hk => absurd hk (Nat.not_lt_zero _), S3⟩ ?_ ?_)
  · rintro j x s4 hx ⟨keys, hkl, hkv, S4⟩
    rw [Nat.zero_add] at hkl hkv ⊢
    have hj : j < its.length := (List.getElem?_eq_some_iff.mp hx).1
    obtain ⟨hjN, t, ht⟩ := hits j hj
    rw [ht] at hx
    cases hx
    refine wpAny_bind (wpAny_attempt (hkey.call A _ s4 j t _ S4.keep hA hjN fun t' s5 O5 => ?_))
    have S5 := S4.out O5
    obtain ⟨o5, ho5, n5, rfl⟩ := S5.hold _ (.head _)
    refine wpAny_bind (listUpdate_at ho5 rfl ?_ (by rw [List.size_toArray, hkl]; exact small_line (by walk_at "lia")) (by rw [Array.size_push, List.size_toArray, hkl]; exact Nat.succ_le_succ (small_line (by walk_at "lia"))))
    have sb5 := Heap.SameBut.update s5.heap kS (Obj.mapSeq (·.push (.bytes (ks j).toArray t')))
    have hup := get?_update_seq ho5 (·.push (.bytes (ks j).toArray t'))
    have S6 := S5.upd (t := s5.toks) (o' := .lst (keys ++ [.bytes (ks j).toArray t'])) .here hup (by rw [List.push_toArray]; exact ⟨_, rfl⟩) fun c o hc e => sb5.extBut c o hc e
    refine wpAny_pure ⟨rfl, keys ++ [.bytes (ks j).toArray t'], by simp [hkl], fun k hk => ?_, S6⟩
    by_cases hkj : k < j
    · obtain ⟨t2, e2⟩ := hkv k hkj
      exact ⟨t2, by rw [List.getElem?_append_left (by walk_at "lia")]; exact e2⟩
    · obtain rfl : k = j := by walk_at "lia"
      exact ⟨t', by rw [List.getElem?_append_right (by walk_at "lia"), hkl, Nat.sub_self]; rfl⟩
  · rintro s4 ⟨keys, hkl, hkv, S4⟩
    rw [Nat.zero_add] at hkl hkv
    obtain ⟨o4, ho4, n4, rfl⟩ := S4.hold _ (.head _)
    refine wpAny_bind (listItems_at ho4 rfl ?_)
    obtain ⟨κ, hk, hc⟩ := srt_bytes (prog := prog) (w := w) (vs := keys) (k := ks) (f := f) (by walk_at "lia") (fun i hi => hkv i (by walk_at "lia")) fun i hi j hj => hf i (by walk_at "lia") j (by walk_at "lia")
    have hn2 : ¬ its.toArray.size < 2 := by rw [hz]; walk_at "lia"
    unfold ksk_end
    dsimp only
    rw [if_neg hn2, if_neg hn2]
    have step : ∀ t : Sem PySem.Fin, wpAny (model prog w) A t R E s4 → wpAny (model prog w) A (if b = true then (do let _ ← rule "list.sort.reverse"; t) else t) R E s4 := by
      intro t ht
      split
      · exact wpAny_bind (wpAny_rule ht)
      · exact ht
    refine step _ ?_
    refine wpAny_bind (hk A E _ s4 trivial ?_)
    refine wpAny_bind (wpAny_mono (sort_both (f := f) (Q := fun st s' => s' = s4 ∧ ∃ p : List Nat, p.Perm (List.range its.length) ∧ p.Pairwise (Lx (sg b f)) ∧ failedOf st = none ∧ (if b = true then ((arrOf st).map (·.2)).reverse else (arrOf st).map (·.2)) = (p.map fun i => its.getD i .none).toArray)
      b hkl h2 h64 (fun i j hi hj C hC => hc A s4 i j C trivial (by walk_at "lia") (by walk_at "lia") hC) fun st p hp hpw hf hout => ⟨rfl, p, hp, hpw, hf, hout⟩) ?_ fun _ _ e => e)
    rintro ⟨⟨⟩, st⟩ s3 ⟨rfl, p, hp, hpw, hf, hout⟩
    unfold ksk_tail
    dsimp only
    rw [hout]
    generalize hP' : (p.map fun i => its.getD i Value.none) = out
    have hol : out.length = its.length := by rw [← hP']; simp [hp.length_eq]
    refine wpAny_bind (listUpdate_at ho4 rfl ?_ (by rw [List.size_toArray, hkl]; exact small_line h64) (Nat.zero_le _))
    have sb5 := Heap.SameBut.update s3.heap kS (Obj.mapSeq fun _ => (#[] : Array Value))
    have hup5 := get?_update_seq ho4 (fun _ => (#[] : Array Value))
    have S5 := S4.upd (t := s3.toks) (o' := .lst []) .here hup5 ⟨_, rfl⟩ fun c o hc e => sb5.extBut c o hc e
    refine wpAny_bind (wpAny_letGo ?_)
    have S5 := S5.drop.drop
    have ho6 := S5.ob (.head _)
    refine wpAny_bind (seqEpoch_at ho6 rfl ?_)
    refine wpAny_bind (listUpdate_at ho6 rfl ?_ (Nat.zero_le _) (by rw [List.size_toArray, hol, sizeLine_eq]; walk_at "lia"))
    have sb6 := Heap.SameBut.update (s3.heap.update kS (Obj.mapSeq fun _ => (#[] : Array Value))) D (Obj.mapSeq fun _ => out.toArray)
    have hup6 := get?_update_seq ho6 (fun _ => out.toArray)
    have S6 := S5.upd (t := s3.toks) (o' := .lst out) .here hup6 ⟨_, rfl⟩ fun c o hc e => sb6.extBut c o hc e
    rw [hf]
    simp only [bne_self_eq_false, Bool.false_eq_true, if_false]
    exact wpAny_pure (h p _ hp hpw (hP' ▸ S6))
/-- sorted of a list -/
theorem c_sorted_key {b : Bool} {kw : List (Str × Value)} {Q : Value → Shared → Prop} (S : St s₀ W L l led s) (hl : s.heap.IsList a its.toArray) (hkw : kw = [(Str.ofString "key", .ref kf)] ∧ b = false ∨ kw = [(Str.ofString "key", .ref kf), (Str.ofString "reverse", .bool b)])
    (h2 : 2 ≤ its.length) (h64 : its.length < 64) (hA : Ok A 5) (hkey : KeyOk prog w s₀ W kf ks N)
    (hits : ∀ i (h : i < its.length), i < N ∧ ∃ t, its[i]? = some (.int (i : Int) t))
    (hf : ∀ i < its.length, ∀ j < its.length, ltB (ks i) (ks j) = decide (f i < f j))
    (h : ∀ D (p : List Nat) s', p.Perm (List.range its.length) → p.Pairwise (Lx (sg b f)) → St s₀ W L l ((D, .lst (p.map fun i => its.getD i .none)) :: led) s' → Q (.ref D) s') :
    wpAny (model prog w) A (call (.builtin "sorted") [.ref a] kw) Q E s := by
  refine call_function_entry_kw kind_sorted plain_sorted entry_sorted (by rcases hkw with ⟨rfl, _⟩ | rfl; exact ksk_s1 _ _; exact ksk_s2 _ _ _) ?_
  unfold Builtin.«sorted»
  refine wpAny_bind (m := checkCount "sorted" 1 1 _) (wpAny_pure ?_)
  refine wpAny_bind (collect_list hl ?_ (small_line h64))
  have S1 := S.new (t := s.toks) (o := seqObj "list" #[] 0) (kn := .pr fun _ => True) rfl rfl trivial
  have sb := Heap.SameBut.update (s.heap.push (seqObj "list" #[] 0)) s.heap.objs.size (Obj.mapSeq (· ++ its.toArray))
  have S2 := S1.upd (t := s.toks) (o' := .pr fun _ => True) .here (get?_update_seq (Heap.get?_push_size _ rfl) (· ++ its.toArray)) trivial fun c o hc e => sb.extBut c o hc e
  refine wpAny_bind (wpAny_newList ?_ (small_line h64))
  have S3 := S2.new (t := s.toks) (o := { cls := .type "list", data := .seq its.toArray }) (kn := .lst its) rfl rfl ⟨0, rfl⟩
  dsimp only at S3
  generalize ((s.heap.push (seqObj "list" #[] 0)).update s.heap.objs.size (Obj.mapSeq (· ++ its.toArray))).objs.size = D at S3 ⊢
  obtain ⟨k, hk⟩ := S3.led1 (.head _)
  have ht : ∀ x, Builtin.«list.sort» ⟨[.ref x], kw⟩ = ksk_tree x (.ref kf) b := fun x => by
    rcases hkw with ⟨rfl, rfl⟩ | rfl
    · exact ksk_t1 _ _
    · exact ksk_t2 _ _ _
  refine wpAny_bind (wpAny_holding (wpAny_call_entry_kw slot_list_sort ⟨_, hk, rfl⟩ entry_list_sort ?body (by rcases hkw with ⟨rfl, _⟩ | rfl; exact ksk_l1 _ _; exact ksk_l2 _ _ _)))
  rw [ht]
  refine ksort_go S3 h2 h64 hA.in1.in1 hkey hits hf fun p s' hp hpw S' => ⟨_, rfl, wpAny_pure ⟨_, rfl, h D p s' hp hpw ?_⟩⟩
  exact S'.perm (List.Perm.cons _ (List.Perm.refl _)) |>.subled (.cons_cons _ (List.sublist_cons_self ..))
end
end
section
open PySem PySem.W PyProof.Rows PySem.Calls
/-- an iterator of a list that has come to its end -/
noncomputable abbrev lixK : Kn := .pr fun o => o.cls = .type "list_iterator" ∧ ∃ v, o.data = .fields #[.none, v]
noncomputable def NextX (prog : Program) (w : World) (s₀ : Shared) (W : List Addr) (L : Addr) (l : List (Str × Value)) (i : Addr) (k k' : Kn) : Prop :=
  ∀ (A : Around) (E : Value → Shared → Prop) s led led' (Q : Value → Shared → Prop), A.handled = none → St s₀ W L l led s → LedUp i k k' led led' →
    (∀ e s', St s₀ W L l led' s' → (∃ o, s'.heap.get? e = some o ∧ o.cls = .type "StopIteration") → E (.ref e) s') → wpAny (model prog w) A (Builtin.SmallTypes.nextOf (.ref i)) Q E s
section
variable {prog : Program} {w : World} {A : Around} {E : Value → Shared → Prop} {s₀ s : Shared} {W : List Addr} {L D I a : Addr} {l l' : List (Str × Value)} {led led' rest rest1 rest2 : List (Addr × Kn)}
  {env : Env} {pos pos' : Pos} {v : Value} {mg mb : Str → Option Value}
theorem nextX_list {ax : Addr} {its : List Value} {i : Nat} (hl : ∀ led s, St s₀ W L l led s → s.heap.IsList ax its.toArray) (hx : its[i]? = none) : NextX prog w s₀ W L l I (litK ax i) lixK := fun A E s led led' Q hA S hu h => by
  obtain ⟨o, ho, hc, hd⟩ := S.kn hu.mem
  have hit : s.heap.IsListIter I ax i := ⟨o, ho, hc, hd⟩
  obtain ⟨ol, hol, _, nl, hdl⟩ := hl _ _ S
  unfold Builtin.SmallTypes.nextOf
  refine wpAny_bind (wpAny_callSpecial?_slot (name := Str.ofString "__next__") hit.typeIs slot_listiter_next
    (wpAny_call_entry slot_listiter_next hit.typeIs entry_listiter_next ?_ (args_listiter_next _)))
  show wpAny _ _ (field (.ref I) 0 >>= _) _ _ s
  refine wpAny_bind (wpAny_field ho hd (x := .ref ax) rfl ?_)
  show wpAny _ _ (if (Value.ref ax == Value.none) = true then _ else _) _ _ s
  rw [if_neg (show ¬ ((Value.ref ax == Value.none) = true) from Bool.false_ne_true)]
  show wpAny _ _ (field (.ref I) 1 >>= _) _ _ s
  refine wpAny_bind (wpAny_field ho hd (x := .int i 0) rfl ?_)
  show wpAny _ _ (seqItems? (.ref ax) >>= _) _ _ s
  refine wpAny_bind (wpAny_seqItems hol hdl ?_)
  have hx' : its.toArray[i]? = none := by simpa using hx
  simp only [Int.toNat_natCast, hx']
  refine wpAny_bind (wpAny_rule (wpAny_bind (wpAny_setField ho hd (by simp) ?_)))
  have hd₃ := Obj.data_mapFields hd (·.setIfInBounds 0 Value.none)
  have S1 := S.upd (t := s.toks) hu (Heap.get?_update_self (Obj.mapFields (·.setIfInBounds 0 Value.none)) ho (Obj.isFreed_of_fields hd₃)) ⟨(Obj.cls_mapFields _ _).trans hc, _, hd₃⟩ fun b o hb x => (Heap.SameBut.update ..).extBut b o hb x
  show wpAny _ _ (newExc (.type "StopIteration") [] >>= _) _ _ _
  refine wpAny_bind ?_
  simp only [newExc, newTuple]
  refine wpAny_bind (wpAny_newObj_type ?_ (by size_fits))
  refine wpAny_bind (m := firstArgMember _ _) (wpAny_of_eq (a := Value.none) (by first | rfl | (simp only [firstArgMember]; rfl)) ?_)
  refine wpAny_newObj_type ?_ (by size_fits)
  simp only [raiseNew]
  refine wpAny_bind (wpAny_handled ?_)
  first | rw [show A.in1.handled = none from hA] | rw [hA]
  refine wpAny_bind (wpAny_pure (wpAny_throw ?_))
  refine h _ _ (S1.keeps ⟨_, _, rfl⟩ fun b o e => Heap.get?_push_of_some _ (Heap.get?_push_of_some _ e)) ⟨_, Heap.get?_push_size _ rfl, rfl⟩
theorem nx_lix {Q : Option Value → Shared → Prop} (hA : A.handled = none) (S : St s₀ W L l led s) (hm : (I, lixK) ∈ led) (h : ∀ s', St s₀ W L l led s' → Q none s') : wpAny (model prog w) A (pyNext (.ref I)) Q E s := by
  obtain ⟨o, ho, hc, v, hd⟩ := S.kn hm
  have hT : s.TypeIs (.ref I) "list_iterator" := ⟨o, ho, hc⟩
  unfold pyNext
  refine wpAny_bind (wpAny_attempt (wpAny_callSpecial?_slot (name := Str.ofString "__next__") hT slot_listiter_next
    (wpAny_call_entry slot_listiter_next hT entry_listiter_next ?_ (args_listiter_next _))))
  show wpAny _ _ (field (.ref I) 0 >>= _) _ _ s
  refine wpAny_bind (wpAny_field ho hd (x := .none) rfl ?_)
  show wpAny _ _ (if (Value.none == Value.none) = true then _ else _) _ _ s
  rw [if_pos (show ((Value.none == Value.none) = true) from rfl)]
  refine wpAny_bind (wpAny_rule ?_)
  show wpAny _ _ ((newExc (.type "StopIteration") [] >>= _) >>= _) _ _ _
  refine wpAny_bind (wpAny_bind ?_)
  simp only [newExc, newTuple]
  refine wpAny_bind (wpAny_newObj_type ?_ (by size_fits))
  refine wpAny_bind (m := firstArgMember _ _) (wpAny_of_eq (a := Value.none) (by first | rfl | (simp only [firstArgMember]; rfl)) ?_)
  refine wpAny_newObj_type ?_ (by size_fits)
  simp only [raiseNew]
  refine wpAny_bind (wpAny_handled ?_)
  rw [show A.in1.handled = none from hA]
  refine wpAny_bind (wpAny_pure (wpAny_throw ?_))
  refine wpAny_bind (wpAny_isInstance (T := "StopIteration") (b := true) ⟨_, Heap.get?_push_size _ rfl, rfl⟩ isSubtype_stop ?_)
  exact wpAny_pure (h _ (S.keeps ⟨_, _, rfl⟩ fun b o e => Heap.get?_push_of_some _ (Heap.get?_push_of_some _ e)))
theorem it_lix {Q : Value → Shared → Prop} (S : St s₀ W L l led s) (hm : (I, lixK) ∈ led) (h : Q (.ref I) s) : wpAny (model prog w) A (pyIter (.ref I)) Q E s := by
  obtain ⟨o, ho, hc, v, hd⟩ := S.kn hm
  have hT : s.TypeIs (.ref I) "list_iterator" := ⟨o, ho, hc⟩
  refine wpAny_pyIter_slot hT slot_listiter_iter (wpAny_call_entry slot_listiter_iter hT entry_listiter_iter ?_ (args_listiter_iter _))
  show wpAny _ _ (ret (.ref I)) _ _ s
  exact wpAny_pure ⟨_, rfl, "list_iterator", _, hT, slot_listiter_next.lookup, h⟩
theorem nx_zip_end2X {z TI TO i1 i2 : Addr} {k1 k1' k2 k2' : Kn} {P1 : Value → Prop} {Q : Option Value → Shared → Prop} (hA : A.handled = none)
    (S : St s₀ W L l ((z, zK TI TO .none) :: (TO, pK) :: (TI, .ob (pairO (.ref i1) (.ref i2))) :: rest) s) (u1 : LedUp i1 k1 k1' rest rest1) (hr : LedUp i2 k2 k2' rest1 rest2)
    (n1 : NextR prog w s₀ W L l i1 k1 k1' P1) (n2 : NextX prog w s₀ W L l i2 k2 k2') (h : ∀ s', St s₀ W L l rest2 s' → Q none s') : wpAny (model prog w) A (pyNext (.ref z)) Q E s := by
  have hz := S.ob (.head _)
  have hT : s.TypeIs (.ref z) "zip" := ⟨_, hz, rfl⟩
  unfold pyNext
  refine wpAny_bind (wpAny_attempt (wpAny_callSpecial?_slot (name := Str.ofString "__next__") hT F.slot_zip_next
    (wpAny_call_entry F.slot_zip_next hT F.entry_zip_next ?_ (F.args_zip_next_1 _))))
  show wpAny _ _ (field (.ref z) 2 >>= _) _ _ _
  refine wpAny_bind (wpAny_field hz rfl (x := .bool false) rfl ?_)
  show wpAny _ _ (field (.ref z) 3 >>= _) _ _ _
  refine wpAny_bind (wpAny_field hz rfl (x := .ref TI) rfl ?_)
  refine wpAny_bind (wpAny_seqItems (S.ob (.tail _ (.tail _ (.head _)))) rfl ?_)
  show wpAny _ _ (Builtin.SmallTypes.ownedTupleIsFree (.ref z) >>= _) _ _ _
  refine wpAny_bind ?_
  unfold Builtin.SmallTypes.ownedTupleIsFree
  refine wpAny_bind (wpAny_field hz rfl (x := .none) rfl (wpAny_pure ?_))
  simp only [if_true]
  refine wpAny_bind (wpAny_rule ?_)
  refine wpAny_bind (wpAny_field hz rfl (x := .ref TO) rfl ?_)
  refine wpAny_bind (wpAny_setField_rec hz (by simp) fun h₁ hz₁ hs₁ => ?_)
  have S1 := S.upd (t := s.toks) (.here (o' := zK TI TO .ellipsis)) hz₁ rfl fun b o hb e => hs₁.extBut b o hb e
  refine wpAny_bind ?_
  simp only [List.zipIdx_cons, List.zipIdx_nil, List.forIn_cons, List.forIn_nil]
  refine wpAny_bind (wpAny_bind (wpAny_onRaise ?_))
  show wpAny _ _ (Builtin.SmallTypes.nextOf (.ref i1) >>= _) _ _ _
  refine wpAny_bind (n1 _ _ _ _ _ _ S1 (.there (.there (.there u1))) fun x s2 hx S2 => wpAny_pure ?_)
  obtain ⟨oTO, hTO, a1, b1, rfl⟩ := S2.kn (.tail _ (.head _))
  refine wpAny_bind (wpAny_seqItems hTO rfl ?_)
  refine wpAny_bind (wpAny_updateSeq_pair hTO fun h₃ hTO₃ hs₃ => ?_)
  have S3 := S2.upd (t := s2.toks) (o := pK) (o' := .ob (pairO x b1)) (.there .here) hTO₃ rfl fun b o hb e => hs₃.extBut b o hb e
  refine wpAny_bind (wpAny_letGo (wpAny_pure ?_))
  refine wpAny_bind (wpAny_bind (wpAny_onRaise ?_))
  show wpAny _ _ (Builtin.SmallTypes.nextOf (.ref i2) >>= _) _ _ _
  refine wpAny_bind (n2 _ _ _ _ _ _ (by first | exact hA | (show A.in1.handled = none; exact hA)) S3 (.there (.there (.there hr))) fun e s4 S4 he => ?_)
  obtain ⟨oe, hoe, hce⟩ := he
  refine wpAny_setField_rec (S4.ob (.head _)) (by simp) fun h₅ hz₅ hs₅ => ?_
  have S5 := S4.upd (t := s4.toks) (.here (o' := zK TI TO .none)) hz₅ rfl fun b o hb e => hs₅.extBut b o hb e
  have hez : e ≠ z := fun q => by
    subst q
    have := S4.ob (.head _)
    rw [this] at hoe; cases hoe
    exact absurd (show Value.type "zip" = Value.type "StopIteration" from hce) (by decide)
  refine wpAny_bind (wpAny_isInstance (T := "StopIteration") (b := true) ⟨oe, hs₅.extBut _ _ hez hoe, hce⟩ isSubtype_stop ?_)
  exact wpAny_pure (h _ S5.drop.drop.drop)
end
end
section
open PySem PySem.W PyProof.Rows PySem.Calls
section
variable {prog : Program} {w : World} {A : Around} {E : Value → Shared → Prop} {s₀ s : Shared} {W : List Addr} {L D I a : Addr} {l l' : List (Str × Value)} {led led' rest : List (Addr × Kn)}
  {env : Env} {pos pos' : Pos} {v : Value} {mg mb : Str → Option Value}
theorem tail_ops {value slice : Expr} {o i : Value} {T id : String} {ops : List Value} {Q : Value → Shared → Prop} (hT : s.TypeIs o T)
    (hl : typeLookup (.type T) "__getitem__" = pure (some (.builtin id))) (h : wpAny (model prog w) A (getItem o i) Q E s) (hs : subscripted slice false o i = operate ops (getItem o i)) :
    wpAny (model prog w) A (subscriptTail value slice o i) Q E s := by
  unfold subscriptTail
  refine wpAny_bind ?_
  rw [getitemInPython_of_ne hT.not_modules]
  refine wpAny_bind (wpAny_specialOf hT hl ?_)
  have fin : wpAny (model prog w) A (subscripted slice false o i) (fun r s₃ => wpAny (model prog w) A (letTemporaryGo value o r >>= fun _ => pure r) Q E s₃) E s := by
    rw [hs]
    exact wpAny_operating (wpAny_mono h (fun r s₃ h₃ => wpAny_bind (wpAny_letTemporaryGo (wpAny_pure h₃))) fun _ _ x => x)
  first
    | exact wpAny_pure (wpAny_bind fin)
    | exact wpAny_bind (wpAny_pure (wpAny_bind fin))
    | exact wpAny_bind fin
/-- xs[:k] -/
theorem sl_upto {hi : Expr} {p : Pos} {value : Expr} {Q : Value → Shared → Prop}
    (h : wpAny (model prog w) A (eval hi env) (fun v s₁ => Ex8 fun (k : Nat) (u : Tok) (its : List Value) (s₀ : Shared) (W : List Addr) (L : Addr) (l : List (Str × Value)) (led : List (Addr × Kn)) => And5 (v = .int (k : Int) u) (St s₀ W L l led s₁) (s₁.heap.IsList a its.toArray) (its.length ≤ 1000) (∀ D' s', St s₀ W L l ((D', .lst (its.take k)) :: led) s' → Q (.ref D') s')) E s) :
    wpAny (model prog w) A (eval (.Slice none (some hi) none p) env) (fun i s₂ => wpAny (model prog w) A (subscriptTail value (.Slice none (some hi) none p) (.ref a) i) Q E s₂) E s := by
  refine wpAny_Slice (wpAny_pure (wpAny_mono (show wpAny _ _ (eval hi env) _ _ _ from h) (fun v s₁ h₁ => wpAny_pure ?_) fun _ _ e => e))
  obtain ⟨k, u, its, s₀, W, L, l, led, rfl, S, hl, hz, hq⟩ := h₁
  refine tail_ops (ops := [.ref s₁.heap.objs.size, .ref a]) (Heap.IsList.typeIs (s := { s₁ with heap := s₁.heap.push { cls := .type "slice", data := .fields #[.none, .int (k : Int) u, .none] } }) (hl.push _)) list_getitem_lookup
    (wpAny_getItem_list_slice (hl.push _) (Heap.IsSliceOf.new ..) .none (.int _ _) .none (by simp) ?_ (by rw [List.size_toArray, sizeLine_eq]; omega)) (by with_unfolding_all rfl)
  have S1 := S.new (t := s₁.toks) (o := { cls := .type "slice", data := .fields #[.none, .int (k : Int) u, .none] }) (kn := .pr fun _ => True) rfl rfl trivial
  have S2 := S1.new (t := s₁.toks) (o := { cls := .type "list", data := .seq (slicePick its.toArray none (some (k : Int)) none) }) (kn := .lst (its.take k)) rfl rfl ⟨0, by rw [slicePick_upto']⟩
  exact hq _ _ (S2.subled (.cons_cons _ (List.sublist_cons_self ..)))
/-- sources of a key, seen from within a comprehension -/
theorem KeyOk.comp {s s₂ : Shared} {kf : Addr} {ks : Nat → List UInt8} {N : Nat} {lw : List (Addr × Kn)} (H : KeyOk prog w s W kf ks N) (S : St s W L l (lw ++ rest) s₂) : KeyOk prog w s₂ (lw.map (·.1)) kf ks N := by
  obtain ⟨o, fd, ho, hd⟩ := H.fn
  have hne : ∀ p ∈ lw ++ rest, p.1 ≠ kf := fun p hp e => by
    rcases S.fr p hp with h | h
    · exact H.off (e ▸ h)
    · rw [e, ho] at h; cases h
  refine ⟨⟨o, fd, S.keep _ _ ho H.off, hd⟩, fun hm => ?_, fun A E s' i t Q hk => H.call A E s' i t Q fun b o e n => hk b o (S.keep b o e n) fun hm => ?_⟩
  · obtain ⟨p, hp, e⟩ := List.mem_map.mp hm
    exact hne p (List.mem_append_left _ hp) e
  · obtain ⟨p, hp, rfl⟩ := List.mem_map.mp hm
    rcases S.fr p (List.mem_append_left _ hp) with h | h
    · exact n h
    · rw [h] at e; cases e
theorem KeyOk.at_ {s s₂ : Shared} {kf : Addr} {ks : Nat → List UInt8} {N : Nat} (H : KeyOk prog w s W kf ks N) (S : St s W L l led s₂) : ∀ b o, s.heap.get? b = some o → b ∉ W → s₂.heap.get? b = some o := S.keep
/-- entries of the heap, as the ledger has them -/
noncomputable abbrev kyO (y : Ky) (t1 t2 t3 : Tok) : Obj := { cls := .type "tuple", data := .seq ([.bytes y.k.toArray t1, .int y.o t2, .int y.e t3] : List Value).toArray }
noncomputable def TupIn (tl : List (Addr × Kn)) (ps : List P2) : Prop := ∀ q ∈ ps, ∃ T t1 t2 t3, q.1 = .ref T ∧ (T, Kn.ob (kyO q.2 t1 t2 t3)) ∈ tl
theorem TupIn.nil {tl : List (Addr × Kn)} : TupIn tl [] := fun _ h => nomatch h
theorem TupIn.snoc {tl : List (Addr × Kn)} {ps : List P2} (H : TupIn tl ps) {T : Addr} {y : Ky} {t1 t2 t3 : Tok} : TupIn ((T, Kn.ob (kyO y t1 t2 t3)) :: tl) (ps ++ [(.ref T, y)]) := fun q hq => by
  rcases List.mem_append.mp hq with hq | hq
  · obtain ⟨T', u1, u2, u3, e, hm⟩ := H q hq
    exact ⟨T', u1, u2, u3, e, .tail _ hm⟩
  · rw [List.mem_singleton.mp hq]
    exact ⟨T, t1, t2, t3, rfl, .head _⟩
theorem TupIn.isKs {tl : List (Addr × Kn)} {ps : List P2} (H : TupIn tl ps) (S : St s₀ W L l led s) (hs : ∀ p ∈ tl, p ∈ led) : IsKs s.heap ps := fun q hq => by
  obtain ⟨T, t1, t2, t3, e, hm⟩ := H q hq
  exact ⟨T, t1, t2, t3, e, S.tupO (hs _ hm)⟩
theorem TupIn.mono {tl tl' : List (Addr × Kn)} {ps : List P2} (H : TupIn tl ps) (hs : ∀ p ∈ tl, p ∈ tl') : TupIn tl' ps := fun q hq => by
  obtain ⟨T, t1, t2, t3, e, hm⟩ := H q hq
  exact ⟨T, t1, t2, t3, e, hs _ hm⟩
theorem TupIn.sub {tl : List (Addr × Kn)} {ps ps' : List P2} (H : TupIn tl ps) (hs : ∀ p ∈ ps', p ∈ ps) : TupIn tl ps' := fun q hq => H q (hs q hq)
theorem cw_kw {pos : Pos} {id : String} {e : Expr} {rest : List Expr} {kws : List Keyword} {Q : Value → Shared → Prop}
    (he : backTo pos (starEach (e :: rest) env) = (false, eval e env) :: backTo pos (starEach rest env))
    (hplain : (backTo pos (starEach (e :: rest) env)).any (·.1) = false)
    (hall : (backToKw pos (keywordEach kws env)).all (·.1.isSome) = true)
    (hkw : (backToKw pos (keywordEach kws env)).any (·.1.isNone) = false)
    (h : wpAny (model prog w) A (spliced (backTo pos (starEach (e :: rest) env))) (fun vs s₁ => wpAny (model prog w) A (evalAll ((backToKw pos (keywordEach kws env)).map (·.2)))
      (fun kvs s₂ => wpAny (model prog w) A (call (.builtin id) vs (((backToKw pos (keywordEach kws env)).filterMap (·.1)).zip kvs)) Q E s₂) E s₁) E s) :
    wpAny (model prog w) A (callWith pos (.builtin id) [] (backTo pos (starEach (e :: rest) env)) (backToKw pos (keywordEach kws env))) Q E s := callWith_kw h he hplain hall hkw
theorem ints_at {vs : List Value} {N : Nat} (hvs : IntsAre vs ((List.range N).map fun i : Nat => (i : Int))) (i : Nat) (h : i < vs.length) : i < N ∧ ∃ t, vs[i]? = some (.int (i : Int) t) := by
  have hl : vs.length = N := by rw [hvs.length, List.length_map, List.length_range]
  obtain ⟨t, ht⟩ := hvs.get i (i : Int) (by rw [List.getElem?_map, List.getElem?_range (by omega)]; rfl)
  exact ⟨by omega, t, ht⟩
theorem ints_pick {vs : List Value} {N : Nat} (hvs : IntsAre vs ((List.range N).map fun i : Nat => (i : Int))) : ∀ {p : List Nat}, (∀ i ∈ p, i < N) → IntsAre (p.map fun i => vs.getD i .none) (p.map fun i : Nat => (i : Int))
  | [], _ => .nil
  | i :: p, h => by
    have hl : vs.length = N := by rw [hvs.length, List.length_map, List.length_range]
    obtain ⟨_, t, ht⟩ := ints_at hvs i (by have := h i (.head _); omega)
    have e : vs.getD i Value.none = .int (i : Int) t := by rw [List.getD_eq_getElem?_getD, ht]; rfl
    rw [List.map_cons, List.map_cons, e]
    exact .cons _ _ (ints_pick hvs fun j hj => h j (.tail _ hj))
theorem sg_false {f : Nat → Int} : sg false f = f := by funext i; simp [sg]
theorem St.two {kn kn2 : Kn} {D2 : Addr} (S : St s₀ W L l ((D, kn) :: led) s) (h : (D2, kn2) ∈ led := by first | exact .head _ | exact .tail _ (.head _) | exact .tail _ (.tail _ (.head _))) : D ≠ D2 := fun e => by
  have := S.nd
  rw [List.map_cons, List.nodup_cons] at this
  exact this.1 (e ▸ List.mem_map_of_mem (f := (·.1)) h)
end
end
section
open PySem PySem.W PyProof.Rows PySem.Calls
/-- x comes before y in the answer -/
noncomputable def bef (b : Bool) (x y : Ky) : Bool := if b = true then y.lt x else x.lt y
theorem bef_irr {b : Bool} {x : Ky} : bef b x x = false := by
  unfold bef; cases b <;> simp [ky_irr]
/-- what holds of the entries of the heap when the first j have been looked at -/
structure KI (b : Bool) (f : Nat → Int) (ks : Nat → List UInt8) (kl : List Ky) (j n : Nat) (ord : Int) : Prop where
  key : ∀ y ∈ kl, ∃ i : Nat, y.e = (i : Int) ∧ y.k = ks i ∧ i < j
  ord : ∀ y ∈ kl, if b = true then ord < y.o else y.o < ord
  mono : ∀ x ∈ kl, ∀ y ∈ kl, (if b = true then y.o < x.o else x.o < y.o) ↔ x.e < y.e
  few : Few (sg b f) j n (kl.map (·.e.toNat))
theorem KI.perm {b : Bool} {f : Nat → Int} {ks : Nat → List UInt8} {kl kl' : List Ky} {j n : Nat} {ord : Int} (h : KI b f ks kl j n ord) (hp : kl'.Perm kl) : KI b f ks kl' j n ord :=
  ⟨fun y hy => h.key y (hp.mem_iff.mp hy), fun y hy => h.ord y (hp.mem_iff.mp hy), fun x hx y hy => h.mono x (hp.mem_iff.mp hx) y (hp.mem_iff.mp hy), h.few.perm (hp.map _)⟩
theorem ltB_num {ks : Nat → List UInt8} {f : Nat → Int} {N : Nat} (hf : ∀ i < N, ∀ j < N, ltB (ks i) (ks j) = decide (f i < f j)) {i j : Nat} (hi : i < N) (hj : j < N) : (ks i = ks j ↔ f i = f j) := by
  constructor
  · intro e
    have h1 := hf i hi j hj
    have h2 := hf j hj i hi
    rw [e, ltB_irr] at h1
    rw [e, ltB_irr] at h2
    have h1 := of_decide_eq_false h1.symm
    have h2 := of_decide_eq_false h2.symm
    omega
  · intro e
    rcases ltB_tri (ks i) (ks j) with h | h | h
    · exact h
    · rw [hf i hi j hj] at h
      have := of_decide_eq_true h; omega
    · rw [hf j hj i hi] at h
      have := of_decide_eq_true h; omega
section
variable {b : Bool} {f : Nat → Int} {ks : Nat → List UInt8} {kl : List Ky} {j n N : Nat} {ord : Int}
theorem KI.bef (hf : ∀ i < N, ∀ j < N, ltB (ks i) (ks j) = decide (f i < f j)) (h : KI b f ks kl j n ord) (hj : j ≤ N) {x y : Ky} (hx : x ∈ kl) (hy : y ∈ kl) : Mine.bef b x y = true ↔ Lx (sg b f) x.e.toNat y.e.toNat := by
  obtain ⟨i, e1, k1, l1⟩ := h.key x hx
  obtain ⟨m, e2, k2, l2⟩ := h.key y hy
  have hm := h.mono x hx y hy
  have hm2 := h.mono y hy x hx
  have hn := ltB_num hf (i := i) (j := m) (by omega) (by omega)
  have hn2 := ltB_num hf (i := m) (j := i) (by omega) (by omega)
  have c1 := hf i (by omega) m (by omega)
  have c2 := hf m (by omega) i (by omega)
  rw [e1, e2] at hm hm2
  unfold Mine.bef Ky.lt Lx sg
  rw [k1, k2, e1, e2, c1, c2]
  simp only [Int.toNat_natCast]
  have ho : x.o = y.o ↔ i = m := by
    cases b
    · simp only [Bool.false_eq_true, if_false] at hm hm2; omega
    · simp only [if_true] at hm hm2; omega
  cases b
  · simp only [Bool.false_eq_true, if_false] at hm hm2 ⊢
    by_cases hk : f i = f m
    · rw [if_pos (hn.mpr hk)]
      by_cases hi : i = m
      · subst hi
        rw [if_pos (ho.mpr rfl)]
        simp
      · rw [if_neg (fun q => hi (ho.mp q)), decide_eq_true_eq]
        omega
    · rw [if_neg (fun q => hk (hn.mp q)), decide_eq_true_eq]
      omega
  · simp only [if_true] at hm hm2 ⊢
    by_cases hk : f i = f m
    · rw [if_pos (hn2.mpr hk.symm)]
      by_cases hi : i = m
      · subst hi
        rw [if_pos (ho.mpr rfl).symm]
        simp
      · rw [if_neg (fun q => hi (ho.mp q.symm)), decide_eq_true_eq]
        omega
    · rw [if_neg (fun q => hk (hn2.mp q).symm), decide_eq_true_eq]
      omega
noncomputable def ordOf (b : Bool) (n : Nat) : Int := if b = true then -(n : Int) else (n : Int)
noncomputable def kyOf (b : Bool) (ks : Nat → List UInt8) (i : Nat) : Ky := ⟨ks i, ordOf b i, (i : Int)⟩
theorem KI.start (n : Nat) : KI b f ks ((List.range n).map (kyOf b ks)) n n (ordOf b n) := by
  refine ⟨fun y hy => ?_, fun y hy => ?_, fun x hx y hy => ?_, ?_⟩
  · obtain ⟨i, hi, rfl⟩ := List.mem_map.mp hy
    exact ⟨i, rfl, rfl, List.mem_range.mp hi⟩
  · obtain ⟨i, hi, rfl⟩ := List.mem_map.mp hy
    have := List.mem_range.mp hi
    unfold kyOf ordOf
    cases b <;> simp <;> omega
  · obtain ⟨i, hi, rfl⟩ := List.mem_map.mp hx
    obtain ⟨m, hm, rfl⟩ := List.mem_map.mp hy
    unfold kyOf ordOf
    cases b <;> simp
  · rw [List.map_map]
    have : ((fun x : Ky => x.e.toNat) ∘ kyOf b ks) = id := by funext i; simp [kyOf]
    rw [this, List.map_id]
    exact Few.start _ _
/-- the root of the heap: none is after it -/
theorem KI.top (hf : ∀ i < N, ∀ j < N, ltB (ks i) (ks j) = decide (f i < f j)) (h : KI b f ks kl j n ord) (hj : j ≤ N) {x : Ky} (hx : x ∈ kl) (hr : ∀ y ∈ kl, Mine.bef b x y = false) : ∀ i ∈ kl.map (·.e.toNat), i ≠ x.e.toNat → Lx (sg b f) i x.e.toNat := by
  intro i hi hne
  obtain ⟨y, hy, rfl⟩ := List.mem_map.mp hi
  rcases Lx.tri (f := sg b f) hne with h1 | h1
  · exact h1
  · have := (h.bef hf hj hx hy).mpr h1
    rw [hr y hy] at this; cases this
theorem KI.stay (hf : ∀ i < N, ∀ j < N, ltB (ks i) (ks j) = decide (f i < f j)) (h : KI b f ks kl j n ord) (hj : j < N) {x : Ky} (hx : x ∈ kl) (hr : ∀ y ∈ kl, Mine.bef b x y = false)
    (hm : (if b = true then ltB x.k (ks j) else ltB (ks j) x.k) = false) : KI b f ks kl (j + 1) n ord := by
  refine ⟨fun y hy => ?_, h.ord, h.mono, h.few.stay (t := x.e.toNat) (List.mem_map_of_mem (f := fun y : Ky => y.e.toNat) hx) (h.top hf (by omega) hx hr) ?_⟩
  · obtain ⟨i, e1, e2, e3⟩ := h.key y hy
    exact ⟨i, e1, e2, by omega⟩
  · obtain ⟨i, e1, e2, e3⟩ := h.key x hx
    rw [e2] at hm
    rw [e1]
    simp only [Int.toNat_natCast]
    unfold sg
    cases b
    · simp only [Bool.false_eq_true, if_false] at hm ⊢
      rw [hf j hj i (by omega)] at hm
      exact of_decide_eq_false hm
    · simp only [if_true] at hm ⊢
      rw [hf i (by omega) j hj] at hm
      have := of_decide_eq_false hm
      omega
theorem KI.take (hf : ∀ i < N, ∀ j < N, ltB (ks i) (ks j) = decide (f i < f j)) {x : Ky} {rest : List Ky} (h : KI b f ks (x :: rest) j n ord) (hj : j < N) (hr : ∀ y ∈ x :: rest, Mine.bef b x y = false)
    (hm : (if b = true then ltB x.k (ks j) else ltB (ks j) x.k) = true) : KI b f ks (⟨ks j, ord, (j : Int)⟩ :: rest) (j + 1) n (if b = true then ord - 1 else ord + 1) := by
  have hnd := List.nodup_cons.mp h.few.nd
  refine ⟨fun y hy => ?_, fun y hy => ?_, fun u hu v hv => ?_, ?_⟩
  · rcases List.mem_cons.mp hy with rfl | hy
    · exact ⟨j, rfl, rfl, by omega⟩
    · obtain ⟨i, e1, e2, e3⟩ := h.key y (.tail _ hy)
      exact ⟨i, e1, e2, by omega⟩
  · rcases List.mem_cons.mp hy with rfl | hy
    · cases b <;> simp <;> omega
    · have := h.ord y (.tail _ hy)
      cases b
      · simp only [Bool.false_eq_true, if_false] at this ⊢; omega
      · simp only [if_true] at this ⊢; omega
  · rcases List.mem_cons.mp hu with rfl | hu
    · rcases List.mem_cons.mp hv with rfl | hv
      · simp
      · have h1 := h.ord v (.tail _ hv)
        obtain ⟨i, e1, e2, e3⟩ := h.key v (.tail _ hv)
        rw [e1]
        cases b
        · simp only [Bool.false_eq_true, if_false] at h1 ⊢; omega
        · simp only [if_true] at h1 ⊢; omega
    · rcases List.mem_cons.mp hv with rfl | hv
      · have h1 := h.ord u (.tail _ hu)
        obtain ⟨i, e1, e2, e3⟩ := h.key u (.tail _ hu)
        rw [e1]
        cases b
        · simp only [Bool.false_eq_true, if_false] at h1 ⊢; omega
        · simp only [if_true] at h1 ⊢; omega
      · exact h.mono u (.tail _ hu) v (.tail _ hv)
  · have hfew : Few (sg b f) j n (x.e.toNat :: rest.map (·.e.toNat)) := h.few
    have := hfew.take (fun i hi => h.top hf (by omega) (.head _) hr i (.tail _ hi) fun q => hnd.1 (by have hi2 := hi; rw [q] at hi2; exact hi2)) ?_
    · simpa using this
    · obtain ⟨i, e1, e2, e3⟩ := h.key x (.head _)
      rw [e2] at hm
      rw [e1]
      simp only [Int.toNat_natCast]
      unfold sg
      cases b
      · simp only [Bool.false_eq_true, if_false] at hm ⊢
        rw [hf j hj i (by omega)] at hm
        exact of_decide_eq_true hm
      · simp only [if_true] at hm ⊢
        rw [hf i (by omega) j hj] at hm
        have := of_decide_eq_true hm
        omega
/-- sorted, they are the selection -/
theorem KI.sel (hf : ∀ i < N, ∀ j < N, ltB (ks i) (ks j) = decide (f i < f j)) (h : KI b f ks kl N n ord) (hn : n ≤ N) {p : List Nat} (hp : p.Perm (List.range kl.length)) {g : Nat → Ky} (hg : ∀ i (h : i < kl.length), g i = kl[i])
    (hpw : p.Pairwise (Lx (sg b fun i => (rank (fun i j => (g i).lt (g j)) kl.length i : Int)))) : Sel (sg b f) N n (p.map fun i => (g i).e.toNat) := by
  have hmem : ∀ i ∈ p, i < kl.length := fun i hi => List.mem_range.mp (hp.mem_iff.mp hi)
  have hgl : (List.range kl.length).map g = kl := by
    refine List.ext_getElem (by simp) fun i h1 h2 => ?_
    simp only [List.getElem_map, List.getElem_range]
    exact hg i h2
  have hpm : (p.map g).Perm kl := by rw [← hgl]; simpa using hp.map g
  have hK := h.perm hpm
  have e : (p.map fun i => (g i).e.toNat) = (p.map g).map (·.e.toNat) := by rw [List.map_map]; rfl
  rw [e]
  refine hK.few.sel hn ?_
  rw [← e, List.pairwise_map]
  refine hpw.imp_of_mem fun {i m} hi hm hl => ?_
  have hgi : g i ∈ kl := by rw [hg i (hmem i hi)]; exact List.getElem_mem _
  have hgm : g m ∈ kl := by rw [hg m (hmem m hm)]; exact List.getElem_mem _
  refine (h.bef hf (Nat.le_refl _) hgi hgm).mp ?_
  have r1 := rank_lt (ord_ky.on g) i m (hmem i hi) (hmem m hm)
  have r2 := rank_lt (ord_ky.on g) m i (hmem m hm) (hmem i hi)
  unfold Lx at hl
  rcases hl with hl | ⟨hl, him⟩
  · unfold sg at hl
    unfold Mine.bef
    cases b
    · simp only [Bool.false_eq_true, if_false] at hl ⊢
      rw [← r1]; exact decide_eq_true hl
    · simp only [if_true] at hl ⊢
      rw [← r2]
      exact decide_eq_true (by omega)
  · exfalso
    have heq : (rank (fun i j => (g i).lt (g j)) kl.length i : Int) = (rank (fun i j => (g i).lt (g j)) kl.length m : Int) := by
      unfold sg at hl
      cases b
      · simpa using hl
      · simp only [if_true] at hl; omega
    rw [heq] at r1 r2
    simp only [Int.lt_irrefl, decide_false] at r1 r2
    rcases ky_tri (g i) (g m) with q | q | q
    · have hnd := h.few.nd
      rw [hg i (hmem i hi), hg m (hmem m hm)] at q
      have h1 : (kl.map (·.e.toNat))[i]'(by simpa using hmem i hi) = (kl.map (·.e.toNat))[m]'(by simpa using hmem m hm) := by simp [q]
      have := (List.getElem_inj hnd).mp h1
      omega
    · rw [q] at r1; cases r1
    · rw [q] at r2; cases r2
end
end
section
open PySem PySem.W PyProof.Rows PySem.Calls
theorem mid1 {α : Type} {x1 a : α} {l : List α} : (x1 :: a :: l).Perm (a :: x1 :: l) := .swap ..
theorem mid2 {α : Type} {x1 x2 a : α} {l : List α} : (x1 :: x2 :: a :: l).Perm (a :: x1 :: x2 :: l) := (mid1.cons _).trans mid1
theorem mid3 {α : Type} {x1 x2 x3 a : α} {l : List α} : (x1 :: x2 :: x3 :: a :: l).Perm (a :: x1 :: x2 :: x3 :: l) := (mid2.cons _).trans mid1
theorem mid4 {α : Type} {x1 x2 x3 x4 a : α} {l : List α} : (x1 :: x2 :: x3 :: x4 :: a :: l).Perm (a :: x1 :: x2 :: x3 :: x4 :: l) := (mid3.cons _).trans mid1
theorem mid5 {α : Type} {x1 x2 x3 x4 x5 a : α} {l : List α} : (x1 :: x2 :: x3 :: x4 :: x5 :: a :: l).Perm (a :: x1 :: x2 :: x3 :: x4 :: x5 :: l) := (mid4.cons _).trans mid1
theorem mid6 {α : Type} {x1 x2 x3 x4 x5 x6 a : α} {l : List α} : (x1 :: x2 :: x3 :: x4 :: x5 :: x6 :: a :: l).Perm (a :: x1 :: x2 :: x3 :: x4 :: x5 :: x6 :: l) := (mid5.cons _).trans mid1
section
variable {prog : Program} {w : World} {A : Around} {E : Value → Shared → Prop} {s₀ s : Shared} {W : List Addr} {L D I a : Addr} {l l' : List (Str × Value)} {led led' rest : List (Addr × Kn)}
  {env : Env} {pos pos' : Pos} {v : Value} {mg mb : Str → Option Value} {kn : Kn}
theorem St.offled {o : Obj} (S : St s₀ W L l led s) (ho : s₀.heap.get? a = some o) (ha : a ∉ W) : ∀ p ∈ led, p.1 ≠ a := fun p hp e => by
  rcases S.fr p hp with h | h
  · exact ha (e ▸ h)
  · rw [e, ho] at h; cases h
/-- a list of the base, seen from within a comprehension -/
theorem St.listC {s₂ : Shared} {C : Addr} {lw : List (Addr × Kn)} {its : List Value} (S : St s₀ W L l (lw ++ rest) s₂) (hl : s₀.heap.IsList a its.toArray) (ha : a ∉ W) :
    ∀ lc led s, St s₂ (lw.map (·.1)) C lc led s → s.heap.IsList a its.toArray := fun lc led s SC => by
  obtain ⟨o, ho, r⟩ := hl
  refine SC.list ⟨o, S.keep _ _ ho ha, r⟩ fun hm => ?_
  obtain ⟨p, hp, e⟩ := List.mem_map.mp hm
  exact S.offled ho ha p (List.mem_append_left _ hp) e
theorem St.cellC {s₂ : Shared} {C c : Addr} {lw : List (Addr × Kn)} {v : Value} (S : St s₀ W L l (lw ++ rest) s₂) (hm : (c, cellK v) ∈ rest) : ∀ lc led s, St s₂ (lw.map (·.1)) C lc led s → s.heap.IsCell c (some v) := fun lc led s SC => by
  obtain ⟨o, ho, hd⟩ := S.kn (List.mem_append_right lw hm)
  refine ⟨o, SC.keep _ _ ho fun hm' => ?_, hd⟩
  obtain ⟨p, hp, e⟩ := List.mem_map.mp hm'
  have nd := S.nd
  rw [List.map_append, List.nodup_append] at nd
  exact nd.2.2 _ (List.mem_map_of_mem (f := (·.1)) hp) _ (List.mem_map_of_mem (f := (·.1)) hm) e
theorem t_lst {its : List Value} {Q : Bool → Shared → Prop} (S : St s₀ W L l led s) (hm : (D, .lst its) ∈ led) (hz : its.length ≤ 1000) (h : ∀ s', St s₀ W L l led s' → Q (decide (its.length ≠ 0)) s') : wpAny (model prog w) A (truthy (.ref D)) Q E s := by
  refine wpAny_truthy_list (S.isList hm) (by simp; omega) ?_
  have e : (!its.toArray.isEmpty) = decide (its.length ≠ 0) := by cases its <;> simp
  rw [e]
  exact h _ (S.toks _)
theorem item_tup0 {its : Array Value} {x : Value} {T : Addr} {u : Tok} {value slice : Expr} {Q : Value → Shared → Prop} (hT : IsTup s.heap T its) (hx : its[0]? = some x) (h : Q x s)
    (hs : subscripted slice false (.ref T) (.int 0 u) = operate [.ref T, .int 0 u] (getItem (.ref T) (.int 0 u)) := by with_unfolding_all rfl) :
    wpAny (model prog w) A (subscriptTail value slice (.ref T) (.int 0 u)) Q E s := item_tupN (k := 0) hT hx (by decide) h hs
theorem x_exprA {e : Expr} {Q : Flow → Shared → Prop} (hi : interactive env = false) (hs : swapsWith e none pos.line env = pure false) (h : wpAny (model prog w) A (eval e env) (fun _ => Q .next) E s) :
    wpAny (model prog w) A (exec (.Expr e pos) env) Q E s := wpAny_Expr_any h hi hs
theorem GW.led1 {kn : Kn} (G : GW w mg mb s₀ W) (S : St s₀ W L l led s) (hm : (D, kn) ∈ led) : GW w mg mb s [D] := fun h' hk => G h' fun b o e n => hk b o (S.keep b o e n) fun hb => by
  rw [List.mem_singleton.mp hb] at e n
  exact S.offled e n _ hm rfl
theorem nx_litX {its : List Value} {i : Nat} {Q : Option Value → Shared → Prop} (hA : A.handled = none) (S : St s₀ W L l led s) (hu : LedUp I (litK a i) lixK led led') (hl : s.heap.IsList a its.toArray) (hx : its[i]? = none)
    (h : ∀ s', St s₀ W L l led' s' → Q none s') : wpAny (model prog w) A (pyNext (.ref I)) Q E s := by
  obtain ⟨o, ho, hc, hd⟩ := S.kn hu.mem
  have hT : s.TypeIs (.ref I) "list_iterator" := ⟨o, ho, hc⟩
  obtain ⟨ol, hol, _, nl, hdl⟩ := hl
  unfold pyNext
  refine wpAny_bind (wpAny_attempt (wpAny_callSpecial?_slot (name := Str.ofString "__next__") hT slot_listiter_next
    (wpAny_call_entry slot_listiter_next hT entry_listiter_next ?_ (args_listiter_next _))))
  show wpAny _ _ (field (.ref I) 0 >>= _) _ _ s
  refine wpAny_bind (wpAny_field ho hd (x := .ref a) rfl ?_)
  show wpAny _ _ (if (Value.ref a == Value.none) = true then _ else _) _ _ s
  rw [if_neg (show ¬ ((Value.ref a == Value.none) = true) from Bool.false_ne_true)]
  show wpAny _ _ (field (.ref I) 1 >>= _) _ _ s
  refine wpAny_bind (wpAny_field ho hd (x := .int i 0) rfl ?_)
  show wpAny _ _ (seqItems? (.ref a) >>= _) _ _ s
  refine wpAny_bind (wpAny_seqItems hol hdl ?_)
  have hx' : its.toArray[i]? = none := by simpa using hx
  simp only [Int.toNat_natCast, hx']
  refine wpAny_bind (wpAny_rule (wpAny_bind (wpAny_setField ho hd (by simp) ?_)))
  have hd₃ := Obj.data_mapFields hd (·.setIfInBounds 0 Value.none)
  have S1 := S.upd (t := s.toks) hu (Heap.get?_update_self (Obj.mapFields (·.setIfInBounds 0 Value.none)) ho (Obj.isFreed_of_fields hd₃)) ⟨(Obj.cls_mapFields _ _).trans hc, _, hd₃⟩ fun b o hb x => (Heap.SameBut.update ..).extBut b o hb x
  show wpAny _ _ (newExc (.type "StopIteration") [] >>= _) _ _ _
  refine wpAny_bind ?_
  simp only [newExc, newTuple]
  refine wpAny_bind (wpAny_newObj_type ?_ (by size_fits))
  refine wpAny_bind (m := firstArgMember _ _) (wpAny_of_eq (a := Value.none) (by first | rfl | (simp only [firstArgMember]; rfl)) ?_)
  refine wpAny_newObj_type ?_ (by size_fits)
  simp only [raiseNew]
  refine wpAny_bind (wpAny_handled ?_)
  rw [show A.in1.handled = none from hA]
  refine wpAny_bind (wpAny_pure (wpAny_throw ?_))
  refine wpAny_bind (wpAny_isInstance (T := "StopIteration") (b := true) ⟨_, Heap.get?_push_size _ rfl, rfl⟩ isSubtype_stop ?_)
  exact wpAny_pure (h _ (S1.keeps ⟨_, _, rfl⟩ fun b o e => Heap.get?_push_of_some _ (Heap.get?_push_of_some _ e)))
theorem nx_end {IK : Kn} {its : List Value} {i : Nat} {Q : Option Value → Shared → Prop} (hA : A.handled = none) (S : St s₀ W L l ((D, kn) :: (I, IK) :: rest) s) (hl : s.heap.IsList a its.toArray) (hx : its[i]? = none) (hIK : IK = litK a i ∨ IK = lixK)
    (h : ∀ s', St s₀ W L l ((D, kn) :: (I, lixK) :: rest) s' → Q none s') : wpAny (model prog w) A (pyNext (.ref I)) Q E s := by
  rcases hIK with rfl | rfl
  · exact nx_litX hA S (.there .here) hl hx h
  · exact nx_lix hA S (.tail _ (.head _)) h
theorem it_any {IK : Kn} {i : Nat} {Q : Value → Shared → Prop} (S : St s₀ W L l led s) (hm : (I, IK) ∈ led) (hIK : IK = litK a i ∨ IK = lixK) (h : Q (.ref I) s) : wpAny (model prog w) A (pyIter (.ref I)) Q E s := by
  rcases hIK with rfl | rfl
  · exact it_lit S hm h
  · exact it_lix S hm h
theorem KI.ordle {b : Bool} {f : Nat → Int} {ks : Nat → List UInt8} {kl : List Ky} {j n : Nat} {ord ord' : Int} (h : KI b f ks kl j n ord) (ho : if b = true then ord' ≤ ord else ord ≤ ord') : KI b f ks kl j n ord' :=
  ⟨h.key, fun y hy => by have := h.ord y hy; cases b <;> simp only [if_true, if_false, Bool.false_eq_true] at * <;> omega, h.mono, h.few⟩
theorem KI.root {b : Bool} {x : P2} {rest : List P2} (O : Ord (fun a b' : P2 => Mine.bef b b'.2 a.2)) (h : HpF (fun a b' : P2 => Mine.bef b b'.2 a.2) (x :: rest) 0) : ∀ y ∈ (x :: rest).map (·.2), Mine.bef b x.2 y = false := fun y hy => by
  obtain ⟨q, hq, rfl⟩ := List.mem_map.mp hy
  obtain ⟨i, hi, rfl⟩ := List.getElem_of_mem hq
  exact root_ok O h (x := x) rfl bef_irr i _ (List.getElem?_eq_getElem hi)
theorem range_size_up (k : Nat) : Builtin.Range.rangeSize 0 (k : Int) 1 = (k : Int) := by
  unfold Builtin.Range.rangeSize
  simp only [show (1 : Int) > 0 by decide, if_true, Int.ediv_one]
  split <;> omega
theorem range_small_up {k : Nat} (h : k ≤ 100) : Builtin.Range.small 0 (k : Int) 1 = true := small_one (by decide) (by decide) (by omega) (by omega)
theorem range_size_dn (k : Nat) : Builtin.Range.rangeSize 0 (-(k : Int)) (-1) = (k : Int) := by
  unfold Builtin.Range.rangeSize
  rw [if_neg (by decide)]
  simp only [Int.neg_neg, Int.ediv_one]
  split <;> omega
theorem range_small_dn0 : ∀ k < 101, Builtin.Range.small 0 (-((k : Nat) : Int)) (-1) = true := by decide +kernel
theorem range_small_dn {k : Nat} (h : k ≤ 100) : Builtin.Range.small 0 (-(k : Int)) (-1) = true := range_small_dn0 k (by omega)
theorem exec_tup {elts : List Expr} {k : Nat} {tpos : Pos} {value : Expr} {Q : Flow → Shared → Prop} (hs : swapsWithSole [.Tuple elts k tpos] value pos.line env = pure false) (hw : swappedStores [.Tuple elts k tpos] value env = pure none)
    (h : wpAny (model prog w) A (eval value env) (fun v s₁ => wpAny (model prog w) A (assign (.Tuple elts k tpos) env v) (fun _ => Q .next) E s₁) E s) :
    wpAny (model prog w) A (exec (.Assign [.Tuple elts k tpos] value pos) env) Q E s := Assign_Tuple h hs hw
end
end
section
open PySem PySem.W PyProof.Rows PySem.Calls
section
variable {prog : Program} {w : World} {A : Around} {E : Value → Shared → Prop} {s₀ s : Shared} {W : List Addr} {L D I a : Addr} {l l' : List (Str × Value)} {led led' rest : List (Addr × Kn)}
  {env : Env} {pos pos' : Pos} {v : Value} {mg mb : Str → Option Value}
theorem e_meth0 {o : Expr} {name : Str} {apos : Pos} {Q : Value → Shared → Prop}
    (hbase : attributeBase o name env (eval o env) = eval o env) (hline : (apos.endLine == pos.line) = true)
    (h : wpAny (model prog w) A (eval o env) (fun ov s₁ => MethodOnS prog w A E name ov pos [] Q s₁) E s) :
    wpAny (model prog w) A (eval (.Call (.Attribute o name apos) [] [] pos) env) Q E s := Call_method0 hbase hline h
theorem m_sort {its : List Value} {Q : Value → Shared → Prop} (S : St s₀ W L l led s) (hm : (D, .lst its) ∈ led) (h : wpAny (model prog w) A (call (.builtin "list.sort") [.ref D]) Q E s) : MethodOnS prog w A E "sort" (.ref D) pos [] Q s := by
  obtain ⟨o, e, n, rfl⟩ := S.hold _ hm
  exact ⟨"list", "list.sort", F.plainAttrs_list, F.slot_list_sort, F.type_list_sort, ⟨_, e, rfl⟩, (fun a q => by cases q; exact ⟨_, e, rfl⟩), PyProof.Rows.callWith_method0 (env := default) h⟩
/-- a method called with keywords alone -/
theorem e_methK {o : Expr} {name : Str} {apos : Pos} {kws : List Keyword} {Q : Value → Shared → Prop}
    (hbase : attributeBase o name env (eval o env) = eval o env) (hform : methodCallForm (([] : List Expr).length + kws.length) (backTo pos (starEach [] env)) (backToKw pos (keywordEach kws env)) = true) (hline : (apos.endLine == pos.line) = true)
    (h : wpAny (model prog w) A (eval o env) (fun ov s₁ => Ex2 fun (T id : String) => And6 (PlainAttrs T) (Slot T name id) (typeOf (.builtin id) = pure (.type "method_descriptor")) (s₁.TypeIs ov T) ((∀ a, ov = .ref a → ∃ ob, s₁.heap.get? a = some ob ∧ ob.dict = none)) (wpAny (model prog w) A (callWith pos (.builtin id) [ov] (backTo pos (starEach [] env)) (backToKw pos (keywordEach kws env))) Q E s₁)) E s) :
    wpAny (model prog w) A (eval (.Call (.Attribute o name apos) [] kws pos) env) Q E s := by
  rw [arm_eval_Call, hbase]
  refine wpAny_bind (wpAny_mono h (fun ov s₁ h₁ => ?_) fun _ _ e => e)
  obtain ⟨T, id, pa, slot, hty, hT, hd, hc⟩ := h₁
  refine wpAny_bind (wpAny_standAt ?_)
  have hpos : methodCallPos true o env apos pos = pure pos := by unfold methodCallPos; simp [hline]
  unfold methodCall
  rw [hform]
  refine wpAny_bind (wpAny_holding (getMethod_builtin hT pa slot hty hd ?_))
  exact wpAny_bind (wpAny_of_eq hpos hc)
theorem cw_self_kw {id : String} {ov : Value} {kws : List Keyword} {Q : Value → Shared → Prop} (hall : (backToKw pos (keywordEach kws env)).all (·.1.isSome) = true) (hkw : (backToKw pos (keywordEach kws env)).any (·.1.isNone) = false)
    (h : wpAny (model prog w) A (evalAll ((backToKw pos (keywordEach kws env)).map (·.2))) (fun kvs s₂ => wpAny (model prog w) A (call (.builtin id) [ov] (((backToKw pos (keywordEach kws env)).filterMap (·.1)).zip kvs)) Q E s₂) E s) :
    wpAny (model prog w) A (callWith pos (.builtin id) [ov] (backTo pos (starEach [] env)) (backToKw pos (keywordEach kws env))) Q E s := by
  refine callWith_builtin_kwB rfl hkw ?_
  exact evalArgs_kw2_nil hall h
theorem IsKs.offl {h h' : Heap} {ps : List P2} {its : List Value} {k : Nat} (H : IsKs h ps) (hD : h.get? D = some (lstO its k)) (hk : ∀ c o, c ≠ D → h.get? c = some o → h'.get? c = some o) : IsKs h' ps := fun p hp =>
  (H p hp).keeps fun b o e hc => hk b o (fun q => by
    rw [q, hD] at e
    cases e
    exact absurd (show Value.type "list" = Value.type "tuple" from hc) (by decide)) e
theorem IsPs.offl {h h' : Heap} {ps : List PP} {its : List Value} {k : Nat} (H : IsPs h ps) (hD : h.get? D = some (lstO its k)) (hk : ∀ c o, c ≠ D → h.get? c = some o → h'.get? c = some o) : IsPs h' ps := fun p hp =>
  (H p hp).keeps fun b o e hc => hk b o (fun q => by
    rw [q, hD] at e
    cases e
    exact absurd (show Value.type "list" = Value.type "tuple" from hc) (by decide)) e
theorem IntsAre.snocN {vs : List Value} {ns : List Int} {n : Int} {t : Tok} (h : IntsAre vs ns) : IntsAre (vs ++ [.int n t]) (ns ++ [n]) := ksk_snoc h
end
end
section
open PySem PySem.W PyProof.Rows PySem.Calls
theorem kyAt_map {ps : List P2} {i : Nat} (h : i < ps.length) : kyAt ps i = (ps.map (·.2))[i]'(by simpa using h) := by unfold kyAt; simp [h]
theorem KI.selP {b : Bool} {f : Nat → Int} {ks : Nat → List UInt8} {ps : List P2} {n N : Nat} {ord : Int} (hf : ∀ i < N, ∀ j < N, ltB (ks i) (ks j) = decide (f i < f j)) (h : KI b f ks (ps.map (·.2)) N n ord) (hn : n ≤ N) {p : List Nat} (hp : p.Perm (List.range ps.length))
    (hpw : p.Pairwise (Lx (sg b fun i => (rank (fun i j => (kyAt ps i).lt (kyAt ps j)) ps.length i : Int)))) :
    Sel (sg b f) N n (p.map fun i => (kyAt ps i).e.toNat) ∧ (p.map fun i => (kyAt ps i).e) = (p.map fun i => (kyAt ps i).e.toNat).map fun i : Nat => (i : Int) := by
  have hl : (ps.map (·.2)).length = ps.length := List.length_map ..
  refine ⟨KI.sel (g := kyAt ps) hf h hn (by rw [hl]; exact hp) (fun i hi => kyAt_map (by rw [hl] at hi; exact hi)) (by rw [hl]; exact hpw), ?_⟩
  rw [List.map_map]
  refine List.map_congr_left fun i hi => ?_
  have hi : i < ps.length := List.mem_range.mp (hp.mem_iff.mp hi)
  obtain ⟨m, e, _, _⟩ := h.key (kyAt ps i) (by rw [kyAt_map hi]; exact List.getElem_mem _)
  show (kyAt ps i).e = (((kyAt ps i).e.toNat : Nat) : Int)
  rw [e]; rfl
section
variable {prog : Program} {w : World} {A : Around} {E : Value → Shared → Prop} {s₀ s : Shared} {W : List Addr} {L D I a : Addr} {l l' : List (Str × Value)} {led led' rest : List (Addr × Kn)}
  {env : Env} {pos pos' : Pos} {v : Value} {mg mb : Str → Option Value}
/-- [c for a, b, c in entries] -/
theorem e_pick3 {x1 x2 x3 : Str} {p1 p2 p3 p3' tp : Pos} {k : Nat} {iter : Expr} {scope : Scope} {cl : List (Str × Addr)} {Q : Value → Shared → Prop} (hA : A.handled = none)
    (hs : ∀ x, foldedSetIterable iter env x = pure x) (hclos : closureFor scope env = pure cl) (hcell : ∀ y ∈ scope.names, y.2 ≠ .cell) (hkind : scope.kind = .function)
    (hnames : ∀ y ∈ scope.names, y.2 = .local → scope.names.lookup y.1 = some .local)
    (hn12 : x1 ≠ x2) (hn13 : x1 ≠ x3) (hn23 : x2 ≠ x3) (hd3 : (x3 == ("__debug__" : Str)) = false)
    (hk1 : ∀ C, (compEnvC scope cl C env).kindOf x1 = some .local) (hk2 : ∀ C, (compEnvC scope cl C env).kindOf x2 = some .local) (hk3 : ∀ C, (compEnvC scope cl C env).kindOf x3 = some .local)
    (hkC : ∀ C, (compEnvC scope cl C env).scope.kind = .function)
    (h : wpAny (model prog w) A (eval iter env) (fun v s₁ => Ex9 fun (s₀ : Shared) (W : List Addr) (L : Addr) (l : List (Str × Value)) (rest : List (Addr × Kn)) (D : Addr) (ps : List P2) (p : List Nat) (tl : List (Addr × Kn)) => And8 (v = .ref D) (St s₀ W L l ((D, .lst (p.map fun i => (ps.map (·.1)).getD i .none)) :: rest) s₁) ((∀ a ∈ W, ∃ q ∈ rest, q.1 = a)) (TupIn tl ps) ((∀ q ∈ tl, q ∈ rest)) ((∀ i ∈ p, i < ps.length)) (p.length ≤ 1000) (∀ D' ys s', IntsAre ys (p.map fun i => (kyAt ps i).e) → St s₀ W L l ((D', .lst ys) :: (D, .lst (p.map fun i => (ps.map (·.1)).getD i .none)) :: rest) s' → Q (.ref D') s')) E s) :
    wpAny (model prog w) A (eval (.ListComp (.Name x3 p3') [⟨.Tuple [.Name x1 p1, .Name x2 p2, .Name x3 p3] k tp, iter, [], 0⟩] scope pos) env) Q E s := by
  refine e_comp hs hclos hcell hkind hnames (wpAny_mono h (fun v s₁ h₁ => ?_) fun _ _ e => e)
  obtain ⟨s₀, W, L, l, rest, D, ps, p, tl, rfl, S, hWs, hti, htl, hpl, hz, hq⟩ := h₁
  refine it_list S (S.isList (.head _)) ?_
  intro I s2 S2 _
  have S2 : St s₀ W L l ([(I, litK D 0)] ++ ((D, .lst (p.map fun i => (ps.map (·.1)).getD i .none)) :: rest)) s2 := S2
  have hlD := S2.isList (D := D) (.tail _ (.head _))
  have hneI : ∀ q ∈ (D, Kn.lst (p.map fun i => (ps.map (·.1)).getD i .none)) :: rest, q.1 ≠ I := fun q hq e => by
    have nd := S2.nd
    rw [List.map_append, List.nodup_append] at nd
    exact nd.2.2 I (by simp) q.1 (List.mem_map_of_mem (f := (·.1)) hq) e.symm
  refine ⟨s₀, W, L, l, _, _, fun m ys lw' lc s' => ∃ i, lw' = [(I, litK D i)] ∧ i + m = p.length ∧ IntsAre ys ((p.take i).map fun i => (kyAt ps i).e),
    fun ys lw' s' => lw' = [] ∧ IntsAre ys (p.map fun i => (kyAt ps i).e), p.length, S2, ?_, ?_, ?_, ?_, ?_, ?_⟩
  · intro a ha
    obtain ⟨q, hq, rfl⟩ := hWs a ha
    obtain ⟨o, ho, _⟩ := S2.hold q (List.mem_append_right _ (.tail _ hq))
    exact ⟨o, ho⟩
  · intro s' _
    exact ⟨0, rfl, by omega, .nil⟩
  · intro C D' s' Q₁ E'' SC hq
    exact it_lit SC (.tail _ (.head _)) hq
  · rintro C D' m s' E'' lc ys lw' SC ⟨i, rfl, him, hys⟩
    have hlC : ∀ lc led s', St s2 ([(I, litK D 0)].map (·.1)) C lc led s' → s'.heap.IsList D (p.map fun i => (ps.map (·.1)).getD i .none).toArray := fun lc led s' SC => SC.list hlD (by
      simp only [List.map_cons, List.map_nil, List.mem_singleton]
      exact hneI _ (.head _))
    rcases m with _ | m
    · refine nx_lit_end SC hA (.tail _ (.head _)) (.there .here) (hlC _ _ _ SC) (by rw [List.getElem?_eq_none]; simp; omega) ?_
      intro s3 S3
      exact ⟨lc, ys, [], S3, rfl, by rwa [List.take_of_length_le (by omega)] at hys⟩
    · have hi : i < p.length := by omega
      have hpi : p[i] < ps.length := hpl _ (List.getElem_mem hi)
      obtain ⟨T, t1, t2, t3, e1, hm⟩ := hti (ps[p[i]]) (List.getElem_mem hpi)
      have hx : (p.map fun i => (ps.map (·.1)).getD i Value.none)[i]? = some (.ref T) := by
        rw [List.getElem?_map, List.getElem?_eq_getElem hi]
        show some ((ps.map (·.1)).getD p[i] Value.none) = _
        rw [List.getD_eq_getElem?_getD, List.getElem?_map, List.getElem?_eq_getElem hpi]
        exact congrArg some e1
      refine nx_lit SC (.there .here) (hlC _ _ _ SC) hx ?_
      intro s3 S3
      refine ldg_lit S3 (.tail _ (.head _)) ?_
      have S3 := S3.noloc
      have hTt : IsTup s3.heap T #[.bytes (kyAt ps p[i]).k.toArray t1, .int (kyAt ps p[i]).o t2, .int (kyAt ps p[i]).e t3] := by
        have e2 : kyAt ps p[i] = (ps[p[i]]).2 := by unfold kyAt; simp [hpi]
        rw [e2]
        have hob := S2.ob (List.mem_append_right _ (.tail _ (htl _ hm)))
        have := S3.keep _ _ hob (by
          simp only [List.map_cons, List.map_nil, List.mem_singleton]
          exact hneI _ (.tail _ (htl _ hm)))
        exact ⟨_, this, rfl, _, rfl⟩
      refine asg_tup3 S3 hA hTt .nil (.there hn12.symm .nil) (.there hn13.symm (.there hn23.symm .nil)) ?_ rfl (by
        have := hkC C
        rw [this]; rfl) (hk1 C) (hk2 C) (hk3 C)
      intro s4 S4
      refine tests0 ?_
      refine ift ?_
      refine evE_loc S4 (v := .int (kyAt ps p[i]).e t3) ?_ ?_ rfl (hkC C) (hk3 C) hd3
      · rw [List.lookup_cons, List.lookup_cons, List.lookup_cons]
        have h1 : (x3 == x1) = false := by simpa using Ne.symm hn13
        have h2 : (x3 == x2) = false := by simpa using Ne.symm hn23
        simp [h1, h2]
      have hysl : ys.length = i := by rw [hys.length]; simp; omega
      refine c_append S4 .here (by omega) ?_
      intro s5 S5
      refine ⟨m, _, _, _, by omega, S5, i + 1, rfl, by omega, ?_⟩
      rw [List.take_add_one, List.getElem?_eq_getElem hi, List.map_append]
      exact IntsAre.snocN hys
  · rintro ys lw s' s'' hF _
    exact hF
  · rintro D' ys lw' s' ⟨rfl, hys⟩ SD
    exact hq D' ys s' hys SD
end
end
section
open PySem PySem.W PyProof.Rows PySem.Calls
theorem mro_obj : mroOf (.type "object") = pure [.type "object"] := by kernel_rfl
theorem lookup_obj_new : typeLookup (.type "object") "__new__" = pure (some (.builtin "object.__new__")) := by rw [typeLookup_type, builtinLookup_eq_fast]; kernel_rfl
theorem slot_obj_init : Slot "object" "__init__" "object.__init__" :=
  .of (owner := "object") (n := "__init__") (by rw [typeLookup_type, builtinLookup_eq_fast]; kernel_rfl) (by decide +kernel) (by decide +kernel) (by decide +kernel)
    (by first | exact .inl (by decide +kernel) | exact .inr (by decide +kernel)) (by rw [isSubtype_type]; kernel_rfl)
theorem called_obj : TypeCalled "object" "object.__new__" "object.__init__" :=
  ⟨by decide +kernel, by decide +kernel, ⟨_, _, mro_obj⟩, madeBy_type mro_obj lookup_obj_new (by decide +kernel), by decide +kernel, by rw [isSubtype_type]; kernel_rfl, slot_obj_init⟩
theorem typeCall_obj : checkTypeCall "object" ⟨[], []⟩ = pure () := (congrFun (congrFun PySem.W.Fast.te11612656972197000677 _) _).trans (by kernel_rfl)
theorem newCall_obj : checkBuiltinCall "object.__new__" ⟨[.type "object"], []⟩ = pure () := (congrFun (congrFun PySem.W.Fast.te10254737850608025244 _) _).trans (by kernel_rfl)
theorem entry_obj_new : entryFor table "object.__new__" = some Builtin.«object.__new__» := entryFor_of_tree (by kernel_rfl)
theorem args_obj_init (a : Value) : argsOk "object.__init__" ⟨[a], []⟩ := by unfold argsOk; kernel_rfl
theorem madeHere_obj : Bind.madeHere "object.__new__" (.type "object") = pure () := (congrFun (congrFun PySem.W.Fast.te7909335148693498415 _) _).trans (by kernel_rfl)
theorem meets_obj_new : Meets (Builtin.«object.__new__» ⟨[.type "object"], []⟩) (fun _ R s => R (.ok (.ret (.ref s.heap.objs.size))) { s with heap := s.heap.push { cls := .type "object", data := .plain } }) :=
  .of_wp fun prog w A R s h => by
    have hd : typeHasDict (.type "object") = false := by decide +kernel
    have hnn : ((Manifest.find? "object").elim false (·.mro.any fun t => (Manifest.find? t).elim false (·.noNew))) = false := by decide +kernel
    have hdl : diesByItsTypesDel "object" = false := by decide +kernel
    unfold Builtin.«object.__new__»
    dsimp only
    refine wpAny_bind (wpAny_of_eq (a := true) (by first | rfl | kernel_rfl) ?_)
    simp only [Bool.not_true, Bool.false_eq_true, if_false, hnn]
    refine wpAny_bind (wpAny_of_eq (a := ()) madeHere_obj ?_)
    simp only [List.isEmpty_nil, Bool.not_true, Bool.or_self, Bool.false_eq_true, if_false, hd]
    refine wpAny_bind (wpAny_pure ?_)
    refine wpAny_bind (wpAny_newObj_type ?_ (by size_fits))
    simp only [hdl, Bool.false_eq_true, if_false]
    exact wpAny_pure ⟨_, rfl, h⟩
theorem meets_obj_init (self : Value) : Meets (Builtin.«object.__init__» ⟨[self], []⟩) (fun _ R s => R (.ok (.ret .none)) s) := Meets.of_wp fun prog w A R s hs => wpAny_pure ⟨_, rfl, hs⟩
section
variable {prog : Program} {w : World} {A : Around} {E : Value → Shared → Prop} {s₀ s : Shared} {W : List Addr} {L D I a : Addr} {l l' : List (Str × Value)} {led led' rest : List (Addr × Kn)}
  {env : Env} {pos pos' : Pos} {v : Value} {mg mb : Str → Option Value}
theorem c_object {Q : Value → Shared → Prop} (S : St s₀ W L l led s) (h : ∀ D s', St s₀ W L l ((D, .pr fun _ => True) :: led) s' → Q (.ref D) s') : wpAny (model prog w) A (call (.type "object") []) Q E s := by
  refine callType_meets (Q₁ := fun obj s₁ => obj = .ref s.heap.objs.size ∧ s₁ = { s with heap := s.heap.push { cls := .type "object", data := .plain } }) called_obj typeCall_obj newCall_obj entry_obj_new F.entry_object_init meets_obj_new ⟨rfl, rfl⟩ fun obj s₁ hq => ?_
  obtain ⟨rfl, rfl⟩ := hq
  exact ⟨⟨_, Heap.get?_push_size _ rfl, rfl⟩, args_obj_init _, _, meets_obj_init _, rfl, h _ _ (S.new (t := s.toks) rfl rfl trivial)⟩
end
end
section
open PySem PySem.W PyProof.Rows PySem.Calls
theorem slot_bytes_gt : Slot "bytes" (cmpInfo .Gt).2.1 "bytes.__gt__" :=
  .of (owner := "bytes") (n := "__gt__") (by rw [typeLookup_type, builtinLookup_eq_fast]; kernel_rfl) (by decide +kernel) (by decide +kernel) (by decide +kernel)
    (by first | exact .inl (by decide +kernel) | exact .inr (by decide +kernel)) (by rw [isSubtype_type]; kernel_rfl)
theorem entry_bytes_gt : entryFor table "bytes.__gt__" = some Builtin.«bytes.__gt__» := entryFor_of_tree (by kernel_rfl)
theorem args_bytes_gt_2 (a b : Value) : argsOk "bytes.__gt__" ⟨[a, b], []⟩ := by
  unfold argsOk; rw [signature?_of (id := "bytes.__gt__") (n := ['_', '_', 't', 'g', '_', '_']) (o := ['s', 'e', 't', 'y', 'b']) (by kernel_rfl) FB.owner_bytes]; kernel_rfl
theorem order_gt : ∀ (a b : List UInt8), Builtin.Bytes.holds "__gt__" (Builtin.Bytes.order a b) = ltB b a
  | [], [] => rfl
  | [], _ :: _ => rfl
  | _ :: _, [] => rfl
  | x :: xs, y :: ys => by
    have ih := order_gt xs ys
    unfold Builtin.Bytes.order ltB
    by_cases h1 : x < y
    · have h2 : ¬ y < x := fun h => by rw [UInt8.lt_iff_toNat_lt] at h1 h; walk_at "lia"
      simp [h1, h2, Builtin.Bytes.holds]
    · by_cases h2 : y < x
      · simp [h1, h2, Builtin.Bytes.holds]
      · simp [h1, h2, ih]
theorem gives_bytes_gt (b c : Array UInt8) (t u : Tok) : Gives (Builtin.«bytes.__gt__» ⟨[.bytes b t, .bytes c u], []⟩) (.val (.bool (ltB c.toList b.toList))) := by
  refine .of_wp fun M A E s Q hq => ?_
  show wpAny M A (isInstance (.bytes c u) (.type "bytes") >>= fun r => _) _ E s
  refine wpAny_bind (wpAny_isInstance (typeIs_bytes s c u) F.sub_bytes_bytes ?_)
  exact wpAny_pure ⟨_, rfl, by rw [← order_gt] at hq; exact hq⟩
section
variable {prog : Program} {w : World} {A : Around} {E : Value → Shared → Prop} {s₀ s : Shared} {W : List Addr} {L D I a Sb : Addr} {l l' : List (Str × Value)} {led led' rest : List (Addr × Kn)}
  {env : Env} {pos pos' : Pos} {v d : Value} {mg mb : Str → Option Value} {kf : Addr} {ks : Nat → List UInt8} {N : Nat} {vs : List Value} {f : Nat → Int}
theorem rich_gt_bytes {b c : List UInt8} {t u : Tok} {Q : Value → Shared → Prop} (h : Q (.bool (ltB c b)) s) : wpAny (model prog w) A (richCompare .Gt (.bytes b.toArray t) (.bytes c.toArray u)) Q E s :=
  richCompare_gives (op := .Gt) (T := "bytes") rfl rfl slot_bytes_gt entry_bytes_gt (args_bytes_gt_2 _ _) (gives_bytes_gt _ _ t u) (fun x => nomatch x) h
theorem rich_lt_bytes2 {b c : List UInt8} {t u : Tok} {Q : Value → Shared → Prop} (h : Q (.bool (ltB b c)) s) : wpAny (model prog w) A (richCompare .Lt (.bytes b.toArray t) (.bytes c.toArray u)) Q E s := rich_lt_bytes h
theorem set_pair {its : List Value} {x y : Value} {Q : Unit → Shared → Prop} {r : List (Addr × Kn)} (S : St s₀ W L l ((Sb, .lst its) :: r) s) (hz : its.length ≤ 2) (h : ∀ s', St s₀ W L l ((Sb, .lst [x, y]) :: r) s' → Q () s') :
    wpAny (model prog w) A (updateSeq Sb (fun _ => #[x, y])) Q E s := by
  obtain ⟨o, ho, n, rfl⟩ := S.hold _ (.head _)
  have sb := Heap.SameBut.update s.heap Sb (Obj.mapSeq fun _ => #[x, y])
  have hup := get?_update_seq ho (fun _ => #[x, y])
  exact wpAny_updateSeq ho rfl (h _ (S.upd (t := s.toks) (o' := .lst [x, y]) .here hup ⟨_, rfl⟩ fun c o hc e => sb.extBut c o hc e)) (by rw [List.size_toArray, sizeLine_eq]; walk_at "lia") (by show 2 ≤ sizeLine + 1; rw [sizeLine_eq]; walk_at "lia")
theorem set_nil {its : List Value} {Q : Unit → Shared → Prop} {r : List (Addr × Kn)} (S : St s₀ W L l ((Sb, .lst its) :: r) s) (hz : its.length ≤ 2) (h : ∀ s', St s₀ W L l ((Sb, .lst []) :: r) s' → Q () s') :
    wpAny (model prog w) A (updateSeq Sb (fun _ => #[])) Q E s := by
  obtain ⟨o, ho, n, rfl⟩ := S.hold _ (.head _)
  have sb := Heap.SameBut.update s.heap Sb (Obj.mapSeq fun _ => (#[] : Array Value))
  have hup := get?_update_seq ho (fun _ => (#[] : Array Value))
  exact wpAny_updateSeq ho rfl (h _ (S.upd (t := s.toks) (o' := .lst []) .here hup ⟨_, rfl⟩ fun c o hc e => sb.extBut c o hc e)) (by rw [List.size_toArray, sizeLine_eq]; walk_at "lia") (Nat.zero_le _)
theorem min_loop (hA : Ok A 4) (hkey : KeyOk prog w s₀ W kf ks N) (hl : ∀ led s, St s₀ W L l led s → s.heap.IsList a vs.toArray) (hvs : IntsAre vs ((List.range N).map fun i : Nat => (i : Int)))
    (hf : ∀ i < N, ∀ j < N, ltB (ks i) (ks j) = decide (f i < f j)) {R : Result → Shared → Prop}
    (hR : ∀ i t s', i < N → (∀ j, j < N → j ≠ i → Lx (sg false f) i j) → St s₀ W L l ((Sb, .lst []) :: (I, lixK) :: rest) s' → R (.ok (.ret (.int (i : Int) t))) s') :
    ∀ (r j i : Nat) (s : Shared) (tv tb : Tok), j + r = N → i < j → (∀ j', j' < j → j' ≠ i → Lx (sg false f) i j') →
      St s₀ W L l ((Sb, .lst [.int (i : Int) tv, .bytes (ks i).toArray tb]) :: (I, litK a j) :: rest) s →
      codeAny (model prog w) A (.builtin "min.loop" ⟨[.ref I, .ref kf, .ref Sb], [("default", d)]⟩) R s := by
  have hname : (toString "min" ++ toString ".loop" : String) = "min.loop" := by decide
  have hNl : vs.length = N := by rw [hvs.length, List.length_map, List.length_range]
  intro r
  induction r with
  | zero =>
    intro j i s tv tb hr hij hbest S
    obtain rfl : j = N := by walk_at "lia"
    obtain ⟨o, ho, n, rfl⟩ := S.hold _ (.head _)
    refine codeAny_builtin PySem.F.entry_min_loop ?_
    rw [Around.under_plainId PySem.F.plain_min_loop _]
    show wpAny _ A.in1 (seqItems? (.ref Sb) >>= _) _ _ _
    refine wpAny_bind (wpAny_seqItems ho rfl ?_)
    show wpAny _ A.in1 (tryCatch (pyNext (.ref I)) _ >>= _) _ _ _
    refine wpAny_bind (wpAny_tryCatch (nx_litX hA.h S (.there .here) (hl _ _ S) (by rw [List.getElem?_eq_none]; walk_at "lia") fun s2 S2 => ?_))
    show wpAny _ A.in1 (updateSeq Sb (fun _ => #[]) >>= _) _ _ _
    refine wpAny_bind (set_nil S2 (by simp) fun s3 S3 => wpAny_bind (wpAny_letGo (wpAny_pure ?_)))
    exact hR i tv s3 hij hbest S3
  | succ r ih =>
    intro j i s tv tb hr hij hbest S
    have hj : j < N := by walk_at "lia"
    obtain ⟨o, ho, n, rfl⟩ := S.hold _ (.head _)
    obtain ⟨_, tj, htj⟩ := ints_at hvs j (by walk_at "lia")
    refine codeAny_builtin PySem.F.entry_min_loop ?_
    rw [Around.under_plainId PySem.F.plain_min_loop _]
    show wpAny _ A.in1 (seqItems? (.ref Sb) >>= _) _ _ _
    refine wpAny_bind (wpAny_seqItems ho rfl ?_)
    show wpAny _ A.in1 (tryCatch (pyNext (.ref I)) _ >>= _) _ _ _
    refine wpAny_bind (wpAny_tryCatch (nx_lit S (.there .here) (hl _ _ S) htj fun s2 S2 => ?_))
    show wpAny _ A.in1 (tryCatch (holding [.int (j : Int) tj] (call (.ref kf) [.int (j : Int) tj])) _ >>= _) _ _ _
    refine wpAny_bind (wpAny_tryCatch (wpAny_holding (hkey.call _ _ _ j tj _ S2.keep hA.in1 hj fun t3 s3 O3 => ?_)))
    have S3 := S2.out O3
    show wpAny _ A.in1 (tryCatch (holding [.int (j : Int) tj, .bytes (ks j).toArray t3] (richCompare .Lt (.bytes (ks j).toArray t3) (.bytes (ks i).toArray tb) >>= _)) _ >>= _) _ _ _
    refine wpAny_bind (wpAny_tryCatch (wpAny_holding (wpAny_bind (rich_lt_bytes2 ?_))))
    refine wpAny_bind (wpAny_holding (wpAny_truthy_bool ?_))
    refine wpAny_bind (wpAny_letGo (wpAny_pure ?_))
    have hc := hf j hj i (by walk_at "lia")
    rw [hc]
    by_cases hb : f j < f i
    · simp only [hb, decide_true, if_true]
      refine wpAny_bind ?_
      refine set_pair S3 (by simp) fun s4 S4 => wpAny_bind (wpAny_letGo ?_)
      rw [hname]
      refine wpAny_pure ⟨plainId_quiet PySem.F.plain_min_loop _, ih (j + 1) j _ tj t3 (by walk_at "lia") (by walk_at "lia") (fun j' hj' hne => ?_) S4⟩
      have hji : Lx (sg false f) j i := .inl (by unfold sg; simp only [if_true, if_false, Bool.false_eq_true]; walk_at "lia")
      by_cases e : j' = i
      · rw [e]; exact hji
      · exact hji.tr (hbest j' (by walk_at "lia") e)
    · simp only [hb, decide_false, Bool.false_eq_true, if_false]
      refine wpAny_bind (wpAny_letGo ?_)
      rw [hname]
      refine wpAny_pure ⟨plainId_quiet PySem.F.plain_min_loop _, ih (j + 1) i _ tv tb (by walk_at "lia") (by walk_at "lia") (fun j' hj' hne => ?_) S3⟩
      by_cases e : j' = j
      · subst e
        unfold Lx sg
        simp only [if_true, if_false, Bool.false_eq_true]
        walk_at "lia"
      · exact hbest j' (by walk_at "lia") hne
theorem args_min (x y z : Value) : argsOk "min" ⟨[x], [(Str.ofString "default", y), (Str.ofString "key", z)]⟩ := by unfold argsOk; kernel_rfl
theorem c_min {Q : Value → Shared → Prop} (hA : Ok A 5) (hkey : KeyOk prog w s₀ W kf ks N) (hl : ∀ led s, St s₀ W L l led s → s.heap.IsList a vs.toArray) (hvs : IntsAre vs ((List.range N).map fun i : Nat => (i : Int)))
    (hf : ∀ i < N, ∀ j < N, ltB (ks i) (ks j) = decide (f i < f j)) (hN : 0 < N) (S : St s₀ W L l ((I, litK a 0) :: rest) s)
    (h : ∀ i t s', Sel (sg false f) N 1 [i] → St s₀ W L l ((I, lixK) :: rest) s' → Q (.int (i : Int) t) s') :
    wpAny (model prog w) A (call (.builtin "min") [.ref I] [(Str.ofString "default", d), (Str.ofString "key", .ref kf)]) Q E s := by
  have hname : (toString "min" ++ toString ".loop" : String) = "min.loop" := by decide
  have hNl : vs.length = N := by rw [hvs.length, List.length_map, List.length_range]
  refine kmk_tree PySem.F.kind_min PySem.F.plain_min PySem.F.entry_min (args_min _ _ _) ?_
  show wpAny _ A.in1 (Builtin.Builtins.bindParams "min" ["key", "default"] 0 ⟨[], [(Str.ofString "default", d), (Str.ofString "key", .ref kf)]⟩ >>= _) _ _ s
  refine wpAny_bind (wpAny_of_eq (show Builtin.Builtins.bindParams "min" ["key", "default"] 0 ⟨[], [(Str.ofString "default", d), (Str.ofString "key", .ref kf)]⟩ = pure [some (.ref kf), some d] from rfl) ?_)
  refine wpAny_bind (wpAny_pure ?_)
  refine wpAny_bind (it_lit S (.head _) ?_)
  refine wpAny_bind (wpAny_newList ?_ (Nat.zero_le _))
  rw [hname]
  have S1 := S.new (t := s.toks) (o := { cls := .type "list", data := .seq ([] : List Value).toArray }) (kn := .lst []) rfl rfl ⟨0, rfl⟩
  generalize hs1 : ({ s with heap := s.heap.push { cls := .type "list", data := .seq ([] : List Value).toArray }, toks := s.toks } : Shared) = s1 at S1
  generalize s.heap.objs.size = Sb at S1 ⊢
  refine wpAny_pure ⟨plainId_quiet PySem.F.plain_min_loop _, ?_⟩
  obtain ⟨o, ho, n, rfl⟩ := S1.hold _ (.head _)
  obtain ⟨_, tj, htj⟩ := ints_at hvs 0 (by walk_at "lia")
  refine codeAny_builtin PySem.F.entry_min_loop ?_
  rw [Around.under_plainId PySem.F.plain_min_loop _]
  show wpAny _ A.in1 (seqItems? (.ref Sb) >>= _) _ _ _
  refine wpAny_bind (wpAny_seqItems ho rfl ?_)
  show wpAny _ A.in1 (tryCatch (pyNext (.ref I)) _ >>= _) _ _ _
  refine wpAny_bind (wpAny_tryCatch (nx_lit S1 (.there .here) (hl _ _ S1) htj fun s2 S2 => ?_))
  show wpAny _ A.in1 (tryCatch (holding [.int ((0 : Nat) : Int) tj] (call (.ref kf) [.int ((0 : Nat) : Int) tj])) _ >>= _) _ _ _
  refine wpAny_bind (wpAny_tryCatch (wpAny_holding (hkey.call _ _ _ 0 tj _ S2.keep (hA.in1.le (by walk_at "lia")) hN fun t3 s3 O3 => ?_)))
  have S3 := S2.out O3
  show wpAny _ A.in1 (updateSeq Sb (fun _ => #[.int ((0 : Nat) : Int) tj, .bytes (ks 0).toArray t3]) >>= _) _ _ _
  refine wpAny_bind (set_pair S3 (by simp) fun s4 S4 => ?_)
  rw [hname]
  refine wpAny_pure ⟨plainId_quiet PySem.F.plain_min_loop _, min_loop (hA.le (by walk_at "lia")) hkey hl hvs hf (fun i t s' hi hb S' => h i t s' ⟨List.pairwise_singleton .., fun q hq => by rw [List.mem_singleton.mp hq]; exact hi, by simp; walk_at "lia", fun q hq j hj hji => ?_⟩ S'.drop) (N - 1) 1 0 s4 tj t3 (by walk_at "lia") (by walk_at "lia") (fun j' hj' hne => absurd hj' (by walk_at "lia")) S4⟩
  rw [List.mem_singleton.mp hq]
  exact hb j hj fun e => hji (by rw [e]; exact .head _)
theorem max_loop (hA : Ok A 4) (hkey : KeyOk prog w s₀ W kf ks N) (hl : ∀ led s, St s₀ W L l led s → s.heap.IsList a vs.toArray) (hvs : IntsAre vs ((List.range N).map fun i : Nat => (i : Int)))
    (hf : ∀ i < N, ∀ j < N, ltB (ks i) (ks j) = decide (f i < f j)) {R : Result → Shared → Prop}
    (hR : ∀ i t s', i < N → (∀ j, j < N → j ≠ i → Lx (sg true f) i j) → St s₀ W L l ((Sb, .lst []) :: (I, lixK) :: rest) s' → R (.ok (.ret (.int (i : Int) t))) s') :
    ∀ (r j i : Nat) (s : Shared) (tv tb : Tok), j + r = N → i < j → (∀ j', j' < j → j' ≠ i → Lx (sg true f) i j') →
      St s₀ W L l ((Sb, .lst [.int (i : Int) tv, .bytes (ks i).toArray tb]) :: (I, litK a j) :: rest) s →
      codeAny (model prog w) A (.builtin "max.loop" ⟨[.ref I, .ref kf, .ref Sb], [("default", d)]⟩) R s := by
  have hname : (toString "max" ++ toString ".loop" : String) = "max.loop" := by decide
  have hNl : vs.length = N := by rw [hvs.length, List.length_map, List.length_range]
  intro r
  induction r with
  | zero =>
    intro j i s tv tb hr hij hbest S
    obtain rfl : j = N := by walk_at "lia"
    obtain ⟨o, ho, n, rfl⟩ := S.hold _ (.head _)
    refine codeAny_builtin PySem.F.entry_max_loop ?_
    rw [Around.under_plainId PySem.F.plain_max_loop _]
    show wpAny _ A.in1 (seqItems? (.ref Sb) >>= _) _ _ _
    refine wpAny_bind (wpAny_seqItems ho rfl ?_)
    show wpAny _ A.in1 (tryCatch (pyNext (.ref I)) _ >>= _) _ _ _
    refine wpAny_bind (wpAny_tryCatch (nx_litX hA.h S (.there .here) (hl _ _ S) (by rw [List.getElem?_eq_none]; walk_at "lia") fun s2 S2 => ?_))
    show wpAny _ A.in1 (updateSeq Sb (fun _ => #[]) >>= _) _ _ _
    refine wpAny_bind (set_nil S2 (by simp) fun s3 S3 => wpAny_bind (wpAny_letGo (wpAny_pure ?_)))
    exact hR i tv s3 hij hbest S3
  | succ r ih =>
    intro j i s tv tb hr hij hbest S
    have hj : j < N := by walk_at "lia"
    obtain ⟨o, ho, n, rfl⟩ := S.hold _ (.head _)
    obtain ⟨_, tj, htj⟩ := ints_at hvs j (by walk_at "lia")
    refine codeAny_builtin PySem.F.entry_max_loop ?_
    rw [Around.under_plainId PySem.F.plain_max_loop _]
    show wpAny _ A.in1 (seqItems? (.ref Sb) >>= _) _ _ _
    refine wpAny_bind (wpAny_seqItems ho rfl ?_)
    show wpAny _ A.in1 (tryCatch (pyNext (.ref I)) _ >>= _) _ _ _
    refine wpAny_bind (wpAny_tryCatch (nx_lit S (.there .here) (hl _ _ S) htj fun s2 S2 => ?_))
    show wpAny _ A.in1 (tryCatch (holding [.int (j : Int) tj] (call (.ref kf) [.int (j : Int) tj])) _ >>= _) _ _ _
    refine wpAny_bind (wpAny_tryCatch (wpAny_holding (hkey.call _ _ _ j tj _ S2.keep hA.in1 hj fun t3 s3 O3 => ?_)))
    have S3 := S2.out O3
    show wpAny _ A.in1 (tryCatch (holding [.int (j : Int) tj, .bytes (ks j).toArray t3] (richCompare .Gt (.bytes (ks j).toArray t3) (.bytes (ks i).toArray tb) >>= _)) _ >>= _) _ _ _
    refine wpAny_bind (wpAny_tryCatch (wpAny_holding (wpAny_bind (rich_gt_bytes ?_))))
    refine wpAny_bind (wpAny_holding (wpAny_truthy_bool ?_))
    refine wpAny_bind (wpAny_letGo (wpAny_pure ?_))
    have hc := hf i (by walk_at "lia") j hj
    rw [hc]
    by_cases hb : f i < f j
    · simp only [hb, decide_true, if_true]
      refine wpAny_bind ?_
      refine set_pair S3 (by simp) fun s4 S4 => wpAny_bind (wpAny_letGo ?_)
      rw [hname]
      refine wpAny_pure ⟨plainId_quiet PySem.F.plain_max_loop _, ih (j + 1) j _ tj t3 (by walk_at "lia") (by walk_at "lia") (fun j' hj' hne => ?_) S4⟩
      have hji : Lx (sg true f) j i := .inl (by unfold sg; simp only [if_true, if_false, Bool.false_eq_true]; walk_at "lia")
      by_cases e : j' = i
      · rw [e]; exact hji
      · exact hji.tr (hbest j' (by walk_at "lia") e)
    · simp only [hb, decide_false, Bool.false_eq_true, if_false]
      refine wpAny_bind (wpAny_letGo ?_)
      rw [hname]
      refine wpAny_pure ⟨plainId_quiet PySem.F.plain_max_loop _, ih (j + 1) i _ tv tb (by walk_at "lia") (by walk_at "lia") (fun j' hj' hne => ?_) S3⟩
      by_cases e : j' = j
      · subst e
        unfold Lx sg
        simp only [if_true, if_false, Bool.false_eq_true]
        walk_at "lia"
      · exact hbest j' (by walk_at "lia") hne
theorem args_max (x y z : Value) : argsOk "max" ⟨[x], [(Str.ofString "default", y), (Str.ofString "key", z)]⟩ := by unfold argsOk; kernel_rfl
theorem c_max {Q : Value → Shared → Prop} (hA : Ok A 5) (hkey : KeyOk prog w s₀ W kf ks N) (hl : ∀ led s, St s₀ W L l led s → s.heap.IsList a vs.toArray) (hvs : IntsAre vs ((List.range N).map fun i : Nat => (i : Int)))
    (hf : ∀ i < N, ∀ j < N, ltB (ks i) (ks j) = decide (f i < f j)) (hN : 0 < N) (S : St s₀ W L l ((I, litK a 0) :: rest) s)
    (h : ∀ i t s', Sel (sg true f) N 1 [i] → St s₀ W L l ((I, lixK) :: rest) s' → Q (.int (i : Int) t) s') :
    wpAny (model prog w) A (call (.builtin "max") [.ref I] [(Str.ofString "default", d), (Str.ofString "key", .ref kf)]) Q E s := by
  have hname : (toString "max" ++ toString ".loop" : String) = "max.loop" := by decide
  have hNl : vs.length = N := by rw [hvs.length, List.length_map, List.length_range]
  refine kmk_tree PySem.F.kind_max PySem.F.plain_max PySem.F.entry_max (args_max _ _ _) ?_
  show wpAny _ A.in1 (Builtin.Builtins.bindParams "max" ["key", "default"] 0 ⟨[], [(Str.ofString "default", d), (Str.ofString "key", .ref kf)]⟩ >>= _) _ _ s
  refine wpAny_bind (wpAny_of_eq (show Builtin.Builtins.bindParams "max" ["key", "default"] 0 ⟨[], [(Str.ofString "default", d), (Str.ofString "key", .ref kf)]⟩ = pure [some (.ref kf), some d] from rfl) ?_)
  refine wpAny_bind (wpAny_pure ?_)
  refine wpAny_bind (it_lit S (.head _) ?_)
  refine wpAny_bind (wpAny_newList ?_ (Nat.zero_le _))
  rw [hname]
  have S1 := S.new (t := s.toks) (o := { cls := .type "list", data := .seq ([] : List Value).toArray }) (kn := .lst []) rfl rfl ⟨0, rfl⟩
  generalize hs1 : ({ s with heap := s.heap.push { cls := .type "list", data := .seq ([] : List Value).toArray }, toks := s.toks } : Shared) = s1 at S1
  generalize s.heap.objs.size = Sb at S1 ⊢
  refine wpAny_pure ⟨plainId_quiet PySem.F.plain_max_loop _, ?_⟩
  obtain ⟨o, ho, n, rfl⟩ := S1.hold _ (.head _)
  obtain ⟨_, tj, htj⟩ := ints_at hvs 0 (by walk_at "lia")
  refine codeAny_builtin PySem.F.entry_max_loop ?_
  rw [Around.under_plainId PySem.F.plain_max_loop _]
  show wpAny _ A.in1 (seqItems? (.ref Sb) >>= _) _ _ _
  refine wpAny_bind (wpAny_seqItems ho rfl ?_)
  show wpAny _ A.in1 (tryCatch (pyNext (.ref I)) _ >>= _) _ _ _
  refine wpAny_bind (wpAny_tryCatch (nx_lit S1 (.there .here) (hl _ _ S1) htj fun s2 S2 => ?_))
  show wpAny _ A.in1 (tryCatch (holding [.int ((0 : Nat) : Int) tj] (call (.ref kf) [.int ((0 : Nat) : Int) tj])) _ >>= _) _ _ _
  refine wpAny_bind (wpAny_tryCatch (wpAny_holding (hkey.call _ _ _ 0 tj _ S2.keep (hA.in1.le (by walk_at "lia")) hN fun t3 s3 O3 => ?_)))
  have S3 := S2.out O3
  show wpAny _ A.in1 (updateSeq Sb (fun _ => #[.int ((0 : Nat) : Int) tj, .bytes (ks 0).toArray t3]) >>= _) _ _ _
  refine wpAny_bind (set_pair S3 (by simp) fun s4 S4 => ?_)
  rw [hname]
  refine wpAny_pure ⟨plainId_quiet PySem.F.plain_max_loop _, max_loop (hA.le (by walk_at "lia")) hkey hl hvs hf (fun i t s' hi hb S' => h i t s' ⟨List.pairwise_singleton .., fun q hq => by rw [List.mem_singleton.mp hq]; exact hi, by simp; walk_at "lia", fun q hq j hj hji => ?_⟩ S'.drop) (N - 1) 1 0 s4 tj t3 (by walk_at "lia") (by walk_at "lia") (fun j' hj' hne => absurd hj' (by walk_at "lia")) S4⟩
  rw [List.mem_singleton.mp hq]
  exact hb j hj fun e => hji (by rw [e]; exact .head _)
end
end
section
open PySem PySem.W PyProof.Rows PySem.Calls
section
variable {prog : Program} {w : World} {A : Around} {E : Value → Shared → Prop} {s₀ s : Shared} {W : List Addr} {L D I a Sb : Addr} {l l' : List (Str × Value)} {led led' rest : List (Addr × Kn)}
  {env : Env} {pos pos' : Pos} {v d : Value} {mg mb : Str → Option Value}
theorem op_is_int_ref {i : Int} {t : Tok} {Q : Value → Shared → Prop} (h : Q (.bool false) s) : wpAny (model prog w) A (compareOp .Is (.int i t) (.ref a)) Q E s := wpAny_is_plain rfl h
theorem cw_ty0 {T : String} {Q : Value → Shared → Prop} (h : wpAny (model prog w) A (call (.type T) []) Q E s) :
    wpAny (model prog w) A (callWith pos (.type T) [] (backTo pos (starEach [] env)) (backToKw pos (keywordEach [] env))) Q E s :=
  PyProof.Rows.callWith_type (args := []) rfl (PySem.evalArgs_none h)
theorem e_list {elts : List Expr} {Q : Value → Shared → Prop}
    (h : wpAny (model prog w) A (spliced (backTo pos (starEach elts env))) (fun vs s₁ => Ex5 fun s₀ W L l led => And3 (St s₀ W L l led s₁) (vs.length ≤ 1000) (∀ D s', St s₀ W L l ((D, .lst vs) :: led) s' → Q (.ref D) s')) E s) :
    wpAny (model prog w) A (eval (.List elts pos) env) Q E s :=
  wpAny_List (wpAny_mono h (fun vs s₁ ⟨s₀, W, L, l, led, S, hz, hq⟩ => ⟨Nat.le_trans hz (by decide), hq _ _ (S.new (t := s₁.toks) rfl rfl ⟨0, rfl⟩)⟩) fun _ _ e => e)
end
end
section
open PySem PySem.W PyProof.Rows PySem.Calls
section
variable {prog : Program} {w : World} {A : Around} {E : Value → Shared → Prop} {s₀ s : Shared} {W : List Addr} {L D I a Sb : Addr} {l l' : List (Str × Value)} {led led' rest : List (Addr × Kn)}
  {env : Env} {pos pos' : Pos} {v d : Value} {mg mb : Str → Option Value}
theorem c_range3 {x y z : Int} {t u v : Tok} {Q : Value → Shared → Prop} (S : St s₀ W L l led s) (hz : z = -1) (h : ∀ r t u v s', St s₀ W L l ((r, .ob (rangeO x y z t u v)) :: led) s' → Q (.ref r) s') :
    wpAny (model prog w) A (call (.type "range") [.int x t, .int y u, .int z v]) Q E s := by
  refine call_range_3 (by omega) (h _ t u v _ (S.new (t := s.toks) rfl rfl rfl)) ?_
  subst hz
  exact Or.inl (PyProof.noPylong_of_log2 (by decide +kernel))
end
end
section
open PySem PySem.W PyProof.Rows PySem.Calls
noncomputable abbrev cell0K : Kn := .pr fun o => o.data = .cell none
section
variable {prog : Program} {w : World} {A : Around} {E : Value → Shared → Prop} {s₀ s : Shared} {W : List Addr} {L D I a b : Addr} {l l' : List (Str × Value)} {led led' rest : List (Addr × Kn)}
  {env : Env} {pos pos' : Pos} {v d : Value} {mg mb : Str → Option Value} {xs ys : List Value}
theorem c_int {n : Int} {u : Tok} {Q : Value → Shared → Prop} (h : Q (.int n u) s) : wpAny (model prog w) A (call (.type "int") [.int n u]) Q E s := call_int_int h
theorem op_ladd {Q : Value → Shared → Prop} (S : St s₀ W L l led s) (ha : s.heap.IsList a xs.toArray) (hb : s.heap.IsList b ys.toArray) (hz : xs.length + ys.length ≤ 1000)
    (h : ∀ D s', St s₀ W L l ((D, .lst (xs ++ ys)) :: led) s' → Q (.ref D) s') : wpAny (model prog w) A (binaryOp .Add (.ref a) (.ref b)) Q E s := by
  obtain ⟨⟨cls, dd, data, sl⟩, ho, hc, n, hd⟩ := id ha
  obtain ⟨⟨cls2, dd2, data2, sl2⟩, ho2, hc2, n2, hd2⟩ := id hb
  simp only at hc hd hc2 hd2
  subst hc hd hc2 hd2
  have e : xs.toArray ++ ys.toArray = (xs ++ ys).toArray := by simp
  refine concat_meets ⟨_, ho, rfl⟩ ⟨_, ho2, rfl⟩ noFill_list_add seq_list_add PySem.F.slot_list_add PySem.F.entry_list_add (PySem.F.args_list_add_2 _ _) (list_addW a b xs.toArray ys.toArray n n2 dd dd2 sl sl2 (by simp; rw [sizeLine_eq]; walk_at "lia")) ⟨ho, ho2, ?_⟩
  rw [e]
  exact h _ _ (S.new (t := s.toks) rfl rfl ⟨0, rfl⟩)
/-- xs[k:] -/
theorem sl_from {lo : Expr} {p : Pos} {value : Expr} {Q : Value → Shared → Prop}
    (h : wpAny (model prog w) A (eval lo env) (fun v s₁ => Ex8 fun (k : Nat) (u : Tok) (its : List Value) (s₀ : Shared) (W : List Addr) (L : Addr) (l : List (Str × Value)) (led : List (Addr × Kn)) => And5 (v = .int (k : Int) u) (St s₀ W L l led s₁) (s₁.heap.IsList a its.toArray) (its.length ≤ 1000) (∀ D' s', St s₀ W L l ((D', .lst (its.drop k)) :: led) s' → Q (.ref D') s')) E s) :
    wpAny (model prog w) A (eval (.Slice (some lo) none none p) env) (fun i s₂ => wpAny (model prog w) A (subscriptTail value (.Slice (some lo) none none p) (.ref a) i) Q E s₂) E s := by
  refine wpAny_Slice (wpAny_mono (show wpAny _ _ (eval lo env) _ _ _ from h) (fun v s₁ h₁ => wpAny_pure (wpAny_pure ?_)) fun _ _ e => e)
  obtain ⟨k, u, its, s₀, W, L, l, led, rfl, S, hl, hz, hq⟩ := h₁
  refine tail_ops (ops := [.ref s₁.heap.objs.size, .ref a]) (Heap.IsList.typeIs (s := { s₁ with heap := s₁.heap.push { cls := .type "slice", data := .fields #[.int (k : Int) u, .none, .none] } }) (hl.push _)) list_getitem_lookup
    (wpAny_getItem_list_slice (hl.push _) (Heap.IsSliceOf.new ..) (.int _ _) .none .none (by simp) ?_ (by rw [List.size_toArray, sizeLine_eq]; walk_at "lia")) (by with_unfolding_all rfl)
  have S1 := S.new (t := s₁.toks) (o := { cls := .type "slice", data := .fields #[.int (k : Int) u, .none, .none] }) (kn := .pr fun _ => True) rfl rfl trivial
  have S2 := S1.new (t := s₁.toks) (o := { cls := .type "list", data := .seq (slicePick its.toArray (some (k : Int)) none none) }) (kn := .lst (its.drop k)) rfl rfl ⟨0, by rw [slicePick_from']⟩
  exact hq _ _ (S2.subled (.cons_cons _ (List.sublist_cons_self ..)))
/-- xs.pop(k) -/
theorem m_pop {its : List Value} {x : Sem Value} {Q : Value → Shared → Prop} (S : St s₀ W L l led s) (hm : (D, .lst its) ∈ led) (h : wpAny (model prog w) A x (fun v s₁ => wpAny (model prog w) A (call (.builtin "list.pop") [.ref D, v]) Q E s₁) E s) :
    MethodOnS prog w A E "pop" (.ref D) pos [(false, x)] Q s := by
  obtain ⟨o, e, n, rfl⟩ := S.hold _ hm
  exact m_of F.plainAttrs_list PySem.F.slot_list_pop PySem.F.type_list_pop ⟨_, e, rfl⟩ (fun a q => by cases q; exact ⟨_, e, rfl⟩) h
theorem c_popI {its : List Value} {k : Nat} {i : Int} {u : Tok} {x : Value} {Q : Value → Shared → Prop} (h1 : Builtin.List.listFitsIndex i = true) (h2 : seqIndex? i its.toArray.size = some k) (S : St s₀ W L l led s) (hu : LedUp D (.lst its) (.lst (its.eraseIdx k)) led led') (hx : its[k]? = some x) (hz : its.length ≤ 1000) (h : ∀ s', St s₀ W L l led' s' → Q x s') :
    wpAny (model prog w) A (call (.builtin "list.pop") [.ref D, .int i u]) Q E s := by
  obtain ⟨o, ho, n, rfl⟩ := S.hold _ hu.mem
  have hk : k < its.length := (List.getElem?_eq_some_iff.mp hx).1
  have sb := Heap.SameBut.update s.heap D (Obj.mapSeq fun xs => xs.eraseIdxIfInBounds k)
  have hup := get?_update_seq ho (fun xs => xs.eraseIdxIfInBounds k)
  have e : its.toArray.eraseIdxIfInBounds k = (its.eraseIdx k).toArray := by
    rw [Array.eraseIdxIfInBounds, dif_pos (by simpa using hk)]
    simp
  have hup : (s.heap.update D (Obj.mapSeq fun xs => xs.eraseIdxIfInBounds k)).get? D = some (seqObj "list" (its.eraseIdx k).toArray (if ((its.eraseIdx k).toArray.size == its.toArray.size) = true then n else n + 1)) := by rw [← e]; exact hup
  have hsx : its.toArray.size = its.length := List.size_toArray ..
  have h3 : its.toArray[k]? = some x := by simpa using hx
  have h4 : its.toArray.size ≤ sizeLine := by rw [hsx, sizeLine_eq]; walk_at "lia"
  have hm := PySem.MeetsSeq.list_pop_at D its.toArray n i u k x h1 h2 h3 h4
  have hT : s.TypeIs (.ref D) "list" := ⟨_, ho, rfl⟩
  refine call_meets PySem.F.slot_list_pop hT PySem.F.entry_list_pop (PySem.F.args_list_pop_2 _ _) hm ⟨ho, ?_⟩
  exact h _ (S.upd (t := s.toks) hu hup ⟨_, rfl⟩ fun c o hc e => sb.extBut c o hc e)
theorem c_pop {its : List Value} {k : Nat} {u : Tok} {x : Value} {Q : Value → Shared → Prop} (S : St s₀ W L l led s) (hu : LedUp D (.lst its) (.lst (its.eraseIdx k)) led led') (hx : its[k]? = some x) (hz : its.length ≤ 1000) (h : ∀ s', St s₀ W L l led' s' → Q x s') :
    wpAny (model prog w) A (call (.builtin "list.pop") [.ref D, .int (k : Int) u]) Q E s := by
  have hk : k < its.length := (List.getElem?_eq_some_iff.mp hx).1
  have h1 : Builtin.List.listFitsIndex (k : Int) = true := fitsIndex_of (by walk_at "lia") (by walk_at "lia")
  have h2 : seqIndex? (k : Int) its.toArray.size = some k := StrLaws.seqIndex_nonneg (by walk_at "lia") (by rw [List.size_toArray]; walk_at "lia")
  generalize (k : Int) = i at h1 h2 ⊢
  exact c_popI h1 h2 S hu hx hz h
/-- cells -/
theorem st_cell {x : Str} {c : Addr} {kn : Kn} {Q : Unit → Shared → Prop} (S : St s₀ W L l led s) (hc : env.cells.lookup x = some c) (hu : LedUp c kn (cellK v) led led') (hcell : ∀ o, kn.ok o → ∃ u, o.data = .cell u)
    (hk : env.scope.kind = .function) (hx : env.kindOf x = some .cell) (h : ∀ s', St s₀ W L l led' s' → Q () s') :
    wpAny (model prog w) A (storeName env x v) Q E s := by
  obtain ⟨o, ho, hok⟩ := S.kn hu.mem
  obtain ⟨u, hd⟩ := hcell o hok
  refine wpAny_storeName_cell hk hx hc ⟨o, ho, hd⟩ fun h' hi hs => ?_
  obtain ⟨o', ho', hd'⟩ := hi
  exact h _ (S.upd (t := s.toks) hu ho' hd' fun b o hb e => hs.extBut b o hb e)
/-- lists told apart -/
theorem ne_ints {ns ms : List Int} {Q : Value → Shared → Prop} (ha : s.heap.IsList a xs.toArray) (hb : s.heap.IsList b ys.toArray) (hi : IntsAre xs ns) (hj : IntsAre ys ms) (hu : A.units + 64 < cLine) (h : Q (.bool (!decide (ns = ms))) s) :
    wpAny (model prog w) A (compareOp .NotEq (.ref a) (.ref b)) Q E s := ke_ne_ints ha hb hi hj hu h
theorem eq_ints {ns ms : List Int} {Q : Value → Shared → Prop} (ha : s.heap.IsList a xs.toArray) (hb : s.heap.IsList b ys.toArray) (hi : IntsAre xs ns) (hj : IntsAre ys ms) (hu : A.units + 64 < cLine) (h : Q (.bool (decide (ns = ms))) s) :
    wpAny (model prog w) A (compareOp .Eq (.ref a) (.ref b)) Q E s := ke_eq_ints ha hb hi hj hu h
/-- bytes, one by one -/
inductive BytesAre : List Value → List (List UInt8) → Prop
  | nil : BytesAre [] []
  | cons {b t vs bs} : BytesAre vs bs → BytesAre (.bytes b.toArray t :: vs) (b :: bs)
theorem BytesAre.length {vs : List Value} {bs : List (List UInt8)} (h : BytesAre vs bs) : vs.length = bs.length := by
  induction h with
  | nil => rfl
  | cons _ ih => simp [ih]
theorem BytesAre.at {vs : List Value} {bs : List (List UInt8)} (h : BytesAre vs bs) : ∀ {i : Nat}, i < bs.length → ∃ t, vs[i]? = some (.bytes (bs.getD i []).toArray t) := by
  induction h with
  | nil => intro i hi; simp at hi
  | @cons b t vs bs h ih =>
    intro i hi
    cases i with
    | zero => exact ⟨t, rfl⟩
    | succ i =>
      obtain ⟨u, e⟩ := ih (by simpa using hi)
      exact ⟨u, by simpa using e⟩
theorem BytesAre.snoc {vs : List Value} {bs : List (List UInt8)} {b : List UInt8} {t : Tok} (h : BytesAre vs bs) : BytesAre (vs ++ [.bytes b.toArray t]) (bs ++ [b]) := by
  induction h with
  | nil => exact .cons .nil
  | cons _ ih => exact .cons ih
theorem ne_bytes {bs : List (List UInt8)} {Q : Value → Shared → Prop} (ha : s.heap.IsList a xs.toArray) (hb : s.heap.IsList b ys.toArray) (hi : BytesAre xs bs) (hj : BytesAre ys bs) (hu : A.units < cLine) (h : Q (.bool false) s) :
    wpAny (model prog w) A (compareOp .NotEq (.ref a) (.ref b)) Q E s := by
  have hsz : xs.toArray.size = ys.toArray.size := by simp [hi.length, hj.length]
  have := PySem.SeqAt.RcNeAt.lists (A := A) ha hb hsz hu (e := fun _ => true) (fun j h1 h2 prog w E Q hq => ?_) prog w E Q
  · refine this ?_
    have e : (!((List.range xs.toArray.size).all fun _ => true)) = false := by
      have : ((List.range xs.toArray.size).all fun _ => true) = true := List.all_eq_true.mpr fun _ _ => rfl
      rw [this]; rfl
    rw [e]; exact h
  · have hj1 : j < bs.length := by rw [← hi.length]; simpa using h1
    obtain ⟨t, e1⟩ := hi.at hj1
    obtain ⟨u, e2⟩ := hj.at hj1
    have e1' : xs.toArray[j] = .bytes (bs.getD j []).toArray t := by
      have : xs[j]? = some xs.toArray[j] := by simp at h1 ⊢
      rw [this] at e1; exact Option.some.inj e1
    have e2' : ys.toArray[j] = .bytes (bs.getD j []).toArray u := by
      have : ys[j]? = some ys.toArray[j] := by simp at h2 ⊢
      rw [this] at e2; exact Option.some.inj e2
    rw [e1', e2']
    exact eqBool_bytes (by simpa using hq)
/-- list(range) and bytes(ints) -/
theorem c_list_range {n : Nat} {r : Addr} {t u v : Tok} {Q : Value → Shared → Prop} (hA : A.handled = none) (S : St s₀ W L l led s) (hm : (r, .ob (rangeO 0 (n : Int) 1 t u v)) ∈ led) (hn : n ≤ 100)
    (h : ∀ D vs s', IntsAre vs ((List.range n).map fun i : Nat => (i : Int)) → St s₀ W L l ((D, .lst vs) :: led) s' → Q (.ref D) s') : wpAny (model prog w) A (call (.type "list") [.ref r]) Q E s := by
  refine call_list_range hA (S.ob hm) (range_small_up hn) (n := n) (range_size_up n) (Nat.le_trans hn (by decide)) fun h' tk acc c hk hD hit => ?_
  have hz : s.heap.get? s.heap.objs.size = none := by
    cases q : s.heap.get? s.heap.objs.size with
    | none => rfl
    | some o' => exact absurd (Heap.lt_size q) (Nat.lt_irrefl _)
  obtain ⟨hs, ha⟩ := hit
  refine h _ acc.toList _ ?_ (S.fresh hk hD hz ⟨c, by simp [lstO]⟩)
  have key : ∀ (vs : List Value) (k : Nat), (∀ (j : Nat) (v : Value), vs[j]? = some v → ∃ t, v = Value.int ((j + k : Nat) : Int) t) → IntsAre vs ((List.range vs.length).map fun i : Nat => ((i + k : Nat) : Int)) := by
    intro vs
    induction vs with
    | nil => intro k _; exact .nil
    | cons x vs ih =>
      intro k hx
      obtain ⟨t, rfl⟩ := hx 0 x rfl
      rw [List.length_cons, List.range_succ_eq_map, List.map_cons, List.map_map]
      refine .cons _ _ ?_
      have := ih (k + 1) fun j v hv => by
        obtain ⟨t, e⟩ := hx (j + 1) v (by simpa using hv)
        exact ⟨t, by rw [e]; congr 1; walk_at "lia"⟩
      refine cast ?_ this
      congr 1
      refine List.map_congr_left fun i _ => ?_
      show ((i + (k + 1) : Nat) : Int) = ((i.succ + k : Nat) : Int)
      walk_at "lia"
  have := key acc.toList 0 fun j v hv => by
    obtain ⟨t, e⟩ := ha j v (by simpa using hv)
    exact ⟨t, by rw [e]; congr 1; walk_at "lia"⟩
  have hlen : acc.toList.length = n := by simpa using hs
  rw [hlen] at this
  simpa using this
theorem c_bytes_ints {ns : List Nat} {Q : Value → Shared → Prop} (hA : A.handled = none) (S : St s₀ W L l led s) (hl : s.heap.IsList a xs.toArray) (hi : IntsAre xs (ns.map fun i : Nat => (i : Int))) (hr : ∀ n ∈ ns, n < 256) (hz : xs.length ≤ 1000)
    (h : ∀ t s', St s₀ W L l led s' → Q (.bytes (byteL ns).toArray t) s') : wpAny (model prog w) A (call (.type "bytes") [.ref a]) Q E s := by
  refine call_bytes_ints hl hi (fun n hn => ?_) (by rw [sizeLine_eq]; walk_at "lia") hA fun h' t k hk => ?_
  · obtain ⟨m, hm, rfl⟩ := List.mem_map.mp hn
    have := hr m hm
    walk_at "lia"
  · have e : byteArr (ns.map fun i : Nat => (i : Int)) = (byteL ns).toArray := by
      unfold byteArr byteL
      rw [List.map_map]
      rfl
    rw [e]
    exact h t _ (S.keeps ⟨_, _, rfl⟩ hk)
/-- a text so many times -/
theorem op_smul {c n : Nat} {t u : Tok} {Q : Value → Shared → Prop} (S : St s₀ W L l led s) (hn : n ≤ 100) (h : ∀ t s', St s₀ W L l led s' → Q (.str (Mine.S (List.replicate n c)) t) s') :
    wpAny (model prog w) A (binaryOp .Mult (.str (Mine.S [c]) t) (.int (n : Int) u)) Q E s := by
  have hl : (Mine.S [c]).length = 1 := rfl
  have hfold : ∀ (k : Nat) (acc : Array Nat), (List.replicate k (#[c] : Array Nat)).foldl (· ++ ·) acc = acc ++ (List.replicate k c).toArray := by
    intro k
    induction k with
    | zero => intro acc; simp
    | succ k ih =>
      intro acc
      rw [List.replicate_succ, List.foldl_cons, ih, List.replicate_succ]
      apply Array.toList_inj.mp
      simp
  refine P.mul_str (by simp; walk_at "lia") (fun _ _ => ?_) (fun _ _ => ?_) ?_
  · rw [hl]
    have : (1 : Int) ≤ (2 ^ 63 - 1) / (n : Int) := (Int.le_ediv_iff_mul_le (by walk_at "lia")).mpr (by walk_at "lia")
    walk_at "lia"
  · rw [hl]
    unfold Builtin.Str.tooLong
    rw [sizeLine_eq]
    simp
    walk_at "lia"
  · by_cases h0 : (n : Int) < 1
    · rw [if_pos h0]
      have : n = 0 := by walk_at "lia"
      subst this
      exact ⟨Nat.zero_le _, h _ _ (S.toks _)⟩
    · rw [if_neg h0, hl]
      by_cases h1 : n = 1
      · subst h1
        rw [if_pos (by rfl)]
        exact h _ _ (S.toks s.toks)
      · rw [if_neg (by simp; walk_at "lia")]
        have e : (⟨(List.replicate (n : Int).toNat (Mine.S [c]).cps).foldl (· ++ ·) #[]⟩ : Str) = Mine.S (List.replicate n c) := by
          have := hfold n #[]
          rw [show (n : Int).toNat = n by walk_at "lia"]
          show (⟨(List.replicate n (#[c] : Array Nat)).foldl (· ++ ·) #[]⟩ : Str) = _
          rw [this]
          simp
        rw [e]
        refine ⟨?_, h _ _ (S.toks _)⟩
        rw [S_len, List.length_replicate, sizeLine_eq]
        walk_at "lia"
end
end
section
open PySem PySem.W PyProof.Rows PySem.Calls
section
variable {prog : Program} {w : World} {A : Around} {E : Value → Shared → Prop} {s₀ s : Shared} {W : List Addr} {L D I a : Addr} {l l' : List (Str × Value)} {led led' rest : List (Addr × Kn)}
  {env : Env} {pos pos' : Pos} {v : Value} {mg mb : Str → Option Value} {x : Str}
theorem newEnv1 {scope : Scope} {globals : Addr} {cl : List (Str × Addr)} {qual : Str} {kx : Str} {builtins : Addr} {Q : Env → Shared → Prop}
    (hcf : ∀ n acc, cellsFrom n scope.names acc = (kx, n) :: acc) (hpc : ∀ h, pushCells h scope.names = h.push { cls := .type "cell", data := .cell none })
    (h : ∀ h₁, h₁.Ns s.heap.objs.size (fun _ => none) → h₁.get? (s.heap.objs.size + 1) = some { cls := .type "cell", data := .cell none } → (∀ b o, s.heap.get? b = some o → h₁.get? b = some o) →
      Q { scope, locals := s.heap.objs.size, globals, cells := (kx, s.heap.objs.size + 1) :: cl, qual, func := none, code := env.code, frame := env.frame, builtins := env.builtins } { s with heap := h₁ }) :
    wpAny (model prog w) A (newFunctionEnv scope globals cl [] qual none .none (some env) builtins) Q E s := by
  simp only [newFunctionEnv, Option.isSome_some, if_true]
  refine wpAny_bind (wpAny_alloc ?_)
  refine wpAny_bind (wpAny_layCells _ (fun name kind cells => by cases hkc : kind == NameKind.cell <;> simp [hkc]) _ _ _ _ ?_)
  rw [show ({ s with heap := s.heap.push { cls := .type "dict", data := .dict #[] } } : Shared).heap.objs.size = s.heap.objs.size + 1 from Heap.size_push ..]
  rw [hcf, hpc]
  have hns := (Heap.Ns.new s.heap (.type "dict"))
  have hk : ((s.heap.push { cls := .type "dict", data := .dict #[] }).push { cls := .type "cell", data := .cell none }).get? (s.heap.objs.size + 1) = some { cls := .type "cell", data := .cell none } := by
    have := Heap.get?_push_size (s.heap.push { cls := .type "dict", data := .dict #[] }) (o := { cls := .type "cell", data := .cell none }) rfl
    rwa [Heap.size_push] at this
  exact wpAny_bind (wpAny_pure (wpAny_pure (h _ (hns.push _) hk fun b o e => Heap.get?_push_of_some _ (Heap.get?_push_of_some _ e))))
theorem comp_goC {kx : Str} {elt target iter : Expr} {ifs : List Expr} {scope : Scope} {cl : List (Str × Addr)} {use : Option (Value → Sem Unit)} {Q : Value → Shared → Prop}
    (hs : ∀ x, foldedSetIterable iter env x = pure x) (hclos : closureFor scope env = pure cl) (hcf : ∀ n acc, cellsFrom n scope.names acc = (kx, n) :: acc) (hpc : ∀ h, pushCells h scope.names = h.push { cls := .type "cell", data := .cell none }) (hkind : scope.kind = .function)
    (hnames : ∀ y ∈ scope.names, y.2 = .local → scope.names.lookup y.1 = some .local)
    (h : wpAny (model prog w) A (eval iter env) (fun xv s₁ => wpAny (model prog w) A (pyIter xv) (fun it s₂ =>
      Ex4 fun (W' : List Addr) (lw : List (Addr × Kn)) (J : Addr → Addr → Addr → Nat → Shared → Prop) (Fin : Addr → Addr → Shared → Prop) => And7 ((∀ p ∈ lw, ∃ o, s₂.heap.get? p.1 = some o ∧ p.2.ok o)) ((lw.map (·.1)).Nodup) ((∀ p ∈ lw, p.1 ∈ W')) ((∀ a ∈ W', a < s₂.heap.objs.size)) ((∀ C D K s, s₂.heap.get? C = none → s₂.heap.get? D = none → s₂.heap.get? K = none → St s₂ W' C [] ((D, .lst []) :: (K, cell0K) :: lw) s → (∃ n, J K C D n s) ∧ ∀ (Q₁ : Value → Shared → Prop) E', Q₁ it s → wpAny (model prog w) A (pyIter it) Q₁ E' s)) ((∀ K C D n s E', J K C D n s → wpAny (model prog w) A (pyNext it) (fun r s₁ => match r with
          | none => Fin C D s₁
          | some v => wpAny (model prog w) A (letOwnedTupleGo target it v) (fun _ s₁' => wpAny (model prog w) A (assign target (compEnvC scope ((kx, K) :: cl) C env) v) (fun _ s₂' =>
              wpAny (model prog w) A (forIn ifs true fun c r => if r = true then do let ok ← isTrue c (compEnvC scope ((kx, K) :: cl) C env) (eval c (compEnvC scope ((kx, K) :: cl) C env)); pure (ForInStep.yield ok) else pure (ForInStep.yield r)) (fun ok s₃ =>
                if ok = true then wpAny (model prog w) A (eval elt (compEnvC scope ((kx, K) :: cl) C env)) (fun y s₄ => wpAny (model prog w) A (call (.builtin "list.append") [.ref D, y]) (fun _ s₅ => ∃ m, m < n ∧ J K C D m s₅) E' s₄) E' s₃
                else ∃ m, m < n ∧ J K C D m s₃) E' s₂') E' s₁') E' s₁) E' s)) ((∀ C D s', s₂.heap.get? C = none → s₂.heap.get? D = none → C ≠ D → Fin C D s' → ∃ m, s'.heap.Ns C m ∧ match use with
          | none => ∀ h', Heap.SameBut C s'.heap h' → Q (.ref D) { s' with heap := h' }
          | some u => wpAny (model prog w) A (u (.ref D)) (fun _ s'' => (∃ m, s''.heap.Ns C m) ∧ ∀ h', Heap.SameBut C s''.heap h' → Q .none { s'' with heap := h' }) E s'))) E s₁) E s) :
    wpAny (model prog w) A (comprehension (.ListComp elt [⟨target, iter, ifs, 0⟩] scope pos) scope env pos' (newList []) false (eval iter env) use) Q E s := by
  refine wpAny_comprehension_free (use := use) (g := ⟨target, iter, ifs, 0⟩) (gs := []) rfl hs hclos hkind hnames (wpAny_mono h (fun xv s₁ h₁ => wpAny_mono h₁ (fun it s₂ h₂ => ?_) fun _ _ e => e) fun _ _ e => e)
  obtain ⟨W', lw, J, Fin, hold, nd, hW, hlt, init, turn, fin⟩ := h₂
  refine wpAny_newObj_type (newEnv1 hcf hpc fun h₁ hns₁ hK₁ hkp₁ => ?_)
  dsimp only at hns₁ hK₁ hkp₁ ⊢
  generalize hH2 : s₂.heap.push { cls := .type "list", dict := none, data := .seq ([] : List Value).toArray } = H2 at hns₁ hK₁ hkp₁ ⊢
  have hC : H2.objs.size = s₂.heap.objs.size + 1 := by rw [← hH2, Heap.size_push]
  have hDC : s₂.heap.objs.size ≠ H2.objs.size := by rw [hC]; exact Nat.ne_of_lt (Nat.lt_succ_self _)
  have below : ∀ b, b < s₂.heap.objs.size → b ≠ H2.objs.size ∧ b ≠ s₂.heap.objs.size := fun b hb => ⟨by rw [hC]; exact Nat.ne_of_lt (Nat.lt_succ_of_lt hb), Nat.ne_of_lt hb⟩
  have old : ∀ b o, s₂.heap.get? b = some o → h₁.get? b = some o := fun b o e => hkp₁ b o (hH2 ▸ Heap.get?_push_of_some _ e)
  have hacc : h₁.get? s₂.heap.objs.size = some (lstO [] 0) := hkp₁ _ _ (hH2 ▸ Heap.get?_push_size _ rfl)
  have fresh : ∀ a, s₂.heap.objs.size ≤ a → s₂.heap.get? a = none := fun a ha => by
    cases e : s₂.heap.get? a with
    | none => rfl
    | some o' => exact absurd (Heap.lt_size e) (Nat.not_lt.mpr ha)
  have hCf : s₂.heap.get? H2.objs.size = none := fresh _ (by rw [hC]; exact Nat.le_succ _)
  have hDf : s₂.heap.get? s₂.heap.objs.size = none := fresh _ (Nat.le_refl _)
  have hKf : s₂.heap.get? (H2.objs.size + 1) = none := fresh _ (by rw [hC]; omega)
  have hKD : s₂.heap.objs.size ≠ H2.objs.size + 1 := by rw [hC]; omega
  have belowK : ∀ b, b < s₂.heap.objs.size → b ≠ H2.objs.size + 1 := fun b hb => by rw [hC]; omega
  have S0 : St s₂ W' H2.objs.size [] ((s₂.heap.objs.size, .lst []) :: (H2.objs.size + 1, cell0K) :: lw) { s₂ with heap := h₁, toks := s₂.toks } := by
    refine ⟨⟨⟨_, _, rfl⟩, fun b o e _ => old b o e, fun p hp => ?_⟩, ⟨_, hns₁, fun x v e => by cases e⟩, ?_, fun p hp => ?_, fun p hp => ?_, ?_, hCf⟩
    · rcases List.mem_cons.mp hp with rfl | hp
      · exact ⟨_, hacc, _, rfl⟩
      · rcases List.mem_cons.mp hp with rfl | hp
        · exact ⟨_, hK₁, rfl⟩
        · obtain ⟨o, e, q⟩ := hold p hp
          exact ⟨o, old _ _ e, q⟩
    · rw [List.map_cons, List.nodup_cons, List.map_cons, List.nodup_cons]
      refine ⟨fun hm => ?_, fun hm => ?_, nd⟩
      · rcases List.mem_cons.mp hm with e | hm
        · exact hKD e
        · obtain ⟨p, hp, e⟩ := List.mem_map.mp hm
          exact (below _ (hlt _ (hW p hp))).2 e
      · obtain ⟨p, hp, e⟩ := List.mem_map.mp hm
        exact belowK _ (hlt _ (hW p hp)) e
    · rcases List.mem_cons.mp hp with rfl | hp
      · exact hDC
      · rcases List.mem_cons.mp hp with rfl | hp
        · exact Nat.succ_ne_self _
        · exact (below _ (hlt _ (hW p hp))).1
    · rcases List.mem_cons.mp hp with rfl | hp
      · exact .inr hDf
      · rcases List.mem_cons.mp hp with rfl | hp
        · exact .inr hKf
        · exact .inl (hW p hp)
    · exact fun hm => (below _ (hlt _ hm)).1 rfl
  obtain ⟨⟨n, hJ⟩, hit⟩ := init _ _ _ _ hCf hDf hKf S0
  have loop : codeAny (model prog w) A (.compLoop (.ListComp elt [⟨target, iter, ifs, 0⟩] scope pos) 0 it (.ref s₂.heap.objs.size) (compEnvC scope ((kx, H2.objs.size + 1) :: cl) H2.objs.size env))
      (compPost (model prog w) A E use Q (.ref s₂.heap.objs.size) H2.objs.size) { s₂ with heap := h₁, toks := s₂.toks } := by
    refine codeAny_loop rfl (J (H2.objs.size + 1) H2.objs.size s₂.heap.objs.size) (fun n s hI => ?_) n hJ
    show wpAny _ A ((compTurn (.ListComp elt [⟨target, iter, ifs, 0⟩] scope pos) 0 it (.ref s₂.heap.objs.size) (compEnvC scope ((kx, H2.objs.size + 1) :: cl) H2.objs.size env)).onRaise (fun x => do noteFrame x (compEnvC scope ((kx, H2.objs.size + 1) :: cl) H2.objs.size env); theTreesLotGoes x)) _ _ s
    refine wpAny_noted ?_
    rw [compTurn_list]
    refine wpAny_bind (wpAny_standAt (wpAny_bind (wpAny_mono (turn _ _ _ n s _ hI) (fun r s₁ h₁ => ?_) fun _ _ h' => h')))
    cases r with
    | none =>
      refine wpAny_pure ?_
      obtain ⟨m, hm, hq⟩ := fin _ _ _ hCf hDf (Ne.symm hDC) h₁
      cases use with
      | none => exact ⟨m, hm, hq⟩
      | some u => exact wpAny_mono hq (fun _ s'' ⟨⟨m, h1⟩, h2⟩ => ⟨m, h1, h2⟩) fun _ _ e => e
    | some v =>
      refine wpAny_bind (wpAny_mono h₁ (fun _ s₁' h₁' => ?_) fun _ _ h' => h')
      refine wpAny_bind (wpAny_mono h₁' (fun _ s₂ h₂ => wpAny_bind (wpAny_mono h₂ (fun ok s₃ h₃ => ?_) fun _ _ h' => h')) fun _ _ h' => h')
      cases ok with
      | false => exact wpAny_pure ⟨rfl, h₃⟩
      | true => exact wpAny_bind (wpAny_bind (wpAny_mono h₃ (fun x s₄ h₄ => wpAny_bind (wpAny_mono h₄ (fun _ s₅ h₅ => wpAny_pure (wpAny_pure ⟨rfl, h₅⟩)) fun _ _ h' => h')) fun _ _ h' => h'))
  exact codeAny_compStart_list loop (hit _ _ loop)
inductive CompOkC (kx : Str) (prog : Program) (w : World) (A : Around) (elt target : Expr) (ifs : List Expr) (scope : Scope) (cl : List (Str × Addr)) (env : Env) (it : Value) (s₂ : Shared)
    (U : Shared → List Addr → Addr → List (Str × Value) → List (Addr × Kn) → Addr → Shared → Prop) : Prop
  | mk (s₀ : Shared) (W : List Addr) (L : Addr) (l : List (Str × Value)) (lw rest : List (Addr × Kn)) (R : Addr → Nat → List Value → List (Addr × Kn) → List (Str × Value) → Shared → Prop) (F : List Value → List (Addr × Kn) → Shared → Prop) (n : Nat)
    (h1 : St s₀ W L l (lw ++ rest) s₂)
    (h2 : ∀ a ∈ W, ∃ o, s₂.heap.get? a = some o)
    (h3 : ∀ K s', (∀ b o, b ∉ lw.map (·.1) → s₂.heap.get? b = some o → s'.heap.get? b = some o) → R K n [] ((K, cell0K) :: lw) [] s')
    (h4 : ∀ C D K s (Q₁ : Value → Shared → Prop) E', St s₂ (lw.map (·.1)) C [] ((D, .lst []) :: (K, cell0K) :: lw) s → Q₁ it s → wpAny (model prog w) A (pyIter it) Q₁ E' s)
    (h5 : ∀ K C D n s E' lc ys lw', St s₂ (lw.map (·.1)) C lc ((D, .lst ys) :: lw') s → R K n ys lw' lc s → wpAny (model prog w) A (pyNext it) (fun r s₁ => match r with
      | none => Ex3 fun lc' ys' lw'' => St s₂ (lw.map (·.1)) C lc' ((D, .lst ys') :: lw'') s₁ ∧ F ys' lw'' s₁
      | some v => wpAny (model prog w) A (letOwnedTupleGo target it v) (fun _ s₁' => wpAny (model prog w) A (assign target (compEnvC scope ((kx, K) :: cl) C env) v) (fun _ s₂' =>
          wpAny (model prog w) A (forIn ifs true fun c r => if r = true then do let ok ← isTrue c (compEnvC scope ((kx, K) :: cl) C env) (eval c (compEnvC scope ((kx, K) :: cl) C env)); pure (ForInStep.yield ok) else pure (ForInStep.yield r)) (fun ok s₃ =>
            if ok = true then wpAny (model prog w) A (eval elt (compEnvC scope ((kx, K) :: cl) C env)) (fun y s₄ => wpAny (model prog w) A (call (.builtin "list.append") [.ref D, y]) (fun _ s₅ => Ex4 fun m lc' ys' lw'' => And3 (m < n) (St s₂ (lw.map (·.1)) C lc' ((D, .lst ys') :: lw'') s₅) (R K m ys' lw'' lc' s₅)) E' s₄) E' s₃
            else Ex4 fun m lc' ys' lw'' => And3 (m < n) (St s₂ (lw.map (·.1)) C lc' ((D, .lst ys') :: lw'') s₃) (R K m ys' lw'' lc' s₃)) E' s₂') E' s₁') E' s₁) E' s)
    (h6 : ∀ ys lw' s' s'', F ys lw' s' → (∀ b o x k, s'.heap.get? b = some o → o.data = .seq x k → s''.heap.get? b = some o) → F ys lw' s'')
    (h7 : ∀ D ys lw' s', F ys lw' s' → St s₀ W L l ((D, .lst ys) :: (lw' ++ rest)) s' → U s₀ W L l ((D, .lst ys) :: (lw' ++ rest)) D s')
    : CompOkC kx prog w A elt target ifs scope cl env it s₂ U
theorem comp_anyC {kx : Str} {elt target iter : Expr} {ifs : List Expr} {scope : Scope} {cl : List (Str × Addr)} {use : Option (Value → Sem Unit)} {Q : Value → Shared → Prop}
    {U : Shared → List Addr → Addr → List (Str × Value) → List (Addr × Kn) → Addr → Shared → Prop}
    (hs : ∀ x, foldedSetIterable iter env x = pure x) (hclos : closureFor scope env = pure cl) (hcf : ∀ n acc, cellsFrom n scope.names acc = (kx, n) :: acc) (hpc : ∀ h, pushCells h scope.names = h.push { cls := .type "cell", data := .cell none }) (hkind : scope.kind = .function)
    (hnames : ∀ y ∈ scope.names, y.2 = .local → scope.names.lookup y.1 = some .local)
    (hU : match use with
      | none => ∀ s₀ W L l led D s', U s₀ W L l led D s' → St s₀ W L l led s' → Q (.ref D) s'
      | some u => ∀ (C : Addr) s₀ W L l led D s', U s₀ W L l led D s' → St s₀ W L l led s' → s₀.heap.get? C = none → C ≠ L → (∀ p ∈ led, p.1 ≠ C) → (∃ m, s'.heap.Ns C m) → wpAny (model prog w) A (u (.ref D)) (fun _ s'' => (∃ m, s''.heap.Ns C m) ∧ ∀ h', Heap.SameBut C s''.heap h' → Q .none { s'' with heap := h' }) E s')
    (h : wpAny (model prog w) A (eval iter env) (fun xv s₁ => wpAny (model prog w) A (pyIter xv) (fun it s₂ => CompOkC kx prog w A elt target ifs scope cl env it s₂ U) E s₁) E s) :
    wpAny (model prog w) A (comprehension (.ListComp elt [⟨target, iter, ifs, 0⟩] scope pos) scope env pos' (newList []) false (eval iter env) use) Q E s := by
  refine comp_goC hs hclos hcf hpc hkind hnames (wpAny_mono h (fun xv s₁ h₁ => wpAny_mono h₁ (fun it s₂ h₂ => ?_) fun _ _ e => e) fun _ _ e => e)
  obtain ⟨s₀, W, L, l, lw, rest, R, F, n, S₂, hWs, hR, hit, turn, hF, hend⟩ := h₂
  have hlw : ∀ p ∈ lw, p ∈ lw ++ rest := fun p hp => List.mem_append_left _ hp
  have ndl : (lw.map (·.1)).Nodup := S₂.nd.sublist ((List.sublist_append_left lw rest).map _)
  have hoff : ∀ p ∈ rest, p.1 ∉ lw.map (·.1) := fun p hp hm => by
    have := S₂.nd
    rw [List.map_append, List.nodup_append] at this
    exact this.2.2 _ hm _ (List.mem_map_of_mem hp) rfl
  refine ⟨lw.map (·.1), lw, fun K C D n s => Ex3 fun lc ys lw' => St s₂ (lw.map (·.1)) C lc ((D, .lst ys) :: lw') s ∧ R K n ys lw' lc s, fun C D s => Ex3 fun lc ys lw' => St s₂ (lw.map (·.1)) C lc ((D, .lst ys) :: lw') s ∧ F ys lw' s,
    fun p hp => S₂.hold p (hlw p hp), ndl, fun p hp => List.mem_map_of_mem hp, fun a ha => ?_, ?_, ?_, ?_⟩
  · obtain ⟨p, hp, rfl⟩ := List.mem_map.mp ha
    obtain ⟨o, e, _⟩ := S₂.hold p (hlw p hp)
    exact Heap.lt_size e
  · intro C D K s hC hD hK S
    refine ⟨⟨n, [], [], (K, cell0K) :: lw, S, ?_⟩, fun Q₁ E' hq => hit C D K s Q₁ E' S hq⟩
    exact hR K s fun b o hb e => S.keep b o e hb
  · rintro K C D n s E' ⟨lc, ys, lw', S, hR'⟩
    refine wpAny_mono (turn K C D n s E' lc ys lw' S hR') (fun r s₁ h₁ => ?_) fun _ _ e => e
    cases r with
    | none => exact h₁
    | some v =>
      refine wpAny_mono h₁ (fun _ s₁' h₁' => wpAny_mono h₁' (fun _ s₂' h₂' => wpAny_mono h₂' (fun ok s₃ h₃ => ?_) fun _ _ e => e) fun _ _ e => e) fun _ _ e => e
      cases ok with
      | false =>
        obtain ⟨m, lc', ys', lw'', hm, S', hR''⟩ := h₃
        exact ⟨m, hm, lc', ys', lw'', S', hR''⟩
      | true =>
        refine wpAny_mono h₃ (fun y s₄ h₄ => wpAny_mono h₄ (fun _ s₅ h₅ => ?_) fun _ _ e => e) fun _ _ e => e
        obtain ⟨m, lc', ys', lw'', hm, S', hR''⟩ := h₅
        exact ⟨m, hm, lc', ys', lw'', S', hR''⟩
  · rintro C D s' hC hD hCD ⟨lc, ys, lw', S, hf⟩
    have SO : St s₀ W L l ((D, .lst ys) :: (lw' ++ rest)) s' := by
      refine S₂.merge (lw := (D, .lst ys) :: lw') S.toOut (fun a ha => ?_) S.fr S.nd (List.sublist_append_right lw rest) hoff
      rw [List.map_append]
      exact List.mem_append_left _ ha
    have hCs₀ : s₀.heap.get? C = none := by
      cases q : s₀.heap.get? C with
      | none => rfl
      | some o =>
        by_cases hw : C ∈ W
        · obtain ⟨o, e⟩ := hWs C hw
          rw [hC] at e; cases e
        · have := S₂.keep C o q hw
          rw [hC] at this; cases this
    have hCL : C ≠ L := fun q => by
      obtain ⟨m, hn, _⟩ := S₂.loc
      obtain ⟨o, _, _, ho, _⟩ := hn
      rw [← q, hC] at ho; cases ho
    have hCl : ∀ p ∈ (D, .lst ys) :: (lw' ++ rest), p.1 ≠ C := fun p hp q => by
      rcases List.mem_cons.mp hp with rfl | hp
      · exact hCD q.symm
      · rcases List.mem_append.mp hp with hp | hp
        · exact S.ne p (.tail _ hp) q
        · obtain ⟨o, e, _⟩ := S₂.hold p (List.mem_append_right _ hp)
          rw [q, hC] at e; cases e
    obtain ⟨m, hn, hm⟩ := S.loc
    refine ⟨m, hn, ?_⟩
    have hfs : ∀ h', Heap.SameBut C s'.heap h' → F ys lw' { s' with heap := h' } := fun h' hs => hF _ _ _ _ hf fun b o x k e hd => hs.extBut b o (fun q => by
      subst q
      obtain ⟨oc, es, ep, hoc, hdc, _⟩ := hn
      rw [e] at hoc; cases hoc
      rw [hd] at hdc; cases hdc) e
    cases use with
    | none =>
      intro h' hs
      have S' := SO.off hCs₀ hCL hCl hs
      exact hU _ _ _ _ _ _ _ (hend D ys lw' _ (hfs h' hs) S') S'
    | some u => exact hU C _ _ _ _ _ D s' (hend D ys lw' s' hf SO) SO hCs₀ hCL hCl ⟨m, hn⟩
theorem e_compC {kx : Str} {elt target iter : Expr} {ifs : List Expr} {scope : Scope} {cl : List (Str × Addr)} {Q : Value → Shared → Prop}
    (hs : ∀ x, foldedSetIterable iter env x = pure x) (hclos : closureFor scope env = pure cl) (hcf : ∀ n acc, cellsFrom n scope.names acc = (kx, n) :: acc) (hpc : ∀ h, pushCells h scope.names = h.push { cls := .type "cell", data := .cell none }) (hkind : scope.kind = .function)
    (hnames : ∀ y ∈ scope.names, y.2 = .local → scope.names.lookup y.1 = some .local)
    (h : wpAny (model prog w) A (eval iter env) (fun xv s₁ => wpAny (model prog w) A (pyIter xv) (fun it s₂ => CompOkC kx prog w A elt target ifs scope cl env it s₂ (fun _ _ _ _ _ D s' => Q (.ref D) s')) E s₁) E s) :
    wpAny (model prog w) A (eval (.ListComp elt [⟨target, iter, ifs, 0⟩] scope pos) env) Q E s := by
  rw [eval_ListComp]
  exact comp_anyC (use := none) hs hclos hcf hpc hkind hnames (fun _ _ _ _ _ _ _ hu _ => hu) h
end
end
section
open PySem PySem.W PyProof.Rows PySem.Calls
noncomputable abbrev zHK (TI TO T : Addr) (b : Bool) : Kn := .ob { cls := .type "zip", dict := none, data := .fields #[rawInt T, .bool b, .bool false, .ref TI, .ref TO], slots := #[] }
section
variable {prog : Program} {w : World} {A : Around} {E : Value → Shared → Prop} {s₀ s : Shared} {W : List Addr} {L D I a : Addr} {l l' : List (Str × Value)} {led led' rest rest1 rest2 : List (Addr × Kn)}
  {env : Env} {pos pos' : Pos} {v : Value} {mg mb : Str → Option Value} {x : Str}
theorem wpAny_alive {M : Model} {b : Addr} {Q : Option Obj → Shared → Prop} (h : Q (s.heap.get? b) s) : wpAny M A (loadIfAlive b) Q E s := fun Γ p hΓ => by
  unfold loadIfAlive
  rw [Sem.wp_loadIfAlive]
  exact h
theorem nextL {ax : Addr} {its : List Value} {i : Nat} {x : Value} {Q : Value → Shared → Prop} (S : St s₀ W L l led s) (hu : LedUp I (litK ax i) (litK ax (i + 1)) led led') (hm : (ax, .lst its) ∈ led) (hx : its[i]? = some x) (h : ∀ s', St s₀ W L l led' s' → Q x s') :
    wpAny (model prog w) A (Builtin.SmallTypes.nextOf (.ref I)) Q E s :=
  wpAny_nextOf_list_item (S.kn hu.mem) (S.isList hm) (by simpa using hx) fun h' ⟨o, ho, hi⟩ hs => h _ (S.upd (t := s.toks) hu ho hi fun b o hb e => hs.extBut b o hb e)
theorem nextLE {ax : Addr} {its : List Value} {i : Nat} {Q : Value → Shared → Prop} (hA : A.handled = none) (S : St s₀ W L l led s) (hm : (I, litK ax i) ∈ led) (hr : LedRm I led led') (hl : (ax, .lst its) ∈ led) (hx : its[i]? = none)
    (h : ∀ e s', St s₀ W L l led' s' → (∃ o, s'.heap.get? e = some o ∧ o.cls = .type "StopIteration") → E (.ref e) s') : wpAny (model prog w) A (Builtin.SmallTypes.nextOf (.ref I)) Q E s :=
  wpAny_nextOf_list_end hA (S.kn hm) (S.isList hl) (by simpa using hx) fun h' e hs he => h _ _ (S.forget (t := s.toks) hr fun b o hb e => hs b o hb e) he
theorem nx_zipA {z TI TO i1 i2 : Addr} {l1 l2 : Addr} {v1 v2 : List Value} {k : Nat} {x y : Value} {r : List (Addr × Kn)} {Q : Option Value → Shared → Prop}
    (S : St s₀ W L l ((z, zK TI TO .none) :: (TO, pK) :: (TI, .ob (pairO (.ref i1) (.ref i2))) :: (i2, litK l2 k) :: (i1, litK l1 k) :: r) s) (hm1 : (l1, .lst v1) ∈ r) (hm2 : (l2, .lst v2) ∈ r) (hx : v1[k]? = some x) (hy : v2[k]? = some y)
    (h : ∀ T s', St s₀ W L l ((T, .ob (pairO x y)) :: (z, zHK TI TO T false) :: (TO, pK) :: (TI, .ob (pairO (.ref i1) (.ref i2))) :: (i2, litK l2 (k + 1)) :: (i1, litK l1 (k + 1)) :: r) s' → Q (some (.ref T)) s') :
    wpAny (model prog w) A (pyNext (.ref z)) Q E s := by
  have hz := S.ob (.head _)
  have hT : s.TypeIs (.ref z) "zip" := ⟨_, hz, rfl⟩
  unfold pyNext
  refine wpAny_bind (wpAny_attempt (wpAny_callSpecial?_slot (name := Str.ofString "__next__") hT F.slot_zip_next
    (wpAny_call_entry F.slot_zip_next hT F.entry_zip_next ?_ (F.args_zip_next_1 _))))
  show wpAny _ _ (field (.ref z) 2 >>= _) _ _ _
  refine wpAny_bind (wpAny_field hz rfl (x := .bool false) rfl ?_)
  show wpAny _ _ (field (.ref z) 3 >>= _) _ _ _
  refine wpAny_bind (wpAny_field hz rfl (x := .ref TI) rfl ?_)
  refine wpAny_bind (wpAny_seqItems (S.ob (.tail _ (.tail _ (.head _)))) rfl ?_)
  show wpAny _ _ (Builtin.SmallTypes.ownedTupleIsFree (.ref z) >>= _) _ _ _
  refine wpAny_bind ?_
  unfold Builtin.SmallTypes.ownedTupleIsFree
  refine wpAny_bind (wpAny_field hz rfl (x := .none) rfl (wpAny_pure ?_))
  simp only [if_true]
  refine wpAny_bind (wpAny_rule ?_)
  refine wpAny_bind (wpAny_field hz rfl (x := .ref TO) rfl ?_)
  refine wpAny_bind (wpAny_setField_rec hz (by simp) fun h₁ hz₁ hs₁ => ?_)
  have S1 := S.upd (t := s.toks) (.here (o' := zK TI TO .ellipsis)) hz₁ rfl fun b o hb e => hs₁.extBut b o hb e
  refine wpAny_bind ?_
  simp only [List.zipIdx_cons, List.zipIdx_nil, List.forIn_cons, List.forIn_nil]
  refine wpAny_bind (wpAny_bind (wpAny_onRaise ?_))
  show wpAny _ _ (Builtin.SmallTypes.nextOf (.ref i1) >>= _) _ _ _
  refine wpAny_bind (nextL S1 (.there (.there (.there (.there .here)))) (.tail _ (.tail _ (.tail _ (.tail _ (.tail _ hm1))))) hx fun s2 S2 => wpAny_pure ?_)
  obtain ⟨oTO, hTO, a1, b1, rfl⟩ := S2.kn (.tail _ (.head _))
  refine wpAny_bind (wpAny_seqItems hTO rfl ?_)
  refine wpAny_bind (wpAny_updateSeq_pair hTO fun h₃ hTO₃ hs₃ => ?_)
  have S3 := S2.upd (t := s2.toks) (o := pK) (o' := .ob (pairO x b1)) (.there .here) hTO₃ rfl fun b o hb e => hs₃.extBut b o hb e
  refine wpAny_bind (wpAny_letGo (wpAny_pure ?_))
  refine wpAny_bind (wpAny_bind (wpAny_onRaise ?_))
  show wpAny _ _ (Builtin.SmallTypes.nextOf (.ref i2) >>= _) _ _ _
  refine wpAny_bind (nextL S3 (.there (.there (.there .here))) (.tail _ (.tail _ (.tail _ (.tail _ (.tail _ hm2))))) hy fun s4 S4 => wpAny_pure ?_)
  have hTO₄ := S4.ob (.tail _ (.head _))
  refine wpAny_bind (wpAny_seqItems hTO₄ rfl ?_)
  refine wpAny_bind (wpAny_updateSeq_pair hTO₄ fun h₅ hTO₅ hs₅ => ?_)
  have S5 := S4.upd (t := s4.toks) (o := .ob (pairO x b1)) (o' := .ob (pairO x y)) (.there .here) hTO₅ rfl fun b o hb e => hs₅.extBut b o hb e
  refine wpAny_bind (wpAny_letGo (wpAny_pure (wpAny_pure ?_)))
  refine wpAny_bind (wpAny_seqItems (S5.ob (.tail _ (.head _))) rfl ?_)
  refine wpAny_bind (wpAny_newTuple ?_)
  have S6 := S5.new (t := s4.toks) (o := pairO x y) (kn := .ob (pairO x y)) rfl rfl rfl
  show wpAny _ _ (Builtin.SmallTypes.ownedTupleHandOut (.ref z) (.ref h₅.objs.size) >>= _) _ _ _
  refine wpAny_bind ?_
  unfold Builtin.SmallTypes.ownedTupleHandOut
  refine wpAny_bind (wpAny_setField_rec (S6.ob (.tail _ (.head _))) (by simp) fun h₇ hz₇ hs₇ => ?_)
  have S7 := S6.upd (t := s4.toks) (o' := zK TI TO (rawInt h₅.objs.size)) (.there .here) hz₇ rfl fun b o hb e => hs₇.extBut b o hb e
  refine wpAny_setField_rec (S7.ob (.tail _ (.head _))) (by simp) fun h₈ hz₈ hs₈ => ?_
  have S8 := S7.upd (t := s4.toks) (o' := zK TI TO (rawInt h₅.objs.size)) (.there .here) hz₈ rfl fun b o hb e => hs₈.extBut b o hb e
  refine wpAny_pure ⟨_, rfl, ?_⟩
  refine wpAny_pure (h h₅.objs.size _ ?_)
  exact S8.upd (t := s4.toks) (o := .ob (pairO x y)) (o' := pK) (.there (.there .here)) (S8.ob (.tail _ (.tail _ (.head _)))) ⟨x, y, rfl⟩ fun b o _ e => e
theorem nx_zipB {z TI TO T0 i1 i2 : Addr} {b : Bool} {kT : Kn} {l1 l2 : Addr} {v1 v2 : List Value} {k : Nat} {x y : Value} {r : List (Addr × Kn)} {Q : Option Value → Shared → Prop}
    (S : St s₀ W L l ((z, zHK TI TO T0 b) :: (TO, pK) :: (TI, .ob (pairO (.ref i1) (.ref i2))) :: (i2, litK l2 k) :: (i1, litK l1 k) :: r) s) (hT0 : (T0, kT) ∈ r) (hm1 : (l1, .lst v1) ∈ r) (hm2 : (l2, .lst v2) ∈ r) (hx : v1[k]? = some x) (hy : v2[k]? = some y)
    (h : ∀ T s', St s₀ W L l ((T, .ob (pairO x y)) :: (z, zHK TI TO T0 true) :: (TO, pK) :: (TI, .ob (pairO (.ref i1) (.ref i2))) :: (i2, litK l2 (k + 1)) :: (i1, litK l1 (k + 1)) :: r) s' → Q (some (.ref T)) s') :
    wpAny (model prog w) A (pyNext (.ref z)) Q E s := by
  have hz := S.ob (.head _)
  have hT : s.TypeIs (.ref z) "zip" := ⟨_, hz, rfl⟩
  obtain ⟨oT, hoT, _⟩ := S.kn (.tail _ (.tail _ (.tail _ (.tail _ (.tail _ hT0)))))
  unfold pyNext
  refine wpAny_bind (wpAny_attempt (wpAny_callSpecial?_slot (name := Str.ofString "__next__") hT F.slot_zip_next
    (wpAny_call_entry F.slot_zip_next hT F.entry_zip_next ?_ (F.args_zip_next_1 _))))
  show wpAny _ _ (field (.ref z) 2 >>= _) _ _ _
  refine wpAny_bind (wpAny_field hz rfl (x := .bool false) rfl ?_)
  show wpAny _ _ (field (.ref z) 3 >>= _) _ _ _
  refine wpAny_bind (wpAny_field hz rfl (x := .ref TI) rfl ?_)
  refine wpAny_bind (wpAny_seqItems (S.ob (.tail _ (.tail _ (.head _)))) rfl ?_)
  show wpAny _ _ (Builtin.SmallTypes.ownedTupleIsFree (.ref z) >>= _) _ _ _
  refine wpAny_bind ?_
  unfold Builtin.SmallTypes.ownedTupleIsFree
  refine wpAny_bind (wpAny_field hz rfl (x := rawInt T0) rfl ?_)
  show wpAny _ _ (loadIfAlive (T0 : Int).toNat >>= _) _ _ _
  refine wpAny_bind (wpAny_alive ?_)
  rw [Int.toNat_natCast, hoT]
  show wpAny _ _ (field (.ref z) 1 >>= _) _ _ _
  refine wpAny_bind (wpAny_field hz rfl (x := .bool b) rfl ?_)
  cases b with
  | true =>
    have S1 := S
    simp only [bne_self_eq_false, Bool.false_eq_true, if_false]
    refine wpAny_pure ?_
    rw [if_neg (by decide)]
    rw [← Array.forIn_toList]
    simp only [List.forIn_cons, List.forIn_nil]
    refine wpAny_bind (wpAny_bind (wpAny_bind (wpAny_holding ?_)))
    show wpAny _ _ (Builtin.SmallTypes.nextOf (.ref i1) >>= _) _ _ _
    refine wpAny_bind (nextL S1 (.there (.there (.there (.there .here)))) (.tail _ (.tail _ (.tail _ (.tail _ (.tail _ hm1))))) hx fun s2 S2 => wpAny_pure ?_)
    dsimp only
    refine wpAny_pure ?_
    dsimp only
    refine wpAny_bind (wpAny_bind (wpAny_holding ?_))
    show wpAny _ _ (Builtin.SmallTypes.nextOf (.ref i2) >>= _) _ _ _
    refine wpAny_bind (nextL S2 (.there (.there (.there .here))) (.tail _ (.tail _ (.tail _ (.tail _ (.tail _ hm2))))) hy fun s3 S3 => wpAny_pure ?_)
    dsimp only
    refine wpAny_pure (wpAny_pure ?_)
    dsimp only
    refine wpAny_bind (wpAny_newTuple ?_ (by simp; rw [sizeLine_eq]; walk_at "lia"))
    refine wpAny_pure ⟨_, rfl, wpAny_pure (h _ _ (S3.new (t := s3.toks) (o := pairO x y) rfl rfl rfl))⟩
  | false =>
    rw [if_pos (by rfl)]
    refine wpAny_bind (wpAny_setField_rec hz (by simp) fun h₁ hz₁ hs₁ => ?_)
    have S1 := S.upd (t := s.toks) (.here (o' := zHK TI TO T0 true)) hz₁ rfl fun b o hb e => hs₁.extBut b o hb e
    refine wpAny_pure ?_
    dsimp only
    rw [if_neg (by decide)]
    rw [← Array.forIn_toList]
    simp only [List.forIn_cons, List.forIn_nil]
    refine wpAny_bind (wpAny_bind (wpAny_bind (wpAny_holding ?_)))
    show wpAny _ _ (Builtin.SmallTypes.nextOf (.ref i1) >>= _) _ _ _
    refine wpAny_bind (nextL S1 (.there (.there (.there (.there .here)))) (.tail _ (.tail _ (.tail _ (.tail _ (.tail _ hm1))))) hx fun s2 S2 => wpAny_pure ?_)
    dsimp only
    refine wpAny_pure ?_
    dsimp only
    refine wpAny_bind (wpAny_bind (wpAny_holding ?_))
    show wpAny _ _ (Builtin.SmallTypes.nextOf (.ref i2) >>= _) _ _ _
    refine wpAny_bind (nextL S2 (.there (.there (.there .here))) (.tail _ (.tail _ (.tail _ (.tail _ (.tail _ hm2))))) hy fun s3 S3 => wpAny_pure ?_)
    dsimp only
    refine wpAny_pure (wpAny_pure ?_)
    dsimp only
    refine wpAny_bind (wpAny_newTuple ?_ (by simp; rw [sizeLine_eq]; walk_at "lia"))
    refine wpAny_pure ⟨_, rfl, wpAny_pure (h _ _ (S3.new (t := s3.toks) (o := pairO x y) rfl rfl rfl))⟩
theorem nx_zipBE {z TI TO T0 i1 i2 : Addr} {b : Bool} {kT : Kn} {l1 l2 : Addr} {v1 : List Value} {k : Nat} {r : List (Addr × Kn)} {Q : Option Value → Shared → Prop} (hA : A.handled = none)
    (S : St s₀ W L l ((z, zHK TI TO T0 b) :: (TO, pK) :: (TI, .ob (pairO (.ref i1) (.ref i2))) :: (i2, litK l2 k) :: (i1, litK l1 k) :: r) s) (hT0 : (T0, kT) ∈ r) (hm1 : (l1, .lst v1) ∈ r) (hx : v1[k]? = none)
    (h : ∀ s', St s₀ W L l r s' → Q none s') : wpAny (model prog w) A (pyNext (.ref z)) Q E s := by
  have hz := S.ob (.head _)
  have hT : s.TypeIs (.ref z) "zip" := ⟨_, hz, rfl⟩
  obtain ⟨oT, hoT, _⟩ := S.kn (.tail _ (.tail _ (.tail _ (.tail _ (.tail _ hT0)))))
  unfold pyNext
  refine wpAny_bind (wpAny_attempt (wpAny_callSpecial?_slot (name := Str.ofString "__next__") hT F.slot_zip_next
    (wpAny_call_entry F.slot_zip_next hT F.entry_zip_next ?_ (F.args_zip_next_1 _))))
  show wpAny _ _ (field (.ref z) 2 >>= _) _ _ _
  refine wpAny_bind (wpAny_field hz rfl (x := .bool false) rfl ?_)
  show wpAny _ _ (field (.ref z) 3 >>= _) _ _ _
  refine wpAny_bind (wpAny_field hz rfl (x := .ref TI) rfl ?_)
  refine wpAny_bind (wpAny_seqItems (S.ob (.tail _ (.tail _ (.head _)))) rfl ?_)
  show wpAny _ _ (Builtin.SmallTypes.ownedTupleIsFree (.ref z) >>= _) _ _ _
  refine wpAny_bind ?_
  unfold Builtin.SmallTypes.ownedTupleIsFree
  refine wpAny_bind (wpAny_field hz rfl (x := rawInt T0) rfl ?_)
  show wpAny _ _ (loadIfAlive (T0 : Int).toNat >>= _) _ _ _
  refine wpAny_bind (wpAny_alive ?_)
  rw [Int.toNat_natCast, hoT]
  show wpAny _ _ (field (.ref z) 1 >>= _) _ _ _
  refine wpAny_bind (wpAny_field hz rfl (x := .bool b) rfl ?_)
  cases b with
  | true =>
    have S1 := S
    simp only [bne_self_eq_false, Bool.false_eq_true, if_false]
    refine wpAny_pure ?_
    rw [if_neg (by decide)]
    rw [← Array.forIn_toList]
    simp only [List.forIn_cons, List.forIn_nil]
    refine wpAny_bind (wpAny_bind (wpAny_bind (wpAny_holding ?_)))
    show wpAny _ _ (Builtin.SmallTypes.nextOf (.ref i1) >>= _) _ _ _
    refine wpAny_bind (nextLE (by first | exact hA | (show A.in1.handled = none; exact hA)) S1 (.tail _ (.tail _ (.tail _ (.tail _ (.head _))))) (.there (.there (.there (.there .here)))) (.tail _ (.tail _ (.tail _ (.tail _ (.tail _ hm1))))) hx fun e s2 S2 he => ?_)
    obtain ⟨oe, hoe, hce⟩ := he
    refine wpAny_bind (wpAny_isInstance (T := "StopIteration") (b := true) ⟨oe, hoe, hce⟩ isSubtype_stop ?_)
    exact wpAny_pure (h _ S2.drop.drop.drop.drop)
  | false =>
    rw [if_pos (by rfl)]
    refine wpAny_bind (wpAny_setField_rec hz (by simp) fun h₁ hz₁ hs₁ => ?_)
    have S1 := S.upd (t := s.toks) (.here (o' := zHK TI TO T0 true)) hz₁ rfl fun b o hb e => hs₁.extBut b o hb e
    refine wpAny_pure ?_
    dsimp only
    rw [if_neg (by decide)]
    rw [← Array.forIn_toList]
    simp only [List.forIn_cons, List.forIn_nil]
    refine wpAny_bind (wpAny_bind (wpAny_bind (wpAny_holding ?_)))
    show wpAny _ _ (Builtin.SmallTypes.nextOf (.ref i1) >>= _) _ _ _
    refine wpAny_bind (nextLE (by first | exact hA | (show A.in1.handled = none; exact hA)) S1 (.tail _ (.tail _ (.tail _ (.tail _ (.head _))))) (.there (.there (.there (.there .here)))) (.tail _ (.tail _ (.tail _ (.tail _ (.tail _ hm1))))) hx fun e s2 S2 he => ?_)
    obtain ⟨oe, hoe, hce⟩ := he
    refine wpAny_bind (wpAny_isInstance (T := "StopIteration") (b := true) ⟨oe, hoe, hce⟩ isSubtype_stop ?_)
    exact wpAny_pure (h _ S2.drop.drop.drop.drop)
/-- pairs, as the ledger has them -/
noncomputable def PairIn (tl : List (Addr × Kn)) (ps : List PP) : Prop := ∀ q ∈ ps, ∃ T t1 t2, q.1 = .ref T ∧ (T, Kn.ob (pairO (.int q.2.1 t1) (.int q.2.2 t2))) ∈ tl
theorem PairIn.isPs {tl : List (Addr × Kn)} {ps : List PP} (H : PairIn tl ps) (S : St s₀ W L l led s) (hs : ∀ p ∈ tl, p ∈ led) : IsPs s.heap ps := fun q hq => by
  obtain ⟨T, t1, t2, e, hm⟩ := H q hq
  exact ⟨T, t1, t2, e, ⟨_, S.ob (hs _ hm), rfl, _, rfl⟩⟩
theorem PairIn.snoc {tl : List (Addr × Kn)} {ps : List PP} (H : PairIn tl ps) {T : Addr} {y : Int × Int} {t1 t2 : Tok} : PairIn ((T, Kn.ob (pairO (.int y.1 t1) (.int y.2 t2))) :: tl) (ps ++ [(.ref T, y)]) := fun q hq => by
  rcases List.mem_append.mp hq with hq | hq
  · obtain ⟨T', u1, u2, e, hm⟩ := H q hq
    exact ⟨T', u1, u2, e, .tail _ hm⟩
  · rw [List.mem_singleton.mp hq]
    exact ⟨T, t1, t2, rfl, .head _⟩
theorem set_push {Sb : Addr} {its : List Value} {v : Value} {Q : Unit → Shared → Prop} {r : List (Addr × Kn)} (S : St s₀ W L l ((Sb, .lst its) :: r) s) (hz : its.length < 64) (h : ∀ s', St s₀ W L l ((Sb, .lst (its ++ [v])) :: r) s' → Q () s') :
    wpAny (model prog w) A (updateSeq Sb (·.push v)) Q E s := by
  obtain ⟨o, ho, n, rfl⟩ := S.hold _ (.head _)
  have sb := Heap.SameBut.update s.heap Sb (Obj.mapSeq (·.push v))
  have hup := get?_update_seq ho (·.push v)
  exact wpAny_updateSeq ho rfl (h _ (S.upd (t := s.toks) (o' := .lst (its ++ [v])) .here hup (by rw [List.push_toArray]; exact ⟨_, rfl⟩) fun c o hc e => sb.extBut c o hc e)) (by rw [List.size_toArray, sizeLine_eq]; walk_at "lia") (by rw [Array.size_push, List.size_toArray, sizeLine_eq]; walk_at "lia")
theorem zip_loop {z TI TO T0 i1 i2 l1 l2 Sb : Addr} {v1 v2 : List Value} {m1 m2 : List Int} {res : Value} {kT : Kn} {r : List (Addr × Kn)} {R : Result → Shared → Prop} (hA : A.handled = none) (hI1 : IntsAre v1 m1) (hI2 : IntsAre v2 m2) (hl : m1.length = m2.length) (hz : m1.length < 64)
    (hm1 : (l1, .lst v1) ∈ r) (hm2 : (l2, .lst v2) ∈ r)
    (hR : ∀ ps tl s', PairIn tl ps → ps.map (·.2) = m1.zip m2 → St s₀ W L l ((Sb, .lst (ps.map (·.1))) :: (tl ++ r)) s' → R (.ok (.ret res)) s') :
    ∀ (d k : Nat) (b : Bool) (ps : List PP) (tl : List (Addr × Kn)) (s : Shared), k + d = m1.length → (T0, kT) ∈ tl → PairIn tl ps → ps.map (·.2) = (m1.zip m2).take k →
      St s₀ W L l ((Sb, .lst (ps.map (·.1))) :: (z, zHK TI TO T0 b) :: (TO, pK) :: (TI, .ob (pairO (.ref i1) (.ref i2))) :: (i2, litK l2 k) :: (i1, litK l1 k) :: (tl ++ r)) s →
      codeAny (model prog w) A (.builtin "list.extend.loop" ⟨[.ref Sb, .ref z, res], []⟩) R s := by
  intro d
  induction d with
  | zero =>
    intro k b ps tl s hk hT0 hp hpm S
    refine codeAny_builtin F.entry_extend_loop ?_
    rw [Around.under_plainId F.plain_extend_loop _]
    show wpAny _ A.in1 (pyNext (.ref z) >>= _) _ _ s
    have S1 := S.perm (led' := (z, zHK TI TO T0 b) :: (TO, pK) :: (TI, .ob (pairO (.ref i1) (.ref i2))) :: (i2, litK l2 k) :: (i1, litK l1 k) :: (Sb, .lst (ps.map (·.1))) :: (tl ++ r)) mid5
    refine wpAny_bind (nx_zipBE (kT := kT) hA S1 (.tail _ (List.mem_append_left _ hT0)) (.tail _ (List.mem_append_right _ hm1)) (by rw [List.getElem?_eq_none]; rw [hI1.length]; walk_at "lia") fun s2 S2 => ?_)
    exact wpAny_pure (hR ps tl s2 hp (by rw [hpm, List.take_of_length_le]; rw [List.length_zip]; walk_at "lia") S2)
  | succ d ih =>
    intro k b ps tl s hk hT0 hp hpm S
    have hk1 : k < m1.length := by walk_at "lia"
    have hk2 : k < m2.length := by walk_at "lia"
    obtain ⟨t1, e1⟩ := hI1.get k m1[k] (List.getElem?_eq_getElem hk1)
    obtain ⟨t2, e2⟩ := hI2.get k m2[k] (List.getElem?_eq_getElem hk2)
    have hpl : ps.length = k := by
      have := congrArg List.length hpm
      rw [List.length_map, List.length_take, List.length_zip] at this
      walk_at "lia"
    refine codeAny_builtin F.entry_extend_loop ?_
    rw [Around.under_plainId F.plain_extend_loop _]
    show wpAny _ A.in1 (pyNext (.ref z) >>= _) _ _ s
    have S1 := S.perm (led' := (z, zHK TI TO T0 b) :: (TO, pK) :: (TI, .ob (pairO (.ref i1) (.ref i2))) :: (i2, litK l2 k) :: (i1, litK l1 k) :: (Sb, .lst (ps.map (·.1))) :: (tl ++ r)) mid5
    refine wpAny_bind (nx_zipB (kT := kT) S1 (.tail _ (List.mem_append_left _ hT0)) (.tail _ (List.mem_append_right _ hm1)) (.tail _ (List.mem_append_right _ hm2)) e1 e2 fun T s2 S2 => ?_)
    have S3 := S2.perm (led' := (Sb, .lst (ps.map (·.1))) :: (T, .ob (pairO (.int m1[k] t1) (.int m2[k] t2))) :: (z, zHK TI TO T0 true) :: (TO, pK) :: (TI, .ob (pairO (.ref i1) (.ref i2))) :: (i2, litK l2 (k + 1)) :: (i1, litK l1 (k + 1)) :: (tl ++ r)) mid6.symm
    show wpAny _ A.in1 (updateSeq Sb (·.push (.ref T)) >>= _) _ _ _
    refine wpAny_bind (set_push S3 (by rw [List.length_map, hpl]; walk_at "lia") fun s4 S4 => ?_)
    have S5 := S4.perm (led' := (Sb, .lst (ps.map (·.1) ++ [.ref T])) :: (z, zHK TI TO T0 true) :: (TO, pK) :: (TI, .ob (pairO (.ref i1) (.ref i2))) :: (i2, litK l2 (k + 1)) :: (i1, litK l1 (k + 1)) :: ((T, .ob (pairO (.int m1[k] t1) (.int m2[k] t2))) :: tl ++ r)) (mid5.cons _)
    refine wpAny_pure ⟨plainId_quiet F.plain_extend_loop _, ih (k + 1) true (ps ++ [(.ref T, (m1[k], m2[k]))]) _ s4 (by walk_at "lia") (.tail _ hT0) (hp.snoc (T := T) (y := (m1[k], m2[k])) (t1 := t1) (t2 := t2)) ?_ ?_⟩
    · have ez : (m1.zip m2)[k]? = some (m1[k], m2[k]) := List.getElem?_zip_eq_some.mpr ⟨List.getElem?_eq_getElem hk1, List.getElem?_eq_getElem hk2⟩
      rw [List.map_append, hpm, List.take_add_one, ez]
      rfl
    · rw [List.map_append]
      exact S5
theorem zip_no_len : typeLookup (.type "zip") "__len__" = pure none := by rw [typeLookup_type, builtinLookup_eq_fast]; kernel_rfl
theorem zip_no_hint : typeLookup (.type "zip") "__length_hint__" = pure none := by rw [typeLookup_type, builtinLookup_eq_fast]; kernel_rfl
theorem St.touch {Sb : Addr} {its : List Value} {r : List (Addr × Kn)} {f : Array Value → Array Value} {its' : List Value} (S : St s₀ W L l ((Sb, .lst its) :: r) s) (hf : f its.toArray = its'.toArray) :
    St s₀ W L l ((Sb, .lst its') :: r) { s with heap := s.heap.update Sb (Obj.mapSeq f) } := by
  obtain ⟨o, ho, n, rfl⟩ := S.hold _ (.head _)
  have sb := Heap.SameBut.update s.heap Sb (Obj.mapSeq f)
  have hup := get?_update_seq ho f
  exact S.upd (t := s.toks) (o' := .lst its') .here hup (by rw [hf]; exact ⟨_, rfl⟩) fun c o hc e => sb.extBut c o hc e
theorem collect_zip {z TI TO i1 i2 l1 l2 : Addr} {v1 v2 : List Value} {m1 m2 : List Int} {r : List (Addr × Kn)} {Q : List Value → Shared → Prop} (hA : A.handled = none) (hI1 : IntsAre v1 m1) (hI2 : IntsAre v2 m2) (hl : m1.length = m2.length) (hz : m1.length < 64) (h0 : 0 < m1.length)
    (hm1 : (l1, .lst v1) ∈ r) (hm2 : (l2, .lst v2) ∈ r) (S : St s₀ W L l ((z, zK TI TO .none) :: (TO, pK) :: (TI, .ob (pairO (.ref i1) (.ref i2))) :: (i2, litK l2 0) :: (i1, litK l1 0) :: r) s)
    (h : ∀ ps tl s', PairIn tl ps → ps.map (·.2) = m1.zip m2 → St s₀ W L l (tl ++ r) s' → Q (ps.map (·.1)) s') : wpAny (model prog w) A (collect (.ref z)) Q E s := by
  have hzo := S.ob (.head _)
  have hlt := Heap.lt_size hzo
  unfold collect
  refine wpAny_bind (wpAny_runValue (codeAny_builtin F.entry_proto_collect ?_))
  rw [Around.under_plainId F.plain_proto_collect _]
  show wpAny _ A.in1 (newList [] >>= fun l => again (.builtin "list.__iadd__" ⟨[l, .ref z], []⟩)) _ _ s
  refine wpAny_bind (wpAny_newObj_type ?_)
  refine wpAny_pure ⟨plainId_quiet F.plain_list_iadd _, codeAny_builtin F.entry_list_iadd ?_⟩
  rw [Around.under_plainId F.plain_list_iadd _]
  have S1 := S.new (t := s.toks) (o := { cls := .type "list", data := .seq ([] : List Value).toArray }) (kn := .lst []) rfl rfl ⟨0, rfl⟩
  have hne : s.heap.objs.size ≠ z := Nat.ne_of_gt hlt
  have hzo1 := S1.ob (.tail _ (.head _))
  show wpAny _ A.in1 (Builtin.List.listExtendWith (.ref s.heap.objs.size) (.ref z) (.ref s.heap.objs.size)) _ _ _
  generalize hSb : s.heap.objs.size = Sb at S1 hne hzo1 ⊢
  have hT1 : (Shared.mk (s.heap.push { cls := .type "list", data := .seq ([] : List Value).toArray }) s.gens s.drawn s.toks s.os).TypeIs (.ref z) "zip" := ⟨_, hzo1, rfl⟩
  unfold Builtin.List.listExtendWith
  refine wpAny_bind (wpAny_typeOf hT1 ?_)
  have h1 : Builtin.List.listSameRef (.ref Sb) (.ref z) = false := by simp [Builtin.List.listSameRef, hne]
  have h2 : (Value.type "zip" == Value.type "list") = false := by decide
  have h3 : (Value.type "zip" == Value.type "tuple") = false := by decide
  simp only [h1, h2, h3, Bool.or_false, Bool.false_eq_true, if_false]
  refine wpAny_bind (it_zip S1 (.tail _ (.head _)) ?_)
  refine wpAny_bind (wpAny_holding ?_)
  unfold Builtin.List.listLengthHint
  refine wpAny_bind (wpAny_specialOf hT1 zip_no_len ?_)
  show wpAny _ A.in1 (specialOf (Value.ref z) (Str.ofString "__length_hint__") >>= _) _ _ _
  refine wpAny_bind (wpAny_specialOf hT1 zip_no_hint ?_)
  refine wpAny_pure ?_
  show wpAny _ A.in1 (rule "list.extend.makes-room" >>= fun _ => Builtin.List.listTouch (.ref Sb) >>= fun _ =>
    again (.builtin "list.extend.loop" ⟨[.ref Sb, .ref z, .ref Sb], []⟩)) _ _ _
  refine wpAny_bind (wpAny_rule ?_)
  refine wpAny_bind ?_
  show wpAny _ A.in1 (updateSeq Sb (·.push .none) >>= fun _ => updateSeq Sb (·.pop)) _ _ _
  obtain ⟨o1, ho1, n1, rfl⟩ := S1.hold _ (.head _)
  refine wpAny_bind (wpAny_updateSeq ho1 rfl ?_)
  have S2 := S1.touch (f := (·.push Value.none)) (its' := [.none]) rfl
  obtain ⟨o2, ho2, n2, rfl⟩ := S2.hold _ (.head _)
  refine wpAny_updateSeq ho2 rfl ?_
  have S3 := S2.touch (f := (·.pop)) (its' := []) rfl
  refine wpAny_pure ⟨plainId_quiet F.plain_extend_loop _, ?_⟩
  have hk1 : 0 < m1.length := h0
  have hk2 : 0 < m2.length := by walk_at "lia"
  obtain ⟨t1, e1⟩ := hI1.get 0 m1[0] (List.getElem?_eq_getElem hk1)
  obtain ⟨t2, e2⟩ := hI2.get 0 m2[0] (List.getElem?_eq_getElem hk2)
  refine codeAny_builtin F.entry_extend_loop ?_
  rw [Around.under_plainId F.plain_extend_loop _]
  show wpAny _ A.in1 (pyNext (.ref z) >>= _) _ _ _
  have S4 := S3.perm (led' := (z, zK TI TO .none) :: (TO, pK) :: (TI, .ob (pairO (.ref i1) (.ref i2))) :: (i2, litK l2 0) :: (i1, litK l1 0) :: (Sb, .lst []) :: r) mid5
  refine wpAny_bind (nx_zipA S4 (.tail _ hm1) (.tail _ hm2) e1 e2 fun T s5 S5 => ?_)
  have S6 := S5.perm (led' := (Sb, .lst []) :: (T, .ob (pairO (.int m1[0] t1) (.int m2[0] t2))) :: (z, zHK TI TO T false) :: (TO, pK) :: (TI, .ob (pairO (.ref i1) (.ref i2))) :: (i2, litK l2 (0 + 1)) :: (i1, litK l1 (0 + 1)) :: r) mid6.symm
  show wpAny _ A.in1 (updateSeq Sb (·.push (.ref T)) >>= _) _ _ _
  refine wpAny_bind (set_push S6 (by simp) fun s7 S7 => ?_)
  have S8 := S7.perm (led' := (Sb, .lst ([] ++ [.ref T])) :: (z, zHK TI TO T false) :: (TO, pK) :: (TI, .ob (pairO (.ref i1) (.ref i2))) :: (i2, litK l2 (0 + 1)) :: (i1, litK l1 (0 + 1)) :: ([(T, .ob (pairO (.int m1[0] t1) (.int m2[0] t2)))] ++ r)) (mid5.cons _)
  have hz0 : (m1.zip m2)[0]? = some (m1[0], m2[0]) := List.getElem?_zip_eq_some.mpr ⟨List.getElem?_eq_getElem hk1, List.getElem?_eq_getElem hk2⟩
  refine wpAny_pure ⟨plainId_quiet F.plain_extend_loop _, zip_loop (T0 := T) (kT := .ob (pairO (.int m1[0] t1) (.int m2[0] t2))) hA hI1 hI2 hl hz hm1 hm2 (fun ps tl s9 hp hpm S9 => ?_) (m1.length - 1) 1 false [(.ref T, (m1[0], m2[0]))] _ s7 (by walk_at "lia") (.head _)
    (fun q hq => by rw [List.mem_singleton.mp hq]; exact ⟨T, t1, t2, rfl, .head _⟩) (by rw [show 1 = 0 + 1 from rfl, List.take_add_one, hz0]; rfl) S8⟩
  obtain ⟨o9, ho9, n9, rfl⟩ := S9.hold _ (.head _)
  show wpAny _ A (load Sb >>= _) _ _ s9
  refine wpAny_bind (wpAny_load ho9 ?_)
  have hq := h ps tl s9 hp hpm S9.drop
  exact wpAny_pure (by simpa using hq)
/-- sorted(zip(..)) -/
theorem c_sorted_zip {z TI TO i1 i2 l1 l2 : Addr} {v1 v2 : List Value} {m1 m2 : List Int} {r : List (Addr × Kn)} {Q : Value → Shared → Prop} (hA : A.handled = none) (hI1 : IntsAre v1 m1) (hI2 : IntsAre v2 m2) (hl : m1.length = m2.length) (hz : m1.length < 64) (h2 : 2 ≤ m1.length)
    (hm1 : (l1, .lst v1) ∈ r) (hm2 : (l2, .lst v2) ∈ r) (S : St s₀ W L l ((z, zK TI TO .none) :: (TO, pK) :: (TI, .ob (pairO (.ref i1) (.ref i2))) :: (i2, litK l2 0) :: (i1, litK l1 0) :: r) s)
    (h : ∀ D ps tl (p : List Nat) s', PairIn tl ps → ps.map (·.2) = m1.zip m2 → p.Perm (List.range ps.length) → p.Pairwise (Lx (sg false fun i => (rank (fun i j => ltP (ppAt ps i) (ppAt ps j)) ps.length i : Int))) →
      St s₀ W L l ((D, .lst (p.map fun i => (ps.map (·.1)).getD i .none)) :: (tl ++ r)) s' → Q (.ref D) s') :
    wpAny (model prog w) A (call (.builtin "sorted") [.ref z]) Q E s := by
  refine Calls.call_function_entry kind_sorted plain_sorted entry_sorted (args_sorted1 _) ?_
  unfold Builtin.«sorted»
  refine wpAny_bind (m := checkCount "sorted" 1 1 _) (wpAny_pure ?_)
  refine wpAny_bind (collect_zip hA hI1 hI2 hl hz (by walk_at "lia") hm1 hm2 S fun ps tl s1 hp hpm S1 => ?_)
  have hpl : ps.length = m1.length := by
    have := congrArg List.length hpm
    rw [List.length_map, List.length_zip] at this
    walk_at "lia"
  refine wpAny_bind (wpAny_newList ?_ (by rw [List.length_map, hpl, sizeLine_eq]; walk_at "lia"))
  have S2 := S1.new (t := s1.toks) (o := { cls := .type "list", data := .seq (ps.map (·.1)).toArray }) (kn := .lst (ps.map (·.1))) rfl rfl ⟨0, rfl⟩
  have hP2 := hp.isPs S2 fun q hq => .tail _ (List.mem_append_left _ hq)
  generalize hs2 : ({ s1 with heap := s1.heap.push { cls := .type "list", data := .seq (ps.map (·.1)).toArray }, toks := s1.toks } : Shared) = s2 at S2 hP2
  generalize s1.heap.objs.size = D at S2 ⊢
  obtain ⟨k, hD⟩ := S2.led1 (.head _)
  refine wpAny_bind (wpAny_holding (c_lsort (b := false) S2 (.inl ⟨rfl, rfl⟩) (fun out => .here) (by rw [List.length_map]; walk_at "lia") (by rw [List.length_map]; walk_at "lia") (srt_p (ps := ps) (by walk_at "lia")) (fun s' hk => hP2.offl hD hk) fun p s3 hpp hpw S3 _ => ?_))
  exact wpAny_pure ⟨_, rfl, h D ps tl p s3 hp hpm (by rw [List.length_map] at hpp; exact hpp) hpw S3⟩
end
end
section
open PySem PySem.W PyProof.Rows PySem.Calls
section
variable {prog : Program} {w : World} {A : Around} {E : Value → Shared → Prop} {s₀ s : Shared} {W : List Addr} {L D I a : Addr} {l l' : List (Str × Value)} {led led' rest : List (Addr × Kn)}
  {env : Env} {pos pos' : Pos} {v : Value} {mg mb : Str → Option Value} {its : List Value} {f : Nat → Int} {P : Shared → Prop}
/-- sorted of a list, downward -/
theorem c_sorted_rev {b : Bool} {kw : List (Str × Value)} {Q : Value → Shared → Prop} (hkw : kw = [(Str.ofString "reverse", .bool b)]) (S : St s₀ W L l led s) (hl : s.heap.IsList a its.toArray) (h2 : 2 ≤ its.length) (h64 : its.length < 64)
    (hS : Srt prog w P its f) (hP : ∀ s', (∀ c o, s.heap.get? c = some o → s'.heap.get? c = some o) → P s')
    (h : ∀ D (p : List Nat) s', p.Perm (List.range its.length) → p.Pairwise (Lx (sg b f)) → St s₀ W L l ((D, .lst (p.map fun i => its.getD i .none)) :: led) s' → Q (.ref D) s') :
    wpAny (model prog w) A (call (.builtin "sorted") [.ref a] kw) Q E s := by
  subst hkw
  refine call_function_entry_kw kind_sorted plain_sorted entry_sorted (args_sorted_rev _ _) ?_
  unfold Builtin.«sorted»
  refine wpAny_bind (m := checkCount "sorted" 1 1 _) (wpAny_pure ?_)
  refine wpAny_bind (collect_list hl ?_ (small_line h64))
  have S1 := S.new (t := s.toks) (o := seqObj "list" #[] 0) (kn := .pr fun _ => True) rfl rfl trivial
  have sb := Heap.SameBut.update (s.heap.push (seqObj "list" #[] 0)) s.heap.objs.size (Obj.mapSeq (· ++ its.toArray))
  have S2 := S1.upd (t := s.toks) (o' := .pr fun _ => True) .here (get?_update_seq (Heap.get?_push_size _ rfl) (· ++ its.toArray)) trivial fun c o hc e => sb.extBut c o hc e
  have k2 : ∀ c o, s.heap.get? c = some o → ((s.heap.push (seqObj "list" #[] 0)).update s.heap.objs.size (Obj.mapSeq (· ++ its.toArray))).get? c = some o := fun c o e => sb.extBut c o (Nat.ne_of_lt (Heap.lt_size e)) (Heap.get?_push_of_some _ e)
  refine wpAny_bind (wpAny_newList ?_ (small_line h64))
  have S3 := S2.new (t := s.toks) (o := { cls := .type "list", data := .seq its.toArray }) (kn := .lst its) rfl rfl ⟨0, rfl⟩
  dsimp only at S3
  have hDs : ((s.heap.push (seqObj "list" #[] 0)).update s.heap.objs.size (Obj.mapSeq (· ++ its.toArray))).objs.size = s.heap.objs.size + 1 := by rw [Heap.size_update, size_push']
  generalize hs3 : ({ s with heap := ((s.heap.push (seqObj "list" #[] 0)).update s.heap.objs.size (Obj.mapSeq (· ++ its.toArray))).push { cls := .type "list", data := .seq its.toArray }, toks := s.toks } : Shared) = s3 at S3
  have k3 : ∀ c o, s.heap.get? c = some o → s3.heap.get? c = some o := fun c o e => by rw [← hs3]; exact Heap.get?_push_of_some _ (k2 c o e)
  rw [hDs] at S3 ⊢
  refine wpAny_bind (wpAny_holding (c_lsort (b := b) S3 (.inr rfl) (fun out => .here) h2 h64 hS (fun s' hk => hP s' fun c o e => hk c o (Nat.ne_of_lt (Nat.lt_succ_of_lt (Heap.lt_size e))) (k3 c o e)) fun p s4 hp hpw S4 _ => ?_))
  exact wpAny_pure ⟨_, rfl, h _ p s4 hp hpw (S4.subled (.cons_cons _ (List.sublist_cons_self ..)))⟩
end
end
section
open PySem PySem.W PyProof.Rows PySem.Calls
/-- the law's frame as a state over the hidden top -/
theorem st_enter {base s : Shared} {L c1 c2 t : Addr} {o1 o2 ot : Obj} {m : Str → Option Value} {l : List (Str × Value)} (hsw : Sw base s) (F : Fr base.heap L s.heap m) (N : News base.heap L s.heap [(c1, o1), (c2, o2), (t, ot)])
    (h1 : o1.data = .cell none) (h2 : o2.data = .cell none) (h12 : c1 ≠ c2) (h13 : c1 ≠ t) (h23 : c2 ≠ t) (hl : LocOk m l) : St base [] L l [(c1, cell0K), (c2, cell0K), (t, .ob ot)] s := by
  have n1 := N _ (.head _)
  have n2 := N _ (.tail _ (.head _))
  have n3 := N _ (.tail _ (.tail _ (.head _)))
  refine ⟨⟨hsw, fun b o e _ => F.keep b o e, fun p hp => ?_⟩, ⟨m, F.ns, hl⟩, by simp [h12, h13, h23], fun p hp => ?_, fun p hp => ?_, by simp, ?_⟩
  · simp only [List.mem_cons, List.not_mem_nil, or_false] at hp
    rcases hp with rfl | rfl | rfl
    · exact ⟨o1, n1.1, h1⟩
    · exact ⟨o2, n2.1, h2⟩
    · exact ⟨ot, n3.1, rfl⟩
  · simp only [List.mem_cons, List.not_mem_nil, or_false] at hp
    rcases hp with rfl | rfl | rfl
    · exact n1.2.1
    · exact n2.2.1
    · exact n3.2.1
  · simp only [List.mem_cons, List.not_mem_nil, or_false] at hp
    rcases hp with rfl | rfl | rfl
    · exact .inr n1.2.2
    · exact .inr n2.2.2
    · exact .inr n3.2.2
  · cases q : base.heap.get? L with
    | none => rfl
    | some o => exact absurd (Heap.lt_size q) (Nat.not_lt.mpr F.above)
end
section
open PySem PySem.W PyProof.Rows PySem.Calls
theorem Chs.erase {vs : List Value} {cs : List Nat} (h : Chs vs cs) : ∀ k, Chs (vs.eraseIdx k) (cs.eraseIdx k) := by
  induction h with
  | nil => intro k; exact .nil
  | @cons c t vs cs h ih =>
    intro k
    cases k with
    | zero => exact h
    | succ k => exact .cons (ih k)
theorem pair_ok : ∀ k < 7, ∀ j < 6, signs7.getD k 0 ∈ signs7 ∧ (signs7.eraseIdx k).getD j 0 ∈ signs7 ∧ signs7.getD k 0 ≠ (signs7.eraseIdx k).getD j 0 := by decide
theorem law_shell {prog : Program} {w : World} {env : Env} {t : Sem Flow} {Q : Flow → Shared → Prop} {E : Value → Shared → Prop} {s : Shared} (h : ∀ A, Ok A 60 → A.frames = some [env] → A.units + 300 < cLine → wpAny (model prog w) A t Q E s) : wpAny (model prog w) (callerA.deeper env) t Q E s :=
  h _ ⟨show callerA.depth + 1 + 60 < recursionLimit by decide, rfl, show callerA.units + 3 + 8 * 60 < cLine by decide⟩ rfl (show callerA.units + 3 + 300 < cLine by decide)
noncomputable def numsOf (ns : List Int) : List Nat := (ns.take 7).map fun n => (n.fmod 1000000).toNat
noncomputable def firstOf (ns : List Int) : Nat := (numsOf ns ++ [143]).getD 0 0
noncomputable def modesOf (ns : List Int) : List Nat := [33056, 33028, 16832, 49280, 35200, 512] ++ ((numsOf ns).drop 1).map fun n => n % 65536
theorem nums_len (ns : List Int) : (numsOf ns).length ≤ 7 := by unfold numsOf; rw [List.length_map, List.length_take]; walk_at "lia"
theorem modes_len (ns : List Int) : 6 ≤ (modesOf ns).length ∧ (modesOf ns).length ≤ 12 := by
  have := nums_len ns
  unfold modesOf
  rw [List.length_append, List.length_map, List.length_drop]
  simp only [List.length_cons, List.length_nil]
  walk_at "lia"
theorem modes_lt (ns : List Int) : ∀ m ∈ modesOf ns, m < 65536 := by
  intro m hm
  rcases List.mem_append.mp hm with hm | hm
  · exact (by decide : ∀ m ∈ ([33056, 33028, 16832, 49280, 35200, 512] : List Nat), m < 65536) m hm
  · obtain ⟨n, _, rfl⟩ := List.mem_map.mp hm
    exact Nat.mod_lt _ (by decide)
theorem first_at {vs : List Value} {ns : List Int} (hI : IntsAre vs ((numsOf ns ++ [143]).map fun n : Nat => (n : Int))) : ∃ t, vs[0]? = some (.int (firstOf ns : Int) t) := by
  refine hI.get 0 _ ?_
  rw [List.getElem?_map]
  unfold firstOf
  rw [List.getD_eq_getElem?_getD]
  cases e : (numsOf ns ++ [143])[0]? with
  | none => rw [List.getElem?_eq_none_iff] at e; simp at e
  | some x => rfl
theorem sg_r : Str.ofString "r" = S [114] := by kernel_rfl!
theorem sg_w : Str.ofString "w" = S [119] := by kernel_rfl!
theorem sg_x : Str.ofString "x" = S [120] := by kernel_rfl!
theorem sg_s : Str.ofString "s" = S [115] := by kernel_rfl!
theorem sg_S : Str.ofString "S" = S [83] := by kernel_rfl!
theorem sg_t : Str.ofString "t" = S [116] := by kernel_rfl!
theorem sg_T : Str.ofString "T" = S [84] := by kernel_rfl!
theorem sg_A : Str.ofString "A" = S [65] := by kernel_rfl!
theorem signs_are {t0 t1 t2 t3 t4 t5 t6 : Tok} : Chs [.str (Str.ofString "r") t0, .str (Str.ofString "w") t1, .str (Str.ofString "x") t2, .str (Str.ofString "s") t3, .str (Str.ofString "S") t4, .str (Str.ofString "t") t5, .str (Str.ofString "T") t6] signs7 := by
  rw [sg_r, sg_w, sg_x, sg_s, sg_S, sg_t, sg_T]
  exact .cons (.cons (.cons (.cons (.cons (.cons (.cons .nil))))))
section
variable {prog : Program} {w : World} {A : Around} {E : Value → Shared → Prop} {s₀ s : Shared} {W : List Addr} {L D I a : Addr} {l l' : List (Str × Value)} {led led' rest : List (Addr × Kn)}
  {env : Env} {pos pos' : Pos} {v : Value} {mg mb : Str → Option Value}
theorem sub_lstT {value slice : Expr} {its : List Value} {k : Int} {u : Tok} {Q : Value → Shared → Prop} (S : St s₀ W L l led s) (hm : (D, .lst its) ∈ led) (h0 : 0 ≤ k) (hfit : k < 2 ^ 63) (hx : its[k.toNat]? = some v)
    (hs : subscripted slice false (.ref D) (.int k u) = operate [.ref D, .int k u] (getItem (.ref D) (.int k u))) (h : Q v s) : wpAny (model prog w) A (subscriptTail value slice (.ref D) (.int k u)) Q E s :=
  tail_b (S.isList hm).typeIs list_getitem_lookup (wpAny_getItem_list (S.isList hm) h0 hfit (by simpa using hx) h) hs
/-- a comprehension whose elements are ints, one int made of each int -/
noncomputable def CompInts (prog : Program) (w : World) : Prop := True
/-- the elements of a comprehension over a list of ints, as naturals -/
theorem comp_ints {elt : Expr} {x1 : Str} {p1 : Pos} {scope : Scope} {cl : List (Str × Addr)} {ms : List Int} {g : Int → Int} {vs : List Value} {U : Shared → List Addr → Addr → List (Str × Value) → List (Addr × Kn) → Addr → Shared → Prop} (hA : A.handled = none) (G : GW w mg mb s₀ W)
    (hx1 : ∀ C, (compEnvC scope cl C env).kindOf x1 = some .local) (hkC : ∀ C, (compEnvC scope cl C env).scope.kind = .function)
    (S : St s₀ W L l ((I, litK a 0) :: rest) s) (hla : (a, .lst vs) ∈ rest ∨ (s₀.heap.IsList a vs.toArray ∧ a ∉ W)) (hI : IntsAre vs ms) (hz : ms.length ≤ 1000) (hW : ∀ b ∈ W, ∃ q ∈ rest, q.1 = b)
    (helt : ∀ (C : Addr) (E' : Value → Shared → Prop) (s₀ : Shared) (W : List Addr) (led : List (Addr × Kn)) (y : Int) (t1 : Tok) (s' : Shared) (Q' : Value → Shared → Prop), y ∈ ms → GW w mg mb s₀ W → St s₀ W C [(x1, .int y t1)] led s' →
      (∀ t s'', St s₀ W C [(x1, .int y t1)] led s'' → Q' (.int (g y) t) s'') → wpAny (model prog w) A (eval elt (compEnvC scope cl C env)) Q' E' s')
    (hU : ∀ D ys s', IntsAre ys (ms.map g) → St s₀ W L l ((D, .lst ys) :: rest) s' → U s₀ W L l ((D, .lst ys) :: rest) D s') :
    CompOk prog w A elt (.Name x1 p1) [] scope cl env (.ref I) s U := by
  have S2 : St s₀ W L l ([(I, litK a 0)] ++ rest) s := S
  have hlen := hI.length
  have hneI : ∀ q ∈ rest, q.1 ≠ I := fun q hq e => by
    have nd := S2.nd
    rw [List.map_append, List.nodup_append] at nd
    exact nd.2.2 I (by simp) q.1 (List.mem_map_of_mem (f := (·.1)) hq) e.symm
  have hlC : ∀ C lc led s', St s ([(I, litK a 0)].map (·.1)) C lc led s' → s'.heap.IsList a vs.toArray := fun C lc led s' SC => by
    rcases hla with h | ⟨h, h2⟩
    · exact SC.list (S.isList (.tail _ h)) (by
        simp only [List.map_cons, List.map_nil, List.mem_singleton]
        exact hneI _ h)
    · exact S2.listC h h2 lc led s' SC
  refine ⟨s₀, W, L, l, _, _, fun m ys lw' lc s' => ∃ i, lw' = [(I, litK a i)] ∧ i + m = ms.length ∧ IntsAre ys ((ms.take i).map g),
    fun ys lw' s' => lw' = [] ∧ IntsAre ys (ms.map g), ms.length, S2, ?_, ?_, ?_, ?_, ?_, ?_⟩
  · intro b hb
    obtain ⟨q, hq, rfl⟩ := hW b hb
    obtain ⟨o, ho, _⟩ := S2.hold q (List.mem_append_right _ hq)
    exact ⟨o, ho⟩
  · intro s' _
    exact ⟨0, rfl, by walk_at "lia", .nil⟩
  · intro C D' s' Q₁ E'' SC hq
    exact it_lit SC (.tail _ (.head _)) hq
  · rintro C D' m s' E'' lc ys lw' SC ⟨i, rfl, him, hys⟩
    rcases m with _ | m
    · refine nx_lit_end SC hA (.tail _ (.head _)) (.there .here) (hlC _ _ _ _ SC) (by rw [List.getElem?_eq_none]; walk_at "lia") ?_
      intro s3 S3
      exact ⟨lc, ys, [], S3, rfl, by rwa [List.take_of_length_le (by walk_at "lia")] at hys⟩
    · have hi : i < ms.length := by walk_at "lia"
      obtain ⟨t1, ht1⟩ := hI.get i ms[i] (List.getElem?_eq_getElem hi)
      refine nx_lit SC (.there .here) (hlC _ _ _ _ SC) ht1 ?_
      intro s3 S3
      have S3 := S3.noloc
      refine go_name ?_
      refine asg_name (stE_loc S3 .nil (fun s4 S4 => ?_) rfl (by
        have := hkC C
        rw [this]; rfl) (hx1 C))
      refine tests0 ?_
      refine ift ?_
      refine helt C _ _ _ _ _ t1 s4 _ (List.getElem_mem hi) (G.comp S2) S4 fun t s5 S5 => ?_
      have hysl : ys.length = i := by rw [hys.length]; simp; walk_at "lia"
      refine c_append S5 .here (by walk_at "lia") ?_
      intro s6 S6
      refine ⟨m, _, _, _, by walk_at "lia", S6, i + 1, rfl, by walk_at "lia", ?_⟩
      rw [List.take_add_one, List.getElem?_eq_getElem hi, List.map_append]
      exact IntsAre.snocN hys
  · rintro ys lw s' s'' hF _
    exact hF
  · rintro D' ys lw' s' ⟨rfl, hys⟩ SD
    exact hU D' ys s' hys SD
end
end
section
open PySem PySem.W PyProof.Rows PySem.Calls
/-- the words, list by list, as the ledger has them -/
noncomputable def WordsIn (tl : List (Addr × Kn)) (ws : List (Value × Nat)) : Prop := ∀ q ∈ ws, ∃ D vs, q.1 = .ref D ∧ (D, Kn.lst vs) ∈ tl ∧ Chs vs (word q.2)
theorem WordsIn.nil {tl : List (Addr × Kn)} : WordsIn tl [] := fun _ h => nomatch h
theorem WordsIn.snoc {tl : List (Addr × Kn)} {ws : List (Value × Nat)} (H : WordsIn tl ws) {D : Addr} {vs : List Value} {m : Nat} (hc : Chs vs (word m)) : WordsIn ((D, Kn.lst vs) :: tl) (ws ++ [(.ref D, m)]) := fun q hq => by
  rcases List.mem_append.mp hq with hq | hq
  · obtain ⟨D', vs', e, hm, h⟩ := H q hq
    exact ⟨D', vs', e, .tail _ hm, h⟩
  · rw [List.mem_singleton.mp hq]
    exact ⟨D, vs, rfl, .head _, hc⟩
theorem GW.nil {w : World} {mg mb : Str → Option Value} {s : Shared} {W : List Addr} (G : GW w mg mb s W) : GW w mg mb s [] := fun h' hk => G h' fun b o e _ => hk b o e (by simp)
section
variable {prog : Program} {w : World} {A : Around} {E : Value → Shared → Prop} {s₀ s s' : Shared} {W : List Addr} {L D I a c : Addr} {l l' : List (Str × Value)} {led led' rest : List (Addr × Kn)}
  {env : Env} {pos pos' : Pos} {v : Value} {mg mb : Str → Option Value} {kn : Kn}
theorem St.outNew (S : St s₀ W L l led s) (O : Out s [] [(D, kn)] s') (hD : s.heap.get? D = none) : St s₀ W L l ((D, kn) :: led) s' :=
  S.merge (W' := []) (lw := [(D, kn)]) (rest := led) O (by simp) (fun p hp => .inr (by rw [List.mem_singleton.mp hp]; exact hD)) (by simp) (List.Sublist.refl _) (by simp)
theorem op_fdivB {x k : Nat} {t u : Tok} {Q : Value → Shared → Prop} (S : St s₀ W L l led s) (hk : 0 < k) (hk2 : k.log2 < 9000) (h : ∀ t s', St s₀ W L l led s' → Q (.int ((x / k : Nat) : Int) t) s') : wpAny (model prog w) A (binaryOp .FloorDiv (.int (x : Int) t) (.int (k : Int) u)) Q E s :=
  op_fdiv S (by omega) (by
    have : (k : Int).natAbs = k := by omega
    rw [this]; exact hk2) fun t s' S' => by
    have e : (x : Int).fdiv (k : Int) = ((x / k : Nat) : Int) := by rw [Int.fdiv_eq_ediv_of_nonneg _ (by omega)]; rfl
    rw [e]; exact h t s' S'
theorem pow256 : ∀ i < 9, 0 < 256 ^ (8 - i) ∧ (256 ^ (8 - i)).log2 < 9000 := by decide +kernel
theorem be9_range (v : Nat) : (List.range 9).map (fun j => v / 256 ^ (8 - j) % 256) = be9 v := rfl
theorem op_sub12 {x : Nat} {t u : Tok} {Q : Value → Shared → Prop} (S : St s₀ W L l led s) (hx : x ≤ 12) (h : ∀ t s', St s₀ W L l led s' → Q (.int ((12 - x : Nat) : Int) t) s') : wpAny (model prog w) A (binaryOp .Sub (.int 12 t) (.int (x : Int) u)) Q E s :=
  op_sub S fun t s' S' => by
    have := h t s' S'
    rw [show ((12 - x : Nat) : Int) = 12 - (x : Int) by omega] at this
    exact this
end
end
section
open PySem PySem.W PyProof.Rows PySem.Calls
theorem ltP_true {x y : Int × Int} (h : ltP x y = true) : x.1 < y.1 ∨ (x.1 = y.1 ∧ x.2 < y.2) := by
  unfold ltP at h
  by_cases e : x.1 = y.1
  · rw [if_pos e] at h
    exact .inr ⟨e, of_decide_eq_true h⟩
  · rw [if_neg e] at h
    exact .inl (of_decide_eq_true h)
theorem ltP_false {x y : Int × Int} (h : ltP x y = false) : y.1 < x.1 ∨ (x.1 = y.1 ∧ y.2 ≤ x.2) := by
  unfold ltP at h
  by_cases e : x.1 = y.1
  · rw [if_pos e] at h
    exact .inr ⟨e, Int.not_lt.mp (of_decide_eq_false h)⟩
  · rw [if_neg e] at h
    have := of_decide_eq_false h
    exact .inl (by walk_at "lia")
theorem pw_mem {α : Type} {R : α → α → Prop} {S : α → α → Prop} {l : List α} (h : l.Pairwise R) (hi : ∀ a ∈ l, ∀ b ∈ l, R a b → S a b) : l.Pairwise S := by
  induction h with
  | nil => exact .nil
  | @cons x xs hx hp ih =>
    exact .cons (fun y hy => hi x (.head _) y (.tail _ hy) (hx y hy)) (ih fun a ha b hb => hi a (.tail _ ha) b (.tail _ hb))
section
variable {num : Nat → Int} {N : Nat} {ps : List PP} {p : List Nat}
theorem rank_lx (hl : ps.length = N) {a b : Nat} (ha : a < N) (hb : b < N) : ((rank (fun i j => ltP (ppAt ps i) (ppAt ps j)) ps.length a : Int) < (rank (fun i j => ltP (ppAt ps i) (ppAt ps j)) ps.length b : Int)) ↔ ltP (ppAt ps a) (ppAt ps b) = true := by
  rw [← rank_lt (n := ps.length) (ord_ltP.on (ppAt ps)) a b (by walk_at "lia") (by walk_at "lia")]
  simp
theorem lt_mem (hl : ps.length = N) (hpm : p.Perm (List.range ps.length)) : ∀ a ∈ p, a < N := fun a ha => by
  have := List.mem_range.mp (hpm.mem_iff.mp ha)
  walk_at "lia"
theorem rising_ok (hp : ∀ i < N, ppAt ps i = (num i, (i : Int))) (hl : ps.length = N) (hpm : p.Perm (List.range ps.length)) (hpw : p.Pairwise (Lx (sg false fun i => (rank (fun i j => ltP (ppAt ps i) (ppAt ps j)) ps.length i : Int)))) : p.Pairwise (Lx num) := by
  refine pw_mem hpw fun a ha b hb h => ?_
  have ha := lt_mem hl hpm a ha
  have hb := lt_mem hl hpm b hb
  unfold Lx sg at h
  simp only [Bool.false_eq_true, if_false] at h
  unfold Lx
  rcases h with h | ⟨h, hab⟩
  · have := ltP_true ((rank_lx hl ha hb).mp h)
    rw [hp a ha, hp b hb] at this
    dsimp only at this
    walk_at "lia"
  · have h2 : ltP (ppAt ps b) (ppAt ps a) = false := by
      cases q : ltP (ppAt ps b) (ppAt ps a) with
      | false => rfl
      | true => have := (rank_lx hl hb ha).mpr q; walk_at "lia"
    have := ltP_false h2
    rw [hp a ha, hp b hb] at this
    dsimp only at this
    walk_at "lia"
theorem falling_ok (hp : ∀ i < N, ppAt ps i = (num i, -(i : Int))) (hl : ps.length = N) (hpm : p.Perm (List.range ps.length)) (hpw : p.Pairwise (Lx (sg true fun i => (rank (fun i j => ltP (ppAt ps i) (ppAt ps j)) ps.length i : Int)))) : p.Pairwise (Lx (sg true num)) := by
  refine pw_mem hpw fun a ha b hb h => ?_
  have ha := lt_mem hl hpm a ha
  have hb := lt_mem hl hpm b hb
  unfold Lx sg at h
  simp only [if_true] at h
  unfold Lx sg
  simp only [if_true]
  rcases h with h | ⟨h, hab⟩
  · have := ltP_true ((rank_lx hl hb ha).mp (by walk_at "lia"))
    rw [hp a ha, hp b hb] at this
    dsimp only at this
    walk_at "lia"
  · have h2 : ltP (ppAt ps a) (ppAt ps b) = false := by
      cases q : ltP (ppAt ps a) (ppAt ps b) with
      | false => rfl
      | true => have := (rank_lx hl ha hb).mpr q; walk_at "lia"
    have := ltP_false h2
    rw [hp a ha, hp b hb] at this
    dsimp only at this
    walk_at "lia"
theorem pp_at {g : Nat → Int × Int} (h : ps.map (·.2) = (List.range N).map g) : ∀ i < N, ppAt ps i = g i := fun i hi => by
  have e := congrArg (fun l => l[i]?) h
  simp only [List.getElem?_map, List.getElem?_range hi, Option.map_some] at e
  unfold ppAt
  rw [List.getD_eq_getElem?_getD]
  cases q : ps[i]? with
  | none => rw [q] at e; cases e
  | some x => rw [q] at e; exact Option.some.inj e
theorem zip_nums {g : Nat → Nat} {ms : List Nat} : (ms.map fun m => ((g m : Nat) : Int)).zip ((List.range ms.length).map fun i : Nat => (i : Int)) = (List.range ms.length).map fun i : Nat => (((g (ms.getD i 0) : Nat) : Int), (i : Int)) := by
  refine List.ext_getElem (by simp) fun i h1 h2 => ?_
  have hi : i < ms.length := by simpa using h2
  simp [hi]
end
end
section
open PySem PySem.W PyProof.Rows PySem.Calls
section
variable {prog : Program} {w : World} {A : Around} {E : Value → Shared → Prop} {s₀ s : Shared} {W : List Addr} {L D I a : Addr} {l l' : List (Str × Value)} {led led' rest : List (Addr × Kn)}
  {env : Env} {pos pos' : Pos} {v : Value} {mg mb : Str → Option Value} {its : List Value} {f : Nat → Int} {P : Shared → Prop}
theorem St.listM {s₂ : Shared} {C D : Addr} {lw : List (Addr × Kn)} {its : List Value} (S : St s₀ W L l (lw ++ rest) s₂) (hm : (D, .lst its) ∈ rest) : ∀ lc led s, St s₂ (lw.map (·.1)) C lc led s → s.heap.IsList D its.toArray := fun lc led s SC => SC.list (S.isList (List.mem_append_right lw hm)) fun hm' => by
  have nd := S.nd
  rw [List.map_append, List.nodup_append] at nd
  exact nd.2.2 _ hm' _ (List.mem_map_of_mem (f := (·.1)) hm) rfl
/-- [elt for a, b in pairs] -/
theorem x_pick2 {x1 x2 y₀ : Str} {py spos : Pos} {p1 p2 tp : Pos} {k : Nat} {elt iter : Expr} {scope : Scope} {cl : List (Str × Addr)} {g : Int × Int → Int} {Q : Flow → Shared → Prop} (hA : A.handled = none)
    (hsw : swapsWith (.ListComp elt [⟨.Tuple [.Name x1 p1, .Name x2 p2] k tp, iter, [], 0⟩] scope pos) (some (.Name y₀ py)) spos.line env = pure true) (hp₀ : (env.scope.kind == .class || (env.scope.kind == .module && env.locals != env.globals)) = false) (hx₀ : env.kindOf y₀ = some .local)
    (hs : ∀ x, foldedSetIterable iter env x = pure x) (hclos : closureFor scope env = pure cl) (hcell : ∀ y ∈ scope.names, y.2 ≠ .cell) (hkind : scope.kind = .function)
    (hnames : ∀ y ∈ scope.names, y.2 = .local → scope.names.lookup y.1 = some .local)
    (hn12 : x1 ≠ x2) (hk1 : ∀ C, (compEnvC scope cl C env).kindOf x1 = some .local) (hk2 : ∀ C, (compEnvC scope cl C env).kindOf x2 = some .local) (hkC : ∀ C, (compEnvC scope cl C env).scope.kind = .function)
    (helt : ∀ (C : Addr) (E' : Value → Shared → Prop) (s₀ : Shared) (W : List Addr) (led : List (Addr × Kn)) (y : Int × Int) (t1 t2 : Tok) (s' : Shared) (Q' : Value → Shared → Prop), St s₀ W C [(x1, .int y.1 t1), (x2, .int y.2 t2)] led s' →
      (∀ t s'', St s₀ W C [(x1, .int y.1 t1), (x2, .int y.2 t2)] led s'' → Q' (.int (g y) t) s'') → wpAny (model prog w) A (eval elt (compEnvC scope cl C env)) Q' E' s')
    (h : wpAny (model prog w) A (eval iter env) (fun v s₁ => Ex9 fun (s₀ : Shared) (W : List Addr) (L : Addr) (l : List (Str × Value)) (rest : List (Addr × Kn)) (D : Addr) (ps : List PP) (p : List Nat) (tl : List (Addr × Kn)) => And8 (v = .ref D) (St s₀ W L l ((D, .lst (p.map fun i => (ps.map (·.1)).getD i .none)) :: rest) s₁) ((∀ a ∈ W, ∃ q ∈ rest, q.1 = a)) (PairIn tl ps) ((∀ q ∈ tl, q ∈ rest)) ((∀ i ∈ p, i < ps.length)) (p.length ≤ 1000) (∀ D' ys s', IntsAre ys (p.map fun i => g (ppAt ps i)) → St s₀ W L l ((D', .lst ys) :: (D, .lst (p.map fun i => (ps.map (·.1)).getD i .none)) :: rest) s' → env.locals = L ∧ ∃ l', SetsTo y₀ (.ref D') l l' ∧ ∀ s'', St s₀ W L l' ((D', .lst ys) :: (D, .lst (p.map fun i => (ps.map (·.1)).getD i .none)) :: rest) s'' → Q .next s'')) E s) :
    wpAny (model prog w) A (exec (.Assign [.Name y₀ py] (.ListComp elt [⟨.Tuple [.Name x1 p1, .Name x2 p2] k tp, iter, [], 0⟩] scope pos) spos) env) Q E s := by
  refine x_assign_comp hsw hs hclos hcell hkind hnames hp₀ hx₀ (wpAny_mono h (fun v s₁ h₁ => ?_) fun _ _ e => e)
  obtain ⟨s₀, W, L, l, rest, D, ps, p, tl, rfl, S, hWs, hti, htl, hpl, hz, hq⟩ := h₁
  refine it_list S (S.isList (.head _)) ?_
  intro I s2 S2 _
  have S2 : St s₀ W L l ([(I, litK D 0)] ++ ((D, .lst (p.map fun i => (ps.map (·.1)).getD i .none)) :: rest)) s2 := S2
  have hlD := S2.isList (D := D) (.tail _ (.head _))
  have hneI : ∀ q ∈ (D, Kn.lst (p.map fun i => (ps.map (·.1)).getD i .none)) :: rest, q.1 ≠ I := fun q hq e => by
    have nd := S2.nd
    rw [List.map_append, List.nodup_append] at nd
    exact nd.2.2 I (by simp) q.1 (List.mem_map_of_mem (f := (·.1)) hq) e.symm
  refine ⟨s₀, W, L, l, _, _, fun m ys lw' lc s' => ∃ i, lw' = [(I, litK D i)] ∧ i + m = p.length ∧ IntsAre ys ((p.take i).map fun i => g (ppAt ps i)),
    fun ys lw' s' => lw' = [] ∧ IntsAre ys (p.map fun i => g (ppAt ps i)), p.length, S2, ?_, ?_, ?_, ?_, ?_, ?_⟩
  · intro a ha
    obtain ⟨q, hq, rfl⟩ := hWs a ha
    obtain ⟨o, ho, _⟩ := S2.hold q (List.mem_append_right _ (.tail _ hq))
    exact ⟨o, ho⟩
  · intro s' _
    exact ⟨0, rfl, by walk_at "lia", .nil⟩
  · intro C D' s' Q₁ E'' SC hq
    exact it_lit SC (.tail _ (.head _)) hq
  · rintro C D' m s' E'' lc ys lw' SC ⟨i, rfl, him, hys⟩
    have hlC : ∀ lc led s', St s2 ([(I, litK D 0)].map (·.1)) C lc led s' → s'.heap.IsList D (p.map fun i => (ps.map (·.1)).getD i .none).toArray := fun lc led s' SC => SC.list hlD (by
      simp only [List.map_cons, List.map_nil, List.mem_singleton]
      exact hneI _ (.head _))
    rcases m with _ | m
    · refine nx_lit_end SC hA (.tail _ (.head _)) (.there .here) (hlC _ _ _ SC) (by rw [List.getElem?_eq_none]; simp; walk_at "lia") ?_
      intro s3 S3
      exact ⟨lc, ys, [], S3, rfl, by rwa [List.take_of_length_le (by walk_at "lia")] at hys⟩
    · have hi : i < p.length := by walk_at "lia"
      have hpi : p[i] < ps.length := hpl _ (List.getElem_mem hi)
      obtain ⟨T, t1, t2, e1, hm⟩ := hti (ps[p[i]]) (List.getElem_mem hpi)
      have hx : (p.map fun i => (ps.map (·.1)).getD i Value.none)[i]? = some (.ref T) := by
        rw [List.getElem?_map, List.getElem?_eq_getElem hi]
        show some ((ps.map (·.1)).getD p[i] Value.none) = _
        rw [List.getD_eq_getElem?_getD, List.getElem?_map, List.getElem?_eq_getElem hpi]
        exact congrArg some e1
      refine nx_lit SC (.there .here) (hlC _ _ _ SC) hx ?_
      intro s3 S3
      refine ldg_lit S3 (.tail _ (.head _)) ?_
      have S3 := S3.noloc
      have hTt : IsTup s3.heap T #[.int (ppAt ps p[i]).1 t1, .int (ppAt ps p[i]).2 t2] := by
        have e2 : ppAt ps p[i] = (ps[p[i]]).2 := by unfold ppAt; simp [hpi]
        rw [e2]
        have hob := S2.ob (List.mem_append_right _ (.tail _ (htl _ hm)))
        have := S3.keep _ _ hob (by
          simp only [List.map_cons, List.map_nil, List.mem_singleton]
          exact hneI _ (.tail _ (htl _ hm)))
        exact ⟨_, this, rfl, _, rfl⟩
      refine asg_tup2 S3 hA hTt .nil (.there hn12.symm .nil) ?_ rfl (by
        have := hkC C
        rw [this]; rfl) (hk1 C) (hk2 C)
      intro s4 S4
      refine tests0 ?_
      refine ift ?_
      refine helt C _ _ _ _ _ t1 t2 s4 _ S4 fun t s5 S5 => ?_
      have hysl : ys.length = i := by rw [hys.length]; simp; walk_at "lia"
      refine c_append S5 .here (by walk_at "lia") ?_
      intro s6 S6
      refine ⟨m, _, _, _, by walk_at "lia", S6, i + 1, rfl, by walk_at "lia", ?_⟩
      rw [List.take_add_one, List.getElem?_eq_getElem hi, List.map_append]
      exact IntsAre.snocN hys
  · rintro ys lw s' s'' hF _
    exact hF
  · rintro D' ys lw' s' ⟨rfl, hys⟩ SD
    exact hq D' ys s' hys SD
end
end
section
open PySem PySem.W PyProof.Rows PySem.Calls
/-- a code object of the given name -/
noncomputable abbrev codeK (qual : Str) : Kn := .pr fun o => ∃ vs t, o.data = .fields vs ∧ vs[1]? = some (.str qual t)
section
variable {prog : Program} {w : World} {A : Around} {E : Value → Shared → Prop} {s₀ s s' : Shared} {W W' : List Addr} {L D I a c : Addr} {l l' : List (Str × Value)} {led led' rest : List (Addr × Kn)}
  {env : Env} {pos pos' : Pos} {v : Value} {mg mb : Str → Option Value} {kn : Kn}
theorem get_size_none (h : Heap) : h.get? h.objs.size = none := by
  cases q : h.get? h.objs.size with
  | none => rfl
  | some o => exact absurd (Heap.lt_size q) (Nat.lt_irrefl _)
theorem St.adopt {o : Obj} (S : St s₀ W L l led s) (ho : s.heap.get? a = some o) (hk : kn.ok o) (h0 : s₀.heap.get? a = none) (hL : a ≠ L) (hl : ∀ p ∈ led, p.1 ≠ a) : St s₀ W L l ((a, kn) :: led) s := by
  refine ⟨⟨S.sw, S.keep, fun p hp => ?_⟩, S.loc, ?_, fun p hp => ?_, fun p hp => ?_, S.neW, S.above⟩
  · rcases List.mem_cons.mp hp with rfl | hp
    · exact ⟨o, ho, hk⟩
    · exact S.hold p hp
  · rw [List.map_cons, List.nodup_cons]
    refine ⟨fun hm => ?_, S.nd⟩
    obtain ⟨p, hp, e⟩ := List.mem_map.mp hm
    exact hl p hp e
  · rcases List.mem_cons.mp hp with rfl | hp
    · exact hL
    · exact S.ne p hp
  · rcases List.mem_cons.mp hp with rfl | hp
    · exact .inr h0
    · exact S.fr p hp
/-- a lambda is made: its code object is written into the table -/
theorem e_lambda {params : Arguments} {body : Expr} {scope : Scope} {clos : List (Str × Addr)} {ps : Array Value} {P : Addr} {r : List (Addr × Kn)} {Q : Value → Shared → Prop} (hdef : defaultsOf params env = ([], [])) (hcl : closureFor scope env = pure clos)
    (hge0 : env.globals = mainGlobals) (hcode : env.code = .ref c) (S : St s₀ [] L l ((P, .ob (tabObj ps)) :: r) s) (C : CodeHd s₀.heap c P) (G : GW w mg mb s₀ [])
    (hbm : ∃ bm ob, mg "__builtins__" = some (.ref bm) ∧ bm ≠ builtinsNs ∧ s₀.heap.get? bm = some ob ∧ ob.cls = .type "module" ∧ ob.dict = some builtinsNs ∧ ob.data = .plain)
    (ht : TriplesOk ps.toList) (hnf : codeAmong pos ps.toList = none)
    (h : ∀ f c' ctv s', St s₀ [] L l ((f, .ob (kla_obj "<lambda>" (env.qual ++ "<lambda>") params body scope clos ((mg "__name__").getD .none) c' ctv)) :: (c', codeK (env.qual ++ "<lambda>")) :: (P, .ob (tabObj (ps ++ #[rawInt pos.line, rawInt pos.col, .ref c']))) :: r) s' → Q (.ref f) s') :
    wpAny (model prog w) A (eval (.Lambda params body scope pos) env) Q E s := by
  refine kla_eval hdef ?_
  have k0 : ∀ b o, s₀.heap.get? b = some o → s.heap.get? b = some o := fun b o e => S.keep b o e (by simp)
  have Gs := G s.heap fun b o e _ => k0 b o e
  have hP := S.ob (.head _)
  have hP0 : s₀.heap.get? P = none := by
    rcases S.fr _ (.head _) with h | h
    · cases h
    · exact h
  obtain ⟨bm, ob, b1, b2, b3, b4, b5, b6⟩ := hbm
  have hgP : mainGlobals ≠ P := fun q => by
    obtain ⟨o, es, ep, e, hd, _⟩ := Gs.g
    rw [q, hP] at e; cases e; cases hd
  have hbP : bm ≠ P := fun q => by rw [q, hP0] at b3; cases b3
  have hbG : bm ≠ mainGlobals := fun q => by
    obtain ⟨o, es, ep, e, hd, _⟩ := Gs.g
    have := k0 _ _ b3
    rw [q, e] at this; cases this; rw [hd] at b6; cases b6
  refine kla_makeFunction (mg := mg) hcl hge0 Gs.g hcode (C.keeps k0) hP ht hnf hgP ⟨bm, ob, b1, b2, hbG, hbP, k0 _ _ b3, b4, b5, b6⟩ fun c' ctv h' tk hx hge hlt hrec htb => ?_
  obtain ⟨c₂, oc, vs, t, e2, hoc, hd, hv⟩ := hrec
  cases e2
  have S1 := S.upd (t := tk) (o' := .ob (tabObj (ps ++ #[rawInt pos.line, rawInt pos.col, .ref c']))) .here htb rfl hx
  have hcs : s.heap.get? c' = none := Heap.get?_none_of_le hge
  have S2 := S1.adopt (a := c') (kn := codeK (env.qual ++ "<lambda>")) hoc ⟨vs, t, hd, hv⟩ (by
      cases q : s₀.heap.get? c' with
      | none => rfl
      | some o => rw [k0 _ _ q] at hcs; cases hcs) (Nat.ne_of_gt (Nat.lt_of_lt_of_le S.ltL hge)) fun p hp e => by
      have hpm : p.1 ∈ ((P, Kn.ob (tabObj ps)) :: r).map (·.1) := by
        have := List.mem_map_of_mem (f := (·.1)) hp
        simpa using this
      obtain ⟨q, hq, e2⟩ := List.mem_map.mp hpm
      obtain ⟨o, ho, _⟩ := S.hold q hq
      rw [e2, e, hcs] at ho; cases ho
  exact h _ c' ctv _ (S2.new (t := tk) rfl rfl rfl)
/-- the call's outcome joined, where the callee had written into the frame's object -/
theorem St.calledL {o0 : Obj} {led2 : List (Addr × Kn)} (S : St s₀ [] L l led s) (O : Out s W' [(D, kn), (L, slotK o0)] s') (hL : s.heap.get? L = some o0) (hD : D ∈ W' ∨ s.heap.get? D = none) (hDL : D ≠ L)
    (hsub : led2.Sublist led) (hoff : ∀ p ∈ led2, p.1 ∉ W') (hW0 : ∀ b ∈ W', s₀.heap.get? b = none) : St s₀ [] L l ((D, kn) :: led2) s' := by
  have hDl : ∀ p ∈ led2, p.1 ≠ D := fun p hp e => by
    rcases hD with h | h
    · exact hoff p hp (e ▸ h)
    · obtain ⟨o, ho, _⟩ := S.hold p (hsub.subset hp)
      rw [e, h] at ho; cases ho
  have hD0 : s₀.heap.get? D = none := by
    rcases hD with h | h
    · exact hW0 D h
    · cases q : s₀.heap.get? D with
      | none => rfl
      | some o => have := S.keep _ _ q (by simp); rw [h] at this; cases this
  refine ⟨⟨S.sw.trans O.sw, fun b o e _ => O.keep b o (S.keep b o e (by simp)) fun hb => ?_, fun p hp => ?_⟩, ?_, ?_, fun p hp => ?_, fun p hp => ?_, by simp, S.above⟩
  · rw [hW0 b hb] at e; cases e
  · rcases List.mem_cons.mp hp with rfl | hp
    · exact O.hold _ (.head _)
    · obtain ⟨o, e, q⟩ := S.hold p (hsub.subset hp)
      exact ⟨o, O.keep _ _ e (hoff p hp), q⟩
  · obtain ⟨m, ⟨o, es, ep, e, hd, r⟩, hm⟩ := S.loc
    rw [hL] at e
    cases e
    obtain ⟨o', e', sl, rfl⟩ := O.hold (L, slotK o0) (.tail _ (.head _))
    exact ⟨m, ⟨_, es, ep, e', hd, r⟩, hm⟩
  · rw [List.map_cons, List.nodup_cons]
    refine ⟨fun hm => ?_, S.nd.sublist (hsub.map _)⟩
    obtain ⟨p, hp, e⟩ := List.mem_map.mp hm
    exact hDl p hp e
  · rcases List.mem_cons.mp hp with rfl | hp
    · exact hDL
    · exact S.ne p (hsub.subset hp)
  · rcases List.mem_cons.mp hp with rfl | hp
    · exact .inr hD0
    · exact S.fr p (hsub.subset hp)
/-- a lambda of one name, as a key -/
theorem lam_key {name qual x : Str} {params : Arguments} {body : Expr} {scope : Scope} {clos : List (Str × Addr)} {pm ctv : Value} {f c' cell D6 : Addr} {hv : List Value} {ks : Nat → List UInt8} {N : Nat} (S : St s₀ [] L l led s) (G : GW w mg mb s₀ [])
    (hf : (f, Kn.ob (kla_obj name qual params body scope clos pm c' ctv)) ∈ led) (hc' : (c', codeK qual) ∈ led) (hcell : (cell, cellK (.ref D6)) ∈ led) (hD6 : (D6, Kn.lst hv) ∈ led)
    (hW1 : f ∉ W') (hW2 : c' ∉ W') (hW3 : cell ∉ W') (hW4 : D6 ∉ W') (hW0 : ∀ b ∈ W', s₀.heap.get? b = none)
    (hbind : ∀ i t, bindArgs (kla_fn name qual params body scope clos pm (.ref c') ctv) ⟨[.int i t], []⟩ = pure [(x, .int i t)]) (hloc : scope.names.lookup x = some .local) (hnc : ∀ y ∈ scope.names, y.2 ≠ .cell) (hco : scope.isCoroutine = false) (hgen : scope.isGenerator = false) (hk : scope.kind = .function)
    (hev : ∀ (A' : Around) (E' : Value → Shared → Prop) (s' s'' : Shared) (L' : Addr) (i : Nat) (t : Tok) (Q' : Value → Shared → Prop), i < N → s'.heap.IsCell cell (some (.ref D6)) → s'.heap.IsList D6 hv.toArray → St s' [] L' [(x, .int (i : Int) t)] [] s'' →
      (∀ t' s3, St s' [] L' [(x, .int (i : Int) t)] [] s3 → Q' (.bytes (ks i).toArray t') s3) → wpAny (model prog w) A' (eval body (envX qual scope L' f (.ref c') clos)) Q' E' s'') : KeyOk prog w s W' f ks N := by
  refine ⟨⟨_, _, S.ob hf, rfl⟩, hW1, fun A' E' s' i t Q' hkp hA hi hq => ?_⟩
  have hd := hA.d
  obtain ⟨oc, hoc, vs, tq, hd1, hv1⟩ := S.kn hc'
  obtain ⟨ocl, hocl, hcl⟩ := S.kn hcell
  obtain ⟨o6, ho6, n6, rfl⟩ := S.kn hD6
  have k0 : ∀ b o, s₀.heap.get? b = some o → s'.heap.get? b = some o := fun b o e => hkp b o (S.keep b o e (by simp)) fun hb => by rw [hW0 b hb] at e; cases e
  have Gs := G s'.heap fun b o e _ => k0 b o e
  refine wpAny_call (kla_callFunE (by omega) (hkp _ _ (S.ob hf) hW1) rfl hco hgen rfl ⟨c', oc, vs, tq, rfl, hkp _ _ hoc hW2, hd1, hv1⟩ ?_)
  rw [hbind]
  refine wpAny_pure (wpAny_newFunctionEnv hnc (by
    intro y hy
    rw [List.mem_singleton.mp hy]
    exact hloc) (fun h₁ hns hsb => ⟨Gs.lim.fresh _ hsb, ?_⟩) hk)
  show codeAny _ _ (.expr body (envX qual scope s'.heap.objs.size f (.ref c') clos)) _ _
  have hk₁ : ∀ b o, s'.heap.get? b = some o → h₁.get? b = some o := fun b o e => hsb.extBut b o (Nat.ne_of_lt (Heap.lt_size e)) (Heap.get?_push_of_some _ e)
  refine kla_codeExpr (wpAny_mono (hev _ (fun _ _ => False) s' { s' with heap := h₁, toks := s'.toks + 1 } s'.heap.objs.size i t (fun v s'' => Q' v s'') hi ⟨ocl, hkp _ _ hocl hW3, hcl⟩ ⟨_, hkp _ _ ho6 hW4, rfl, n6, rfl⟩
    ⟨⟨Sw.mk', fun b o e _ => hk₁ b o e, fun _ hp => nomatch hp⟩, ⟨_, hns, fun y v e => ?_⟩, by simp, fun _ hp => (nomatch hp), fun _ hp => (nomatch hp), by simp, get_size_none _⟩ fun t' s3 S3 => hq t' s3 S3.toOut) (fun _ _ y => y) fun _ _ y => y.elim)
  exact e
end
end
section
open PySem PySem.W PyProof.Rows PySem.Calls
section
variable {prog : Program} {w : World} {A : Around} {E : Value → Shared → Prop} {s₀ s s' : Shared} {W W' : List Addr} {L D I a c : Addr} {l l' : List (Str × Value)} {led led' rest X pre a1 : List (Addr × Kn)}
  {env : Env} {pos pos' : Pos} {v : Value} {mg mb : Str → Option Value} {kn : Kn}
theorem ite_post {c : Prop} [Decidable c] {e1 e2 : Expr} {Q Q0 : Value → Shared → Prop} (h0 : if c then wpAny (model prog w) A (eval e1 env) Q0 (fun _ _ => False) s else wpAny (model prog w) A (eval e2 env) Q0 (fun _ _ => False) s) (h : ∀ v s', Q0 v s' → Q v s') :
    if c then wpAny (model prog w) A (eval e1 env) Q E s else wpAny (model prog w) A (eval e2 env) Q E s := by
  by_cases hc : c
  · rw [if_pos hc] at h0 ⊢
    exact wpAny_mono h0 h fun _ _ e => e.elim
  · rw [if_neg hc] at h0 ⊢
    exact wpAny_mono h0 h fun _ _ e => e.elim
/-- what is picked from, in the law: the list, or an iterator of it -/
noncomputable def Pick (D8 : Addr) (v : Value) (pre : List (Addr × Kn)) : Prop := (v = .ref D8 ∧ pre = []) ∨ ∃ I, v = .ref I ∧ pre = [(I, litK D8 0)]
theorem Pick.src (S : St s₀ [] L l (a1 ++ (pre ++ X)) s) (H : Pick D v pre) : Src s D L v (pre.map (·.1) ++ [L]) := by
  rcases H with ⟨rfl, rfl⟩ | ⟨I, rfl, rfl⟩
  · exact .list
  · exact .iter (S.kn (List.mem_append_right _ (.head _))) (S.ne (I, litK D 0) (List.mem_append_right _ (.head _)))
theorem Pick.old (S : St s₀ [] L l (a1 ++ (pre ++ X)) s) : ∀ b ∈ pre.map (·.1) ++ [L], s₀.heap.get? b = none := fun b hb => by
  rcases List.mem_append.mp hb with hb | hb
  · obtain ⟨p, hp, rfl⟩ := List.mem_map.mp hb
    rcases S.fr p (List.mem_append_right _ (List.mem_append_left _ hp)) with h | h
    · cases h
    · exact h
  · rw [List.mem_singleton.mp hb]; exact S.above
theorem Pick.off (S : St s₀ [] L l (a1 ++ (pre ++ X)) s) : ∀ p ∈ a1 ++ X, p.1 ∉ pre.map (·.1) ++ [L] := fun p hp hb => by
  have nd := S.nd
  rw [List.map_append, List.map_append, List.nodup_append, List.nodup_append] at nd
  have hne : p.1 ≠ L := S.ne p (by
    rcases List.mem_append.mp hp with h | h
    · exact List.mem_append_left _ h
    · exact List.mem_append_right _ (List.mem_append_right _ h))
  rcases List.mem_append.mp hb with hb | hb
  · rcases List.mem_append.mp hp with h | h
    · exact nd.2.2 _ (List.mem_map_of_mem (f := (·.1)) h) _ (List.mem_append_left _ hb) rfl
    · exact nd.2.1.2.2 _ hb _ (List.mem_map_of_mem (f := (·.1)) h) rfl
  · exact hne (List.mem_singleton.mp hb)
theorem St.frame (S : St s₀ W L l led s) : ∃ o, s.heap.get? L = some o ∧ ∀ vs, o.data ≠ .fields vs := by
  obtain ⟨m, ⟨o, es, ep, e, hd, _⟩, _⟩ := S.loc
  exact ⟨o, e, fun vs h => by rw [hd] at h; cases h⟩
theorem GW.off (G : GW w mg mb s₀ []) (S : St s₀ [] L l led s) (h0 : ∀ b ∈ W', s₀.heap.get? b = none) : GW w mg mb s W' := fun h' hk => G h' fun b o e _ => hk b o (S.keep b o e (by simp)) fun hb => by rw [h0 b hb] at e; cases e
end
end
section
section
variable {prog : Program} {w : World} {A : Around} {E : Value → Shared → Prop} {s : Shared} {mg mb : Str → Option Value}
noncomputable abbrev nsL1 (k : Nat) (tk : Tok) (itv : Value) : List (Str × Value) := [(Str.ofString "n", .int (k : Int) tk), (Str.ofString "iterable", itv)]
noncomputable abbrev nsL2 (tk : Tok) (itv : Value) (I : Addr) : List (Str × Value) := [(Str.ofString "n", .int ((1 : Nat) : Int) tk), (Str.ofString "iterable", itv), (Str.ofString "it", .ref I)]
noncomputable abbrev nsD1 (I : Addr) (Sp : Addr) (L0 : Addr) (o0 : Obj) (L : Addr) (kf : Addr) : List (Addr × Kn) := [(I, litK Sp 0), (L0, slotK o0), (L + 1, cellK (.ref kf))]
noncomputable abbrev nsL3 (k : Nat) (tk : Tok) (itv : Value) (I : Addr) : List (Str × Value) := [(Str.ofString "n", .int (k : Int) tk), (Str.ofString "iterable", itv), (Str.ofString "it", .ref I)]
noncomputable abbrev nsL4 (k : Nat) (tk : Tok) (itv : Value) (I : Addr) (D : Addr) : List (Str × Value) := [(Str.ofString "n", .int (k : Int) tk), (Str.ofString "iterable", itv), (Str.ofString "it", .ref I), (Str.ofString "result", .ref D)]
noncomputable abbrev nsD2 (D : Addr) (ps : List P2) (I : Addr) (IK : Kn) (L0 : Addr) (o0 : Obj) (L : Addr) (kf : Addr) (tl : List (Addr × Kn)) : List (Addr × Kn) := ((D, .lst (ps.map (·.1))) :: (I, IK) :: (L0, slotK o0) :: (L + 1, cellK (.ref kf)) :: tl)
noncomputable abbrev nsL5 (k : Nat) (tk : Tok) (itv : Value) (I : Addr) (D : Addr) (x : P2) (tt : Tok) (ord : Int) (to : Tok) : List (Str × Value) := [(Str.ofString "n", .int (k : Int) tk), (Str.ofString "iterable", itv), (Str.ofString "it", .ref I), (Str.ofString "result", .ref D), (Str.ofString "top", .bytes x.2.k.toArray tt), (Str.ofString "order", .int ord to), (Str.ofString "_heapreplace", .ref 100)]
noncomputable abbrev nsD3 (D : Addr) (x : P2) (rest : List P2) (I : Addr) (IK : Kn) (L0 : Addr) (o0 : Obj) (L : Addr) (kf : Addr) (tl : List (Addr × Kn)) : List (Addr × Kn) := ((D, .lst ((x :: rest).map (·.1))) :: (I, IK) :: (L0, slotK o0) :: (L + 1, cellK (.ref kf)) :: tl)
noncomputable abbrev invPA1 := fun (s : Shared) (W : List Addr) (L : Addr) (tk : Tok) (itv : Value) (Sp : Addr) (L0 : Addr) (o0 : Obj) (kf : Addr) => (fun s' => ∃ I, St s W L (nsL2 tk itv I) (nsD1 I Sp L0 o0 L kf) s' : Shared → Prop)
noncomputable abbrev invPA2 := fun (s : Shared) (W : List Addr) (L : Addr) (k : Nat) (tk : Tok) (itv : Value) (ld : List (Addr × Kn)) (N : Nat) => (fun s' => St s W L (nsL1 k tk itv) ld s' ∧ (ld.length = 2 → k < N) : Shared → Prop)
noncomputable abbrev invPA3 := fun (s : Shared) (W : List Addr) (L : Addr) (k : Nat) (tk : Tok) (itv : Value) (ld : List (Addr × Kn)) => (fun s' => St s W L (nsL1 k tk itv) ld s' : Shared → Prop)
noncomputable abbrev invPA4 := fun (W : List Addr) (L0 : Addr) (s : Shared) (L : Addr) (k : Nat) (tk : Tok) (itv : Value) (Sp : Addr) (o0 : Obj) (kf : Addr) => (fun s' => ∃ I, (∀ a ∈ W, a = I ∨ a = L0) ∧ St s W L (nsL3 k tk itv I) (nsD1 I Sp L0 o0 L kf) s' : Shared → Prop)
noncomputable abbrev invPA5 := fun (s : Shared) (W : List Addr) (L : Addr) (k : Nat) (tk : Tok) (itv : Value) (I : Addr) (L0 : Addr) (o0 : Obj) (kf : Addr) (N : Nat) (ks : Nat → List UInt8) (Sp : Addr) => (fun s' => Ex4 fun (D : Addr) (ps : List P2) (tl : List (Addr × Kn)) (IK : Kn) => And4 (St s W L (nsL4 k tk itv I D) (nsD2 D ps I IK L0 o0 L kf tl) s') (TupIn tl ps) (ps.map (·.2) = (List.range (min k N)).map (kyOf false ks)) ((IK = litK Sp k ∧ k ≤ N ∨ IK = lixK ∧ N ≤ k)) : Shared → Prop)
noncomputable abbrev invPA6 := fun (s : Shared) (W : List Addr) (L : Addr) (k : Nat) (tk : Tok) (itv : Value) (I : Addr) (D : Addr) (L0 : Addr) (o0 : Obj) (kf : Addr) (f : Nat → Int) (ks : Nat → List UInt8) (N : Nat) (Sp : Addr) => (fun m s' => Ex8 fun (j : Nat) (x : P2) (rest : List P2) (tt : Tok) (ord : Int) (to : Tok) (tl : List (Addr × Kn)) (IK : Kn) => And7 (St s W L (nsL5 k tk itv I D x tt ord to) (nsD3 D x rest I IK L0 o0 L kf tl) s') (TupIn tl (x :: rest)) (HpF (fun a b : P2 => b.2.lt a.2) (x :: rest) 0) (KI false f ks ((x :: rest).map (·.2)) j (min k N) ord) (j + m = N) ((x :: rest).length = min k N) ((IK = litK Sp j ∨ (IK = lixK ∧ j = N))) : Nat → Shared → Prop)
theorem c_nsmallest {k : Nat} {tk : Tok} {Sp kf L0 : Addr} {o0 : Obj} {vs : List Value} {itv : Value} {W : List Addr} {ks : Nat → List UInt8} {N : Nat} {Q : Value → Shared → Prop} {n : Nat} {env0 : Env} (G : GW w mg mb s W) (hA : Ok A (n + 6))
    (hfr : A.frames = some [env0]) (hf0 : env0.frame = some L0) (hk0 : env0.scope.kind ≠ .module) (hL0 : s.heap.get? L0 = some o0) (hd0 : ∀ vs, o0.data ≠ .fields vs)
    (hkey : KeyOk prog w s W kf ks N) (hl : s.heap.IsList Sp vs.toArray) (hSp : Sp ∉ W) (hvs : IntsAre vs ((List.range N).map fun i : Nat => (i : Int))) (hN : 2 ≤ N ∧ N < 64) (hk100 : k ≤ 100) (hsrc : Src s Sp L0 itv W)
    {f : Nat → Int} (hf : ∀ i < N, ∀ j < N, ltB (ks i) (ks j) = decide (f i < f j))
    (h : ∀ D vs out s', Out s W [(D, .lst vs), (L0, slotK o0)] s' → (D ∈ W ∨ s.heap.get? D = none) → D ≠ L0 → IntsAre vs (out.map fun i : Nat => (i : Int)) → Sel f N k out → Q (.ref D) s') :
    wpAny (model prog w) A (call (.ref 141) [.int (k : Int) tk, itv] [(Str.ofString "key", .ref kf)]) Q E s := by
  refine fn_call1 (kx := Str.ofString "key") (kv := .ref kf) (lcl := [(Str.ofString "n", .int (k : Int) tk), (Str.ofString "iterable", itv)]) (binds := [(Str.ofString "n", .int (k : Int) tk), (Str.ofString "iterable", itv), (Str.ofString "key", .ref kf)]) (G _ fun _ _ e _ => e) hA rfl (by kernel_rfl!)
    (binds_K (G _ fun _ _ e _ => e).X rfl rfl rfl rfl rfl) (fun _ => by rfl) (by rfl) (by rfl) ?_ ?_
  · intro x v e
    exact look2 (by decide) e
  intro s₁ L S₁ _ hA₁
  have S2 : ∃ ld, St s W L (nsL1 k tk itv) ld s₁ ∧ ((itv = .ref Sp ∧ ld = [(L0, slotK o0), (L + 1, cellK (.ref kf))]) ∨ ∃ I, itv = .ref I ∧ ld = [(I, litK Sp 0), (L0, slotK o0), (L + 1, cellK (.ref kf))]) := by
    have Sa := S₁.addW hL0 (kn := slotK o0) ⟨o0.slots, rfl⟩ (by simp)
    cases hsrc with
    | list => exact ⟨_, Sa, .inl ⟨rfl, rfl⟩⟩
    | @iter I hi hne =>
      obtain ⟨o, ho, hq⟩ := hi
      exact ⟨_, Sa.addW (kn := litK Sp 0) ho hq (by simpa using hne), .inr ⟨I, rfl, rfl⟩⟩
  obtain ⟨ld, S2, hld⟩ := S2
  clear S₁
  refine wpAny_execs_cons ?_
  repeat' (walk_at "evM")
  have hNl : vs.length = N := by rw [hvs.length, List.length_map, List.length_range]
  by_cases hk1 : k = 1
  · subst hk1
    rw [show ((((1 : Nat) : Nat) : Int) == 1) = true from rfl]
    refine ift ?_
    refine x_then (invPA1 s W L tk itv Sp L0 o0 kf) ?_ ?_
    · refine PostFor.intro fun Qt hQt => ?_
      rcases hld with ⟨rfl, rfl⟩ | ⟨I, rfl, rfl⟩
      · repeat' (walk_at "evU")
        refine c_iter (it_list (by assumption) (St.list (by assumption) hl hSp) ?_)
        intro I s5 S5 _
        repeat' (walk_at "evU")
        exact ⟨I, by assumption⟩
      · repeat' (walk_at "evU")
        refine c_iter (it_lit (by assumption) (.head _) ?_)
        repeat' (walk_at "evU")
        exact ⟨I, by assumption⟩
    rintro s4 ⟨I, S5⟩
    clear S2 hld
    repeat' (walk_at "evU")
    refine cw_ty0 ?_
    refine c_object S5 ?_
    intro O s6 S6
    have S7 := S6.drop
    repeat' (walk_at "evU")
    refine c_min (hA₁.le (by walk_at "lia")) hkey (fun led s S => S.list hl hSp) hvs hf (by walk_at "lia") (by assumption) ?_
    intro i ti s8 hsel S8
    rw [sg_false] at hsel
    repeat' (walk_at "evU")
    refine op_is_int_ref ?_
    repeat' (walk_at "evU")
    refine e_list ?_
    repeat' (walk_at "evU")
    refine ⟨_, _, _, _, _, by assumption, by simp, fun D s9 S9 => ?_⟩
    repeat' (walk_at "evU")
    refine h D [.int (i : Int) ti] [i] s9 (Out.sub (St.toOut S9) ?_) (S9.fr _ (.head _)) (S9.two (.tail _ (.head _))) (.cons _ _ .nil) hsel
    intro q hq
    rcases List.mem_cons.mp hq with rfl | hq
    · exact .head _
    · rw [List.mem_singleton.mp hq]; exact .tail _ (.tail _ (.head _))
  rw [show (((k : Nat) : Int) == 1) = false from by simpa using fun h : (k : Int) = 1 => hk1 (by walk_at "lia")]
  refine iff' ?_
  refine wpAny_execs_nil ?_
  dsimp only
  refine x_then (invPA2 s W L k tk itv ld N) ?_ ?_
  · refine PostFor.intro fun Qt hQt => ?_
    rcases hld with ⟨rfl, rfl⟩ | ⟨I, rfl, rfl⟩
    · refine x_try ?_
      intro E'
      repeat' (walk_at "evM")
      refine len_base (by assumption) (St.list (by assumption) hl hSp) (by walk_at "lia") ?_
      intro t4 s4 S4
      repeat' (walk_at "evM")
      by_cases hkN : k < N
      · rw [show decide ((k : Int) ≥ (vs.length : Int)) = false from by simp; walk_at "lia"]
        repeat' (walk_at "evM")
        exact ⟨St.pre (l := [_, _]) (by assumption), fun _ => hkN⟩
      · rw [show decide ((k : Int) ≥ (vs.length : Int)) = true from by simp; walk_at "lia"]
        repeat' (walk_at "evU")
        refine c_sorted_key (b := false) (by assumption) (St.list (by assumption) hl hSp) (.inl ⟨rfl, rfl⟩) (by walk_at "lia") (by walk_at "lia") (hA₁.le (by walk_at "lia")) hkey (ints_at hvs) (by rw [hNl]; exact hf) ?_
        intro D p s5 hp hpw S5
        refine sl_upto ?_
        repeat' (walk_at "evU")
        refine ⟨k, tk, _, _, _, _, _, _, rfl, S5, S5.isList (.head _), ?_, fun D' s6 S6 => ?_⟩
        · rw [List.length_map, hp.length_eq, List.length_range]; walk_at "lia"
        rw [hNl] at hp
        have hsel : Sel f N k (p.take k) := Sel.of_sorted (by rw [← sg_false (f := f)]; exact hpw) hp
        repeat' (walk_at "evW")
        refine h D' ((p.map fun i => vs.getD i .none).take k) (p.take k) s6 (S6.toOut.sub fun q hq => ?_) (S6.fr _ (.head _)) (S6.two) (by rw [← List.map_take]; exact ints_pick hvs hsel.mem) hsel
        · rcases List.mem_cons.mp hq with rfl | hq
          · exact .head _
          · rw [List.mem_singleton.mp hq]; exact .tail _ (.tail _ (.head _))
    · refine wpAny_Try_except ?_
      repeat' (walk_at "evU")
      refine c_len_iter (ax := Sp) (i := 0) hA₁.h (by assumption) (by exact List.mem_cons_self) ?_
      intro e s3 S3
      have S3 := S3.perm (led' := (e, exc0K "TypeError") :: (L0, slotK o0) :: (I, litK Sp 0) :: [(L + 1, cellK (.ref kf))]) (List.Perm.cons _ (List.Perm.swap _ _ _))
      refine note_St S3 (by show (A.deeper _).frames = _; rw [show (A.deeper _).frames = A.frames.map (_ :: ·) from rfl, hfr]; rfl) rfl hf0 (fun q => nomatch q) hk0 hd0 ?_
      intro tb s4 S4
      refine flight_St S4 (by walk_at "mem") (.head _) .here ?_
      intro s5 S5
      refine wpAny_handleBy_tup2 te1 te2 te3 te4 te5 te6 ?_
      refine e_tuple ?_
      repeat' (walk_at "evU")
      refine ⟨_, _, _, _, _, S5, by simp, fun T s6 S6 => ?_⟩
      refine ⟨T, rfl, S6.tupO (.head _), ?_, ?_⟩
      · obtain ⟨o, ho, hc, _⟩ := S6.kn (.tail _ (.tail _ (.head _)))
        exact ⟨o, ho, hc⟩
      rw [if_pos (by rfl)]
      refine flight_St S6 (.tail _ (.tail _ (.head _))) (.tail _ (.head _)) (.there .here) ?_
      intro s7 S7
      repeat' (walk_at "evU")
      refine wpAny_Pass ?_
      repeat' (walk_at "evU")
      exact ⟨S7.drop.drop.drop.perm (List.Perm.swap _ _ _), fun q => by cases q⟩
  rintro s2 ⟨S3, hkN⟩
  clear S2
  refine x_then (invPA3 s W L k tk itv ld) ?_ ?_
  · refine PostFor.intro fun Qt hQt => ?_
    rcases hld with ⟨rfl, rfl⟩ | ⟨I, rfl, rfl⟩
    · repeat' (walk_at "evU")
      assumption
    · repeat' (walk_at "evU")
      assumption
  intro s3 S4
  clear S3
  refine x_then (invPA4 W L0 s L k tk itv Sp o0 kf) ?_ ?_
  · refine PostFor.intro fun Qt hQt => ?_
    rcases hld with ⟨rfl, rfl⟩ | ⟨I, rfl, rfl⟩
    · repeat' (walk_at "evU")
      refine c_iter (it_list (by assumption) (St.list (by assumption) hl hSp) ?_)
      intro I s5 S5 _
      repeat' (walk_at "evU")
      refine ⟨I, ?_, by assumption⟩
      intro a ha
      cases hsrc with
      | list => exact .inr (List.mem_singleton.mp ha)
      | iter _ _ => exact absurd (.head _) hSp
    · repeat' (walk_at "evU")
      refine c_iter (it_lit (by assumption) (.head _) ?_)
      repeat' (walk_at "evU")
      refine ⟨I, ?_, by assumption⟩
      intro a ha
      cases hsrc with
      | list => exact .inr (List.mem_singleton.mp ha)
      | iter _ _ => exact (List.mem_cons.mp ha).imp id fun h => List.mem_singleton.mp h
  rintro s4 ⟨I, hWI, S5⟩
  clear S4 hld
  refine x_then (invPA5 s W L k tk itv I L0 o0 kf N ks Sp) ?_ ?_
  · refine PostFor.intro fun Qt hQt => ?_
    refine x_assign_comp rfl (fun _ => rfl) rfl (by decide) rfl (by decide) rfl rfl ?_
    repeat' (walk_at "evU")
    refine c_range1 (by assumption) ?_
    intro r t0 t1 s6 S6
    repeat' (walk_at "evU")
    refine c_zip_rl S6 (.head _) (.tail _ (.head _)) (range_small_up hk100) ?_
    intro z TI TO i1 s7 S7
    rw [range_size_up] at S7
    repeat' (walk_at "evU")
    refine it_zip S7 (.head _) ?_
    have S8 := S7.perm (led' := [(z, zK TI TO .none), (TO, pK), (TI, .ob (pairO (.ref i1) (.ref I))), (i1, .ob (ritO 0 (k : Int) 1)), (I, litK Sp 0)] ++ [(r, .ob (rangeO 0 (k : Int) 1 t0 tk t1)), (L0, slotK o0), (L + 1, cellK (.ref kf))])
      (by simp only [List.cons_append, List.nil_append]; exact .cons _ (.cons _ (.cons _ (.cons _ (.swap ..)))))
    clear S7
    have hkC := hkey.comp S8
    have hlC := fun C => S8.listC (C := C) hl hSp
    have hcC := fun C => S8.cellC (C := C) (c := L + 1) (v := .ref kf) (by simp)
    refine ⟨s, W, L, _, _, _, fun m ys lw' lc s' => Ex3 fun (i : Nat) (tl : List (Addr × Kn)) (ps : List P2) => And5 (lw' = (z, zK TI TO .none) :: (TO, pK) :: (TI, .ob (pairO (.ref i1) (.ref I))) :: (i1, .ob (ritO (i : Int) ((k : Int) - (i : Int)) 1)) :: (I, litK Sp i) :: tl) (i + m = min k N) (ys = ps.map (·.1)) (TupIn tl ps) (ps.map (·.2) = (List.range i).map (kyOf false ks)),
      fun ys lw' s' => Ex3 fun (IK : Kn) (tl : List (Addr × Kn)) (ps : List P2) => And5 (lw' = (I, IK) :: tl) ((IK = litK Sp k ∧ k ≤ N ∨ IK = lixK ∧ N ≤ k)) (ys = ps.map (·.1)) (TupIn tl ps) (ps.map (·.2) = (List.range (min k N)).map (kyOf false ks)), min k N, S8, ?_, ?_, ?_, ?_, ?_, ?_⟩
    · intro a ha
      rcases hWI a ha with rfl | rfl
      · obtain ⟨o, ho, _⟩ := S8.kn (I := a) (kn := litK Sp 0) (by simp)
        exact ⟨o, ho⟩
      · obtain ⟨o, ho, _⟩ := S8.kn (I := a) (kn := slotK o0) (by simp)
        exact ⟨o, ho⟩
    · intro s' _
      exact ⟨0, [], [], by simp, by simp, rfl, TupIn.nil, rfl⟩
    · intro C D s' Q₁ E'' SC hq
      exact it_zip SC (.tail _ (.head _)) hq
    · rintro C D m s' E'' lc ys lw' SC ⟨i, tl, ps, hlw, him, hys, hti, hpk⟩
      rw [hlw, hys] at SC
      clear hlw hys
      rcases m with _ | m
      · by_cases hkN' : k ≤ N
        · obtain rfl : k = i := by walk_at "lia"
          have SC := SC.perm (led' := (z, zK TI TO .none) :: (TO, pK) :: (TI, .ob (pairO (.ref i1) (.ref I))) :: (i1, .ob (ritO (k : Int) ((k : Int) - (k : Int)) 1)) :: (D, .lst (ps.map (·.1))) :: (I, litK Sp k) :: tl) mid4
          refine nx_zip_end1 hA₁.h SC (.head _) .here (nextE_range (by walk_at "lia")) ?_
          intro s9 S9
          exact ⟨lc, _, _, S9, _, tl, ps, rfl, .inl ⟨rfl, hkN'⟩, rfl, hti, by rw [hpk, Nat.min_eq_left hkN']⟩
        · obtain rfl : N = i := by walk_at "lia"
          have SC := SC.perm (led' := (z, zK TI TO .none) :: (TO, pK) :: (TI, .ob (pairO (.ref i1) (.ref I))) :: (i1, .ob (ritO (N : Int) ((k : Int) - (N : Int)) 1)) :: (D, .lst (ps.map (·.1))) :: (I, litK Sp N) :: tl) mid4
          refine nx_zip_end2X hA₁.h SC .here (.there (.there .here)) (nextR_range (by walk_at "lia")) (nextX_list (fun led s => hlC _ lc led s) (by rw [List.getElem?_eq_none]; walk_at "lia")) ?_
          intro s9 S9
          exact ⟨lc, _, _, S9.drop, _, tl, ps, rfl, .inr ⟨rfl, by walk_at "lia"⟩, rfl, hti, by rw [hpk, Nat.min_eq_right (by walk_at "lia")]⟩
      · have hi : i < N := by walk_at "lia"
        have SC := SC.perm (led' := (z, zK TI TO .none) :: (TO, pK) :: (TI, .ob (pairO (.ref i1) (.ref I))) :: (i1, .ob (ritO (i : Int) ((k : Int) - (i : Int)) 1)) :: (D, .lst (ps.map (·.1))) :: (I, litK Sp i) :: tl) mid4
        obtain ⟨_, tv, htv⟩ := ints_at hvs i (by walk_at "lia")
        refine nx_zip SC .here (.there (.there .here)) (nextR_range (by walk_at "lia")) (nextR_list (fun led s => hlC _ lc led s) htv) ?_
        rintro T x y s9 ⟨tx, rfl⟩ rfl hgo
        refine hgo _ _ _ _ _ fun s10 S10 => ?_
        have S10 := S10.noloc
        clear hgo SC
        refine asg_tup2 S10 hA₁.h (S10.tupO (.head _)) (by walk_at "sets") (by walk_at "sets") ?_ rfl rfl rfl rfl
        intro s11 S11
        refine tests0 ?_
        refine ift ?_
        refine e_tuple ?_
        repeat' (walk_at "evU")
        refine evE_cell (c := L + 1) rfl (hcC C _ _ _ S11) ?_ rfl rfl (by decide)
        refine cw_key hkC.fn hkC.off rfl ?_
        repeat' (walk_at "evU")
        refine hkC.call _ _ _ i tv _ (Out.keep (St.toOut (by assumption))) (hA₁.le (by walk_at "lia")) hi ?_
        intro t12 s12 O12
        have S12 := St.out (by assumption) O12
        clear O12 S11
        repeat' (walk_at "evU")
        refine ⟨_, _, _, _, _, S12, by simp, fun T2 s13 S13 => ?_⟩
        refine c_append S13 (.there (.there (.there (.there (.there (.there .here)))))) (by
          have := congrArg List.length hpk
          simp only [List.length_map, List.length_range] at this ⊢
          walk_at "lia") ?_
        intro s14 S14
        have S15 := S14.subled (.cons_cons _ (List.sublist_cons_self ..))
        have S16 := S15.perm (mid6.trans (mid4.symm.cons _))
        clear S14 S15 S13
        refine ⟨m, _, _, _, by walk_at "lia", S16, i + 1, _, ps ++ [(.ref T2, kyOf false ks i)], ?_, by walk_at "lia", by simp, hti.snoc (T := T2) (y := kyOf false ks i) (t1 := t12) (t2 := tx) (t3 := tv), by rw [List.map_append, hpk, List.range_succ, List.map_append]; rfl⟩
        rw [show ((i + 1 : Nat) : Int) = (i : Int) + 1 by walk_at "lia", show (k : Int) - ((i : Int) + 1) = (k : Int) - (i : Int) - 1 by walk_at "lia"]
        rfl
    · rintro ys lw s' s'' hF _
      exact hF
    · rintro D ys lw' s' ⟨IK, tl, ps, rfl, hIK, rfl, hti, hpk⟩ SD
      refine ⟨rfl, _, by walk_at "sets", fun s'' S9 => ?_⟩
      have S10 := S9.perm (led' := (D, .lst (ps.map (·.1))) :: (I, IK) :: (r, .ob (rangeO 0 (k : Int) 1 t0 tk t1)) :: (L0, slotK o0) :: (L + 1, cellK (.ref kf)) :: tl)
        (((List.perm_append_comm (l₁ := [(r, .ob (rangeO 0 (k : Int) 1 t0 tk t1)), (L0, slotK o0), (L + 1, cellK (.ref kf))]) (l₂ := tl)).cons _).cons _)
      refine post_use hQt (PN.next ?_)
      exact ⟨D, ps, tl, IK, S10.subled (.cons_cons _ (.cons_cons _ (List.sublist_cons_self ..))), hti, hpk, hIK⟩
  rintro s5 ⟨D, ps, tl, IK, S6, hti, hpk, hIK⟩
  clear S5
  have hpl : ps.length = min k N := by
    have := congrArg List.length hpk
    simpa only [List.length_map, List.length_range] using this
  refine wpAny_execs_cons ?_
  repeat' (walk_at "evU")
  refine t_lst S6 (.head _) (by simp only [List.length_map]; walk_at "lia") ?_
  intro s6 S7
  rw [List.length_map, hpl]
  clear S6
  by_cases hk0' : k = 0
  · rw [show decide (min k N ≠ 0) = false from by subst hk0'; simp, Bool.not_false]
    refine ift ?_
    repeat' (walk_at "evU")
    have hps0 : ps = [] := List.length_eq_zero_iff.mp (by rw [hpl, hk0']; simp)
    subst hps0
    refine h D _ [] _ (Out.sub (St.toOut S7) ?_) (S7.fr _ (.head _)) S7.two .nil ⟨List.Pairwise.nil, (fun _ q => nomatch q), (by rw [hk0']; simp), fun _ q => nomatch q⟩
    intro q hq
    rcases List.mem_cons.mp hq with rfl | hq
    · exact .head _
    · rw [List.mem_singleton.mp hq]; exact .tail _ (.tail _ (.head _))
  rw [show decide (min k N ≠ 0) = true from by simp; walk_at "lia", Bool.not_true]
  refine iff' ?_
  repeat' (walk_at "evU")
  have S8 := ‹St s W L _ ((D, _) :: _) _›
  refine c_heapify_max (ps := ps) (G.led1 S8 (.head _)) hA₁ (S8.led1 (.head _)) (hti.isKs S8 fun p hp => .tail _ (.tail _ (.tail _ (.tail _ hp)))) (by walk_at "lia") ?_
  intro s9 O9
  have S9 := S8.called .here O9
  clear S8 O9
  obtain ⟨hhp, hpm⟩ := heapify_ok ord_max ps
  generalize hpf (fun p x => p.2.lt x.2) (fun a b => !(b.2.lt a.2)) (ps.length / 2) ps = ps2 at S9 hhp hpm
  have hti2 := hti.sub (ps' := ps2) fun p hp => hpm.mem_iff.mp hp
  have hpl2 : ps2.length = min k N := by rw [hpm.length_eq, hpl]
  have hKI : KI false f ks (ps2.map (·.2)) (min k N) (min k N) (ordOf false (min k N)) := (KI.start (f := f) (ks := ks) (b := false) (min k N)).perm (by rw [← hpk]; exact hpm.map _)
  clear hpm hti hpk hpl
  obtain ⟨x, rest, rfl⟩ : ∃ x rest, ps2 = x :: rest := by
    cases ps2 with
    | nil => simp at hpl2; walk_at "lia"
    | cons x rest => exact ⟨x, rest, rfl⟩
  obtain ⟨Tx, u1, u2, u3, hx1, hxm⟩ := hti2 x (.head _)
  repeat' (walk_at "evU")
  refine sub_lst (k := 0) (by assumption) (.head _) (by decide) (by decide) (show _ = some x.1 from rfl) (by with_unfolding_all rfl) (by intro _; with_unfolding_all rfl) ?_
  repeat' (walk_at "evU")
  rw [hx1]
  refine item_tup0 (St.tupO (by assumption) (.tail _ (.tail _ (.tail _ (.tail _ hxm))))) (x := .bytes x.2.k.toArray u1) rfl ?_
  repeat' (walk_at "evU")
  have hIK2 : IK = litK Sp (min k N) ∨ (IK = lixK ∧ min k N = N) := by
    rcases hIK with ⟨e, hh⟩ | ⟨e, hh⟩
    · exact .inl (by rw [Nat.min_eq_left hh]; exact e)
    · exact .inr ⟨e, Nat.min_eq_right hh⟩
  refine it_any (by assumption) (.tail _ (.head _)) (hIK2.imp id And.left) ?_
  have S10 := ‹St s W L [(Str.ofString "n", _), (Str.ofString "iterable", _), (Str.ofString "it", _), (Str.ofString "result", _), (Str.ofString "top", _), (Str.ofString "order", _), (Str.ofString "_heapreplace", _)] _ _›
  refine for_loop (fun _ => rfl) (invPA6 s W L k tk itv I D L0 o0 kf f ks N Sp)
    (N - min k N) ⟨min k N, x, rest, u1, (k : Int), tk, tl, IK, S10, hti2, hhp, hKI.ordle (by simp only [Bool.false_eq_true, if_false, ordOf]; walk_at "lia"), by walk_at "lia", hpl2, hIK2⟩ ?_
  clear S10
  rintro m s' E' ⟨j, x, rest, tt, ord, to, tl, IK, S11, hti, hhp, hKI, hjm, hpl, hIK⟩
  refine PostFor.intro fun Qb hQb => ?_
  rcases m with _ | m
  · refine nx_end (i := j) hA₁.h S11 (S11.list hl hSp) (by rw [List.getElem?_eq_none]; walk_at "lia") (hIK.imp id And.left) ?_
    intro s12 S12
    clear S11
    obtain rfl : j = N := by walk_at "lia"
    repeat' (walk_at "evW")
    have hIK12 := hti.isKs S12 fun p hp => .tail _ (.tail _ (.tail _ (.tail _ hp)))
    obtain ⟨n12, hD12⟩ := S12.led1 (.head _)
    refine c_lsort (b := false) S12 (.inl ⟨rfl, rfl⟩) (fun out => .here) (by rw [List.length_map]; walk_at "lia") (by rw [List.length_map]; walk_at "lia") (srt_ky (ps := x :: rest) (by simp)) (fun s' hk => hIK12.offl hD12 hk) ?_
    intro p s13 hp hpw S13 _
    have hp : p.Perm (List.range (x :: rest).length) := by rw [List.length_map] at hp; exact hp
    obtain ⟨hsel, hse⟩ := hKI.selP hf (Nat.min_le_right _ _) hp hpw
    rw [sg_false] at hsel
    clear hpw S12 hIK12
    repeat' (walk_at "evW")
    refine e_pick3 hA₁.h (fun _ => rfl) rfl (by decide) rfl (by decide) (by decide) (by decide) (by decide) (by decide) (fun _ => rfl) (fun _ => rfl) (fun _ => rfl) (fun _ => rfl) ?_
    repeat' (walk_at "evW")
    refine ⟨s, W, L, _, _, D, x :: rest, p, tl, rfl, S13, ?_, hti, fun q hq => .tail _ (.tail _ (.tail _ hq)), fun i hi => List.mem_range.mp (hp.mem_iff.mp hi), by rw [hp.length_eq, List.length_range]; walk_at "lia", ?_⟩
    · intro a ha
      rcases hWI a ha with rfl | rfl
      · exact ⟨_, .head _, rfl⟩
      · exact ⟨_, .tail _ (.head _), rfl⟩
    · intro D' ys s14 hys S14
      repeat' (walk_at "evW")
      refine h D' ys _ s14 (Out.sub (St.toOut S14) ?_) (S14.fr _ (.head _)) (S14.two (.tail _ (.tail _ (.head _)))) (by rw [hse] at hys; exact hys) ⟨hsel.sorted, hsel.mem, by rw [hsel.len]; walk_at "lia", hsel.least⟩
      intro q hq
      rcases List.mem_cons.mp hq with rfl | hq
      · exact .head _
      · rw [List.mem_singleton.mp hq]; exact .tail _ (.tail _ (.tail _ (.head _)))
  · have hj : j < N := by walk_at "lia"
    have hIK : IK = litK Sp j := hIK.resolve_right fun q => by walk_at "lia"
    subst hIK
    obtain ⟨_, tv, htv⟩ := ints_at hvs j (by walk_at "lia")
    refine nx_lit S11 (.there .here) (S11.list hl hSp) htv ?_
    intro s12 S12
    clear S11
    repeat' (walk_at "evU")
    refine cw_key hkey.fn hkey.off rfl ?_
    repeat' (walk_at "evU")
    refine hkey.call _ _ _ j tv _ (Out.keep (St.toOut (by assumption))) (hA₁.le (by walk_at "lia")) hj ?_
    intro t13 s13 O13
    have S13 := St.out (by assumption) O13
    clear O13 S12
    repeat' (walk_at "evU")
    refine op_lt_bytes ?_
    repeat' (walk_at "evU")
    cases hlt : ltB (ks j) x.2.k
    · refine iff' ?_
      repeat' (walk_at "evU")
      exact ⟨m, by walk_at "lia", j + 1, x, rest, tt, ord, to, tl, _, St.pre (l := [_, _, _, _, _, _, _]) (r := [_, _]) (by assumption), hti, hhp, hKI.stay hf hj (.head _) (KI.root (b := false) ord_max hhp) (by simpa using hlt), by walk_at "lia", hpl, .inl rfl⟩
    · refine ift ?_
      repeat' (walk_at "evU")
      refine e_tuple ?_
      repeat' (walk_at "evU")
      refine ⟨_, _, _, _, _, by assumption, by simp, fun T s14 S14 => ?_⟩
      clear S13
      repeat' (walk_at "evU")
      refine c_heapreplace_max (x := x) (y := (.ref T, ⟨ks j, ord, (j : Int)⟩)) (ps := x :: rest) (G.led1 S14 (.tail _ (.head _))) hA₁ (S14.led1 (.tail _ (.head _))) (hti.isKs S14 fun p hp => .tail _ (.tail _ (.tail _ (.tail _ (.tail _ hp))))) (by walk_at "lia") rfl ⟨T, _, _, _, rfl, S14.tupO (.head _)⟩ ?_
      intro s15 O15
      have S15 := S14.called (.there .here) O15
      clear O15
      obtain ⟨hhp2, hpm2⟩ := replace_ok ord_max hhp (y := (.ref T, ⟨ks j, ord, (j : Int)⟩)) (by simp)
      have hKI2 := (hKI.take hf hj (KI.root (b := false) ord_max hhp) (by simpa using hlt)).perm (kl' := (siftup (fun p x => p.2.lt x.2) (fun a b => !(b.2.lt a.2)) (.ref T, ⟨ks j, ord, (j : Int)⟩) ((x :: rest).set 0 (.ref T, ⟨ks j, ord, (j : Int)⟩)) 0).map (·.2)) (hpm2.map (·.2))
      have hti2 : TupIn ((T, Kn.ob (kyO ⟨ks j, ord, (j : Int)⟩ t13 to tv)) :: tl) (siftup (fun p x => p.2.lt x.2) (fun a b => !(b.2.lt a.2)) (.ref T, ⟨ks j, ord, (j : Int)⟩) ((x :: rest).set 0 (.ref T, ⟨ks j, ord, (j : Int)⟩)) 0) :=
        ((hti.sub (ps' := rest) fun p hp => .tail _ hp).snoc (T := T) (y := ⟨ks j, ord, (j : Int)⟩) (t1 := t13) (t2 := to) (t3 := tv)).sub fun p hp => by
          rcases List.mem_cons.mp (hpm2.mem_iff.mp hp) with rfl | hp
          · exact List.mem_append_right _ (.head _)
          · exact List.mem_append_left _ hp
      have hpl2 := hpm2.length_eq
      generalize siftup (fun p x => p.2.lt x.2) (fun a b => !(b.2.lt a.2)) (.ref T, ⟨ks j, ord, (j : Int)⟩) ((x :: rest).set 0 (.ref T, ⟨ks j, ord, (j : Int)⟩)) 0 = ps3 at S15 hhp2 hKI2 hti2 hpl2
      rw [List.length_set, hpl] at hpl2
      obtain ⟨x3, rest3, rfl⟩ : ∃ x rest, ps3 = x :: rest := by
        cases ps3 with
        | nil => simp at hpl2; walk_at "lia"
        | cons x rest => exact ⟨x, rest, rfl⟩
      obtain ⟨T3, v1, v2, v3, hx3, hm3⟩ := hti2 x3 (.head _)
      have S16 := S15.perm mid4
      clear S15 S14
      repeat' (walk_at "evW")
      refine sub_lst (k := 0) (by assumption) (.head _) (by decide) (by decide) (show _ = some x3.1 from rfl) (by with_unfolding_all rfl) (by intro _; with_unfolding_all rfl) ?_
      rw [hx3]
      refine asg_tup3 (by assumption) hA₁.h (St.tupO (by assumption) (.tail _ (.tail _ (.tail _ (.tail _ hm3))))) (by walk_at "sets") (by walk_at "sets") (by walk_at "sets") ?_ rfl rfl rfl rfl rfl
      intro s17 S17
      repeat' (walk_at "evW")
      refine ldn_loc (by assumption) rfl ?_ rfl rfl
      repeat' (walk_at "evW")
      refine op_iadd (by assumption) ?_
      intro t18 s18 S18
      repeat' (walk_at "evW")
      exact ⟨m, by walk_at "lia", j + 1, x3, rest3, v1, ord + 1, t18, _, _, St.pre (l := [_, _, _, _, _, _, _]) (r := [_, _, _, _]) (by assumption), hti2, hhp2, hKI2, by walk_at "lia", hpl2, .inl rfl⟩
end
end
section
section
variable {prog : Program} {w : World} {A : Around} {E : Value → Shared → Prop} {s : Shared} {mg mb : Str → Option Value}
noncomputable abbrev nsL6 (k : Nat) (tk : Tok) (itv : Value) (I : Addr) (D : Addr) (x : P2) (tt : Tok) (ord : Int) (to : Tok) : List (Str × Value) := [(Str.ofString "n", .int (k : Int) tk), (Str.ofString "iterable", itv), (Str.ofString "it", .ref I), (Str.ofString "result", .ref D), (Str.ofString "top", .bytes x.2.k.toArray tt), (Str.ofString "order", .int ord to), (Str.ofString "_heapreplace", .ref 86)]
noncomputable abbrev invPB1 := fun (s : Shared) (W : List Addr) (L : Addr) (tk : Tok) (itv : Value) (Sp : Addr) (L0 : Addr) (o0 : Obj) (kf : Addr) => (fun s' => ∃ I, St s W L (nsL2 tk itv I) (nsD1 I Sp L0 o0 L kf) s' : Shared → Prop)
noncomputable abbrev invPB2 := fun (s : Shared) (W : List Addr) (L : Addr) (k : Nat) (tk : Tok) (itv : Value) (ld : List (Addr × Kn)) (N : Nat) => (fun s' => St s W L (nsL1 k tk itv) ld s' ∧ (ld.length = 2 → k < N) : Shared → Prop)
noncomputable abbrev invPB3 := fun (s : Shared) (W : List Addr) (L : Addr) (k : Nat) (tk : Tok) (itv : Value) (ld : List (Addr × Kn)) => (fun s' => St s W L (nsL1 k tk itv) ld s' : Shared → Prop)
noncomputable abbrev invPB4 := fun (W : List Addr) (L0 : Addr) (s : Shared) (L : Addr) (k : Nat) (tk : Tok) (itv : Value) (Sp : Addr) (o0 : Obj) (kf : Addr) => (fun s' => ∃ I, (∀ a ∈ W, a = I ∨ a = L0) ∧ St s W L (nsL3 k tk itv I) (nsD1 I Sp L0 o0 L kf) s' : Shared → Prop)
noncomputable abbrev invPB5 := fun (s : Shared) (W : List Addr) (L : Addr) (k : Nat) (tk : Tok) (itv : Value) (I : Addr) (L0 : Addr) (o0 : Obj) (kf : Addr) (N : Nat) (ks : Nat → List UInt8) (Sp : Addr) => (fun s' => Ex4 fun (D : Addr) (ps : List P2) (tl : List (Addr × Kn)) (IK : Kn) => And4 (St s W L (nsL4 k tk itv I D) (nsD2 D ps I IK L0 o0 L kf tl) s') (TupIn tl ps) (ps.map (·.2) = (List.range (min k N)).map (kyOf true ks)) ((IK = litK Sp k ∧ k ≤ N ∨ IK = lixK ∧ N ≤ k)) : Shared → Prop)
noncomputable abbrev invPB6 := fun (s : Shared) (W : List Addr) (L : Addr) (k : Nat) (tk : Tok) (itv : Value) (I : Addr) (D : Addr) (L0 : Addr) (o0 : Obj) (kf : Addr) (f : Nat → Int) (ks : Nat → List UInt8) (N : Nat) (Sp : Addr) => (fun m s' => Ex8 fun (j : Nat) (x : P2) (rest : List P2) (tt : Tok) (ord : Int) (to : Tok) (tl : List (Addr × Kn)) (IK : Kn) => And7 (St s W L (nsL6 k tk itv I D x tt ord to) (nsD3 D x rest I IK L0 o0 L kf tl) s') (TupIn tl (x :: rest)) (HpF (fun a b : P2 => a.2.lt b.2) (x :: rest) 0) (KI true f ks ((x :: rest).map (·.2)) j (min k N) ord) (j + m = N) ((x :: rest).length = min k N) ((IK = litK Sp j ∨ (IK = lixK ∧ j = N))) : Nat → Shared → Prop)
theorem c_nlargest {k : Nat} {tk : Tok} {Sp kf L0 : Addr} {o0 : Obj} {vs : List Value} {itv : Value} {W : List Addr} {ks : Nat → List UInt8} {N : Nat} {Q : Value → Shared → Prop} {n : Nat} {env0 : Env} (G : GW w mg mb s W) (hA : Ok A (n + 6))
    (hfr : A.frames = some [env0]) (hf0 : env0.frame = some L0) (hk0 : env0.scope.kind ≠ .module) (hL0 : s.heap.get? L0 = some o0) (hd0 : ∀ vs, o0.data ≠ .fields vs)
    (hkey : KeyOk prog w s W kf ks N) (hl : s.heap.IsList Sp vs.toArray) (hSp : Sp ∉ W) (hvs : IntsAre vs ((List.range N).map fun i : Nat => (i : Int))) (hN : 2 ≤ N ∧ N < 64) (hk100 : k ≤ 100) (hsrc : Src s Sp L0 itv W)
    {f : Nat → Int} (hf : ∀ i < N, ∀ j < N, ltB (ks i) (ks j) = decide (f i < f j))
    (h : ∀ D vs out s', Out s W [(D, .lst vs), (L0, slotK o0)] s' → (D ∈ W ∨ s.heap.get? D = none) → D ≠ L0 → IntsAre vs (out.map fun i : Nat => (i : Int)) → Sel (sg true f) N k out → Q (.ref D) s') :
    wpAny (model prog w) A (call (.ref 147) [.int (k : Int) tk, itv] [(Str.ofString "key", .ref kf)]) Q E s := by
  refine fn_call1 (kx := Str.ofString "key") (kv := .ref kf) (lcl := [(Str.ofString "n", .int (k : Int) tk), (Str.ofString "iterable", itv)]) (binds := [(Str.ofString "n", .int (k : Int) tk), (Str.ofString "iterable", itv), (Str.ofString "key", .ref kf)]) (G _ fun _ _ e _ => e) hA rfl (by kernel_rfl!)
    (binds_K (G _ fun _ _ e _ => e).X rfl rfl rfl rfl rfl) (fun _ => by rfl) (by rfl) (by rfl) ?_ ?_
  · intro x v e
    exact look2 (by decide) e
  intro s₁ L S₁ _ hA₁
  have S2 : ∃ ld, St s W L (nsL1 k tk itv) ld s₁ ∧ ((itv = .ref Sp ∧ ld = [(L0, slotK o0), (L + 1, cellK (.ref kf))]) ∨ ∃ I, itv = .ref I ∧ ld = [(I, litK Sp 0), (L0, slotK o0), (L + 1, cellK (.ref kf))]) := by
    have Sa := S₁.addW hL0 (kn := slotK o0) ⟨o0.slots, rfl⟩ (by simp)
    cases hsrc with
    | list => exact ⟨_, Sa, .inl ⟨rfl, rfl⟩⟩
    | @iter I hi hne =>
      obtain ⟨o, ho, hq⟩ := hi
      exact ⟨_, Sa.addW (kn := litK Sp 0) ho hq (by simpa using hne), .inr ⟨I, rfl, rfl⟩⟩
  obtain ⟨ld, S2, hld⟩ := S2
  clear S₁
  refine wpAny_execs_cons ?_
  repeat' (walk_at "evM")
  have hNl : vs.length = N := by rw [hvs.length, List.length_map, List.length_range]
  by_cases hk1 : k = 1
  · subst hk1
    rw [show ((((1 : Nat) : Nat) : Int) == 1) = true from rfl]
    refine ift ?_
    refine x_then (invPB1 s W L tk itv Sp L0 o0 kf) ?_ ?_
    · refine PostFor.intro fun Qt hQt => ?_
      rcases hld with ⟨rfl, rfl⟩ | ⟨I, rfl, rfl⟩
      · repeat' (walk_at "evW")
        refine c_iter (it_list (by assumption) (St.list (by assumption) hl hSp) ?_)
        intro I s5 S5 _
        repeat' (walk_at "evW")
        exact ⟨I, by assumption⟩
      · repeat' (walk_at "evW")
        refine c_iter (it_lit (by assumption) (.head _) ?_)
        repeat' (walk_at "evW")
        exact ⟨I, by assumption⟩
    rintro s4 ⟨I, S5⟩
    clear S2 hld
    repeat' (walk_at "evW")
    refine cw_ty0 ?_
    refine c_object S5 ?_
    intro O s6 S6
    have S7 := S6.drop
    repeat' (walk_at "evW")
    refine c_max (hA₁.le (by walk_at "lia")) hkey (fun led s S => S.list hl hSp) hvs hf (by walk_at "lia") (by assumption) ?_
    intro i ti s8 hsel S8
    repeat' (walk_at "evW")
    refine op_is_int_ref ?_
    repeat' (walk_at "evW")
    refine e_list ?_
    repeat' (walk_at "evW")
    refine ⟨_, _, _, _, _, by assumption, by simp, fun D s9 S9 => ?_⟩
    repeat' (walk_at "evW")
    refine h D [.int (i : Int) ti] [i] s9 (Out.sub (St.toOut S9) ?_) (S9.fr _ (.head _)) (S9.two (.tail _ (.head _))) (.cons _ _ .nil) hsel
    intro q hq
    rcases List.mem_cons.mp hq with rfl | hq
    · exact .head _
    · rw [List.mem_singleton.mp hq]; exact .tail _ (.tail _ (.head _))
  rw [show (((k : Nat) : Int) == 1) = false from by simpa using fun h : (k : Int) = 1 => hk1 (by walk_at "lia")]
  refine iff' ?_
  refine wpAny_execs_nil ?_
  dsimp only
  refine x_then (invPB2 s W L k tk itv ld N) ?_ ?_
  · refine PostFor.intro fun Qt hQt => ?_
    rcases hld with ⟨rfl, rfl⟩ | ⟨I, rfl, rfl⟩
    · refine x_try ?_
      intro E'
      repeat' (walk_at "evM")
      refine len_base (by assumption) (St.list (by assumption) hl hSp) (by walk_at "lia") ?_
      intro t4 s4 S4
      repeat' (walk_at "evM")
      by_cases hkN : k < N
      · rw [show decide ((k : Int) ≥ (vs.length : Int)) = false from by simp; walk_at "lia"]
        repeat' (walk_at "evM")
        exact ⟨St.pre (l := [_, _]) (by assumption), fun _ => hkN⟩
      · rw [show decide ((k : Int) ≥ (vs.length : Int)) = true from by simp; walk_at "lia"]
        repeat' (walk_at "evW")
        refine c_sorted_key (b := true) (by assumption) (St.list (by assumption) hl hSp) (.inr rfl) (by walk_at "lia") (by walk_at "lia") (hA₁.le (by walk_at "lia")) hkey (ints_at hvs) (by rw [hNl]; exact hf) ?_
        intro D p s5 hp hpw S5
        refine sl_upto ?_
        repeat' (walk_at "evW")
        refine ⟨k, tk, _, _, _, _, _, _, rfl, S5, S5.isList (.head _), ?_, fun D' s6 S6 => ?_⟩
        · rw [List.length_map, hp.length_eq, List.length_range]; walk_at "lia"
        rw [hNl] at hp
        have hsel : Sel (sg true f) N k (p.take k) := Sel.of_sorted hpw hp
        repeat' (walk_at "evW")
        refine h D' ((p.map fun i => vs.getD i .none).take k) (p.take k) s6 (S6.toOut.sub fun q hq => ?_) (S6.fr _ (.head _)) (S6.two) (by rw [← List.map_take]; exact ints_pick hvs hsel.mem) hsel
        · rcases List.mem_cons.mp hq with rfl | hq
          · exact .head _
          · rw [List.mem_singleton.mp hq]; exact .tail _ (.tail _ (.head _))
    · refine wpAny_Try_except ?_
      repeat' (walk_at "evW")
      refine c_len_iter (ax := Sp) (i := 0) hA₁.h (by assumption) (by exact List.mem_cons_self) ?_
      intro e s3 S3
      have S3 := S3.perm (led' := (e, exc0K "TypeError") :: (L0, slotK o0) :: (I, litK Sp 0) :: [(L + 1, cellK (.ref kf))]) (List.Perm.cons _ (List.Perm.swap _ _ _))
      refine note_St S3 (by show (A.deeper _).frames = _; rw [show (A.deeper _).frames = A.frames.map (_ :: ·) from rfl, hfr]; rfl) rfl hf0 (fun q => nomatch q) hk0 hd0 ?_
      intro tb s4 S4
      refine flight_St S4 (by walk_at "mem") (.head _) .here ?_
      intro s5 S5
      refine wpAny_handleBy_tup2 te1 te2 te3 te4 te5 te6 ?_
      refine e_tuple ?_
      repeat' (walk_at "evW")
      refine ⟨_, _, _, _, _, S5, by simp, fun T s6 S6 => ?_⟩
      refine ⟨T, rfl, S6.tupO (.head _), ?_, ?_⟩
      · obtain ⟨o, ho, hc, _⟩ := S6.kn (.tail _ (.tail _ (.head _)))
        exact ⟨o, ho, hc⟩
      rw [if_pos (by rfl)]
      refine flight_St S6 (.tail _ (.tail _ (.head _))) (.tail _ (.head _)) (.there .here) ?_
      intro s7 S7
      repeat' (walk_at "evW")
      refine wpAny_Pass ?_
      repeat' (walk_at "evW")
      exact ⟨S7.drop.drop.drop.perm (List.Perm.swap _ _ _), fun q => by cases q⟩
  rintro s2 ⟨S3, hkN⟩
  clear S2
  refine x_then (invPB3 s W L k tk itv ld) ?_ ?_
  · refine PostFor.intro fun Qt hQt => ?_
    rcases hld with ⟨rfl, rfl⟩ | ⟨I, rfl, rfl⟩
    · repeat' (walk_at "evW")
      assumption
    · repeat' (walk_at "evW")
      assumption
  intro s3 S4
  clear S3
  refine x_then (invPB4 W L0 s L k tk itv Sp o0 kf) ?_ ?_
  · refine PostFor.intro fun Qt hQt => ?_
    rcases hld with ⟨rfl, rfl⟩ | ⟨I, rfl, rfl⟩
    · repeat' (walk_at "evW")
      refine c_iter (it_list (by assumption) (St.list (by assumption) hl hSp) ?_)
      intro I s5 S5 _
      repeat' (walk_at "evW")
      refine ⟨I, ?_, by assumption⟩
      intro a ha
      cases hsrc with
      | list => exact .inr (List.mem_singleton.mp ha)
      | iter _ _ => exact absurd (.head _) hSp
    · repeat' (walk_at "evW")
      refine c_iter (it_lit (by assumption) (.head _) ?_)
      repeat' (walk_at "evW")
      refine ⟨I, ?_, by assumption⟩
      intro a ha
      cases hsrc with
      | list => exact .inr (List.mem_singleton.mp ha)
      | iter _ _ => exact (List.mem_cons.mp ha).imp id fun h => List.mem_singleton.mp h
  rintro s4 ⟨I, hWI, S5⟩
  clear S4 hld
  refine x_then (invPB5 s W L k tk itv I L0 o0 kf N ks Sp) ?_ ?_
  · refine PostFor.intro fun Qt hQt => ?_
    refine x_assign_comp rfl (fun _ => rfl) rfl (by decide) rfl (by decide) rfl rfl ?_
    repeat' (first | walk_at "evW" | with_reducible refine wpAny_UnaryOp ?_ | (with_reducible refine' op_neg ?kS ?_; (case kS => with_reducible assumption); intro t_ s_ S_))
    refine c_range3 (by assumption) rfl ?_
    intro r t0 tk2 t1 s6 S6
    repeat' (walk_at "evW")
    refine c_zip_rl S6 (.head _) (.tail _ (.head _)) (range_small_dn hk100) ?_
    intro z TI TO i1 s7 S7
    rw [range_size_dn] at S7
    repeat' (walk_at "evW")
    refine it_zip S7 (.head _) ?_
    have S8 := S7.perm (led' := [(z, zK TI TO .none), (TO, pK), (TI, .ob (pairO (.ref i1) (.ref I))), (i1, .ob (ritO 0 (k : Int) (-1))), (I, litK Sp 0)] ++ [(r, .ob (rangeO 0 (-(k : Int)) (-1) t0 tk2 t1)), (L0, slotK o0), (L + 1, cellK (.ref kf))])
      (by simp only [List.cons_append, List.nil_append]; exact .cons _ (.cons _ (.cons _ (.cons _ (.swap ..)))))
    clear S7
    have hkC := hkey.comp S8
    have hlC := fun C => S8.listC (C := C) hl hSp
    have hcC := fun C => S8.cellC (C := C) (c := L + 1) (v := .ref kf) (by simp)
    refine ⟨s, W, L, _, _, _, fun m ys lw' lc s' => Ex3 fun (i : Nat) (tl : List (Addr × Kn)) (ps : List P2) => And5 (lw' = (z, zK TI TO .none) :: (TO, pK) :: (TI, .ob (pairO (.ref i1) (.ref I))) :: (i1, .ob (ritO (-(i : Int)) ((k : Int) - (i : Int)) (-1))) :: (I, litK Sp i) :: tl) (i + m = min k N) (ys = ps.map (·.1)) (TupIn tl ps) (ps.map (·.2) = (List.range i).map (kyOf true ks)),
      fun ys lw' s' => Ex3 fun (IK : Kn) (tl : List (Addr × Kn)) (ps : List P2) => And5 (lw' = (I, IK) :: tl) ((IK = litK Sp k ∧ k ≤ N ∨ IK = lixK ∧ N ≤ k)) (ys = ps.map (·.1)) (TupIn tl ps) (ps.map (·.2) = (List.range (min k N)).map (kyOf true ks)), min k N, S8, ?_, ?_, ?_, ?_, ?_, ?_⟩
    · intro a ha
      rcases hWI a ha with rfl | rfl
      · obtain ⟨o, ho, _⟩ := S8.kn (I := a) (kn := litK Sp 0) (by simp)
        exact ⟨o, ho⟩
      · obtain ⟨o, ho, _⟩ := S8.kn (I := a) (kn := slotK o0) (by simp)
        exact ⟨o, ho⟩
    · intro s' _
      exact ⟨0, [], [], by simp, by simp, rfl, TupIn.nil, rfl⟩
    · intro C D s' Q₁ E'' SC hq
      exact it_zip SC (.tail _ (.head _)) hq
    · rintro C D m s' E'' lc ys lw' SC ⟨i, tl, ps, hlw, him, hys, hti, hpk⟩
      rw [hlw, hys] at SC
      clear hlw hys
      rcases m with _ | m
      · by_cases hkN' : k ≤ N
        · obtain rfl : k = i := by walk_at "lia"
          have SC := SC.perm (led' := (z, zK TI TO .none) :: (TO, pK) :: (TI, .ob (pairO (.ref i1) (.ref I))) :: (i1, .ob (ritO (-(k : Int)) ((k : Int) - (k : Int)) (-1))) :: (D, .lst (ps.map (·.1))) :: (I, litK Sp k) :: tl) mid4
          refine nx_zip_end1 hA₁.h SC (.head _) .here (nextE_range (by walk_at "lia")) ?_
          intro s9 S9
          exact ⟨lc, _, _, S9, _, tl, ps, rfl, .inl ⟨rfl, hkN'⟩, rfl, hti, by rw [hpk, Nat.min_eq_left hkN']⟩
        · obtain rfl : N = i := by walk_at "lia"
          have SC := SC.perm (led' := (z, zK TI TO .none) :: (TO, pK) :: (TI, .ob (pairO (.ref i1) (.ref I))) :: (i1, .ob (ritO (-(N : Int)) ((k : Int) - (N : Int)) (-1))) :: (D, .lst (ps.map (·.1))) :: (I, litK Sp N) :: tl) mid4
          refine nx_zip_end2X hA₁.h SC .here (.there (.there .here)) (nextR_range (by walk_at "lia")) (nextX_list (fun led s => hlC _ lc led s) (by rw [List.getElem?_eq_none]; walk_at "lia")) ?_
          intro s9 S9
          exact ⟨lc, _, _, S9.drop, _, tl, ps, rfl, .inr ⟨rfl, by walk_at "lia"⟩, rfl, hti, by rw [hpk, Nat.min_eq_right (by walk_at "lia")]⟩
      · have hi : i < N := by walk_at "lia"
        have SC := SC.perm (led' := (z, zK TI TO .none) :: (TO, pK) :: (TI, .ob (pairO (.ref i1) (.ref I))) :: (i1, .ob (ritO (-(i : Int)) ((k : Int) - (i : Int)) (-1))) :: (D, .lst (ps.map (·.1))) :: (I, litK Sp i) :: tl) mid4
        obtain ⟨_, tv, htv⟩ := ints_at hvs i (by walk_at "lia")
        refine nx_zip SC .here (.there (.there .here)) (nextR_range (by walk_at "lia")) (nextR_list (fun led s => hlC _ lc led s) htv) ?_
        rintro T x y s9 ⟨tx, rfl⟩ rfl hgo
        refine hgo _ _ _ _ _ fun s10 S10 => ?_
        have S10 := S10.noloc
        clear hgo SC
        refine asg_tup2 S10 hA₁.h (S10.tupO (.head _)) (by walk_at "sets") (by walk_at "sets") ?_ rfl rfl rfl rfl
        intro s11 S11
        refine tests0 ?_
        refine ift ?_
        refine e_tuple ?_
        repeat' (walk_at "evW")
        refine evE_cell (c := L + 1) rfl (hcC C _ _ _ S11) ?_ rfl rfl (by decide)
        refine cw_key hkC.fn hkC.off rfl ?_
        repeat' (walk_at "evW")
        refine hkC.call _ _ _ i tv _ (Out.keep (St.toOut (by assumption))) (hA₁.le (by walk_at "lia")) hi ?_
        intro t12 s12 O12
        have S12 := St.out (by assumption) O12
        clear O12 S11
        repeat' (walk_at "evW")
        refine ⟨_, _, _, _, _, S12, by simp, fun T2 s13 S13 => ?_⟩
        refine c_append S13 (.there (.there (.there (.there (.there (.there .here)))))) (by
          have := congrArg List.length hpk
          simp only [List.length_map, List.length_range] at this ⊢
          walk_at "lia") ?_
        intro s14 S14
        have S15 := S14.subled (.cons_cons _ (List.sublist_cons_self ..))
        have S16 := S15.perm (mid6.trans (mid4.symm.cons _))
        clear S14 S15 S13
        refine ⟨m, _, _, _, by walk_at "lia", S16, i + 1, _, ps ++ [(.ref T2, kyOf true ks i)], ?_, by walk_at "lia", by simp, hti.snoc (T := T2) (y := kyOf true ks i) (t1 := t12) (t2 := tx) (t3 := tv), by rw [List.map_append, hpk, List.range_succ, List.map_append]; rfl⟩
        rw [show -((i + 1 : Nat) : Int) = -(i : Int) + -1 by walk_at "lia", show (k : Int) - ((i + 1 : Nat) : Int) = (k : Int) - (i : Int) - 1 by walk_at "lia"]
        rfl
    · rintro ys lw s' s'' hF _
      exact hF
    · rintro D ys lw' s' ⟨IK, tl, ps, rfl, hIK, rfl, hti, hpk⟩ SD
      refine ⟨rfl, _, by walk_at "sets", fun s'' S9 => ?_⟩
      have S10 := S9.perm (led' := (D, .lst (ps.map (·.1))) :: (I, IK) :: (r, .ob (rangeO 0 (-(k : Int)) (-1) t0 tk2 t1)) :: (L0, slotK o0) :: (L + 1, cellK (.ref kf)) :: tl)
        (((List.perm_append_comm (l₁ := [(r, .ob (rangeO 0 (-(k : Int)) (-1) t0 tk2 t1)), (L0, slotK o0), (L + 1, cellK (.ref kf))]) (l₂ := tl)).cons _).cons _)
      refine post_use hQt (PN.next ?_)
      exact ⟨D, ps, tl, IK, S10.subled (.cons_cons _ (.cons_cons _ (List.sublist_cons_self ..))), hti, hpk, hIK⟩
  rintro s5 ⟨D, ps, tl, IK, S6, hti, hpk, hIK⟩
  clear S5
  have hpl : ps.length = min k N := by
    have := congrArg List.length hpk
    simpa only [List.length_map, List.length_range] using this
  refine wpAny_execs_cons ?_
  repeat' (walk_at "evW")
  refine t_lst S6 (.head _) (by simp only [List.length_map]; walk_at "lia") ?_
  intro s6 S7
  rw [List.length_map, hpl]
  clear S6
  by_cases hk0' : k = 0
  · rw [show decide (min k N ≠ 0) = false from by subst hk0'; simp, Bool.not_false]
    refine ift ?_
    repeat' (walk_at "evW")
    have hps0 : ps = [] := List.length_eq_zero_iff.mp (by rw [hpl, hk0']; simp)
    subst hps0
    refine h D _ [] _ (Out.sub (St.toOut S7) ?_) (S7.fr _ (.head _)) S7.two .nil ⟨List.Pairwise.nil, (fun _ q => nomatch q), (by rw [hk0']; simp), fun _ q => nomatch q⟩
    intro q hq
    rcases List.mem_cons.mp hq with rfl | hq
    · exact .head _
    · rw [List.mem_singleton.mp hq]; exact .tail _ (.tail _ (.head _))
  rw [show decide (min k N ≠ 0) = true from by simp; walk_at "lia", Bool.not_true]
  refine iff' ?_
  repeat' (walk_at "evW")
  have S8 := ‹St s W L _ ((D, _) :: _) _›
  refine c_heapify (ps := ps) (G.led1 S8 (.head _)) hA₁ (S8.led1 (.head _)) (hti.isKs S8 fun p hp => .tail _ (.tail _ (.tail _ (.tail _ hp)))) (by walk_at "lia") ?_
  intro s9 O9
  have S9 := S8.called .here O9
  clear S8 O9
  obtain ⟨hhp, hpm⟩ := heapify_ok ord_min ps
  generalize hpf (fun p x => x.2.lt p.2) (fun a b => !(a.2.lt b.2)) (ps.length / 2) ps = ps2 at S9 hhp hpm
  have hti2 := hti.sub (ps' := ps2) fun p hp => hpm.mem_iff.mp hp
  have hpl2 : ps2.length = min k N := by rw [hpm.length_eq, hpl]
  have hKI : KI true f ks (ps2.map (·.2)) (min k N) (min k N) (ordOf true (min k N)) := (KI.start (f := f) (ks := ks) (b := true) (min k N)).perm (by rw [← hpk]; exact hpm.map _)
  clear hpm hti hpk hpl
  obtain ⟨x, rest, rfl⟩ : ∃ x rest, ps2 = x :: rest := by
    cases ps2 with
    | nil => simp at hpl2; walk_at "lia"
    | cons x rest => exact ⟨x, rest, rfl⟩
  obtain ⟨Tx, u1, u2, u3, hx1, hxm⟩ := hti2 x (.head _)
  repeat' (walk_at "evW")
  refine sub_lst (k := 0) (by assumption) (.head _) (by decide) (by decide) (show _ = some x.1 from rfl) (by with_unfolding_all rfl) (by intro _; with_unfolding_all rfl) ?_
  repeat' (walk_at "evW")
  rw [hx1]
  refine item_tup0 (St.tupO (by assumption) (.tail _ (.tail _ (.tail _ (.tail _ hxm))))) (x := .bytes x.2.k.toArray u1) rfl ?_
  repeat' (first | walk_at "evW" | with_reducible refine wpAny_UnaryOp ?_ | (with_reducible refine' op_neg ?kS ?_; (case kS => with_reducible assumption); intro t_ s_ S_))
  have hIK2 : IK = litK Sp (min k N) ∨ (IK = lixK ∧ min k N = N) := by
    rcases hIK with ⟨e, hh⟩ | ⟨e, hh⟩
    · exact .inl (by rw [Nat.min_eq_left hh]; exact e)
    · exact .inr ⟨e, Nat.min_eq_right hh⟩
  refine it_any (by assumption) (.tail _ (.head _)) (hIK2.imp id And.left) ?_
  have S10 := ‹St s W L [(Str.ofString "n", _), (Str.ofString "iterable", _), (Str.ofString "it", _), (Str.ofString "result", _), (Str.ofString "top", _), (Str.ofString "order", _), (Str.ofString "_heapreplace", _)] _ _›
  refine for_loop (fun _ => rfl) (invPB6 s W L k tk itv I D L0 o0 kf f ks N Sp)
    (N - min k N) ⟨min k N, x, rest, u1, -(k : Int), _, tl, IK, S10, hti2, hhp, hKI.ordle (by simp only [if_true, ordOf]; walk_at "lia"), by walk_at "lia", hpl2, hIK2⟩ ?_
  clear S10
  rintro m s' E' ⟨j, x, rest, tt, ord, to, tl, IK, S11, hti, hhp, hKI, hjm, hpl, hIK⟩
  refine PostFor.intro fun Qb hQb => ?_
  rcases m with _ | m
  · refine nx_end (i := j) hA₁.h S11 (S11.list hl hSp) (by rw [List.getElem?_eq_none]; walk_at "lia") (hIK.imp id And.left) ?_
    intro s12 S12
    clear S11
    obtain rfl : j = N := by walk_at "lia"
    repeat' (walk_at "evW")
    have hIK12 := hti.isKs S12 fun p hp => .tail _ (.tail _ (.tail _ (.tail _ hp)))
    obtain ⟨n12, hD12⟩ := S12.led1 (.head _)
    refine e_methK rfl rfl rfl ?_
    repeat' (walk_at "evW")
    refine ⟨"list", "list.sort", F.plainAttrs_list, F.slot_list_sort, F.type_list_sort, ⟨_, hD12, rfl⟩, (fun a q => by cases q; exact ⟨_, hD12, rfl⟩), cw_self_kw rfl rfl ?_⟩
    repeat' (walk_at "evW")
    refine c_lsort (b := true) S12 (.inr rfl) (fun out => .here) (by rw [List.length_map]; walk_at "lia") (by rw [List.length_map]; walk_at "lia") (srt_ky (ps := x :: rest) (by simp)) (fun s' hk => hIK12.offl hD12 hk) ?_
    intro p s13 hp hpw S13 _
    have hp : p.Perm (List.range (x :: rest).length) := by rw [List.length_map] at hp; exact hp
    obtain ⟨hsel, hse⟩ := hKI.selP hf (Nat.min_le_right _ _) hp hpw
    clear hpw S12 hIK12
    repeat' (walk_at "evW")
    refine e_pick3 hA₁.h (fun _ => rfl) rfl (by decide) rfl (by decide) (by decide) (by decide) (by decide) (by decide) (fun _ => rfl) (fun _ => rfl) (fun _ => rfl) (fun _ => rfl) ?_
    repeat' (walk_at "evW")
    refine ⟨s, W, L, _, _, D, x :: rest, p, tl, rfl, S13, ?_, hti, fun q hq => .tail _ (.tail _ (.tail _ hq)), fun i hi => List.mem_range.mp (hp.mem_iff.mp hi), by rw [hp.length_eq, List.length_range]; walk_at "lia", ?_⟩
    · intro a ha
      rcases hWI a ha with rfl | rfl
      · exact ⟨_, .head _, rfl⟩
      · exact ⟨_, .tail _ (.head _), rfl⟩
    · intro D' ys s14 hys S14
      repeat' (walk_at "evW")
      refine h D' ys _ s14 (Out.sub (St.toOut S14) ?_) (S14.fr _ (.head _)) (S14.two (.tail _ (.tail _ (.head _)))) (by rw [hse] at hys; exact hys) ⟨hsel.sorted, hsel.mem, by rw [hsel.len]; walk_at "lia", hsel.least⟩
      intro q hq
      rcases List.mem_cons.mp hq with rfl | hq
      · exact .head _
      · rw [List.mem_singleton.mp hq]; exact .tail _ (.tail _ (.tail _ (.head _)))
  · have hj : j < N := by walk_at "lia"
    have hIK : IK = litK Sp j := hIK.resolve_right fun q => by walk_at "lia"
    subst hIK
    obtain ⟨_, tv, htv⟩ := ints_at hvs j (by walk_at "lia")
    refine nx_lit S11 (.there .here) (S11.list hl hSp) htv ?_
    intro s12 S12
    clear S11
    repeat' (walk_at "evW")
    refine cw_key hkey.fn hkey.off rfl ?_
    repeat' (walk_at "evW")
    refine hkey.call _ _ _ j tv _ (Out.keep (St.toOut (by assumption))) (hA₁.le (by walk_at "lia")) hj ?_
    intro t13 s13 O13
    have S13 := St.out (by assumption) O13
    clear O13 S12
    repeat' (walk_at "evW")
    refine op_lt_bytes ?_
    repeat' (walk_at "evW")
    cases hlt : ltB x.2.k (ks j)
    · refine iff' ?_
      repeat' (walk_at "evW")
      exact ⟨m, by walk_at "lia", j + 1, x, rest, tt, ord, to, tl, _, St.pre (l := [_, _, _, _, _, _, _]) (r := [_, _]) (by assumption), hti, hhp, hKI.stay hf hj (.head _) (KI.root (b := true) ord_min hhp) (by simpa using hlt), by walk_at "lia", hpl, .inl rfl⟩
    · refine ift ?_
      repeat' (walk_at "evW")
      refine e_tuple ?_
      repeat' (walk_at "evW")
      refine ⟨_, _, _, _, _, by assumption, by simp, fun T s14 S14 => ?_⟩
      clear S13
      repeat' (walk_at "evW")
      refine c_heapreplace (x := x) (y := (.ref T, ⟨ks j, ord, (j : Int)⟩)) (ps := x :: rest) (G.led1 S14 (.tail _ (.head _))) hA₁ (S14.led1 (.tail _ (.head _))) (hti.isKs S14 fun p hp => .tail _ (.tail _ (.tail _ (.tail _ (.tail _ hp))))) (by walk_at "lia") rfl ⟨T, _, _, _, rfl, S14.tupO (.head _)⟩ ?_
      intro s15 O15
      have S15 := S14.called (.there .here) O15
      clear O15
      obtain ⟨hhp2, hpm2⟩ := replace_ok ord_min hhp (y := (.ref T, ⟨ks j, ord, (j : Int)⟩)) (by simp)
      have hKI2 := (hKI.take hf hj (KI.root (b := true) ord_min hhp) (by simpa using hlt)).perm (kl' := (siftup (fun p x => x.2.lt p.2) (fun a b => !(a.2.lt b.2)) (.ref T, ⟨ks j, ord, (j : Int)⟩) ((x :: rest).set 0 (.ref T, ⟨ks j, ord, (j : Int)⟩)) 0).map (·.2)) (hpm2.map (·.2))
      have hti2 : TupIn ((T, Kn.ob (kyO ⟨ks j, ord, (j : Int)⟩ t13 to tv)) :: tl) (siftup (fun p x => x.2.lt p.2) (fun a b => !(a.2.lt b.2)) (.ref T, ⟨ks j, ord, (j : Int)⟩) ((x :: rest).set 0 (.ref T, ⟨ks j, ord, (j : Int)⟩)) 0) :=
        ((hti.sub (ps' := rest) fun p hp => .tail _ hp).snoc (T := T) (y := ⟨ks j, ord, (j : Int)⟩) (t1 := t13) (t2 := to) (t3 := tv)).sub fun p hp => by
          rcases List.mem_cons.mp (hpm2.mem_iff.mp hp) with rfl | hp
          · exact List.mem_append_right _ (.head _)
          · exact List.mem_append_left _ hp
      have hpl2 := hpm2.length_eq
      generalize siftup (fun p x => x.2.lt p.2) (fun a b => !(a.2.lt b.2)) (.ref T, ⟨ks j, ord, (j : Int)⟩) ((x :: rest).set 0 (.ref T, ⟨ks j, ord, (j : Int)⟩)) 0 = ps3 at S15 hhp2 hKI2 hti2 hpl2
      rw [List.length_set, hpl] at hpl2
      obtain ⟨x3, rest3, rfl⟩ : ∃ x rest, ps3 = x :: rest := by
        cases ps3 with
        | nil => simp at hpl2; walk_at "lia"
        | cons x rest => exact ⟨x, rest, rfl⟩
      obtain ⟨T3, v1, v2, v3, hx3, hm3⟩ := hti2 x3 (.head _)
      have S16 := S15.perm mid4
      clear S15 S14
      repeat' (walk_at "evW")
      refine sub_lst (k := 0) (by assumption) (.head _) (by decide) (by decide) (show _ = some x3.1 from rfl) (by with_unfolding_all rfl) (by intro _; with_unfolding_all rfl) ?_
      rw [hx3]
      refine asg_tup3 (by assumption) hA₁.h (St.tupO (by assumption) (.tail _ (.tail _ (.tail _ (.tail _ hm3))))) (by walk_at "sets") (by walk_at "sets") (by walk_at "sets") ?_ rfl rfl rfl rfl rfl
      intro s17 S17
      repeat' (walk_at "evW")
      refine ldn_loc (by assumption) rfl ?_ rfl rfl
      repeat' (walk_at "evW")
      refine op_isub (by assumption) ?_
      intro t18 s18 S18
      repeat' (walk_at "evW")
      exact ⟨m, by walk_at "lia", j + 1, x3, rest3, v1, ord - 1, t18, _, _, St.pre (l := [_, _, _, _, _, _, _]) (r := [_, _, _, _]) (by assumption), hti2, hhp2, hKI2, by walk_at "lia", hpl2, .inl rfl⟩
end
end
section
section
variable {prog : Program} {w : World} {A : Around} {E : Value → Shared → Prop} {s₀ s : Shared} {L D8 D6 f c' cell P : Addr} {l : List (Str × Value)} {X pre : List (Addr × Kn)} {env0 : Env} {v : Value} {mg mb : Str → Option Value} {tab : Kn}
theorem law_small {name qual x : Str} {params : Arguments} {body : Expr} {scope : Scope} {clos : List (Str × Addr)} {pm ctv : Value} {hv sv : List Value} {ks : Nat → List UInt8} {N k : Nat} {tk : Tok} {num : Nat → Int} {Q : Value → Shared → Prop} (G : GW w mg mb s₀ []) (hA : Ok A 60)
    (hfr : A.frames = some [env0]) (hf0 : env0.frame = some L) (hk0 : env0.scope.kind ≠ .module) (H : Pick D8 v pre)
    (S : St s₀ [] L l ((f, .ob (kla_obj name qual params body scope clos pm c' ctv)) :: (c', codeK qual) :: (P, tab) :: (pre ++ X)) s)
    (h8 : (D8, Kn.lst sv) ∈ X) (h6 : (D6, Kn.lst hv) ∈ X) (hc : (cell, cellK (.ref D6)) ∈ X) (hsv : IntsAre sv ((List.range N).map fun i : Nat => (i : Int))) (hN : 2 ≤ N ∧ N < 64) (hk100 : k ≤ 100)
    (hks : ∀ i < N, ∀ j < N, ltB (ks i) (ks j) = decide (num i < num j))
    (hbind : ∀ i t, bindArgs (kla_fn name qual params body scope clos pm (.ref c') ctv) ⟨[.int i t], []⟩ = pure [(x, .int i t)]) (hloc : scope.names.lookup x = some .local) (hnc : ∀ y ∈ scope.names, y.2 ≠ .cell) (hco : scope.isCoroutine = false) (hgen : scope.isGenerator = false) (hk : scope.kind = .function)
    (hev : ∀ (A' : Around) (E' : Value → Shared → Prop) (s' s'' : Shared) (L' : Addr) (i : Nat) (t : Tok) (Q' : Value → Shared → Prop), i < N → s'.heap.IsCell cell (some (.ref D6)) → s'.heap.IsList D6 hv.toArray → St s' [] L' [(x, .int (i : Int) t)] [] s'' →
      (∀ t' s3, St s' [] L' [(x, .int (i : Int) t)] [] s3 → Q' (.bytes (ks i).toArray t') s3) → wpAny (model prog w) A' (eval body (envX qual scope L' f (.ref c') clos)) Q' E' s'')
    (h : ∀ D vs out s', St s₀ [] L l ((D, .lst vs) :: (P, tab) :: X) s' → IntsAre vs (out.map fun i : Nat => (i : Int)) → Sel num N k out → Q (.ref D) s') :
    wpAny (model prog w) A (call (.ref 141) [.int (k : Int) tk, v] [(Str.ofString "key", .ref f)]) Q E s := by
  have S' : St s₀ [] L l ([(f, .ob (kla_obj name qual params body scope clos pm c' ctv)), (c', codeK qual), (P, tab)] ++ (pre ++ X)) s := S
  have hoff := Pick.off S'
  have hold := Pick.old S'
  have hin : ∀ {p : Addr × Kn}, p ∈ X → p ∈ (f, Kn.ob (kla_obj name qual params body scope clos pm c' ctv)) :: (c', codeK qual) :: (P, tab) :: (pre ++ X) := fun hp => .tail _ (.tail _ (.tail _ (List.mem_append_right _ hp)))
  have hx : ∀ {p : Addr × Kn}, p ∈ X → p.1 ∉ pre.map (·.1) ++ [L] := fun hp => hoff _ (List.mem_append_right _ hp)
  obtain ⟨o0, hL0, hd0⟩ := S.frame
  refine c_nsmallest (n := 40) (G.off S hold) (hA.le (by omega)) hfr hf0 hk0 hL0 hd0
    (lam_key S G (.head _) (.tail _ (.head _)) (hin hc) (hin h6) (hoff _ (.head _)) (hoff _ (.tail _ (.head _))) (hx hc) (hx h6) hold hbind hloc hnc hco hgen hk hev) (S.isList (hin h8)) (hx h8) hsv hN hk100 (H.src S') hks ?_
  intro D vs out s' O hD hDL hvs hsel
  refine h D vs out s' (S.calledL (led2 := (P, tab) :: X) O hL0 hD hDL (.cons _ (.cons _ (.cons_cons _ (List.sublist_append_right ..)))) (fun p hp => ?_) hold) hvs hsel
  rcases List.mem_cons.mp hp with rfl | hp
  · exact hoff _ (.tail _ (.tail _ (.head _)))
  · exact hx hp
theorem law_large {name qual x : Str} {params : Arguments} {body : Expr} {scope : Scope} {clos : List (Str × Addr)} {pm ctv : Value} {hv sv : List Value} {ks : Nat → List UInt8} {N k : Nat} {tk : Tok} {num : Nat → Int} {Q : Value → Shared → Prop} (G : GW w mg mb s₀ []) (hA : Ok A 60)
    (hfr : A.frames = some [env0]) (hf0 : env0.frame = some L) (hk0 : env0.scope.kind ≠ .module) (H : Pick D8 v pre)
    (S : St s₀ [] L l ((f, .ob (kla_obj name qual params body scope clos pm c' ctv)) :: (c', codeK qual) :: (P, tab) :: (pre ++ X)) s)
    (h8 : (D8, Kn.lst sv) ∈ X) (h6 : (D6, Kn.lst hv) ∈ X) (hc : (cell, cellK (.ref D6)) ∈ X) (hsv : IntsAre sv ((List.range N).map fun i : Nat => (i : Int))) (hN : 2 ≤ N ∧ N < 64) (hk100 : k ≤ 100)
    (hks : ∀ i < N, ∀ j < N, ltB (ks i) (ks j) = decide (num i < num j))
    (hbind : ∀ i t, bindArgs (kla_fn name qual params body scope clos pm (.ref c') ctv) ⟨[.int i t], []⟩ = pure [(x, .int i t)]) (hloc : scope.names.lookup x = some .local) (hnc : ∀ y ∈ scope.names, y.2 ≠ .cell) (hco : scope.isCoroutine = false) (hgen : scope.isGenerator = false) (hk : scope.kind = .function)
    (hev : ∀ (A' : Around) (E' : Value → Shared → Prop) (s' s'' : Shared) (L' : Addr) (i : Nat) (t : Tok) (Q' : Value → Shared → Prop), i < N → s'.heap.IsCell cell (some (.ref D6)) → s'.heap.IsList D6 hv.toArray → St s' [] L' [(x, .int (i : Int) t)] [] s'' →
      (∀ t' s3, St s' [] L' [(x, .int (i : Int) t)] [] s3 → Q' (.bytes (ks i).toArray t') s3) → wpAny (model prog w) A' (eval body (envX qual scope L' f (.ref c') clos)) Q' E' s'')
    (h : ∀ D vs out s', St s₀ [] L l ((D, .lst vs) :: (P, tab) :: X) s' → IntsAre vs (out.map fun i : Nat => (i : Int)) → Sel (sg true num) N k out → Q (.ref D) s') :
    wpAny (model prog w) A (call (.ref 147) [.int (k : Int) tk, v] [(Str.ofString "key", .ref f)]) Q E s := by
  have S' : St s₀ [] L l ([(f, .ob (kla_obj name qual params body scope clos pm c' ctv)), (c', codeK qual), (P, tab)] ++ (pre ++ X)) s := S
  have hoff := Pick.off S'
  have hold := Pick.old S'
  have hin : ∀ {p : Addr × Kn}, p ∈ X → p ∈ (f, Kn.ob (kla_obj name qual params body scope clos pm c' ctv)) :: (c', codeK qual) :: (P, tab) :: (pre ++ X) := fun hp => .tail _ (.tail _ (.tail _ (List.mem_append_right _ hp)))
  have hx : ∀ {p : Addr × Kn}, p ∈ X → p.1 ∉ pre.map (·.1) ++ [L] := fun hp => hoff _ (List.mem_append_right _ hp)
  obtain ⟨o0, hL0, hd0⟩ := S.frame
  refine c_nlargest (n := 40) (G.off S hold) (hA.le (by omega)) hfr hf0 hk0 hL0 hd0
    (lam_key S G (.head _) (.tail _ (.head _)) (hin hc) (hin h6) (hoff _ (.head _)) (hoff _ (.tail _ (.head _))) (hx hc) (hx h6) hold hbind hloc hnc hco hgen hk hev) (S.isList (hin h8)) (hx h8) hsv hN hk100 (H.src S') hks ?_
  intro D vs out s' O hD hDL hvs hsel
  refine h D vs out s' (S.calledL (led2 := (P, tab) :: X) O hL0 hD hDL (.cons _ (.cons _ (.cons_cons _ (List.sublist_append_right ..)))) (fun p hp => ?_) hold) hvs hsel
  rcases List.mem_cons.mp hp with rfl | hp
  · exact hoff _ (.tail _ (.tail _ (.head _)))
  · exact hx hp
end
end
theorem modes_ints (ns : List Int) : (([33056, 33028, 16832, 49280, 35200, 512] : List Nat).map fun n : Nat => (n : Int)) ++ (((numsOf ns).map fun n : Nat => (n : Int)).drop 1).map (fun n : Int => n.fmod 65536) = (modesOf ns).map fun n : Nat => (n : Int) := by
  unfold modesOf
  rw [List.map_append]
  refine congrArg (HAppend.hAppend _) ?_
  rw [← List.map_drop, List.map_map, List.map_map]
  refine List.map_congr_left fun n _ => ?_
  show (n : Int).fmod 65536 = ((n % 65536 : Nat) : Int)
  rw [Int.fmod_eq_emod_of_nonneg _ (by decide)]
  exact (Int.natCast_emod n 65536).symm
noncomputable abbrev lawL1 (a : Addr) (D : Addr) : List (Str × Value) := [(Str.ofString "script", .ref a), (Str.ofString "numbers", .ref D)]
noncomputable abbrev lawD1 (D : Addr) (ys : List Value) (L : Addr) : List (Addr × Kn) := [(D, .lst ys), (L + 1 + 1, cell0K), (L + 1, cell0K), (208, .ob (tabObj #[]))]
noncomputable abbrev lawL2 (a : Addr) (D1 : Addr) (F : Nat) (tf : Tok) : List (Str × Value) := [(Str.ofString "script", .ref a), (Str.ofString "numbers", .ref D1), (Str.ofString "first", .int (F : Int) tf)]
noncomputable abbrev lawD2 (D1 : Addr) (ys1 : List Value) (L : Addr) : List (Addr × Kn) := [(D1, .lst ys1), (L + 1 + 1, cell0K), (L + 1, cell0K), (208, .ob (tabObj #[]))]
noncomputable abbrev lawL3 (a : Addr) (D1 : Addr) (F : Nat) (tf : Tok) (D2 : Addr) : List (Str × Value) := [(Str.ofString "script", .ref a), (Str.ofString "numbers", .ref D1), (Str.ofString "first", .int (F : Int) tf), (Str.ofString "signs", .ref D2)]
noncomputable abbrev lawD3 (D2 : Addr) (svs : List Value) (D1 : Addr) (ys1 : List Value) (L : Addr) : List (Addr × Kn) := [(D2, .lst svs), (D1, .lst ys1), (L + 1 + 1, cell0K), (L + 1, cell0K), (208, .ob (tabObj #[]))]
noncomputable abbrev lawL4 (a : Addr) (D1 : Addr) (F : Nat) (tf : Tok) (D2 : Addr) (D3 : Addr) : List (Str × Value) := [(Str.ofString "script", .ref a), (Str.ofString "numbers", .ref D1), (Str.ofString "first", .int (F : Int) tf), (Str.ofString "signs", .ref D2), (Str.ofString "modes", .ref D3)]
noncomputable abbrev lawD4 (D3 : Addr) (mv : List Value) (D1 : Addr) (ys1 : List Value) (L : Addr) (p : Nat) (q : Nat) (tp : Tok) : List (Addr × Kn) := [(D3, .lst mv), (D1, .lst ys1), (L + 1 + 1, cell0K), (L + 1, cellK (.str (S [p, q]) tp)), (208, .ob (tabObj #[]))]
noncomputable abbrev lawL5 (a : Addr) (D1 : Addr) (F : Nat) (tf : Tok) (D2 : Addr) (D4 : Addr) : List (Str × Value) := [(Str.ofString "script", .ref a), (Str.ofString "numbers", .ref D1), (Str.ofString "first", .int (F : Int) tf), (Str.ofString "signs", .ref D2), (Str.ofString "modes", .ref D4)]
noncomputable abbrev lawD5 (D4 : Addr) (mv : List Value) (L : Addr) (p : Nat) (q : Nat) (tp : Tok) : List (Addr × Kn) := [(D4, .lst mv), (L + 1 + 1, cell0K), (L + 1, cellK (.str (S [p, q]) tp)), (208, .ob (tabObj #[]))]
noncomputable abbrev lawD6 (D4 : Addr) (mv2 : List Value) (L : Addr) (p : Nat) (q : Nat) (tp : Tok) : List (Addr × Kn) := [(D4, .lst mv2), (L + 1 + 1, cell0K), (L + 1, cellK (.str (S [p, q]) tp)), (208, .ob (tabObj #[]))]
noncomputable abbrev lawL6 (a : Addr) (D1 : Addr) (F : Nat) (tf : Tok) (D2 : Addr) (D4 : Addr) (k : Nat) (tw : Tok) (D5 : Addr) : List (Str × Value) := [(Str.ofString "script", .ref a), (Str.ofString "numbers", .ref D1), (Str.ofString "first", .int (F : Int) tf), (Str.ofString "signs", .ref D2), (Str.ofString "modes", .ref D4), (Str.ofString "wish", .int (k : Int) tw), (Str.ofString "words", .ref D5)]
noncomputable abbrev lawD7 (D5 : Addr) (ws : List (Value × Nat)) (D4 : Addr) (mv2 : List Value) (L : Addr) (p : Nat) (q : Nat) (tp : Tok) (tl : List (Addr × Kn)) : List (Addr × Kn) := ((D5, .lst (ws.map (·.1))) :: (D4, .lst mv2) :: (L + 1 + 1, cell0K) :: (L + 1, cellK (.str (S [p, q]) tp)) :: (208, .ob (tabObj #[])) :: tl)
noncomputable abbrev lawD8 (D6 : Addr) (hv : List Value) (D5 : Addr) (ws : List (Value × Nat)) (D4 : Addr) (mv2 : List Value) (L : Addr) (p : Nat) (q : Nat) (tp : Tok) (tl : List (Addr × Kn)) : List (Addr × Kn) := ((D6, .lst hv) :: (D5, .lst (ws.map (·.1))) :: (D4, .lst mv2) :: (L + 1 + 1, cellK (.ref D6)) :: (L + 1, cellK (.str (S [p, q]) tp)) :: (208, .ob (tabObj #[])) :: tl)
noncomputable abbrev lawL7 (a : Addr) (D1 : Addr) (F : Nat) (tf : Tok) (D2 : Addr) (D4 : Addr) (k : Nat) (tw : Tok) (D5 : Addr) (D7 : Addr) : List (Str × Value) := [(Str.ofString "script", .ref a), (Str.ofString "numbers", .ref D1), (Str.ofString "first", .int (F : Int) tf), (Str.ofString "signs", .ref D2), (Str.ofString "modes", .ref D4), (Str.ofString "wish", .int (k : Int) tw), (Str.ofString "words", .ref D5), (Str.ofString "told", .ref D7)]
noncomputable abbrev lawD9 (D7 : Addr) (tv : List Value) (D6 : Addr) (hv : List Value) (D4 : Addr) (mv2 : List Value) (L : Addr) (p : Nat) (q : Nat) (tp : Tok) : List (Addr × Kn) := [(D7, .lst tv), (D6, .lst hv), (D4, .lst mv2), (L + 1 + 1, cellK (.ref D6)), (L + 1, cellK (.str (S [p, q]) tp)), (208, .ob (tabObj #[]))]
noncomputable abbrev lawL8 (a : Addr) (D1 : Addr) (F : Nat) (tf : Tok) (D2 : Addr) (D4 : Addr) (k : Nat) (tw : Tok) (D5 : Addr) (D7 : Addr) (D8 : Addr) : List (Str × Value) := [(Str.ofString "script", .ref a), (Str.ofString "numbers", .ref D1), (Str.ofString "first", .int (F : Int) tf), (Str.ofString "signs", .ref D2), (Str.ofString "modes", .ref D4), (Str.ofString "wish", .int (k : Int) tw), (Str.ofString "words", .ref D5), (Str.ofString "told", .ref D7), (Str.ofString "spots", .ref D8)]
noncomputable abbrev lawD10 (D8 : Addr) (sv : List Value) (D7 : Addr) (tv : List Value) (D6 : Addr) (hv : List Value) (L : Addr) : List (Addr × Kn) := [(D8, .lst sv), (D7, .lst tv), (D6, .lst hv), (L + 1 + 1, cellK (.ref D6)), (208, .ob (tabObj #[]))]
noncomputable abbrev lawL9 (a : Addr) (D1 : Addr) (F : Nat) (tf : Tok) (D2 : Addr) (D4 : Addr) (k : Nat) (tw : Tok) (D5 : Addr) (D7 : Addr) (D8 : Addr) (D9 : Addr) : List (Str × Value) := [(Str.ofString "script", .ref a), (Str.ofString "numbers", .ref D1), (Str.ofString "first", .int (F : Int) tf), (Str.ofString "signs", .ref D2), (Str.ofString "modes", .ref D4), (Str.ofString "wish", .int (k : Int) tw), (Str.ofString "words", .ref D5), (Str.ofString "told", .ref D7), (Str.ofString "spots", .ref D8), (Str.ofString "rising", .ref D9)]
noncomputable abbrev lawD11 (D9 : Addr) (rv : List Value) (D8 : Addr) (sv : List Value) (D7 : Addr) (tv : List Value) (D6 : Addr) (hv : List Value) (L : Addr) : List (Addr × Kn) := [(D9, .lst rv), (D8, .lst sv), (D7, .lst tv), (D6, .lst hv), (L + 1 + 1, cellK (.ref D6)), (208, .ob (tabObj #[]))]
noncomputable abbrev lawL10 (a : Addr) (D1 : Addr) (F : Nat) (tf : Tok) (D2 : Addr) (D4 : Addr) (k : Nat) (tw : Tok) (D5 : Addr) (D7 : Addr) (D8 : Addr) (D9 : Addr) (D10 : Addr) : List (Str × Value) := [(Str.ofString "script", .ref a), (Str.ofString "numbers", .ref D1), (Str.ofString "first", .int (F : Int) tf), (Str.ofString "signs", .ref D2), (Str.ofString "modes", .ref D4), (Str.ofString "wish", .int (k : Int) tw), (Str.ofString "words", .ref D5), (Str.ofString "told", .ref D7), (Str.ofString "spots", .ref D8), (Str.ofString "rising", .ref D9), (Str.ofString "falling", .ref D10)]
noncomputable abbrev lawD12 (D10 : Addr) (fv : List Value) (D9 : Addr) (rv : List Value) (D8 : Addr) (sv : List Value) (D6 : Addr) (hv : List Value) (L : Addr) : List (Addr × Kn) := [(D10, .lst fv), (D9, .lst rv), (D8, .lst sv), (D6, .lst hv), (L + 1 + 1, cellK (.ref D6)), (208, .ob (tabObj #[]))]
noncomputable abbrev lawD13 (c1 : Addr) (D10 : Addr) (fv : List Value) (D8 : Addr) (sv : List Value) (D6 : Addr) (hv : List Value) (L : Addr) : List (Addr × Kn) := [(208, .ob (tabObj (#[] ++ #[rawInt 341, rawInt 63, .ref c1]))), (D10, .lst fv), (D8, .lst sv), (D6, .lst hv), (L + 1 + 1, cellK (.ref D6))]
noncomputable abbrev lawD14 (pre : List (Addr × Kn)) (D10 : Addr) (fv : List Value) (D9 : Addr) (rv : List Value) (D8 : Addr) (sv : List Value) (D6 : Addr) (hv : List Value) (L : Addr) : List (Addr × Kn) := (pre ++ (208, .ob (tabObj #[])) :: [(D10, .lst fv), (D9, .lst rv), (D8, .lst sv), (D6, .lst hv), (L + 1 + 1, cellK (.ref D6))])
noncomputable abbrev lawD15 (pre : List (Addr × Kn)) (c1 : Addr) (D10 : Addr) (fv : List Value) (D8 : Addr) (sv : List Value) (D6 : Addr) (hv : List Value) (L : Addr) : List (Addr × Kn) := (pre ++ (208, .ob (tabObj (#[] ++ #[rawInt 341, rawInt 63, .ref c1]))) :: [(D10, .lst fv), (D8, .lst sv), (D6, .lst hv), (L + 1 + 1, cellK (.ref D6))])
theorem law_holds : PySem.Challenge.rw_il0040_01.Holds := by
  w_on
  refine holds_law said fun said => ?_
  refine holds_open (q := Mine.hd.view_39) (loose := [Str.ofString "bytes_types", Str.ofString "a2b_base64", Str.ofString "b64decode", Str.ofString "nsmallest", Str.ofString "nlargest", Str.ofString "_filemode_table"]) (Xt := fun s => xlAt Mine.hd.view_39 lawV s && recOk (RowW.records lawW) s) (XP := XL Mine.hd.view_39 lawV) (Yf := Hook.obs lawK) (Ya := Hook.val lawK) (YP := Hook.says lawK) (N := 2672) left (Hook.of lawK) (Hook.keeps lawK) (fun s e => xl_of s (Bool.and_eq_true_iff.mp e).1) XL.keeps (by rfl) (by rfl) (by rfl) (fun s e => recFacts_of (Bool.and_eq_true_iff.mp e).2) (by rfl) (by first | assumption | decide +kernel) (by decide +kernel) ⟨rfl, rfl, rfl, rfl, rfl, by decide +kernel⟩ prom ?hc
  unfold lawK lawV
  k_go0
  rename_i w s₀ s₁ mg mb G Y fa o pm doc ho hg X V T B TE TW hcd ns hs hlay0 hL1 hr1 hl2 as1 as2 a vs as3 hL2 ra rw1 r0 hI hr2 hcond hcond2 hD h₁ tk₁ w1 w0 hc1 hc0 X0 X' T' K' F' N' l0
  have G0 : Gnd w mg mb (ghostOf s₁.heap [(210, 208)]) := ⟨X', T'.g, T'.b, T'.builtins, T'.nolimit⟩
  have GG : GW w mg mb { s₁ with heap := ghostOf s₁.heap [(210, 208)] } [] := fun h' hk => G0.keeps fun b o e => hk b o e (by simp)
  have S0 : St { s₁ with heap := ghostOf s₁.heap [(210, 208)] } [] s₁.heap.objs.size [(Str.ofString "script", .ref a)] [(s₁.heap.objs.size + 1 + 1, cell0K), (s₁.heap.objs.size + 1, cell0K), (208, .ob (tabObj #[]))] { s₁ with heap := h₁, toks := tk₁ } :=
    st_enter ⟨_, _, rfl⟩ F' N' (hc1.trans rfl) (hc0.trans rfl) (show (s₁.heap.objs.size + 1 + 1 : Nat) ≠ s₁.heap.objs.size + 1 by walk_at "lia") (show (s₁.heap.objs.size + 1 + 1 : Nat) ≠ 208 by walk_at "lia") (show (s₁.heap.objs.size + 1 : Nat) ≠ 208 by walk_at "lia") (fun x v e => by
      rw [List.lookup_cons] at e
      by_cases hx : x = Str.ofString "script"
      · subst hx
        simp at e
        rw [← e]
        rfl
      · have : (x == Str.ofString "script") = false := by simpa using hx
        simp [this] at e)
  have hbm := T'.bmain
  have hns : ns.length ≤ 63 := by walk_at "lia"
  have hl : (ghostOf s₁.heap [(210, 208)]).IsList a vs.toArray := lifted
  have codeHd : CodeHd (ghostOf s₁.heap [(210, 208)]) 210 208 := codeHd
  generalize hbase : ({ s₁ with heap := ghostOf s₁.heap [(210, 208)] } : Shared) = base at GG S0
  have hbh : base.heap = ghostOf s₁.heap [(210, 208)] := by rw [← hbase]
  rw [← hbh] at hbm hl codeHd
  generalize s₁.heap.objs.size = L at S0 ⊢
  clear X V T B TE TW hcd ra rw1 r0 hr2 hD X0 K' hs hL1 hr1 hl2 Y ho G
  refine wpAny_mono (law_shell (Q := fun fl s' => fl = .ret (.bool true) ∧ Out base [] [(208, .pr fun o => ∃ ps, o = tabObj ps)] s') (E := fun _ _ => False) fun A hA hfr hu => ?_) ?_ (fun _ _ h => h.elim)
  rotate_left
  · rintro fl s' ⟨rfl, O⟩
    have hgs : base.gens = #[] := by rw [← hbase]; exact hg
    obtain ⟨h', tk', hs'⟩ := O.sw
    obtain ⟨o', ho', ps', hps'⟩ := O.hold _ (.head _)
    refine ⟨⟨.inl ⟨.bool true, .bool true, [], rfl, raisesW_false (by wrow_none_raised), .bool true, (by wrow_post), fun _ => ⟨List.nodup_nil, fun _ h => nomatch h⟩⟩, (fun b o e => O.keep b o e (by simp)), (by rw [hs']), (by rw [hs']; exact hgs)⟩, ⟨ps', by rw [ho', hps']⟩, True.intro⟩
  · refine x_then (fun s' => Ex2 fun D ys => St base [] L (lawL1 a D) (lawD1 D ys L) s' ∧ IntsAre ys ((numsOf ns).map fun n : Nat => (n : Int))) ?_ ?_
    · refine PostFor.intro fun Qt hQt => ?_
      refine x_assign_comp rfl (fun _ => rfl) rfl (by decide) rfl (by decide) rfl rfl ?_
      repeat' (walk_at "evW")
      refine sl_upto ?_
      repeat' (walk_at "evW")
      refine ⟨7, _, vs, _, _, _, _, _, rfl, by assumption, St.list (by assumption) hl (by simp), by rw [hI.length]; walk_at "lia", fun D' s2 S2 => ?_⟩
      refine it_list S2 (S2.isList (.head _)) ?_
      intro I s3 S3 _
      refine comp_ints (g := fun n => (((n.fmod 1000000).toNat : Nat) : Int)) hA.h GG (fun _ => rfl) (fun _ => rfl) S3 (.inl (.head _)) (hI.take 7) (by rw [List.length_take]; walk_at "lia") (by simp) ?_ ?_
      · intro C E' s₀ W led y t1 s' Q' hy G' SC hq
        repeat' (walk_at "evW")
        refine c_int ?_
        repeat' (walk_at "evW")
        refine op_pow (by assumption) (by decide) (by decide) (by decide) ?_
        intro t5 s5 S5
        rw [show ((10 : Int) ^ (6 : Int).toNat) = 1000000 from by decide]
        refine op_mod S5 (by decide) fun t s' S' => ?_
        have hq := hq t s' S'
        rw [show (((y.fmod 1000000).toNat : Nat) : Int) = y.fmod 1000000 from Int.toNat_of_nonneg (by rw [Int.fmod_eq_emod_of_nonneg _ (by decide)]; exact Int.emod_nonneg _ (by decide))] at hq
        exact hq
      · intro D ys s4 hys S4
        refine ⟨rfl, _, by walk_at "sets", fun s5 S5 => ?_⟩
        try refine post_use hQt (PN.next ?_)
        exact ⟨D, ys, S5.subled (.cons_cons _ (List.sublist_cons_self ..)), by unfold numsOf; rw [List.map_map]; exact hys⟩
    rintro s1 ⟨D1, ys1, S1, hI1⟩
    clear S0
    generalize hF : firstOf ns = F
    generalize hM : modesOf ns = modes
    have hmlen := modes_len ns
    have hmlt := modes_lt ns
    rw [hM] at hmlen hmlt
    refine x_then (fun s' => ∃ (tf : Tok), St base [] L (lawL2 a D1 F tf) (lawD2 D1 ys1 L) s') ?_ ?_
    · refine PostFor.intro fun Qt hQt => ?_
      repeat' (walk_at "evW")
      refine e_list ?_
      repeat' (walk_at "evW")
      rename Tok => t143
      refine ⟨_, _, _, _, _, by assumption, by simp, fun D2 s2 S2 => ?_⟩
      refine op_ladd S2 (S2.isList (.tail _ (.head _))) (S2.isList (.head _)) (by rw [hI1.length]; have := nums_len ns; simp; walk_at "lia") ?_
      intro D3 s3 S3
      repeat' (walk_at "evW")
      have hI3 := IntsAre.append hI1 (.cons (143 : Int) t143 .nil)
      obtain ⟨t0, h0⟩ := first_at (ns := ns) (by rw [List.map_append]; exact hI3)
      refine sub_lstT (v := .int (F : Int) t0) (by assumption) (.head _) (by decide) (by decide) (by rw [← hF]; exact h0) (by with_unfolding_all rfl) ?_
      repeat' (walk_at "evW")
      try refine post_use hQt (PN.next ?_)
      exact ⟨t0, St.subled (by assumption) (.cons _ (List.sublist_cons_self ..))⟩
    rintro s2 ⟨tf, S2⟩
    clear S1
    refine x_then (fun s' => Ex2 fun (D2 : Addr) (svs : List Value) => St base [] L (lawL3 a D1 F tf D2) (lawD3 D2 svs D1 ys1 L) s' ∧ Chs svs signs7) ?_ ?_
    · refine PostFor.intro fun Qt hQt => ?_
      repeat' (walk_at "evW")
      refine e_list ?_
      repeat' (walk_at "evW")
      refine ⟨_, _, _, _, _, by assumption, by simp, fun D2 s3 S3 => ?_⟩
      repeat' (walk_at "evW")
      try refine post_use hQt (PN.next ?_)
      exact ⟨D2, _, by assumption, signs_are⟩
    rintro s3 ⟨D2, svs, S3, hsv⟩
    clear S2
    have hk1 : F % 7 < 7 := Nat.mod_lt _ (by decide)
    have hk2 : F / 7 % 6 < 6 := Nat.mod_lt _ (by decide)
    obtain ⟨hp, hq, hpq⟩ := pair_ok _ hk1 _ hk2
    refine x_then (fun s' => ∃ (tp : Tok), St base [] L (lawL3 a D1 F tf D2) [(D1, .lst ys1), (L + 1 + 1, cell0K), (L + 1, cellK (.str (S [signs7.getD (F % 7) 0, (signs7.eraseIdx (F % 7)).getD (F / 7 % 6) 0]) tp)), (208, .ob (tabObj #[]))] s') ?_ ?_
    · refine PostFor.intro fun Qt hQt => ?_
      obtain ⟨c1, tc1, e1, e1'⟩ := hsv.at (i := F % 7) hk1
      obtain ⟨c2, tc2, e2, e2'⟩ := (hsv.erase (F % 7)).at (i := F / 7 % 6) (by rw [List.length_eraseIdx, if_pos (show F % 7 < signs7.length from hk1)]; exact hk2)
      have hc1 : c1 = signs7.getD (F % 7) 0 := by rw [List.getD_eq_getElem?_getD, e1']; rfl
      have hc2 : c2 = (signs7.eraseIdx (F % 7)).getD (F / 7 % 6) 0 := by rw [List.getD_eq_getElem?_getD, e2']; rfl
      have hsl : svs.length = 7 := hsv.length
      repeat' (walk_at "evW")
      refine m_pop (by assumption) (.head _) ?_
      repeat' (walk_at "evW")
      refine c_pop (by assumption) .here e1 (by walk_at "lia") ?_
      intro s4 S4
      repeat' (walk_at "evW")
      refine m_pop (by assumption) (.head _) ?_
      repeat' (walk_at "evW")
      refine c_pop (by assumption) .here e2 (by have := List.length_eraseIdx_le svs (F % 7); walk_at "lia") ?_
      intro s5 S5
      refine op_sadd S5 (by simp) ?_
      intro t6 s6 S6
      refine st_cell S6 (c := L + 1) rfl (.there (.there (.there .here))) (fun o ho => ⟨none, ho⟩) rfl rfl ?_
      intro s7 S7
      subst hc1 hc2
      try refine post_use hQt (PN.next ?_)
      exact ⟨t6, S7.drop⟩
    rintro s4 ⟨tp, S4⟩
    clear S3
    generalize signs7.getD (F % 7) 0 = p at hp hpq S4
    generalize (signs7.eraseIdx (F % 7)).getD (F / 7 % 6) 0 = q at hq hpq S4
    refine x_then (fun s' => Ex2 fun (D3 : Addr) (mv : List Value) => St base [] L (lawL4 a D1 F tf D2 D3) (lawD4 D3 mv D1 ys1 L p q tp) s' ∧ IntsAre mv (([33056, 33028, 16832, 49280, 35200, 512] : List Nat).map fun n : Nat => (n : Int))) ?_ ?_
    · refine PostFor.intro fun Qt hQt => ?_
      repeat' (walk_at "evW")
      refine e_list ?_
      repeat' (walk_at "evW")
      refine ⟨_, _, _, _, _, by assumption, by simp, fun D3 s5 S5 => ?_⟩
      repeat' (walk_at "evW")
      try refine post_use hQt (PN.next ?_)
      exact ⟨D3, _, by assumption, .cons _ _ (.cons _ _ (.cons _ _ (.cons _ _ (.cons _ _ (.cons _ _ .nil)))))⟩
    rintro s5 ⟨D3, mv, S5, hmv⟩
    clear S4
    refine x_then (fun s' => Ex2 fun (D4 : Addr) (mv : List Value) => St base [] L (lawL5 a D1 F tf D2 D4) (lawD5 D4 mv L p q tp) s' ∧ IntsAre mv (modes.map fun n : Nat => (n : Int))) ?_ ?_
    · refine PostFor.intro fun Qt hQt => ?_
      repeat' (walk_at "evW")
      refine e_comp (fun _ => rfl) rfl (by decide) rfl (by decide) ?_
      repeat' (walk_at "evW")
      refine sl_from ?_
      repeat' (walk_at "evW")
      refine ⟨1, _, ys1, _, _, _, _, _, rfl, by assumption, St.isList (by assumption) (.tail _ (.head _)), by rw [hI1.length, List.length_map]; have := nums_len ns; walk_at "lia", fun D' s6 S6 => ?_⟩
      refine it_list S6 (S6.isList (.head _)) ?_
      intro I s7 S7 _
      refine comp_ints (g := fun n => n.fmod 65536) hA.h GG (fun _ => rfl) (fun _ => rfl) S7 (.inl (.head _)) (hI1.drop 1) (by rw [List.length_drop, List.length_map]; have := nums_len ns; walk_at "lia") (by simp) ?_ ?_
      · intro C E' s₀ W led y t1 s' Q' hy G' SC hq
        repeat' (walk_at "evW")
        exact op_mod (by assumption) (by decide) hq
      · intro D5 ys s8 hys S8
        refine op_ladd S8 (S8.isList (.tail _ (.tail _ (.head _)))) (S8.isList (.head _)) (by rw [hmv.length, hys.length]; have := nums_len ns; simp; walk_at "lia") ?_
        intro D6 s9 S9
        repeat' (walk_at "evW")
        have S10 := ‹St base [] L _ ((D6, _) :: _) _›
        refine ⟨D6, _, S10.subled (.cons_cons _ (.cons _ (.cons _ (.cons _ (List.sublist_cons_self ..))))), ?_⟩
        rw [← hM, ← modes_ints]
        exact IntsAre.append hmv hys
    rintro s6 ⟨D4, mv2, S6, hmv2⟩
    clear S5 hmv
    have hmvl : mv2.length = modes.length := by rw [hmv2.length, List.length_map]
    refine x_then (fun s' => ∃ (tw : Tok), St base [] L [(Str.ofString "script", .ref a), (Str.ofString "numbers", .ref D1), (Str.ofString "first", .int (F : Int) tf), (Str.ofString "signs", .ref D2), (Str.ofString "modes", .ref D4), (Str.ofString "wish", .int ((F / 42 % (modes.length + 2) : Nat) : Int) tw)] (lawD6 D4 mv2 L p q tp) s') ?_ ?_
    · refine PostFor.intro fun Qt hQt => ?_
      repeat' (walk_at "evW")
      refine len_lst (by assumption) (.head _) (by walk_at "lia") ?_
      intro t7 s7 S7
      repeat' (walk_at "evW")
      have S7b := ‹St base [] L _ _ _›
      rw [hmvl]
      refine op_modN (x := F / 42) (k := modes.length + 2) S7b (by walk_at "lia") ?_
      intro t8 s8 S8
      repeat' (walk_at "evW")
      try refine post_use hQt (PN.next ?_)
      exact ⟨t8, by assumption⟩
    rintro s7 ⟨tw, S7⟩
    clear S6
    generalize hK : F / 42 % (modes.length + 2) = k at S7
    have hk14 : k ≤ 13 := by rw [← hK]; have := Nat.mod_lt (F / 42) (show 0 < modes.length + 2 by walk_at "lia"); walk_at "lia"
    refine x_then (fun s' => Ex3 fun (D5 : Addr) (ws : List (Value × Nat)) (tl : List (Addr × Kn)) => And3 (St base [] L (lawL6 a D1 F tf D2 D4 k tw D5) (lawD7 D5 ws D4 mv2 L p q tp tl) s') (WordsIn tl ws) (ws.map (·.2) = modes)) ?_ ?_
    · refine PostFor.intro fun Qt hQt => ?_
      refine x_assign_comp rfl (fun _ => rfl) rfl (by decide) rfl (by decide) rfl rfl ?_
      repeat' (walk_at "evW")
      refine it_list S7 (S7.isList (.head _)) ?_
      intro I s8 S8 _
      have S8 : St base [] L _ ([(I, litK D4 0)] ++ ((D4, .lst mv2) :: (L + 1 + 1, cell0K) :: (L + 1, cellK (.str (S [p, q]) tp)) :: [(208, .ob (tabObj #[]))])) s8 := S8
      have hneI : D4 ≠ I := fun e => by
        have nd := S8.nd
        rw [List.map_append, List.nodup_append] at nd
        exact nd.2.2 I (by simp) D4 (by simp) e.symm
      have hlC : ∀ C lc led s', St s8 ([(I, litK D4 0)].map (·.1)) C lc led s' → s'.heap.IsList D4 mv2.toArray := fun C lc led s' SC => SC.list (S8.isList (.tail _ (.head _))) (by simp only [List.map_cons, List.map_nil, List.mem_singleton]; exact hneI)
      have GC := GG.comp S8
      refine ⟨base, [], L, _, _, _, fun m ys lw' lc s' => Ex3 fun (i : Nat) (tl : List (Addr × Kn)) (ws : List (Value × Nat)) => And5 (lw' = (I, litK D4 i) :: tl) (i + m = modes.length) (ys = ws.map (·.1)) (WordsIn tl ws) (ws.map (·.2) = modes.take i),
        fun ys lw' s' => Ex2 fun (tl : List (Addr × Kn)) (ws : List (Value × Nat)) => And4 (lw' = tl) (ys = ws.map (·.1)) (WordsIn tl ws) (ws.map (·.2) = modes), modes.length, S8, by simp, ?_, ?_, ?_, ?_, ?_⟩
      · intro s' _
        try refine post_use hQt (PN.next ?_)
        exact ⟨0, [], [], rfl, by walk_at "lia", rfl, WordsIn.nil, rfl⟩
      · intro C D s' Q₁ E'' SC hq
        exact it_lit SC (.tail _ (.head _)) hq
      · rintro C D m s' E'' lc ys lw' SC ⟨i, tl, ws, rfl, him, rfl, hwi, hwm⟩
        rcases m with _ | m
        · refine nx_lit_end SC hA.h (.tail _ (.head _)) (.there .here) (hlC _ _ _ _ SC) (by rw [List.getElem?_eq_none]; walk_at "lia") ?_
          intro s9 S9
          try refine post_use hQt (PN.next ?_)
          exact ⟨lc, _, tl, S9, tl, ws, rfl, rfl, hwi, by rw [hwm, List.take_of_length_le (by walk_at "lia")]⟩
        · have hi : i < modes.length := by walk_at "lia"
          obtain ⟨t9, ht9⟩ := hmv2.get i ((modes[i] : Nat) : Int) (by rw [List.getElem?_map, List.getElem?_eq_getElem hi]; rfl)
          refine nx_lit SC (.there .here) (hlC _ _ _ _ SC) ht9 ?_
          intro s9 S9
          have S9 := S9.noloc
          refine go_name ?_
          repeat' (walk_at "evW")
          refine tests0 ?_
          refine ift ?_
          repeat' (walk_at "evW")
          refine c_law_word (n := 50) (GW.nil (GC.next (by assumption))) (hA.le (by walk_at "lia")) (hmlt _ (List.getElem_mem hi)) ?_
          intro Dw wv s10 O10 hf10 hcw
          have S10 := St.outNew (by assumption) O10 hf10
          have hyl : (ws.map (·.1)).length ≤ 100 := by
            have := congrArg List.length hwm
            rw [List.length_map, List.length_take] at this
            rw [List.length_map]; walk_at "lia"
          refine c_append S10 (.there .here) (by walk_at "lia") ?_
          intro s11 S11
          have S12 := S11.perm mid2
          refine ⟨m, _, _, _, by walk_at "lia", S12, i + 1, _, ws ++ [(.ref Dw, modes[i])], rfl, by walk_at "lia", by simp, hwi.snoc hcw, ?_⟩
          rw [List.map_append, hwm, List.take_add_one, List.getElem?_eq_getElem hi]
          rfl
      · rintro ys lw s' s'' hF _
        exact hF
      · rintro D ys lw' s' ⟨tl, ws, rfl, rfl, hwi, hwm⟩ SD
        refine ⟨rfl, _, by walk_at "sets", fun s9 S9 => ?_⟩
        have S10 := S9.perm (List.Perm.cons _ (List.perm_append_comm (l₁ := (D4, .lst mv2) :: (L + 1 + 1, cell0K) :: (L + 1, cellK (.str (S [p, q]) tp)) :: [(208, .ob (tabObj #[]))]) (l₂ := lw')))
        try refine post_use hQt (PN.next ?_)
        exact ⟨D, ws, lw', S10, hwi, hwm⟩
    rintro s8 ⟨D5, ws, tl, S8, hwi, hwm⟩
    clear S7
    refine x_then (fun s' => Ex2 fun (D6 : Addr) (hv : List Value) => St base [] L (lawL6 a D1 F tf D2 D4 k tw D5) (lawD8 D6 hv D5 ws D4 mv2 L p q tp tl) s' ∧ BytesAre hv (modes.map fun m => byteL (be9 (numOf p q m)))) ?_ ?_
    · refine PostFor.intro fun Qt hQt => ?_
      refine x_assign rfl ?_
      refine e_comp (fun _ => rfl) rfl (by decide) rfl (by decide) ?_
      repeat' (walk_at "evW")
      refine c_zip_ll S8 (S8.isList (.tail _ (.head _))) (S8.isList (.head _)) ?_
      intro z TI TO i1 i2 s9 S9
      refine it_zip S9 (.head _) ?_
      have S9 : St base [] L _ ([(z, zK TI TO .none), (TO, pK), (TI, .ob (pairO (.ref i1) (.ref i2))), (i2, litK D5 0), (i1, litK D4 0)] ++ ((D5, .lst (ws.map (·.1))) :: (D4, .lst mv2) :: (L + 1 + 1, cell0K) :: (L + 1, cellK (.str (S [p, q]) tp)) :: (208, .ob (tabObj #[])) :: tl)) s9 := S9
      have hoff : ∀ r ∈ (D5, Kn.lst (ws.map (·.1))) :: (D4, Kn.lst mv2) :: (L + 1 + 1, cell0K) :: (L + 1, cellK (.str (S [p, q]) tp)) :: (208, Kn.ob (tabObj #[])) :: tl, r.1 ∉ ([(z, zK TI TO .none), (TO, pK), (TI, .ob (pairO (.ref i1) (.ref i2))), (i2, litK D5 0), (i1, litK D4 0)] : List (Addr × Kn)).map (·.1) := fun r hr hm => by
        have nd := S9.nd
        rw [List.map_append, List.nodup_append] at nd
        exact nd.2.2 _ hm _ (List.mem_map_of_mem (f := (·.1)) hr) rfl
      have hLst : ∀ (Dx : Addr) (its : List Value), (Dx, Kn.lst its) ∈ (D5, Kn.lst (ws.map (·.1))) :: (D4, Kn.lst mv2) :: (L + 1 + 1, cell0K) :: (L + 1, cellK (.str (S [p, q]) tp)) :: (208, Kn.ob (tabObj #[])) :: tl → ∀ C lc led s', St s9 (([(z, zK TI TO .none), (TO, pK), (TI, .ob (pairO (.ref i1) (.ref i2))), (i2, litK D5 0), (i1, litK D4 0)] : List (Addr × Kn)).map (·.1)) C lc led s' → s'.heap.IsList Dx its.toArray :=
        fun Dx its hm C lc led s' SC => SC.list (S9.isList (List.mem_append_right _ hm)) (hoff _ hm)
      have hcC := fun C => S9.cellC (C := C) (c := L + 1) (v := .str (S [p, q]) tp) (by simp)
      have GC := GG.comp S9
      have hwsl : ws.length = modes.length := by rw [← hwm, List.length_map]
      refine ⟨base, [], L, _, _, _, fun m ys lw' lc s' => ∃ (i : Nat), And3 (lw' = [(z, zK TI TO .none), (TO, pK), (TI, .ob (pairO (.ref i1) (.ref i2))), (i2, litK D5 i), (i1, litK D4 i)]) (i + m = modes.length) (BytesAre ys ((modes.take i).map fun m => byteL (be9 (numOf p q m)))),
        fun ys lw' s' => lw' = [] ∧ BytesAre ys (modes.map fun m => byteL (be9 (numOf p q m))), modes.length, S9, by simp, ?_, ?_, ?_, ?_, ?_⟩
      · intro s' _
        try refine post_use hQt (PN.next ?_)
        exact ⟨0, rfl, by walk_at "lia", .nil⟩
      · intro C D s' Q₁ E'' SC hq
        exact it_zip SC (.tail _ (.head _)) hq
      · rintro C D m s' E'' lc ys lw' SC ⟨i, rfl, him, hys⟩
        have SC := SC.perm (led' := [(z, zK TI TO .none), (TO, pK), (TI, .ob (pairO (.ref i1) (.ref i2))), (i2, litK D5 i), (i1, litK D4 i), (D, .lst ys)]) mid5
        rcases m with _ | m
        · refine nx_zip_end1 hA.h SC (.tail _ (.head _)) (.there .here) (nextE_list (fun led s => hLst D4 mv2 (.tail _ (.head _)) _ lc led s) (by rw [List.getElem?_eq_none]; walk_at "lia")) ?_
          intro s10 S10
          try refine post_use hQt (PN.next ?_)
          exact ⟨lc, ys, [], S10.drop, rfl, by rwa [List.take_of_length_le (by walk_at "lia")] at hys⟩
        · have hi : i < modes.length := by walk_at "lia"
          have hmi := List.getElem_mem hi
          obtain ⟨t9, ht9⟩ := hmv2.get i ((modes[i] : Nat) : Int) (by rw [List.getElem?_map, List.getElem?_eq_getElem hi]; rfl)
          obtain ⟨Dw, wv, e1, hmw, hcw⟩ := hwi ws[i] (List.getElem_mem (by walk_at "lia"))
          have hwi2 : (ws[i]'(by walk_at "lia")).2 = modes[i] := by
            have : (ws.map (·.2))[i]'(by rw [List.length_map]; walk_at "lia") = modes[i] := by simp [hwm]
            simpa using this
          rw [hwi2] at hcw
          have hx2 : (ws.map (·.1))[i]? = some (.ref Dw) := by
            rw [List.getElem?_map, List.getElem?_eq_getElem (by walk_at "lia")]
            exact congrArg some e1
          refine nx_zip SC (.there .here) .here (nextR_list (fun led s => hLst D4 mv2 (.tail _ (.head _)) _ lc led s) ht9) (nextR_list (fun led s => hLst D5 _ (.head _) _ lc led s) hx2) ?_
          rintro T x y s10 rfl rfl hgo
          refine hgo _ _ _ _ _ fun s11 S11 => ?_
          have S11 := S11.noloc
          clear hgo SC
          refine asg_tup2 S11 hA.h (S11.tupO (.head _)) (by walk_at "sets") (by walk_at "sets") ?_ rfl rfl rfl rfl
          intro s12 S12
          have hwl : wv.length ≤ 12 := by rw [hcw.length]; exact Nat.le_trans (word_len _) (by decide)
          have hLw := hLst Dw wv (.tail _ (.tail _ (.tail _ (.tail _ (.tail _ hmw)))))
          refine tests0 ?_
          refine ift ?_
          repeat' (walk_at "evW")
          refine c_filemode (n := 50) (GW.nil (GC.next (by assumption))) (hA.le (by walk_at "lia")) ?_
          intro t13 s13 O13
          have S13 := St.out (by assumption) O13
          clear S12 O13
          repeat' (walk_at "evW")
          refine len_base (by assumption) (hLw _ _ _ _ (by assumption)) (by walk_at "lia") ?_
          intro t14 s14 S14
          refine op_sub12 S14 hwl ?_
          intro t15 s15 S15
          rw [sg_A]
          refine op_smul S15 (by walk_at "lia") ?_
          intro t16 s16 S16
          refine op_sadd S16 (by
            have := (cipher_len (mode := modes[i])).1
            unfold cipher at this
            rw [List.length_append] at this
            rw [List.length_replicate] at this ⊢
            rw [hcw.length]
            exact this) ?_
          intro t17 s17 S17
          rw [hcw.length]
          repeat' (walk_at "evW")
          refine evE_cell (c := L + 1) rfl (hcC C _ _ _ S17) ?_ rfl rfl (by decide)
          repeat' (walk_at "evW")
          refine c_b64decode (x := cipher modes[i]) (p := p) (q := q) (n := 50) (GW.nil (GC.next (by assumption))) (hA.le (by walk_at "lia")) cipher_alph cipher_len.2 cipher_len.1 hp hq hpq (by rw [b64_law (hmlt _ hmi) hp hq hpq]) ?_
          intro t18 s18 O18
          have S18 := S17.out O18
          clear S17 S16 S15 S14 S13 O18
          rw [b64_law (hmlt _ hmi) hp hq hpq]
          have hysl : ys.length = i := by rw [hys.length]; simp; walk_at "lia"
          refine c_append S18 (.there (.there (.there (.there (.there (.there .here)))))) (by walk_at "lia") ?_
          intro s19 S19
          have S20 := S19.drop.perm mid5.symm
          refine ⟨m, _, _, _, by walk_at "lia", S20, i + 1, rfl, by walk_at "lia", ?_⟩
          rw [List.take_add_one, List.getElem?_eq_getElem hi, List.map_append]
          exact hys.snoc
      · rintro ys lw s' s'' hF _
        exact hF
      · rintro D ys lw' s' ⟨rfl, hys⟩ SD
        refine st_cell SD (c := L + 1 + 1) rfl (.there (.there (.there .here))) (fun o ho => ⟨none, ho⟩) rfl rfl ?_
        intro s9 S9
        try refine post_use hQt (PN.next ?_)
        exact ⟨D, ys, S9, hys⟩
    rintro s9 ⟨D6, hv, S9, hhv⟩
    clear S8
    refine x_then (fun s' => Ex2 fun (D7 : Addr) (tv : List Value) => St base [] L (lawL7 a D1 F tf D2 D4 k tw D5 D7) (lawD9 D7 tv D6 hv D4 mv2 L p q tp) s' ∧ IntsAre tv (modes.map fun m => ((numOf p q m : Nat) : Int))) ?_ ?_
    · refine PostFor.intro fun Qt hQt => ?_
      refine x_assign_comp rfl (fun _ => rfl) rfl (by decide) rfl (by decide) rfl rfl ?_
      repeat' (walk_at "evW")
      refine it_list S9 (S9.isList (.tail _ (.head _))) ?_
      intro I s10 S10 _
      have S10 : St base [] L _ ([(I, litK D5 0)] ++ ((D6, .lst hv) :: (D5, .lst (ws.map (·.1))) :: (D4, .lst mv2) :: (L + 1 + 1, cellK (.ref D6)) :: (L + 1, cellK (.str (S [p, q]) tp)) :: (208, .ob (tabObj #[])) :: tl)) s10 := S10
      have hoff : ∀ r ∈ (D6, Kn.lst hv) :: (D5, Kn.lst (ws.map (·.1))) :: (D4, Kn.lst mv2) :: (L + 1 + 1, cellK (.ref D6)) :: (L + 1, cellK (.str (S [p, q]) tp)) :: (208, Kn.ob (tabObj #[])) :: tl, r.1 ∉ ([(I, litK D5 0)] : List (Addr × Kn)).map (·.1) := fun r hr hm => by
        have nd := S10.nd
        rw [List.map_append, List.nodup_append] at nd
        exact nd.2.2 _ hm _ (List.mem_map_of_mem (f := (·.1)) hr) rfl
      have hLst : ∀ (Dx : Addr) (its : List Value), (Dx, Kn.lst its) ∈ (D6, Kn.lst hv) :: (D5, Kn.lst (ws.map (·.1))) :: (D4, Kn.lst mv2) :: (L + 1 + 1, cellK (.ref D6)) :: (L + 1, cellK (.str (S [p, q]) tp)) :: (208, Kn.ob (tabObj #[])) :: tl → ∀ C lc led s', St s10 (([(I, litK D5 0)] : List (Addr × Kn)).map (·.1)) C lc led s' → s'.heap.IsList Dx its.toArray :=
        fun Dx its hm C lc led s' SC => SC.list (S10.isList (List.mem_append_right _ hm)) (hoff _ hm)
      have hcC := fun C => S10.cellC (C := C) (c := L + 1) (v := .str (S [p, q]) tp) (by simp)
      have GC := GG.comp S10
      have hwsl : ws.length = modes.length := by rw [← hwm, List.length_map]
      refine ⟨base, [], L, _, _, _, fun m ys lw' lc s' => ∃ (i : Nat), And3 (lw' = [(I, litK D5 i)]) (i + m = modes.length) (IntsAre ys ((modes.take i).map fun m => ((numOf p q m : Nat) : Int))),
        fun ys lw' s' => lw' = [] ∧ IntsAre ys (modes.map fun m => ((numOf p q m : Nat) : Int)), modes.length, S10, by simp, ?_, ?_, ?_, ?_, ?_⟩
      · intro s' _
        try refine post_use hQt (PN.next ?_)
        exact ⟨0, rfl, by walk_at "lia", .nil⟩
      · intro C D s' Q₁ E'' SC hq
        exact it_lit SC (.tail _ (.head _)) hq
      · rintro C D m s' E'' lc ys lw' SC ⟨i, rfl, him, hys⟩
        rcases m with _ | m
        · refine nx_lit_end SC hA.h (.tail _ (.head _)) (.there .here) (hLst D5 _ (.tail _ (.head _)) _ _ _ _ SC) (List.getElem?_eq_none (by rw [List.length_map]; walk_at "lia")) ?_
          intro s11 S11
          try refine post_use hQt (PN.next ?_)
          exact ⟨lc, ys, [], S11, rfl, by rwa [List.take_of_length_le (by walk_at "lia")] at hys⟩
        · have hi : i < modes.length := by walk_at "lia"
          obtain ⟨Dw, wv, e1, hmw, hcw⟩ := hwi ws[i] (List.getElem_mem (by walk_at "lia"))
          have hwi2 : (ws[i]'(by walk_at "lia")).2 = modes[i] := by
            have : (ws.map (·.2))[i]'(by rw [List.length_map]; walk_at "lia") = modes[i] := by simp [hwm]
            simpa using this
          rw [hwi2] at hcw
          have hx2 : (ws.map (·.1))[i]? = some (.ref Dw) := by
            rw [List.getElem?_map, List.getElem?_eq_getElem (by walk_at "lia")]
            exact congrArg some e1
          refine nx_lit SC (.there .here) (hLst D5 _ (.tail _ (.head _)) _ _ _ _ SC) hx2 ?_
          intro s11 S11
          have S11 := S11.noloc
          refine go_name ?_
          repeat' (walk_at "evW")
          refine tests0 ?_
          refine ift ?_
          have hLw := hLst Dw wv (.tail _ (.tail _ (.tail _ (.tail _ (.tail _ (.tail _ hmw))))))
          repeat' (walk_at "evW")
          refine evE_cell (c := L + 1) rfl (hcC C _ _ _ (by assumption)) ?_ rfl rfl (by decide)
          repeat' (walk_at "evW")
          refine c_law_number (Wd := Dw) (vs := wv) (cs := word modes[i]) (p := p) (q := q) (n := 50) (GW.nil (GC.next (by assumption))) (hA.le (by walk_at "lia")) (hLw _ _ _ _ (by assumption)) hcw (word_mem (hmlt _ (List.getElem_mem hi))) (Nat.le_trans (word_len _) (by decide)) hp hq hpq ?_
          intro t12 s12 O12
          have S12 := St.out (by assumption) O12
          have hysl : ys.length = i := by rw [hys.length]; simp; walk_at "lia"
          refine c_append S12 .here (by walk_at "lia") ?_
          intro s13 S13
          refine ⟨m, _, _, _, by walk_at "lia", S13, i + 1, rfl, by walk_at "lia", ?_⟩
          rw [List.take_add_one, List.getElem?_eq_getElem hi, List.map_append]
          exact IntsAre.snocN hys
      · rintro ys lw s' s'' hF _
        exact hF
      · rintro D ys lw' s' ⟨rfl, hys⟩ SD
        refine ⟨rfl, _, by walk_at "sets", fun s11 S11 => ?_⟩
        refine post_use hQt (PN.next ?_)
        refine ⟨D, ys, S11.subled (.cons_cons _ (.cons_cons _ (.cons _ (.cons_cons _ (.cons_cons _ (.cons_cons _ (.cons_cons _ (List.nil_sublist _)))))))), hys⟩
    rintro s10 ⟨D7, tv, S10, htv⟩
    clear S9 hwi hwm
    have hnl : ∀ m ∈ modes, numOf p q m < 256 ^ 9 := fun m hm => numOf_lt (hmlt m hm)
    have htvl : tv.length = modes.length := by rw [htv.length, List.length_map]
    refine x_then (fun s' => St base [] L (lawL7 a D1 F tf D2 D4 k tw D5 D7) (lawD9 D7 tv D6 hv D4 mv2 L p q tp) s') ?_ ?_
    · refine PostFor.intro fun Qt hQt => ?_
      repeat' (walk_at "evW")
      refine e_compC (kx := Str.ofString "value") (fun _ => rfl) rfl (fun _ _ => rfl) (fun _ => rfl) rfl (by decide) ?_
      repeat' (walk_at "evW")
      refine it_list S10 (S10.isList (.head _)) ?_
      intro I s11 S11 _
      have S11 : St base [] L _ ([(I, litK D7 0)] ++ [(D7, .lst tv), (D6, .lst hv), (D4, .lst mv2), (L + 1 + 1, cellK (.ref D6)), (L + 1, cellK (.str (S [p, q]) tp)), (208, .ob (tabObj #[]))]) s11 := S11
      have hneI : D7 ≠ I := fun e => by
        have nd := S11.nd
        rw [List.map_append, List.nodup_append] at nd
        exact nd.2.2 I (by simp) D7 (by simp) e.symm
      have hlC : ∀ C lc led s', St s11 ([(I, litK D7 0)].map (·.1)) C lc led s' → s'.heap.IsList D7 tv.toArray := fun C lc led s' SC => SC.list (S11.isList (.tail _ (.head _))) (by simp only [List.map_cons, List.map_nil, List.mem_singleton]; exact hneI)
      have GC := GG.comp S11
      refine ⟨base, [], L, _, _, _, fun K m ys lw' lc s' => Ex2 fun (i : Nat) (kn : Kn) => And4 (lw' = [(K, kn), (I, litK D7 i)]) ((∀ o, kn.ok o → ∃ u, o.data = .cell u)) (i + m = modes.length) (BytesAre ys ((modes.take i).map fun m => byteL (be9 (numOf p q m)))),
        fun ys lw' s' => Ex2 fun (K : Addr) (kn : Kn) => lw' = [(K, kn)] ∧ BytesAre ys (modes.map fun m => byteL (be9 (numOf p q m))), modes.length, S11, by simp, ?_, ?_, ?_, ?_, ?_⟩
      · intro K s' _
        try refine post_use hQt (PN.next ?_)
        exact ⟨0, cell0K, rfl, fun o ho => ⟨none, ho⟩, by walk_at "lia", .nil⟩
      · intro C D K s' Q₁ E'' SC hq
        exact it_lit SC (.tail _ (.tail _ (.head _))) hq
      · rintro K C D m s' E'' lc ys lw' SC ⟨i, kn, rfl, hkn, him, hys⟩
        rcases m with _ | m
        · refine nx_lit_end SC hA.h (.tail _ (.tail _ (.head _))) (.there (.there .here)) (hlC _ _ _ _ SC) (by rw [List.getElem?_eq_none]; walk_at "lia") ?_
          intro s12 S12
          try refine post_use hQt (PN.next ?_)
          exact ⟨lc, ys, _, S12, K, kn, rfl, by rwa [List.take_of_length_le (by walk_at "lia")] at hys⟩
        · have hi : i < modes.length := by walk_at "lia"
          obtain ⟨t9, ht9⟩ := htv.get i ((numOf p q modes[i] : Nat) : Int) (by rw [List.getElem?_map, List.getElem?_eq_getElem hi]; rfl)
          generalize hN : numOf p q modes[i] = N at ht9
          refine nx_lit SC (.there (.there .here)) (hlC _ _ _ _ SC) ht9 ?_
          intro s12 S12
          refine go_name ?_
          refine asg_name ?_
          refine st_cell S12 (c := K) rfl (.there .here) hkn rfl rfl ?_
          intro s13 S13
          have S13 := S13.noloc
          refine tests0 ?_
          refine ift ?_
          repeat' (walk_at "evW")
          refine e_comp (fun _ => rfl) rfl (by decide) rfl (by decide) ?_
          repeat' (first | walk_at "evW" | with_reducible refine wpAny_UnaryOp ?_ | (with_reducible refine' op_neg ?kS ?_; (case kS => with_reducible assumption); intro t_ s_ S_))
          refine c_range3 (by assumption) rfl ?_
          intro r t14 t15 t16 s14 S14
          refine it_range S14 (.head _) (by decide) ?_
          intro I2 s15 S15
          rw [show Builtin.Range.rangeSize 8 (-1) (-1) = 9 from by decide] at S15
          have S15 : St s11 ([(I, litK D7 0)].map (·.1)) C [] ([(I2, .ob (ritO 8 9 (-1)))] ++ [(r, .ob (rangeO 8 (-1) (-1) t14 t15 t16)), (D, .lst ys), (K, cellK (.int (N : Int) t9)), (I, litK D7 (i + 1))]) s15 := S15
          have hcK := fun C2 => S15.cellC (C := C2) (c := K) (v := .int (N : Int) t9) (by simp)
          refine ⟨s11, [I], C, _, _, _, fun m ys lw' lc s' => ∃ (j : Nat), And3 (lw' = [(I2, .ob (ritO (8 - (j : Int)) (9 - (j : Int)) (-1)))]) (j + m = 9) (IntsAre ys (((List.range j).map fun j => N / 256 ^ (8 - j) % 256).map fun n : Nat => (n : Int))),
            fun ys lw' s' => lw' = [] ∧ IntsAre ys ((be9 N).map fun n : Nat => (n : Int)), 9, S15, (fun a ha => by
              rw [List.mem_singleton.mp ha]
              obtain ⟨o, ho, _⟩ := S15.kn (.tail _ (.tail _ (.tail _ (.tail _ (.head _)))))
              try refine post_use hQt (PN.next ?_)
              exact ⟨o, ho⟩), ?_, ?_, ?_, ?_, ?_⟩
          · intro s' _
            try refine post_use hQt (PN.next ?_)
            exact ⟨0, rfl, by walk_at "lia", .nil⟩
          · intro C2 D2 s' Q₁ E'' SC hq
            exact it_rit SC (.tail _ (.head _)) hq
          · rintro C2 D2 m2 s' E2 lc ys2 lw' SC ⟨j, rfl, hjm, hys2⟩
            rcases m2 with _ | m2
            · refine nx_rit_end SC hA.h (.tail _ (.head _)) (.there .here) (by walk_at "lia") ?_
              intro s16 S16
              refine ⟨lc, ys2, [], S16, rfl, ?_⟩
              rw [show j = 9 by walk_at "lia", be9_range] at hys2
              exact hys2
            · refine nx_rit SC (.there .here) (by walk_at "lia") ?_
              intro t16 s16 S16
              have S16 := S16.noloc
              refine go_name ?_
              repeat' (walk_at "evW")
              refine tests0 ?_
              refine ift ?_
              repeat' (walk_at "evW")
              refine evE_cell (c := K) rfl (hcK C2 _ _ _ (by assumption)) ?_ rfl rfl (by decide)
              repeat' (walk_at "evW")
              refine op_powS (y := 8) (k := 256) (by assumption) (show j ≤ 8 by walk_at "lia") (by decide) (by decide) ?_
              intro t17 s17 S17
              have hp2 := pow256 j (by walk_at "lia")
              refine op_fdivB (k := 256 ^ (8 - j)) S17 hp2.1 hp2.2 ?_
              intro t18 s18 S18
              repeat' (walk_at "evW")
              have S19 := S_
              have hysl2 : ys2.length = j := by rw [hys2.length]; simp
              refine c_append S19 .here (by walk_at "lia") ?_
              intro s20 S20
              refine ⟨m2, _, _, _, by walk_at "lia", S20, j + 1, ?_, by walk_at "lia", ?_⟩
              · rw [show (8 : Int) - (j : Int) + -1 = 8 - ((j + 1 : Nat) : Int) by walk_at "lia", show (9 : Int) - (j : Int) - 1 = 9 - ((j + 1 : Nat) : Int) by walk_at "lia"]
              · rw [List.range_succ, List.map_append, List.map_append]
                exact IntsAre.snocN hys2
          · rintro ys lw s' s'' hF _
            exact hF
          · rintro D2 ys2 lw' s' ⟨rfl, hys2⟩ SD
            repeat' (walk_at "evW")
            refine c_bytes_ints hA.h SD (SD.isList (.head _)) hys2 (be9_lt N) (by rw [hys2.length]; simp [be9]) ?_
            intro t17 s17 S17
            have hysl : ys.length = i := by rw [hys.length]; simp; walk_at "lia"
            refine c_append S17 (.there (.there .here)) (by walk_at "lia") ?_
            intro s18 S18
            refine ⟨m, _, _, _, by walk_at "lia", S18.drop.drop, i + 1, cellK (.int (N : Int) t9), rfl, fun o ho => ⟨_, ho⟩, by walk_at "lia", ?_⟩
            rw [List.take_add_one, List.getElem?_eq_getElem hi, List.map_append, ← hN]
            exact hys.snoc
      · rintro ys lw s' s'' hF _
        exact hF
      · rintro D ys lw' s' ⟨K, kn, rfl, hys⟩ SD
        refine ne_bytes (SD.isList (.tail _ (.tail _ (.tail _ (.head _))))) (SD.isList (.head _)) hhv hys (by walk_at "lia") ?_
        repeat' (walk_at "evW")
        exact SD.drop.drop
    intro s11 S11
    clear S10
    refine x_then (fun s' => Ex2 fun (D8 : Addr) (sv : List Value) => St base [] L (lawL8 a D1 F tf D2 D4 k tw D5 D7 D8) (lawD10 D8 sv D7 tv D6 hv L) s' ∧ IntsAre sv ((List.range modes.length).map fun n : Nat => (n : Int))) ?_ ?_
    · refine PostFor.intro fun Qt hQt => ?_
      repeat' (walk_at "evW")
      refine len_lst S11 (.tail _ (.tail _ (.head _))) (by walk_at "lia") ?_
      intro t12 s12 S12
      rw [hmvl]
      repeat' (walk_at "evW")
      refine c_range1 (by assumption) ?_
      intro r t0 t1 s13 S13
      repeat' (walk_at "evW")
      refine c_list_range hA.h S13 (.head _) (by walk_at "lia") ?_
      intro D8 sv s14 hsv S14
      repeat' (walk_at "evW")
      have S15 := ‹St base [] L _ ((D8, _) :: _) _›
      try refine post_use hQt (PN.next ?_)
      exact ⟨D8, sv, S15.subled (.cons_cons _ (.cons _ (.cons_cons _ (.cons_cons _ (.cons _ (.cons_cons _ (.cons _ (List.Sublist.refl _)))))))), hsv⟩
    rintro s12 ⟨D8, sv, S12, hsv⟩
    clear S11
    have hsvl : sv.length = modes.length := by rw [hsv.length]; simp
    generalize hnum : (fun i : Nat => ((numOf p q (modes.getD i 0) : Nat) : Int)) = num
    have hnum' : ∀ i : Nat, ((numOf p q (modes.getD i 0) : Nat) : Int) = num i := congrFun hnum
    refine x_then (fun s' => Ex3 fun (D9 : Addr) (rv : List Value) (rise : List Nat) => And4 (St base [] L (lawL9 a D1 F tf D2 D4 k tw D5 D7 D8 D9) (lawD11 D9 rv D8 sv D7 tv D6 hv L) s') (IntsAre rv (rise.map fun n : Nat => (n : Int))) (rise.Perm (List.range modes.length)) (rise.Pairwise (Lx num))) ?_ ?_
    · refine PostFor.intro fun Qt hQt => ?_
      refine x_pick2 (g := fun y => y.2) hA.h rfl rfl rfl (fun _ => rfl) rfl (by decide) rfl (by decide) (by decide) (fun _ => rfl) (fun _ => rfl) (fun _ => rfl) ?_ ?_
      · intro C E' s₀ W led y t1 t2 s' Q' S' hq
        repeat' (walk_at "evW")
        exact hq _ _ S'
      · repeat' (walk_at "evW")
        refine c_zip_ll S12 (S12.isList (.tail _ (.head _))) (S12.isList (.head _)) ?_
        intro z TI TO i1 i2 s13 S13
        repeat' (walk_at "evW")
        refine c_sorted_zip hA.h htv hsv (by simp) (by rw [List.length_map]; walk_at "lia") (by rw [List.length_map]; walk_at "lia") (.tail _ (.head _)) (.head _) S13 ?_
        intro D9 ps tl rp s14 hti hpm hpp hpw S14
        rw [zip_nums] at hpm
        simp only [hnum'] at hpm
        have hpl : ps.length = modes.length := by
          have := congrArg List.length hpm
          rw [List.length_map, List.length_map, List.length_range] at this
          exact this
        have hat := pp_at hpm
        have hrise := rising_ok hat hpl hpp hpw
        rw [hpl] at hpp
        have hlt : ∀ i ∈ rp, i < modes.length := fun i hi => List.mem_range.mp (hpp.mem_iff.mp hi)
        repeat' (walk_at "evW")
        refine ⟨base, [], L, _, _, D9, ps, rp, tl, rfl, S14, by simp, hti, fun q hq => List.mem_append_left _ hq, fun i hi => by rw [hpl]; exact hlt i hi, by rw [hpp.length_eq, List.length_range]; walk_at "lia", fun D' ys s' hys S' => ⟨rfl, _, by walk_at "sets", fun s'' S'' => ?_⟩⟩
        have e : (rp.map fun i => (ppAt ps i).2) = rp.map fun n : Nat => (n : Int) := List.map_congr_left fun i hi => by rw [hat i (hlt i hi)]
        rw [e] at hys
        try refine post_use hQt (PN.next ?_)
        exact ⟨D', ys, rp, S''.subled (.cons_cons _ (.cons _ (List.sublist_append_right ..))), hys, hpp, hrise⟩
    rintro s13 ⟨D9, rv, rise, S13, hrv, hrp, hrw⟩
    clear S12
    refine x_then (fun s' => Ex3 fun (D10 : Addr) (fv : List Value) (fall : List Nat) => And4 (St base [] L (lawL10 a D1 F tf D2 D4 k tw D5 D7 D8 D9 D10) (lawD12 D10 fv D9 rv D8 sv D6 hv L) s') (IntsAre fv (fall.map fun n : Nat => (n : Int))) (fall.Perm (List.range modes.length)) (fall.Pairwise (Lx (sg true num)))) ?_ ?_
    · refine PostFor.intro fun Qt hQt => ?_
      refine x_pick2 (g := fun y => -y.2) hA.h rfl rfl rfl (fun _ => rfl) rfl (by decide) rfl (by decide) (by decide) (fun _ => rfl) (fun _ => rfl) (fun _ => rfl) ?_ ?_
      · intro C E' s₀ W led y t1 t2 s' Q' S' hq
        repeat' (first | walk_at "evW" | with_reducible refine wpAny_UnaryOp ?_ | (with_reducible refine' op_neg ?kS ?_; (case kS => with_reducible assumption); intro t_ s_ S_))
        exact hq _ _ (by assumption)
      · repeat' (walk_at "evW")
        refine e_comp (fun _ => rfl) rfl (by decide) rfl (by decide) ?_
        repeat' (walk_at "evW")
        refine c_zip_ll S13 (S13.isList (.tail _ (.tail _ (.head _)))) (S13.isList (.tail _ (.head _))) ?_
        intro z TI TO i1 i2 s14 S14
        refine it_zip S14 (.head _) ?_
        have S14 : St base [] L _ ([(z, zK TI TO .none), (TO, pK), (TI, .ob (pairO (.ref i1) (.ref i2))), (i2, litK D8 0), (i1, litK D7 0)] ++ [(D9, .lst rv), (D8, .lst sv), (D7, .lst tv), (D6, .lst hv), (L + 1 + 1, cellK (.ref D6)), (208, .ob (tabObj #[]))]) s14 := S14
        have hl7 := fun C => S14.listM (C := C) (D := D7) (its := tv) (by simp)
        have hl8 := fun C => S14.listM (C := C) (D := D8) (its := sv) (by simp)
        refine ⟨base, [], L, _, _, _, fun m ys lw' lc s' => Ex3 fun (i : Nat) (tl : List (Addr × Kn)) (ps : List PP) => And5 (lw' = (z, zK TI TO .none) :: (TO, pK) :: (TI, .ob (pairO (.ref i1) (.ref i2))) :: (i2, litK D8 i) :: (i1, litK D7 i) :: tl) (i + m = modes.length) (ys = ps.map (·.1)) (PairIn tl ps) (ps.map (·.2) = (List.range i).map fun i : Nat => (num i, -(i : Int))),
          fun ys lw' s' => Ex2 fun (tl : List (Addr × Kn)) (ps : List PP) => And4 (lw' = tl) (ys = ps.map (·.1)) (PairIn tl ps) (ps.map (·.2) = (List.range modes.length).map fun i : Nat => (num i, -(i : Int))), modes.length, S14, by simp, ?_, ?_, ?_, ?_, ?_⟩
        · intro s' _
          try refine post_use hQt (PN.next ?_)
          exact ⟨0, [], [], rfl, by walk_at "lia", rfl, (fun _ h => nomatch h), rfl⟩
        · intro C D s' Q₁ E'' SC hq
          exact it_zip SC (.tail _ (.head _)) hq
        · rintro C D m s' E'' lc ys lw' SC ⟨i, tl, ps, rfl, him, rfl, hti, hpk⟩
          have SC := SC.perm (led' := (z, zK TI TO .none) :: (TO, pK) :: (TI, .ob (pairO (.ref i1) (.ref i2))) :: (i2, litK D8 i) :: (i1, litK D7 i) :: (D, .lst (ps.map (·.1))) :: tl) mid5
          rcases m with _ | m
          · refine nx_zip_end1 hA.h SC (.tail _ (.head _)) (.there .here) (nextE_list (fun led s => hl7 _ lc led s) (List.getElem?_eq_none (by walk_at "lia"))) ?_
            intro s15 S15
            try refine post_use hQt (PN.next ?_)
            exact ⟨lc, _, _, S15.drop, tl, ps, rfl, rfl, hti, by rw [hpk, show i = modes.length by walk_at "lia"]⟩
          · have hi : i < modes.length := by walk_at "lia"
            obtain ⟨t9, ht9⟩ := htv.get i (num i) (by rw [← hnum', List.getElem?_map, List.getElem?_eq_getElem hi, List.getD_eq_getElem?_getD, List.getElem?_eq_getElem hi]; rfl)
            obtain ⟨_, t10, ht10⟩ := ints_at hsv i (by walk_at "lia")
            refine nx_zip SC (.there .here) .here (nextR_list (fun led s => hl7 _ lc led s) ht9) (nextR_list (fun led s => hl8 _ lc led s) ht10) ?_
            rintro T x y s15 rfl rfl hgo
            refine hgo _ _ _ _ _ fun s16 S16 => ?_
            have S16 := S16.noloc
            clear hgo SC
            refine asg_tup2 S16 hA.h (S16.tupO (.head _)) (by walk_at "sets") (by walk_at "sets") ?_ rfl rfl rfl rfl
            intro s17 S17
            refine tests0 ?_
            refine ift ?_
            refine e_tuple ?_
            repeat' (first | walk_at "evW" | with_reducible refine wpAny_UnaryOp ?_ | (with_reducible refine' op_neg ?kS ?_; (case kS => with_reducible assumption); intro t_ s_ S_))
            rename Tok => t18
            have S18 := S_
            refine ⟨_, _, _, _, _, S18, by simp, fun T2 s19 S19 => ?_⟩
            have hpsl : ps.length = i := by
              have := congrArg List.length hpk
              simpa only [List.length_map, List.length_range] using this
            refine c_append S19 (.there (.there (.there (.there (.there (.there (.there .here))))))) (by rw [List.length_map]; walk_at "lia") ?_
            intro s20 S20
            have S21 := S20.subled (.cons_cons _ (List.sublist_cons_self ..))
            have S22 := S21.perm (led' := (D, .lst (ps.map (·.1) ++ [.ref T2])) :: (z, zK TI TO .none) :: (TO, pK) :: (TI, .ob (pairO (.ref i1) (.ref i2))) :: (i2, litK D8 (i + 1)) :: (i1, litK D7 (i + 1)) :: (T2, .ob (pairO (.int (num i) t9) (.int (-(i : Int)) t18))) :: tl) ((mid5.cons _).trans ((List.Perm.swap ..).trans (mid5.symm.cons _)))
            refine ⟨m, _, _, _, by walk_at "lia", S22, i + 1, _, ps ++ [(.ref T2, (num i, -(i : Int)))], rfl, by walk_at "lia", by simp, hti.snoc (T := T2) (y := (num i, -(i : Int))) (t1 := t9) (t2 := t18), by rw [List.map_append, hpk, List.range_succ, List.map_append]; rfl⟩
        · rintro ys lw s' s'' hF _
          exact hF
        · rintro D ys lw' s' ⟨tl, ps, rfl, rfl, hti, hpk⟩ SD
          have hpl : ps.length = modes.length := by
            have := congrArg List.length hpk
            simpa only [List.length_map, List.length_range] using this
          have hat := pp_at hpk
          have hPs := hti.isPs SD fun q hq => .tail _ (List.mem_append_left _ hq)
          repeat' (walk_at "evW")
          refine c_sorted_rev (b := true) (its := ps.map (·.1)) (P := fun s => IsPs s.heap ps) rfl SD (SD.isList (.head _)) (by rw [List.length_map]; walk_at "lia") (by rw [List.length_map]; walk_at "lia") (srt_p (ps := ps) (by walk_at "lia")) (fun s' hk q hq => (hPs q hq).keeps fun b o e _ => hk b o e) ?_
          intro D10 rp s15 hpp hpw S15
          rw [List.length_map] at hpp
          have hfall := falling_ok hat hpl hpp hpw
          rw [hpl] at hpp
          have hlt : ∀ i ∈ rp, i < modes.length := fun i hi => List.mem_range.mp (hpp.mem_iff.mp hi)
          repeat' (walk_at "evW")
          refine ⟨base, [], L, _, _, D10, ps, rp, lw', rfl, S15, by simp, hti, fun q hq => .tail _ (List.mem_append_left _ hq), fun i hi => by rw [hpl]; exact hlt i hi, by rw [hpp.length_eq, List.length_range]; walk_at "lia", fun D' ys s' hys S' => ⟨rfl, _, by walk_at "sets", fun s'' S'' => ?_⟩⟩
          have e : (rp.map fun i => -(ppAt ps i).2) = rp.map fun n : Nat => (n : Int) := List.map_congr_left fun i hi => by rw [hat i (hlt i hi)]; exact Int.neg_neg _
          rw [e] at hys
          try refine post_use hQt (PN.next ?_)
          exact ⟨D', ys, rp, S''.subled (.cons_cons _ (.cons _ (.cons _ ((List.Sublist.cons_cons _ (.cons_cons _ (.cons _ (List.Sublist.refl _)))).trans (List.sublist_append_right ..))))), hys, hpp, hfall⟩
    rintro s14 ⟨D10, fv, fall, S14, hfv, hfp, hfw⟩
    clear S13
    generalize hks : (fun i : Nat => byteL (be9 (numOf p q (modes.getD i 0)))) = ks
    have hks' : ∀ i : Nat, byteL (be9 (numOf p q (modes.getD i 0))) = ks i := congrFun hks
    have hnl2 : ∀ i < modes.length, numOf p q (modes.getD i 0) < 256 ^ 9 := fun i hi => hnl _ (by rw [List.getD_eq_getElem?_getD, List.getElem?_eq_getElem hi]; exact List.getElem_mem hi)
    have hlt : ∀ i < modes.length, ∀ j < modes.length, ltB (ks i) (ks j) = decide (num i < num j) := fun i hi j hj => by
      rw [← hks', ← hks', ← hnum', ← hnum', ltB_be9 (hnl2 i hi) (hnl2 j hj)]
      simp
    have hat : ∀ i < modes.length, ∃ t, hv[i]? = some (.bytes (ks i).toArray t) := fun i hi => by
      have := hhv.at (i := i) (by rw [List.length_map]; exact hi)
      rw [← hks' i]
      rw [List.getD_eq_getElem?_getD, List.getElem?_map, List.getElem?_eq_getElem hi] at this
      rw [List.getD_eq_getElem?_getD, List.getElem?_eq_getElem hi]
      exact this
    have hN : 2 ≤ modes.length ∧ modes.length < 64 := by walk_at "lia"
    refine x_then (fun s' => ∃ (c1 : Addr), St base [] L (lawL10 a D1 F tf D2 D4 k tw D5 D7 D8 D9 D10) (lawD13 c1 D10 fv D8 sv D6 hv L) s') ?_ ?_
    · refine PostFor.intro fun Qt hQt => ?_
      have S14 := S14.perm (led' := (208, .ob (tabObj #[])) :: [(D10, .lst fv), (D9, .lst rv), (D8, .lst sv), (D6, .lst hv), (L + 1 + 1, cellK (.ref D6))]) mid5.symm
      repeat' (walk_at "evW")
      refine cw_fn_kw GG ⟨_, _, rfl, rfl⟩ rfl rfl ?_
      repeat' (walk_at "evW")
      refine ite_post (Q0 := fun v s' => ∃ pre, Pick D8 v pre ∧ St base [] L (lawL10 a D1 F tf D2 D4 k tw D5 D7 D8 D9 D10) (lawD14 pre D10 fv D9 rv D8 sv D6 hv L) s') ?_ ?_
      · split
        · repeat' (walk_at "evW")
          try refine post_use hQt (PN.next ?_)
          exact ⟨[], .inl ⟨rfl, rfl⟩, by assumption⟩
        · repeat' (walk_at "evW")
          refine c_iter ?_
          refine it_list (by assumption) (St.isList (by assumption) (.tail _ (.tail _ (.tail _ (.head _))))) ?_
          intro I s15 S15 _
          repeat' (walk_at "evW")
          try refine post_use hQt (PN.next ?_)
          exact ⟨[_], .inr ⟨I, rfl, rfl⟩, S15⟩
      · rintro v s15 ⟨pre, HP, S15⟩
        have S15 := S15.perm (led' := (208, .ob (tabObj #[])) :: (pre ++ [(D10, .lst fv), (D9, .lst rv), (D8, .lst sv), (D6, .lst hv), (L + 1 + 1, cellK (.ref D6))])) List.perm_middle.symm
        repeat' (walk_at "evW")
        refine e_lambda rfl rfl rfl rfl S15 codeHd GG hbm True.intro rfl ?_
        intro f c1 ctv s16 S16
        repeat' (walk_at "evW")
        refine law_small (x := Str.ofString "spot") (cell := L + 1 + 1) (ks := ks) (hv := hv) (N := modes.length) (num := num) GG hA hfr rfl (fun e => by cases e) HP S16 (.tail _ (.tail _ (.head _))) (.tail _ (.tail _ (.tail _ (.head _)))) (.tail _ (.tail _ (.tail _ (.tail _ (.head _))))) hsv hN (by walk_at "lia") hlt (fun _ _ => rfl) rfl (by decide) rfl rfl rfl ?_ ?_
        · intro A' E' s' s'' L' i t Q' hi hC hl6 S' hq
          obtain ⟨t2, ht2⟩ := hat i hi
          obtain ⟨oc, hoc, hdc⟩ := hC
          repeat' (walk_at "evW")
          refine evE_free (c := L + 1 + 1) rfl ⟨oc, S'.keep _ _ hoc (by simp), hdc⟩ ?_ rfl rfl (by decide) (by decide)
          repeat' (walk_at "evW")
          have hl7 := S'.list hl6 (by simp)
          refine tail_b hl7.typeIs list_getitem_lookup (wpAny_getItem_list hl7 (by walk_at "lia") (by walk_at "lia") (by simpa using ht2) (hq t2 _ S')) (by with_unfolding_all rfl)
        · intro D11 ov out s17 S17 hov hsel
          repeat' (walk_at "evW")
          refine sl_upto ?_
          repeat' (walk_at "evW")
          refine ⟨k, _, rv, _, _, _, _, _, rfl, S17, S17.isList (.tail _ (.tail _ (.tail _ (.head _)))), by rw [hrv.length, List.length_map, hrp.length_eq, List.length_range]; walk_at "lia", fun D' s18 S18 => ?_⟩
          repeat' (walk_at "evW")
          have e : (out.map fun n : Nat => (n : Int)) = (rise.map fun n : Nat => (n : Int)).take k := by rw [Sel.uniq hsel (Sel.of_sorted hrw hrp), List.map_take]
          refine ne_ints (S18.isList (.tail _ (.head _))) (S18.isList (.head _)) hov (hrv.take k) (by walk_at "lia") ?_
          rw [decide_eq_true e, Bool.not_true]
          repeat' (walk_at "evW")
          try refine post_use hQt (PN.next ?_)
          exact ⟨c1, S18.subled (.cons _ (.cons _ (.cons_cons _ (.cons_cons _ (.cons _ (List.Sublist.refl _))))))⟩
    rintro s15 ⟨c1, S15⟩
    clear S14
    repeat' (walk_at "evW")
    refine cw_fn_kw GG ⟨_, _, rfl, rfl⟩ rfl rfl ?_
    repeat' (walk_at "evW")
    refine ite_post (Q0 := fun v s' => ∃ pre, Pick D8 v pre ∧ St base [] L (lawL10 a D1 F tf D2 D4 k tw D5 D7 D8 D9 D10) (lawD15 pre c1 D10 fv D8 sv D6 hv L) s') ?_ ?_
    · split
      · repeat' (walk_at "evW")
        refine c_iter ?_
        refine it_list (by assumption) (St.isList (by assumption) (.tail _ (.tail _ (.head _)))) ?_
        intro I s16 S16 _
        repeat' (walk_at "evW")
        try refine post_use hQt (PN.next ?_)
        exact ⟨[_], .inr ⟨I, rfl, rfl⟩, S16⟩
      · repeat' (walk_at "evW")
        try refine post_use hQt (PN.next ?_)
        exact ⟨[], .inl ⟨rfl, rfl⟩, by assumption⟩
    · rintro v s16 ⟨pre, HP, S16⟩
      have S16 := S16.perm (led' := (208, .ob (tabObj (#[] ++ #[rawInt 341, rawInt 63, .ref c1]))) :: (pre ++ [(D10, .lst fv), (D8, .lst sv), (D6, .lst hv), (L + 1 + 1, cellK (.ref D6))])) List.perm_middle.symm
      repeat' (walk_at "evW")
      refine e_lambda rfl rfl rfl rfl S16 codeHd GG hbm (by simp [TriplesOk, rawInt]) (by simp [codeAmong, rawInt]) ?_
      intro f c2 ctv s17 S17
      repeat' (walk_at "evW")
      refine law_large (x := Str.ofString "spot") (cell := L + 1 + 1) (ks := ks) (hv := hv) (N := modes.length) (num := num) GG hA hfr rfl (fun e => by cases e) HP S17 (.tail _ (.head _)) (.tail _ (.tail _ (.head _))) (.tail _ (.tail _ (.tail _ (.head _)))) hsv hN (by walk_at "lia") hlt (fun _ _ => rfl) rfl (by decide) rfl rfl rfl ?_ ?_
      · intro A' E' s' s'' L' i t Q' hi hC hl6 S' hq
        obtain ⟨t2, ht2⟩ := hat i hi
        obtain ⟨oc, hoc, hdc⟩ := hC
        repeat' (walk_at "evW")
        refine evE_free (c := L + 1 + 1) rfl ⟨oc, S'.keep _ _ hoc (by simp), hdc⟩ ?_ rfl rfl (by decide) (by decide)
        repeat' (walk_at "evW")
        have hl7 := S'.list hl6 (by simp)
        refine tail_b hl7.typeIs list_getitem_lookup (wpAny_getItem_list hl7 (by walk_at "lia") (by walk_at "lia") (by simpa using ht2) (hq t2 _ S')) (by with_unfolding_all rfl)
      · intro D11 ov out s18 S18 hov hsel
        repeat' (walk_at "evW")
        refine sl_upto ?_
        repeat' (walk_at "evW")
        refine ⟨k, _, fv, _, _, _, _, _, rfl, S18, S18.isList (.tail _ (.tail _ (.head _))), by rw [hfv.length, List.length_map, hfp.length_eq, List.length_range]; walk_at "lia", fun D' s19 S19 => ?_⟩
        repeat' (walk_at "evW")
        have e : (out.map fun n : Nat => (n : Int)) = (fall.map fun n : Nat => (n : Int)).take k := by rw [Sel.uniq hsel (Sel.of_sorted hfw hfp), List.map_take]
        refine eq_ints (S19.isList (.tail _ (.head _))) (S19.isList (.head _)) hov (hfv.take k) (by walk_at "lia") ?_
        rw [decide_eq_true e]
        repeat' (walk_at "evW")
        refine ⟨rfl, S19.sw, S19.keep, fun p hp => ?_⟩
        rw [List.mem_singleton.mp hp]
        obtain ⟨o, ho, hok⟩ := S19.hold _ (.tail _ (.tail _ (.head _)))
        try refine post_use hQt (PN.next ?_)
        exact ⟨o, ho, _, hok⟩
end Mine
theorem PySem.Challenge.cw_il0040_01_holds : PySem.Challenge.rw_il0040_01.Holds := by
  exact Mine.law_holds
