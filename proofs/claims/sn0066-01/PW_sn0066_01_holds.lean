import PyProof.Rows.All
import Wide.All
import OpenK.AllK
import Wide.FinOn
import PySem.Challenge.RW_sn0066_01
set_option Elab.async false
set_option maxRecDepth 100000
set_option maxHeartbeats 0
set_option linter.all false
set_option genSizeOf false
section
namespace Mine
open PySem PySem.W PyProof.Rows
noncomputable abbrev pw : PySem.Program := PySem.Challenge.pw_sn0066_01
noncomputable def stT (i : Nat) : PySem.Stmt := (pw.main.body[i]?).getD (.Pass default)
noncomputable def stC (i j : Nat) : PySem.Stmt := match stT i with | .ClassDef _ _ _ b _ _ _ _ _ _ _ => (b[j]?).getD (.Pass default) | s => s
noncomputable def sBo : PySem.Stmt → List PySem.Stmt | .FunctionDef _ _ b _ _ _ _ _ _ _ => b | _ => []
noncomputable def sPa : PySem.Stmt → PySem.Arguments | .FunctionDef _ a _ _ _ _ _ _ _ _ => a | _ => ⟨[], [], none, [], [], none, []⟩
noncomputable def sSc : PySem.Stmt → PySem.Scope | .FunctionDef _ _ _ _ _ _ s _ _ _ => s | _ => pw.main.scope
@[reducible] noncomputable def bo1 : { b : List PySem.Stmt // sBo (stT 1) = b } := ⟨_, by (conv => lhs; whnf; try dsimp only)⟩
@[reducible] noncomputable def pa1 : { b : PySem.Arguments // sPa (stT 1) = b } := ⟨_, by (conv => lhs; whnf; try dsimp only)⟩
@[reducible] noncomputable def sc1 : { b : PySem.Scope // sSc (stT 1) = b } := ⟨_, by (conv => lhs; whnf; try dsimp only)⟩
@[reducible] noncomputable def bo3x1 : { b : List PySem.Stmt // sBo (stC 3 1) = b } := ⟨_, by (conv => lhs; whnf; try dsimp only)⟩
@[reducible] noncomputable def pa3x1 : { b : PySem.Arguments // sPa (stC 3 1) = b } := ⟨_, by (conv => lhs; whnf; try dsimp only)⟩
@[reducible] noncomputable def sc3x1 : { b : PySem.Scope // sSc (stC 3 1) = b } := ⟨_, by (conv => lhs; whnf; try dsimp only)⟩
@[reducible] noncomputable def bo3x2 : { b : List PySem.Stmt // sBo (stC 3 2) = b } := ⟨_, by (conv => lhs; whnf; try dsimp only)⟩
@[reducible] noncomputable def pa3x2 : { b : PySem.Arguments // sPa (stC 3 2) = b } := ⟨_, by (conv => lhs; whnf; try dsimp only)⟩
@[reducible] noncomputable def sc3x2 : { b : PySem.Scope // sSc (stC 3 2) = b } := ⟨_, by (conv => lhs; whnf; try dsimp only)⟩
@[reducible] noncomputable def bo3x3 : { b : List PySem.Stmt // sBo (stC 3 3) = b } := ⟨_, by (conv => lhs; whnf; try dsimp only)⟩
@[reducible] noncomputable def pa3x3 : { b : PySem.Arguments // sPa (stC 3 3) = b } := ⟨_, by (conv => lhs; whnf; try dsimp only)⟩
@[reducible] noncomputable def sc3x3 : { b : PySem.Scope // sSc (stC 3 3) = b } := ⟨_, by (conv => lhs; whnf; try dsimp only)⟩
@[reducible] noncomputable def bo3x4 : { b : List PySem.Stmt // sBo (stC 3 4) = b } := ⟨_, by (conv => lhs; whnf; try dsimp only)⟩
@[reducible] noncomputable def pa3x4 : { b : PySem.Arguments // sPa (stC 3 4) = b } := ⟨_, by (conv => lhs; whnf; try dsimp only)⟩
@[reducible] noncomputable def sc3x4 : { b : PySem.Scope // sSc (stC 3 4) = b } := ⟨_, by (conv => lhs; whnf; try dsimp only)⟩
@[reducible] noncomputable def bo3x5 : { b : List PySem.Stmt // sBo (stC 3 5) = b } := ⟨_, by (conv => lhs; whnf; try dsimp only)⟩
@[reducible] noncomputable def pa3x5 : { b : PySem.Arguments // sPa (stC 3 5) = b } := ⟨_, by (conv => lhs; whnf; try dsimp only)⟩
@[reducible] noncomputable def sc3x5 : { b : PySem.Scope // sSc (stC 3 5) = b } := ⟨_, by (conv => lhs; whnf; try dsimp only)⟩
@[reducible] noncomputable def bo3x6 : { b : List PySem.Stmt // sBo (stC 3 6) = b } := ⟨_, by (conv => lhs; whnf; try dsimp only)⟩
@[reducible] noncomputable def pa3x6 : { b : PySem.Arguments // sPa (stC 3 6) = b } := ⟨_, by (conv => lhs; whnf; try dsimp only)⟩
@[reducible] noncomputable def sc3x6 : { b : PySem.Scope // sSc (stC 3 6) = b } := ⟨_, by (conv => lhs; whnf; try dsimp only)⟩
@[reducible] noncomputable def bo3x7 : { b : List PySem.Stmt // sBo (stC 3 7) = b } := ⟨_, by (conv => lhs; whnf; try dsimp only)⟩
@[reducible] noncomputable def pa3x7 : { b : PySem.Arguments // sPa (stC 3 7) = b } := ⟨_, by (conv => lhs; whnf; try dsimp only)⟩
@[reducible] noncomputable def sc3x7 : { b : PySem.Scope // sSc (stC 3 7) = b } := ⟨_, by (conv => lhs; whnf; try dsimp only)⟩
@[reducible] noncomputable def bo5 : { b : List PySem.Stmt // sBo (stT 5) = b } := ⟨_, by (conv => lhs; whnf; try dsimp only)⟩
@[reducible] noncomputable def pa5 : { b : PySem.Arguments // sPa (stT 5) = b } := ⟨_, by (conv => lhs; whnf; try dsimp only)⟩
@[reducible] noncomputable def sc5 : { b : PySem.Scope // sSc (stT 5) = b } := ⟨_, by (conv => lhs; whnf; try dsimp only)⟩
@[reducible] noncomputable def bo8 : { b : List PySem.Stmt // sBo (stT 8) = b } := ⟨_, by (conv => lhs; whnf; try dsimp only)⟩
@[reducible] noncomputable def pa8 : { b : PySem.Arguments // sPa (stT 8) = b } := ⟨_, by (conv => lhs; whnf; try dsimp only)⟩
@[reducible] noncomputable def sc8 : { b : PySem.Scope // sSc (stT 8) = b } := ⟨_, by (conv => lhs; whnf; try dsimp only)⟩
@[reducible] noncomputable def bo13 : { b : List PySem.Stmt // sBo (stT 13) = b } := ⟨_, by (conv => lhs; whnf; try dsimp only)⟩
@[reducible] noncomputable def pa13 : { b : PySem.Arguments // sPa (stT 13) = b } := ⟨_, by (conv => lhs; whnf; try dsimp only)⟩
@[reducible] noncomputable def sc13 : { b : PySem.Scope // sSc (stT 13) = b } := ⟨_, by (conv => lhs; whnf; try dsimp only)⟩
@[reducible] noncomputable def bo14x0 : { b : List PySem.Stmt // sBo (stC 14 0) = b } := ⟨_, by (conv => lhs; whnf; try dsimp only)⟩
@[reducible] noncomputable def pa14x0 : { b : PySem.Arguments // sPa (stC 14 0) = b } := ⟨_, by (conv => lhs; whnf; try dsimp only)⟩
@[reducible] noncomputable def sc14x0 : { b : PySem.Scope // sSc (stC 14 0) = b } := ⟨_, by (conv => lhs; whnf; try dsimp only)⟩
@[reducible] noncomputable def bo14x1 : { b : List PySem.Stmt // sBo (stC 14 1) = b } := ⟨_, by (conv => lhs; whnf; try dsimp only)⟩
@[reducible] noncomputable def pa14x1 : { b : PySem.Arguments // sPa (stC 14 1) = b } := ⟨_, by (conv => lhs; whnf; try dsimp only)⟩
@[reducible] noncomputable def sc14x1 : { b : PySem.Scope // sSc (stC 14 1) = b } := ⟨_, by (conv => lhs; whnf; try dsimp only)⟩
@[reducible] noncomputable def bo14x2 : { b : List PySem.Stmt // sBo (stC 14 2) = b } := ⟨_, by (conv => lhs; whnf; try dsimp only)⟩
@[reducible] noncomputable def pa14x2 : { b : PySem.Arguments // sPa (stC 14 2) = b } := ⟨_, by (conv => lhs; whnf; try dsimp only)⟩
@[reducible] noncomputable def sc14x2 : { b : PySem.Scope // sSc (stC 14 2) = b } := ⟨_, by (conv => lhs; whnf; try dsimp only)⟩
@[reducible] noncomputable def bo14x3 : { b : List PySem.Stmt // sBo (stC 14 3) = b } := ⟨_, by (conv => lhs; whnf; try dsimp only)⟩
@[reducible] noncomputable def pa14x3 : { b : PySem.Arguments // sPa (stC 14 3) = b } := ⟨_, by (conv => lhs; whnf; try dsimp only)⟩
@[reducible] noncomputable def sc14x3 : { b : PySem.Scope // sSc (stC 14 3) = b } := ⟨_, by (conv => lhs; whnf; try dsimp only)⟩
@[reducible] noncomputable def bo14x4 : { b : List PySem.Stmt // sBo (stC 14 4) = b } := ⟨_, by (conv => lhs; whnf; try dsimp only)⟩
@[reducible] noncomputable def pa14x4 : { b : PySem.Arguments // sPa (stC 14 4) = b } := ⟨_, by (conv => lhs; whnf; try dsimp only)⟩
@[reducible] noncomputable def sc14x4 : { b : PySem.Scope // sSc (stC 14 4) = b } := ⟨_, by (conv => lhs; whnf; try dsimp only)⟩
@[reducible] noncomputable def bo14x5 : { b : List PySem.Stmt // sBo (stC 14 5) = b } := ⟨_, by (conv => lhs; whnf; try dsimp only)⟩
@[reducible] noncomputable def pa14x5 : { b : PySem.Arguments // sPa (stC 14 5) = b } := ⟨_, by (conv => lhs; whnf; try dsimp only)⟩
@[reducible] noncomputable def sc14x5 : { b : PySem.Scope // sSc (stC 14 5) = b } := ⟨_, by (conv => lhs; whnf; try dsimp only)⟩
@[reducible] noncomputable def bo14x6 : { b : List PySem.Stmt // sBo (stC 14 6) = b } := ⟨_, by (conv => lhs; whnf; try dsimp only)⟩
@[reducible] noncomputable def pa14x6 : { b : PySem.Arguments // sPa (stC 14 6) = b } := ⟨_, by (conv => lhs; whnf; try dsimp only)⟩
@[reducible] noncomputable def sc14x6 : { b : PySem.Scope // sSc (stC 14 6) = b } := ⟨_, by (conv => lhs; whnf; try dsimp only)⟩
@[reducible] noncomputable def bo14x7 : { b : List PySem.Stmt // sBo (stC 14 7) = b } := ⟨_, by (conv => lhs; whnf; try dsimp only)⟩
@[reducible] noncomputable def pa14x7 : { b : PySem.Arguments // sPa (stC 14 7) = b } := ⟨_, by (conv => lhs; whnf; try dsimp only)⟩
@[reducible] noncomputable def sc14x7 : { b : PySem.Scope // sSc (stC 14 7) = b } := ⟨_, by (conv => lhs; whnf; try dsimp only)⟩
@[reducible] noncomputable def bo14x8 : { b : List PySem.Stmt // sBo (stC 14 8) = b } := ⟨_, by (conv => lhs; whnf; try dsimp only)⟩
@[reducible] noncomputable def pa14x8 : { b : PySem.Arguments // sPa (stC 14 8) = b } := ⟨_, by (conv => lhs; whnf; try dsimp only)⟩
@[reducible] noncomputable def sc14x8 : { b : PySem.Scope // sSc (stC 14 8) = b } := ⟨_, by (conv => lhs; whnf; try dsimp only)⟩
@[reducible] noncomputable def bo14x9 : { b : List PySem.Stmt // sBo (stC 14 9) = b } := ⟨_, by (conv => lhs; whnf; try dsimp only)⟩
@[reducible] noncomputable def pa14x9 : { b : PySem.Arguments // sPa (stC 14 9) = b } := ⟨_, by (conv => lhs; whnf; try dsimp only)⟩
@[reducible] noncomputable def sc14x9 : { b : PySem.Scope // sSc (stC 14 9) = b } := ⟨_, by (conv => lhs; whnf; try dsimp only)⟩
@[reducible] noncomputable def bo14x10 : { b : List PySem.Stmt // sBo (stC 14 10) = b } := ⟨_, by (conv => lhs; whnf; try dsimp only)⟩
@[reducible] noncomputable def pa14x10 : { b : PySem.Arguments // sPa (stC 14 10) = b } := ⟨_, by (conv => lhs; whnf; try dsimp only)⟩
@[reducible] noncomputable def sc14x10 : { b : PySem.Scope // sSc (stC 14 10) = b } := ⟨_, by (conv => lhs; whnf; try dsimp only)⟩
@[reducible] noncomputable def bo14x11 : { b : List PySem.Stmt // sBo (stC 14 11) = b } := ⟨_, by (conv => lhs; whnf; try dsimp only)⟩
@[reducible] noncomputable def pa14x11 : { b : PySem.Arguments // sPa (stC 14 11) = b } := ⟨_, by (conv => lhs; whnf; try dsimp only)⟩
@[reducible] noncomputable def sc14x11 : { b : PySem.Scope // sSc (stC 14 11) = b } := ⟨_, by (conv => lhs; whnf; try dsimp only)⟩
@[reducible] noncomputable def bo14x12 : { b : List PySem.Stmt // sBo (stC 14 12) = b } := ⟨_, by (conv => lhs; whnf; try dsimp only)⟩
@[reducible] noncomputable def pa14x12 : { b : PySem.Arguments // sPa (stC 14 12) = b } := ⟨_, by (conv => lhs; whnf; try dsimp only)⟩
@[reducible] noncomputable def sc14x12 : { b : PySem.Scope // sSc (stC 14 12) = b } := ⟨_, by (conv => lhs; whnf; try dsimp only)⟩
@[reducible] noncomputable def bo14x13 : { b : List PySem.Stmt // sBo (stC 14 13) = b } := ⟨_, by (conv => lhs; whnf; try dsimp only)⟩
@[reducible] noncomputable def pa14x13 : { b : PySem.Arguments // sPa (stC 14 13) = b } := ⟨_, by (conv => lhs; whnf; try dsimp only)⟩
@[reducible] noncomputable def sc14x13 : { b : PySem.Scope // sSc (stC 14 13) = b } := ⟨_, by (conv => lhs; whnf; try dsimp only)⟩
@[reducible] noncomputable def bo14x14 : { b : List PySem.Stmt // sBo (stC 14 14) = b } := ⟨_, by (conv => lhs; whnf; try dsimp only)⟩
@[reducible] noncomputable def pa14x14 : { b : PySem.Arguments // sPa (stC 14 14) = b } := ⟨_, by (conv => lhs; whnf; try dsimp only)⟩
@[reducible] noncomputable def sc14x14 : { b : PySem.Scope // sSc (stC 14 14) = b } := ⟨_, by (conv => lhs; whnf; try dsimp only)⟩
@[reducible] noncomputable def bo14x15 : { b : List PySem.Stmt // sBo (stC 14 15) = b } := ⟨_, by (conv => lhs; whnf; try dsimp only)⟩
@[reducible] noncomputable def pa14x15 : { b : PySem.Arguments // sPa (stC 14 15) = b } := ⟨_, by (conv => lhs; whnf; try dsimp only)⟩
@[reducible] noncomputable def sc14x15 : { b : PySem.Scope // sSc (stC 14 15) = b } := ⟨_, by (conv => lhs; whnf; try dsimp only)⟩
@[reducible] noncomputable def bo14x16 : { b : List PySem.Stmt // sBo (stC 14 16) = b } := ⟨_, by (conv => lhs; whnf; try dsimp only)⟩
@[reducible] noncomputable def pa14x16 : { b : PySem.Arguments // sPa (stC 14 16) = b } := ⟨_, by (conv => lhs; whnf; try dsimp only)⟩
@[reducible] noncomputable def sc14x16 : { b : PySem.Scope // sSc (stC 14 16) = b } := ⟨_, by (conv => lhs; whnf; try dsimp only)⟩
@[reducible] noncomputable def bo16 : { b : List PySem.Stmt // sBo (stT 16) = b } := ⟨_, by (conv => lhs; whnf; try dsimp only)⟩
@[reducible] noncomputable def pa16 : { b : PySem.Arguments // sPa (stT 16) = b } := ⟨_, by (conv => lhs; whnf; try dsimp only)⟩
@[reducible] noncomputable def sc16 : { b : PySem.Scope // sSc (stT 16) = b } := ⟨_, by (conv => lhs; whnf; try dsimp only)⟩
@[reducible] noncomputable def bo17 : { b : List PySem.Stmt // sBo (stT 17) = b } := ⟨_, by (conv => lhs; whnf; try dsimp only)⟩
@[reducible] noncomputable def pa17 : { b : PySem.Arguments // sPa (stT 17) = b } := ⟨_, by (conv => lhs; whnf; try dsimp only)⟩
@[reducible] noncomputable def sc17 : { b : PySem.Scope // sSc (stT 17) = b } := ⟨_, by (conv => lhs; whnf; try dsimp only)⟩
@[reducible] noncomputable def bo18 : { b : List PySem.Stmt // sBo (stT 18) = b } := ⟨_, by (conv => lhs; whnf; try dsimp only)⟩
@[reducible] noncomputable def pa18 : { b : PySem.Arguments // sPa (stT 18) = b } := ⟨_, by (conv => lhs; whnf; try dsimp only)⟩
@[reducible] noncomputable def sc18 : { b : PySem.Scope // sSc (stT 18) = b } := ⟨_, by (conv => lhs; whnf; try dsimp only)⟩
@[reducible] noncomputable def bo19 : { b : List PySem.Stmt // sBo (stT 19) = b } := ⟨_, by (conv => lhs; whnf; try dsimp only)⟩
@[reducible] noncomputable def pa19 : { b : PySem.Arguments // sPa (stT 19) = b } := ⟨_, by (conv => lhs; whnf; try dsimp only)⟩
@[reducible] noncomputable def sc19 : { b : PySem.Scope // sSc (stT 19) = b } := ⟨_, by (conv => lhs; whnf; try dsimp only)⟩
@[reducible] noncomputable def bo20 : { b : List PySem.Stmt // sBo (stT 20) = b } := ⟨_, by (conv => lhs; whnf; try dsimp only)⟩
@[reducible] noncomputable def pa20 : { b : PySem.Arguments // sPa (stT 20) = b } := ⟨_, by (conv => lhs; whnf; try dsimp only)⟩
@[reducible] noncomputable def sc20 : { b : PySem.Scope // sSc (stT 20) = b } := ⟨_, by (conv => lhs; whnf; try dsimp only)⟩
@[reducible] noncomputable def bo21 : { b : List PySem.Stmt // sBo (stT 21) = b } := ⟨_, by (conv => lhs; whnf; try dsimp only)⟩
@[reducible] noncomputable def pa21 : { b : PySem.Arguments // sPa (stT 21) = b } := ⟨_, by (conv => lhs; whnf; try dsimp only)⟩
@[reducible] noncomputable def sc21 : { b : PySem.Scope // sSc (stT 21) = b } := ⟨_, by (conv => lhs; whnf; try dsimp only)⟩
@[reducible] noncomputable def bo22 : { b : List PySem.Stmt // sBo (stT 22) = b } := ⟨_, by (conv => lhs; whnf; try dsimp only)⟩
@[reducible] noncomputable def pa22 : { b : PySem.Arguments // sPa (stT 22) = b } := ⟨_, by (conv => lhs; whnf; try dsimp only)⟩
@[reducible] noncomputable def sc22 : { b : PySem.Scope // sSc (stT 22) = b } := ⟨_, by (conv => lhs; whnf; try dsimp only)⟩
@[reducible] noncomputable def bo23 : { b : List PySem.Stmt // sBo (stT 23) = b } := ⟨_, by (conv => lhs; whnf; try dsimp only)⟩
@[reducible] noncomputable def pa23 : { b : PySem.Arguments // sPa (stT 23) = b } := ⟨_, by (conv => lhs; whnf; try dsimp only)⟩
@[reducible] noncomputable def sc23 : { b : PySem.Scope // sSc (stT 23) = b } := ⟨_, by (conv => lhs; whnf; try dsimp only)⟩
@[reducible] noncomputable def bo24 : { b : List PySem.Stmt // sBo (stT 24) = b } := ⟨_, by (conv => lhs; whnf; try dsimp only)⟩
@[reducible] noncomputable def pa24 : { b : PySem.Arguments // sPa (stT 24) = b } := ⟨_, by (conv => lhs; whnf; try dsimp only)⟩
@[reducible] noncomputable def sc24 : { b : PySem.Scope // sSc (stT 24) = b } := ⟨_, by (conv => lhs; whnf; try dsimp only)⟩
@[reducible] noncomputable def bo25 : { b : List PySem.Stmt // sBo (stT 25) = b } := ⟨_, by (conv => lhs; whnf; try dsimp only)⟩
@[reducible] noncomputable def pa25 : { b : PySem.Arguments // sPa (stT 25) = b } := ⟨_, by (conv => lhs; whnf; try dsimp only)⟩
@[reducible] noncomputable def sc25 : { b : PySem.Scope // sSc (stT 25) = b } := ⟨_, by (conv => lhs; whnf; try dsimp only)⟩
@[reducible] noncomputable def bo26 : { b : List PySem.Stmt // sBo (stT 26) = b } := ⟨_, by (conv => lhs; whnf; try dsimp only)⟩
@[reducible] noncomputable def pa26 : { b : PySem.Arguments // sPa (stT 26) = b } := ⟨_, by (conv => lhs; whnf; try dsimp only)⟩
@[reducible] noncomputable def sc26 : { b : PySem.Scope // sSc (stT 26) = b } := ⟨_, by (conv => lhs; whnf; try dsimp only)⟩
@[reducible] noncomputable def bo27 : { b : List PySem.Stmt // sBo (stT 27) = b } := ⟨_, by (conv => lhs; whnf; try dsimp only)⟩
@[reducible] noncomputable def pa27 : { b : PySem.Arguments // sPa (stT 27) = b } := ⟨_, by (conv => lhs; whnf; try dsimp only)⟩
@[reducible] noncomputable def sc27 : { b : PySem.Scope // sSc (stT 27) = b } := ⟨_, by (conv => lhs; whnf; try dsimp only)⟩
noncomputable def o0v0 (P : PySem.Params) : PySem.Obj := (PySem.Obj.mk (PySem.Value.type "dict") none (PySem.Data.dict ([(PySem.DictEntry.mk (PySem.PyData.keyHash P (PySem.Str.ofString "__name__")) (PySem.Value.str (PySem.Str.ofString "__name__") 1) (PySem.Value.str (PySem.Str.ofString "builtins") 160)), (PySem.DictEntry.mk (PySem.PyData.keyHash P (PySem.Str.ofString "__doc__")) (PySem.Value.str (PySem.Str.ofString "__doc__") 2) (PySem.Value.builtin "builtins.__doc__:str#opaque")), (PySem.DictEntry.mk (PySem.PyData.keyHash P (PySem.Str.ofString "__package__")) (PySem.Value.str (PySem.Str.ofString "__package__") 3) (PySem.Value.builtin "builtins.__package__:str#opaque")), (PySem.DictEntry.mk (PySem.PyData.keyHash P (PySem.Str.ofString "__loader__")) (PySem.Value.str (PySem.Str.ofString "__loader__") 4) (PySem.Value.builtin "builtins.__loader__:shared#opaque")), (PySem.DictEntry.mk (PySem.PyData.keyHash P (PySem.Str.ofString "__spec__")) (PySem.Value.str (PySem.Str.ofString "__spec__") 5) (PySem.Value.builtin "builtins.__spec__#opaque")), (PySem.DictEntry.mk (PySem.PyData.keyHash P (PySem.Str.ofString "__build_class__")) (PySem.Value.str (PySem.Str.ofString "__build_class__") 6) (PySem.Value.builtin "__build_class__")), (PySem.DictEntry.mk (PySem.PyData.keyHash P (PySem.Str.ofString "__import__")) (PySem.Value.str (PySem.Str.ofString "__import__") 7) (PySem.Value.builtin "__import__")), (PySem.DictEntry.mk (PySem.PyData.keyHash P (PySem.Str.ofString "abs")) (PySem.Value.str (PySem.Str.ofString "abs") 8) (PySem.Value.builtin "abs")), (PySem.DictEntry.mk (PySem.PyData.keyHash P (PySem.Str.ofString "all")) (PySem.Value.str (PySem.Str.ofString "all") 9) (PySem.Value.builtin "all")), (PySem.DictEntry.mk (PySem.PyData.keyHash P (PySem.Str.ofString "any")) (PySem.Value.str (PySem.Str.ofString "any") 10) (PySem.Value.builtin "any")), (PySem.DictEntry.mk (PySem.PyData.keyHash P (PySem.Str.ofString "ascii")) (PySem.Value.str (PySem.Str.ofString "ascii") 11) (PySem.Value.builtin "ascii")), (PySem.DictEntry.mk (PySem.PyData.keyHash P (PySem.Str.ofString "bin")) (PySem.Value.str (PySem.Str.ofString "bin") 12) (PySem.Value.builtin "bin")), (PySem.DictEntry.mk (PySem.PyData.keyHash P (PySem.Str.ofString "breakpoint")) (PySem.Value.str (PySem.Str.ofString "breakpoint") 13) (PySem.Value.builtin "breakpoint")), (PySem.DictEntry.mk (PySem.PyData.keyHash P (PySem.Str.ofString "callable")) (PySem.Value.str (PySem.Str.ofString "callable") 14) (PySem.Value.builtin "callable")), (PySem.DictEntry.mk (PySem.PyData.keyHash P (PySem.Str.ofString "chr")) (PySem.Value.str (PySem.Str.ofString "chr") 15) (PySem.Value.builtin "chr")), (PySem.DictEntry.mk (PySem.PyData.keyHash P (PySem.Str.ofString "compile")) (PySem.Value.str (PySem.Str.ofString "compile") 16) (PySem.Value.builtin "compile")), (PySem.DictEntry.mk (PySem.PyData.keyHash P (PySem.Str.ofString "delattr")) (PySem.Value.str (PySem.Str.ofString "delattr") 17) (PySem.Value.builtin "delattr")), (PySem.DictEntry.mk (PySem.PyData.keyHash P (PySem.Str.ofString "dir")) (PySem.Value.str (PySem.Str.ofString "dir") 18) (PySem.Value.builtin "dir")), (PySem.DictEntry.mk (PySem.PyData.keyHash P (PySem.Str.ofString "divmod")) (PySem.Value.str (PySem.Str.ofString "divmod") 19) (PySem.Value.builtin "divmod")), (PySem.DictEntry.mk (PySem.PyData.keyHash P (PySem.Str.ofString "eval")) (PySem.Value.str (PySem.Str.ofString "eval") 20) (PySem.Value.builtin "eval")), (PySem.DictEntry.mk (PySem.PyData.keyHash P (PySem.Str.ofString "exec")) (PySem.Value.str (PySem.Str.ofString "exec") 21) (PySem.Value.builtin "exec")), (PySem.DictEntry.mk (PySem.PyData.keyHash P (PySem.Str.ofString "format")) (PySem.Value.str (PySem.Str.ofString "format") 22) (PySem.Value.builtin "format")), (PySem.DictEntry.mk (PySem.PyData.keyHash P (PySem.Str.ofString "getattr")) (PySem.Value.str (PySem.Str.ofString "getattr") 23) (PySem.Value.builtin "getattr")), (PySem.DictEntry.mk (PySem.PyData.keyHash P (PySem.Str.ofString "globals")) (PySem.Value.str (PySem.Str.ofString "globals") 24) (PySem.Value.builtin "globals")), (PySem.DictEntry.mk (PySem.PyData.keyHash P (PySem.Str.ofString "hasattr")) (PySem.Value.str (PySem.Str.ofString "hasattr") 25) (PySem.Value.builtin "hasattr")), (PySem.DictEntry.mk (PySem.PyData.keyHash P (PySem.Str.ofString "hash")) (PySem.Value.str (PySem.Str.ofString "hash") 26) (PySem.Value.builtin "hash")), (PySem.DictEntry.mk (PySem.PyData.keyHash P (PySem.Str.ofString "hex")) (PySem.Value.str (PySem.Str.ofString "hex") 27) (PySem.Value.builtin "hex")), (PySem.DictEntry.mk (PySem.PyData.keyHash P (PySem.Str.ofString "id")) (PySem.Value.str (PySem.Str.ofString "id") 28) (PySem.Value.builtin "id")), (PySem.DictEntry.mk (PySem.PyData.keyHash P (PySem.Str.ofString "input")) (PySem.Value.str (PySem.Str.ofString "input") 29) (PySem.Value.builtin "input")), (PySem.DictEntry.mk (PySem.PyData.keyHash P (PySem.Str.ofString "isinstance")) (PySem.Value.str (PySem.Str.ofString "isinstance") 30) (PySem.Value.builtin "isinstance")), (PySem.DictEntry.mk (PySem.PyData.keyHash P (PySem.Str.ofString "issubclass")) (PySem.Value.str (PySem.Str.ofString "issubclass") 31) (PySem.Value.builtin "issubclass")), (PySem.DictEntry.mk (PySem.PyData.keyHash P (PySem.Str.ofString "iter")) (PySem.Value.str (PySem.Str.ofString "iter") 32) (PySem.Value.builtin "iter")), (PySem.DictEntry.mk (PySem.PyData.keyHash P (PySem.Str.ofString "aiter")) (PySem.Value.str (PySem.Str.ofString "aiter") 33) (PySem.Value.builtin "aiter")), (PySem.DictEntry.mk (PySem.PyData.keyHash P (PySem.Str.ofString "len")) (PySem.Value.str (PySem.Str.ofString "len") 34) (PySem.Value.builtin "len")), (PySem.DictEntry.mk (PySem.PyData.keyHash P (PySem.Str.ofString "locals")) (PySem.Value.str (PySem.Str.ofString "locals") 35) (PySem.Value.builtin "locals")), (PySem.DictEntry.mk (PySem.PyData.keyHash P (PySem.Str.ofString "max")) (PySem.Value.str (PySem.Str.ofString "max") 36) (PySem.Value.builtin "max")), (PySem.DictEntry.mk (PySem.PyData.keyHash P (PySem.Str.ofString "min")) (PySem.Value.str (PySem.Str.ofString "min") 37) (PySem.Value.builtin "min")), (PySem.DictEntry.mk (PySem.PyData.keyHash P (PySem.Str.ofString "next")) (PySem.Value.str (PySem.Str.ofString "next") 38) (PySem.Value.builtin "next")), (PySem.DictEntry.mk (PySem.PyData.keyHash P (PySem.Str.ofString "anext")) (PySem.Value.str (PySem.Str.ofString "anext") 39) (PySem.Value.builtin "anext")), (PySem.DictEntry.mk (PySem.PyData.keyHash P (PySem.Str.ofString "oct")) (PySem.Value.str (PySem.Str.ofString "oct") 40) (PySem.Value.builtin "oct")), (PySem.DictEntry.mk (PySem.PyData.keyHash P (PySem.Str.ofString "ord")) (PySem.Value.str (PySem.Str.ofString "ord") 41) (PySem.Value.builtin "ord")), (PySem.DictEntry.mk (PySem.PyData.keyHash P (PySem.Str.ofString "pow")) (PySem.Value.str (PySem.Str.ofString "pow") 42) (PySem.Value.builtin "pow")), (PySem.DictEntry.mk (PySem.PyData.keyHash P (PySem.Str.ofString "print")) (PySem.Value.str (PySem.Str.ofString "print") 43) (PySem.Value.builtin "print")), (PySem.DictEntry.mk (PySem.PyData.keyHash P (PySem.Str.ofString "repr")) (PySem.Value.str (PySem.Str.ofString "repr") 44) (PySem.Value.builtin "repr")), (PySem.DictEntry.mk (PySem.PyData.keyHash P (PySem.Str.ofString "round")) (PySem.Value.str (PySem.Str.ofString "round") 45) (PySem.Value.builtin "round")), (PySem.DictEntry.mk (PySem.PyData.keyHash P (PySem.Str.ofString "setattr")) (PySem.Value.str (PySem.Str.ofString "setattr") 46) (PySem.Value.builtin "setattr")), (PySem.DictEntry.mk (PySem.PyData.keyHash P (PySem.Str.ofString "sorted")) (PySem.Value.str (PySem.Str.ofString "sorted") 47) (PySem.Value.builtin "sorted")), (PySem.DictEntry.mk (PySem.PyData.keyHash P (PySem.Str.ofString "sum")) (PySem.Value.str (PySem.Str.ofString "sum") 48) (PySem.Value.builtin "sum")), (PySem.DictEntry.mk (PySem.PyData.keyHash P (PySem.Str.ofString "vars")) (PySem.Value.str (PySem.Str.ofString "vars") 49) (PySem.Value.builtin "vars")), (PySem.DictEntry.mk (PySem.PyData.keyHash P (PySem.Str.ofString "None")) (PySem.Value.str (PySem.Str.ofString "None") 50) PySem.Value.none), (PySem.DictEntry.mk (PySem.PyData.keyHash P (PySem.Str.ofString "Ellipsis")) (PySem.Value.str (PySem.Str.ofString "Ellipsis") 51) PySem.Value.ellipsis), (PySem.DictEntry.mk (PySem.PyData.keyHash P (PySem.Str.ofString "NotImplemented")) (PySem.Value.str (PySem.Str.ofString "NotImplemented") 52) PySem.Value.notImplemented), (PySem.DictEntry.mk (PySem.PyData.keyHash P (PySem.Str.ofString "False")) (PySem.Value.str (PySem.Str.ofString "False") 53) (PySem.Value.bool Bool.false)), (PySem.DictEntry.mk (PySem.PyData.keyHash P (PySem.Str.ofString "True")) (PySem.Value.str (PySem.Str.ofString "True") 54) (PySem.Value.bool Bool.true)), (PySem.DictEntry.mk (PySem.PyData.keyHash P (PySem.Str.ofString "bool")) (PySem.Value.str (PySem.Str.ofString "bool") 55) (PySem.Value.type "bool")), (PySem.DictEntry.mk (PySem.PyData.keyHash P (PySem.Str.ofString "memoryview")) (PySem.Value.str (PySem.Str.ofString "memoryview") 56) (PySem.Value.type "memoryview")), (PySem.DictEntry.mk (PySem.PyData.keyHash P (PySem.Str.ofString "bytearray")) (PySem.Value.str (PySem.Str.ofString "bytearray") 57) (PySem.Value.type "bytearray")), (PySem.DictEntry.mk (PySem.PyData.keyHash P (PySem.Str.ofString "bytes")) (PySem.Value.str (PySem.Str.ofString "bytes") 58) (PySem.Value.type "bytes")), (PySem.DictEntry.mk (PySem.PyData.keyHash P (PySem.Str.ofString "classmethod")) (PySem.Value.str (PySem.Str.ofString "classmethod") 59) (PySem.Value.type "classmethod")), (PySem.DictEntry.mk (PySem.PyData.keyHash P (PySem.Str.ofString "complex")) (PySem.Value.str (PySem.Str.ofString "complex") 60) (PySem.Value.type "complex")), (PySem.DictEntry.mk (PySem.PyData.keyHash P (PySem.Str.ofString "dict")) (PySem.Value.str (PySem.Str.ofString "dict") 61) (PySem.Value.type "dict")), (PySem.DictEntry.mk (PySem.PyData.keyHash P (PySem.Str.ofString "enumerate")) (PySem.Value.str (PySem.Str.ofString "enumerate") 62) (PySem.Value.type "enumerate")), (PySem.DictEntry.mk (PySem.PyData.keyHash P (PySem.Str.ofString "filter")) (PySem.Value.str (PySem.Str.ofString "filter") 63) (PySem.Value.type "filter")), (PySem.DictEntry.mk (PySem.PyData.keyHash P (PySem.Str.ofString "float")) (PySem.Value.str (PySem.Str.ofString "float") 64) (PySem.Value.type "float")), (PySem.DictEntry.mk (PySem.PyData.keyHash P (PySem.Str.ofString "frozenset")) (PySem.Value.str (PySem.Str.ofString "frozenset") 65) (PySem.Value.type "frozenset")), (PySem.DictEntry.mk (PySem.PyData.keyHash P (PySem.Str.ofString "property")) (PySem.Value.str (PySem.Str.ofString "property") 66) (PySem.Value.type "property")), (PySem.DictEntry.mk (PySem.PyData.keyHash P (PySem.Str.ofString "int")) (PySem.Value.str (PySem.Str.ofString "int") 67) (PySem.Value.type "int")), (PySem.DictEntry.mk (PySem.PyData.keyHash P (PySem.Str.ofString "list")) (PySem.Value.str (PySem.Str.ofString "list") 68) (PySem.Value.type "list")), (PySem.DictEntry.mk (PySem.PyData.keyHash P (PySem.Str.ofString "map")) (PySem.Value.str (PySem.Str.ofString "map") 69) (PySem.Value.type "map")), (PySem.DictEntry.mk (PySem.PyData.keyHash P (PySem.Str.ofString "object")) (PySem.Value.str (PySem.Str.ofString "object") 70) (PySem.Value.type "object")), (PySem.DictEntry.mk (PySem.PyData.keyHash P (PySem.Str.ofString "range")) (PySem.Value.str (PySem.Str.ofString "range") 71) (PySem.Value.type "range")), (PySem.DictEntry.mk (PySem.PyData.keyHash P (PySem.Str.ofString "reversed")) (PySem.Value.str (PySem.Str.ofString "reversed") 72) (PySem.Value.type "reversed")), (PySem.DictEntry.mk (PySem.PyData.keyHash P (PySem.Str.ofString "set")) (PySem.Value.str (PySem.Str.ofString "set") 73) (PySem.Value.type "set")), (PySem.DictEntry.mk (PySem.PyData.keyHash P (PySem.Str.ofString "slice")) (PySem.Value.str (PySem.Str.ofString "slice") 74) (PySem.Value.type "slice")), (PySem.DictEntry.mk (PySem.PyData.keyHash P (PySem.Str.ofString "staticmethod")) (PySem.Value.str (PySem.Str.ofString "staticmethod") 75) (PySem.Value.type "staticmethod")), (PySem.DictEntry.mk (PySem.PyData.keyHash P (PySem.Str.ofString "str")) (PySem.Value.str (PySem.Str.ofString "str") 76) (PySem.Value.type "str")), (PySem.DictEntry.mk (PySem.PyData.keyHash P (PySem.Str.ofString "super")) (PySem.Value.str (PySem.Str.ofString "super") 77) (PySem.Value.type "super")), (PySem.DictEntry.mk (PySem.PyData.keyHash P (PySem.Str.ofString "tuple")) (PySem.Value.str (PySem.Str.ofString "tuple") 78) (PySem.Value.type "tuple")), (PySem.DictEntry.mk (PySem.PyData.keyHash P (PySem.Str.ofString "type")) (PySem.Value.str (PySem.Str.ofString "type") 79) (PySem.Value.type "type")), (PySem.DictEntry.mk (PySem.PyData.keyHash P (PySem.Str.ofString "zip")) (PySem.Value.str (PySem.Str.ofString "zip") 80) (PySem.Value.type "zip")), (PySem.DictEntry.mk (PySem.PyData.keyHash P (PySem.Str.ofString "__debug__")) (PySem.Value.str (PySem.Str.ofString "__debug__") 81) (PySem.Value.bool Bool.true)), (PySem.DictEntry.mk (PySem.PyData.keyHash P (PySem.Str.ofString "BaseException")) (PySem.Value.str (PySem.Str.ofString "BaseException") 82) (PySem.Value.type "BaseException")), (PySem.DictEntry.mk (PySem.PyData.keyHash P (PySem.Str.ofString "BaseExceptionGroup")) (PySem.Value.str (PySem.Str.ofString "BaseExceptionGroup") 83) (PySem.Value.type "BaseExceptionGroup")), (PySem.DictEntry.mk (PySem.PyData.keyHash P (PySem.Str.ofString "Exception")) (PySem.Value.str (PySem.Str.ofString "Exception") 84) (PySem.Value.type "Exception")), (PySem.DictEntry.mk (PySem.PyData.keyHash P (PySem.Str.ofString "GeneratorExit")) (PySem.Value.str (PySem.Str.ofString "GeneratorExit") 85) (PySem.Value.type "GeneratorExit")), (PySem.DictEntry.mk (PySem.PyData.keyHash P (PySem.Str.ofString "KeyboardInterrupt")) (PySem.Value.str (PySem.Str.ofString "KeyboardInterrupt") 86) (PySem.Value.type "KeyboardInterrupt")), (PySem.DictEntry.mk (PySem.PyData.keyHash P (PySem.Str.ofString "SystemExit")) (PySem.Value.str (PySem.Str.ofString "SystemExit") 87) (PySem.Value.type "SystemExit")), (PySem.DictEntry.mk (PySem.PyData.keyHash P (PySem.Str.ofString "ArithmeticError")) (PySem.Value.str (PySem.Str.ofString "ArithmeticError") 88) (PySem.Value.type "ArithmeticError")), (PySem.DictEntry.mk (PySem.PyData.keyHash P (PySem.Str.ofString "AssertionError")) (PySem.Value.str (PySem.Str.ofString "AssertionError") 89) (PySem.Value.type "AssertionError")), (PySem.DictEntry.mk (PySem.PyData.keyHash P (PySem.Str.ofString "AttributeError")) (PySem.Value.str (PySem.Str.ofString "AttributeError") 90) (PySem.Value.type "AttributeError")), (PySem.DictEntry.mk (PySem.PyData.keyHash P (PySem.Str.ofString "BufferError")) (PySem.Value.str (PySem.Str.ofString "BufferError") 91) (PySem.Value.type "BufferError")), (PySem.DictEntry.mk (PySem.PyData.keyHash P (PySem.Str.ofString "EOFError")) (PySem.Value.str (PySem.Str.ofString "EOFError") 92) (PySem.Value.type "EOFError")), (PySem.DictEntry.mk (PySem.PyData.keyHash P (PySem.Str.ofString "ImportError")) (PySem.Value.str (PySem.Str.ofString "ImportError") 93) (PySem.Value.type "ImportError")), (PySem.DictEntry.mk (PySem.PyData.keyHash P (PySem.Str.ofString "LookupError")) (PySem.Value.str (PySem.Str.ofString "LookupError") 94) (PySem.Value.type "LookupError")), (PySem.DictEntry.mk (PySem.PyData.keyHash P (PySem.Str.ofString "MemoryError")) (PySem.Value.str (PySem.Str.ofString "MemoryError") 95) (PySem.Value.type "MemoryError")), (PySem.DictEntry.mk (PySem.PyData.keyHash P (PySem.Str.ofString "NameError")) (PySem.Value.str (PySem.Str.ofString "NameError") 96) (PySem.Value.type "NameError")), (PySem.DictEntry.mk (PySem.PyData.keyHash P (PySem.Str.ofString "OSError")) (PySem.Value.str (PySem.Str.ofString "OSError") 97) (PySem.Value.type "OSError")), (PySem.DictEntry.mk (PySem.PyData.keyHash P (PySem.Str.ofString "ReferenceError")) (PySem.Value.str (PySem.Str.ofString "ReferenceError") 98) (PySem.Value.type "ReferenceError")), (PySem.DictEntry.mk (PySem.PyData.keyHash P (PySem.Str.ofString "RuntimeError")) (PySem.Value.str (PySem.Str.ofString "RuntimeError") 99) (PySem.Value.type "RuntimeError")), (PySem.DictEntry.mk (PySem.PyData.keyHash P (PySem.Str.ofString "StopAsyncIteration")) (PySem.Value.str (PySem.Str.ofString "StopAsyncIteration") 100) (PySem.Value.type "StopAsyncIteration")), (PySem.DictEntry.mk (PySem.PyData.keyHash P (PySem.Str.ofString "StopIteration")) (PySem.Value.str (PySem.Str.ofString "StopIteration") 101) (PySem.Value.type "StopIteration")), (PySem.DictEntry.mk (PySem.PyData.keyHash P (PySem.Str.ofString "SyntaxError")) (PySem.Value.str (PySem.Str.ofString "SyntaxError") 102) (PySem.Value.type "SyntaxError")), (PySem.DictEntry.mk (PySem.PyData.keyHash P (PySem.Str.ofString "SystemError")) (PySem.Value.str (PySem.Str.ofString "SystemError") 103) (PySem.Value.type "SystemError")), (PySem.DictEntry.mk (PySem.PyData.keyHash P (PySem.Str.ofString "TypeError")) (PySem.Value.str (PySem.Str.ofString "TypeError") 104) (PySem.Value.type "TypeError")), (PySem.DictEntry.mk (PySem.PyData.keyHash P (PySem.Str.ofString "ValueError")) (PySem.Value.str (PySem.Str.ofString "ValueError") 105) (PySem.Value.type "ValueError")), (PySem.DictEntry.mk (PySem.PyData.keyHash P (PySem.Str.ofString "Warning")) (PySem.Value.str (PySem.Str.ofString "Warning") 106) (PySem.Value.type "Warning")), (PySem.DictEntry.mk (PySem.PyData.keyHash P (PySem.Str.ofString "FloatingPointError")) (PySem.Value.str (PySem.Str.ofString "FloatingPointError") 107) (PySem.Value.type "FloatingPointError")), (PySem.DictEntry.mk (PySem.PyData.keyHash P (PySem.Str.ofString "OverflowError")) (PySem.Value.str (PySem.Str.ofString "OverflowError") 108) (PySem.Value.type "OverflowError")), (PySem.DictEntry.mk (PySem.PyData.keyHash P (PySem.Str.ofString "ZeroDivisionError")) (PySem.Value.str (PySem.Str.ofString "ZeroDivisionError") 109) (PySem.Value.type "ZeroDivisionError")), (PySem.DictEntry.mk (PySem.PyData.keyHash P (PySem.Str.ofString "BytesWarning")) (PySem.Value.str (PySem.Str.ofString "BytesWarning") 110) (PySem.Value.type "BytesWarning")), (PySem.DictEntry.mk (PySem.PyData.keyHash P (PySem.Str.ofString "DeprecationWarning")) (PySem.Value.str (PySem.Str.ofString "DeprecationWarning") 111) (PySem.Value.type "DeprecationWarning")), (PySem.DictEntry.mk (PySem.PyData.keyHash P (PySem.Str.ofString "EncodingWarning")) (PySem.Value.str (PySem.Str.ofString "EncodingWarning") 112) (PySem.Value.type "EncodingWarning")), (PySem.DictEntry.mk (PySem.PyData.keyHash P (PySem.Str.ofString "FutureWarning")) (PySem.Value.str (PySem.Str.ofString "FutureWarning") 113) (PySem.Value.type "FutureWarning")), (PySem.DictEntry.mk (PySem.PyData.keyHash P (PySem.Str.ofString "ImportWarning")) (PySem.Value.str (PySem.Str.ofString "ImportWarning") 114) (PySem.Value.type "ImportWarning")), (PySem.DictEntry.mk (PySem.PyData.keyHash P (PySem.Str.ofString "PendingDeprecationWarning")) (PySem.Value.str (PySem.Str.ofString "PendingDeprecationWarning") 115) (PySem.Value.type "PendingDeprecationWarning")), (PySem.DictEntry.mk (PySem.PyData.keyHash P (PySem.Str.ofString "ResourceWarning")) (PySem.Value.str (PySem.Str.ofString "ResourceWarning") 116) (PySem.Value.type "ResourceWarning")), (PySem.DictEntry.mk (PySem.PyData.keyHash P (PySem.Str.ofString "RuntimeWarning")) (PySem.Value.str (PySem.Str.ofString "RuntimeWarning") 117) (PySem.Value.type "RuntimeWarning")), (PySem.DictEntry.mk (PySem.PyData.keyHash P (PySem.Str.ofString "SyntaxWarning")) (PySem.Value.str (PySem.Str.ofString "SyntaxWarning") 118) (PySem.Value.type "SyntaxWarning")), (PySem.DictEntry.mk (PySem.PyData.keyHash P (PySem.Str.ofString "UnicodeWarning")) (PySem.Value.str (PySem.Str.ofString "UnicodeWarning") 119) (PySem.Value.type "UnicodeWarning")), (PySem.DictEntry.mk (PySem.PyData.keyHash P (PySem.Str.ofString "UserWarning")) (PySem.Value.str (PySem.Str.ofString "UserWarning") 120) (PySem.Value.type "UserWarning")), (PySem.DictEntry.mk (PySem.PyData.keyHash P (PySem.Str.ofString "BlockingIOError")) (PySem.Value.str (PySem.Str.ofString "BlockingIOError") 121) (PySem.Value.type "BlockingIOError")), (PySem.DictEntry.mk (PySem.PyData.keyHash P (PySem.Str.ofString "ChildProcessError")) (PySem.Value.str (PySem.Str.ofString "ChildProcessError") 122) (PySem.Value.type "ChildProcessError")), (PySem.DictEntry.mk (PySem.PyData.keyHash P (PySem.Str.ofString "ConnectionError")) (PySem.Value.str (PySem.Str.ofString "ConnectionError") 123) (PySem.Value.type "ConnectionError")), (PySem.DictEntry.mk (PySem.PyData.keyHash P (PySem.Str.ofString "FileExistsError")) (PySem.Value.str (PySem.Str.ofString "FileExistsError") 124) (PySem.Value.type "FileExistsError")), (PySem.DictEntry.mk (PySem.PyData.keyHash P (PySem.Str.ofString "FileNotFoundError")) (PySem.Value.str (PySem.Str.ofString "FileNotFoundError") 125) (PySem.Value.type "FileNotFoundError")), (PySem.DictEntry.mk (PySem.PyData.keyHash P (PySem.Str.ofString "InterruptedError")) (PySem.Value.str (PySem.Str.ofString "InterruptedError") 126) (PySem.Value.type "InterruptedError")), (PySem.DictEntry.mk (PySem.PyData.keyHash P (PySem.Str.ofString "IsADirectoryError")) (PySem.Value.str (PySem.Str.ofString "IsADirectoryError") 127) (PySem.Value.type "IsADirectoryError")), (PySem.DictEntry.mk (PySem.PyData.keyHash P (PySem.Str.ofString "NotADirectoryError")) (PySem.Value.str (PySem.Str.ofString "NotADirectoryError") 128) (PySem.Value.type "NotADirectoryError")), (PySem.DictEntry.mk (PySem.PyData.keyHash P (PySem.Str.ofString "PermissionError")) (PySem.Value.str (PySem.Str.ofString "PermissionError") 129) (PySem.Value.type "PermissionError")), (PySem.DictEntry.mk (PySem.PyData.keyHash P (PySem.Str.ofString "ProcessLookupError")) (PySem.Value.str (PySem.Str.ofString "ProcessLookupError") 130) (PySem.Value.type "ProcessLookupError")), (PySem.DictEntry.mk (PySem.PyData.keyHash P (PySem.Str.ofString "TimeoutError")) (PySem.Value.str (PySem.Str.ofString "TimeoutError") 131) (PySem.Value.type "TimeoutError")), (PySem.DictEntry.mk (PySem.PyData.keyHash P (PySem.Str.ofString "IndentationError")) (PySem.Value.str (PySem.Str.ofString "IndentationError") 132) (PySem.Value.type "IndentationError")), (PySem.DictEntry.mk (PySem.PyData.keyHash P (PySem.Str.ofString "_IncompleteInputError")) (PySem.Value.str (PySem.Str.ofString "_IncompleteInputError") 133) (PySem.Value.type "_IncompleteInputError")), (PySem.DictEntry.mk (PySem.PyData.keyHash P (PySem.Str.ofString "IndexError")) (PySem.Value.str (PySem.Str.ofString "IndexError") 134) (PySem.Value.type "IndexError")), (PySem.DictEntry.mk (PySem.PyData.keyHash P (PySem.Str.ofString "KeyError")) (PySem.Value.str (PySem.Str.ofString "KeyError") 135) (PySem.Value.type "KeyError")), (PySem.DictEntry.mk (PySem.PyData.keyHash P (PySem.Str.ofString "ModuleNotFoundError")) (PySem.Value.str (PySem.Str.ofString "ModuleNotFoundError") 136) (PySem.Value.type "ModuleNotFoundError")), (PySem.DictEntry.mk (PySem.PyData.keyHash P (PySem.Str.ofString "NotImplementedError")) (PySem.Value.str (PySem.Str.ofString "NotImplementedError") 137) (PySem.Value.type "NotImplementedError")), (PySem.DictEntry.mk (PySem.PyData.keyHash P (PySem.Str.ofString "PythonFinalizationError")) (PySem.Value.str (PySem.Str.ofString "PythonFinalizationError") 138) (PySem.Value.type "PythonFinalizationError")), (PySem.DictEntry.mk (PySem.PyData.keyHash P (PySem.Str.ofString "RecursionError")) (PySem.Value.str (PySem.Str.ofString "RecursionError") 139) (PySem.Value.type "RecursionError")), (PySem.DictEntry.mk (PySem.PyData.keyHash P (PySem.Str.ofString "UnboundLocalError")) (PySem.Value.str (PySem.Str.ofString "UnboundLocalError") 140) (PySem.Value.type "UnboundLocalError")), (PySem.DictEntry.mk (PySem.PyData.keyHash P (PySem.Str.ofString "UnicodeError")) (PySem.Value.str (PySem.Str.ofString "UnicodeError") 141) (PySem.Value.type "UnicodeError")), (PySem.DictEntry.mk (PySem.PyData.keyHash P (PySem.Str.ofString "BrokenPipeError")) (PySem.Value.str (PySem.Str.ofString "BrokenPipeError") 142) (PySem.Value.type "BrokenPipeError")), (PySem.DictEntry.mk (PySem.PyData.keyHash P (PySem.Str.ofString "ConnectionAbortedError")) (PySem.Value.str (PySem.Str.ofString "ConnectionAbortedError") 143) (PySem.Value.type "ConnectionAbortedError")), (PySem.DictEntry.mk (PySem.PyData.keyHash P (PySem.Str.ofString "ConnectionRefusedError")) (PySem.Value.str (PySem.Str.ofString "ConnectionRefusedError") 144) (PySem.Value.type "ConnectionRefusedError")), (PySem.DictEntry.mk (PySem.PyData.keyHash P (PySem.Str.ofString "ConnectionResetError")) (PySem.Value.str (PySem.Str.ofString "ConnectionResetError") 145) (PySem.Value.type "ConnectionResetError")), (PySem.DictEntry.mk (PySem.PyData.keyHash P (PySem.Str.ofString "TabError")) (PySem.Value.str (PySem.Str.ofString "TabError") 146) (PySem.Value.type "TabError")), (PySem.DictEntry.mk (PySem.PyData.keyHash P (PySem.Str.ofString "UnicodeDecodeError")) (PySem.Value.str (PySem.Str.ofString "UnicodeDecodeError") 147) (PySem.Value.type "UnicodeDecodeError")), (PySem.DictEntry.mk (PySem.PyData.keyHash P (PySem.Str.ofString "UnicodeEncodeError")) (PySem.Value.str (PySem.Str.ofString "UnicodeEncodeError") 148) (PySem.Value.type "UnicodeEncodeError")), (PySem.DictEntry.mk (PySem.PyData.keyHash P (PySem.Str.ofString "UnicodeTranslateError")) (PySem.Value.str (PySem.Str.ofString "UnicodeTranslateError") 149) (PySem.Value.type "UnicodeTranslateError")), (PySem.DictEntry.mk (PySem.PyData.keyHash P (PySem.Str.ofString "ExceptionGroup")) (PySem.Value.str (PySem.Str.ofString "ExceptionGroup") 150) (PySem.Value.type "ExceptionGroup")), (PySem.DictEntry.mk (PySem.PyData.keyHash P (PySem.Str.ofString "EnvironmentError")) (PySem.Value.str (PySem.Str.ofString "EnvironmentError") 151) (PySem.Value.type "OSError")), (PySem.DictEntry.mk (PySem.PyData.keyHash P (PySem.Str.ofString "IOError")) (PySem.Value.str (PySem.Str.ofString "IOError") 152) (PySem.Value.type "OSError")), (PySem.DictEntry.mk (PySem.PyData.keyHash P (PySem.Str.ofString "open")) (PySem.Value.str (PySem.Str.ofString "open") 153) (PySem.Value.builtin "open")), (PySem.DictEntry.mk (PySem.PyData.keyHash P (PySem.Str.ofString "quit")) (PySem.Value.str (PySem.Str.ofString "quit") 154) (PySem.Value.builtin "builtins.quit#opaque")), (PySem.DictEntry.mk (PySem.PyData.keyHash P (PySem.Str.ofString "exit")) (PySem.Value.str (PySem.Str.ofString "exit") 155) (PySem.Value.builtin "builtins.exit#opaque")), (PySem.DictEntry.mk (PySem.PyData.keyHash P (PySem.Str.ofString "copyright")) (PySem.Value.str (PySem.Str.ofString "copyright") 156) (PySem.Value.builtin "builtins.copyright#opaque")), (PySem.DictEntry.mk (PySem.PyData.keyHash P (PySem.Str.ofString "credits")) (PySem.Value.str (PySem.Str.ofString "credits") 157) (PySem.Value.builtin "builtins.credits#opaque")), (PySem.DictEntry.mk (PySem.PyData.keyHash P (PySem.Str.ofString "license")) (PySem.Value.str (PySem.Str.ofString "license") 158) (PySem.Value.builtin "builtins.license#opaque")), (PySem.DictEntry.mk (PySem.PyData.keyHash P (PySem.Str.ofString "help")) (PySem.Value.str (PySem.Str.ofString "help") 159) (PySem.Value.builtin "builtins.help#opaque"))].toArray) 159) ([].toArray))
noncomputable def o1v0 (P : PySem.Params) : PySem.Obj := (PySem.Obj.mk (PySem.Value.type "dict") none (PySem.Data.dict ([(PySem.DictEntry.mk (PySem.PyData.keyHash P (PySem.Str.ofString "builtins")) (PySem.Value.str (PySem.Str.ofString "builtins") 162) (PySem.Value.ref 4)), (PySem.DictEntry.mk (PySem.PyData.keyHash P (PySem.Str.ofString "__main__")) (PySem.Value.str (PySem.Str.ofString "__main__") 163) (PySem.Value.ref 5)), (PySem.DictEntry.mk (PySem.PyData.keyHash P (PySem.Str.ofString "_sre")) (PySem.Value.str (PySem.Str.ofString "_sre") 244) (PySem.Value.ref 12))].toArray) 3) ([].toArray))
noncomputable def o2v0 (P : PySem.Params) : PySem.Obj := (PySem.Obj.mk PySem.Value.none none (PySem.Data.dict ([(PySem.DictEntry.mk (PySem.PyData.keyHash P (PySem.Str.ofString "\x69mport.loaded._sre")) (PySem.Value.str (PySem.Str.ofString "\x69mport.loaded._sre") 183) (PySem.Value.bool Bool.true)), (PySem.DictEntry.mk (PySem.PyData.keyHash P (PySem.Str.ofString "class._frozen_importlib.BuiltinImporter")) (PySem.Value.str (PySem.Str.ofString "class._frozen_importlib.BuiltinImporter") 185) (PySem.Value.ref 14)), (PySem.DictEntry.mk (PySem.PyData.keyHash P (PySem.Str.ofString "watched.\x69mport")) (PySem.Value.str (PySem.Str.ofString "watched.\x69mport") 206) (PySem.Value.ref 18)), (PySem.DictEntry.mk (PySem.PyData.keyHash P (PySem.Str.ofString "class._frozen_importlib.ModuleSpec")) (PySem.Value.str (PySem.Str.ofString "class._frozen_importlib.ModuleSpec") 216) (PySem.Value.ref 22)), (PySem.DictEntry.mk (PySem.PyData.keyHash P (PySem.Str.ofString "sys.modules.booked-epoch")) (PySem.Value.str (PySem.Str.ofString "sys.modules.booked-epoch") 245) (PySem.Value.int (3 : Int) 0)), (PySem.DictEntry.mk (PySem.PyData.keyHash P (PySem.Str.ofString "\x69mport.later-laid._sre")) (PySem.Value.str (PySem.Str.ofString "\x69mport.later-laid._sre") 270) (PySem.Value.bool Bool.true)), (PySem.DictEntry.mk (PySem.PyData.keyHash P (PySem.Str.ofString "watched.library")) (PySem.Value.str (PySem.Str.ofString "watched.library") 272) (PySem.Value.ref 27)), (PySem.DictEntry.mk (PySem.PyData.keyHash P (PySem.Str.ofString "watched.library-objects")) (PySem.Value.str (PySem.Str.ofString "watched.library-objects") 0) (PySem.Value.str (PySem.Str.ofString "\x0c") 0)), (PySem.DictEntry.mk (PySem.PyData.keyHash P (PySem.Str.ofString "watched.library-deep._sre")) (PySem.Value.str (PySem.Str.ofString "watched.library-deep._sre") 273) (PySem.Value.str (PySem.Str.ofString "\x04\x00\x00\x0b\x04\x00\x00\x0b\x04\x00\x00\x03\x04\x00\x00\x0b\x08\x04dict\x02") 0))].toArray) 9) ([].toArray))
noncomputable def o3v0 (P : PySem.Params) : PySem.Obj := (PySem.Obj.mk (PySem.Value.type "dict") none (PySem.Data.dict ([(PySem.DictEntry.mk (PySem.PyData.keyHash P (PySem.Str.ofString "__name__")) (PySem.Value.str (PySem.Str.ofString "__name__") 165) (PySem.Value.str (PySem.Str.ofString "__main__") 164)), (PySem.DictEntry.mk (PySem.PyData.keyHash P (PySem.Str.ofString "__doc__")) (PySem.Value.str (PySem.Str.ofString "__doc__") 166) PySem.Value.none), (PySem.DictEntry.mk (PySem.PyData.keyHash P (PySem.Str.ofString "__package__")) (PySem.Value.str (PySem.Str.ofString "__package__") 167) PySem.Value.none), (PySem.DictEntry.mk (PySem.PyData.keyHash P (PySem.Str.ofString "__loader__")) (PySem.Value.str (PySem.Str.ofString "__loader__") 168) (PySem.Value.builtin "__main__.__loader__#opaque")), (PySem.DictEntry.mk (PySem.PyData.keyHash P (PySem.Str.ofString "__spec__")) (PySem.Value.str (PySem.Str.ofString "__spec__") 169) PySem.Value.none), (PySem.DictEntry.mk (PySem.PyData.keyHash P (PySem.Str.ofString "__annotations__")) (PySem.Value.str (PySem.Str.ofString "__annotations__") 170) (PySem.Value.ref 6)), (PySem.DictEntry.mk (PySem.PyData.keyHash P (PySem.Str.ofString "__builtins__")) (PySem.Value.str (PySem.Str.ofString "__builtins__") 171) (PySem.Value.ref 4)), (PySem.DictEntry.mk (PySem.PyData.keyHash P (PySem.Str.ofString "__file__")) (PySem.Value.str (PySem.Str.ofString "__file__") 173) (PySem.Value.str (PySem.Str.ofString "/claim/cut.py") 172)), (PySem.DictEntry.mk (PySem.PyData.keyHash P (PySem.Str.ofString "__cached__")) (PySem.Value.str (PySem.Str.ofString "__cached__") 174) PySem.Value.none), (PySem.DictEntry.mk (PySem.PyData.keyHash P (PySem.Str.ofString "_sre")) (PySem.Value.str (PySem.Str.ofString "_sre") 275) (PySem.Value.ref 12))].toArray) 10) ([].toArray))
noncomputable def o4v0 (P : PySem.Params) : PySem.Obj := (PySem.Obj.mk (PySem.Value.type "module") (some 0) PySem.Data.plain ([].toArray))
noncomputable def o5v0 (P : PySem.Params) : PySem.Obj := (PySem.Obj.mk (PySem.Value.type "module") (some 3) PySem.Data.plain ([].toArray))
noncomputable def o6v0 (P : PySem.Params) : PySem.Obj := (PySem.Obj.mk (PySem.Value.type "dict") none (PySem.Data.dict ([].toArray) 0) ([].toArray))
noncomputable def o7v0 (P : PySem.Params) : PySem.Obj := (PySem.Obj.mk (PySem.Value.type "tuple") none (PySem.Data.seq ([].toArray) 0) ([].toArray))
noncomputable def o8v0 (P : PySem.Params) : PySem.Obj := (PySem.Obj.mk PySem.Value.none none (PySem.Data.fields ([].toArray)) ([].toArray))
noncomputable def o9v0 (P : PySem.Params) : PySem.Obj := (PySem.Obj.mk (PySem.Value.type "code") none (PySem.Data.fields ([(PySem.Value.str (PySem.Str.ofString "<module>") 176), (PySem.Value.str (PySem.Str.ofString "<module>") 177), (PySem.Value.str (PySem.Str.ofString "/claim/cut.py") 178), (PySem.Value.int (1 : Int) 0), (PySem.Value.int (0 : Int) 0), (PySem.Value.int (0 : Int) 0), (PySem.Value.int (0 : Int) 0), (PySem.Value.int (0 : Int) 0), (PySem.Value.ref 7), (PySem.Value.bool Bool.false), (PySem.Value.int (175 : Int) 0), (PySem.Value.ref 8), PySem.Value.none, PySem.Value.none, PySem.Value.none, PySem.Value.none, (PySem.Value.int (179 : Int) 0), (PySem.Value.int (1 : Int) 0), (PySem.Value.str (PySem.Str.ofString "/claim/cut.py") 180)].toArray)) ([].toArray))
noncomputable def o10v0 (P : PySem.Params) : PySem.Obj := (PySem.Obj.mk (PySem.Value.type "frame") none PySem.Data.plain ([(some (PySem.Value.ref 9)), (some (PySem.Value.ref 3)), (some (PySem.Value.ref 3)), none, (some (PySem.Value.str (PySem.Str.ofString "__main__") 164)), none, (some (PySem.Value.ref 0))].toArray))
noncomputable def o11v0 (P : PySem.Params) : PySem.Obj := (PySem.Obj.mk (PySem.Value.type "dict") none (PySem.Data.dict ([(PySem.DictEntry.mk (PySem.PyData.keyHash P (PySem.Str.ofString "__name__")) (PySem.Value.str (PySem.Str.ofString "__name__") 247) (PySem.Value.str (PySem.Str.ofString "_sre") 246)), (PySem.DictEntry.mk (PySem.PyData.keyHash P (PySem.Str.ofString "__doc__")) (PySem.Value.str (PySem.Str.ofString "__doc__") 248) PySem.Value.none), (PySem.DictEntry.mk (PySem.PyData.keyHash P (PySem.Str.ofString "__package__")) (PySem.Value.str (PySem.Str.ofString "__package__") 250) (PySem.Value.str (PySem.Str.ofString "") 249)), (PySem.DictEntry.mk (PySem.PyData.keyHash P (PySem.Str.ofString "__loader__")) (PySem.Value.str (PySem.Str.ofString "__loader__") 251) (PySem.Value.builtin "off-the-table:_sre.__loader__:shared#opaque")), (PySem.DictEntry.mk (PySem.PyData.keyHash P (PySem.Str.ofString "__spec__")) (PySem.Value.str (PySem.Str.ofString "__spec__") 252) (PySem.Value.builtin "off-the-table:_sre.__spec__:shared#opaque")), (PySem.DictEntry.mk (PySem.PyData.keyHash P (PySem.Str.ofString "compile")) (PySem.Value.str (PySem.Str.ofString "compile") 253) (PySem.Value.builtin "_sre.compile")), (PySem.DictEntry.mk (PySem.PyData.keyHash P (PySem.Str.ofString "template")) (PySem.Value.str (PySem.Str.ofString "template") 254) (PySem.Value.builtin "off-the-table:_sre.template:shared#opaque")), (PySem.DictEntry.mk (PySem.PyData.keyHash P (PySem.Str.ofString "getcodesize")) (PySem.Value.str (PySem.Str.ofString "getcodesize") 255) (PySem.Value.builtin "off-the-table:_sre.getcodesize:shared#opaque")), (PySem.DictEntry.mk (PySem.PyData.keyHash P (PySem.Str.ofString "ascii_iscased")) (PySem.Value.str (PySem.Str.ofString "ascii_iscased") 256) (PySem.Value.builtin "off-the-table:_sre.ascii_iscased:shared#opaque")), (PySem.DictEntry.mk (PySem.PyData.keyHash P (PySem.Str.ofString "unicode_iscased")) (PySem.Value.str (PySem.Str.ofString "unicode_iscased") 257) (PySem.Value.builtin "off-the-table:_sre.unicode_iscased:shared#opaque")), (PySem.DictEntry.mk (PySem.PyData.keyHash P (PySem.Str.ofString "ascii_tolower")) (PySem.Value.str (PySem.Str.ofString "ascii_tolower") 258) (PySem.Value.builtin "off-the-table:_sre.ascii_tolower:shared#opaque")), (PySem.DictEntry.mk (PySem.PyData.keyHash P (PySem.Str.ofString "unicode_tolower")) (PySem.Value.str (PySem.Str.ofString "unicode_tolower") 259) (PySem.Value.builtin "off-the-table:_sre.unicode_tolower:shared#opaque")), (PySem.DictEntry.mk (PySem.PyData.keyHash P (PySem.Str.ofString "MAGIC")) (PySem.Value.str (PySem.Str.ofString "MAGIC") 261) (PySem.Value.int (20230612 : Int) 260)), (PySem.DictEntry.mk (PySem.PyData.keyHash P (PySem.Str.ofString "CODESIZE")) (PySem.Value.str (PySem.Str.ofString "CODESIZE") 263) (PySem.Value.int (4 : Int) 262)), (PySem.DictEntry.mk (PySem.PyData.keyHash P (PySem.Str.ofString "MAXREPEAT")) (PySem.Value.str (PySem.Str.ofString "MAXREPEAT") 265) (PySem.Value.int (4294967295 : Int) 264)), (PySem.DictEntry.mk (PySem.PyData.keyHash P (PySem.Str.ofString "MAXGROUPS")) (PySem.Value.str (PySem.Str.ofString "MAXGROUPS") 267) (PySem.Value.int (1073741823 : Int) 266)), (PySem.DictEntry.mk (PySem.PyData.keyHash P (PySem.Str.ofString "copyright")) (PySem.Value.str (PySem.Str.ofString "copyright") 269) (PySem.Value.str (PySem.Str.ofString " SRE 2.2.2 Copyright (c) 1997-2002 by Secret Labs AB ") 268))].toArray) 17) ([].toArray))
noncomputable def o12v0 (P : PySem.Params) : PySem.Obj := (PySem.Obj.mk (PySem.Value.type "module") (some 11) PySem.Data.plain ([].toArray))
noncomputable def o13v0 (P : PySem.Params) : PySem.Obj := (PySem.Obj.mk (PySem.Value.type "dict") none (PySem.Data.dict ([(PySem.DictEntry.mk (PySem.PyData.keyHash P (PySem.Str.ofString "__module__")) (PySem.Value.str (PySem.Str.ofString "__module__") 189) (PySem.Value.str (PySem.Str.ofString "_frozen_importlib") 186)), (PySem.DictEntry.mk (PySem.PyData.keyHash P (PySem.Str.ofString "__firstlineno__")) (PySem.Value.str (PySem.Str.ofString "__firstlineno__") 190) (PySem.Value.int (971 : Int) 187)), (PySem.DictEntry.mk (PySem.PyData.keyHash P (PySem.Str.ofString "__doc__")) (PySem.Value.str (PySem.Str.ofString "__doc__") 191) (PySem.Value.builtin "_frozen_importlib.BuiltinImporter.__doc__:str#opaque")), (PySem.DictEntry.mk (PySem.PyData.keyHash P (PySem.Str.ofString "_ORIGIN")) (PySem.Value.str (PySem.Str.ofString "_ORIGIN") 192) (PySem.Value.str (PySem.Str.ofString "built-in") 188)), (PySem.DictEntry.mk (PySem.PyData.keyHash P (PySem.Str.ofString "find_spec")) (PySem.Value.str (PySem.Str.ofString "find_spec") 193) (PySem.Value.builtin "_frozen_importlib.BuiltinImporter.find_spec#opaque")), (PySem.DictEntry.mk (PySem.PyData.keyHash P (PySem.Str.ofString "create_module")) (PySem.Value.str (PySem.Str.ofString "create_module") 194) (PySem.Value.builtin "_frozen_importlib.BuiltinImporter.create_module#opaque")), (PySem.DictEntry.mk (PySem.PyData.keyHash P (PySem.Str.ofString "exec_module")) (PySem.Value.str (PySem.Str.ofString "exec_module") 195) (PySem.Value.builtin "_frozen_importlib.BuiltinImporter.exec_module#opaque")), (PySem.DictEntry.mk (PySem.PyData.keyHash P (PySem.Str.ofString "get_code")) (PySem.Value.str (PySem.Str.ofString "get_code") 196) (PySem.Value.builtin "_frozen_importlib.BuiltinImporter.get_code#opaque")), (PySem.DictEntry.mk (PySem.PyData.keyHash P (PySem.Str.ofString "get_source")) (PySem.Value.str (PySem.Str.ofString "get_source") 197) (PySem.Value.builtin "_frozen_importlib.BuiltinImporter.get_source#opaque")), (PySem.DictEntry.mk (PySem.PyData.keyHash P (PySem.Str.ofString "is_package")) (PySem.Value.str (PySem.Str.ofString "is_package") 198) (PySem.Value.builtin "_frozen_importlib.BuiltinImporter.is_package#opaque")), (PySem.DictEntry.mk (PySem.PyData.keyHash P (PySem.Str.ofString "load_module")) (PySem.Value.str (PySem.Str.ofString "load_module") 199) (PySem.Value.builtin "_frozen_importlib.BuiltinImporter.load_module#opaque")), (PySem.DictEntry.mk (PySem.PyData.keyHash P (PySem.Str.ofString "__static_attributes__")) (PySem.Value.str (PySem.Str.ofString "__static_attributes__") 200) (PySem.Value.ref 15)), (PySem.DictEntry.mk (PySem.PyData.keyHash P (PySem.Str.ofString "__dict__")) (PySem.Value.str (PySem.Str.ofString "__dict__") 202) (PySem.Value.ref 16)), (PySem.DictEntry.mk (PySem.PyData.keyHash P (PySem.Str.ofString "__weakref__")) (PySem.Value.str (PySem.Str.ofString "__weakref__") 204) (PySem.Value.ref 17))].toArray) 14) ([].toArray))
noncomputable def o14v0 (P : PySem.Params) : PySem.Obj := (PySem.Obj.mk (PySem.Value.type "type") none (PySem.Data.cls (PySem.ClassData.mk (PySem.Str.ofString "BuiltinImporter") [(PySem.Value.type "object")] [(PySem.Value.ref 14), (PySem.Value.type "object")] 13 (PySem.Str.ofString "BuiltinImporter") Bool.true [] [] Bool.false none Bool.false)) ([].toArray))
noncomputable def o15v0 (P : PySem.Params) : PySem.Obj := (PySem.Obj.mk (PySem.Value.type "tuple") none (PySem.Data.seq ([].toArray) 0) ([].toArray))
noncomputable def o16v0 (P : PySem.Params) : PySem.Obj := (PySem.Obj.mk (PySem.Value.type "getset_descriptor") none (PySem.Data.fields ([(PySem.Value.str (PySem.Str.ofString "__dict__") 201), (PySem.Value.ref 14), (PySem.Value.builtin "function.__dict__"), (PySem.Value.builtin "function.__dict__#set")].toArray)) ([].toArray))
noncomputable def o17v0 (P : PySem.Params) : PySem.Obj := (PySem.Obj.mk (PySem.Value.type "getset_descriptor") none (PySem.Data.fields ([(PySem.Value.str (PySem.Str.ofString "__weakref__") 203), (PySem.Value.ref 14), (PySem.Value.builtin "ExceptionGroup.__weakref__"), PySem.Value.none].toArray)) ([].toArray))
noncomputable def o18v0 (P : PySem.Params) : PySem.Obj := (PySem.Obj.mk PySem.Value.none none (PySem.Data.seq ([(PySem.Value.int (13 : Int) 0), (PySem.Value.str (PySem.Str.ofString "\x06½\n__module__\x06º\x11_frozen_importlib\x06¾\x0f__firstlineno__\x04»\x00ϋ\x06¿\x07__doc__\t4_frozen_importlib.BuiltinImporter.__doc__:str#opaque\x06À\x07_ORIGIN\x06¼\x08built-in\x06Á\tfind_spec\t2_frozen_importlib.BuiltinImporter.find_spec#opaque\x06Â\rcreate_module\t6_frozen_importlib.BuiltinImporter.create_module#opaque\x06Ã\x0bexec_module\t4_frozen_importlib.BuiltinImporter.exec_module#opaque\x06Ä\x08get_code\t1_frozen_importlib.BuiltinImporter.get_code#opaque\x06Å\nget_source\t3_frozen_importlib.BuiltinImporter.get_source#opaque\x06Æ\nis_package\t3_frozen_importlib.BuiltinImporter.is_package#opaque\x06Ç\x0bload_module\t4_frozen_importlib.BuiltinImporter.load_module#opaque\x06È\x15__static_attributes__\x04\x00\x00\x0f\x06Ê\x08__dict__\x04\x00\x00\x10\x06Ì\x0b__weakref__\x04\x00\x00\x11") 0), (PySem.Value.bool Bool.true), (PySem.Value.bool Bool.true), (PySem.Value.str (PySem.Str.ofString "") 205), (PySem.Value.int (21 : Int) 0), (PySem.Value.str (PySem.Str.ofString "\x06ã\n__module__\x06Ù\x11_frozen_importlib\x06ä\x0f__firstlineno__\x04Ú\x00Ȳ\x06å\x07__doc__\t/_frozen_importlib.ModuleSpec.__doc__:str#opaque\x06æ\x08__init__\t,_frozen_importlib.ModuleSpec.__init__#opaque\x06ç\x08__repr__\t,_frozen_importlib.ModuleSpec.__repr__#opaque\x06è\x06__eq__\t*_frozen_importlib.ModuleSpec.__eq__#opaque\x06é\x06cached\t*_frozen_importlib.ModuleSpec.cached#opaque\x06ê\x06parent\t*_frozen_importlib.ModuleSpec.parent#opaque\x06ë\x0chas_location\t0_frozen_importlib.ModuleSpec.has_location#opaque\x06ì\x15__static_attributes__\x04\x00\x00\x17\x06î\x08__dict__\x04\x00\x00\x18\x06ð\x0b__weakref__\x04\x00\x00\x19\x06ñ\x08__hash__\x00") 0), (PySem.Value.bool Bool.true), (PySem.Value.bool Bool.true), (PySem.Value.str (PySem.Str.ofString "") 242)].toArray) 1) ([].toArray))
noncomputable def o19v0 (P : PySem.Params) : PySem.Obj := (PySem.Obj.mk (PySem.Value.type "list") none (PySem.Data.seq ([].toArray) 0) ([].toArray))
noncomputable def o20v0 (P : PySem.Params) : PySem.Obj := (PySem.Obj.mk (PySem.Value.type "dict") none (PySem.Data.dict ([(PySem.DictEntry.mk (PySem.PyData.keyHash P (PySem.Str.ofString "name")) (PySem.Value.str (PySem.Str.ofString "name") 208) (PySem.Value.str (PySem.Str.ofString "_sre") 207)), (PySem.DictEntry.mk (PySem.PyData.keyHash P (PySem.Str.ofString "loader")) (PySem.Value.str (PySem.Str.ofString "loader") 209) (PySem.Value.ref 14)), (PySem.DictEntry.mk (PySem.PyData.keyHash P (PySem.Str.ofString "origin")) (PySem.Value.str (PySem.Str.ofString "origin") 210) (PySem.Value.str (PySem.Str.ofString "built-in") 184)), (PySem.DictEntry.mk (PySem.PyData.keyHash P (PySem.Str.ofString "loader_state")) (PySem.Value.str (PySem.Str.ofString "loader_state") 211) PySem.Value.none), (PySem.DictEntry.mk (PySem.PyData.keyHash P (PySem.Str.ofString "submodule_search_locations")) (PySem.Value.str (PySem.Str.ofString "submodule_search_locations") 212) PySem.Value.none), (PySem.DictEntry.mk (PySem.PyData.keyHash P (PySem.Str.ofString "_uninitialized_submodules")) (PySem.Value.str (PySem.Str.ofString "_uninitialized_submodules") 213) (PySem.Value.ref 19)), (PySem.DictEntry.mk (PySem.PyData.keyHash P (PySem.Str.ofString "_set_fileattr")) (PySem.Value.str (PySem.Str.ofString "_set_fileattr") 214) (PySem.Value.bool Bool.false)), (PySem.DictEntry.mk (PySem.PyData.keyHash P (PySem.Str.ofString "_cached")) (PySem.Value.str (PySem.Str.ofString "_cached") 215) PySem.Value.none), (PySem.DictEntry.mk (PySem.PyData.keyHash P (PySem.Str.ofString "_initializing")) (PySem.Value.str (PySem.Str.ofString "_initializing") 243) (PySem.Value.bool Bool.false))].toArray) 9) ([].toArray))
noncomputable def o21v0 (P : PySem.Params) : PySem.Obj := (PySem.Obj.mk (PySem.Value.type "dict") none (PySem.Data.dict ([(PySem.DictEntry.mk (PySem.PyData.keyHash P (PySem.Str.ofString "__module__")) (PySem.Value.str (PySem.Str.ofString "__module__") 227) (PySem.Value.str (PySem.Str.ofString "_frozen_importlib") 217)), (PySem.DictEntry.mk (PySem.PyData.keyHash P (PySem.Str.ofString "__firstlineno__")) (PySem.Value.str (PySem.Str.ofString "__firstlineno__") 228) (PySem.Value.int (562 : Int) 218)), (PySem.DictEntry.mk (PySem.PyData.keyHash P (PySem.Str.ofString "__doc__")) (PySem.Value.str (PySem.Str.ofString "__doc__") 229) (PySem.Value.builtin "_frozen_importlib.ModuleSpec.__doc__:str#opaque")), (PySem.DictEntry.mk (PySem.PyData.keyHash P (PySem.Str.ofString "__init__")) (PySem.Value.str (PySem.Str.ofString "__init__") 230) (PySem.Value.builtin "_frozen_importlib.ModuleSpec.__init__#opaque")), (PySem.DictEntry.mk (PySem.PyData.keyHash P (PySem.Str.ofString "__repr__")) (PySem.Value.str (PySem.Str.ofString "__repr__") 231) (PySem.Value.builtin "_frozen_importlib.ModuleSpec.__repr__#opaque")), (PySem.DictEntry.mk (PySem.PyData.keyHash P (PySem.Str.ofString "__eq__")) (PySem.Value.str (PySem.Str.ofString "__eq__") 232) (PySem.Value.builtin "_frozen_importlib.ModuleSpec.__eq__#opaque")), (PySem.DictEntry.mk (PySem.PyData.keyHash P (PySem.Str.ofString "cached")) (PySem.Value.str (PySem.Str.ofString "cached") 233) (PySem.Value.builtin "_frozen_importlib.ModuleSpec.cached#opaque")), (PySem.DictEntry.mk (PySem.PyData.keyHash P (PySem.Str.ofString "parent")) (PySem.Value.str (PySem.Str.ofString "parent") 234) (PySem.Value.builtin "_frozen_importlib.ModuleSpec.parent#opaque")), (PySem.DictEntry.mk (PySem.PyData.keyHash P (PySem.Str.ofString "has_location")) (PySem.Value.str (PySem.Str.ofString "has_location") 235) (PySem.Value.builtin "_frozen_importlib.ModuleSpec.has_location#opaque")), (PySem.DictEntry.mk (PySem.PyData.keyHash P (PySem.Str.ofString "__static_attributes__")) (PySem.Value.str (PySem.Str.ofString "__static_attributes__") 236) (PySem.Value.ref 23)), (PySem.DictEntry.mk (PySem.PyData.keyHash P (PySem.Str.ofString "__dict__")) (PySem.Value.str (PySem.Str.ofString "__dict__") 238) (PySem.Value.ref 24)), (PySem.DictEntry.mk (PySem.PyData.keyHash P (PySem.Str.ofString "__weakref__")) (PySem.Value.str (PySem.Str.ofString "__weakref__") 240) (PySem.Value.ref 25)), (PySem.DictEntry.mk (PySem.PyData.keyHash P (PySem.Str.ofString "__hash__")) (PySem.Value.str (PySem.Str.ofString "__hash__") 241) PySem.Value.none)].toArray) 13) ([].toArray))
noncomputable def o22v0 (P : PySem.Params) : PySem.Obj := (PySem.Obj.mk (PySem.Value.type "type") none (PySem.Data.cls (PySem.ClassData.mk (PySem.Str.ofString "ModuleSpec") [(PySem.Value.type "object")] [(PySem.Value.ref 22), (PySem.Value.type "object")] 21 (PySem.Str.ofString "ModuleSpec") Bool.true [] [] Bool.false none Bool.false)) ([].toArray))
noncomputable def o23v0 (P : PySem.Params) : PySem.Obj := (PySem.Obj.mk (PySem.Value.type "tuple") none (PySem.Data.seq ([(PySem.Value.str (PySem.Str.ofString "_cached") 219), (PySem.Value.str (PySem.Str.ofString "_set_fileattr") 220), (PySem.Value.str (PySem.Str.ofString "_uninitialized_submodules") 221), (PySem.Value.str (PySem.Str.ofString "loader") 222), (PySem.Value.str (PySem.Str.ofString "loader_state") 223), (PySem.Value.str (PySem.Str.ofString "name") 224), (PySem.Value.str (PySem.Str.ofString "origin") 225), (PySem.Value.str (PySem.Str.ofString "submodule_search_locations") 226)].toArray) 0) ([].toArray))
noncomputable def o24v0 (P : PySem.Params) : PySem.Obj := (PySem.Obj.mk (PySem.Value.type "getset_descriptor") none (PySem.Data.fields ([(PySem.Value.str (PySem.Str.ofString "__dict__") 237), (PySem.Value.ref 22), (PySem.Value.builtin "function.__dict__"), (PySem.Value.builtin "function.__dict__#set")].toArray)) ([].toArray))
noncomputable def o25v0 (P : PySem.Params) : PySem.Obj := (PySem.Obj.mk (PySem.Value.type "getset_descriptor") none (PySem.Data.fields ([(PySem.Value.str (PySem.Str.ofString "__weakref__") 239), (PySem.Value.ref 22), (PySem.Value.builtin "ExceptionGroup.__weakref__"), PySem.Value.none].toArray)) ([].toArray))
noncomputable def o26v0 (P : PySem.Params) : PySem.Obj := (PySem.Obj.mk (PySem.Value.ref 22) (some 20) PySem.Data.plain ([].toArray))
noncomputable def o27v0 (P : PySem.Params) : PySem.Obj := (PySem.Obj.mk PySem.Value.none none (PySem.Data.seq ([(PySem.Value.int (11 : Int) 0), (PySem.Value.str (PySem.Str.mk ([6, 247, 8, 95, 95, 110, 97, 109, 101, 95, 95, 6, 246, 4, 95, 115, 114, 101, 6, 248, 7, 95, 95, 100, 111, 99, 95, 95, 0, 6, 250, 11, 95, 95, 112, 97, 99, 107, 97, 103, 101, 95, 95, 6, 249, 0, 6, 251, 10, 95, 95, 108, 111, 97, 100, 101, 114, 95, 95, 4, 0, 0, 14, 6, 252, 8, 95, 95, 115, 112, 101, 99, 95, 95, 4, 0, 0, 26, 6, 253, 7, 99, 111, 109, 112, 105, 108, 101, 9, 12, 95, 115, 114, 101, 46, 99, 111, 109, 112, 105, 108, 101, 6, 254, 8, 116, 101, 109, 112, 108, 97, 116, 101, 9, 13, 95, 115, 114, 101, 46, 116, 101, 109, 112, 108, 97, 116, 101, 6, 255, 11, 103, 101, 116, 99, 111, 100, 101, 115, 105, 122, 101, 9, 16, 95, 115, 114, 101, 46, 103, 101, 116, 99, 111, 100, 101, 115, 105, 122, 101, 6, 256, 13, 97, 115, 99, 105, 105, 95, 105, 115, 99, 97, 115, 101, 100, 9, 18, 95, 115, 114, 101, 46, 97, 115, 99, 105, 105, 95, 105, 115, 99, 97, 115, 101, 100, 6, 257, 15, 117, 110, 105, 99, 111, 100, 101, 95, 105, 115, 99, 97, 115, 101, 100, 9, 20, 95, 115, 114, 101, 46, 117, 110, 105, 99, 111, 100, 101, 95, 105, 115, 99, 97, 115, 101, 100, 6, 258, 13, 97, 115, 99, 105, 105, 95, 116, 111, 108, 111, 119, 101, 114, 9, 18, 95, 115, 114, 101, 46, 97, 115, 99, 105, 105, 95, 116, 111, 108, 111, 119, 101, 114, 6, 259, 15, 117, 110, 105, 99, 111, 100, 101, 95, 116, 111, 108, 111, 119, 101, 114, 9, 20, 95, 115, 114, 101, 46, 117, 110, 105, 99, 111, 100, 101, 95, 116, 111, 108, 111, 119, 101, 114, 6, 261, 5, 77, 65, 71, 73, 67, 4, 260, 0, 20230612, 6, 263, 8, 67, 79, 68, 69, 83, 73, 90, 69, 4, 262, 0, 4, 6, 265, 9, 77, 65, 88, 82, 69, 80, 69, 65, 84, 4, 264, 0, 4294967295, 6, 267, 9, 77, 65, 88, 71, 82, 79, 85, 80, 83, 4, 266, 0, 1073741823, 6, 269, 9, 99, 111, 112, 121, 114, 105, 103, 104, 116, 6, 268, 53, 32, 83, 82, 69, 32, 50, 46, 50, 46, 50, 32, 67, 111, 112, 121, 114, 105, 103, 104, 116, 32, 40, 99, 41, 32, 49, 57, 57, 55, 45, 50, 48, 48, 50, 32, 98, 121, 32, 83, 101, 99, 114, 101, 116, 32, 76, 97, 98, 115, 32, 65, 66, 32].toArray)) 0), (PySem.Value.bool Bool.true), (PySem.Value.bool Bool.false), (PySem.Value.str (PySem.Str.ofString "_sre") 271)].toArray) 0) ([].toArray))
noncomputable def o28v1 (P : PySem.Params) : PySem.Obj := (PySem.Obj.mk (PySem.Value.type "tuple") none (PySem.Data.seq ([].toArray) 0) ([].toArray))
noncomputable def o29v1 (P : PySem.Params) : PySem.Obj := (PySem.Obj.mk PySem.Value.none none (PySem.Data.fields ([].toArray)) ([].toArray))
noncomputable def o30v1 (P : PySem.Params) : PySem.Obj := (PySem.Obj.mk (PySem.Value.type "code") none (PySem.Data.fields ([(PySem.Value.str (PySem.Str.ofString "<module>") 277), (PySem.Value.str (PySem.Str.ofString "<module>") 278), (PySem.Value.str (PySem.Str.ofString "/claim/cut.py") 279), (PySem.Value.int (1 : Int) 0), (PySem.Value.int (0 : Int) 0), (PySem.Value.int (0 : Int) 0), (PySem.Value.int (0 : Int) 0), (PySem.Value.int (0 : Int) 0), (PySem.Value.ref 28), (PySem.Value.bool Bool.false), (PySem.Value.int (276 : Int) 0), (PySem.Value.ref 29), PySem.Value.none, PySem.Value.none, PySem.Value.none, PySem.Value.none, (PySem.Value.int (280 : Int) 0), (PySem.Value.int (1 : Int) 0), (PySem.Value.str (PySem.Str.ofString "/claim/cut.py") 281)].toArray)) ([].toArray))
noncomputable def o31v1 (P : PySem.Params) : PySem.Obj := (PySem.Obj.mk (PySem.Value.type "frame") none PySem.Data.plain ([(some (PySem.Value.ref 30)), (some (PySem.Value.ref 3)), (some (PySem.Value.ref 3)), none, (some (PySem.Value.str (PySem.Str.ofString "__main__") 164)), none, (some (PySem.Value.ref 0))].toArray))
noncomputable def o3v3 (P : PySem.Params) : PySem.Obj := (PySem.Obj.mk (PySem.Value.type "dict") none (PySem.Data.dict ([(PySem.DictEntry.mk (PySem.PyData.keyHash P (PySem.Str.ofString "__name__")) (PySem.Value.str (PySem.Str.ofString "__name__") 165) (PySem.Value.str (PySem.Str.ofString "cpy313.tabnanny") 289)), (PySem.DictEntry.mk (PySem.PyData.keyHash P (PySem.Str.ofString "__doc__")) (PySem.Value.str (PySem.Str.ofString "__doc__") 166) PySem.Value.none), (PySem.DictEntry.mk (PySem.PyData.keyHash P (PySem.Str.ofString "__package__")) (PySem.Value.str (PySem.Str.ofString "__package__") 167) PySem.Value.none), (PySem.DictEntry.mk (PySem.PyData.keyHash P (PySem.Str.ofString "__loader__")) (PySem.Value.str (PySem.Str.ofString "__loader__") 168) (PySem.Value.builtin "__main__.__loader__#opaque")), (PySem.DictEntry.mk (PySem.PyData.keyHash P (PySem.Str.ofString "__spec__")) (PySem.Value.str (PySem.Str.ofString "__spec__") 169) PySem.Value.none), (PySem.DictEntry.mk (PySem.PyData.keyHash P (PySem.Str.ofString "__annotations__")) (PySem.Value.str (PySem.Str.ofString "__annotations__") 170) (PySem.Value.ref 6)), (PySem.DictEntry.mk (PySem.PyData.keyHash P (PySem.Str.ofString "__builtins__")) (PySem.Value.str (PySem.Str.ofString "__builtins__") 171) (PySem.Value.ref 4)), (PySem.DictEntry.mk (PySem.PyData.keyHash P (PySem.Str.ofString "__file__")) (PySem.Value.str (PySem.Str.ofString "__file__") 173) (PySem.Value.str (PySem.Str.ofString "/claim/cut.py") 172)), (PySem.DictEntry.mk (PySem.PyData.keyHash P (PySem.Str.ofString "__cached__")) (PySem.Value.str (PySem.Str.ofString "__cached__") 174) PySem.Value.none), (PySem.DictEntry.mk (PySem.PyData.keyHash P (PySem.Str.ofString "_sre")) (PySem.Value.str (PySem.Str.ofString "_sre") 275) (PySem.Value.ref 12)), (PySem.DictEntry.mk (PySem.PyData.keyHash P (PySem.Str.ofString "_wall")) (PySem.Value.str (PySem.Str.ofString "_wall") 288) (PySem.Value.ref 38))].toArray) 11) ([].toArray))
noncomputable def o29v3 (P : PySem.Params) : PySem.Obj := (PySem.Obj.mk PySem.Value.none none (PySem.Data.fields ([(PySem.Value.int (2 : Int) 0), (PySem.Value.int (0 : Int) 0), (PySem.Value.ref 37)].toArray)) ([].toArray))
noncomputable def o32v3 (P : PySem.Params) : PySem.Obj := (PySem.Obj.mk (PySem.Value.type "tuple") none (PySem.Data.seq ([].toArray) 0) ([].toArray))
noncomputable def o33v3 (P : PySem.Params) : PySem.Obj := (PySem.Obj.mk PySem.Value.none none (PySem.Data.fields ([].toArray)) ([].toArray))
noncomputable def o34v3 (P : PySem.Params) : PySem.Obj := (PySem.Obj.mk (PySem.Value.type "tuple") none (PySem.Data.seq ([(PySem.Value.str (PySem.Str.ofString "k") 285)].toArray) 0) ([].toArray))
noncomputable def o35v3 (P : PySem.Params) : PySem.Obj := (PySem.Obj.mk (PySem.Value.type "tuple") none (PySem.Data.seq ([].toArray) 0) ([].toArray))
noncomputable def o36v3 (P : PySem.Params) : PySem.Obj := ⟨PySem.Value.none, none, .func { name := (PySem.Str.ofString "_wall"), qualname := (PySem.Str.ofString "_wall"), params := pa1.1, body := .stmts bo1.1, scope := sc1.1, globals := 0, closure := [], defaults := PySem.Value.none, kwdefaults := PySem.Value.none, doc := PySem.Value.none, pyModule := PySem.Value.none, annotations := none, code := PySem.Value.none, closureTuple := PySem.Value.none, builtins := 0 }, ([].toArray)⟩
noncomputable def o37v3 (P : PySem.Params) : PySem.Obj := (PySem.Obj.mk (PySem.Value.type "code") none (PySem.Data.fields ([(PySem.Value.str (PySem.Str.ofString "_wall") 282), (PySem.Value.str (PySem.Str.ofString "_wall") 283), (PySem.Value.str (PySem.Str.ofString "/claim/cut.py") 284), (PySem.Value.int (2 : Int) 0), (PySem.Value.int (1 : Int) 0), (PySem.Value.int (0 : Int) 0), (PySem.Value.int (0 : Int) 0), (PySem.Value.int (3 : Int) 0), (PySem.Value.ref 32), (PySem.Value.bool Bool.true), (PySem.Value.int (276 : Int) 0), (PySem.Value.ref 33), PySem.Value.none, (PySem.Value.ref 34), (PySem.Value.ref 35), (PySem.Value.ref 36), (PySem.Value.int (286 : Int) 0), (PySem.Value.int (2 : Int) 0), (PySem.Value.str (PySem.Str.ofString "/claim/cut.py") 287)].toArray)) ([].toArray))
noncomputable def o38v3 (P : PySem.Params) : PySem.Obj := ⟨(PySem.Value.type "function"), none, .func { name := (PySem.Str.ofString "_wall"), qualname := (PySem.Str.ofString "_wall"), params := pa1.1, body := .stmts bo1.1, scope := sc1.1, globals := 3, closure := [], defaults := PySem.Value.none, kwdefaults := PySem.Value.none, doc := PySem.Value.none, pyModule := (PySem.Value.str (PySem.Str.ofString "__main__") 164), annotations := none, code := (PySem.Value.ref 37), closureTuple := PySem.Value.none, builtins := 0 }, ([].toArray)⟩
noncomputable def o3v4 (P : PySem.Params) : PySem.Obj := (PySem.Obj.mk (PySem.Value.type "dict") none (PySem.Data.dict ([(PySem.DictEntry.mk (PySem.PyData.keyHash P (PySem.Str.ofString "__name__")) (PySem.Value.str (PySem.Str.ofString "__name__") 165) (PySem.Value.str (PySem.Str.ofString "cpy313.tabnanny") 289)), (PySem.DictEntry.mk (PySem.PyData.keyHash P (PySem.Str.ofString "__doc__")) (PySem.Value.str (PySem.Str.ofString "__doc__") 166) PySem.Value.none), (PySem.DictEntry.mk (PySem.PyData.keyHash P (PySem.Str.ofString "__package__")) (PySem.Value.str (PySem.Str.ofString "__package__") 167) PySem.Value.none), (PySem.DictEntry.mk (PySem.PyData.keyHash P (PySem.Str.ofString "__loader__")) (PySem.Value.str (PySem.Str.ofString "__loader__") 168) (PySem.Value.builtin "__main__.__loader__#opaque")), (PySem.DictEntry.mk (PySem.PyData.keyHash P (PySem.Str.ofString "__spec__")) (PySem.Value.str (PySem.Str.ofString "__spec__") 169) PySem.Value.none), (PySem.DictEntry.mk (PySem.PyData.keyHash P (PySem.Str.ofString "__annotations__")) (PySem.Value.str (PySem.Str.ofString "__annotations__") 170) (PySem.Value.ref 6)), (PySem.DictEntry.mk (PySem.PyData.keyHash P (PySem.Str.ofString "__builtins__")) (PySem.Value.str (PySem.Str.ofString "__builtins__") 171) (PySem.Value.ref 4)), (PySem.DictEntry.mk (PySem.PyData.keyHash P (PySem.Str.ofString "__file__")) (PySem.Value.str (PySem.Str.ofString "__file__") 173) (PySem.Value.str (PySem.Str.ofString "/claim/cut.py") 172)), (PySem.DictEntry.mk (PySem.PyData.keyHash P (PySem.Str.ofString "__cached__")) (PySem.Value.str (PySem.Str.ofString "__cached__") 174) PySem.Value.none), (PySem.DictEntry.mk (PySem.PyData.keyHash P (PySem.Str.ofString "_sre")) (PySem.Value.str (PySem.Str.ofString "_sre") 275) (PySem.Value.ref 12)), (PySem.DictEntry.mk (PySem.PyData.keyHash P (PySem.Str.ofString "_wall")) (PySem.Value.str (PySem.Str.ofString "_wall") 288) (PySem.Value.ref 38)), (PySem.DictEntry.mk (PySem.PyData.keyHash P (PySem.Str.ofString "Whitespace")) (PySem.Value.str (PySem.Str.ofString "Whitespace") 382) (PySem.Value.ref 100))].toArray) 12) ([].toArray))
noncomputable def o29v4 (P : PySem.Params) : PySem.Obj := (PySem.Obj.mk PySem.Value.none none (PySem.Data.fields ([(PySem.Value.int (2 : Int) 0), (PySem.Value.int (0 : Int) 0), (PySem.Value.ref 37), (PySem.Value.int (6 : Int) 0), (PySem.Value.int (0 : Int) 0), (PySem.Value.ref 44)].toArray)) ([].toArray))
noncomputable def o39v4 (P : PySem.Params) : PySem.Obj := (PySem.Obj.mk (PySem.Value.type "tuple") none (PySem.Data.seq ([].toArray) 0) ([].toArray))
noncomputable def o40v4 (P : PySem.Params) : PySem.Obj := (PySem.Obj.mk (PySem.Value.type "builtin_function_or_method") none (PySem.Data.fields ([(PySem.Value.builtin "type.__prepare__"), (PySem.Value.type "type")].toArray)) ([].toArray))
noncomputable def o41v4 (P : PySem.Params) : PySem.Obj := (PySem.Obj.mk (PySem.Value.type "dict") none (PySem.Data.dict ([(PySem.DictEntry.mk (PySem.PyData.keyHash P (PySem.Str.ofString "__module__")) (PySem.Value.str (PySem.Str.ofString "__module__") 298) (PySem.Value.str (PySem.Str.ofString "cpy313.tabnanny") 289)), (PySem.DictEntry.mk (PySem.PyData.keyHash P (PySem.Str.ofString "__qualname__")) (PySem.Value.str (PySem.Str.ofString "__qualname__") 300) (PySem.Value.str (PySem.Str.ofString "Whitespace") 299)), (PySem.DictEntry.mk (PySem.PyData.keyHash P (PySem.Str.ofString "__firstlineno__")) (PySem.Value.str (PySem.Str.ofString "__firstlineno__") 302) (PySem.Value.int (6 : Int) 301)), (PySem.DictEntry.mk (PySem.PyData.keyHash P (PySem.Str.ofString "S")) (PySem.Value.str (PySem.Str.ofString "S") 306) (PySem.Value.str (PySem.Str.ofString " ") 304)), (PySem.DictEntry.mk (PySem.PyData.keyHash P (PySem.Str.ofString "T")) (PySem.Value.str (PySem.Str.ofString "T") 307) (PySem.Value.str (PySem.Str.ofString "\t") 305)), (PySem.DictEntry.mk (PySem.PyData.keyHash P (PySem.Str.ofString "__init__")) (PySem.Value.str (PySem.Str.ofString "__init__") 322) (PySem.Value.ref 55)), (PySem.DictEntry.mk (PySem.PyData.keyHash P (PySem.Str.ofString "longest_run_of_spaces")) (PySem.Value.str (PySem.Str.ofString "longest_run_of_spaces") 329) (PySem.Value.ref 62)), (PySem.DictEntry.mk (PySem.PyData.keyHash P (PySem.Str.ofString "indent_level")) (PySem.Value.str (PySem.Str.ofString "indent_level") 337) (PySem.Value.ref 69)), (PySem.DictEntry.mk (PySem.PyData.keyHash P (PySem.Str.ofString "equal")) (PySem.Value.str (PySem.Str.ofString "equal") 345) (PySem.Value.ref 76)), (PySem.DictEntry.mk (PySem.PyData.keyHash P (PySem.Str.ofString "not_equal_witness")) (PySem.Value.str (PySem.Str.ofString "not_equal_witness") 353) (PySem.Value.ref 83)), (PySem.DictEntry.mk (PySem.PyData.keyHash P (PySem.Str.ofString "less")) (PySem.Value.str (PySem.Str.ofString "less") 361) (PySem.Value.ref 90)), (PySem.DictEntry.mk (PySem.PyData.keyHash P (PySem.Str.ofString "not_less_witness")) (PySem.Value.str (PySem.Str.ofString "not_less_witness") 369) (PySem.Value.ref 97)), (PySem.DictEntry.mk (PySem.PyData.keyHash P (PySem.Str.ofString "__static_attributes__")) (PySem.Value.str (PySem.Str.ofString "__static_attributes__") 375) (PySem.Value.ref 98))].toArray) 13) ([].toArray))
noncomputable def o42v4 (P : PySem.Params) : PySem.Obj := (PySem.Obj.mk (PySem.Value.type "tuple") none (PySem.Data.seq ([].toArray) 0) ([].toArray))
noncomputable def o43v4 (P : PySem.Params) : PySem.Obj := (PySem.Obj.mk PySem.Value.none none (PySem.Data.fields ([(PySem.Value.int (9 : Int) 0), (PySem.Value.int (4 : Int) 0), (PySem.Value.ref 54), (PySem.Value.int (32 : Int) 0), (PySem.Value.int (4 : Int) 0), (PySem.Value.ref 61), (PySem.Value.int (35 : Int) 0), (PySem.Value.int (4 : Int) 0), (PySem.Value.ref 68), (PySem.Value.int (38 : Int) 0), (PySem.Value.int (4 : Int) 0), (PySem.Value.ref 75), (PySem.Value.int (41 : Int) 0), (PySem.Value.int (4 : Int) 0), (PySem.Value.ref 82), (PySem.Value.int (44 : Int) 0), (PySem.Value.int (4 : Int) 0), (PySem.Value.ref 89), (PySem.Value.int (47 : Int) 0), (PySem.Value.int (4 : Int) 0), (PySem.Value.ref 96)].toArray)) ([].toArray))
noncomputable def o44v4 (P : PySem.Params) : PySem.Obj := (PySem.Obj.mk (PySem.Value.type "code") none (PySem.Data.fields ([(PySem.Value.str (PySem.Str.ofString "Whitespace") 293), (PySem.Value.str (PySem.Str.ofString "Whitespace") 294), (PySem.Value.str (PySem.Str.ofString "/claim/cut.py") 295), (PySem.Value.int (6 : Int) 0), (PySem.Value.int (0 : Int) 0), (PySem.Value.int (0 : Int) 0), (PySem.Value.int (0 : Int) 0), (PySem.Value.int (0 : Int) 0), (PySem.Value.ref 42), (PySem.Value.bool Bool.false), (PySem.Value.int (276 : Int) 0), (PySem.Value.ref 43), PySem.Value.none, PySem.Value.none, PySem.Value.none, PySem.Value.none, (PySem.Value.int (296 : Int) 0), (PySem.Value.int (6 : Int) 0), (PySem.Value.str (PySem.Str.ofString "/claim/cut.py") 297)].toArray)) ([].toArray))
noncomputable def o45v4 (P : PySem.Params) : PySem.Obj := (PySem.Obj.mk (PySem.Value.type "frame") none PySem.Data.plain ([(some (PySem.Value.ref 44)), (some (PySem.Value.ref 3)), (some (PySem.Value.ref 41)), none, (some (PySem.Value.str (PySem.Str.ofString "cpy313.tabnanny") 289)), none, (some (PySem.Value.ref 0))].toArray))
noncomputable def o46v4 (P : PySem.Params) : PySem.Obj := (PySem.Obj.mk (PySem.Value.type "str_ascii_iterator") none (PySem.Data.fields ([PySem.Value.none, (PySem.Value.int (2 : Int) 0)].toArray)) ([].toArray))
noncomputable def o47v4 (P : PySem.Params) : PySem.Obj := (PySem.Obj.mk (PySem.Value.type "tuple") none (PySem.Data.seq ([].toArray) 0) ([].toArray))
noncomputable def o48v4 (P : PySem.Params) : PySem.Obj := (PySem.Obj.mk (PySem.Value.type "StopIteration") none (PySem.Data.fields ([(PySem.Value.ref 47), PySem.Value.none, PySem.Value.none, PySem.Value.none, (PySem.Value.bool Bool.false), PySem.Value.none].toArray)) ([].toArray))
noncomputable def o49v4 (P : PySem.Params) : PySem.Obj := (PySem.Obj.mk (PySem.Value.type "tuple") none (PySem.Data.seq ([].toArray) 0) ([].toArray))
noncomputable def o50v4 (P : PySem.Params) : PySem.Obj := (PySem.Obj.mk PySem.Value.none none (PySem.Data.fields ([].toArray)) ([].toArray))
noncomputable def o51v4 (P : PySem.Params) : PySem.Obj := (PySem.Obj.mk (PySem.Value.type "tuple") none (PySem.Data.seq ([(PySem.Value.str (PySem.Str.ofString "self") 311), (PySem.Value.str (PySem.Str.ofString "ws") 312), (PySem.Value.str (PySem.Str.ofString "S") 313), (PySem.Value.str (PySem.Str.ofString "T") 314), (PySem.Value.str (PySem.Str.ofString "count") 315), (PySem.Value.str (PySem.Str.ofString "b") 316), (PySem.Value.str (PySem.Str.ofString "n") 317), (PySem.Value.str (PySem.Str.ofString "nt") 318), (PySem.Value.str (PySem.Str.ofString "ch") 319)].toArray) 0) ([].toArray))
noncomputable def o52v4 (P : PySem.Params) : PySem.Obj := (PySem.Obj.mk (PySem.Value.type "tuple") none (PySem.Data.seq ([].toArray) 0) ([].toArray))
noncomputable def o53v4 (P : PySem.Params) : PySem.Obj := ⟨PySem.Value.none, none, .func { name := (PySem.Str.ofString "__init__"), qualname := (PySem.Str.ofString "Whitespace.__init__"), params := pa3x1.1, body := .stmts bo3x1.1, scope := sc3x1.1, globals := 0, closure := [], defaults := PySem.Value.none, kwdefaults := PySem.Value.none, doc := PySem.Value.none, pyModule := PySem.Value.none, annotations := none, code := PySem.Value.none, closureTuple := PySem.Value.none, builtins := 0 }, ([].toArray)⟩
noncomputable def o54v4 (P : PySem.Params) : PySem.Obj := (PySem.Obj.mk (PySem.Value.type "code") none (PySem.Data.fields ([(PySem.Value.str (PySem.Str.ofString "__init__") 308), (PySem.Value.str (PySem.Str.ofString "Whitespace.__init__") 309), (PySem.Value.str (PySem.Str.ofString "/claim/cut.py") 310), (PySem.Value.int (9 : Int) 0), (PySem.Value.int (2 : Int) 0), (PySem.Value.int (0 : Int) 0), (PySem.Value.int (0 : Int) 0), (PySem.Value.int (3 : Int) 0), (PySem.Value.ref 49), (PySem.Value.bool Bool.true), (PySem.Value.int (276 : Int) 0), (PySem.Value.ref 50), PySem.Value.none, (PySem.Value.ref 51), (PySem.Value.ref 52), (PySem.Value.ref 53), (PySem.Value.int (320 : Int) 0), (PySem.Value.int (9 : Int) 0), (PySem.Value.str (PySem.Str.ofString "/claim/cut.py") 321)].toArray)) ([].toArray))
noncomputable def o55v4 (P : PySem.Params) : PySem.Obj := ⟨(PySem.Value.type "function"), none, .func { name := (PySem.Str.ofString "__init__"), qualname := (PySem.Str.ofString "Whitespace.__init__"), params := pa3x1.1, body := .stmts bo3x1.1, scope := sc3x1.1, globals := 3, closure := [], defaults := PySem.Value.none, kwdefaults := PySem.Value.none, doc := PySem.Value.none, pyModule := (PySem.Value.str (PySem.Str.ofString "cpy313.tabnanny") 289), annotations := none, code := (PySem.Value.ref 54), closureTuple := PySem.Value.none, builtins := 0 }, ([].toArray)⟩
noncomputable def o56v4 (P : PySem.Params) : PySem.Obj := (PySem.Obj.mk (PySem.Value.type "tuple") none (PySem.Data.seq ([].toArray) 0) ([].toArray))
noncomputable def o57v4 (P : PySem.Params) : PySem.Obj := (PySem.Obj.mk PySem.Value.none none (PySem.Data.fields ([].toArray)) ([].toArray))
noncomputable def o58v4 (P : PySem.Params) : PySem.Obj := (PySem.Obj.mk (PySem.Value.type "tuple") none (PySem.Data.seq ([(PySem.Value.str (PySem.Str.ofString "self") 326)].toArray) 0) ([].toArray))
noncomputable def o59v4 (P : PySem.Params) : PySem.Obj := (PySem.Obj.mk (PySem.Value.type "tuple") none (PySem.Data.seq ([].toArray) 0) ([].toArray))
noncomputable def o60v4 (P : PySem.Params) : PySem.Obj := ⟨PySem.Value.none, none, .func { name := (PySem.Str.ofString "longest_run_of_spaces"), qualname := (PySem.Str.ofString "Whitespace.longest_run_of_spaces"), params := pa3x2.1, body := .stmts bo3x2.1, scope := sc3x2.1, globals := 0, closure := [], defaults := PySem.Value.none, kwdefaults := PySem.Value.none, doc := PySem.Value.none, pyModule := PySem.Value.none, annotations := none, code := PySem.Value.none, closureTuple := PySem.Value.none, builtins := 0 }, ([].toArray)⟩
noncomputable def o61v4 (P : PySem.Params) : PySem.Obj := (PySem.Obj.mk (PySem.Value.type "code") none (PySem.Data.fields ([(PySem.Value.str (PySem.Str.ofString "longest_run_of_spaces") 323), (PySem.Value.str (PySem.Str.ofString "Whitespace.longest_run_of_spaces") 324), (PySem.Value.str (PySem.Str.ofString "/claim/cut.py") 325), (PySem.Value.int (32 : Int) 0), (PySem.Value.int (1 : Int) 0), (PySem.Value.int (0 : Int) 0), (PySem.Value.int (0 : Int) 0), (PySem.Value.int (3 : Int) 0), (PySem.Value.ref 56), (PySem.Value.bool Bool.true), (PySem.Value.int (276 : Int) 0), (PySem.Value.ref 57), PySem.Value.none, (PySem.Value.ref 58), (PySem.Value.ref 59), (PySem.Value.ref 60), (PySem.Value.int (327 : Int) 0), (PySem.Value.int (32 : Int) 0), (PySem.Value.str (PySem.Str.ofString "/claim/cut.py") 328)].toArray)) ([].toArray))
noncomputable def o62v4 (P : PySem.Params) : PySem.Obj := ⟨(PySem.Value.type "function"), none, .func { name := (PySem.Str.ofString "longest_run_of_spaces"), qualname := (PySem.Str.ofString "Whitespace.longest_run_of_spaces"), params := pa3x2.1, body := .stmts bo3x2.1, scope := sc3x2.1, globals := 3, closure := [], defaults := PySem.Value.none, kwdefaults := PySem.Value.none, doc := PySem.Value.none, pyModule := (PySem.Value.str (PySem.Str.ofString "cpy313.tabnanny") 289), annotations := none, code := (PySem.Value.ref 61), closureTuple := PySem.Value.none, builtins := 0 }, ([].toArray)⟩
noncomputable def o63v4 (P : PySem.Params) : PySem.Obj := (PySem.Obj.mk (PySem.Value.type "tuple") none (PySem.Data.seq ([].toArray) 0) ([].toArray))
noncomputable def o64v4 (P : PySem.Params) : PySem.Obj := (PySem.Obj.mk PySem.Value.none none (PySem.Data.fields ([].toArray)) ([].toArray))
noncomputable def o65v4 (P : PySem.Params) : PySem.Obj := (PySem.Obj.mk (PySem.Value.type "tuple") none (PySem.Data.seq ([(PySem.Value.str (PySem.Str.ofString "self") 333), (PySem.Value.str (PySem.Str.ofString "tabsize") 334)].toArray) 0) ([].toArray))
noncomputable def o66v4 (P : PySem.Params) : PySem.Obj := (PySem.Obj.mk (PySem.Value.type "tuple") none (PySem.Data.seq ([].toArray) 0) ([].toArray))
noncomputable def o67v4 (P : PySem.Params) : PySem.Obj := ⟨PySem.Value.none, none, .func { name := (PySem.Str.ofString "indent_level"), qualname := (PySem.Str.ofString "Whitespace.indent_level"), params := pa3x3.1, body := .stmts bo3x3.1, scope := sc3x3.1, globals := 0, closure := [], defaults := PySem.Value.none, kwdefaults := PySem.Value.none, doc := PySem.Value.none, pyModule := PySem.Value.none, annotations := none, code := PySem.Value.none, closureTuple := PySem.Value.none, builtins := 0 }, ([].toArray)⟩
noncomputable def o68v4 (P : PySem.Params) : PySem.Obj := (PySem.Obj.mk (PySem.Value.type "code") none (PySem.Data.fields ([(PySem.Value.str (PySem.Str.ofString "indent_level") 330), (PySem.Value.str (PySem.Str.ofString "Whitespace.indent_level") 331), (PySem.Value.str (PySem.Str.ofString "/claim/cut.py") 332), (PySem.Value.int (35 : Int) 0), (PySem.Value.int (2 : Int) 0), (PySem.Value.int (0 : Int) 0), (PySem.Value.int (0 : Int) 0), (PySem.Value.int (3 : Int) 0), (PySem.Value.ref 63), (PySem.Value.bool Bool.true), (PySem.Value.int (276 : Int) 0), (PySem.Value.ref 64), PySem.Value.none, (PySem.Value.ref 65), (PySem.Value.ref 66), (PySem.Value.ref 67), (PySem.Value.int (335 : Int) 0), (PySem.Value.int (35 : Int) 0), (PySem.Value.str (PySem.Str.ofString "/claim/cut.py") 336)].toArray)) ([].toArray))
noncomputable def o69v4 (P : PySem.Params) : PySem.Obj := ⟨(PySem.Value.type "function"), none, .func { name := (PySem.Str.ofString "indent_level"), qualname := (PySem.Str.ofString "Whitespace.indent_level"), params := pa3x3.1, body := .stmts bo3x3.1, scope := sc3x3.1, globals := 3, closure := [], defaults := PySem.Value.none, kwdefaults := PySem.Value.none, doc := PySem.Value.none, pyModule := (PySem.Value.str (PySem.Str.ofString "cpy313.tabnanny") 289), annotations := none, code := (PySem.Value.ref 68), closureTuple := PySem.Value.none, builtins := 0 }, ([].toArray)⟩
noncomputable def o70v4 (P : PySem.Params) : PySem.Obj := (PySem.Obj.mk (PySem.Value.type "tuple") none (PySem.Data.seq ([].toArray) 0) ([].toArray))
noncomputable def o71v4 (P : PySem.Params) : PySem.Obj := (PySem.Obj.mk PySem.Value.none none (PySem.Data.fields ([].toArray)) ([].toArray))
noncomputable def o72v4 (P : PySem.Params) : PySem.Obj := (PySem.Obj.mk (PySem.Value.type "tuple") none (PySem.Data.seq ([(PySem.Value.str (PySem.Str.ofString "self") 341), (PySem.Value.str (PySem.Str.ofString "other") 342)].toArray) 0) ([].toArray))
noncomputable def o73v4 (P : PySem.Params) : PySem.Obj := (PySem.Obj.mk (PySem.Value.type "tuple") none (PySem.Data.seq ([].toArray) 0) ([].toArray))
noncomputable def o74v4 (P : PySem.Params) : PySem.Obj := ⟨PySem.Value.none, none, .func { name := (PySem.Str.ofString "equal"), qualname := (PySem.Str.ofString "Whitespace.equal"), params := pa3x4.1, body := .stmts bo3x4.1, scope := sc3x4.1, globals := 0, closure := [], defaults := PySem.Value.none, kwdefaults := PySem.Value.none, doc := PySem.Value.none, pyModule := PySem.Value.none, annotations := none, code := PySem.Value.none, closureTuple := PySem.Value.none, builtins := 0 }, ([].toArray)⟩
noncomputable def o75v4 (P : PySem.Params) : PySem.Obj := (PySem.Obj.mk (PySem.Value.type "code") none (PySem.Data.fields ([(PySem.Value.str (PySem.Str.ofString "equal") 338), (PySem.Value.str (PySem.Str.ofString "Whitespace.equal") 339), (PySem.Value.str (PySem.Str.ofString "/claim/cut.py") 340), (PySem.Value.int (38 : Int) 0), (PySem.Value.int (2 : Int) 0), (PySem.Value.int (0 : Int) 0), (PySem.Value.int (0 : Int) 0), (PySem.Value.int (3 : Int) 0), (PySem.Value.ref 70), (PySem.Value.bool Bool.true), (PySem.Value.int (276 : Int) 0), (PySem.Value.ref 71), PySem.Value.none, (PySem.Value.ref 72), (PySem.Value.ref 73), (PySem.Value.ref 74), (PySem.Value.int (343 : Int) 0), (PySem.Value.int (38 : Int) 0), (PySem.Value.str (PySem.Str.ofString "/claim/cut.py") 344)].toArray)) ([].toArray))
noncomputable def o76v4 (P : PySem.Params) : PySem.Obj := ⟨(PySem.Value.type "function"), none, .func { name := (PySem.Str.ofString "equal"), qualname := (PySem.Str.ofString "Whitespace.equal"), params := pa3x4.1, body := .stmts bo3x4.1, scope := sc3x4.1, globals := 3, closure := [], defaults := PySem.Value.none, kwdefaults := PySem.Value.none, doc := PySem.Value.none, pyModule := (PySem.Value.str (PySem.Str.ofString "cpy313.tabnanny") 289), annotations := none, code := (PySem.Value.ref 75), closureTuple := PySem.Value.none, builtins := 0 }, ([].toArray)⟩
noncomputable def o77v4 (P : PySem.Params) : PySem.Obj := (PySem.Obj.mk (PySem.Value.type "tuple") none (PySem.Data.seq ([].toArray) 0) ([].toArray))
noncomputable def o78v4 (P : PySem.Params) : PySem.Obj := (PySem.Obj.mk PySem.Value.none none (PySem.Data.fields ([].toArray)) ([].toArray))
noncomputable def o79v4 (P : PySem.Params) : PySem.Obj := (PySem.Obj.mk (PySem.Value.type "tuple") none (PySem.Data.seq ([(PySem.Value.str (PySem.Str.ofString "self") 349), (PySem.Value.str (PySem.Str.ofString "other") 350)].toArray) 0) ([].toArray))
noncomputable def o80v4 (P : PySem.Params) : PySem.Obj := (PySem.Obj.mk (PySem.Value.type "tuple") none (PySem.Data.seq ([].toArray) 0) ([].toArray))
noncomputable def o81v4 (P : PySem.Params) : PySem.Obj := ⟨PySem.Value.none, none, .func { name := (PySem.Str.ofString "not_equal_witness"), qualname := (PySem.Str.ofString "Whitespace.not_equal_witness"), params := pa3x5.1, body := .stmts bo3x5.1, scope := sc3x5.1, globals := 0, closure := [], defaults := PySem.Value.none, kwdefaults := PySem.Value.none, doc := PySem.Value.none, pyModule := PySem.Value.none, annotations := none, code := PySem.Value.none, closureTuple := PySem.Value.none, builtins := 0 }, ([].toArray)⟩
noncomputable def o82v4 (P : PySem.Params) : PySem.Obj := (PySem.Obj.mk (PySem.Value.type "code") none (PySem.Data.fields ([(PySem.Value.str (PySem.Str.ofString "not_equal_witness") 346), (PySem.Value.str (PySem.Str.ofString "Whitespace.not_equal_witness") 347), (PySem.Value.str (PySem.Str.ofString "/claim/cut.py") 348), (PySem.Value.int (41 : Int) 0), (PySem.Value.int (2 : Int) 0), (PySem.Value.int (0 : Int) 0), (PySem.Value.int (0 : Int) 0), (PySem.Value.int (3 : Int) 0), (PySem.Value.ref 77), (PySem.Value.bool Bool.true), (PySem.Value.int (276 : Int) 0), (PySem.Value.ref 78), PySem.Value.none, (PySem.Value.ref 79), (PySem.Value.ref 80), (PySem.Value.ref 81), (PySem.Value.int (351 : Int) 0), (PySem.Value.int (41 : Int) 0), (PySem.Value.str (PySem.Str.ofString "/claim/cut.py") 352)].toArray)) ([].toArray))
noncomputable def o83v4 (P : PySem.Params) : PySem.Obj := ⟨(PySem.Value.type "function"), none, .func { name := (PySem.Str.ofString "not_equal_witness"), qualname := (PySem.Str.ofString "Whitespace.not_equal_witness"), params := pa3x5.1, body := .stmts bo3x5.1, scope := sc3x5.1, globals := 3, closure := [], defaults := PySem.Value.none, kwdefaults := PySem.Value.none, doc := PySem.Value.none, pyModule := (PySem.Value.str (PySem.Str.ofString "cpy313.tabnanny") 289), annotations := none, code := (PySem.Value.ref 82), closureTuple := PySem.Value.none, builtins := 0 }, ([].toArray)⟩
noncomputable def o84v4 (P : PySem.Params) : PySem.Obj := (PySem.Obj.mk (PySem.Value.type "tuple") none (PySem.Data.seq ([].toArray) 0) ([].toArray))
noncomputable def o85v4 (P : PySem.Params) : PySem.Obj := (PySem.Obj.mk PySem.Value.none none (PySem.Data.fields ([].toArray)) ([].toArray))
noncomputable def o86v4 (P : PySem.Params) : PySem.Obj := (PySem.Obj.mk (PySem.Value.type "tuple") none (PySem.Data.seq ([(PySem.Value.str (PySem.Str.ofString "self") 357), (PySem.Value.str (PySem.Str.ofString "other") 358)].toArray) 0) ([].toArray))
noncomputable def o87v4 (P : PySem.Params) : PySem.Obj := (PySem.Obj.mk (PySem.Value.type "tuple") none (PySem.Data.seq ([].toArray) 0) ([].toArray))
noncomputable def o88v4 (P : PySem.Params) : PySem.Obj := ⟨PySem.Value.none, none, .func { name := (PySem.Str.ofString "less"), qualname := (PySem.Str.ofString "Whitespace.less"), params := pa3x6.1, body := .stmts bo3x6.1, scope := sc3x6.1, globals := 0, closure := [], defaults := PySem.Value.none, kwdefaults := PySem.Value.none, doc := PySem.Value.none, pyModule := PySem.Value.none, annotations := none, code := PySem.Value.none, closureTuple := PySem.Value.none, builtins := 0 }, ([].toArray)⟩
noncomputable def o89v4 (P : PySem.Params) : PySem.Obj := (PySem.Obj.mk (PySem.Value.type "code") none (PySem.Data.fields ([(PySem.Value.str (PySem.Str.ofString "less") 354), (PySem.Value.str (PySem.Str.ofString "Whitespace.less") 355), (PySem.Value.str (PySem.Str.ofString "/claim/cut.py") 356), (PySem.Value.int (44 : Int) 0), (PySem.Value.int (2 : Int) 0), (PySem.Value.int (0 : Int) 0), (PySem.Value.int (0 : Int) 0), (PySem.Value.int (3 : Int) 0), (PySem.Value.ref 84), (PySem.Value.bool Bool.true), (PySem.Value.int (276 : Int) 0), (PySem.Value.ref 85), PySem.Value.none, (PySem.Value.ref 86), (PySem.Value.ref 87), (PySem.Value.ref 88), (PySem.Value.int (359 : Int) 0), (PySem.Value.int (44 : Int) 0), (PySem.Value.str (PySem.Str.ofString "/claim/cut.py") 360)].toArray)) ([].toArray))
noncomputable def o90v4 (P : PySem.Params) : PySem.Obj := ⟨(PySem.Value.type "function"), none, .func { name := (PySem.Str.ofString "less"), qualname := (PySem.Str.ofString "Whitespace.less"), params := pa3x6.1, body := .stmts bo3x6.1, scope := sc3x6.1, globals := 3, closure := [], defaults := PySem.Value.none, kwdefaults := PySem.Value.none, doc := PySem.Value.none, pyModule := (PySem.Value.str (PySem.Str.ofString "cpy313.tabnanny") 289), annotations := none, code := (PySem.Value.ref 89), closureTuple := PySem.Value.none, builtins := 0 }, ([].toArray)⟩
noncomputable def o91v4 (P : PySem.Params) : PySem.Obj := (PySem.Obj.mk (PySem.Value.type "tuple") none (PySem.Data.seq ([].toArray) 0) ([].toArray))
noncomputable def o92v4 (P : PySem.Params) : PySem.Obj := (PySem.Obj.mk PySem.Value.none none (PySem.Data.fields ([].toArray)) ([].toArray))
noncomputable def o93v4 (P : PySem.Params) : PySem.Obj := (PySem.Obj.mk (PySem.Value.type "tuple") none (PySem.Data.seq ([(PySem.Value.str (PySem.Str.ofString "self") 365), (PySem.Value.str (PySem.Str.ofString "other") 366)].toArray) 0) ([].toArray))
noncomputable def o94v4 (P : PySem.Params) : PySem.Obj := (PySem.Obj.mk (PySem.Value.type "tuple") none (PySem.Data.seq ([].toArray) 0) ([].toArray))
noncomputable def o95v4 (P : PySem.Params) : PySem.Obj := ⟨PySem.Value.none, none, .func { name := (PySem.Str.ofString "not_less_witness"), qualname := (PySem.Str.ofString "Whitespace.not_less_witness"), params := pa3x7.1, body := .stmts bo3x7.1, scope := sc3x7.1, globals := 0, closure := [], defaults := PySem.Value.none, kwdefaults := PySem.Value.none, doc := PySem.Value.none, pyModule := PySem.Value.none, annotations := none, code := PySem.Value.none, closureTuple := PySem.Value.none, builtins := 0 }, ([].toArray)⟩
noncomputable def o96v4 (P : PySem.Params) : PySem.Obj := (PySem.Obj.mk (PySem.Value.type "code") none (PySem.Data.fields ([(PySem.Value.str (PySem.Str.ofString "not_less_witness") 362), (PySem.Value.str (PySem.Str.ofString "Whitespace.not_less_witness") 363), (PySem.Value.str (PySem.Str.ofString "/claim/cut.py") 364), (PySem.Value.int (47 : Int) 0), (PySem.Value.int (2 : Int) 0), (PySem.Value.int (0 : Int) 0), (PySem.Value.int (0 : Int) 0), (PySem.Value.int (3 : Int) 0), (PySem.Value.ref 91), (PySem.Value.bool Bool.true), (PySem.Value.int (276 : Int) 0), (PySem.Value.ref 92), PySem.Value.none, (PySem.Value.ref 93), (PySem.Value.ref 94), (PySem.Value.ref 95), (PySem.Value.int (367 : Int) 0), (PySem.Value.int (47 : Int) 0), (PySem.Value.str (PySem.Str.ofString "/claim/cut.py") 368)].toArray)) ([].toArray))
noncomputable def o97v4 (P : PySem.Params) : PySem.Obj := ⟨(PySem.Value.type "function"), none, .func { name := (PySem.Str.ofString "not_less_witness"), qualname := (PySem.Str.ofString "Whitespace.not_less_witness"), params := pa3x7.1, body := .stmts bo3x7.1, scope := sc3x7.1, globals := 3, closure := [], defaults := PySem.Value.none, kwdefaults := PySem.Value.none, doc := PySem.Value.none, pyModule := (PySem.Value.str (PySem.Str.ofString "cpy313.tabnanny") 289), annotations := none, code := (PySem.Value.ref 96), closureTuple := PySem.Value.none, builtins := 0 }, ([].toArray)⟩
noncomputable def o98v4 (P : PySem.Params) : PySem.Obj := (PySem.Obj.mk (PySem.Value.type "tuple") none (PySem.Data.seq ([(PySem.Value.str (PySem.Str.ofString "is_simple") 370), (PySem.Value.str (PySem.Str.ofString "n") 371), (PySem.Value.str (PySem.Str.ofString "norm") 372), (PySem.Value.str (PySem.Str.ofString "nt") 373), (PySem.Value.str (PySem.Str.ofString "raw") 374)].toArray) 0) ([].toArray))
noncomputable def o99v4 (P : PySem.Params) : PySem.Obj := (PySem.Obj.mk (PySem.Value.type "dict") none (PySem.Data.dict ([(PySem.DictEntry.mk (PySem.PyData.keyHash P (PySem.Str.ofString "__module__")) (PySem.Value.str (PySem.Str.ofString "__module__") 298) (PySem.Value.str (PySem.Str.ofString "cpy313.tabnanny") 289)), (PySem.DictEntry.mk (PySem.PyData.keyHash P (PySem.Str.ofString "__firstlineno__")) (PySem.Value.str (PySem.Str.ofString "__firstlineno__") 302) (PySem.Value.int (6 : Int) 301)), (PySem.DictEntry.mk (PySem.PyData.keyHash P (PySem.Str.ofString "S")) (PySem.Value.str (PySem.Str.ofString "S") 306) (PySem.Value.str (PySem.Str.ofString " ") 304)), (PySem.DictEntry.mk (PySem.PyData.keyHash P (PySem.Str.ofString "T")) (PySem.Value.str (PySem.Str.ofString "T") 307) (PySem.Value.str (PySem.Str.ofString "\t") 305)), (PySem.DictEntry.mk (PySem.PyData.keyHash P (PySem.Str.ofString "__init__")) (PySem.Value.str (PySem.Str.ofString "__init__") 322) (PySem.Value.ref 55)), (PySem.DictEntry.mk (PySem.PyData.keyHash P (PySem.Str.ofString "longest_run_of_spaces")) (PySem.Value.str (PySem.Str.ofString "longest_run_of_spaces") 329) (PySem.Value.ref 62)), (PySem.DictEntry.mk (PySem.PyData.keyHash P (PySem.Str.ofString "indent_level")) (PySem.Value.str (PySem.Str.ofString "indent_level") 337) (PySem.Value.ref 69)), (PySem.DictEntry.mk (PySem.PyData.keyHash P (PySem.Str.ofString "equal")) (PySem.Value.str (PySem.Str.ofString "equal") 345) (PySem.Value.ref 76)), (PySem.DictEntry.mk (PySem.PyData.keyHash P (PySem.Str.ofString "not_equal_witness")) (PySem.Value.str (PySem.Str.ofString "not_equal_witness") 353) (PySem.Value.ref 83)), (PySem.DictEntry.mk (PySem.PyData.keyHash P (PySem.Str.ofString "less")) (PySem.Value.str (PySem.Str.ofString "less") 361) (PySem.Value.ref 90)), (PySem.DictEntry.mk (PySem.PyData.keyHash P (PySem.Str.ofString "not_less_witness")) (PySem.Value.str (PySem.Str.ofString "not_less_witness") 369) (PySem.Value.ref 97)), (PySem.DictEntry.mk (PySem.PyData.keyHash P (PySem.Str.ofString "__static_attributes__")) (PySem.Value.str (PySem.Str.ofString "__static_attributes__") 375) (PySem.Value.ref 98)), (PySem.DictEntry.mk (PySem.PyData.keyHash P (PySem.Str.ofString "__dict__")) (PySem.Value.str (PySem.Str.ofString "__dict__") 377) (PySem.Value.ref 101)), (PySem.DictEntry.mk (PySem.PyData.keyHash P (PySem.Str.ofString "__weakref__")) (PySem.Value.str (PySem.Str.ofString "__weakref__") 379) (PySem.Value.ref 102)), (PySem.DictEntry.mk (PySem.PyData.keyHash P (PySem.Str.ofString "__doc__")) (PySem.Value.str (PySem.Str.ofString "__doc__") 380) PySem.Value.none)].toArray) 4) ([].toArray))
noncomputable def o100v4 (P : PySem.Params) : PySem.Obj := (PySem.Obj.mk (PySem.Value.type "type") none (PySem.Data.cls (PySem.ClassData.mk (PySem.Str.ofString "Whitespace") [(PySem.Value.type "object")] [(PySem.Value.ref 100), (PySem.Value.type "object")] 99 (PySem.Str.ofString "Whitespace") Bool.true [] [] Bool.false none Bool.false)) ([none, none, (some (PySem.Value.str (PySem.Str.ofString "Whitespace") 291)), (some (PySem.Value.str (PySem.Str.ofString "Whitespace") 299)), (some (PySem.Value.builtin "object.__new__")), (some (PySem.Value.bool Bool.true))].toArray))
noncomputable def o101v4 (P : PySem.Params) : PySem.Obj := (PySem.Obj.mk (PySem.Value.type "getset_descriptor") none (PySem.Data.fields ([(PySem.Value.str (PySem.Str.ofString "__dict__") 376), (PySem.Value.ref 100), (PySem.Value.builtin "function.__dict__"), (PySem.Value.builtin "function.__dict__#set")].toArray)) ([].toArray))
noncomputable def o102v4 (P : PySem.Params) : PySem.Obj := (PySem.Obj.mk (PySem.Value.type "getset_descriptor") none (PySem.Data.fields ([(PySem.Value.str (PySem.Str.ofString "__weakref__") 378), (PySem.Value.ref 100), (PySem.Value.builtin "ExceptionGroup.__weakref__"), PySem.Value.none].toArray)) ([].toArray))
noncomputable def o103v4 (P : PySem.Params) : PySem.Obj := (PySem.Obj.mk (PySem.Value.type "super") none (PySem.Data.fields ([(PySem.Value.ref 100), (PySem.Value.ref 100), (PySem.Value.ref 100)].toArray)) ([].toArray))
noncomputable def o104v4 (P : PySem.Params) : PySem.Obj := (PySem.Obj.mk (PySem.Value.type "builtin_function_or_method") none (PySem.Data.fields ([(PySem.Value.builtin "object.__init_subclass__"), (PySem.Value.ref 100)].toArray)) ([].toArray))
noncomputable def o3v5 (P : PySem.Params) : PySem.Obj := (PySem.Obj.mk (PySem.Value.type "dict") none (PySem.Data.dict ([(PySem.DictEntry.mk (PySem.PyData.keyHash P (PySem.Str.ofString "__name__")) (PySem.Value.str (PySem.Str.ofString "__name__") 165) (PySem.Value.str (PySem.Str.ofString "cpy313.stringprep") 394)), (PySem.DictEntry.mk (PySem.PyData.keyHash P (PySem.Str.ofString "__doc__")) (PySem.Value.str (PySem.Str.ofString "__doc__") 166) PySem.Value.none), (PySem.DictEntry.mk (PySem.PyData.keyHash P (PySem.Str.ofString "__package__")) (PySem.Value.str (PySem.Str.ofString "__package__") 167) PySem.Value.none), (PySem.DictEntry.mk (PySem.PyData.keyHash P (PySem.Str.ofString "__loader__")) (PySem.Value.str (PySem.Str.ofString "__loader__") 168) (PySem.Value.builtin "__main__.__loader__#opaque")), (PySem.DictEntry.mk (PySem.PyData.keyHash P (PySem.Str.ofString "__spec__")) (PySem.Value.str (PySem.Str.ofString "__spec__") 169) PySem.Value.none), (PySem.DictEntry.mk (PySem.PyData.keyHash P (PySem.Str.ofString "__annotations__")) (PySem.Value.str (PySem.Str.ofString "__annotations__") 170) (PySem.Value.ref 6)), (PySem.DictEntry.mk (PySem.PyData.keyHash P (PySem.Str.ofString "__builtins__")) (PySem.Value.str (PySem.Str.ofString "__builtins__") 171) (PySem.Value.ref 4)), (PySem.DictEntry.mk (PySem.PyData.keyHash P (PySem.Str.ofString "__file__")) (PySem.Value.str (PySem.Str.ofString "__file__") 173) (PySem.Value.str (PySem.Str.ofString "/claim/cut.py") 172)), (PySem.DictEntry.mk (PySem.PyData.keyHash P (PySem.Str.ofString "__cached__")) (PySem.Value.str (PySem.Str.ofString "__cached__") 174) PySem.Value.none), (PySem.DictEntry.mk (PySem.PyData.keyHash P (PySem.Str.ofString "_sre")) (PySem.Value.str (PySem.Str.ofString "_sre") 275) (PySem.Value.ref 12)), (PySem.DictEntry.mk (PySem.PyData.keyHash P (PySem.Str.ofString "_wall")) (PySem.Value.str (PySem.Str.ofString "_wall") 288) (PySem.Value.ref 38)), (PySem.DictEntry.mk (PySem.PyData.keyHash P (PySem.Str.ofString "Whitespace")) (PySem.Value.str (PySem.Str.ofString "Whitespace") 382) (PySem.Value.ref 100)), (PySem.DictEntry.mk (PySem.PyData.keyHash P (PySem.Str.ofString "_parse_varint")) (PySem.Value.str (PySem.Str.ofString "_parse_varint") 393) (PySem.Value.ref 111))].toArray) 13) ([].toArray))
noncomputable def o29v5 (P : PySem.Params) : PySem.Obj := (PySem.Obj.mk PySem.Value.none none (PySem.Data.fields ([(PySem.Value.int (2 : Int) 0), (PySem.Value.int (0 : Int) 0), (PySem.Value.ref 37), (PySem.Value.int (6 : Int) 0), (PySem.Value.int (0 : Int) 0), (PySem.Value.ref 44), (PySem.Value.int (50 : Int) 0), (PySem.Value.int (0 : Int) 0), (PySem.Value.ref 110)].toArray)) ([].toArray))
noncomputable def o105v5 (P : PySem.Params) : PySem.Obj := (PySem.Obj.mk (PySem.Value.type "tuple") none (PySem.Data.seq ([].toArray) 0) ([].toArray))
noncomputable def o106v5 (P : PySem.Params) : PySem.Obj := (PySem.Obj.mk PySem.Value.none none (PySem.Data.fields ([].toArray)) ([].toArray))
noncomputable def o107v5 (P : PySem.Params) : PySem.Obj := (PySem.Obj.mk (PySem.Value.type "tuple") none (PySem.Data.seq ([(PySem.Value.str (PySem.Str.ofString "iterator") 388), (PySem.Value.str (PySem.Str.ofString "b") 389), (PySem.Value.str (PySem.Str.ofString "val") 390)].toArray) 0) ([].toArray))
noncomputable def o108v5 (P : PySem.Params) : PySem.Obj := (PySem.Obj.mk (PySem.Value.type "tuple") none (PySem.Data.seq ([].toArray) 0) ([].toArray))
noncomputable def o109v5 (P : PySem.Params) : PySem.Obj := ⟨PySem.Value.none, none, .func { name := (PySem.Str.ofString "_parse_varint"), qualname := (PySem.Str.ofString "_parse_varint"), params := pa5.1, body := .stmts bo5.1, scope := sc5.1, globals := 0, closure := [], defaults := PySem.Value.none, kwdefaults := PySem.Value.none, doc := PySem.Value.none, pyModule := PySem.Value.none, annotations := none, code := PySem.Value.none, closureTuple := PySem.Value.none, builtins := 0 }, ([].toArray)⟩
noncomputable def o110v5 (P : PySem.Params) : PySem.Obj := (PySem.Obj.mk (PySem.Value.type "code") none (PySem.Data.fields ([(PySem.Value.str (PySem.Str.ofString "_parse_varint") 385), (PySem.Value.str (PySem.Str.ofString "_parse_varint") 386), (PySem.Value.str (PySem.Str.ofString "/claim/cut.py") 387), (PySem.Value.int (50 : Int) 0), (PySem.Value.int (1 : Int) 0), (PySem.Value.int (0 : Int) 0), (PySem.Value.int (0 : Int) 0), (PySem.Value.int (3 : Int) 0), (PySem.Value.ref 105), (PySem.Value.bool Bool.true), (PySem.Value.int (276 : Int) 0), (PySem.Value.ref 106), PySem.Value.none, (PySem.Value.ref 107), (PySem.Value.ref 108), (PySem.Value.ref 109), (PySem.Value.int (391 : Int) 0), (PySem.Value.int (50 : Int) 0), (PySem.Value.str (PySem.Str.ofString "/claim/cut.py") 392)].toArray)) ([].toArray))
noncomputable def o111v5 (P : PySem.Params) : PySem.Obj := ⟨(PySem.Value.type "function"), none, .func { name := (PySem.Str.ofString "_parse_varint"), qualname := (PySem.Str.ofString "_parse_varint"), params := pa5.1, body := .stmts bo5.1, scope := sc5.1, globals := 3, closure := [], defaults := PySem.Value.none, kwdefaults := PySem.Value.none, doc := PySem.Value.none, pyModule := (PySem.Value.str (PySem.Str.ofString "cpy313.dis") 383), annotations := none, code := (PySem.Value.ref 110), closureTuple := PySem.Value.none, builtins := 0 }, ([].toArray)⟩
noncomputable def o3v6 (P : PySem.Params) : PySem.Obj := (PySem.Obj.mk (PySem.Value.type "dict") none (PySem.Data.dict ([(PySem.DictEntry.mk (PySem.PyData.keyHash P (PySem.Str.ofString "__name__")) (PySem.Value.str (PySem.Str.ofString "__name__") 165) (PySem.Value.str (PySem.Str.ofString "cpy313.stringprep") 394)), (PySem.DictEntry.mk (PySem.PyData.keyHash P (PySem.Str.ofString "__doc__")) (PySem.Value.str (PySem.Str.ofString "__doc__") 166) PySem.Value.none), (PySem.DictEntry.mk (PySem.PyData.keyHash P (PySem.Str.ofString "__package__")) (PySem.Value.str (PySem.Str.ofString "__package__") 167) PySem.Value.none), (PySem.DictEntry.mk (PySem.PyData.keyHash P (PySem.Str.ofString "__loader__")) (PySem.Value.str (PySem.Str.ofString "__loader__") 168) (PySem.Value.builtin "__main__.__loader__#opaque")), (PySem.DictEntry.mk (PySem.PyData.keyHash P (PySem.Str.ofString "__spec__")) (PySem.Value.str (PySem.Str.ofString "__spec__") 169) PySem.Value.none), (PySem.DictEntry.mk (PySem.PyData.keyHash P (PySem.Str.ofString "__annotations__")) (PySem.Value.str (PySem.Str.ofString "__annotations__") 170) (PySem.Value.ref 6)), (PySem.DictEntry.mk (PySem.PyData.keyHash P (PySem.Str.ofString "__builtins__")) (PySem.Value.str (PySem.Str.ofString "__builtins__") 171) (PySem.Value.ref 4)), (PySem.DictEntry.mk (PySem.PyData.keyHash P (PySem.Str.ofString "__file__")) (PySem.Value.str (PySem.Str.ofString "__file__") 173) (PySem.Value.str (PySem.Str.ofString "/claim/cut.py") 172)), (PySem.DictEntry.mk (PySem.PyData.keyHash P (PySem.Str.ofString "__cached__")) (PySem.Value.str (PySem.Str.ofString "__cached__") 174) PySem.Value.none), (PySem.DictEntry.mk (PySem.PyData.keyHash P (PySem.Str.ofString "_sre")) (PySem.Value.str (PySem.Str.ofString "_sre") 275) (PySem.Value.ref 12)), (PySem.DictEntry.mk (PySem.PyData.keyHash P (PySem.Str.ofString "_wall")) (PySem.Value.str (PySem.Str.ofString "_wall") 288) (PySem.Value.ref 38)), (PySem.DictEntry.mk (PySem.PyData.keyHash P (PySem.Str.ofString "Whitespace")) (PySem.Value.str (PySem.Str.ofString "Whitespace") 382) (PySem.Value.ref 100)), (PySem.DictEntry.mk (PySem.PyData.keyHash P (PySem.Str.ofString "_parse_varint")) (PySem.Value.str (PySem.Str.ofString "_parse_varint") 393) (PySem.Value.ref 111)), (PySem.DictEntry.mk (PySem.PyData.keyHash P (PySem.Str.ofString "b1_set")) (PySem.Value.str (PySem.Str.ofString "b1_set") 455) (PySem.Value.ref 119))].toArray) 14) ([].toArray))
noncomputable def o112v6 (P : PySem.Params) : PySem.Obj := (PySem.Obj.mk (PySem.Value.type "list") none (PySem.Data.seq ([(PySem.Value.int (173 : Int) 396), (PySem.Value.int (847 : Int) 397), (PySem.Value.int (6150 : Int) 398), (PySem.Value.int (6155 : Int) 399), (PySem.Value.int (6156 : Int) 400), (PySem.Value.int (6157 : Int) 401), (PySem.Value.int (8203 : Int) 402), (PySem.Value.int (8204 : Int) 403), (PySem.Value.int (8205 : Int) 404), (PySem.Value.int (8288 : Int) 405), (PySem.Value.int (65279 : Int) 406)].toArray) 0) ([].toArray))
noncomputable def o113v6 (P : PySem.Params) : PySem.Obj := (PySem.Obj.mk (PySem.Value.type "range") none (PySem.Data.fields ([(PySem.Value.int (65024 : Int) 407), (PySem.Value.int (65040 : Int) 408), (PySem.Value.int (1 : Int) 409)].toArray)) ([].toArray))
noncomputable def o114v6 (P : PySem.Params) : PySem.Obj := (PySem.Obj.mk (PySem.Value.type "list") none (PySem.Data.seq ([(PySem.Value.int (65024 : Int) 412), (PySem.Value.int (65025 : Int) 413), (PySem.Value.int (65026 : Int) 414), (PySem.Value.int (65027 : Int) 415), (PySem.Value.int (65028 : Int) 416), (PySem.Value.int (65029 : Int) 417), (PySem.Value.int (65030 : Int) 418), (PySem.Value.int (65031 : Int) 419), (PySem.Value.int (65032 : Int) 420), (PySem.Value.int (65033 : Int) 421), (PySem.Value.int (65034 : Int) 422), (PySem.Value.int (65035 : Int) 423), (PySem.Value.int (65036 : Int) 424), (PySem.Value.int (65037 : Int) 425), (PySem.Value.int (65038 : Int) 426), (PySem.Value.int (65039 : Int) 427)].toArray) 18) ([].toArray))
noncomputable def o115v6 (P : PySem.Params) : PySem.Obj := (PySem.Obj.mk (PySem.Value.type "range_iterator") none (PySem.Data.fields ([(PySem.Value.int (65040 : Int) 0), (PySem.Value.int (0 : Int) 0), (PySem.Value.int (1 : Int) 0)].toArray)) ([].toArray))
noncomputable def o116v6 (P : PySem.Params) : PySem.Obj := (PySem.Obj.mk (PySem.Value.type "tuple") none (PySem.Data.seq ([].toArray) 0) ([].toArray))
noncomputable def o117v6 (P : PySem.Params) : PySem.Obj := (PySem.Obj.mk (PySem.Value.type "StopIteration") none (PySem.Data.fields ([(PySem.Value.ref 116), PySem.Value.none, PySem.Value.none, PySem.Value.none, (PySem.Value.bool Bool.false), PySem.Value.none].toArray)) ([].toArray))
noncomputable def o118v6 (P : PySem.Params) : PySem.Obj := (PySem.Obj.mk (PySem.Value.type "list") none (PySem.Data.seq ([(PySem.Value.int (173 : Int) 396), (PySem.Value.int (847 : Int) 397), (PySem.Value.int (6150 : Int) 398), (PySem.Value.int (6155 : Int) 399), (PySem.Value.int (6156 : Int) 400), (PySem.Value.int (6157 : Int) 401), (PySem.Value.int (8203 : Int) 402), (PySem.Value.int (8204 : Int) 403), (PySem.Value.int (8205 : Int) 404), (PySem.Value.int (8288 : Int) 405), (PySem.Value.int (65279 : Int) 406), (PySem.Value.int (65024 : Int) 412), (PySem.Value.int (65025 : Int) 413), (PySem.Value.int (65026 : Int) 414), (PySem.Value.int (65027 : Int) 415), (PySem.Value.int (65028 : Int) 416), (PySem.Value.int (65029 : Int) 417), (PySem.Value.int (65030 : Int) 418), (PySem.Value.int (65031 : Int) 419), (PySem.Value.int (65032 : Int) 420), (PySem.Value.int (65033 : Int) 421), (PySem.Value.int (65034 : Int) 422), (PySem.Value.int (65035 : Int) 423), (PySem.Value.int (65036 : Int) 424), (PySem.Value.int (65037 : Int) 425), (PySem.Value.int (65038 : Int) 426), (PySem.Value.int (65039 : Int) 427)].toArray) 0) ([].toArray))
noncomputable def o119v6 (P : PySem.Params) : PySem.Obj := ⟨(PySem.Value.type "set"), none, .set ([((65024 : Int), (PySem.Value.int (65024 : Int) 412)), ((65025 : Int), (PySem.Value.int (65025 : Int) 413)), ((65026 : Int), (PySem.Value.int (65026 : Int) 414)), ((65027 : Int), (PySem.Value.int (65027 : Int) 415)), ((65028 : Int), (PySem.Value.int (65028 : Int) 416)), ((65029 : Int), (PySem.Value.int (65029 : Int) 417)), ((6150 : Int), (PySem.Value.int (6150 : Int) 398)), ((65030 : Int), (PySem.Value.int (65030 : Int) 418)), ((65031 : Int), (PySem.Value.int (65031 : Int) 419)), ((65032 : Int), (PySem.Value.int (65032 : Int) 420)), ((65033 : Int), (PySem.Value.int (65033 : Int) 421)), ((6155 : Int), (PySem.Value.int (6155 : Int) 399)), ((6156 : Int), (PySem.Value.int (6156 : Int) 400)), ((6157 : Int), (PySem.Value.int (6157 : Int) 401)), ((8203 : Int), (PySem.Value.int (8203 : Int) 402)), ((8204 : Int), (PySem.Value.int (8204 : Int) 403)), ((8205 : Int), (PySem.Value.int (8205 : Int) 404)), ((65034 : Int), (PySem.Value.int (65034 : Int) 422)), ((65035 : Int), (PySem.Value.int (65035 : Int) 423)), ((65036 : Int), (PySem.Value.int (65036 : Int) 424)), ((65037 : Int), (PySem.Value.int (65037 : Int) 425)), ((65038 : Int), (PySem.Value.int (65038 : Int) 426)), ((65039 : Int), (PySem.Value.int (65039 : Int) 427)), ((173 : Int), (PySem.Value.int (173 : Int) 396)), ((847 : Int), (PySem.Value.int (847 : Int) 397)), ((8288 : Int), (PySem.Value.int (8288 : Int) 405)), ((65279 : Int), (PySem.Value.int (65279 : Int) 406))].toArray) 29 ⟨127, ([0, 1, 2, 3, 4, 5, 6, 7, 8, 9, 10, 11, 12, 13, 14, 15, 16, 17, 18, 19, 20, 21, 22, 45, 79, 96, 127].toArray), ([].toArray), 0, !(P.followText "set-order"), 2, true⟩, ([].toArray)⟩
noncomputable def o120v6 (P : PySem.Params) : PySem.Obj := (PySem.Obj.mk (PySem.Value.type "list_iterator") none (PySem.Data.fields ([PySem.Value.none, (PySem.Value.int (27 : Int) 0)].toArray)) ([].toArray))
noncomputable def o121v6 (P : PySem.Params) : PySem.Obj := (PySem.Obj.mk (PySem.Value.type "tuple") none (PySem.Data.seq ([].toArray) 0) ([].toArray))
noncomputable def o122v6 (P : PySem.Params) : PySem.Obj := (PySem.Obj.mk (PySem.Value.type "StopIteration") none (PySem.Data.fields ([(PySem.Value.ref 121), PySem.Value.none, PySem.Value.none, PySem.Value.none, (PySem.Value.bool Bool.false), PySem.Value.none].toArray)) ([].toArray))
noncomputable def o3v7 (P : PySem.Params) : PySem.Obj := (PySem.Obj.mk (PySem.Value.type "dict") none (PySem.Data.dict ([(PySem.DictEntry.mk (PySem.PyData.keyHash P (PySem.Str.ofString "__name__")) (PySem.Value.str (PySem.Str.ofString "__name__") 165) (PySem.Value.str (PySem.Str.ofString "cpy313.wsgiref.headers") 463)), (PySem.DictEntry.mk (PySem.PyData.keyHash P (PySem.Str.ofString "__doc__")) (PySem.Value.str (PySem.Str.ofString "__doc__") 166) PySem.Value.none), (PySem.DictEntry.mk (PySem.PyData.keyHash P (PySem.Str.ofString "__package__")) (PySem.Value.str (PySem.Str.ofString "__package__") 167) PySem.Value.none), (PySem.DictEntry.mk (PySem.PyData.keyHash P (PySem.Str.ofString "__loader__")) (PySem.Value.str (PySem.Str.ofString "__loader__") 168) (PySem.Value.builtin "__main__.__loader__#opaque")), (PySem.DictEntry.mk (PySem.PyData.keyHash P (PySem.Str.ofString "__spec__")) (PySem.Value.str (PySem.Str.ofString "__spec__") 169) PySem.Value.none), (PySem.DictEntry.mk (PySem.PyData.keyHash P (PySem.Str.ofString "__annotations__")) (PySem.Value.str (PySem.Str.ofString "__annotations__") 170) (PySem.Value.ref 6)), (PySem.DictEntry.mk (PySem.PyData.keyHash P (PySem.Str.ofString "__builtins__")) (PySem.Value.str (PySem.Str.ofString "__builtins__") 171) (PySem.Value.ref 4)), (PySem.DictEntry.mk (PySem.PyData.keyHash P (PySem.Str.ofString "__file__")) (PySem.Value.str (PySem.Str.ofString "__file__") 173) (PySem.Value.str (PySem.Str.ofString "/claim/cut.py") 172)), (PySem.DictEntry.mk (PySem.PyData.keyHash P (PySem.Str.ofString "__cached__")) (PySem.Value.str (PySem.Str.ofString "__cached__") 174) PySem.Value.none), (PySem.DictEntry.mk (PySem.PyData.keyHash P (PySem.Str.ofString "_sre")) (PySem.Value.str (PySem.Str.ofString "_sre") 275) (PySem.Value.ref 12)), (PySem.DictEntry.mk (PySem.PyData.keyHash P (PySem.Str.ofString "_wall")) (PySem.Value.str (PySem.Str.ofString "_wall") 288) (PySem.Value.ref 38)), (PySem.DictEntry.mk (PySem.PyData.keyHash P (PySem.Str.ofString "Whitespace")) (PySem.Value.str (PySem.Str.ofString "Whitespace") 382) (PySem.Value.ref 100)), (PySem.DictEntry.mk (PySem.PyData.keyHash P (PySem.Str.ofString "_parse_varint")) (PySem.Value.str (PySem.Str.ofString "_parse_varint") 393) (PySem.Value.ref 111)), (PySem.DictEntry.mk (PySem.PyData.keyHash P (PySem.Str.ofString "b1_set")) (PySem.Value.str (PySem.Str.ofString "b1_set") 455) (PySem.Value.ref 119)), (PySem.DictEntry.mk (PySem.PyData.keyHash P (PySem.Str.ofString "in_table_b1")) (PySem.Value.str (PySem.Str.ofString "in_table_b1") 462) (PySem.Value.ref 129)), (PySem.DictEntry.mk (PySem.PyData.keyHash P (PySem.Str.ofString "tspecials")) (PySem.Value.str (PySem.Str.ofString "tspecials") 498) (PySem.Value.ref 134)), (PySem.DictEntry.mk (PySem.PyData.keyHash P (PySem.Str.ofString "_name_disallowed_re")) (PySem.Value.str (PySem.Str.ofString "_name_disallowed_re") 524) (PySem.Value.ref 139)), (PySem.DictEntry.mk (PySem.PyData.keyHash P (PySem.Str.ofString "_value_disallowed_re")) (PySem.Value.str (PySem.Str.ofString "_value_disallowed_re") 558) (PySem.Value.ref 144)), (PySem.DictEntry.mk (PySem.PyData.keyHash P (PySem.Str.ofString "_formatparam")) (PySem.Value.str (PySem.Str.ofString "_formatparam") 568) (PySem.Value.ref 152))].toArray) 19) ([].toArray))
noncomputable def o29v7 (P : PySem.Params) : PySem.Obj := (PySem.Obj.mk PySem.Value.none none (PySem.Data.fields ([(PySem.Value.int (2 : Int) 0), (PySem.Value.int (0 : Int) 0), (PySem.Value.ref 37), (PySem.Value.int (6 : Int) 0), (PySem.Value.int (0 : Int) 0), (PySem.Value.ref 44), (PySem.Value.int (50 : Int) 0), (PySem.Value.int (0 : Int) 0), (PySem.Value.ref 110), (PySem.Value.int (60 : Int) 0), (PySem.Value.int (0 : Int) 0), (PySem.Value.ref 128), (PySem.Value.int (66 : Int) 0), (PySem.Value.int (0 : Int) 0), (PySem.Value.ref 151)].toArray)) ([].toArray))
noncomputable def o123v7 (P : PySem.Params) : PySem.Obj := (PySem.Obj.mk (PySem.Value.type "tuple") none (PySem.Data.seq ([].toArray) 0) ([].toArray))
noncomputable def o124v7 (P : PySem.Params) : PySem.Obj := (PySem.Obj.mk PySem.Value.none none (PySem.Data.fields ([].toArray)) ([].toArray))
noncomputable def o125v7 (P : PySem.Params) : PySem.Obj := (PySem.Obj.mk (PySem.Value.type "tuple") none (PySem.Data.seq ([(PySem.Value.str (PySem.Str.ofString "code") 459)].toArray) 0) ([].toArray))
noncomputable def o126v7 (P : PySem.Params) : PySem.Obj := (PySem.Obj.mk (PySem.Value.type "tuple") none (PySem.Data.seq ([].toArray) 0) ([].toArray))
noncomputable def o127v7 (P : PySem.Params) : PySem.Obj := ⟨PySem.Value.none, none, .func { name := (PySem.Str.ofString "in_table_b1"), qualname := (PySem.Str.ofString "in_table_b1"), params := pa8.1, body := .stmts bo8.1, scope := sc8.1, globals := 0, closure := [], defaults := PySem.Value.none, kwdefaults := PySem.Value.none, doc := PySem.Value.none, pyModule := PySem.Value.none, annotations := none, code := PySem.Value.none, closureTuple := PySem.Value.none, builtins := 0 }, ([].toArray)⟩
noncomputable def o128v7 (P : PySem.Params) : PySem.Obj := (PySem.Obj.mk (PySem.Value.type "code") none (PySem.Data.fields ([(PySem.Value.str (PySem.Str.ofString "in_table_b1") 456), (PySem.Value.str (PySem.Str.ofString "in_table_b1") 457), (PySem.Value.str (PySem.Str.ofString "/claim/cut.py") 458), (PySem.Value.int (60 : Int) 0), (PySem.Value.int (1 : Int) 0), (PySem.Value.int (0 : Int) 0), (PySem.Value.int (0 : Int) 0), (PySem.Value.int (3 : Int) 0), (PySem.Value.ref 123), (PySem.Value.bool Bool.true), (PySem.Value.int (276 : Int) 0), (PySem.Value.ref 124), PySem.Value.none, (PySem.Value.ref 125), (PySem.Value.ref 126), (PySem.Value.ref 127), (PySem.Value.int (460 : Int) 0), (PySem.Value.int (60 : Int) 0), (PySem.Value.str (PySem.Str.ofString "/claim/cut.py") 461)].toArray)) ([].toArray))
noncomputable def o129v7 (P : PySem.Params) : PySem.Obj := ⟨(PySem.Value.type "function"), none, .func { name := (PySem.Str.ofString "in_table_b1"), qualname := (PySem.Str.ofString "in_table_b1"), params := pa8.1, body := .stmts bo8.1, scope := sc8.1, globals := 3, closure := [], defaults := PySem.Value.none, kwdefaults := PySem.Value.none, doc := PySem.Value.none, pyModule := (PySem.Value.str (PySem.Str.ofString "cpy313.stringprep") 394), annotations := none, code := (PySem.Value.ref 128), closureTuple := PySem.Value.none, builtins := 0 }, ([].toArray)⟩
noncomputable def o130v7 (P : PySem.Params) : PySem.Obj := (PySem.Obj.mk (PySem.Value.type "list") none (PySem.Data.seq ([(PySem.Value.int (14 : Int) 468), (PySem.Value.int (14 : Int) 469), (PySem.Value.int (4 : Int) 470), (PySem.Value.int (1 : Int) 471), (PySem.Value.int (1 : Int) 472), (PySem.Value.int (9 : Int) 473), (PySem.Value.int (0 : Int) 474), (PySem.Value.int (4227896069 : Int) 475), (PySem.Value.int (939524097 : Int) 476), (PySem.Value.int (0 : Int) 477), (PySem.Value.int (0 : Int) 478), (PySem.Value.int (0 : Int) 479), (PySem.Value.int (0 : Int) 480), (PySem.Value.int (0 : Int) 481), (PySem.Value.int (0 : Int) 482), (PySem.Value.int (13 : Int) 483), (PySem.Value.int (11 : Int) 484), (PySem.Value.int (9 : Int) 485), (PySem.Value.int (0 : Int) 486), (PySem.Value.int (4227896069 : Int) 487), (PySem.Value.int (939524097 : Int) 488), (PySem.Value.int (0 : Int) 489), (PySem.Value.int (0 : Int) 490), (PySem.Value.int (0 : Int) 491), (PySem.Value.int (0 : Int) 492), (PySem.Value.int (0 : Int) 493), (PySem.Value.int (0 : Int) 494), (PySem.Value.int (1 : Int) 495)].toArray) 0) ([].toArray))
noncomputable def o131v7 (P : PySem.Params) : PySem.Obj := (PySem.Obj.mk (PySem.Value.type "dict") none (PySem.Data.dict ([].toArray) 0) ([].toArray))
noncomputable def o132v7 (P : PySem.Params) : PySem.Obj := (PySem.Obj.mk (PySem.Value.type "tuple") none (PySem.Data.seq ([PySem.Value.none].toArray) 0) ([].toArray))
noncomputable def o133v7 (P : PySem.Params) : PySem.Obj := (PySem.Obj.mk (PySem.Value.type "tuple") none (PySem.Data.seq ([(PySem.Value.int (14 : Int) 0), (PySem.Value.int (14 : Int) 0), (PySem.Value.int (4 : Int) 0), (PySem.Value.int (1 : Int) 0), (PySem.Value.int (1 : Int) 0), (PySem.Value.int (9 : Int) 0), (PySem.Value.int (0 : Int) 0), (PySem.Value.int (4227896069 : Int) 0), (PySem.Value.int (939524097 : Int) 0), (PySem.Value.int (0 : Int) 0), (PySem.Value.int (0 : Int) 0), (PySem.Value.int (0 : Int) 0), (PySem.Value.int (0 : Int) 0), (PySem.Value.int (0 : Int) 0), (PySem.Value.int (0 : Int) 0), (PySem.Value.int (13 : Int) 0), (PySem.Value.int (11 : Int) 0), (PySem.Value.int (9 : Int) 0), (PySem.Value.int (0 : Int) 0), (PySem.Value.int (4227896069 : Int) 0), (PySem.Value.int (939524097 : Int) 0), (PySem.Value.int (0 : Int) 0), (PySem.Value.int (0 : Int) 0), (PySem.Value.int (0 : Int) 0), (PySem.Value.int (0 : Int) 0), (PySem.Value.int (0 : Int) 0), (PySem.Value.int (0 : Int) 0), (PySem.Value.int (1 : Int) 0)].toArray) 0) ([].toArray))
noncomputable def o134v7 (P : PySem.Params) : PySem.Obj := (PySem.Obj.mk (PySem.Value.type "re.Pattern") none (PySem.Data.fields ([(PySem.Value.str (PySem.Str.ofString "[ \\(\\)<>@,;:\\\\\"/\\[\\]\\?=]") 466), (PySem.Value.int (32 : Int) 497), (PySem.Value.int (0 : Int) 0), PySem.Value.none, PySem.Value.none, (PySem.Value.ref 133), (PySem.Value.int (0 : Int) 0)].toArray)) ([].toArray))
noncomputable def o135v7 (P : PySem.Params) : PySem.Obj := (PySem.Obj.mk (PySem.Value.type "list") none (PySem.Data.seq ([(PySem.Value.int (14 : Int) 502), (PySem.Value.int (10 : Int) 503), (PySem.Value.int (4 : Int) 504), (PySem.Value.int (1 : Int) 505), (PySem.Value.int (1 : Int) 506), (PySem.Value.int (22 : Int) 507), (PySem.Value.int (0 : Int) 508), (PySem.Value.int (31 : Int) 509), (PySem.Value.int (16 : Int) 510), (PySem.Value.int (127 : Int) 511), (PySem.Value.int (0 : Int) 512), (PySem.Value.int (13 : Int) 513), (PySem.Value.int (7 : Int) 514), (PySem.Value.int (22 : Int) 515), (PySem.Value.int (0 : Int) 516), (PySem.Value.int (31 : Int) 517), (PySem.Value.int (16 : Int) 518), (PySem.Value.int (127 : Int) 519), (PySem.Value.int (0 : Int) 520), (PySem.Value.int (1 : Int) 521)].toArray) 0) ([].toArray))
noncomputable def o136v7 (P : PySem.Params) : PySem.Obj := (PySem.Obj.mk (PySem.Value.type "dict") none (PySem.Data.dict ([].toArray) 0) ([].toArray))
noncomputable def o137v7 (P : PySem.Params) : PySem.Obj := (PySem.Obj.mk (PySem.Value.type "tuple") none (PySem.Data.seq ([PySem.Value.none].toArray) 0) ([].toArray))
noncomputable def o138v7 (P : PySem.Params) : PySem.Obj := (PySem.Obj.mk (PySem.Value.type "tuple") none (PySem.Data.seq ([(PySem.Value.int (14 : Int) 0), (PySem.Value.int (10 : Int) 0), (PySem.Value.int (4 : Int) 0), (PySem.Value.int (1 : Int) 0), (PySem.Value.int (1 : Int) 0), (PySem.Value.int (22 : Int) 0), (PySem.Value.int (0 : Int) 0), (PySem.Value.int (31 : Int) 0), (PySem.Value.int (16 : Int) 0), (PySem.Value.int (127 : Int) 0), (PySem.Value.int (0 : Int) 0), (PySem.Value.int (13 : Int) 0), (PySem.Value.int (7 : Int) 0), (PySem.Value.int (22 : Int) 0), (PySem.Value.int (0 : Int) 0), (PySem.Value.int (31 : Int) 0), (PySem.Value.int (16 : Int) 0), (PySem.Value.int (127 : Int) 0), (PySem.Value.int (0 : Int) 0), (PySem.Value.int (1 : Int) 0)].toArray) 0) ([].toArray))
noncomputable def o139v7 (P : PySem.Params) : PySem.Obj := (PySem.Obj.mk (PySem.Value.type "re.Pattern") none (PySem.Data.fields ([(PySem.Value.str (PySem.Str.ofString "[\\x00-\\x1F\\x7F]") 500), (PySem.Value.int (32 : Int) 523), (PySem.Value.int (0 : Int) 0), PySem.Value.none, PySem.Value.none, (PySem.Value.ref 138), (PySem.Value.int (0 : Int) 0)].toArray)) ([].toArray))
noncomputable def o140v7 (P : PySem.Params) : PySem.Obj := (PySem.Obj.mk (PySem.Value.type "list") none (PySem.Data.seq ([(PySem.Value.int (14 : Int) 528), (PySem.Value.int (14 : Int) 529), (PySem.Value.int (4 : Int) 530), (PySem.Value.int (1 : Int) 531), (PySem.Value.int (1 : Int) 532), (PySem.Value.int (9 : Int) 533), (PySem.Value.int (4294966783 : Int) 534), (PySem.Value.int (0 : Int) 535), (PySem.Value.int (0 : Int) 536), (PySem.Value.int (2147483648 : Int) 537), (PySem.Value.int (0 : Int) 538), (PySem.Value.int (0 : Int) 539), (PySem.Value.int (0 : Int) 540), (PySem.Value.int (0 : Int) 541), (PySem.Value.int (0 : Int) 542), (PySem.Value.int (13 : Int) 543), (PySem.Value.int (11 : Int) 544), (PySem.Value.int (9 : Int) 545), (PySem.Value.int (4294966783 : Int) 546), (PySem.Value.int (0 : Int) 547), (PySem.Value.int (0 : Int) 548), (PySem.Value.int (2147483648 : Int) 549), (PySem.Value.int (0 : Int) 550), (PySem.Value.int (0 : Int) 551), (PySem.Value.int (0 : Int) 552), (PySem.Value.int (0 : Int) 553), (PySem.Value.int (0 : Int) 554), (PySem.Value.int (1 : Int) 555)].toArray) 0) ([].toArray))
noncomputable def o141v7 (P : PySem.Params) : PySem.Obj := (PySem.Obj.mk (PySem.Value.type "dict") none (PySem.Data.dict ([].toArray) 0) ([].toArray))
noncomputable def o142v7 (P : PySem.Params) : PySem.Obj := (PySem.Obj.mk (PySem.Value.type "tuple") none (PySem.Data.seq ([PySem.Value.none].toArray) 0) ([].toArray))
noncomputable def o143v7 (P : PySem.Params) : PySem.Obj := (PySem.Obj.mk (PySem.Value.type "tuple") none (PySem.Data.seq ([(PySem.Value.int (14 : Int) 0), (PySem.Value.int (14 : Int) 0), (PySem.Value.int (4 : Int) 0), (PySem.Value.int (1 : Int) 0), (PySem.Value.int (1 : Int) 0), (PySem.Value.int (9 : Int) 0), (PySem.Value.int (4294966783 : Int) 0), (PySem.Value.int (0 : Int) 0), (PySem.Value.int (0 : Int) 0), (PySem.Value.int (2147483648 : Int) 0), (PySem.Value.int (0 : Int) 0), (PySem.Value.int (0 : Int) 0), (PySem.Value.int (0 : Int) 0), (PySem.Value.int (0 : Int) 0), (PySem.Value.int (0 : Int) 0), (PySem.Value.int (13 : Int) 0), (PySem.Value.int (11 : Int) 0), (PySem.Value.int (9 : Int) 0), (PySem.Value.int (4294966783 : Int) 0), (PySem.Value.int (0 : Int) 0), (PySem.Value.int (0 : Int) 0), (PySem.Value.int (2147483648 : Int) 0), (PySem.Value.int (0 : Int) 0), (PySem.Value.int (0 : Int) 0), (PySem.Value.int (0 : Int) 0), (PySem.Value.int (0 : Int) 0), (PySem.Value.int (0 : Int) 0), (PySem.Value.int (1 : Int) 0)].toArray) 0) ([].toArray))
noncomputable def o144v7 (P : PySem.Params) : PySem.Obj := (PySem.Obj.mk (PySem.Value.type "re.Pattern") none (PySem.Data.fields ([(PySem.Value.str (PySem.Str.ofString "[\\x00-\\x08\\x0A-\\x1F\\x7F]") 526), (PySem.Value.int (32 : Int) 557), (PySem.Value.int (0 : Int) 0), PySem.Value.none, PySem.Value.none, (PySem.Value.ref 143), (PySem.Value.int (0 : Int) 0)].toArray)) ([].toArray))
noncomputable def o145v7 (P : PySem.Params) : PySem.Obj := (PySem.Obj.mk (PySem.Value.type "tuple") none (PySem.Data.seq ([PySem.Value.none, (PySem.Value.int (1 : Int) 559)].toArray) 0) ([].toArray))
noncomputable def o146v7 (P : PySem.Params) : PySem.Obj := (PySem.Obj.mk (PySem.Value.type "tuple") none (PySem.Data.seq ([].toArray) 0) ([].toArray))
noncomputable def o147v7 (P : PySem.Params) : PySem.Obj := (PySem.Obj.mk PySem.Value.none none (PySem.Data.fields ([].toArray)) ([].toArray))
noncomputable def o148v7 (P : PySem.Params) : PySem.Obj := (PySem.Obj.mk (PySem.Value.type "tuple") none (PySem.Data.seq ([(PySem.Value.str (PySem.Str.ofString "param") 563), (PySem.Value.str (PySem.Str.ofString "value") 564), (PySem.Value.str (PySem.Str.ofString "quote") 565)].toArray) 0) ([].toArray))
noncomputable def o149v7 (P : PySem.Params) : PySem.Obj := (PySem.Obj.mk (PySem.Value.type "tuple") none (PySem.Data.seq ([].toArray) 0) ([].toArray))
noncomputable def o150v7 (P : PySem.Params) : PySem.Obj := ⟨PySem.Value.none, none, .func { name := (PySem.Str.ofString "_formatparam"), qualname := (PySem.Str.ofString "_formatparam"), params := pa13.1, body := .stmts bo13.1, scope := sc13.1, globals := 0, closure := [], defaults := PySem.Value.none, kwdefaults := PySem.Value.none, doc := PySem.Value.none, pyModule := PySem.Value.none, annotations := none, code := PySem.Value.none, closureTuple := PySem.Value.none, builtins := 0 }, ([].toArray)⟩
noncomputable def o151v7 (P : PySem.Params) : PySem.Obj := (PySem.Obj.mk (PySem.Value.type "code") none (PySem.Data.fields ([(PySem.Value.str (PySem.Str.ofString "_formatparam") 560), (PySem.Value.str (PySem.Str.ofString "_formatparam") 561), (PySem.Value.str (PySem.Str.ofString "/claim/cut.py") 562), (PySem.Value.int (66 : Int) 0), (PySem.Value.int (3 : Int) 0), (PySem.Value.int (0 : Int) 0), (PySem.Value.int (0 : Int) 0), (PySem.Value.int (3 : Int) 0), (PySem.Value.ref 146), (PySem.Value.bool Bool.true), (PySem.Value.int (276 : Int) 0), (PySem.Value.ref 147), PySem.Value.none, (PySem.Value.ref 148), (PySem.Value.ref 149), (PySem.Value.ref 150), (PySem.Value.int (566 : Int) 0), (PySem.Value.int (66 : Int) 0), (PySem.Value.str (PySem.Str.ofString "/claim/cut.py") 567)].toArray)) ([].toArray))
noncomputable def o152v7 (P : PySem.Params) : PySem.Obj := ⟨(PySem.Value.type "function"), none, .func { name := (PySem.Str.ofString "_formatparam"), qualname := (PySem.Str.ofString "_formatparam"), params := pa13.1, body := .stmts bo13.1, scope := sc13.1, globals := 3, closure := [], defaults := (PySem.Value.ref 145), kwdefaults := PySem.Value.none, doc := PySem.Value.none, pyModule := (PySem.Value.str (PySem.Str.ofString "cpy313.wsgiref.headers") 463), annotations := none, code := (PySem.Value.ref 151), closureTuple := PySem.Value.none, builtins := 0 }, ([].toArray)⟩
noncomputable def o3v8 (P : PySem.Params) : PySem.Obj := (PySem.Obj.mk (PySem.Value.type "dict") none (PySem.Data.dict ([(PySem.DictEntry.mk (PySem.PyData.keyHash P (PySem.Str.ofString "__name__")) (PySem.Value.str (PySem.Str.ofString "__name__") 165) (PySem.Value.str (PySem.Str.ofString "cpy313.wsgiref.headers") 463)), (PySem.DictEntry.mk (PySem.PyData.keyHash P (PySem.Str.ofString "__doc__")) (PySem.Value.str (PySem.Str.ofString "__doc__") 166) PySem.Value.none), (PySem.DictEntry.mk (PySem.PyData.keyHash P (PySem.Str.ofString "__package__")) (PySem.Value.str (PySem.Str.ofString "__package__") 167) PySem.Value.none), (PySem.DictEntry.mk (PySem.PyData.keyHash P (PySem.Str.ofString "__loader__")) (PySem.Value.str (PySem.Str.ofString "__loader__") 168) (PySem.Value.builtin "__main__.__loader__#opaque")), (PySem.DictEntry.mk (PySem.PyData.keyHash P (PySem.Str.ofString "__spec__")) (PySem.Value.str (PySem.Str.ofString "__spec__") 169) PySem.Value.none), (PySem.DictEntry.mk (PySem.PyData.keyHash P (PySem.Str.ofString "__annotations__")) (PySem.Value.str (PySem.Str.ofString "__annotations__") 170) (PySem.Value.ref 6)), (PySem.DictEntry.mk (PySem.PyData.keyHash P (PySem.Str.ofString "__builtins__")) (PySem.Value.str (PySem.Str.ofString "__builtins__") 171) (PySem.Value.ref 4)), (PySem.DictEntry.mk (PySem.PyData.keyHash P (PySem.Str.ofString "__file__")) (PySem.Value.str (PySem.Str.ofString "__file__") 173) (PySem.Value.str (PySem.Str.ofString "/claim/cut.py") 172)), (PySem.DictEntry.mk (PySem.PyData.keyHash P (PySem.Str.ofString "__cached__")) (PySem.Value.str (PySem.Str.ofString "__cached__") 174) PySem.Value.none), (PySem.DictEntry.mk (PySem.PyData.keyHash P (PySem.Str.ofString "_sre")) (PySem.Value.str (PySem.Str.ofString "_sre") 275) (PySem.Value.ref 12)), (PySem.DictEntry.mk (PySem.PyData.keyHash P (PySem.Str.ofString "_wall")) (PySem.Value.str (PySem.Str.ofString "_wall") 288) (PySem.Value.ref 38)), (PySem.DictEntry.mk (PySem.PyData.keyHash P (PySem.Str.ofString "Whitespace")) (PySem.Value.str (PySem.Str.ofString "Whitespace") 382) (PySem.Value.ref 100)), (PySem.DictEntry.mk (PySem.PyData.keyHash P (PySem.Str.ofString "_parse_varint")) (PySem.Value.str (PySem.Str.ofString "_parse_varint") 393) (PySem.Value.ref 111)), (PySem.DictEntry.mk (PySem.PyData.keyHash P (PySem.Str.ofString "b1_set")) (PySem.Value.str (PySem.Str.ofString "b1_set") 455) (PySem.Value.ref 119)), (PySem.DictEntry.mk (PySem.PyData.keyHash P (PySem.Str.ofString "in_table_b1")) (PySem.Value.str (PySem.Str.ofString "in_table_b1") 462) (PySem.Value.ref 129)), (PySem.DictEntry.mk (PySem.PyData.keyHash P (PySem.Str.ofString "tspecials")) (PySem.Value.str (PySem.Str.ofString "tspecials") 498) (PySem.Value.ref 134)), (PySem.DictEntry.mk (PySem.PyData.keyHash P (PySem.Str.ofString "_name_disallowed_re")) (PySem.Value.str (PySem.Str.ofString "_name_disallowed_re") 524) (PySem.Value.ref 139)), (PySem.DictEntry.mk (PySem.PyData.keyHash P (PySem.Str.ofString "_value_disallowed_re")) (PySem.Value.str (PySem.Str.ofString "_value_disallowed_re") 558) (PySem.Value.ref 144)), (PySem.DictEntry.mk (PySem.PyData.keyHash P (PySem.Str.ofString "_formatparam")) (PySem.Value.str (PySem.Str.ofString "_formatparam") 568) (PySem.Value.ref 152)), (PySem.DictEntry.mk (PySem.PyData.keyHash P (PySem.Str.ofString "Headers")) (PySem.Value.str (PySem.Str.ofString "Headers") 725) (PySem.Value.ref 273))].toArray) 20) ([].toArray))
noncomputable def o29v8 (P : PySem.Params) : PySem.Obj := (PySem.Obj.mk PySem.Value.none none (PySem.Data.fields ([(PySem.Value.int (2 : Int) 0), (PySem.Value.int (0 : Int) 0), (PySem.Value.ref 37), (PySem.Value.int (6 : Int) 0), (PySem.Value.int (0 : Int) 0), (PySem.Value.ref 44), (PySem.Value.int (50 : Int) 0), (PySem.Value.int (0 : Int) 0), (PySem.Value.ref 110), (PySem.Value.int (60 : Int) 0), (PySem.Value.int (0 : Int) 0), (PySem.Value.ref 128), (PySem.Value.int (66 : Int) 0), (PySem.Value.int (0 : Int) 0), (PySem.Value.ref 151), (PySem.Value.int (75 : Int) 0), (PySem.Value.int (0 : Int) 0), (PySem.Value.ref 158)].toArray)) ([].toArray))
noncomputable def o153v8 (P : PySem.Params) : PySem.Obj := (PySem.Obj.mk (PySem.Value.type "tuple") none (PySem.Data.seq ([].toArray) 0) ([].toArray))
noncomputable def o154v8 (P : PySem.Params) : PySem.Obj := (PySem.Obj.mk (PySem.Value.type "builtin_function_or_method") none (PySem.Data.fields ([(PySem.Value.builtin "type.__prepare__"), (PySem.Value.type "type")].toArray)) ([].toArray))
noncomputable def o155v8 (P : PySem.Params) : PySem.Obj := (PySem.Obj.mk (PySem.Value.type "dict") none (PySem.Data.dict ([(PySem.DictEntry.mk (PySem.PyData.keyHash P (PySem.Str.ofString "__module__")) (PySem.Value.str (PySem.Str.ofString "__module__") 576) (PySem.Value.str (PySem.Str.ofString "cpy313.wsgiref.headers") 463)), (PySem.DictEntry.mk (PySem.PyData.keyHash P (PySem.Str.ofString "__qualname__")) (PySem.Value.str (PySem.Str.ofString "__qualname__") 578) (PySem.Value.str (PySem.Str.ofString "Headers") 577)), (PySem.DictEntry.mk (PySem.PyData.keyHash P (PySem.Str.ofString "__firstlineno__")) (PySem.Value.str (PySem.Str.ofString "__firstlineno__") 580) (PySem.Value.int (75 : Int) 579)), (PySem.DictEntry.mk (PySem.PyData.keyHash P (PySem.Str.ofString "__init__")) (PySem.Value.str (PySem.Str.ofString "__init__") 590) (PySem.Value.ref 167)), (PySem.DictEntry.mk (PySem.PyData.keyHash P (PySem.Str.ofString "_convert_string_type")) (PySem.Value.str (PySem.Str.ofString "_convert_string_type") 600) (PySem.Value.ref 174)), (PySem.DictEntry.mk (PySem.PyData.keyHash P (PySem.Str.ofString "__len__")) (PySem.Value.str (PySem.Str.ofString "__len__") 607) (PySem.Value.ref 181)), (PySem.DictEntry.mk (PySem.PyData.keyHash P (PySem.Str.ofString "__setitem__")) (PySem.Value.str (PySem.Str.ofString "__setitem__") 616) (PySem.Value.ref 188)), (PySem.DictEntry.mk (PySem.PyData.keyHash P (PySem.Str.ofString "__delitem__")) (PySem.Value.str (PySem.Str.ofString "__delitem__") 622) (PySem.Value.ref 193)), (PySem.DictEntry.mk (PySem.PyData.keyHash P (PySem.Str.ofString "__getitem__")) (PySem.Value.str (PySem.Str.ofString "__getitem__") 630) (PySem.Value.ref 200)), (PySem.DictEntry.mk (PySem.PyData.keyHash P (PySem.Str.ofString "__contains__")) (PySem.Value.str (PySem.Str.ofString "__contains__") 638) (PySem.Value.ref 207)), (PySem.DictEntry.mk (PySem.PyData.keyHash P (PySem.Str.ofString "get_all")) (PySem.Value.str (PySem.Str.ofString "get_all") 644) (PySem.Value.ref 212)), (PySem.DictEntry.mk (PySem.PyData.keyHash P (PySem.Str.ofString "get")) (PySem.Value.str (PySem.Str.ofString "get") 655) (PySem.Value.ref 220)), (PySem.DictEntry.mk (PySem.PyData.keyHash P (PySem.Str.ofString "keys")) (PySem.Value.str (PySem.Str.ofString "keys") 661) (PySem.Value.ref 225)), (PySem.DictEntry.mk (PySem.PyData.keyHash P (PySem.Str.ofString "values")) (PySem.Value.str (PySem.Str.ofString "values") 667) (PySem.Value.ref 230)), (PySem.DictEntry.mk (PySem.PyData.keyHash P (PySem.Str.ofString "items")) (PySem.Value.str (PySem.Str.ofString "items") 674) (PySem.Value.ref 237)), (PySem.DictEntry.mk (PySem.PyData.keyHash P (PySem.Str.ofString "__repr__")) (PySem.Value.str (PySem.Str.ofString "__repr__") 681) (PySem.Value.ref 244)), (PySem.DictEntry.mk (PySem.PyData.keyHash P (PySem.Str.ofString "__str__")) (PySem.Value.str (PySem.Str.ofString "__str__") 687) (PySem.Value.ref 249)), (PySem.DictEntry.mk (PySem.PyData.keyHash P (PySem.Str.ofString "__bytes__")) (PySem.Value.str (PySem.Str.ofString "__bytes__") 694) (PySem.Value.ref 256)), (PySem.DictEntry.mk (PySem.PyData.keyHash P (PySem.Str.ofString "setdefault")) (PySem.Value.str (PySem.Str.ofString "setdefault") 703) (PySem.Value.ref 263)), (PySem.DictEntry.mk (PySem.PyData.keyHash P (PySem.Str.ofString "add_header")) (PySem.Value.str (PySem.Str.ofString "add_header") 716) (PySem.Value.ref 270)), (PySem.DictEntry.mk (PySem.PyData.keyHash P (PySem.Str.ofString "__static_attributes__")) (PySem.Value.str (PySem.Str.ofString "__static_attributes__") 718) (PySem.Value.ref 271))].toArray) 21) ([].toArray))
noncomputable def o156v8 (P : PySem.Params) : PySem.Obj := (PySem.Obj.mk (PySem.Value.type "tuple") none (PySem.Data.seq ([].toArray) 0) ([].toArray))
noncomputable def o157v8 (P : PySem.Params) : PySem.Obj := (PySem.Obj.mk PySem.Value.none none (PySem.Data.fields ([(PySem.Value.int (77 : Int) 0), (PySem.Value.int (4 : Int) 0), (PySem.Value.ref 166), (PySem.Value.int (87 : Int) 0), (PySem.Value.int (4 : Int) 0), (PySem.Value.ref 173), (PySem.Value.int (95 : Int) 0), (PySem.Value.int (4 : Int) 0), (PySem.Value.ref 180), (PySem.Value.int (98 : Int) 0), (PySem.Value.int (4 : Int) 0), (PySem.Value.ref 187), (PySem.Value.int (102 : Int) 0), (PySem.Value.int (4 : Int) 0), (PySem.Value.ref 192), (PySem.Value.int (106 : Int) 0), (PySem.Value.int (4 : Int) 0), (PySem.Value.ref 199), (PySem.Value.int (109 : Int) 0), (PySem.Value.int (4 : Int) 0), (PySem.Value.ref 206), (PySem.Value.int (112 : Int) 0), (PySem.Value.int (4 : Int) 0), (PySem.Value.ref 211), (PySem.Value.int (116 : Int) 0), (PySem.Value.int (4 : Int) 0), (PySem.Value.ref 219), (PySem.Value.int (123 : Int) 0), (PySem.Value.int (4 : Int) 0), (PySem.Value.ref 224), (PySem.Value.int (126 : Int) 0), (PySem.Value.int (4 : Int) 0), (PySem.Value.ref 229), (PySem.Value.int (129 : Int) 0), (PySem.Value.int (4 : Int) 0), (PySem.Value.ref 236), (PySem.Value.int (132 : Int) 0), (PySem.Value.int (4 : Int) 0), (PySem.Value.ref 243), (PySem.Value.int (135 : Int) 0), (PySem.Value.int (4 : Int) 0), (PySem.Value.ref 248), (PySem.Value.int (138 : Int) 0), (PySem.Value.int (4 : Int) 0), (PySem.Value.ref 255), (PySem.Value.int (141 : Int) 0), (PySem.Value.int (4 : Int) 0), (PySem.Value.ref 262), (PySem.Value.int (144 : Int) 0), (PySem.Value.int (4 : Int) 0), (PySem.Value.ref 269)].toArray)) ([].toArray))
noncomputable def o158v8 (P : PySem.Params) : PySem.Obj := (PySem.Obj.mk (PySem.Value.type "code") none (PySem.Data.fields ([(PySem.Value.str (PySem.Str.ofString "Headers") 571), (PySem.Value.str (PySem.Str.ofString "Headers") 572), (PySem.Value.str (PySem.Str.ofString "/claim/cut.py") 573), (PySem.Value.int (75 : Int) 0), (PySem.Value.int (0 : Int) 0), (PySem.Value.int (0 : Int) 0), (PySem.Value.int (0 : Int) 0), (PySem.Value.int (0 : Int) 0), (PySem.Value.ref 156), (PySem.Value.bool Bool.false), (PySem.Value.int (276 : Int) 0), (PySem.Value.ref 157), PySem.Value.none, PySem.Value.none, PySem.Value.none, PySem.Value.none, (PySem.Value.int (574 : Int) 0), (PySem.Value.int (75 : Int) 0), (PySem.Value.str (PySem.Str.ofString "/claim/cut.py") 575)].toArray)) ([].toArray))
noncomputable def o159v8 (P : PySem.Params) : PySem.Obj := (PySem.Obj.mk (PySem.Value.type "frame") none PySem.Data.plain ([(some (PySem.Value.ref 158)), (some (PySem.Value.ref 3)), (some (PySem.Value.ref 155)), none, (some (PySem.Value.str (PySem.Str.ofString "cpy313.wsgiref.headers") 463)), none, (some (PySem.Value.ref 0))].toArray))
noncomputable def o160v8 (P : PySem.Params) : PySem.Obj := (PySem.Obj.mk (PySem.Value.type "tuple") none (PySem.Data.seq ([PySem.Value.none].toArray) 0) ([].toArray))
noncomputable def o161v8 (P : PySem.Params) : PySem.Obj := (PySem.Obj.mk (PySem.Value.type "tuple") none (PySem.Data.seq ([].toArray) 0) ([].toArray))
noncomputable def o162v8 (P : PySem.Params) : PySem.Obj := (PySem.Obj.mk PySem.Value.none none (PySem.Data.fields ([].toArray)) ([].toArray))
noncomputable def o163v8 (P : PySem.Params) : PySem.Obj := (PySem.Obj.mk (PySem.Value.type "tuple") none (PySem.Data.seq ([(PySem.Value.str (PySem.Str.ofString "self") 584), (PySem.Value.str (PySem.Str.ofString "headers") 585), (PySem.Value.str (PySem.Str.ofString "k") 586), (PySem.Value.str (PySem.Str.ofString "v") 587)].toArray) 0) ([].toArray))
noncomputable def o164v8 (P : PySem.Params) : PySem.Obj := (PySem.Obj.mk (PySem.Value.type "tuple") none (PySem.Data.seq ([].toArray) 0) ([].toArray))
noncomputable def o165v8 (P : PySem.Params) : PySem.Obj := ⟨PySem.Value.none, none, .func { name := (PySem.Str.ofString "__init__"), qualname := (PySem.Str.ofString "Headers.__init__"), params := pa14x0.1, body := .stmts bo14x0.1, scope := sc14x0.1, globals := 0, closure := [], defaults := PySem.Value.none, kwdefaults := PySem.Value.none, doc := PySem.Value.none, pyModule := PySem.Value.none, annotations := none, code := PySem.Value.none, closureTuple := PySem.Value.none, builtins := 0 }, ([].toArray)⟩
noncomputable def o166v8 (P : PySem.Params) : PySem.Obj := (PySem.Obj.mk (PySem.Value.type "code") none (PySem.Data.fields ([(PySem.Value.str (PySem.Str.ofString "__init__") 581), (PySem.Value.str (PySem.Str.ofString "Headers.__init__") 582), (PySem.Value.str (PySem.Str.ofString "/claim/cut.py") 583), (PySem.Value.int (77 : Int) 0), (PySem.Value.int (2 : Int) 0), (PySem.Value.int (0 : Int) 0), (PySem.Value.int (0 : Int) 0), (PySem.Value.int (3 : Int) 0), (PySem.Value.ref 161), (PySem.Value.bool Bool.true), (PySem.Value.int (276 : Int) 0), (PySem.Value.ref 162), PySem.Value.none, (PySem.Value.ref 163), (PySem.Value.ref 164), (PySem.Value.ref 165), (PySem.Value.int (588 : Int) 0), (PySem.Value.int (77 : Int) 0), (PySem.Value.str (PySem.Str.ofString "/claim/cut.py") 589)].toArray)) ([].toArray))
noncomputable def o167v8 (P : PySem.Params) : PySem.Obj := ⟨(PySem.Value.type "function"), none, .func { name := (PySem.Str.ofString "__init__"), qualname := (PySem.Str.ofString "Headers.__init__"), params := pa14x0.1, body := .stmts bo14x0.1, scope := sc14x0.1, globals := 3, closure := [], defaults := (PySem.Value.ref 160), kwdefaults := PySem.Value.none, doc := PySem.Value.none, pyModule := (PySem.Value.str (PySem.Str.ofString "cpy313.wsgiref.headers") 463), annotations := none, code := (PySem.Value.ref 166), closureTuple := PySem.Value.none, builtins := 0 }, ([].toArray)⟩
noncomputable def o168v8 (P : PySem.Params) : PySem.Obj := (PySem.Obj.mk (PySem.Value.type "tuple") none (PySem.Data.seq ([].toArray) 0) ([].toArray))
noncomputable def o169v8 (P : PySem.Params) : PySem.Obj := (PySem.Obj.mk PySem.Value.none none (PySem.Data.fields ([].toArray)) ([].toArray))
noncomputable def o170v8 (P : PySem.Params) : PySem.Obj := (PySem.Obj.mk (PySem.Value.type "tuple") none (PySem.Data.seq ([(PySem.Value.str (PySem.Str.ofString "self") 594), (PySem.Value.str (PySem.Str.ofString "value") 595), (PySem.Value.str (PySem.Str.ofString "name") 596), (PySem.Value.str (PySem.Str.ofString "regex") 597)].toArray) 0) ([].toArray))
noncomputable def o171v8 (P : PySem.Params) : PySem.Obj := (PySem.Obj.mk (PySem.Value.type "tuple") none (PySem.Data.seq ([].toArray) 0) ([].toArray))
noncomputable def o172v8 (P : PySem.Params) : PySem.Obj := ⟨PySem.Value.none, none, .func { name := (PySem.Str.ofString "_convert_string_type"), qualname := (PySem.Str.ofString "Headers._convert_string_type"), params := pa14x1.1, body := .stmts bo14x1.1, scope := sc14x1.1, globals := 0, closure := [], defaults := PySem.Value.none, kwdefaults := PySem.Value.none, doc := PySem.Value.none, pyModule := PySem.Value.none, annotations := none, code := PySem.Value.none, closureTuple := PySem.Value.none, builtins := 0 }, ([].toArray)⟩
noncomputable def o173v8 (P : PySem.Params) : PySem.Obj := (PySem.Obj.mk (PySem.Value.type "code") none (PySem.Data.fields ([(PySem.Value.str (PySem.Str.ofString "_convert_string_type") 591), (PySem.Value.str (PySem.Str.ofString "Headers._convert_string_type") 592), (PySem.Value.str (PySem.Str.ofString "/claim/cut.py") 593), (PySem.Value.int (87 : Int) 0), (PySem.Value.int (2 : Int) 0), (PySem.Value.int (0 : Int) 0), (PySem.Value.int (1 : Int) 0), (PySem.Value.int (3 : Int) 0), (PySem.Value.ref 168), (PySem.Value.bool Bool.true), (PySem.Value.int (276 : Int) 0), (PySem.Value.ref 169), PySem.Value.none, (PySem.Value.ref 170), (PySem.Value.ref 171), (PySem.Value.ref 172), (PySem.Value.int (598 : Int) 0), (PySem.Value.int (87 : Int) 0), (PySem.Value.str (PySem.Str.ofString "/claim/cut.py") 599)].toArray)) ([].toArray))
noncomputable def o174v8 (P : PySem.Params) : PySem.Obj := ⟨(PySem.Value.type "function"), none, .func { name := (PySem.Str.ofString "_convert_string_type"), qualname := (PySem.Str.ofString "Headers._convert_string_type"), params := pa14x1.1, body := .stmts bo14x1.1, scope := sc14x1.1, globals := 3, closure := [], defaults := PySem.Value.none, kwdefaults := PySem.Value.none, doc := PySem.Value.none, pyModule := (PySem.Value.str (PySem.Str.ofString "cpy313.wsgiref.headers") 463), annotations := none, code := (PySem.Value.ref 173), closureTuple := PySem.Value.none, builtins := 0 }, ([].toArray)⟩
noncomputable def o175v8 (P : PySem.Params) : PySem.Obj := (PySem.Obj.mk (PySem.Value.type "tuple") none (PySem.Data.seq ([].toArray) 0) ([].toArray))
noncomputable def o176v8 (P : PySem.Params) : PySem.Obj := (PySem.Obj.mk PySem.Value.none none (PySem.Data.fields ([].toArray)) ([].toArray))
noncomputable def o177v8 (P : PySem.Params) : PySem.Obj := (PySem.Obj.mk (PySem.Value.type "tuple") none (PySem.Data.seq ([(PySem.Value.str (PySem.Str.ofString "self") 604)].toArray) 0) ([].toArray))
noncomputable def o178v8 (P : PySem.Params) : PySem.Obj := (PySem.Obj.mk (PySem.Value.type "tuple") none (PySem.Data.seq ([].toArray) 0) ([].toArray))
noncomputable def o179v8 (P : PySem.Params) : PySem.Obj := ⟨PySem.Value.none, none, .func { name := (PySem.Str.ofString "__len__"), qualname := (PySem.Str.ofString "Headers.__len__"), params := pa14x2.1, body := .stmts bo14x2.1, scope := sc14x2.1, globals := 0, closure := [], defaults := PySem.Value.none, kwdefaults := PySem.Value.none, doc := PySem.Value.none, pyModule := PySem.Value.none, annotations := none, code := PySem.Value.none, closureTuple := PySem.Value.none, builtins := 0 }, ([].toArray)⟩
noncomputable def o180v8 (P : PySem.Params) : PySem.Obj := (PySem.Obj.mk (PySem.Value.type "code") none (PySem.Data.fields ([(PySem.Value.str (PySem.Str.ofString "__len__") 601), (PySem.Value.str (PySem.Str.ofString "Headers.__len__") 602), (PySem.Value.str (PySem.Str.ofString "/claim/cut.py") 603), (PySem.Value.int (95 : Int) 0), (PySem.Value.int (1 : Int) 0), (PySem.Value.int (0 : Int) 0), (PySem.Value.int (0 : Int) 0), (PySem.Value.int (3 : Int) 0), (PySem.Value.ref 175), (PySem.Value.bool Bool.true), (PySem.Value.int (276 : Int) 0), (PySem.Value.ref 176), PySem.Value.none, (PySem.Value.ref 177), (PySem.Value.ref 178), (PySem.Value.ref 179), (PySem.Value.int (605 : Int) 0), (PySem.Value.int (95 : Int) 0), (PySem.Value.str (PySem.Str.ofString "/claim/cut.py") 606)].toArray)) ([].toArray))
noncomputable def o181v8 (P : PySem.Params) : PySem.Obj := ⟨(PySem.Value.type "function"), none, .func { name := (PySem.Str.ofString "__len__"), qualname := (PySem.Str.ofString "Headers.__len__"), params := pa14x2.1, body := .stmts bo14x2.1, scope := sc14x2.1, globals := 3, closure := [], defaults := PySem.Value.none, kwdefaults := PySem.Value.none, doc := PySem.Value.none, pyModule := (PySem.Value.str (PySem.Str.ofString "cpy313.wsgiref.headers") 463), annotations := none, code := (PySem.Value.ref 180), closureTuple := PySem.Value.none, builtins := 0 }, ([].toArray)⟩
noncomputable def o182v8 (P : PySem.Params) : PySem.Obj := (PySem.Obj.mk (PySem.Value.type "tuple") none (PySem.Data.seq ([].toArray) 0) ([].toArray))
noncomputable def o183v8 (P : PySem.Params) : PySem.Obj := (PySem.Obj.mk PySem.Value.none none (PySem.Data.fields ([].toArray)) ([].toArray))
noncomputable def o184v8 (P : PySem.Params) : PySem.Obj := (PySem.Obj.mk (PySem.Value.type "tuple") none (PySem.Data.seq ([(PySem.Value.str (PySem.Str.ofString "self") 611), (PySem.Value.str (PySem.Str.ofString "name") 612), (PySem.Value.str (PySem.Str.ofString "val") 613)].toArray) 0) ([].toArray))
noncomputable def o185v8 (P : PySem.Params) : PySem.Obj := (PySem.Obj.mk (PySem.Value.type "tuple") none (PySem.Data.seq ([].toArray) 0) ([].toArray))
noncomputable def o186v8 (P : PySem.Params) : PySem.Obj := ⟨PySem.Value.none, none, .func { name := (PySem.Str.ofString "__setitem__"), qualname := (PySem.Str.ofString "Headers.__setitem__"), params := pa14x3.1, body := .stmts bo14x3.1, scope := sc14x3.1, globals := 0, closure := [], defaults := PySem.Value.none, kwdefaults := PySem.Value.none, doc := PySem.Value.none, pyModule := PySem.Value.none, annotations := none, code := PySem.Value.none, closureTuple := PySem.Value.none, builtins := 0 }, ([].toArray)⟩
noncomputable def o187v8 (P : PySem.Params) : PySem.Obj := (PySem.Obj.mk (PySem.Value.type "code") none (PySem.Data.fields ([(PySem.Value.str (PySem.Str.ofString "__setitem__") 608), (PySem.Value.str (PySem.Str.ofString "Headers.__setitem__") 609), (PySem.Value.str (PySem.Str.ofString "/claim/cut.py") 610), (PySem.Value.int (98 : Int) 0), (PySem.Value.int (3 : Int) 0), (PySem.Value.int (0 : Int) 0), (PySem.Value.int (0 : Int) 0), (PySem.Value.int (3 : Int) 0), (PySem.Value.ref 182), (PySem.Value.bool Bool.true), (PySem.Value.int (276 : Int) 0), (PySem.Value.ref 183), PySem.Value.none, (PySem.Value.ref 184), (PySem.Value.ref 185), (PySem.Value.ref 186), (PySem.Value.int (614 : Int) 0), (PySem.Value.int (98 : Int) 0), (PySem.Value.str (PySem.Str.ofString "/claim/cut.py") 615)].toArray)) ([].toArray))
noncomputable def o188v8 (P : PySem.Params) : PySem.Obj := ⟨(PySem.Value.type "function"), none, .func { name := (PySem.Str.ofString "__setitem__"), qualname := (PySem.Str.ofString "Headers.__setitem__"), params := pa14x3.1, body := .stmts bo14x3.1, scope := sc14x3.1, globals := 3, closure := [], defaults := PySem.Value.none, kwdefaults := PySem.Value.none, doc := PySem.Value.none, pyModule := (PySem.Value.str (PySem.Str.ofString "cpy313.wsgiref.headers") 463), annotations := none, code := (PySem.Value.ref 187), closureTuple := PySem.Value.none, builtins := 0 }, ([].toArray)⟩
noncomputable def o189v8 (P : PySem.Params) : PySem.Obj := (PySem.Obj.mk (PySem.Value.type "tuple") none (PySem.Data.seq ([].toArray) 0) ([].toArray))
noncomputable def o190v8 (P : PySem.Params) : PySem.Obj := (PySem.Obj.mk PySem.Value.none none (PySem.Data.fields ([].toArray)) ([].toArray))
noncomputable def o191v8 (P : PySem.Params) : PySem.Obj := ⟨PySem.Value.none, none, .func { name := (PySem.Str.ofString "__delitem__"), qualname := (PySem.Str.ofString "Headers.__delitem__"), params := pa14x4.1, body := .stmts bo14x4.1, scope := sc14x4.1, globals := 0, closure := [], defaults := PySem.Value.none, kwdefaults := PySem.Value.none, doc := PySem.Value.none, pyModule := PySem.Value.none, annotations := none, code := PySem.Value.none, closureTuple := PySem.Value.none, builtins := 0 }, ([].toArray)⟩
noncomputable def o192v8 (P : PySem.Params) : PySem.Obj := (PySem.Obj.mk (PySem.Value.type "code") none (PySem.Data.fields ([(PySem.Value.str (PySem.Str.ofString "__delitem__") 617), (PySem.Value.str (PySem.Str.ofString "Headers.__delitem__") 618), (PySem.Value.str (PySem.Str.ofString "/claim/cut.py") 619), (PySem.Value.int (102 : Int) 0), (PySem.Value.int (2 : Int) 0), (PySem.Value.int (0 : Int) 0), (PySem.Value.int (0 : Int) 0), (PySem.Value.int (3 : Int) 0), (PySem.Value.ref 189), (PySem.Value.bool Bool.true), (PySem.Value.int (276 : Int) 0), (PySem.Value.ref 190), PySem.Value.none, PySem.Value.none, PySem.Value.none, (PySem.Value.ref 191), (PySem.Value.int (620 : Int) 0), (PySem.Value.int (102 : Int) 0), (PySem.Value.str (PySem.Str.ofString "/claim/cut.py") 621)].toArray)) ([].toArray))
noncomputable def o193v8 (P : PySem.Params) : PySem.Obj := ⟨(PySem.Value.type "function"), none, .func { name := (PySem.Str.ofString "__delitem__"), qualname := (PySem.Str.ofString "Headers.__delitem__"), params := pa14x4.1, body := .stmts bo14x4.1, scope := sc14x4.1, globals := 3, closure := [], defaults := PySem.Value.none, kwdefaults := PySem.Value.none, doc := PySem.Value.none, pyModule := (PySem.Value.str (PySem.Str.ofString "cpy313.wsgiref.headers") 463), annotations := none, code := (PySem.Value.ref 192), closureTuple := PySem.Value.none, builtins := 0 }, ([].toArray)⟩
noncomputable def o194v8 (P : PySem.Params) : PySem.Obj := (PySem.Obj.mk (PySem.Value.type "tuple") none (PySem.Data.seq ([].toArray) 0) ([].toArray))
noncomputable def o195v8 (P : PySem.Params) : PySem.Obj := (PySem.Obj.mk PySem.Value.none none (PySem.Data.fields ([].toArray)) ([].toArray))
noncomputable def o196v8 (P : PySem.Params) : PySem.Obj := (PySem.Obj.mk (PySem.Value.type "tuple") none (PySem.Data.seq ([(PySem.Value.str (PySem.Str.ofString "self") 626), (PySem.Value.str (PySem.Str.ofString "name") 627)].toArray) 0) ([].toArray))
noncomputable def o197v8 (P : PySem.Params) : PySem.Obj := (PySem.Obj.mk (PySem.Value.type "tuple") none (PySem.Data.seq ([].toArray) 0) ([].toArray))
noncomputable def o198v8 (P : PySem.Params) : PySem.Obj := ⟨PySem.Value.none, none, .func { name := (PySem.Str.ofString "__getitem__"), qualname := (PySem.Str.ofString "Headers.__getitem__"), params := pa14x5.1, body := .stmts bo14x5.1, scope := sc14x5.1, globals := 0, closure := [], defaults := PySem.Value.none, kwdefaults := PySem.Value.none, doc := PySem.Value.none, pyModule := PySem.Value.none, annotations := none, code := PySem.Value.none, closureTuple := PySem.Value.none, builtins := 0 }, ([].toArray)⟩
noncomputable def o199v8 (P : PySem.Params) : PySem.Obj := (PySem.Obj.mk (PySem.Value.type "code") none (PySem.Data.fields ([(PySem.Value.str (PySem.Str.ofString "__getitem__") 623), (PySem.Value.str (PySem.Str.ofString "Headers.__getitem__") 624), (PySem.Value.str (PySem.Str.ofString "/claim/cut.py") 625), (PySem.Value.int (106 : Int) 0), (PySem.Value.int (2 : Int) 0), (PySem.Value.int (0 : Int) 0), (PySem.Value.int (0 : Int) 0), (PySem.Value.int (3 : Int) 0), (PySem.Value.ref 194), (PySem.Value.bool Bool.true), (PySem.Value.int (276 : Int) 0), (PySem.Value.ref 195), PySem.Value.none, (PySem.Value.ref 196), (PySem.Value.ref 197), (PySem.Value.ref 198), (PySem.Value.int (628 : Int) 0), (PySem.Value.int (106 : Int) 0), (PySem.Value.str (PySem.Str.ofString "/claim/cut.py") 629)].toArray)) ([].toArray))
noncomputable def o200v8 (P : PySem.Params) : PySem.Obj := ⟨(PySem.Value.type "function"), none, .func { name := (PySem.Str.ofString "__getitem__"), qualname := (PySem.Str.ofString "Headers.__getitem__"), params := pa14x5.1, body := .stmts bo14x5.1, scope := sc14x5.1, globals := 3, closure := [], defaults := PySem.Value.none, kwdefaults := PySem.Value.none, doc := PySem.Value.none, pyModule := (PySem.Value.str (PySem.Str.ofString "cpy313.wsgiref.headers") 463), annotations := none, code := (PySem.Value.ref 199), closureTuple := PySem.Value.none, builtins := 0 }, ([].toArray)⟩
noncomputable def o201v8 (P : PySem.Params) : PySem.Obj := (PySem.Obj.mk (PySem.Value.type "tuple") none (PySem.Data.seq ([].toArray) 0) ([].toArray))
noncomputable def o202v8 (P : PySem.Params) : PySem.Obj := (PySem.Obj.mk PySem.Value.none none (PySem.Data.fields ([].toArray)) ([].toArray))
noncomputable def o203v8 (P : PySem.Params) : PySem.Obj := (PySem.Obj.mk (PySem.Value.type "tuple") none (PySem.Data.seq ([(PySem.Value.str (PySem.Str.ofString "self") 634), (PySem.Value.str (PySem.Str.ofString "name") 635)].toArray) 0) ([].toArray))
noncomputable def o204v8 (P : PySem.Params) : PySem.Obj := (PySem.Obj.mk (PySem.Value.type "tuple") none (PySem.Data.seq ([].toArray) 0) ([].toArray))
noncomputable def o205v8 (P : PySem.Params) : PySem.Obj := ⟨PySem.Value.none, none, .func { name := (PySem.Str.ofString "__contains__"), qualname := (PySem.Str.ofString "Headers.__contains__"), params := pa14x6.1, body := .stmts bo14x6.1, scope := sc14x6.1, globals := 0, closure := [], defaults := PySem.Value.none, kwdefaults := PySem.Value.none, doc := PySem.Value.none, pyModule := PySem.Value.none, annotations := none, code := PySem.Value.none, closureTuple := PySem.Value.none, builtins := 0 }, ([].toArray)⟩
noncomputable def o206v8 (P : PySem.Params) : PySem.Obj := (PySem.Obj.mk (PySem.Value.type "code") none (PySem.Data.fields ([(PySem.Value.str (PySem.Str.ofString "__contains__") 631), (PySem.Value.str (PySem.Str.ofString "Headers.__contains__") 632), (PySem.Value.str (PySem.Str.ofString "/claim/cut.py") 633), (PySem.Value.int (109 : Int) 0), (PySem.Value.int (2 : Int) 0), (PySem.Value.int (0 : Int) 0), (PySem.Value.int (0 : Int) 0), (PySem.Value.int (3 : Int) 0), (PySem.Value.ref 201), (PySem.Value.bool Bool.true), (PySem.Value.int (276 : Int) 0), (PySem.Value.ref 202), PySem.Value.none, (PySem.Value.ref 203), (PySem.Value.ref 204), (PySem.Value.ref 205), (PySem.Value.int (636 : Int) 0), (PySem.Value.int (109 : Int) 0), (PySem.Value.str (PySem.Str.ofString "/claim/cut.py") 637)].toArray)) ([].toArray))
noncomputable def o207v8 (P : PySem.Params) : PySem.Obj := ⟨(PySem.Value.type "function"), none, .func { name := (PySem.Str.ofString "__contains__"), qualname := (PySem.Str.ofString "Headers.__contains__"), params := pa14x6.1, body := .stmts bo14x6.1, scope := sc14x6.1, globals := 3, closure := [], defaults := PySem.Value.none, kwdefaults := PySem.Value.none, doc := PySem.Value.none, pyModule := (PySem.Value.str (PySem.Str.ofString "cpy313.wsgiref.headers") 463), annotations := none, code := (PySem.Value.ref 206), closureTuple := PySem.Value.none, builtins := 0 }, ([].toArray)⟩
noncomputable def o208v8 (P : PySem.Params) : PySem.Obj := (PySem.Obj.mk (PySem.Value.type "tuple") none (PySem.Data.seq ([].toArray) 0) ([].toArray))
noncomputable def o209v8 (P : PySem.Params) : PySem.Obj := (PySem.Obj.mk PySem.Value.none none (PySem.Data.fields ([].toArray)) ([].toArray))
noncomputable def o210v8 (P : PySem.Params) : PySem.Obj := ⟨PySem.Value.none, none, .func { name := (PySem.Str.ofString "get_all"), qualname := (PySem.Str.ofString "Headers.get_all"), params := pa14x7.1, body := .stmts bo14x7.1, scope := sc14x7.1, globals := 0, closure := [], defaults := PySem.Value.none, kwdefaults := PySem.Value.none, doc := PySem.Value.none, pyModule := PySem.Value.none, annotations := none, code := PySem.Value.none, closureTuple := PySem.Value.none, builtins := 0 }, ([].toArray)⟩
noncomputable def o211v8 (P : PySem.Params) : PySem.Obj := (PySem.Obj.mk (PySem.Value.type "code") none (PySem.Data.fields ([(PySem.Value.str (PySem.Str.ofString "get_all") 639), (PySem.Value.str (PySem.Str.ofString "Headers.get_all") 640), (PySem.Value.str (PySem.Str.ofString "/claim/cut.py") 641), (PySem.Value.int (112 : Int) 0), (PySem.Value.int (2 : Int) 0), (PySem.Value.int (0 : Int) 0), (PySem.Value.int (0 : Int) 0), (PySem.Value.int (3 : Int) 0), (PySem.Value.ref 208), (PySem.Value.bool Bool.true), (PySem.Value.int (276 : Int) 0), (PySem.Value.ref 209), PySem.Value.none, PySem.Value.none, PySem.Value.none, (PySem.Value.ref 210), (PySem.Value.int (642 : Int) 0), (PySem.Value.int (112 : Int) 0), (PySem.Value.str (PySem.Str.ofString "/claim/cut.py") 643)].toArray)) ([].toArray))
noncomputable def o212v8 (P : PySem.Params) : PySem.Obj := ⟨(PySem.Value.type "function"), none, .func { name := (PySem.Str.ofString "get_all"), qualname := (PySem.Str.ofString "Headers.get_all"), params := pa14x7.1, body := .stmts bo14x7.1, scope := sc14x7.1, globals := 3, closure := [], defaults := PySem.Value.none, kwdefaults := PySem.Value.none, doc := PySem.Value.none, pyModule := (PySem.Value.str (PySem.Str.ofString "cpy313.wsgiref.headers") 463), annotations := none, code := (PySem.Value.ref 211), closureTuple := PySem.Value.none, builtins := 0 }, ([].toArray)⟩
noncomputable def o213v8 (P : PySem.Params) : PySem.Obj := (PySem.Obj.mk (PySem.Value.type "tuple") none (PySem.Data.seq ([PySem.Value.none].toArray) 0) ([].toArray))
noncomputable def o214v8 (P : PySem.Params) : PySem.Obj := (PySem.Obj.mk (PySem.Value.type "tuple") none (PySem.Data.seq ([].toArray) 0) ([].toArray))
noncomputable def o215v8 (P : PySem.Params) : PySem.Obj := (PySem.Obj.mk PySem.Value.none none (PySem.Data.fields ([].toArray)) ([].toArray))
noncomputable def o216v8 (P : PySem.Params) : PySem.Obj := (PySem.Obj.mk (PySem.Value.type "tuple") none (PySem.Data.seq ([(PySem.Value.str (PySem.Str.ofString "self") 648), (PySem.Value.str (PySem.Str.ofString "name") 649), (PySem.Value.str (PySem.Str.ofString "default") 650), (PySem.Value.str (PySem.Str.ofString "k") 651), (PySem.Value.str (PySem.Str.ofString "v") 652)].toArray) 0) ([].toArray))
noncomputable def o217v8 (P : PySem.Params) : PySem.Obj := (PySem.Obj.mk (PySem.Value.type "tuple") none (PySem.Data.seq ([].toArray) 0) ([].toArray))
noncomputable def o218v8 (P : PySem.Params) : PySem.Obj := ⟨PySem.Value.none, none, .func { name := (PySem.Str.ofString "get"), qualname := (PySem.Str.ofString "Headers.get"), params := pa14x8.1, body := .stmts bo14x8.1, scope := sc14x8.1, globals := 0, closure := [], defaults := PySem.Value.none, kwdefaults := PySem.Value.none, doc := PySem.Value.none, pyModule := PySem.Value.none, annotations := none, code := PySem.Value.none, closureTuple := PySem.Value.none, builtins := 0 }, ([].toArray)⟩
noncomputable def o219v8 (P : PySem.Params) : PySem.Obj := (PySem.Obj.mk (PySem.Value.type "code") none (PySem.Data.fields ([(PySem.Value.str (PySem.Str.ofString "get") 645), (PySem.Value.str (PySem.Str.ofString "Headers.get") 646), (PySem.Value.str (PySem.Str.ofString "/claim/cut.py") 647), (PySem.Value.int (116 : Int) 0), (PySem.Value.int (3 : Int) 0), (PySem.Value.int (0 : Int) 0), (PySem.Value.int (0 : Int) 0), (PySem.Value.int (3 : Int) 0), (PySem.Value.ref 214), (PySem.Value.bool Bool.true), (PySem.Value.int (276 : Int) 0), (PySem.Value.ref 215), PySem.Value.none, (PySem.Value.ref 216), (PySem.Value.ref 217), (PySem.Value.ref 218), (PySem.Value.int (653 : Int) 0), (PySem.Value.int (116 : Int) 0), (PySem.Value.str (PySem.Str.ofString "/claim/cut.py") 654)].toArray)) ([].toArray))
noncomputable def o220v8 (P : PySem.Params) : PySem.Obj := ⟨(PySem.Value.type "function"), none, .func { name := (PySem.Str.ofString "get"), qualname := (PySem.Str.ofString "Headers.get"), params := pa14x8.1, body := .stmts bo14x8.1, scope := sc14x8.1, globals := 3, closure := [], defaults := (PySem.Value.ref 213), kwdefaults := PySem.Value.none, doc := PySem.Value.none, pyModule := (PySem.Value.str (PySem.Str.ofString "cpy313.wsgiref.headers") 463), annotations := none, code := (PySem.Value.ref 219), closureTuple := PySem.Value.none, builtins := 0 }, ([].toArray)⟩
noncomputable def o221v8 (P : PySem.Params) : PySem.Obj := (PySem.Obj.mk (PySem.Value.type "tuple") none (PySem.Data.seq ([].toArray) 0) ([].toArray))
noncomputable def o222v8 (P : PySem.Params) : PySem.Obj := (PySem.Obj.mk PySem.Value.none none (PySem.Data.fields ([].toArray)) ([].toArray))
noncomputable def o223v8 (P : PySem.Params) : PySem.Obj := ⟨PySem.Value.none, none, .func { name := (PySem.Str.ofString "keys"), qualname := (PySem.Str.ofString "Headers.keys"), params := pa14x9.1, body := .stmts bo14x9.1, scope := sc14x9.1, globals := 0, closure := [], defaults := PySem.Value.none, kwdefaults := PySem.Value.none, doc := PySem.Value.none, pyModule := PySem.Value.none, annotations := none, code := PySem.Value.none, closureTuple := PySem.Value.none, builtins := 0 }, ([].toArray)⟩
noncomputable def o224v8 (P : PySem.Params) : PySem.Obj := (PySem.Obj.mk (PySem.Value.type "code") none (PySem.Data.fields ([(PySem.Value.str (PySem.Str.ofString "keys") 656), (PySem.Value.str (PySem.Str.ofString "Headers.keys") 657), (PySem.Value.str (PySem.Str.ofString "/claim/cut.py") 658), (PySem.Value.int (123 : Int) 0), (PySem.Value.int (1 : Int) 0), (PySem.Value.int (0 : Int) 0), (PySem.Value.int (0 : Int) 0), (PySem.Value.int (3 : Int) 0), (PySem.Value.ref 221), (PySem.Value.bool Bool.true), (PySem.Value.int (276 : Int) 0), (PySem.Value.ref 222), PySem.Value.none, PySem.Value.none, PySem.Value.none, (PySem.Value.ref 223), (PySem.Value.int (659 : Int) 0), (PySem.Value.int (123 : Int) 0), (PySem.Value.str (PySem.Str.ofString "/claim/cut.py") 660)].toArray)) ([].toArray))
noncomputable def o225v8 (P : PySem.Params) : PySem.Obj := ⟨(PySem.Value.type "function"), none, .func { name := (PySem.Str.ofString "keys"), qualname := (PySem.Str.ofString "Headers.keys"), params := pa14x9.1, body := .stmts bo14x9.1, scope := sc14x9.1, globals := 3, closure := [], defaults := PySem.Value.none, kwdefaults := PySem.Value.none, doc := PySem.Value.none, pyModule := (PySem.Value.str (PySem.Str.ofString "cpy313.wsgiref.headers") 463), annotations := none, code := (PySem.Value.ref 224), closureTuple := PySem.Value.none, builtins := 0 }, ([].toArray)⟩
noncomputable def o226v8 (P : PySem.Params) : PySem.Obj := (PySem.Obj.mk (PySem.Value.type "tuple") none (PySem.Data.seq ([].toArray) 0) ([].toArray))
noncomputable def o227v8 (P : PySem.Params) : PySem.Obj := (PySem.Obj.mk PySem.Value.none none (PySem.Data.fields ([].toArray)) ([].toArray))
noncomputable def o228v8 (P : PySem.Params) : PySem.Obj := ⟨PySem.Value.none, none, .func { name := (PySem.Str.ofString "values"), qualname := (PySem.Str.ofString "Headers.values"), params := pa14x10.1, body := .stmts bo14x10.1, scope := sc14x10.1, globals := 0, closure := [], defaults := PySem.Value.none, kwdefaults := PySem.Value.none, doc := PySem.Value.none, pyModule := PySem.Value.none, annotations := none, code := PySem.Value.none, closureTuple := PySem.Value.none, builtins := 0 }, ([].toArray)⟩
noncomputable def o229v8 (P : PySem.Params) : PySem.Obj := (PySem.Obj.mk (PySem.Value.type "code") none (PySem.Data.fields ([(PySem.Value.str (PySem.Str.ofString "values") 662), (PySem.Value.str (PySem.Str.ofString "Headers.values") 663), (PySem.Value.str (PySem.Str.ofString "/claim/cut.py") 664), (PySem.Value.int (126 : Int) 0), (PySem.Value.int (1 : Int) 0), (PySem.Value.int (0 : Int) 0), (PySem.Value.int (0 : Int) 0), (PySem.Value.int (3 : Int) 0), (PySem.Value.ref 226), (PySem.Value.bool Bool.true), (PySem.Value.int (276 : Int) 0), (PySem.Value.ref 227), PySem.Value.none, PySem.Value.none, PySem.Value.none, (PySem.Value.ref 228), (PySem.Value.int (665 : Int) 0), (PySem.Value.int (126 : Int) 0), (PySem.Value.str (PySem.Str.ofString "/claim/cut.py") 666)].toArray)) ([].toArray))
noncomputable def o230v8 (P : PySem.Params) : PySem.Obj := ⟨(PySem.Value.type "function"), none, .func { name := (PySem.Str.ofString "values"), qualname := (PySem.Str.ofString "Headers.values"), params := pa14x10.1, body := .stmts bo14x10.1, scope := sc14x10.1, globals := 3, closure := [], defaults := PySem.Value.none, kwdefaults := PySem.Value.none, doc := PySem.Value.none, pyModule := (PySem.Value.str (PySem.Str.ofString "cpy313.wsgiref.headers") 463), annotations := none, code := (PySem.Value.ref 229), closureTuple := PySem.Value.none, builtins := 0 }, ([].toArray)⟩
noncomputable def o231v8 (P : PySem.Params) : PySem.Obj := (PySem.Obj.mk (PySem.Value.type "tuple") none (PySem.Data.seq ([].toArray) 0) ([].toArray))
noncomputable def o232v8 (P : PySem.Params) : PySem.Obj := (PySem.Obj.mk PySem.Value.none none (PySem.Data.fields ([].toArray)) ([].toArray))
noncomputable def o233v8 (P : PySem.Params) : PySem.Obj := (PySem.Obj.mk (PySem.Value.type "tuple") none (PySem.Data.seq ([(PySem.Value.str (PySem.Str.ofString "self") 671)].toArray) 0) ([].toArray))
noncomputable def o234v8 (P : PySem.Params) : PySem.Obj := (PySem.Obj.mk (PySem.Value.type "tuple") none (PySem.Data.seq ([].toArray) 0) ([].toArray))
noncomputable def o235v8 (P : PySem.Params) : PySem.Obj := ⟨PySem.Value.none, none, .func { name := (PySem.Str.ofString "items"), qualname := (PySem.Str.ofString "Headers.items"), params := pa14x11.1, body := .stmts bo14x11.1, scope := sc14x11.1, globals := 0, closure := [], defaults := PySem.Value.none, kwdefaults := PySem.Value.none, doc := PySem.Value.none, pyModule := PySem.Value.none, annotations := none, code := PySem.Value.none, closureTuple := PySem.Value.none, builtins := 0 }, ([].toArray)⟩
noncomputable def o236v8 (P : PySem.Params) : PySem.Obj := (PySem.Obj.mk (PySem.Value.type "code") none (PySem.Data.fields ([(PySem.Value.str (PySem.Str.ofString "items") 668), (PySem.Value.str (PySem.Str.ofString "Headers.items") 669), (PySem.Value.str (PySem.Str.ofString "/claim/cut.py") 670), (PySem.Value.int (129 : Int) 0), (PySem.Value.int (1 : Int) 0), (PySem.Value.int (0 : Int) 0), (PySem.Value.int (0 : Int) 0), (PySem.Value.int (3 : Int) 0), (PySem.Value.ref 231), (PySem.Value.bool Bool.true), (PySem.Value.int (276 : Int) 0), (PySem.Value.ref 232), PySem.Value.none, (PySem.Value.ref 233), (PySem.Value.ref 234), (PySem.Value.ref 235), (PySem.Value.int (672 : Int) 0), (PySem.Value.int (129 : Int) 0), (PySem.Value.str (PySem.Str.ofString "/claim/cut.py") 673)].toArray)) ([].toArray))
noncomputable def o237v8 (P : PySem.Params) : PySem.Obj := ⟨(PySem.Value.type "function"), none, .func { name := (PySem.Str.ofString "items"), qualname := (PySem.Str.ofString "Headers.items"), params := pa14x11.1, body := .stmts bo14x11.1, scope := sc14x11.1, globals := 3, closure := [], defaults := PySem.Value.none, kwdefaults := PySem.Value.none, doc := PySem.Value.none, pyModule := (PySem.Value.str (PySem.Str.ofString "cpy313.wsgiref.headers") 463), annotations := none, code := (PySem.Value.ref 236), closureTuple := PySem.Value.none, builtins := 0 }, ([].toArray)⟩
noncomputable def o238v8 (P : PySem.Params) : PySem.Obj := (PySem.Obj.mk (PySem.Value.type "tuple") none (PySem.Data.seq ([].toArray) 0) ([].toArray))
noncomputable def o239v8 (P : PySem.Params) : PySem.Obj := (PySem.Obj.mk PySem.Value.none none (PySem.Data.fields ([].toArray)) ([].toArray))
noncomputable def o240v8 (P : PySem.Params) : PySem.Obj := (PySem.Obj.mk (PySem.Value.type "tuple") none (PySem.Data.seq ([(PySem.Value.str (PySem.Str.ofString "self") 678)].toArray) 0) ([].toArray))
noncomputable def o241v8 (P : PySem.Params) : PySem.Obj := (PySem.Obj.mk (PySem.Value.type "tuple") none (PySem.Data.seq ([].toArray) 0) ([].toArray))
noncomputable def o242v8 (P : PySem.Params) : PySem.Obj := ⟨PySem.Value.none, none, .func { name := (PySem.Str.ofString "__repr__"), qualname := (PySem.Str.ofString "Headers.__repr__"), params := pa14x12.1, body := .stmts bo14x12.1, scope := sc14x12.1, globals := 0, closure := [], defaults := PySem.Value.none, kwdefaults := PySem.Value.none, doc := PySem.Value.none, pyModule := PySem.Value.none, annotations := none, code := PySem.Value.none, closureTuple := PySem.Value.none, builtins := 0 }, ([].toArray)⟩
noncomputable def o243v8 (P : PySem.Params) : PySem.Obj := (PySem.Obj.mk (PySem.Value.type "code") none (PySem.Data.fields ([(PySem.Value.str (PySem.Str.ofString "__repr__") 675), (PySem.Value.str (PySem.Str.ofString "Headers.__repr__") 676), (PySem.Value.str (PySem.Str.ofString "/claim/cut.py") 677), (PySem.Value.int (132 : Int) 0), (PySem.Value.int (1 : Int) 0), (PySem.Value.int (0 : Int) 0), (PySem.Value.int (0 : Int) 0), (PySem.Value.int (3 : Int) 0), (PySem.Value.ref 238), (PySem.Value.bool Bool.true), (PySem.Value.int (276 : Int) 0), (PySem.Value.ref 239), PySem.Value.none, (PySem.Value.ref 240), (PySem.Value.ref 241), (PySem.Value.ref 242), (PySem.Value.int (679 : Int) 0), (PySem.Value.int (132 : Int) 0), (PySem.Value.str (PySem.Str.ofString "/claim/cut.py") 680)].toArray)) ([].toArray))
noncomputable def o244v8 (P : PySem.Params) : PySem.Obj := ⟨(PySem.Value.type "function"), none, .func { name := (PySem.Str.ofString "__repr__"), qualname := (PySem.Str.ofString "Headers.__repr__"), params := pa14x12.1, body := .stmts bo14x12.1, scope := sc14x12.1, globals := 3, closure := [], defaults := PySem.Value.none, kwdefaults := PySem.Value.none, doc := PySem.Value.none, pyModule := (PySem.Value.str (PySem.Str.ofString "cpy313.wsgiref.headers") 463), annotations := none, code := (PySem.Value.ref 243), closureTuple := PySem.Value.none, builtins := 0 }, ([].toArray)⟩
noncomputable def o245v8 (P : PySem.Params) : PySem.Obj := (PySem.Obj.mk (PySem.Value.type "tuple") none (PySem.Data.seq ([].toArray) 0) ([].toArray))
noncomputable def o246v8 (P : PySem.Params) : PySem.Obj := (PySem.Obj.mk PySem.Value.none none (PySem.Data.fields ([].toArray)) ([].toArray))
noncomputable def o247v8 (P : PySem.Params) : PySem.Obj := ⟨PySem.Value.none, none, .func { name := (PySem.Str.ofString "__str__"), qualname := (PySem.Str.ofString "Headers.__str__"), params := pa14x13.1, body := .stmts bo14x13.1, scope := sc14x13.1, globals := 0, closure := [], defaults := PySem.Value.none, kwdefaults := PySem.Value.none, doc := PySem.Value.none, pyModule := PySem.Value.none, annotations := none, code := PySem.Value.none, closureTuple := PySem.Value.none, builtins := 0 }, ([].toArray)⟩
noncomputable def o248v8 (P : PySem.Params) : PySem.Obj := (PySem.Obj.mk (PySem.Value.type "code") none (PySem.Data.fields ([(PySem.Value.str (PySem.Str.ofString "__str__") 682), (PySem.Value.str (PySem.Str.ofString "Headers.__str__") 683), (PySem.Value.str (PySem.Str.ofString "/claim/cut.py") 684), (PySem.Value.int (135 : Int) 0), (PySem.Value.int (1 : Int) 0), (PySem.Value.int (0 : Int) 0), (PySem.Value.int (0 : Int) 0), (PySem.Value.int (3 : Int) 0), (PySem.Value.ref 245), (PySem.Value.bool Bool.true), (PySem.Value.int (276 : Int) 0), (PySem.Value.ref 246), PySem.Value.none, PySem.Value.none, PySem.Value.none, (PySem.Value.ref 247), (PySem.Value.int (685 : Int) 0), (PySem.Value.int (135 : Int) 0), (PySem.Value.str (PySem.Str.ofString "/claim/cut.py") 686)].toArray)) ([].toArray))
noncomputable def o249v8 (P : PySem.Params) : PySem.Obj := ⟨(PySem.Value.type "function"), none, .func { name := (PySem.Str.ofString "__str__"), qualname := (PySem.Str.ofString "Headers.__str__"), params := pa14x13.1, body := .stmts bo14x13.1, scope := sc14x13.1, globals := 3, closure := [], defaults := PySem.Value.none, kwdefaults := PySem.Value.none, doc := PySem.Value.none, pyModule := (PySem.Value.str (PySem.Str.ofString "cpy313.wsgiref.headers") 463), annotations := none, code := (PySem.Value.ref 248), closureTuple := PySem.Value.none, builtins := 0 }, ([].toArray)⟩
noncomputable def o250v8 (P : PySem.Params) : PySem.Obj := (PySem.Obj.mk (PySem.Value.type "tuple") none (PySem.Data.seq ([].toArray) 0) ([].toArray))
noncomputable def o251v8 (P : PySem.Params) : PySem.Obj := (PySem.Obj.mk PySem.Value.none none (PySem.Data.fields ([].toArray)) ([].toArray))
noncomputable def o252v8 (P : PySem.Params) : PySem.Obj := (PySem.Obj.mk (PySem.Value.type "tuple") none (PySem.Data.seq ([(PySem.Value.str (PySem.Str.ofString "self") 691)].toArray) 0) ([].toArray))
noncomputable def o253v8 (P : PySem.Params) : PySem.Obj := (PySem.Obj.mk (PySem.Value.type "tuple") none (PySem.Data.seq ([].toArray) 0) ([].toArray))
noncomputable def o254v8 (P : PySem.Params) : PySem.Obj := ⟨PySem.Value.none, none, .func { name := (PySem.Str.ofString "__bytes__"), qualname := (PySem.Str.ofString "Headers.__bytes__"), params := pa14x14.1, body := .stmts bo14x14.1, scope := sc14x14.1, globals := 0, closure := [], defaults := PySem.Value.none, kwdefaults := PySem.Value.none, doc := PySem.Value.none, pyModule := PySem.Value.none, annotations := none, code := PySem.Value.none, closureTuple := PySem.Value.none, builtins := 0 }, ([].toArray)⟩
noncomputable def o255v8 (P : PySem.Params) : PySem.Obj := (PySem.Obj.mk (PySem.Value.type "code") none (PySem.Data.fields ([(PySem.Value.str (PySem.Str.ofString "__bytes__") 688), (PySem.Value.str (PySem.Str.ofString "Headers.__bytes__") 689), (PySem.Value.str (PySem.Str.ofString "/claim/cut.py") 690), (PySem.Value.int (138 : Int) 0), (PySem.Value.int (1 : Int) 0), (PySem.Value.int (0 : Int) 0), (PySem.Value.int (0 : Int) 0), (PySem.Value.int (3 : Int) 0), (PySem.Value.ref 250), (PySem.Value.bool Bool.true), (PySem.Value.int (276 : Int) 0), (PySem.Value.ref 251), PySem.Value.none, (PySem.Value.ref 252), (PySem.Value.ref 253), (PySem.Value.ref 254), (PySem.Value.int (692 : Int) 0), (PySem.Value.int (138 : Int) 0), (PySem.Value.str (PySem.Str.ofString "/claim/cut.py") 693)].toArray)) ([].toArray))
noncomputable def o256v8 (P : PySem.Params) : PySem.Obj := ⟨(PySem.Value.type "function"), none, .func { name := (PySem.Str.ofString "__bytes__"), qualname := (PySem.Str.ofString "Headers.__bytes__"), params := pa14x14.1, body := .stmts bo14x14.1, scope := sc14x14.1, globals := 3, closure := [], defaults := PySem.Value.none, kwdefaults := PySem.Value.none, doc := PySem.Value.none, pyModule := (PySem.Value.str (PySem.Str.ofString "cpy313.wsgiref.headers") 463), annotations := none, code := (PySem.Value.ref 255), closureTuple := PySem.Value.none, builtins := 0 }, ([].toArray)⟩
noncomputable def o257v8 (P : PySem.Params) : PySem.Obj := (PySem.Obj.mk (PySem.Value.type "tuple") none (PySem.Data.seq ([].toArray) 0) ([].toArray))
noncomputable def o258v8 (P : PySem.Params) : PySem.Obj := (PySem.Obj.mk PySem.Value.none none (PySem.Data.fields ([].toArray)) ([].toArray))
noncomputable def o259v8 (P : PySem.Params) : PySem.Obj := (PySem.Obj.mk (PySem.Value.type "tuple") none (PySem.Data.seq ([(PySem.Value.str (PySem.Str.ofString "self") 698), (PySem.Value.str (PySem.Str.ofString "name") 699), (PySem.Value.str (PySem.Str.ofString "value") 700)].toArray) 0) ([].toArray))
noncomputable def o260v8 (P : PySem.Params) : PySem.Obj := (PySem.Obj.mk (PySem.Value.type "tuple") none (PySem.Data.seq ([].toArray) 0) ([].toArray))
noncomputable def o261v8 (P : PySem.Params) : PySem.Obj := ⟨PySem.Value.none, none, .func { name := (PySem.Str.ofString "setdefault"), qualname := (PySem.Str.ofString "Headers.setdefault"), params := pa14x15.1, body := .stmts bo14x15.1, scope := sc14x15.1, globals := 0, closure := [], defaults := PySem.Value.none, kwdefaults := PySem.Value.none, doc := PySem.Value.none, pyModule := PySem.Value.none, annotations := none, code := PySem.Value.none, closureTuple := PySem.Value.none, builtins := 0 }, ([].toArray)⟩
noncomputable def o262v8 (P : PySem.Params) : PySem.Obj := (PySem.Obj.mk (PySem.Value.type "code") none (PySem.Data.fields ([(PySem.Value.str (PySem.Str.ofString "setdefault") 695), (PySem.Value.str (PySem.Str.ofString "Headers.setdefault") 696), (PySem.Value.str (PySem.Str.ofString "/claim/cut.py") 697), (PySem.Value.int (141 : Int) 0), (PySem.Value.int (3 : Int) 0), (PySem.Value.int (0 : Int) 0), (PySem.Value.int (0 : Int) 0), (PySem.Value.int (3 : Int) 0), (PySem.Value.ref 257), (PySem.Value.bool Bool.true), (PySem.Value.int (276 : Int) 0), (PySem.Value.ref 258), PySem.Value.none, (PySem.Value.ref 259), (PySem.Value.ref 260), (PySem.Value.ref 261), (PySem.Value.int (701 : Int) 0), (PySem.Value.int (141 : Int) 0), (PySem.Value.str (PySem.Str.ofString "/claim/cut.py") 702)].toArray)) ([].toArray))
noncomputable def o263v8 (P : PySem.Params) : PySem.Obj := ⟨(PySem.Value.type "function"), none, .func { name := (PySem.Str.ofString "setdefault"), qualname := (PySem.Str.ofString "Headers.setdefault"), params := pa14x15.1, body := .stmts bo14x15.1, scope := sc14x15.1, globals := 3, closure := [], defaults := PySem.Value.none, kwdefaults := PySem.Value.none, doc := PySem.Value.none, pyModule := (PySem.Value.str (PySem.Str.ofString "cpy313.wsgiref.headers") 463), annotations := none, code := (PySem.Value.ref 262), closureTuple := PySem.Value.none, builtins := 0 }, ([].toArray)⟩
noncomputable def o264v8 (P : PySem.Params) : PySem.Obj := (PySem.Obj.mk (PySem.Value.type "tuple") none (PySem.Data.seq ([].toArray) 0) ([].toArray))
noncomputable def o265v8 (P : PySem.Params) : PySem.Obj := (PySem.Obj.mk PySem.Value.none none (PySem.Data.fields ([].toArray)) ([].toArray))
noncomputable def o266v8 (P : PySem.Params) : PySem.Obj := (PySem.Obj.mk (PySem.Value.type "tuple") none (PySem.Data.seq ([(PySem.Value.str (PySem.Str.ofString "self") 707), (PySem.Value.str (PySem.Str.ofString "_name") 708), (PySem.Value.str (PySem.Str.ofString "_value") 709), (PySem.Value.str (PySem.Str.ofString "_params") 710), (PySem.Value.str (PySem.Str.ofString "parts") 711), (PySem.Value.str (PySem.Str.ofString "k") 712), (PySem.Value.str (PySem.Str.ofString "v") 713)].toArray) 0) ([].toArray))
noncomputable def o267v8 (P : PySem.Params) : PySem.Obj := (PySem.Obj.mk (PySem.Value.type "tuple") none (PySem.Data.seq ([].toArray) 0) ([].toArray))
noncomputable def o268v8 (P : PySem.Params) : PySem.Obj := ⟨PySem.Value.none, none, .func { name := (PySem.Str.ofString "add_header"), qualname := (PySem.Str.ofString "Headers.add_header"), params := pa14x16.1, body := .stmts bo14x16.1, scope := sc14x16.1, globals := 0, closure := [], defaults := PySem.Value.none, kwdefaults := PySem.Value.none, doc := PySem.Value.none, pyModule := PySem.Value.none, annotations := none, code := PySem.Value.none, closureTuple := PySem.Value.none, builtins := 0 }, ([].toArray)⟩
noncomputable def o269v8 (P : PySem.Params) : PySem.Obj := (PySem.Obj.mk (PySem.Value.type "code") none (PySem.Data.fields ([(PySem.Value.str (PySem.Str.ofString "add_header") 704), (PySem.Value.str (PySem.Str.ofString "Headers.add_header") 705), (PySem.Value.str (PySem.Str.ofString "/claim/cut.py") 706), (PySem.Value.int (144 : Int) 0), (PySem.Value.int (3 : Int) 0), (PySem.Value.int (0 : Int) 0), (PySem.Value.int (0 : Int) 0), (PySem.Value.int (11 : Int) 0), (PySem.Value.ref 264), (PySem.Value.bool Bool.true), (PySem.Value.int (276 : Int) 0), (PySem.Value.ref 265), PySem.Value.none, (PySem.Value.ref 266), (PySem.Value.ref 267), (PySem.Value.ref 268), (PySem.Value.int (714 : Int) 0), (PySem.Value.int (144 : Int) 0), (PySem.Value.str (PySem.Str.ofString "/claim/cut.py") 715)].toArray)) ([].toArray))
noncomputable def o270v8 (P : PySem.Params) : PySem.Obj := ⟨(PySem.Value.type "function"), none, .func { name := (PySem.Str.ofString "add_header"), qualname := (PySem.Str.ofString "Headers.add_header"), params := pa14x16.1, body := .stmts bo14x16.1, scope := sc14x16.1, globals := 3, closure := [], defaults := PySem.Value.none, kwdefaults := PySem.Value.none, doc := PySem.Value.none, pyModule := (PySem.Value.str (PySem.Str.ofString "cpy313.wsgiref.headers") 463), annotations := none, code := (PySem.Value.ref 269), closureTuple := PySem.Value.none, builtins := 0 }, ([].toArray)⟩
noncomputable def o271v8 (P : PySem.Params) : PySem.Obj := (PySem.Obj.mk (PySem.Value.type "tuple") none (PySem.Data.seq ([(PySem.Value.str (PySem.Str.ofString "_headers") 717)].toArray) 0) ([].toArray))
noncomputable def o272v8 (P : PySem.Params) : PySem.Obj := (PySem.Obj.mk (PySem.Value.type "dict") none (PySem.Data.dict ([(PySem.DictEntry.mk (PySem.PyData.keyHash P (PySem.Str.ofString "__module__")) (PySem.Value.str (PySem.Str.ofString "__module__") 576) (PySem.Value.str (PySem.Str.ofString "cpy313.wsgiref.headers") 463)), (PySem.DictEntry.mk (PySem.PyData.keyHash P (PySem.Str.ofString "__firstlineno__")) (PySem.Value.str (PySem.Str.ofString "__firstlineno__") 580) (PySem.Value.int (75 : Int) 579)), (PySem.DictEntry.mk (PySem.PyData.keyHash P (PySem.Str.ofString "__init__")) (PySem.Value.str (PySem.Str.ofString "__init__") 590) (PySem.Value.ref 167)), (PySem.DictEntry.mk (PySem.PyData.keyHash P (PySem.Str.ofString "_convert_string_type")) (PySem.Value.str (PySem.Str.ofString "_convert_string_type") 600) (PySem.Value.ref 174)), (PySem.DictEntry.mk (PySem.PyData.keyHash P (PySem.Str.ofString "__len__")) (PySem.Value.str (PySem.Str.ofString "__len__") 607) (PySem.Value.ref 181)), (PySem.DictEntry.mk (PySem.PyData.keyHash P (PySem.Str.ofString "__setitem__")) (PySem.Value.str (PySem.Str.ofString "__setitem__") 616) (PySem.Value.ref 188)), (PySem.DictEntry.mk (PySem.PyData.keyHash P (PySem.Str.ofString "__delitem__")) (PySem.Value.str (PySem.Str.ofString "__delitem__") 622) (PySem.Value.ref 193)), (PySem.DictEntry.mk (PySem.PyData.keyHash P (PySem.Str.ofString "__getitem__")) (PySem.Value.str (PySem.Str.ofString "__getitem__") 630) (PySem.Value.ref 200)), (PySem.DictEntry.mk (PySem.PyData.keyHash P (PySem.Str.ofString "__contains__")) (PySem.Value.str (PySem.Str.ofString "__contains__") 638) (PySem.Value.ref 207)), (PySem.DictEntry.mk (PySem.PyData.keyHash P (PySem.Str.ofString "get_all")) (PySem.Value.str (PySem.Str.ofString "get_all") 644) (PySem.Value.ref 212)), (PySem.DictEntry.mk (PySem.PyData.keyHash P (PySem.Str.ofString "get")) (PySem.Value.str (PySem.Str.ofString "get") 655) (PySem.Value.ref 220)), (PySem.DictEntry.mk (PySem.PyData.keyHash P (PySem.Str.ofString "keys")) (PySem.Value.str (PySem.Str.ofString "keys") 661) (PySem.Value.ref 225)), (PySem.DictEntry.mk (PySem.PyData.keyHash P (PySem.Str.ofString "values")) (PySem.Value.str (PySem.Str.ofString "values") 667) (PySem.Value.ref 230)), (PySem.DictEntry.mk (PySem.PyData.keyHash P (PySem.Str.ofString "items")) (PySem.Value.str (PySem.Str.ofString "items") 674) (PySem.Value.ref 237)), (PySem.DictEntry.mk (PySem.PyData.keyHash P (PySem.Str.ofString "__repr__")) (PySem.Value.str (PySem.Str.ofString "__repr__") 681) (PySem.Value.ref 244)), (PySem.DictEntry.mk (PySem.PyData.keyHash P (PySem.Str.ofString "__str__")) (PySem.Value.str (PySem.Str.ofString "__str__") 687) (PySem.Value.ref 249)), (PySem.DictEntry.mk (PySem.PyData.keyHash P (PySem.Str.ofString "__bytes__")) (PySem.Value.str (PySem.Str.ofString "__bytes__") 694) (PySem.Value.ref 256)), (PySem.DictEntry.mk (PySem.PyData.keyHash P (PySem.Str.ofString "setdefault")) (PySem.Value.str (PySem.Str.ofString "setdefault") 703) (PySem.Value.ref 263)), (PySem.DictEntry.mk (PySem.PyData.keyHash P (PySem.Str.ofString "add_header")) (PySem.Value.str (PySem.Str.ofString "add_header") 716) (PySem.Value.ref 270)), (PySem.DictEntry.mk (PySem.PyData.keyHash P (PySem.Str.ofString "__static_attributes__")) (PySem.Value.str (PySem.Str.ofString "__static_attributes__") 718) (PySem.Value.ref 271)), (PySem.DictEntry.mk (PySem.PyData.keyHash P (PySem.Str.ofString "__dict__")) (PySem.Value.str (PySem.Str.ofString "__dict__") 720) (PySem.Value.ref 274)), (PySem.DictEntry.mk (PySem.PyData.keyHash P (PySem.Str.ofString "__weakref__")) (PySem.Value.str (PySem.Str.ofString "__weakref__") 722) (PySem.Value.ref 275)), (PySem.DictEntry.mk (PySem.PyData.keyHash P (PySem.Str.ofString "__doc__")) (PySem.Value.str (PySem.Str.ofString "__doc__") 723) PySem.Value.none)].toArray) 4) ([].toArray))
noncomputable def o273v8 (P : PySem.Params) : PySem.Obj := (PySem.Obj.mk (PySem.Value.type "type") none (PySem.Data.cls (PySem.ClassData.mk (PySem.Str.ofString "Headers") [(PySem.Value.type "object")] [(PySem.Value.ref 273), (PySem.Value.type "object")] 272 (PySem.Str.ofString "Headers") Bool.true [] [] Bool.false none Bool.false)) ([none, none, (some (PySem.Value.str (PySem.Str.ofString "Headers") 569)), (some (PySem.Value.str (PySem.Str.ofString "Headers") 577)), (some (PySem.Value.builtin "object.__new__")), (some (PySem.Value.bool Bool.true))].toArray))
noncomputable def o274v8 (P : PySem.Params) : PySem.Obj := (PySem.Obj.mk (PySem.Value.type "getset_descriptor") none (PySem.Data.fields ([(PySem.Value.str (PySem.Str.ofString "__dict__") 719), (PySem.Value.ref 273), (PySem.Value.builtin "function.__dict__"), (PySem.Value.builtin "function.__dict__#set")].toArray)) ([].toArray))
noncomputable def o275v8 (P : PySem.Params) : PySem.Obj := (PySem.Obj.mk (PySem.Value.type "getset_descriptor") none (PySem.Data.fields ([(PySem.Value.str (PySem.Str.ofString "__weakref__") 721), (PySem.Value.ref 273), (PySem.Value.builtin "ExceptionGroup.__weakref__"), PySem.Value.none].toArray)) ([].toArray))
noncomputable def o276v8 (P : PySem.Params) : PySem.Obj := (PySem.Obj.mk (PySem.Value.type "super") none (PySem.Data.fields ([(PySem.Value.ref 273), (PySem.Value.ref 273), (PySem.Value.ref 273)].toArray)) ([].toArray))
noncomputable def o277v8 (P : PySem.Params) : PySem.Obj := (PySem.Obj.mk (PySem.Value.type "builtin_function_or_method") none (PySem.Data.fields ([(PySem.Value.builtin "object.__init_subclass__"), (PySem.Value.ref 273)].toArray)) ([].toArray))
noncomputable def o3v9 (P : PySem.Params) : PySem.Obj := (PySem.Obj.mk (PySem.Value.type "dict") none (PySem.Data.dict ([(PySem.DictEntry.mk (PySem.PyData.keyHash P (PySem.Str.ofString "__name__")) (PySem.Value.str (PySem.Str.ofString "__name__") 165) (PySem.Value.str (PySem.Str.ofString "law_sn0066_01") 726)), (PySem.DictEntry.mk (PySem.PyData.keyHash P (PySem.Str.ofString "__doc__")) (PySem.Value.str (PySem.Str.ofString "__doc__") 166) PySem.Value.none), (PySem.DictEntry.mk (PySem.PyData.keyHash P (PySem.Str.ofString "__package__")) (PySem.Value.str (PySem.Str.ofString "__package__") 167) PySem.Value.none), (PySem.DictEntry.mk (PySem.PyData.keyHash P (PySem.Str.ofString "__loader__")) (PySem.Value.str (PySem.Str.ofString "__loader__") 168) (PySem.Value.builtin "__main__.__loader__#opaque")), (PySem.DictEntry.mk (PySem.PyData.keyHash P (PySem.Str.ofString "__spec__")) (PySem.Value.str (PySem.Str.ofString "__spec__") 169) PySem.Value.none), (PySem.DictEntry.mk (PySem.PyData.keyHash P (PySem.Str.ofString "__annotations__")) (PySem.Value.str (PySem.Str.ofString "__annotations__") 170) (PySem.Value.ref 6)), (PySem.DictEntry.mk (PySem.PyData.keyHash P (PySem.Str.ofString "__builtins__")) (PySem.Value.str (PySem.Str.ofString "__builtins__") 171) (PySem.Value.ref 4)), (PySem.DictEntry.mk (PySem.PyData.keyHash P (PySem.Str.ofString "__file__")) (PySem.Value.str (PySem.Str.ofString "__file__") 173) (PySem.Value.str (PySem.Str.ofString "/claim/cut.py") 172)), (PySem.DictEntry.mk (PySem.PyData.keyHash P (PySem.Str.ofString "__cached__")) (PySem.Value.str (PySem.Str.ofString "__cached__") 174) PySem.Value.none), (PySem.DictEntry.mk (PySem.PyData.keyHash P (PySem.Str.ofString "_sre")) (PySem.Value.str (PySem.Str.ofString "_sre") 275) (PySem.Value.ref 12)), (PySem.DictEntry.mk (PySem.PyData.keyHash P (PySem.Str.ofString "_wall")) (PySem.Value.str (PySem.Str.ofString "_wall") 288) (PySem.Value.ref 38)), (PySem.DictEntry.mk (PySem.PyData.keyHash P (PySem.Str.ofString "Whitespace")) (PySem.Value.str (PySem.Str.ofString "Whitespace") 382) (PySem.Value.ref 100)), (PySem.DictEntry.mk (PySem.PyData.keyHash P (PySem.Str.ofString "_parse_varint")) (PySem.Value.str (PySem.Str.ofString "_parse_varint") 393) (PySem.Value.ref 111)), (PySem.DictEntry.mk (PySem.PyData.keyHash P (PySem.Str.ofString "b1_set")) (PySem.Value.str (PySem.Str.ofString "b1_set") 455) (PySem.Value.ref 119)), (PySem.DictEntry.mk (PySem.PyData.keyHash P (PySem.Str.ofString "in_table_b1")) (PySem.Value.str (PySem.Str.ofString "in_table_b1") 462) (PySem.Value.ref 129)), (PySem.DictEntry.mk (PySem.PyData.keyHash P (PySem.Str.ofString "tspecials")) (PySem.Value.str (PySem.Str.ofString "tspecials") 498) (PySem.Value.ref 134)), (PySem.DictEntry.mk (PySem.PyData.keyHash P (PySem.Str.ofString "_name_disallowed_re")) (PySem.Value.str (PySem.Str.ofString "_name_disallowed_re") 524) (PySem.Value.ref 139)), (PySem.DictEntry.mk (PySem.PyData.keyHash P (PySem.Str.ofString "_value_disallowed_re")) (PySem.Value.str (PySem.Str.ofString "_value_disallowed_re") 558) (PySem.Value.ref 144)), (PySem.DictEntry.mk (PySem.PyData.keyHash P (PySem.Str.ofString "_formatparam")) (PySem.Value.str (PySem.Str.ofString "_formatparam") 568) (PySem.Value.ref 152)), (PySem.DictEntry.mk (PySem.PyData.keyHash P (PySem.Str.ofString "Headers")) (PySem.Value.str (PySem.Str.ofString "Headers") 725) (PySem.Value.ref 273)), (PySem.DictEntry.mk (PySem.PyData.keyHash P (PySem.Str.ofString "_law_read")) (PySem.Value.str (PySem.Str.ofString "_law_read") 736) (PySem.Value.ref 284)), (PySem.DictEntry.mk (PySem.PyData.keyHash P (PySem.Str.ofString "_law_unseen")) (PySem.Value.str (PySem.Str.ofString "_law_unseen") 744) (PySem.Value.ref 291)), (PySem.DictEntry.mk (PySem.PyData.keyHash P (PySem.Str.ofString "_law_beside")) (PySem.Value.str (PySem.Str.ofString "_law_beside") 751) (PySem.Value.ref 298)), (PySem.DictEntry.mk (PySem.PyData.keyHash P (PySem.Str.ofString "_law_clean")) (PySem.Value.str (PySem.Str.ofString "_law_clean") 761) (PySem.Value.ref 305)), (PySem.DictEntry.mk (PySem.PyData.keyHash P (PySem.Str.ofString "_law_draw")) (PySem.Value.str (PySem.Str.ofString "_law_draw") 767) (PySem.Value.ref 310)), (PySem.DictEntry.mk (PySem.PyData.keyHash P (PySem.Str.ofString "_law_triangles")) (PySem.Value.str (PySem.Str.ofString "_law_triangles") 781) (PySem.Value.ref 317)), (PySem.DictEntry.mk (PySem.PyData.keyHash P (PySem.Str.ofString "_law_octets")) (PySem.Value.str (PySem.Str.ofString "_law_octets") 787) (PySem.Value.ref 322)), (PySem.DictEntry.mk (PySem.PyData.keyHash P (PySem.Str.ofString "_law_type")) (PySem.Value.str (PySem.Str.ofString "_law_type") 798) (PySem.Value.ref 329)), (PySem.DictEntry.mk (PySem.PyData.keyHash P (PySem.Str.ofString "_law_file")) (PySem.Value.str (PySem.Str.ofString "_law_file") 811) (PySem.Value.ref 336)), (PySem.DictEntry.mk (PySem.PyData.keyHash P (PySem.Str.ofString "_law_page")) (PySem.Value.str (PySem.Str.ofString "_law_page") 817) (PySem.Value.ref 341)), (PySem.DictEntry.mk (PySem.PyData.keyHash P (PySem.Str.ofString "_law_ways")) (PySem.Value.str (PySem.Str.ofString "_law_ways") 823) (PySem.Value.ref 346)), (PySem.DictEntry.mk (PySem.PyData.keyHash P (PySem.Str.ofString "law")) (PySem.Value.str (PySem.Str.ofString "law") 829) (PySem.Value.ref 351))].toArray) 32) ([].toArray))
noncomputable def o29v9 (P : PySem.Params) : PySem.Obj := (PySem.Obj.mk PySem.Value.none none (PySem.Data.fields ([(PySem.Value.int (2 : Int) 0), (PySem.Value.int (0 : Int) 0), (PySem.Value.ref 37), (PySem.Value.int (6 : Int) 0), (PySem.Value.int (0 : Int) 0), (PySem.Value.ref 44), (PySem.Value.int (50 : Int) 0), (PySem.Value.int (0 : Int) 0), (PySem.Value.ref 110), (PySem.Value.int (60 : Int) 0), (PySem.Value.int (0 : Int) 0), (PySem.Value.ref 128), (PySem.Value.int (66 : Int) 0), (PySem.Value.int (0 : Int) 0), (PySem.Value.ref 151), (PySem.Value.int (75 : Int) 0), (PySem.Value.int (0 : Int) 0), (PySem.Value.ref 158), (PySem.Value.int (158 : Int) 0), (PySem.Value.int (0 : Int) 0), (PySem.Value.ref 283), (PySem.Value.int (166 : Int) 0), (PySem.Value.int (0 : Int) 0), (PySem.Value.ref 290), (PySem.Value.int (171 : Int) 0), (PySem.Value.int (0 : Int) 0), (PySem.Value.ref 297), (PySem.Value.int (173 : Int) 0), (PySem.Value.int (0 : Int) 0), (PySem.Value.ref 304), (PySem.Value.int (179 : Int) 0), (PySem.Value.int (0 : Int) 0), (PySem.Value.ref 309), (PySem.Value.int (182 : Int) 0), (PySem.Value.int (0 : Int) 0), (PySem.Value.ref 316), (PySem.Value.int (194 : Int) 0), (PySem.Value.int (0 : Int) 0), (PySem.Value.ref 321), (PySem.Value.int (202 : Int) 0), (PySem.Value.int (0 : Int) 0), (PySem.Value.ref 328), (PySem.Value.int (209 : Int) 0), (PySem.Value.int (0 : Int) 0), (PySem.Value.ref 335), (PySem.Value.int (218 : Int) 0), (PySem.Value.int (0 : Int) 0), (PySem.Value.ref 340), (PySem.Value.int (221 : Int) 0), (PySem.Value.int (0 : Int) 0), (PySem.Value.ref 345), (PySem.Value.int (234 : Int) 0), (PySem.Value.int (0 : Int) 0), (PySem.Value.ref 350)].toArray)) ([].toArray))
noncomputable def o278v9 (P : PySem.Params) : PySem.Obj := (PySem.Obj.mk (PySem.Value.type "tuple") none (PySem.Data.seq ([].toArray) 0) ([].toArray))
noncomputable def o279v9 (P : PySem.Params) : PySem.Obj := (PySem.Obj.mk PySem.Value.none none (PySem.Data.fields ([].toArray)) ([].toArray))
noncomputable def o280v9 (P : PySem.Params) : PySem.Obj := (PySem.Obj.mk (PySem.Value.type "tuple") none (PySem.Data.seq ([(PySem.Value.str (PySem.Str.ofString "octets") 731), (PySem.Value.str (PySem.Str.ofString "walker") 732), (PySem.Value.str (PySem.Str.ofString "numbers") 733)].toArray) 0) ([].toArray))
noncomputable def o281v9 (P : PySem.Params) : PySem.Obj := (PySem.Obj.mk (PySem.Value.type "tuple") none (PySem.Data.seq ([].toArray) 0) ([].toArray))
noncomputable def o282v9 (P : PySem.Params) : PySem.Obj := ⟨PySem.Value.none, none, .func { name := (PySem.Str.ofString "_law_read"), qualname := (PySem.Str.ofString "_law_read"), params := pa16.1, body := .stmts bo16.1, scope := sc16.1, globals := 0, closure := [], defaults := PySem.Value.none, kwdefaults := PySem.Value.none, doc := PySem.Value.none, pyModule := PySem.Value.none, annotations := none, code := PySem.Value.none, closureTuple := PySem.Value.none, builtins := 0 }, ([].toArray)⟩
noncomputable def o283v9 (P : PySem.Params) : PySem.Obj := (PySem.Obj.mk (PySem.Value.type "code") none (PySem.Data.fields ([(PySem.Value.str (PySem.Str.ofString "_law_read") 728), (PySem.Value.str (PySem.Str.ofString "_law_read") 729), (PySem.Value.str (PySem.Str.ofString "/claim/cut.py") 730), (PySem.Value.int (158 : Int) 0), (PySem.Value.int (1 : Int) 0), (PySem.Value.int (0 : Int) 0), (PySem.Value.int (0 : Int) 0), (PySem.Value.int (3 : Int) 0), (PySem.Value.ref 278), (PySem.Value.bool Bool.true), (PySem.Value.int (276 : Int) 0), (PySem.Value.ref 279), PySem.Value.none, (PySem.Value.ref 280), (PySem.Value.ref 281), (PySem.Value.ref 282), (PySem.Value.int (734 : Int) 0), (PySem.Value.int (158 : Int) 0), (PySem.Value.str (PySem.Str.ofString "/claim/cut.py") 735)].toArray)) ([].toArray))
noncomputable def o284v9 (P : PySem.Params) : PySem.Obj := ⟨(PySem.Value.type "function"), none, .func { name := (PySem.Str.ofString "_law_read"), qualname := (PySem.Str.ofString "_law_read"), params := pa16.1, body := .stmts bo16.1, scope := sc16.1, globals := 3, closure := [], defaults := PySem.Value.none, kwdefaults := PySem.Value.none, doc := PySem.Value.none, pyModule := (PySem.Value.str (PySem.Str.ofString "law_sn0066_01") 726), annotations := none, code := (PySem.Value.ref 283), closureTuple := PySem.Value.none, builtins := 0 }, ([].toArray)⟩
noncomputable def o285v9 (P : PySem.Params) : PySem.Obj := (PySem.Obj.mk (PySem.Value.type "tuple") none (PySem.Data.seq ([].toArray) 0) ([].toArray))
noncomputable def o286v9 (P : PySem.Params) : PySem.Obj := (PySem.Obj.mk PySem.Value.none none (PySem.Data.fields ([].toArray)) ([].toArray))
noncomputable def o287v9 (P : PySem.Params) : PySem.Obj := (PySem.Obj.mk (PySem.Value.type "tuple") none (PySem.Data.seq ([(PySem.Value.str (PySem.Str.ofString "number") 740), (PySem.Value.str (PySem.Str.ofString "k") 741)].toArray) 0) ([].toArray))
noncomputable def o288v9 (P : PySem.Params) : PySem.Obj := (PySem.Obj.mk (PySem.Value.type "tuple") none (PySem.Data.seq ([].toArray) 0) ([].toArray))
noncomputable def o289v9 (P : PySem.Params) : PySem.Obj := ⟨PySem.Value.none, none, .func { name := (PySem.Str.ofString "_law_unseen"), qualname := (PySem.Str.ofString "_law_unseen"), params := pa17.1, body := .stmts bo17.1, scope := sc17.1, globals := 0, closure := [], defaults := PySem.Value.none, kwdefaults := PySem.Value.none, doc := PySem.Value.none, pyModule := PySem.Value.none, annotations := none, code := PySem.Value.none, closureTuple := PySem.Value.none, builtins := 0 }, ([].toArray)⟩
noncomputable def o290v9 (P : PySem.Params) : PySem.Obj := (PySem.Obj.mk (PySem.Value.type "code") none (PySem.Data.fields ([(PySem.Value.str (PySem.Str.ofString "_law_unseen") 737), (PySem.Value.str (PySem.Str.ofString "_law_unseen") 738), (PySem.Value.str (PySem.Str.ofString "/claim/cut.py") 739), (PySem.Value.int (166 : Int) 0), (PySem.Value.int (1 : Int) 0), (PySem.Value.int (0 : Int) 0), (PySem.Value.int (0 : Int) 0), (PySem.Value.int (3 : Int) 0), (PySem.Value.ref 285), (PySem.Value.bool Bool.true), (PySem.Value.int (276 : Int) 0), (PySem.Value.ref 286), PySem.Value.none, (PySem.Value.ref 287), (PySem.Value.ref 288), (PySem.Value.ref 289), (PySem.Value.int (742 : Int) 0), (PySem.Value.int (166 : Int) 0), (PySem.Value.str (PySem.Str.ofString "/claim/cut.py") 743)].toArray)) ([].toArray))
noncomputable def o291v9 (P : PySem.Params) : PySem.Obj := ⟨(PySem.Value.type "function"), none, .func { name := (PySem.Str.ofString "_law_unseen"), qualname := (PySem.Str.ofString "_law_unseen"), params := pa17.1, body := .stmts bo17.1, scope := sc17.1, globals := 3, closure := [], defaults := PySem.Value.none, kwdefaults := PySem.Value.none, doc := PySem.Value.none, pyModule := (PySem.Value.str (PySem.Str.ofString "law_sn0066_01") 726), annotations := none, code := (PySem.Value.ref 290), closureTuple := PySem.Value.none, builtins := 0 }, ([].toArray)⟩
noncomputable def o292v9 (P : PySem.Params) : PySem.Obj := (PySem.Obj.mk (PySem.Value.type "tuple") none (PySem.Data.seq ([].toArray) 0) ([].toArray))
noncomputable def o293v9 (P : PySem.Params) : PySem.Obj := (PySem.Obj.mk PySem.Value.none none (PySem.Data.fields ([].toArray)) ([].toArray))
noncomputable def o294v9 (P : PySem.Params) : PySem.Obj := (PySem.Obj.mk (PySem.Value.type "tuple") none (PySem.Data.seq ([(PySem.Value.str (PySem.Str.ofString "number") 748)].toArray) 0) ([].toArray))
noncomputable def o295v9 (P : PySem.Params) : PySem.Obj := (PySem.Obj.mk (PySem.Value.type "tuple") none (PySem.Data.seq ([].toArray) 0) ([].toArray))
noncomputable def o296v9 (P : PySem.Params) : PySem.Obj := ⟨PySem.Value.none, none, .func { name := (PySem.Str.ofString "_law_beside"), qualname := (PySem.Str.ofString "_law_beside"), params := pa18.1, body := .stmts bo18.1, scope := sc18.1, globals := 0, closure := [], defaults := PySem.Value.none, kwdefaults := PySem.Value.none, doc := PySem.Value.none, pyModule := PySem.Value.none, annotations := none, code := PySem.Value.none, closureTuple := PySem.Value.none, builtins := 0 }, ([].toArray)⟩
noncomputable def o297v9 (P : PySem.Params) : PySem.Obj := (PySem.Obj.mk (PySem.Value.type "code") none (PySem.Data.fields ([(PySem.Value.str (PySem.Str.ofString "_law_beside") 745), (PySem.Value.str (PySem.Str.ofString "_law_beside") 746), (PySem.Value.str (PySem.Str.ofString "/claim/cut.py") 747), (PySem.Value.int (171 : Int) 0), (PySem.Value.int (1 : Int) 0), (PySem.Value.int (0 : Int) 0), (PySem.Value.int (0 : Int) 0), (PySem.Value.int (3 : Int) 0), (PySem.Value.ref 292), (PySem.Value.bool Bool.true), (PySem.Value.int (276 : Int) 0), (PySem.Value.ref 293), PySem.Value.none, (PySem.Value.ref 294), (PySem.Value.ref 295), (PySem.Value.ref 296), (PySem.Value.int (749 : Int) 0), (PySem.Value.int (171 : Int) 0), (PySem.Value.str (PySem.Str.ofString "/claim/cut.py") 750)].toArray)) ([].toArray))
noncomputable def o298v9 (P : PySem.Params) : PySem.Obj := ⟨(PySem.Value.type "function"), none, .func { name := (PySem.Str.ofString "_law_beside"), qualname := (PySem.Str.ofString "_law_beside"), params := pa18.1, body := .stmts bo18.1, scope := sc18.1, globals := 3, closure := [], defaults := PySem.Value.none, kwdefaults := PySem.Value.none, doc := PySem.Value.none, pyModule := (PySem.Value.str (PySem.Str.ofString "law_sn0066_01") 726), annotations := none, code := (PySem.Value.ref 297), closureTuple := PySem.Value.none, builtins := 0 }, ([].toArray)⟩
noncomputable def o299v9 (P : PySem.Params) : PySem.Obj := (PySem.Obj.mk (PySem.Value.type "tuple") none (PySem.Data.seq ([].toArray) 0) ([].toArray))
noncomputable def o300v9 (P : PySem.Params) : PySem.Obj := (PySem.Obj.mk PySem.Value.none none (PySem.Data.fields ([].toArray)) ([].toArray))
noncomputable def o301v9 (P : PySem.Params) : PySem.Obj := (PySem.Obj.mk (PySem.Value.type "tuple") none (PySem.Data.seq ([(PySem.Value.str (PySem.Str.ofString "text") 755), (PySem.Value.str (PySem.Str.ofString "left") 756), (PySem.Value.str (PySem.Str.ofString "sign") 757), (PySem.Value.str (PySem.Str.ofString "told") 758)].toArray) 0) ([].toArray))
noncomputable def o302v9 (P : PySem.Params) : PySem.Obj := (PySem.Obj.mk (PySem.Value.type "tuple") none (PySem.Data.seq ([].toArray) 0) ([].toArray))
noncomputable def o303v9 (P : PySem.Params) : PySem.Obj := ⟨PySem.Value.none, none, .func { name := (PySem.Str.ofString "_law_clean"), qualname := (PySem.Str.ofString "_law_clean"), params := pa19.1, body := .stmts bo19.1, scope := sc19.1, globals := 0, closure := [], defaults := PySem.Value.none, kwdefaults := PySem.Value.none, doc := PySem.Value.none, pyModule := PySem.Value.none, annotations := none, code := PySem.Value.none, closureTuple := PySem.Value.none, builtins := 0 }, ([].toArray)⟩
noncomputable def o304v9 (P : PySem.Params) : PySem.Obj := (PySem.Obj.mk (PySem.Value.type "code") none (PySem.Data.fields ([(PySem.Value.str (PySem.Str.ofString "_law_clean") 752), (PySem.Value.str (PySem.Str.ofString "_law_clean") 753), (PySem.Value.str (PySem.Str.ofString "/claim/cut.py") 754), (PySem.Value.int (173 : Int) 0), (PySem.Value.int (1 : Int) 0), (PySem.Value.int (0 : Int) 0), (PySem.Value.int (0 : Int) 0), (PySem.Value.int (3 : Int) 0), (PySem.Value.ref 299), (PySem.Value.bool Bool.true), (PySem.Value.int (276 : Int) 0), (PySem.Value.ref 300), PySem.Value.none, (PySem.Value.ref 301), (PySem.Value.ref 302), (PySem.Value.ref 303), (PySem.Value.int (759 : Int) 0), (PySem.Value.int (173 : Int) 0), (PySem.Value.str (PySem.Str.ofString "/claim/cut.py") 760)].toArray)) ([].toArray))
noncomputable def o305v9 (P : PySem.Params) : PySem.Obj := ⟨(PySem.Value.type "function"), none, .func { name := (PySem.Str.ofString "_law_clean"), qualname := (PySem.Str.ofString "_law_clean"), params := pa19.1, body := .stmts bo19.1, scope := sc19.1, globals := 3, closure := [], defaults := PySem.Value.none, kwdefaults := PySem.Value.none, doc := PySem.Value.none, pyModule := (PySem.Value.str (PySem.Str.ofString "law_sn0066_01") 726), annotations := none, code := (PySem.Value.ref 304), closureTuple := PySem.Value.none, builtins := 0 }, ([].toArray)⟩
noncomputable def o306v9 (P : PySem.Params) : PySem.Obj := (PySem.Obj.mk (PySem.Value.type "tuple") none (PySem.Data.seq ([].toArray) 0) ([].toArray))
noncomputable def o307v9 (P : PySem.Params) : PySem.Obj := (PySem.Obj.mk PySem.Value.none none (PySem.Data.fields ([].toArray)) ([].toArray))
noncomputable def o308v9 (P : PySem.Params) : PySem.Obj := ⟨PySem.Value.none, none, .func { name := (PySem.Str.ofString "_law_draw"), qualname := (PySem.Str.ofString "_law_draw"), params := pa20.1, body := .stmts bo20.1, scope := sc20.1, globals := 0, closure := [], defaults := PySem.Value.none, kwdefaults := PySem.Value.none, doc := PySem.Value.none, pyModule := PySem.Value.none, annotations := none, code := PySem.Value.none, closureTuple := PySem.Value.none, builtins := 0 }, ([].toArray)⟩
noncomputable def o309v9 (P : PySem.Params) : PySem.Obj := (PySem.Obj.mk (PySem.Value.type "code") none (PySem.Data.fields ([(PySem.Value.str (PySem.Str.ofString "_law_draw") 762), (PySem.Value.str (PySem.Str.ofString "_law_draw") 763), (PySem.Value.str (PySem.Str.ofString "/claim/cut.py") 764), (PySem.Value.int (179 : Int) 0), (PySem.Value.int (1 : Int) 0), (PySem.Value.int (0 : Int) 0), (PySem.Value.int (0 : Int) 0), (PySem.Value.int (3 : Int) 0), (PySem.Value.ref 306), (PySem.Value.bool Bool.true), (PySem.Value.int (276 : Int) 0), (PySem.Value.ref 307), PySem.Value.none, PySem.Value.none, PySem.Value.none, (PySem.Value.ref 308), (PySem.Value.int (765 : Int) 0), (PySem.Value.int (179 : Int) 0), (PySem.Value.str (PySem.Str.ofString "/claim/cut.py") 766)].toArray)) ([].toArray))
noncomputable def o310v9 (P : PySem.Params) : PySem.Obj := ⟨(PySem.Value.type "function"), none, .func { name := (PySem.Str.ofString "_law_draw"), qualname := (PySem.Str.ofString "_law_draw"), params := pa20.1, body := .stmts bo20.1, scope := sc20.1, globals := 3, closure := [], defaults := PySem.Value.none, kwdefaults := PySem.Value.none, doc := PySem.Value.none, pyModule := (PySem.Value.str (PySem.Str.ofString "law_sn0066_01") 726), annotations := none, code := (PySem.Value.ref 309), closureTuple := PySem.Value.none, builtins := 0 }, ([].toArray)⟩
noncomputable def o311v9 (P : PySem.Params) : PySem.Obj := (PySem.Obj.mk (PySem.Value.type "tuple") none (PySem.Data.seq ([].toArray) 0) ([].toArray))
noncomputable def o312v9 (P : PySem.Params) : PySem.Obj := (PySem.Obj.mk PySem.Value.none none (PySem.Data.fields ([].toArray)) ([].toArray))
noncomputable def o313v9 (P : PySem.Params) : PySem.Obj := (PySem.Obj.mk (PySem.Value.type "tuple") none (PySem.Data.seq ([(PySem.Value.str (PySem.Str.ofString "size") 771), (PySem.Value.str (PySem.Str.ofString "have") 772), (PySem.Value.str (PySem.Str.ofString "triangles") 773), (PySem.Value.str (PySem.Str.ofString "edges") 774), (PySem.Value.str (PySem.Str.ofString "k") 775), (PySem.Value.str (PySem.Str.ofString "low") 776), (PySem.Value.str (PySem.Str.ofString "high") 777), (PySem.Value.str (PySem.Str.ofString "apex") 778)].toArray) 0) ([].toArray))
noncomputable def o314v9 (P : PySem.Params) : PySem.Obj := (PySem.Obj.mk (PySem.Value.type "tuple") none (PySem.Data.seq ([].toArray) 0) ([].toArray))
noncomputable def o315v9 (P : PySem.Params) : PySem.Obj := ⟨PySem.Value.none, none, .func { name := (PySem.Str.ofString "_law_triangles"), qualname := (PySem.Str.ofString "_law_triangles"), params := pa21.1, body := .stmts bo21.1, scope := sc21.1, globals := 0, closure := [], defaults := PySem.Value.none, kwdefaults := PySem.Value.none, doc := PySem.Value.none, pyModule := PySem.Value.none, annotations := none, code := PySem.Value.none, closureTuple := PySem.Value.none, builtins := 0 }, ([].toArray)⟩
noncomputable def o316v9 (P : PySem.Params) : PySem.Obj := (PySem.Obj.mk (PySem.Value.type "code") none (PySem.Data.fields ([(PySem.Value.str (PySem.Str.ofString "_law_triangles") 768), (PySem.Value.str (PySem.Str.ofString "_law_triangles") 769), (PySem.Value.str (PySem.Str.ofString "/claim/cut.py") 770), (PySem.Value.int (182 : Int) 0), (PySem.Value.int (2 : Int) 0), (PySem.Value.int (0 : Int) 0), (PySem.Value.int (0 : Int) 0), (PySem.Value.int (3 : Int) 0), (PySem.Value.ref 311), (PySem.Value.bool Bool.true), (PySem.Value.int (276 : Int) 0), (PySem.Value.ref 312), PySem.Value.none, (PySem.Value.ref 313), (PySem.Value.ref 314), (PySem.Value.ref 315), (PySem.Value.int (779 : Int) 0), (PySem.Value.int (182 : Int) 0), (PySem.Value.str (PySem.Str.ofString "/claim/cut.py") 780)].toArray)) ([].toArray))
noncomputable def o317v9 (P : PySem.Params) : PySem.Obj := ⟨(PySem.Value.type "function"), none, .func { name := (PySem.Str.ofString "_law_triangles"), qualname := (PySem.Str.ofString "_law_triangles"), params := pa21.1, body := .stmts bo21.1, scope := sc21.1, globals := 3, closure := [], defaults := PySem.Value.none, kwdefaults := PySem.Value.none, doc := PySem.Value.none, pyModule := (PySem.Value.str (PySem.Str.ofString "law_sn0066_01") 726), annotations := none, code := (PySem.Value.ref 316), closureTuple := PySem.Value.none, builtins := 0 }, ([].toArray)⟩
noncomputable def o318v9 (P : PySem.Params) : PySem.Obj := (PySem.Obj.mk (PySem.Value.type "tuple") none (PySem.Data.seq ([].toArray) 0) ([].toArray))
noncomputable def o319v9 (P : PySem.Params) : PySem.Obj := (PySem.Obj.mk PySem.Value.none none (PySem.Data.fields ([].toArray)) ([].toArray))
noncomputable def o320v9 (P : PySem.Params) : PySem.Obj := ⟨PySem.Value.none, none, .func { name := (PySem.Str.ofString "_law_octets"), qualname := (PySem.Str.ofString "_law_octets"), params := pa22.1, body := .stmts bo22.1, scope := sc22.1, globals := 0, closure := [], defaults := PySem.Value.none, kwdefaults := PySem.Value.none, doc := PySem.Value.none, pyModule := PySem.Value.none, annotations := none, code := PySem.Value.none, closureTuple := PySem.Value.none, builtins := 0 }, ([].toArray)⟩
noncomputable def o321v9 (P : PySem.Params) : PySem.Obj := (PySem.Obj.mk (PySem.Value.type "code") none (PySem.Data.fields ([(PySem.Value.str (PySem.Str.ofString "_law_octets") 782), (PySem.Value.str (PySem.Str.ofString "_law_octets") 783), (PySem.Value.str (PySem.Str.ofString "/claim/cut.py") 784), (PySem.Value.int (194 : Int) 0), (PySem.Value.int (2 : Int) 0), (PySem.Value.int (0 : Int) 0), (PySem.Value.int (0 : Int) 0), (PySem.Value.int (3 : Int) 0), (PySem.Value.ref 318), (PySem.Value.bool Bool.true), (PySem.Value.int (276 : Int) 0), (PySem.Value.ref 319), PySem.Value.none, PySem.Value.none, PySem.Value.none, (PySem.Value.ref 320), (PySem.Value.int (785 : Int) 0), (PySem.Value.int (194 : Int) 0), (PySem.Value.str (PySem.Str.ofString "/claim/cut.py") 786)].toArray)) ([].toArray))
noncomputable def o322v9 (P : PySem.Params) : PySem.Obj := ⟨(PySem.Value.type "function"), none, .func { name := (PySem.Str.ofString "_law_octets"), qualname := (PySem.Str.ofString "_law_octets"), params := pa22.1, body := .stmts bo22.1, scope := sc22.1, globals := 3, closure := [], defaults := PySem.Value.none, kwdefaults := PySem.Value.none, doc := PySem.Value.none, pyModule := (PySem.Value.str (PySem.Str.ofString "law_sn0066_01") 726), annotations := none, code := (PySem.Value.ref 321), closureTuple := PySem.Value.none, builtins := 0 }, ([].toArray)⟩
noncomputable def o323v9 (P : PySem.Params) : PySem.Obj := (PySem.Obj.mk (PySem.Value.type "tuple") none (PySem.Data.seq ([].toArray) 0) ([].toArray))
noncomputable def o324v9 (P : PySem.Params) : PySem.Obj := (PySem.Obj.mk PySem.Value.none none (PySem.Data.fields ([].toArray)) ([].toArray))
noncomputable def o325v9 (P : PySem.Params) : PySem.Obj := (PySem.Obj.mk (PySem.Value.type "tuple") none (PySem.Data.seq ([(PySem.Value.str (PySem.Str.ofString "corners") 791), (PySem.Value.str (PySem.Str.ofString "seed") 792), (PySem.Value.str (PySem.Str.ofString "text") 793), (PySem.Value.str (PySem.Str.ofString "corner") 794), (PySem.Value.str (PySem.Str.ofString "cut") 795)].toArray) 0) ([].toArray))
noncomputable def o326v9 (P : PySem.Params) : PySem.Obj := (PySem.Obj.mk (PySem.Value.type "tuple") none (PySem.Data.seq ([].toArray) 0) ([].toArray))
noncomputable def o327v9 (P : PySem.Params) : PySem.Obj := ⟨PySem.Value.none, none, .func { name := (PySem.Str.ofString "_law_type"), qualname := (PySem.Str.ofString "_law_type"), params := pa23.1, body := .stmts bo23.1, scope := sc23.1, globals := 0, closure := [], defaults := PySem.Value.none, kwdefaults := PySem.Value.none, doc := PySem.Value.none, pyModule := PySem.Value.none, annotations := none, code := PySem.Value.none, closureTuple := PySem.Value.none, builtins := 0 }, ([].toArray)⟩
noncomputable def o328v9 (P : PySem.Params) : PySem.Obj := (PySem.Obj.mk (PySem.Value.type "code") none (PySem.Data.fields ([(PySem.Value.str (PySem.Str.ofString "_law_type") 788), (PySem.Value.str (PySem.Str.ofString "_law_type") 789), (PySem.Value.str (PySem.Str.ofString "/claim/cut.py") 790), (PySem.Value.int (202 : Int) 0), (PySem.Value.int (2 : Int) 0), (PySem.Value.int (0 : Int) 0), (PySem.Value.int (0 : Int) 0), (PySem.Value.int (3 : Int) 0), (PySem.Value.ref 323), (PySem.Value.bool Bool.true), (PySem.Value.int (276 : Int) 0), (PySem.Value.ref 324), PySem.Value.none, (PySem.Value.ref 325), (PySem.Value.ref 326), (PySem.Value.ref 327), (PySem.Value.int (796 : Int) 0), (PySem.Value.int (202 : Int) 0), (PySem.Value.str (PySem.Str.ofString "/claim/cut.py") 797)].toArray)) ([].toArray))
noncomputable def o329v9 (P : PySem.Params) : PySem.Obj := ⟨(PySem.Value.type "function"), none, .func { name := (PySem.Str.ofString "_law_type"), qualname := (PySem.Str.ofString "_law_type"), params := pa23.1, body := .stmts bo23.1, scope := sc23.1, globals := 3, closure := [], defaults := PySem.Value.none, kwdefaults := PySem.Value.none, doc := PySem.Value.none, pyModule := (PySem.Value.str (PySem.Str.ofString "law_sn0066_01") 726), annotations := none, code := (PySem.Value.ref 328), closureTuple := PySem.Value.none, builtins := 0 }, ([].toArray)⟩
noncomputable def o330v9 (P : PySem.Params) : PySem.Obj := (PySem.Obj.mk (PySem.Value.type "tuple") none (PySem.Data.seq ([].toArray) 0) ([].toArray))
noncomputable def o331v9 (P : PySem.Params) : PySem.Obj := (PySem.Obj.mk PySem.Value.none none (PySem.Data.fields ([].toArray)) ([].toArray))
noncomputable def o332v9 (P : PySem.Params) : PySem.Obj := (PySem.Obj.mk (PySem.Value.type "tuple") none (PySem.Data.seq ([(PySem.Value.str (PySem.Str.ofString "table") 802), (PySem.Value.str (PySem.Str.ofString "triangles") 803), (PySem.Value.str (PySem.Str.ofString "seed") 804), (PySem.Value.str (PySem.Str.ofString "due") 805), (PySem.Value.str (PySem.Str.ofString "corners") 806), (PySem.Value.str (PySem.Str.ofString "k") 807), (PySem.Value.str (PySem.Str.ofString "text") 808)].toArray) 0) ([].toArray))
noncomputable def o333v9 (P : PySem.Params) : PySem.Obj := (PySem.Obj.mk (PySem.Value.type "tuple") none (PySem.Data.seq ([].toArray) 0) ([].toArray))
noncomputable def o334v9 (P : PySem.Params) : PySem.Obj := ⟨PySem.Value.none, none, .func { name := (PySem.Str.ofString "_law_file"), qualname := (PySem.Str.ofString "_law_file"), params := pa24.1, body := .stmts bo24.1, scope := sc24.1, globals := 0, closure := [], defaults := PySem.Value.none, kwdefaults := PySem.Value.none, doc := PySem.Value.none, pyModule := PySem.Value.none, annotations := none, code := PySem.Value.none, closureTuple := PySem.Value.none, builtins := 0 }, ([].toArray)⟩
noncomputable def o335v9 (P : PySem.Params) : PySem.Obj := (PySem.Obj.mk (PySem.Value.type "code") none (PySem.Data.fields ([(PySem.Value.str (PySem.Str.ofString "_law_file") 799), (PySem.Value.str (PySem.Str.ofString "_law_file") 800), (PySem.Value.str (PySem.Str.ofString "/claim/cut.py") 801), (PySem.Value.int (209 : Int) 0), (PySem.Value.int (3 : Int) 0), (PySem.Value.int (0 : Int) 0), (PySem.Value.int (0 : Int) 0), (PySem.Value.int (3 : Int) 0), (PySem.Value.ref 330), (PySem.Value.bool Bool.true), (PySem.Value.int (276 : Int) 0), (PySem.Value.ref 331), PySem.Value.none, (PySem.Value.ref 332), (PySem.Value.ref 333), (PySem.Value.ref 334), (PySem.Value.int (809 : Int) 0), (PySem.Value.int (209 : Int) 0), (PySem.Value.str (PySem.Str.ofString "/claim/cut.py") 810)].toArray)) ([].toArray))
noncomputable def o336v9 (P : PySem.Params) : PySem.Obj := ⟨(PySem.Value.type "function"), none, .func { name := (PySem.Str.ofString "_law_file"), qualname := (PySem.Str.ofString "_law_file"), params := pa24.1, body := .stmts bo24.1, scope := sc24.1, globals := 3, closure := [], defaults := PySem.Value.none, kwdefaults := PySem.Value.none, doc := PySem.Value.none, pyModule := (PySem.Value.str (PySem.Str.ofString "law_sn0066_01") 726), annotations := none, code := (PySem.Value.ref 335), closureTuple := PySem.Value.none, builtins := 0 }, ([].toArray)⟩
noncomputable def o337v9 (P : PySem.Params) : PySem.Obj := (PySem.Obj.mk (PySem.Value.type "tuple") none (PySem.Data.seq ([].toArray) 0) ([].toArray))
noncomputable def o338v9 (P : PySem.Params) : PySem.Obj := (PySem.Obj.mk PySem.Value.none none (PySem.Data.fields ([].toArray)) ([].toArray))
noncomputable def o339v9 (P : PySem.Params) : PySem.Obj := ⟨PySem.Value.none, none, .func { name := (PySem.Str.ofString "_law_page"), qualname := (PySem.Str.ofString "_law_page"), params := pa25.1, body := .stmts bo25.1, scope := sc25.1, globals := 0, closure := [], defaults := PySem.Value.none, kwdefaults := PySem.Value.none, doc := PySem.Value.none, pyModule := PySem.Value.none, annotations := none, code := PySem.Value.none, closureTuple := PySem.Value.none, builtins := 0 }, ([].toArray)⟩
noncomputable def o340v9 (P : PySem.Params) : PySem.Obj := (PySem.Obj.mk (PySem.Value.type "code") none (PySem.Data.fields ([(PySem.Value.str (PySem.Str.ofString "_law_page") 812), (PySem.Value.str (PySem.Str.ofString "_law_page") 813), (PySem.Value.str (PySem.Str.ofString "/claim/cut.py") 814), (PySem.Value.int (218 : Int) 0), (PySem.Value.int (3 : Int) 0), (PySem.Value.int (0 : Int) 0), (PySem.Value.int (0 : Int) 0), (PySem.Value.int (3 : Int) 0), (PySem.Value.ref 337), (PySem.Value.bool Bool.true), (PySem.Value.int (276 : Int) 0), (PySem.Value.ref 338), PySem.Value.none, PySem.Value.none, PySem.Value.none, (PySem.Value.ref 339), (PySem.Value.int (815 : Int) 0), (PySem.Value.int (218 : Int) 0), (PySem.Value.str (PySem.Str.ofString "/claim/cut.py") 816)].toArray)) ([].toArray))
noncomputable def o341v9 (P : PySem.Params) : PySem.Obj := ⟨(PySem.Value.type "function"), none, .func { name := (PySem.Str.ofString "_law_page"), qualname := (PySem.Str.ofString "_law_page"), params := pa25.1, body := .stmts bo25.1, scope := sc25.1, globals := 3, closure := [], defaults := PySem.Value.none, kwdefaults := PySem.Value.none, doc := PySem.Value.none, pyModule := (PySem.Value.str (PySem.Str.ofString "law_sn0066_01") 726), annotations := none, code := (PySem.Value.ref 340), closureTuple := PySem.Value.none, builtins := 0 }, ([].toArray)⟩
noncomputable def o342v9 (P : PySem.Params) : PySem.Obj := (PySem.Obj.mk (PySem.Value.type "tuple") none (PySem.Data.seq ([].toArray) 0) ([].toArray))
noncomputable def o343v9 (P : PySem.Params) : PySem.Obj := (PySem.Obj.mk PySem.Value.none none (PySem.Data.fields ([].toArray)) ([].toArray))
noncomputable def o344v9 (P : PySem.Params) : PySem.Obj := ⟨PySem.Value.none, none, .func { name := (PySem.Str.ofString "_law_ways"), qualname := (PySem.Str.ofString "_law_ways"), params := pa26.1, body := .stmts bo26.1, scope := sc26.1, globals := 0, closure := [], defaults := PySem.Value.none, kwdefaults := PySem.Value.none, doc := PySem.Value.none, pyModule := PySem.Value.none, annotations := none, code := PySem.Value.none, closureTuple := PySem.Value.none, builtins := 0 }, ([].toArray)⟩
noncomputable def o345v9 (P : PySem.Params) : PySem.Obj := (PySem.Obj.mk (PySem.Value.type "code") none (PySem.Data.fields ([(PySem.Value.str (PySem.Str.ofString "_law_ways") 818), (PySem.Value.str (PySem.Str.ofString "_law_ways") 819), (PySem.Value.str (PySem.Str.ofString "/claim/cut.py") 820), (PySem.Value.int (221 : Int) 0), (PySem.Value.int (2 : Int) 0), (PySem.Value.int (0 : Int) 0), (PySem.Value.int (0 : Int) 0), (PySem.Value.int (3 : Int) 0), (PySem.Value.ref 342), (PySem.Value.bool Bool.true), (PySem.Value.int (276 : Int) 0), (PySem.Value.ref 343), PySem.Value.none, PySem.Value.none, PySem.Value.none, (PySem.Value.ref 344), (PySem.Value.int (821 : Int) 0), (PySem.Value.int (221 : Int) 0), (PySem.Value.str (PySem.Str.ofString "/claim/cut.py") 822)].toArray)) ([].toArray))
noncomputable def o346v9 (P : PySem.Params) : PySem.Obj := ⟨(PySem.Value.type "function"), none, .func { name := (PySem.Str.ofString "_law_ways"), qualname := (PySem.Str.ofString "_law_ways"), params := pa26.1, body := .stmts bo26.1, scope := sc26.1, globals := 3, closure := [], defaults := PySem.Value.none, kwdefaults := PySem.Value.none, doc := PySem.Value.none, pyModule := (PySem.Value.str (PySem.Str.ofString "law_sn0066_01") 726), annotations := none, code := (PySem.Value.ref 345), closureTuple := PySem.Value.none, builtins := 0 }, ([].toArray)⟩
noncomputable def o347v9 (P : PySem.Params) : PySem.Obj := (PySem.Obj.mk (PySem.Value.type "tuple") none (PySem.Data.seq ([].toArray) 0) ([].toArray))
noncomputable def o348v9 (P : PySem.Params) : PySem.Obj := (PySem.Obj.mk PySem.Value.none none (PySem.Data.fields ([].toArray)) ([].toArray))
noncomputable def o349v9 (P : PySem.Params) : PySem.Obj := ⟨PySem.Value.none, none, .func { name := (PySem.Str.ofString "law"), qualname := (PySem.Str.ofString "law"), params := pa27.1, body := .stmts bo27.1, scope := sc27.1, globals := 0, closure := [], defaults := PySem.Value.none, kwdefaults := PySem.Value.none, doc := PySem.Value.none, pyModule := PySem.Value.none, annotations := none, code := PySem.Value.none, closureTuple := PySem.Value.none, builtins := 0 }, ([].toArray)⟩
noncomputable def o350v9 (P : PySem.Params) : PySem.Obj := (PySem.Obj.mk (PySem.Value.type "code") none (PySem.Data.fields ([(PySem.Value.str (PySem.Str.ofString "law") 824), (PySem.Value.str (PySem.Str.ofString "law") 825), (PySem.Value.str (PySem.Str.ofString "/claim/cut.py") 826), (PySem.Value.int (234 : Int) 0), (PySem.Value.int (1 : Int) 0), (PySem.Value.int (0 : Int) 0), (PySem.Value.int (0 : Int) 0), (PySem.Value.int (3 : Int) 0), (PySem.Value.ref 347), (PySem.Value.bool Bool.true), (PySem.Value.int (276 : Int) 0), (PySem.Value.ref 348), PySem.Value.none, PySem.Value.none, PySem.Value.none, (PySem.Value.ref 349), (PySem.Value.int (827 : Int) 0), (PySem.Value.int (234 : Int) 0), (PySem.Value.str (PySem.Str.ofString "/claim/cut.py") 828)].toArray)) ([].toArray))
noncomputable def o351v9 (P : PySem.Params) : PySem.Obj := ⟨(PySem.Value.type "function"), none, .func { name := (PySem.Str.ofString "law"), qualname := (PySem.Str.ofString "law"), params := pa27.1, body := .stmts bo27.1, scope := sc27.1, globals := 3, closure := [], defaults := PySem.Value.none, kwdefaults := PySem.Value.none, doc := PySem.Value.none, pyModule := (PySem.Value.str (PySem.Str.ofString "law_sn0066_01") 726), annotations := none, code := (PySem.Value.ref 350), closureTuple := PySem.Value.none, builtins := 0 }, ([].toArray)⟩
noncomputable abbrev n := PySem.W.BT.node
noncomputable abbrev l := PySem.W.BT.nil
noncomputable def H0 (P : PySem.Params) : PySem.Heap := ⟨[o0v0 P, o1v0 P, o2v0 P, o3v0 P, o4v0 P, o5v0 P, o6v0 P, o7v0 P, o8v0 P, o9v0 P, o10v0 P, o11v0 P, o12v0 P, o13v0 P, o14v0 P, o15v0 P, o16v0 P, o17v0 P, o18v0 P, o19v0 P, o20v0 P, o21v0 P, o22v0 P, o23v0 P, o24v0 P, o25v0 P, o26v0 P, o27v0 P].toArray, {}⟩
noncomputable def Ha (P : PySem.Params) : PySem.Heap := ⟨[o0v0 P, o1v0 P, o2v0 P, o3v0 P, o4v0 P, o5v0 P, o6v0 P, o7v0 P, o8v0 P, o9v0 P, o10v0 P, o11v0 P, o12v0 P, o13v0 P, o14v0 P, o15v0 P, o16v0 P, o17v0 P, o18v0 P, o19v0 P, o20v0 P, o21v0 P, o22v0 P, o23v0 P, o24v0 P, o25v0 P, o26v0 P, o27v0 P, o28v1 P, o29v1 P, o30v1 P, o31v1 P].toArray, {}⟩
noncomputable def H1 (P : PySem.Params) : PySem.Heap := ⟨[o0v0 P, o1v0 P, o2v0 P, o3v9 P, o4v0 P, o5v0 P, o6v0 P, o7v0 P, o8v0 P, o9v0 P, o10v0 P, o11v0 P, o12v0 P, o13v0 P, o14v0 P, o15v0 P, o16v0 P, o17v0 P, o18v0 P, o19v0 P, o20v0 P, o21v0 P, o22v0 P, o23v0 P, o24v0 P, o25v0 P, o26v0 P, o27v0 P, o28v1 P, o29v9 P, o30v1 P, o31v1 P, o32v3 P, o33v3 P, o34v3 P, o35v3 P, o36v3 P, o37v3 P, o38v3 P, o39v4 P, o40v4 P, o41v4 P, o42v4 P, o43v4 P, o44v4 P, o45v4 P, o46v4 P, o47v4 P, o48v4 P, o49v4 P, o50v4 P, o51v4 P, o52v4 P, o53v4 P, o54v4 P, o55v4 P, o56v4 P, o57v4 P, o58v4 P, o59v4 P, o60v4 P, o61v4 P, o62v4 P, o63v4 P, o64v4 P, o65v4 P, o66v4 P, o67v4 P, o68v4 P, o69v4 P, o70v4 P, o71v4 P, o72v4 P, o73v4 P, o74v4 P, o75v4 P, o76v4 P, o77v4 P, o78v4 P, o79v4 P, o80v4 P, o81v4 P, o82v4 P, o83v4 P, o84v4 P, o85v4 P, o86v4 P, o87v4 P, o88v4 P, o89v4 P, o90v4 P, o91v4 P, o92v4 P, o93v4 P, o94v4 P, o95v4 P, o96v4 P, o97v4 P, o98v4 P, o99v4 P, o100v4 P, o101v4 P, o102v4 P, o103v4 P, o104v4 P, o105v5 P, o106v5 P, o107v5 P, o108v5 P, o109v5 P, o110v5 P, o111v5 P, o112v6 P, o113v6 P, o114v6 P, o115v6 P, o116v6 P, o117v6 P, o118v6 P, o119v6 P, o120v6 P, o121v6 P, o122v6 P, o123v7 P, o124v7 P, o125v7 P, o126v7 P, o127v7 P, o128v7 P, o129v7 P, o130v7 P, o131v7 P, o132v7 P, o133v7 P, o134v7 P, o135v7 P, o136v7 P, o137v7 P, o138v7 P, o139v7 P, o140v7 P, o141v7 P, o142v7 P, o143v7 P, o144v7 P, o145v7 P, o146v7 P, o147v7 P, o148v7 P, o149v7 P, o150v7 P, o151v7 P, o152v7 P, o153v8 P, o154v8 P, o155v8 P, o156v8 P, o157v8 P, o158v8 P, o159v8 P, o160v8 P, o161v8 P, o162v8 P, o163v8 P, o164v8 P, o165v8 P, o166v8 P, o167v8 P, o168v8 P, o169v8 P, o170v8 P, o171v8 P, o172v8 P, o173v8 P, o174v8 P, o175v8 P, o176v8 P, o177v8 P, o178v8 P, o179v8 P, o180v8 P, o181v8 P, o182v8 P, o183v8 P, o184v8 P, o185v8 P, o186v8 P, o187v8 P, o188v8 P, o189v8 P, o190v8 P, o191v8 P, o192v8 P, o193v8 P, o194v8 P, o195v8 P, o196v8 P, o197v8 P, o198v8 P, o199v8 P, o200v8 P, o201v8 P, o202v8 P, o203v8 P, o204v8 P, o205v8 P, o206v8 P, o207v8 P, o208v8 P, o209v8 P, o210v8 P, o211v8 P, o212v8 P, o213v8 P, o214v8 P, o215v8 P, o216v8 P, o217v8 P, o218v8 P, o219v8 P, o220v8 P, o221v8 P, o222v8 P, o223v8 P, o224v8 P, o225v8 P, o226v8 P, o227v8 P, o228v8 P, o229v8 P, o230v8 P, o231v8 P, o232v8 P, o233v8 P, o234v8 P, o235v8 P, o236v8 P, o237v8 P, o238v8 P, o239v8 P, o240v8 P, o241v8 P, o242v8 P, o243v8 P, o244v8 P, o245v8 P, o246v8 P, o247v8 P, o248v8 P, o249v8 P, o250v8 P, o251v8 P, o252v8 P, o253v8 P, o254v8 P, o255v8 P, o256v8 P, o257v8 P, o258v8 P, o259v8 P, o260v8 P, o261v8 P, o262v8 P, o263v8 P, o264v8 P, o265v8 P, o266v8 P, o267v8 P, o268v8 P, o269v8 P, o270v8 P, o271v8 P, o272v8 P, o273v8 P, o274v8 P, o275v8 P, o276v8 P, o277v8 P, o278v9 P, o279v9 P, o280v9 P, o281v9 P, o282v9 P, o283v9 P, o284v9 P, o285v9 P, o286v9 P, o287v9 P, o288v9 P, o289v9 P, o290v9 P, o291v9 P, o292v9 P, o293v9 P, o294v9 P, o295v9 P, o296v9 P, o297v9 P, o298v9 P, o299v9 P, o300v9 P, o301v9 P, o302v9 P, o303v9 P, o304v9 P, o305v9 P, o306v9 P, o307v9 P, o308v9 P, o309v9 P, o310v9 P, o311v9 P, o312v9 P, o313v9 P, o314v9 P, o315v9 P, o316v9 P, o317v9 P, o318v9 P, o319v9 P, o320v9 P, o321v9 P, o322v9 P, o323v9 P, o324v9 P, o325v9 P, o326v9 P, o327v9 P, o328v9 P, o329v9 P, o330v9 P, o331v9 P, o332v9 P, o333v9 P, o334v9 P, o335v9 P, o336v9 P, o337v9 P, o338v9 P, o339v9 P, o340v9 P, o341v9 P, o342v9 P, o343v9 P, o344v9 P, o345v9 P, o346v9 P, o347v9 P, o348v9 P, o349v9 P, o350v9 P, o351v9 P].toArray, {}⟩
noncomputable def tr0 (P : PySem.Params) : PySem.W.BT := (n (o0v0 P) (n (o1v0 P) (n (o3v0 P) (n (o7v0 P) (n (o15v0 P) (n (o31v1 P) l l) l) (n (o23v0 P) l l)) (n (o11v0 P) (n (o19v0 P) l l) (n (o27v0 P) l l))) (n (o5v0 P) (n (o9v0 P) (n (o17v0 P) l l) (n (o25v0 P) l l)) (n (o13v0 P) (n (o21v0 P) l l) (n (o29v1 P) l l)))) (n (o2v0 P) (n (o4v0 P) (n (o8v0 P) (n (o16v0 P) l l) (n (o24v0 P) l l)) (n (o12v0 P) (n (o20v0 P) l l) (n (o28v1 P) l l))) (n (o6v0 P) (n (o10v0 P) (n (o18v0 P) l l) (n (o26v0 P) l l)) (n (o14v0 P) (n (o22v0 P) l l) (n (o30v1 P) l l)))))
noncomputable def tr1 (P : PySem.Params) : PySem.W.BT := (n (o0v0 P) (n (o1v0 P) (n (o3v3 P) (n (o7v0 P) (n (o15v0 P) (n (o31v1 P) l l) l) (n (o23v0 P) l l)) (n (o11v0 P) (n (o19v0 P) (n (o35v3 P) l l) l) (n (o27v0 P) l l))) (n (o5v0 P) (n (o9v0 P) (n (o17v0 P) (n (o33v3 P) l l) l) (n (o25v0 P) l l)) (n (o13v0 P) (n (o21v0 P) (n (o37v3 P) l l) l) (n (o29v3 P) l l)))) (n (o2v0 P) (n (o4v0 P) (n (o8v0 P) (n (o16v0 P) (n (o32v3 P) l l) l) (n (o24v0 P) l l)) (n (o12v0 P) (n (o20v0 P) (n (o36v3 P) l l) l) (n (o28v1 P) l l))) (n (o6v0 P) (n (o10v0 P) (n (o18v0 P) (n (o34v3 P) l l) l) (n (o26v0 P) l l)) (n (o14v0 P) (n (o22v0 P) (n (o38v3 P) l l) l) (n (o30v1 P) l l)))))
noncomputable def tr2 (P : PySem.Params) : PySem.W.BT := (n (o0v0 P) (n (o1v0 P) (n (o3v4 P) (n (o7v0 P) (n (o15v0 P) (n (o31v1 P) (n (o63v4 P) l l) (n (o95v4 P) l l)) (n (o47v4 P) (n (o79v4 P) l l) l)) (n (o23v0 P) (n (o39v4 P) (n (o71v4 P) l l) (n (o103v4 P) l l)) (n (o55v4 P) (n (o87v4 P) l l) l))) (n (o11v0 P) (n (o19v0 P) (n (o35v3 P) (n (o67v4 P) l l) (n (o99v4 P) l l)) (n (o51v4 P) (n (o83v4 P) l l) l)) (n (o27v0 P) (n (o43v4 P) (n (o75v4 P) l l) l) (n (o59v4 P) (n (o91v4 P) l l) l)))) (n (o5v0 P) (n (o9v0 P) (n (o17v0 P) (n (o33v3 P) (n (o65v4 P) l l) (n (o97v4 P) l l)) (n (o49v4 P) (n (o81v4 P) l l) l)) (n (o25v0 P) (n (o41v4 P) (n (o73v4 P) l l) l) (n (o57v4 P) (n (o89v4 P) l l) l))) (n (o13v0 P) (n (o21v0 P) (n (o37v3 P) (n (o69v4 P) l l) (n (o101v4 P) l l)) (n (o53v4 P) (n (o85v4 P) l l) l)) (n (o29v4 P) (n (o45v4 P) (n (o77v4 P) l l) l) (n (o61v4 P) (n (o93v4 P) l l) l))))) (n (o2v0 P) (n (o4v0 P) (n (o8v0 P) (n (o16v0 P) (n (o32v3 P) (n (o64v4 P) l l) (n (o96v4 P) l l)) (n (o48v4 P) (n (o80v4 P) l l) l)) (n (o24v0 P) (n (o40v4 P) (n (o72v4 P) l l) (n (o104v4 P) l l)) (n (o56v4 P) (n (o88v4 P) l l) l))) (n (o12v0 P) (n (o20v0 P) (n (o36v3 P) (n (o68v4 P) l l) (n (o100v4 P) l l)) (n (o52v4 P) (n (o84v4 P) l l) l)) (n (o28v1 P) (n (o44v4 P) (n (o76v4 P) l l) l) (n (o60v4 P) (n (o92v4 P) l l) l)))) (n (o6v0 P) (n (o10v0 P) (n (o18v0 P) (n (o34v3 P) (n (o66v4 P) l l) (n (o98v4 P) l l)) (n (o50v4 P) (n (o82v4 P) l l) l)) (n (o26v0 P) (n (o42v4 P) (n (o74v4 P) l l) l) (n (o58v4 P) (n (o90v4 P) l l) l))) (n (o14v0 P) (n (o22v0 P) (n (o38v3 P) (n (o70v4 P) l l) (n (o102v4 P) l l)) (n (o54v4 P) (n (o86v4 P) l l) l)) (n (o30v1 P) (n (o46v4 P) (n (o78v4 P) l l) l) (n (o62v4 P) (n (o94v4 P) l l) l))))))
noncomputable def tr3 (P : PySem.Params) : PySem.W.BT := (n (o0v0 P) (n (o1v0 P) (n (o3v5 P) (n (o7v0 P) (n (o15v0 P) (n (o31v1 P) (n (o63v4 P) l l) (n (o95v4 P) l l)) (n (o47v4 P) (n (o79v4 P) l l) (n (o111v5 P) l l))) (n (o23v0 P) (n (o39v4 P) (n (o71v4 P) l l) (n (o103v4 P) l l)) (n (o55v4 P) (n (o87v4 P) l l) l))) (n (o11v0 P) (n (o19v0 P) (n (o35v3 P) (n (o67v4 P) l l) (n (o99v4 P) l l)) (n (o51v4 P) (n (o83v4 P) l l) l)) (n (o27v0 P) (n (o43v4 P) (n (o75v4 P) l l) (n (o107v5 P) l l)) (n (o59v4 P) (n (o91v4 P) l l) l)))) (n (o5v0 P) (n (o9v0 P) (n (o17v0 P) (n (o33v3 P) (n (o65v4 P) l l) (n (o97v4 P) l l)) (n (o49v4 P) (n (o81v4 P) l l) l)) (n (o25v0 P) (n (o41v4 P) (n (o73v4 P) l l) (n (o105v5 P) l l)) (n (o57v4 P) (n (o89v4 P) l l) l))) (n (o13v0 P) (n (o21v0 P) (n (o37v3 P) (n (o69v4 P) l l) (n (o101v4 P) l l)) (n (o53v4 P) (n (o85v4 P) l l) l)) (n (o29v5 P) (n (o45v4 P) (n (o77v4 P) l l) (n (o109v5 P) l l)) (n (o61v4 P) (n (o93v4 P) l l) l))))) (n (o2v0 P) (n (o4v0 P) (n (o8v0 P) (n (o16v0 P) (n (o32v3 P) (n (o64v4 P) l l) (n (o96v4 P) l l)) (n (o48v4 P) (n (o80v4 P) l l) l)) (n (o24v0 P) (n (o40v4 P) (n (o72v4 P) l l) (n (o104v4 P) l l)) (n (o56v4 P) (n (o88v4 P) l l) l))) (n (o12v0 P) (n (o20v0 P) (n (o36v3 P) (n (o68v4 P) l l) (n (o100v4 P) l l)) (n (o52v4 P) (n (o84v4 P) l l) l)) (n (o28v1 P) (n (o44v4 P) (n (o76v4 P) l l) (n (o108v5 P) l l)) (n (o60v4 P) (n (o92v4 P) l l) l)))) (n (o6v0 P) (n (o10v0 P) (n (o18v0 P) (n (o34v3 P) (n (o66v4 P) l l) (n (o98v4 P) l l)) (n (o50v4 P) (n (o82v4 P) l l) l)) (n (o26v0 P) (n (o42v4 P) (n (o74v4 P) l l) (n (o106v5 P) l l)) (n (o58v4 P) (n (o90v4 P) l l) l))) (n (o14v0 P) (n (o22v0 P) (n (o38v3 P) (n (o70v4 P) l l) (n (o102v4 P) l l)) (n (o54v4 P) (n (o86v4 P) l l) l)) (n (o30v1 P) (n (o46v4 P) (n (o78v4 P) l l) (n (o110v5 P) l l)) (n (o62v4 P) (n (o94v4 P) l l) l))))))
noncomputable def tr4 (P : PySem.Params) : PySem.W.BT := (n (o0v0 P) (n (o1v0 P) (n (o3v6 P) (n (o7v0 P) (n (o15v0 P) (n (o31v1 P) (n (o63v4 P) l l) (n (o95v4 P) l l)) (n (o47v4 P) (n (o79v4 P) l l) (n (o111v5 P) l l))) (n (o23v0 P) (n (o39v4 P) (n (o71v4 P) l l) (n (o103v4 P) l l)) (n (o55v4 P) (n (o87v4 P) l l) (n (o119v6 P) l l)))) (n (o11v0 P) (n (o19v0 P) (n (o35v3 P) (n (o67v4 P) l l) (n (o99v4 P) l l)) (n (o51v4 P) (n (o83v4 P) l l) (n (o115v6 P) l l))) (n (o27v0 P) (n (o43v4 P) (n (o75v4 P) l l) (n (o107v5 P) l l)) (n (o59v4 P) (n (o91v4 P) l l) l)))) (n (o5v0 P) (n (o9v0 P) (n (o17v0 P) (n (o33v3 P) (n (o65v4 P) l l) (n (o97v4 P) l l)) (n (o49v4 P) (n (o81v4 P) l l) (n (o113v6 P) l l))) (n (o25v0 P) (n (o41v4 P) (n (o73v4 P) l l) (n (o105v5 P) l l)) (n (o57v4 P) (n (o89v4 P) l l) (n (o121v6 P) l l)))) (n (o13v0 P) (n (o21v0 P) (n (o37v3 P) (n (o69v4 P) l l) (n (o101v4 P) l l)) (n (o53v4 P) (n (o85v4 P) l l) (n (o117v6 P) l l))) (n (o29v5 P) (n (o45v4 P) (n (o77v4 P) l l) (n (o109v5 P) l l)) (n (o61v4 P) (n (o93v4 P) l l) l))))) (n (o2v0 P) (n (o4v0 P) (n (o8v0 P) (n (o16v0 P) (n (o32v3 P) (n (o64v4 P) l l) (n (o96v4 P) l l)) (n (o48v4 P) (n (o80v4 P) l l) (n (o112v6 P) l l))) (n (o24v0 P) (n (o40v4 P) (n (o72v4 P) l l) (n (o104v4 P) l l)) (n (o56v4 P) (n (o88v4 P) l l) (n (o120v6 P) l l)))) (n (o12v0 P) (n (o20v0 P) (n (o36v3 P) (n (o68v4 P) l l) (n (o100v4 P) l l)) (n (o52v4 P) (n (o84v4 P) l l) (n (o116v6 P) l l))) (n (o28v1 P) (n (o44v4 P) (n (o76v4 P) l l) (n (o108v5 P) l l)) (n (o60v4 P) (n (o92v4 P) l l) l)))) (n (o6v0 P) (n (o10v0 P) (n (o18v0 P) (n (o34v3 P) (n (o66v4 P) l l) (n (o98v4 P) l l)) (n (o50v4 P) (n (o82v4 P) l l) (n (o114v6 P) l l))) (n (o26v0 P) (n (o42v4 P) (n (o74v4 P) l l) (n (o106v5 P) l l)) (n (o58v4 P) (n (o90v4 P) l l) (n (o122v6 P) l l)))) (n (o14v0 P) (n (o22v0 P) (n (o38v3 P) (n (o70v4 P) l l) (n (o102v4 P) l l)) (n (o54v4 P) (n (o86v4 P) l l) (n (o118v6 P) l l))) (n (o30v1 P) (n (o46v4 P) (n (o78v4 P) l l) (n (o110v5 P) l l)) (n (o62v4 P) (n (o94v4 P) l l) l))))))
noncomputable def tr5 (P : PySem.Params) : PySem.W.BT := (n (o0v0 P) (n (o1v0 P) (n (o3v7 P) (n (o7v0 P) (n (o15v0 P) (n (o31v1 P) (n (o63v4 P) (n (o127v7 P) l l) l) (n (o95v4 P) l l)) (n (o47v4 P) (n (o79v4 P) (n (o143v7 P) l l) l) (n (o111v5 P) l l))) (n (o23v0 P) (n (o39v4 P) (n (o71v4 P) (n (o135v7 P) l l) l) (n (o103v4 P) l l)) (n (o55v4 P) (n (o87v4 P) (n (o151v7 P) l l) l) (n (o119v6 P) l l)))) (n (o11v0 P) (n (o19v0 P) (n (o35v3 P) (n (o67v4 P) (n (o131v7 P) l l) l) (n (o99v4 P) l l)) (n (o51v4 P) (n (o83v4 P) (n (o147v7 P) l l) l) (n (o115v6 P) l l))) (n (o27v0 P) (n (o43v4 P) (n (o75v4 P) (n (o139v7 P) l l) l) (n (o107v5 P) l l)) (n (o59v4 P) (n (o91v4 P) l l) (n (o123v7 P) l l))))) (n (o5v0 P) (n (o9v0 P) (n (o17v0 P) (n (o33v3 P) (n (o65v4 P) (n (o129v7 P) l l) l) (n (o97v4 P) l l)) (n (o49v4 P) (n (o81v4 P) (n (o145v7 P) l l) l) (n (o113v6 P) l l))) (n (o25v0 P) (n (o41v4 P) (n (o73v4 P) (n (o137v7 P) l l) l) (n (o105v5 P) l l)) (n (o57v4 P) (n (o89v4 P) l l) (n (o121v6 P) l l)))) (n (o13v0 P) (n (o21v0 P) (n (o37v3 P) (n (o69v4 P) (n (o133v7 P) l l) l) (n (o101v4 P) l l)) (n (o53v4 P) (n (o85v4 P) (n (o149v7 P) l l) l) (n (o117v6 P) l l))) (n (o29v7 P) (n (o45v4 P) (n (o77v4 P) (n (o141v7 P) l l) l) (n (o109v5 P) l l)) (n (o61v4 P) (n (o93v4 P) l l) (n (o125v7 P) l l)))))) (n (o2v0 P) (n (o4v0 P) (n (o8v0 P) (n (o16v0 P) (n (o32v3 P) (n (o64v4 P) (n (o128v7 P) l l) l) (n (o96v4 P) l l)) (n (o48v4 P) (n (o80v4 P) (n (o144v7 P) l l) l) (n (o112v6 P) l l))) (n (o24v0 P) (n (o40v4 P) (n (o72v4 P) (n (o136v7 P) l l) l) (n (o104v4 P) l l)) (n (o56v4 P) (n (o88v4 P) (n (o152v7 P) l l) l) (n (o120v6 P) l l)))) (n (o12v0 P) (n (o20v0 P) (n (o36v3 P) (n (o68v4 P) (n (o132v7 P) l l) l) (n (o100v4 P) l l)) (n (o52v4 P) (n (o84v4 P) (n (o148v7 P) l l) l) (n (o116v6 P) l l))) (n (o28v1 P) (n (o44v4 P) (n (o76v4 P) (n (o140v7 P) l l) l) (n (o108v5 P) l l)) (n (o60v4 P) (n (o92v4 P) l l) (n (o124v7 P) l l))))) (n (o6v0 P) (n (o10v0 P) (n (o18v0 P) (n (o34v3 P) (n (o66v4 P) (n (o130v7 P) l l) l) (n (o98v4 P) l l)) (n (o50v4 P) (n (o82v4 P) (n (o146v7 P) l l) l) (n (o114v6 P) l l))) (n (o26v0 P) (n (o42v4 P) (n (o74v4 P) (n (o138v7 P) l l) l) (n (o106v5 P) l l)) (n (o58v4 P) (n (o90v4 P) l l) (n (o122v6 P) l l)))) (n (o14v0 P) (n (o22v0 P) (n (o38v3 P) (n (o70v4 P) (n (o134v7 P) l l) l) (n (o102v4 P) l l)) (n (o54v4 P) (n (o86v4 P) (n (o150v7 P) l l) l) (n (o118v6 P) l l))) (n (o30v1 P) (n (o46v4 P) (n (o78v4 P) (n (o142v7 P) l l) l) (n (o110v5 P) l l)) (n (o62v4 P) (n (o94v4 P) l l) (n (o126v7 P) l l)))))))
noncomputable def tr6 (P : PySem.Params) : PySem.W.BT := (n (o0v0 P) (n (o1v0 P) (n (o3v8 P) (n (o7v0 P) (n (o15v0 P) (n (o31v1 P) (n (o63v4 P) (n (o127v7 P) (n (o255v8 P) l l) l) (n (o191v8 P) l l)) (n (o95v4 P) (n (o159v8 P) l l) (n (o223v8 P) l l))) (n (o47v4 P) (n (o79v4 P) (n (o143v7 P) (n (o271v8 P) l l) l) (n (o207v8 P) l l)) (n (o111v5 P) (n (o175v8 P) l l) (n (o239v8 P) l l)))) (n (o23v0 P) (n (o39v4 P) (n (o71v4 P) (n (o135v7 P) (n (o263v8 P) l l) l) (n (o199v8 P) l l)) (n (o103v4 P) (n (o167v8 P) l l) (n (o231v8 P) l l))) (n (o55v4 P) (n (o87v4 P) (n (o151v7 P) l l) (n (o215v8 P) l l)) (n (o119v6 P) (n (o183v8 P) l l) (n (o247v8 P) l l))))) (n (o11v0 P) (n (o19v0 P) (n (o35v3 P) (n (o67v4 P) (n (o131v7 P) (n (o259v8 P) l l) l) (n (o195v8 P) l l)) (n (o99v4 P) (n (o163v8 P) l l) (n (o227v8 P) l l))) (n (o51v4 P) (n (o83v4 P) (n (o147v7 P) (n (o275v8 P) l l) l) (n (o211v8 P) l l)) (n (o115v6 P) (n (o179v8 P) l l) (n (o243v8 P) l l)))) (n (o27v0 P) (n (o43v4 P) (n (o75v4 P) (n (o139v7 P) (n (o267v8 P) l l) l) (n (o203v8 P) l l)) (n (o107v5 P) (n (o171v8 P) l l) (n (o235v8 P) l l))) (n (o59v4 P) (n (o91v4 P) (n (o155v8 P) l l) (n (o219v8 P) l l)) (n (o123v7 P) (n (o187v8 P) l l) (n (o251v8 P) l l)))))) (n (o5v0 P) (n (o9v0 P) (n (o17v0 P) (n (o33v3 P) (n (o65v4 P) (n (o129v7 P) (n (o257v8 P) l l) l) (n (o193v8 P) l l)) (n (o97v4 P) (n (o161v8 P) l l) (n (o225v8 P) l l))) (n (o49v4 P) (n (o81v4 P) (n (o145v7 P) (n (o273v8 P) l l) l) (n (o209v8 P) l l)) (n (o113v6 P) (n (o177v8 P) l l) (n (o241v8 P) l l)))) (n (o25v0 P) (n (o41v4 P) (n (o73v4 P) (n (o137v7 P) (n (o265v8 P) l l) l) (n (o201v8 P) l l)) (n (o105v5 P) (n (o169v8 P) l l) (n (o233v8 P) l l))) (n (o57v4 P) (n (o89v4 P) (n (o153v8 P) l l) (n (o217v8 P) l l)) (n (o121v6 P) (n (o185v8 P) l l) (n (o249v8 P) l l))))) (n (o13v0 P) (n (o21v0 P) (n (o37v3 P) (n (o69v4 P) (n (o133v7 P) (n (o261v8 P) l l) l) (n (o197v8 P) l l)) (n (o101v4 P) (n (o165v8 P) l l) (n (o229v8 P) l l))) (n (o53v4 P) (n (o85v4 P) (n (o149v7 P) (n (o277v8 P) l l) l) (n (o213v8 P) l l)) (n (o117v6 P) (n (o181v8 P) l l) (n (o245v8 P) l l)))) (n (o29v8 P) (n (o45v4 P) (n (o77v4 P) (n (o141v7 P) (n (o269v8 P) l l) l) (n (o205v8 P) l l)) (n (o109v5 P) (n (o173v8 P) l l) (n (o237v8 P) l l))) (n (o61v4 P) (n (o93v4 P) (n (o157v8 P) l l) (n (o221v8 P) l l)) (n (o125v7 P) (n (o189v8 P) l l) (n (o253v8 P) l l))))))) (n (o2v0 P) (n (o4v0 P) (n (o8v0 P) (n (o16v0 P) (n (o32v3 P) (n (o64v4 P) (n (o128v7 P) (n (o256v8 P) l l) l) (n (o192v8 P) l l)) (n (o96v4 P) (n (o160v8 P) l l) (n (o224v8 P) l l))) (n (o48v4 P) (n (o80v4 P) (n (o144v7 P) (n (o272v8 P) l l) l) (n (o208v8 P) l l)) (n (o112v6 P) (n (o176v8 P) l l) (n (o240v8 P) l l)))) (n (o24v0 P) (n (o40v4 P) (n (o72v4 P) (n (o136v7 P) (n (o264v8 P) l l) l) (n (o200v8 P) l l)) (n (o104v4 P) (n (o168v8 P) l l) (n (o232v8 P) l l))) (n (o56v4 P) (n (o88v4 P) (n (o152v7 P) l l) (n (o216v8 P) l l)) (n (o120v6 P) (n (o184v8 P) l l) (n (o248v8 P) l l))))) (n (o12v0 P) (n (o20v0 P) (n (o36v3 P) (n (o68v4 P) (n (o132v7 P) (n (o260v8 P) l l) l) (n (o196v8 P) l l)) (n (o100v4 P) (n (o164v8 P) l l) (n (o228v8 P) l l))) (n (o52v4 P) (n (o84v4 P) (n (o148v7 P) (n (o276v8 P) l l) l) (n (o212v8 P) l l)) (n (o116v6 P) (n (o180v8 P) l l) (n (o244v8 P) l l)))) (n (o28v1 P) (n (o44v4 P) (n (o76v4 P) (n (o140v7 P) (n (o268v8 P) l l) l) (n (o204v8 P) l l)) (n (o108v5 P) (n (o172v8 P) l l) (n (o236v8 P) l l))) (n (o60v4 P) (n (o92v4 P) (n (o156v8 P) l l) (n (o220v8 P) l l)) (n (o124v7 P) (n (o188v8 P) l l) (n (o252v8 P) l l)))))) (n (o6v0 P) (n (o10v0 P) (n (o18v0 P) (n (o34v3 P) (n (o66v4 P) (n (o130v7 P) (n (o258v8 P) l l) l) (n (o194v8 P) l l)) (n (o98v4 P) (n (o162v8 P) l l) (n (o226v8 P) l l))) (n (o50v4 P) (n (o82v4 P) (n (o146v7 P) (n (o274v8 P) l l) l) (n (o210v8 P) l l)) (n (o114v6 P) (n (o178v8 P) l l) (n (o242v8 P) l l)))) (n (o26v0 P) (n (o42v4 P) (n (o74v4 P) (n (o138v7 P) (n (o266v8 P) l l) l) (n (o202v8 P) l l)) (n (o106v5 P) (n (o170v8 P) l l) (n (o234v8 P) l l))) (n (o58v4 P) (n (o90v4 P) (n (o154v8 P) l l) (n (o218v8 P) l l)) (n (o122v6 P) (n (o186v8 P) l l) (n (o250v8 P) l l))))) (n (o14v0 P) (n (o22v0 P) (n (o38v3 P) (n (o70v4 P) (n (o134v7 P) (n (o262v8 P) l l) l) (n (o198v8 P) l l)) (n (o102v4 P) (n (o166v8 P) l l) (n (o230v8 P) l l))) (n (o54v4 P) (n (o86v4 P) (n (o150v7 P) l l) (n (o214v8 P) l l)) (n (o118v6 P) (n (o182v8 P) l l) (n (o246v8 P) l l)))) (n (o30v1 P) (n (o46v4 P) (n (o78v4 P) (n (o142v7 P) (n (o270v8 P) l l) l) (n (o206v8 P) l l)) (n (o110v5 P) (n (o174v8 P) l l) (n (o238v8 P) l l))) (n (o62v4 P) (n (o94v4 P) (n (o158v8 P) l l) (n (o222v8 P) l l)) (n (o126v7 P) (n (o190v8 P) l l) (n (o254v8 P) l l))))))))
noncomputable def tr7 (P : PySem.Params) : PySem.W.BT := (n (o0v0 P) (n (o1v0 P) (n (o3v9 P) (n (o7v0 P) (n (o15v0 P) (n (o31v1 P) (n (o63v4 P) (n (o127v7 P) (n (o255v8 P) l l) l) (n (o191v8 P) (n (o319v9 P) l l) l)) (n (o95v4 P) (n (o159v8 P) (n (o287v9 P) l l) l) (n (o223v8 P) (n (o351v9 P) l l) l))) (n (o47v4 P) (n (o79v4 P) (n (o143v7 P) (n (o271v8 P) l l) l) (n (o207v8 P) (n (o335v9 P) l l) l)) (n (o111v5 P) (n (o175v8 P) (n (o303v9 P) l l) l) (n (o239v8 P) l l)))) (n (o23v0 P) (n (o39v4 P) (n (o71v4 P) (n (o135v7 P) (n (o263v8 P) l l) l) (n (o199v8 P) (n (o327v9 P) l l) l)) (n (o103v4 P) (n (o167v8 P) (n (o295v9 P) l l) l) (n (o231v8 P) l l))) (n (o55v4 P) (n (o87v4 P) (n (o151v7 P) (n (o279v9 P) l l) l) (n (o215v8 P) (n (o343v9 P) l l) l)) (n (o119v6 P) (n (o183v8 P) (n (o311v9 P) l l) l) (n (o247v8 P) l l))))) (n (o11v0 P) (n (o19v0 P) (n (o35v3 P) (n (o67v4 P) (n (o131v7 P) (n (o259v8 P) l l) l) (n (o195v8 P) (n (o323v9 P) l l) l)) (n (o99v4 P) (n (o163v8 P) (n (o291v9 P) l l) l) (n (o227v8 P) l l))) (n (o51v4 P) (n (o83v4 P) (n (o147v7 P) (n (o275v8 P) l l) l) (n (o211v8 P) (n (o339v9 P) l l) l)) (n (o115v6 P) (n (o179v8 P) (n (o307v9 P) l l) l) (n (o243v8 P) l l)))) (n (o27v0 P) (n (o43v4 P) (n (o75v4 P) (n (o139v7 P) (n (o267v8 P) l l) l) (n (o203v8 P) (n (o331v9 P) l l) l)) (n (o107v5 P) (n (o171v8 P) (n (o299v9 P) l l) l) (n (o235v8 P) l l))) (n (o59v4 P) (n (o91v4 P) (n (o155v8 P) (n (o283v9 P) l l) l) (n (o219v8 P) (n (o347v9 P) l l) l)) (n (o123v7 P) (n (o187v8 P) (n (o315v9 P) l l) l) (n (o251v8 P) l l)))))) (n (o5v0 P) (n (o9v0 P) (n (o17v0 P) (n (o33v3 P) (n (o65v4 P) (n (o129v7 P) (n (o257v8 P) l l) l) (n (o193v8 P) (n (o321v9 P) l l) l)) (n (o97v4 P) (n (o161v8 P) (n (o289v9 P) l l) l) (n (o225v8 P) l l))) (n (o49v4 P) (n (o81v4 P) (n (o145v7 P) (n (o273v8 P) l l) l) (n (o209v8 P) (n (o337v9 P) l l) l)) (n (o113v6 P) (n (o177v8 P) (n (o305v9 P) l l) l) (n (o241v8 P) l l)))) (n (o25v0 P) (n (o41v4 P) (n (o73v4 P) (n (o137v7 P) (n (o265v8 P) l l) l) (n (o201v8 P) (n (o329v9 P) l l) l)) (n (o105v5 P) (n (o169v8 P) (n (o297v9 P) l l) l) (n (o233v8 P) l l))) (n (o57v4 P) (n (o89v4 P) (n (o153v8 P) (n (o281v9 P) l l) l) (n (o217v8 P) (n (o345v9 P) l l) l)) (n (o121v6 P) (n (o185v8 P) (n (o313v9 P) l l) l) (n (o249v8 P) l l))))) (n (o13v0 P) (n (o21v0 P) (n (o37v3 P) (n (o69v4 P) (n (o133v7 P) (n (o261v8 P) l l) l) (n (o197v8 P) (n (o325v9 P) l l) l)) (n (o101v4 P) (n (o165v8 P) (n (o293v9 P) l l) l) (n (o229v8 P) l l))) (n (o53v4 P) (n (o85v4 P) (n (o149v7 P) (n (o277v8 P) l l) l) (n (o213v8 P) (n (o341v9 P) l l) l)) (n (o117v6 P) (n (o181v8 P) (n (o309v9 P) l l) l) (n (o245v8 P) l l)))) (n (o29v9 P) (n (o45v4 P) (n (o77v4 P) (n (o141v7 P) (n (o269v8 P) l l) l) (n (o205v8 P) (n (o333v9 P) l l) l)) (n (o109v5 P) (n (o173v8 P) (n (o301v9 P) l l) l) (n (o237v8 P) l l))) (n (o61v4 P) (n (o93v4 P) (n (o157v8 P) (n (o285v9 P) l l) l) (n (o221v8 P) (n (o349v9 P) l l) l)) (n (o125v7 P) (n (o189v8 P) (n (o317v9 P) l l) l) (n (o253v8 P) l l))))))) (n (o2v0 P) (n (o4v0 P) (n (o8v0 P) (n (o16v0 P) (n (o32v3 P) (n (o64v4 P) (n (o128v7 P) (n (o256v8 P) l l) l) (n (o192v8 P) (n (o320v9 P) l l) l)) (n (o96v4 P) (n (o160v8 P) (n (o288v9 P) l l) l) (n (o224v8 P) l l))) (n (o48v4 P) (n (o80v4 P) (n (o144v7 P) (n (o272v8 P) l l) l) (n (o208v8 P) (n (o336v9 P) l l) l)) (n (o112v6 P) (n (o176v8 P) (n (o304v9 P) l l) l) (n (o240v8 P) l l)))) (n (o24v0 P) (n (o40v4 P) (n (o72v4 P) (n (o136v7 P) (n (o264v8 P) l l) l) (n (o200v8 P) (n (o328v9 P) l l) l)) (n (o104v4 P) (n (o168v8 P) (n (o296v9 P) l l) l) (n (o232v8 P) l l))) (n (o56v4 P) (n (o88v4 P) (n (o152v7 P) (n (o280v9 P) l l) l) (n (o216v8 P) (n (o344v9 P) l l) l)) (n (o120v6 P) (n (o184v8 P) (n (o312v9 P) l l) l) (n (o248v8 P) l l))))) (n (o12v0 P) (n (o20v0 P) (n (o36v3 P) (n (o68v4 P) (n (o132v7 P) (n (o260v8 P) l l) l) (n (o196v8 P) (n (o324v9 P) l l) l)) (n (o100v4 P) (n (o164v8 P) (n (o292v9 P) l l) l) (n (o228v8 P) l l))) (n (o52v4 P) (n (o84v4 P) (n (o148v7 P) (n (o276v8 P) l l) l) (n (o212v8 P) (n (o340v9 P) l l) l)) (n (o116v6 P) (n (o180v8 P) (n (o308v9 P) l l) l) (n (o244v8 P) l l)))) (n (o28v1 P) (n (o44v4 P) (n (o76v4 P) (n (o140v7 P) (n (o268v8 P) l l) l) (n (o204v8 P) (n (o332v9 P) l l) l)) (n (o108v5 P) (n (o172v8 P) (n (o300v9 P) l l) l) (n (o236v8 P) l l))) (n (o60v4 P) (n (o92v4 P) (n (o156v8 P) (n (o284v9 P) l l) l) (n (o220v8 P) (n (o348v9 P) l l) l)) (n (o124v7 P) (n (o188v8 P) (n (o316v9 P) l l) l) (n (o252v8 P) l l)))))) (n (o6v0 P) (n (o10v0 P) (n (o18v0 P) (n (o34v3 P) (n (o66v4 P) (n (o130v7 P) (n (o258v8 P) l l) l) (n (o194v8 P) (n (o322v9 P) l l) l)) (n (o98v4 P) (n (o162v8 P) (n (o290v9 P) l l) l) (n (o226v8 P) l l))) (n (o50v4 P) (n (o82v4 P) (n (o146v7 P) (n (o274v8 P) l l) l) (n (o210v8 P) (n (o338v9 P) l l) l)) (n (o114v6 P) (n (o178v8 P) (n (o306v9 P) l l) l) (n (o242v8 P) l l)))) (n (o26v0 P) (n (o42v4 P) (n (o74v4 P) (n (o138v7 P) (n (o266v8 P) l l) l) (n (o202v8 P) (n (o330v9 P) l l) l)) (n (o106v5 P) (n (o170v8 P) (n (o298v9 P) l l) l) (n (o234v8 P) l l))) (n (o58v4 P) (n (o90v4 P) (n (o154v8 P) (n (o282v9 P) l l) l) (n (o218v8 P) (n (o346v9 P) l l) l)) (n (o122v6 P) (n (o186v8 P) (n (o314v9 P) l l) l) (n (o250v8 P) l l))))) (n (o14v0 P) (n (o22v0 P) (n (o38v3 P) (n (o70v4 P) (n (o134v7 P) (n (o262v8 P) l l) l) (n (o198v8 P) (n (o326v9 P) l l) l)) (n (o102v4 P) (n (o166v8 P) (n (o294v9 P) l l) l) (n (o230v8 P) l l))) (n (o54v4 P) (n (o86v4 P) (n (o150v7 P) (n (o278v9 P) l l) l) (n (o214v8 P) (n (o342v9 P) l l) l)) (n (o118v6 P) (n (o182v8 P) (n (o310v9 P) l l) l) (n (o246v8 P) l l)))) (n (o30v1 P) (n (o46v4 P) (n (o78v4 P) (n (o142v7 P) (n (o270v8 P) l l) l) (n (o206v8 P) (n (o334v9 P) l l) l)) (n (o110v5 P) (n (o174v8 P) (n (o302v9 P) l l) l) (n (o238v8 P) l l))) (n (o62v4 P) (n (o94v4 P) (n (o158v8 P) (n (o286v9 P) l l) l) (n (o222v8 P) (n (o350v9 P) l l) l)) (n (o126v7 P) (n (o190v8 P) (n (o318v9 P) l l) l) (n (o254v8 P) l l))))))))
noncomputable abbrev m0 : Nat := 28
noncomputable abbrev ann : Option PySem.Value := (some (PySem.Value.ref 6))
noncomputable def benv : PySem.Env := { scope := pw.main.scope, locals := mainNs, globals := mainNs, cells := [], code := (PySem.Value.ref 30), frame := some 31 }
noncomputable def cE : PySem.Code := .body (behindTheImports pw) benv
noncomputable abbrev fpos : PySem.Pos := ⟨0, 0, 0, 0⟩
theorem c_pre (w : World) : (fun os => topGo treeTable pw w m0 ann 12 ⟨H0 w.params, #[], ⟨0, 0, 0, 0⟩, 276, os⟩ (topStub pw)) = fun os => some (⟨Ha w.params, #[], ⟨0, 0, 0, 0⟩, 282, os⟩, ⟨denote treeTable cE, cE, ⟨0, 0, 0, 0⟩, [topFrame fpos]⟩) := by
  rw [PySem.W.Fast.te15667345088766844465, PySem.W.Fast.te11892475500146522536, PySem.W.Fast.te14364793385576792824]; kernel_rfl
theorem c_block (w : World) : (fun os => segRun treeTable pw w m0 ann 1 1 ⟨Ha w.params, #[], ⟨0, 0, 0, 0⟩, 282, os⟩ (blockOf (behindTheImports pw) benv cE ⟨0, 0, 0, 0⟩ [topFrame fpos])) = fun os => some (Flow.next, (⟨tr0 w.params, 32, {}, #[], ⟨0, 0, 0, 0⟩, 282, os⟩ : SharedT).abs, cE, ⟨0, 0, 0, 0⟩) := by
  rw [PySem.W.Fast.te14374325043358763698, PySem.W.Fast.te14364793385576792824]; kernel_rfl
noncomputable def st0 : List PySem.Stmt := ((behindTheImports pw).drop 0).take 2
theorem c_0 (w : World) : (fun os => segRunT treeTable pw w m0 ann 1 39 (⟨tr0 w.params, 32, {}, #[], ⟨0, 0, 0, 0⟩, 282, os⟩ : SharedT) (piecesOf st0 benv cE ⟨0, 0, 0, 0⟩ [topFrame fpos])) = fun os => some (Flow.next, (⟨tr1 w.params, 39, {}, #[], ⟨0, 0, 0, 0⟩, 291, os⟩ : SharedT), cE, ⟨5, 0, 5, 8⟩) := by
  rw [PySem.W.Fast.te10110043849684766642, PySem.W.Fast.te14364793385576792824]; kernel_rfl
noncomputable def st1 : List PySem.Stmt := ((behindTheImports pw).drop 2).take 1
theorem c_1f (w : World) : (fun os => segRunT treeTable pw (w.withFollow "special-get-raises" false) m0 ann 1 485 (⟨tr1 (w.withFollow "special-get-raises" false).params, 39, {}, #[], ⟨0, 0, 0, 0⟩, 291, os⟩ : SharedT) (piecesOf st1 benv cE ⟨5, 0, 5, 8⟩ [topFrame fpos])) = fun os => some (Flow.next, (⟨tr2 (w.withFollow "special-get-raises" false).params, 105, {}, #[], ⟨0, 0, 0, 0⟩, 383, os⟩ : SharedT), cE, ⟨6, 0, 48, 16⟩) := by
  rw [PySem.W.Fast.te10110043849684766642, PySem.W.Fast.te14364793385576792824]; kernel_rfl
theorem c_1t (w : World) : (fun os => segRunT treeTable pw (w.withFollow "special-get-raises" true) m0 ann 1 485 (⟨tr1 (w.withFollow "special-get-raises" true).params, 39, {}, #[], ⟨0, 0, 0, 0⟩, 291, os⟩ : SharedT) (piecesOf st1 benv cE ⟨5, 0, 5, 8⟩ [topFrame fpos])) = fun os => some (Flow.next, (⟨tr2 (w.withFollow "special-get-raises" true).params, 105, {}, #[], ⟨0, 0, 0, 0⟩, 383, os⟩ : SharedT), cE, ⟨6, 0, 48, 16⟩) := by
  rw [PySem.W.Fast.te10110043849684766642, PySem.W.Fast.te14364793385576792824]; kernel_rfl
theorem c_1 (w : World) : (fun os => segRunT treeTable pw w m0 ann 1 485 (⟨tr1 w.params, 39, {}, #[], ⟨0, 0, 0, 0⟩, 291, os⟩ : SharedT) (piecesOf st1 benv cE ⟨5, 0, 5, 8⟩ [topFrame fpos])) = fun os => some (Flow.next, (⟨tr2 w.params, 105, {}, #[], ⟨0, 0, 0, 0⟩, 383, os⟩ : SharedT), cE, ⟨6, 0, 48, 16⟩) := (byRow2 "special-get-raises" (P := fun w => (fun os => segRunT treeTable pw w m0 ann 1 485 (⟨tr1 w.params, 39, {}, #[], ⟨0, 0, 0, 0⟩, 291, os⟩ : SharedT) (piecesOf st1 benv cE ⟨5, 0, 5, 8⟩ [topFrame fpos])) = fun os => some (Flow.next, (⟨tr2 w.params, 105, {}, #[], ⟨0, 0, 0, 0⟩, 383, os⟩ : SharedT), cE, ⟨6, 0, 48, 16⟩)) (fun w => c_1f w) (fun w => c_1t w)) w
noncomputable def st2 : List PySem.Stmt := ((behindTheImports pw).drop 3).take 3
theorem c_2 (w : World) : (fun os => segRunT treeTable pw w m0 ann 1 50 (⟨tr2 w.params, 105, {}, #[], ⟨0, 0, 0, 0⟩, 383, os⟩ : SharedT) (piecesOf st2 benv cE ⟨6, 0, 48, 16⟩ [topFrame fpos])) = fun os => some (Flow.next, (⟨tr3 w.params, 112, {}, #[], ⟨0, 0, 0, 0⟩, 396, os⟩ : SharedT), cE, ⟨58, 0, 58, 8⟩) := by
  rw [PySem.W.Fast.te10110043849684766642, PySem.W.Fast.te14364793385576792824]; kernel_rfl
noncomputable def st3 : List PySem.Stmt := ((behindTheImports pw).drop 6).take 1
theorem c_3ff (w : World) : (fun os => segRunT treeTable pw ((w.withFollow "special-get-raises" false).withFollow "set-order" false) m0 ann 1 999 (⟨tr3 ((w.withFollow "special-get-raises" false).withFollow "set-order" false).params, 112, {}, #[], ⟨0, 0, 0, 0⟩, 396, os⟩ : SharedT) (piecesOf st3 benv cE ⟨58, 0, 58, 8⟩ [topFrame fpos])) = fun os => some (Flow.next, (⟨tr4 ((w.withFollow "special-get-raises" false).withFollow "set-order" false).params, 123, {}, #[], ⟨0, 0, 0, 0⟩, 456, os⟩ : SharedT), cE, ⟨59, 0, 59, 6⟩) := by
  rw [PySem.W.Fast.te10110043849684766642, PySem.W.Fast.te14364793385576792824]; kernel_rfl
theorem c_3ft (w : World) : (fun os => segRunT treeTable pw ((w.withFollow "special-get-raises" false).withFollow "set-order" true) m0 ann 1 999 (⟨tr3 ((w.withFollow "special-get-raises" false).withFollow "set-order" true).params, 112, {}, #[], ⟨0, 0, 0, 0⟩, 396, os⟩ : SharedT) (piecesOf st3 benv cE ⟨58, 0, 58, 8⟩ [topFrame fpos])) = fun os => some (Flow.next, (⟨tr4 ((w.withFollow "special-get-raises" false).withFollow "set-order" true).params, 123, {}, #[], ⟨0, 0, 0, 0⟩, 456, os⟩ : SharedT), cE, ⟨59, 0, 59, 6⟩) := by
  rw [PySem.W.Fast.te10110043849684766642, PySem.W.Fast.te14364793385576792824]; kernel_rfl
theorem c_3tf (w : World) : (fun os => segRunT treeTable pw ((w.withFollow "special-get-raises" true).withFollow "set-order" false) m0 ann 1 999 (⟨tr3 ((w.withFollow "special-get-raises" true).withFollow "set-order" false).params, 112, {}, #[], ⟨0, 0, 0, 0⟩, 396, os⟩ : SharedT) (piecesOf st3 benv cE ⟨58, 0, 58, 8⟩ [topFrame fpos])) = fun os => some (Flow.next, (⟨tr4 ((w.withFollow "special-get-raises" true).withFollow "set-order" false).params, 123, {}, #[], ⟨0, 0, 0, 0⟩, 456, os⟩ : SharedT), cE, ⟨59, 0, 59, 6⟩) := by
  rw [PySem.W.Fast.te10110043849684766642, PySem.W.Fast.te14364793385576792824]; kernel_rfl
theorem c_3tt (w : World) : (fun os => segRunT treeTable pw ((w.withFollow "special-get-raises" true).withFollow "set-order" true) m0 ann 1 999 (⟨tr3 ((w.withFollow "special-get-raises" true).withFollow "set-order" true).params, 112, {}, #[], ⟨0, 0, 0, 0⟩, 396, os⟩ : SharedT) (piecesOf st3 benv cE ⟨58, 0, 58, 8⟩ [topFrame fpos])) = fun os => some (Flow.next, (⟨tr4 ((w.withFollow "special-get-raises" true).withFollow "set-order" true).params, 123, {}, #[], ⟨0, 0, 0, 0⟩, 456, os⟩ : SharedT), cE, ⟨59, 0, 59, 6⟩) := by
  rw [PySem.W.Fast.te10110043849684766642, PySem.W.Fast.te14364793385576792824]; kernel_rfl
theorem c_3 (w : World) : (fun os => segRunT treeTable pw w m0 ann 1 999 (⟨tr3 w.params, 112, {}, #[], ⟨0, 0, 0, 0⟩, 396, os⟩ : SharedT) (piecesOf st3 benv cE ⟨58, 0, 58, 8⟩ [topFrame fpos])) = fun os => some (Flow.next, (⟨tr4 w.params, 123, {}, #[], ⟨0, 0, 0, 0⟩, 456, os⟩ : SharedT), cE, ⟨59, 0, 59, 6⟩) := (byRow2 "set-order" (P := fun w => (fun os => segRunT treeTable pw w m0 ann 1 999 (⟨tr3 w.params, 112, {}, #[], ⟨0, 0, 0, 0⟩, 396, os⟩ : SharedT) (piecesOf st3 benv cE ⟨58, 0, 58, 8⟩ [topFrame fpos])) = fun os => some (Flow.next, (⟨tr4 w.params, 123, {}, #[], ⟨0, 0, 0, 0⟩, 456, os⟩ : SharedT), cE, ⟨59, 0, 59, 6⟩)) (byRow2 "special-get-raises" (P := fun w => (fun os => segRunT treeTable pw (w.withFollow "set-order" false) m0 ann 1 999 (⟨tr3 (w.withFollow "set-order" false).params, 112, {}, #[], ⟨0, 0, 0, 0⟩, 396, os⟩ : SharedT) (piecesOf st3 benv cE ⟨58, 0, 58, 8⟩ [topFrame fpos])) = fun os => some (Flow.next, (⟨tr4 (w.withFollow "set-order" false).params, 123, {}, #[], ⟨0, 0, 0, 0⟩, 456, os⟩ : SharedT), cE, ⟨59, 0, 59, 6⟩)) (fun w => c_3ff w) (fun w => c_3tf w)) (byRow2 "special-get-raises" (P := fun w => (fun os => segRunT treeTable pw (w.withFollow "set-order" true) m0 ann 1 999 (⟨tr3 (w.withFollow "set-order" true).params, 112, {}, #[], ⟨0, 0, 0, 0⟩, 396, os⟩ : SharedT) (piecesOf st3 benv cE ⟨58, 0, 58, 8⟩ [topFrame fpos])) = fun os => some (Flow.next, (⟨tr4 (w.withFollow "set-order" true).params, 123, {}, #[], ⟨0, 0, 0, 0⟩, 456, os⟩ : SharedT), cE, ⟨59, 0, 59, 6⟩)) (fun w => c_3ft w) (fun w => c_3tt w))) w
noncomputable def st4 : List PySem.Stmt := ((behindTheImports pw).drop 7).take 6
theorem c_4 (w : World) : (fun os => segRunT treeTable pw w m0 ann 1 295 (⟨tr4 w.params, 123, {}, #[], ⟨0, 0, 0, 0⟩, 456, os⟩ : SharedT) (piecesOf st4 benv cE ⟨59, 0, 59, 6⟩ [topFrame fpos])) = fun os => some (Flow.next, (⟨tr5 w.params, 153, {}, #[], ⟨0, 0, 0, 0⟩, 569, os⟩ : SharedT), cE, ⟨66, 0, 74, 20⟩) := by
  rw [PySem.W.Fast.te10110043849684766642, PySem.W.Fast.te14364793385576792824]; kernel_rfl
noncomputable def st5 : List PySem.Stmt := ((behindTheImports pw).drop 13).take 1
theorem c_5 (w : World) : (fun os => segRunT treeTable pw w m0 ann 1 727 (⟨tr5 w.params, 153, {}, #[], ⟨0, 0, 0, 0⟩, 569, os⟩ : SharedT) (piecesOf st5 benv cE ⟨66, 0, 74, 20⟩ [topFrame fpos])) = fun os => some (Flow.next, (⟨tr6 w.params, 278, {}, #[], ⟨0, 0, 0, 0⟩, 726, os⟩ : SharedT), cE, ⟨75, 0, 156, 93⟩) := by
  rw [PySem.W.Fast.te10110043849684766642, PySem.W.Fast.te14364793385576792824]; kernel_rfl
noncomputable def st6 : List PySem.Stmt := ((behindTheImports pw).drop 14).take 13
theorem c_6 (w : World) : (fun os => segRunT treeTable pw w m0 ann 1 366 (⟨tr6 w.params, 278, {}, #[], ⟨0, 0, 0, 0⟩, 726, os⟩ : SharedT) (piecesOf st6 benv cE ⟨75, 0, 156, 93⟩ [topFrame fpos])) = fun os => some (Flow.next, (⟨tr7 w.params, 352, {}, #[], ⟨0, 0, 0, 0⟩, 830, os⟩ : SharedT), cE, ⟨234, 0, 271, 15⟩) := by
  rw [PySem.W.Fast.te10110043849684766642, PySem.W.Fast.te14364793385576792824]; kernel_rfl
theorem c_fin (w : World) : (fun os => topRun treeTable pw w m0 ann 2 (⟨tr7 w.params, 352, {}, #[], ⟨0, 0, 0, 0⟩, 830, os⟩ : SharedT).abs ⟨doneF .next, cE, ⟨234, 0, 271, 15⟩, [topFrame fpos]⟩) = fun os => some ⟨H1 w.params, #[], ⟨0, 0, 0, 0⟩, 830, os⟩ := by
  rw [PySem.W.Fast.te14082659384304107361, PySem.W.Fast.te14364793385576792824]; kernel_rfl
noncomputable abbrev MM : Nat := 12 + (1 + (39 + (485 + (50 + (999 + (295 + (727 + (366 + 2))))))))
theorem body_eq : behindTheImports pw = st0 ++ (st1 ++ (st2 ++ (st3 ++ (st4 ++ (st5 ++ (st6 ++ [])))))) := by kernel_rfl
theorem c_run (w : World) (os : OsState) : topRun treeTable pw w m0 ann MM ⟨H0 w.params, #[], ⟨0, 0, 0, 0⟩, 276, os⟩ (topStub pw) = some ⟨H1 w.params, #[], ⟨0, 0, 0, 0⟩, 830, os⟩ := by
  refine go_top (congrFun (c_pre w) os) ?_
  refine piece_block (congrFun (c_block w) os) ?_
  rw [body_eq]
  refine piece_app (segRun_of (congrFun (c_0 w) os)) ?_
  refine piece_app (segRun_of (congrFun (c_1 w) os)) ?_
  refine piece_app (segRun_of (congrFun (c_2 w) os)) ?_
  refine piece_app (segRun_of (congrFun (c_3 w) os)) ?_
  refine piece_app (segRun_of (congrFun (c_4 w) os)) ?_
  refine piece_app (segRun_of (congrFun (c_5 w) os)) ?_
  refine piece_app (segRun_of (congrFun (c_6 w) os)) ?_
  exact piece_nil (congrFun (c_fin w) os)
noncomputable abbrev NN : Nat := 6034
noncomputable abbrev keepL : List Nat := [0, 1, 3, 5, 7, 8, 10, 11, 12, 14, 16, 17, 18, 19, 20, 21, 22, 23, 24, 25, 26, 27]
noncomputable abbrev looseL : List PySem.Str := [(PySem.Str.ofString "Whitespace"), (PySem.Str.ofString "b1_set"), (PySem.Str.ofString "tspecials"), (PySem.Str.ofString "_name_disallowed_re"), (PySem.Str.ofString "_value_disallowed_re"), (PySem.Str.ofString "_formatparam")]
theorem c_open (w : World) : (fencedOpening treeTable pw w NN).map (fun s => (s.heap, s.gens, s.drawn, s.toks)) = some (H0 w.params, (#[] : Array GenState), (⟨0, 0, 0, 0⟩ : Drawn), (276 : Nat)) := by kernel_rfl
theorem c_size (w : World) : ((H0 w.params).isNs mainGlobals && (#[] : Array GenState).size == 0, (H0 w.params).objs.size, (H0 w.params).nsMap mainGlobals "__annotations__") = (true, m0, ann) := by kernel_rfl
noncomputable def kx (P : PySem.Params) : Frag := ((nat_lit 2), o2v0 P) :: ((nat_lit 3), o3v9 P) :: ((nat_lit 32), o32v3 P) :: ((nat_lit 34), o34v3 P) :: ((nat_lit 35), o35v3 P) :: ((nat_lit 37), o37v3 P) :: ((nat_lit 38), o38v3 P) :: ((nat_lit 49), o49v4 P) :: ((nat_lit 51), o51v4 P) :: ((nat_lit 52), o52v4 P) :: ((nat_lit 54), o54v4 P) :: ((nat_lit 55), o55v4 P) :: ((nat_lit 56), o56v4 P) :: ((nat_lit 58), o58v4 P) :: ((nat_lit 59), o59v4 P) :: ((nat_lit 61), o61v4 P) :: ((nat_lit 62), o62v4 P) :: ((nat_lit 63), o63v4 P) :: ((nat_lit 65), o65v4 P) :: ((nat_lit 66), o66v4 P) :: ((nat_lit 68), o68v4 P) :: ((nat_lit 69), o69v4 P) :: ((nat_lit 70), o70v4 P) :: ((nat_lit 72), o72v4 P) :: ((nat_lit 73), o73v4 P) :: ((nat_lit 75), o75v4 P) :: ((nat_lit 76), o76v4 P) :: ((nat_lit 77), o77v4 P) :: ((nat_lit 79), o79v4 P) :: ((nat_lit 80), o80v4 P) :: ((nat_lit 82), o82v4 P) :: ((nat_lit 83), o83v4 P) :: ((nat_lit 84), o84v4 P) :: ((nat_lit 86), o86v4 P) :: ((nat_lit 87), o87v4 P) :: ((nat_lit 89), o89v4 P) :: ((nat_lit 90), o90v4 P) :: ((nat_lit 91), o91v4 P) :: ((nat_lit 93), o93v4 P) :: ((nat_lit 94), o94v4 P) :: ((nat_lit 96), o96v4 P) :: ((nat_lit 97), o97v4 P) :: ((nat_lit 98), o98v4 P) :: ((nat_lit 99), o99v4 P) :: ((nat_lit 100), o100v4 P) :: ((nat_lit 101), o101v4 P) :: ((nat_lit 102), o102v4 P) :: ((nat_lit 105), o105v5 P) :: ((nat_lit 107), o107v5 P) :: ((nat_lit 108), o108v5 P) :: ((nat_lit 110), o110v5 P) :: ((nat_lit 111), o111v5 P) :: ((nat_lit 119), o119v6 P) :: ((nat_lit 123), o123v7 P) :: ((nat_lit 125), o125v7 P) :: ((nat_lit 126), o126v7 P) :: ((nat_lit 128), o128v7 P) :: ((nat_lit 129), o129v7 P) :: ((nat_lit 133), o133v7 P) :: ((nat_lit 134), o134v7 P) :: ((nat_lit 138), o138v7 P) :: ((nat_lit 139), o139v7 P) :: ((nat_lit 143), o143v7 P) :: ((nat_lit 144), o144v7 P) :: ((nat_lit 145), o145v7 P) :: ((nat_lit 146), o146v7 P) :: ((nat_lit 148), o148v7 P) :: ((nat_lit 149), o149v7 P) :: ((nat_lit 151), o151v7 P) :: ((nat_lit 152), o152v7 P) :: ((nat_lit 160), o160v8 P) :: ((nat_lit 161), o161v8 P) :: ((nat_lit 163), o163v8 P) :: ((nat_lit 164), o164v8 P) :: ((nat_lit 166), o166v8 P) :: ((nat_lit 167), o167v8 P) :: ((nat_lit 168), o168v8 P) :: ((nat_lit 170), o170v8 P) :: ((nat_lit 171), o171v8 P) :: ((nat_lit 173), o173v8 P) :: ((nat_lit 174), o174v8 P) :: ((nat_lit 175), o175v8 P) :: ((nat_lit 177), o177v8 P) :: ((nat_lit 178), o178v8 P) :: ((nat_lit 180), o180v8 P) :: ((nat_lit 181), o181v8 P) :: ((nat_lit 182), o182v8 P) :: ((nat_lit 184), o184v8 P) :: ((nat_lit 185), o185v8 P) :: ((nat_lit 187), o187v8 P) :: ((nat_lit 188), o188v8 P) :: ((nat_lit 189), o189v8 P) :: ((nat_lit 192), o192v8 P) :: ((nat_lit 193), o193v8 P) :: ((nat_lit 194), o194v8 P) :: ((nat_lit 196), o196v8 P) :: ((nat_lit 197), o197v8 P) :: ((nat_lit 199), o199v8 P) :: ((nat_lit 200), o200v8 P) :: ((nat_lit 201), o201v8 P) :: ((nat_lit 203), o203v8 P) :: ((nat_lit 204), o204v8 P) :: ((nat_lit 206), o206v8 P) :: ((nat_lit 207), o207v8 P) :: ((nat_lit 208), o208v8 P) :: ((nat_lit 211), o211v8 P) :: ((nat_lit 212), o212v8 P) :: ((nat_lit 213), o213v8 P) :: ((nat_lit 214), o214v8 P) :: ((nat_lit 216), o216v8 P) :: ((nat_lit 217), o217v8 P) :: ((nat_lit 219), o219v8 P) :: ((nat_lit 220), o220v8 P) :: ((nat_lit 221), o221v8 P) :: ((nat_lit 224), o224v8 P) :: ((nat_lit 225), o225v8 P) :: ((nat_lit 226), o226v8 P) :: ((nat_lit 229), o229v8 P) :: ((nat_lit 230), o230v8 P) :: ((nat_lit 231), o231v8 P) :: ((nat_lit 233), o233v8 P) :: ((nat_lit 234), o234v8 P) :: ((nat_lit 236), o236v8 P) :: ((nat_lit 237), o237v8 P) :: ((nat_lit 238), o238v8 P) :: ((nat_lit 240), o240v8 P) :: ((nat_lit 241), o241v8 P) :: ((nat_lit 243), o243v8 P) :: ((nat_lit 244), o244v8 P) :: ((nat_lit 245), o245v8 P) :: ((nat_lit 248), o248v8 P) :: ((nat_lit 249), o249v8 P) :: ((nat_lit 250), o250v8 P) :: ((nat_lit 252), o252v8 P) :: ((nat_lit 253), o253v8 P) :: ((nat_lit 255), o255v8 P) :: ((nat_lit 256), o256v8 P) :: ((nat_lit 257), o257v8 P) :: ((nat_lit 259), o259v8 P) :: ((nat_lit 260), o260v8 P) :: ((nat_lit 262), o262v8 P) :: ((nat_lit 263), o263v8 P) :: ((nat_lit 264), o264v8 P) :: ((nat_lit 266), o266v8 P) :: ((nat_lit 267), o267v8 P) :: ((nat_lit 269), o269v8 P) :: ((nat_lit 270), o270v8 P) :: ((nat_lit 271), o271v8 P) :: ((nat_lit 272), o272v8 P) :: ((nat_lit 273), o273v8 P) :: ((nat_lit 274), o274v8 P) :: ((nat_lit 275), o275v8 P) :: ((nat_lit 278), o278v9 P) :: ((nat_lit 280), o280v9 P) :: ((nat_lit 281), o281v9 P) :: ((nat_lit 283), o283v9 P) :: ((nat_lit 284), o284v9 P) :: ((nat_lit 285), o285v9 P) :: ((nat_lit 287), o287v9 P) :: ((nat_lit 288), o288v9 P) :: ((nat_lit 290), o290v9 P) :: ((nat_lit 291), o291v9 P) :: ((nat_lit 292), o292v9 P) :: ((nat_lit 294), o294v9 P) :: ((nat_lit 295), o295v9 P) :: ((nat_lit 297), o297v9 P) :: ((nat_lit 298), o298v9 P) :: ((nat_lit 299), o299v9 P) :: ((nat_lit 301), o301v9 P) :: ((nat_lit 302), o302v9 P) :: ((nat_lit 304), o304v9 P) :: ((nat_lit 305), o305v9 P) :: ((nat_lit 306), o306v9 P) :: ((nat_lit 309), o309v9 P) :: ((nat_lit 310), o310v9 P) :: ((nat_lit 311), o311v9 P) :: ((nat_lit 313), o313v9 P) :: ((nat_lit 314), o314v9 P) :: ((nat_lit 316), o316v9 P) :: ((nat_lit 317), o317v9 P) :: ((nat_lit 318), o318v9 P) :: ((nat_lit 321), o321v9 P) :: ((nat_lit 322), o322v9 P) :: ((nat_lit 323), o323v9 P) :: ((nat_lit 325), o325v9 P) :: ((nat_lit 326), o326v9 P) :: ((nat_lit 328), o328v9 P) :: ((nat_lit 329), o329v9 P) :: ((nat_lit 330), o330v9 P) :: ((nat_lit 332), o332v9 P) :: ((nat_lit 333), o333v9 P) :: ((nat_lit 335), o335v9 P) :: ((nat_lit 336), o336v9 P) :: ((nat_lit 337), o337v9 P) :: ((nat_lit 340), o340v9 P) :: ((nat_lit 341), o341v9 P) :: ((nat_lit 342), o342v9 P) :: ((nat_lit 345), o345v9 P) :: ((nat_lit 346), o346v9 P) :: ((nat_lit 347), o347v9 P) :: ((nat_lit 350), o350v9 P) :: ((nat_lit 351), o351v9 P) :: []
noncomputable abbrev kas : List Addr := (nat_lit 2) :: (nat_lit 3) :: (nat_lit 32) :: (nat_lit 34) :: (nat_lit 35) :: (nat_lit 37) :: (nat_lit 38) :: (nat_lit 49) :: (nat_lit 51) :: (nat_lit 52) :: (nat_lit 54) :: (nat_lit 55) :: (nat_lit 56) :: (nat_lit 58) :: (nat_lit 59) :: (nat_lit 61) :: (nat_lit 62) :: (nat_lit 63) :: (nat_lit 65) :: (nat_lit 66) :: (nat_lit 68) :: (nat_lit 69) :: (nat_lit 70) :: (nat_lit 72) :: (nat_lit 73) :: (nat_lit 75) :: (nat_lit 76) :: (nat_lit 77) :: (nat_lit 79) :: (nat_lit 80) :: (nat_lit 82) :: (nat_lit 83) :: (nat_lit 84) :: (nat_lit 86) :: (nat_lit 87) :: (nat_lit 89) :: (nat_lit 90) :: (nat_lit 91) :: (nat_lit 93) :: (nat_lit 94) :: (nat_lit 96) :: (nat_lit 97) :: (nat_lit 98) :: (nat_lit 99) :: (nat_lit 100) :: (nat_lit 101) :: (nat_lit 102) :: (nat_lit 105) :: (nat_lit 107) :: (nat_lit 108) :: (nat_lit 110) :: (nat_lit 111) :: (nat_lit 119) :: (nat_lit 123) :: (nat_lit 125) :: (nat_lit 126) :: (nat_lit 128) :: (nat_lit 129) :: (nat_lit 133) :: (nat_lit 134) :: (nat_lit 138) :: (nat_lit 139) :: (nat_lit 143) :: (nat_lit 144) :: (nat_lit 145) :: (nat_lit 146) :: (nat_lit 148) :: (nat_lit 149) :: (nat_lit 151) :: (nat_lit 152) :: (nat_lit 160) :: (nat_lit 161) :: (nat_lit 163) :: (nat_lit 164) :: (nat_lit 166) :: (nat_lit 167) :: (nat_lit 168) :: (nat_lit 170) :: (nat_lit 171) :: (nat_lit 173) :: (nat_lit 174) :: (nat_lit 175) :: (nat_lit 177) :: (nat_lit 178) :: (nat_lit 180) :: (nat_lit 181) :: (nat_lit 182) :: (nat_lit 184) :: (nat_lit 185) :: (nat_lit 187) :: (nat_lit 188) :: (nat_lit 189) :: (nat_lit 192) :: (nat_lit 193) :: (nat_lit 194) :: (nat_lit 196) :: (nat_lit 197) :: (nat_lit 199) :: (nat_lit 200) :: (nat_lit 201) :: (nat_lit 203) :: (nat_lit 204) :: (nat_lit 206) :: (nat_lit 207) :: (nat_lit 208) :: (nat_lit 211) :: (nat_lit 212) :: (nat_lit 213) :: (nat_lit 214) :: (nat_lit 216) :: (nat_lit 217) :: (nat_lit 219) :: (nat_lit 220) :: (nat_lit 221) :: (nat_lit 224) :: (nat_lit 225) :: (nat_lit 226) :: (nat_lit 229) :: (nat_lit 230) :: (nat_lit 231) :: (nat_lit 233) :: (nat_lit 234) :: (nat_lit 236) :: (nat_lit 237) :: (nat_lit 238) :: (nat_lit 240) :: (nat_lit 241) :: (nat_lit 243) :: (nat_lit 244) :: (nat_lit 245) :: (nat_lit 248) :: (nat_lit 249) :: (nat_lit 250) :: (nat_lit 252) :: (nat_lit 253) :: (nat_lit 255) :: (nat_lit 256) :: (nat_lit 257) :: (nat_lit 259) :: (nat_lit 260) :: (nat_lit 262) :: (nat_lit 263) :: (nat_lit 264) :: (nat_lit 266) :: (nat_lit 267) :: (nat_lit 269) :: (nat_lit 270) :: (nat_lit 271) :: (nat_lit 272) :: (nat_lit 273) :: (nat_lit 274) :: (nat_lit 275) :: (nat_lit 278) :: (nat_lit 280) :: (nat_lit 281) :: (nat_lit 283) :: (nat_lit 284) :: (nat_lit 285) :: (nat_lit 287) :: (nat_lit 288) :: (nat_lit 290) :: (nat_lit 291) :: (nat_lit 292) :: (nat_lit 294) :: (nat_lit 295) :: (nat_lit 297) :: (nat_lit 298) :: (nat_lit 299) :: (nat_lit 301) :: (nat_lit 302) :: (nat_lit 304) :: (nat_lit 305) :: (nat_lit 306) :: (nat_lit 309) :: (nat_lit 310) :: (nat_lit 311) :: (nat_lit 313) :: (nat_lit 314) :: (nat_lit 316) :: (nat_lit 317) :: (nat_lit 318) :: (nat_lit 321) :: (nat_lit 322) :: (nat_lit 323) :: (nat_lit 325) :: (nat_lit 326) :: (nat_lit 328) :: (nat_lit 329) :: (nat_lit 330) :: (nat_lit 332) :: (nat_lit 333) :: (nat_lit 335) :: (nat_lit 336) :: (nat_lit 337) :: (nat_lit 340) :: (nat_lit 341) :: (nat_lit 342) :: (nat_lit 345) :: (nat_lit 346) :: (nat_lit 347) :: (nat_lit 350) :: (nat_lit 351) :: []
theorem kpf : ∀ P, kas = (kx P).map (·.1) := fun P => by kernel_rfl
noncomputable abbrev HK : Hook := kHook kx kas kpf
noncomputable def qv : PySem.Program := PySem.W.view pw keepL
noncomputable abbrev Xt : Shared → Bool := fun s => xlAt qv [] s && recOk (PySem.Challenge.rw_sn0066_01.row.toRowW.records) s
theorem c_l1 (w : World) : (fun os : OsState => (staticsOk (importedModules pw.main.body) (H0 w.params) (H1 w.params) && namesBound pw (H1 w.params) && gensDone ⟨H1 w.params, #[], ⟨0, 0, 0, 0⟩, 830, os⟩ && laidKept (H0 w.params) (H1 w.params))) = fun _ => true := by kernel_rfl
theorem c_l2 (w : World) : (fun os : OsState => openSeen qv looseL (importedModules pw.main.body) Xt true ⟨H1 w.params, #[], ⟨0, 0, 0, 0⟩, 830, os⟩) = fun _ => openGood qv looseL := by
  rw [PySem.W.Fast.te4187177175401517315]; kernel_rfl
theorem c_l3 (w : World) : (fun os : OsState => Hook.obs HK ⟨H1 w.params, #[], ⟨0, 0, 0, 0⟩, 830, os⟩) = fun _ => Hook.val HK w := by kernel_rfl
theorem left : LeftO pw qv looseL Xt (Hook.obs HK) (Hook.val HK) NN :=
  LeftO.of_pieces (H₀ := H0) (H₁ := H1) c_open c_size c_run (by kernel_rfl) fun w => funext fun os => looks_pair (congrFun (c_l1 w) os) (looks_pair (congrFun (c_l2 w) os) (congrFun (c_l3 w) os))
end Mine
end
section
open PySem PySem.W PyProof.Rows
namespace Mine
theorem ex2 {α β : Type} {p : α → β → Prop} {P : Prop} (h : ∃ a0 a1, p a0 a1) (k : ∀ a0 a1, p a0 a1 → P) : P := by
  obtain ⟨a0, a1, h⟩ := h
  exact k a0 a1 h
theorem ex3 {α β γ : Type} {p : α → β → γ → Prop} {P : Prop} (h : ∃ a0 a1 a2, p a0 a1 a2) (k : ∀ a0 a1 a2, p a0 a1 a2 → P) : P := by
  obtain ⟨a0, a1, a2, h⟩ := h
  exact k a0 a1 a2 h
theorem ex4 {α β γ δ : Type} {p : α → β → γ → δ → Prop} {P : Prop} (h : ∃ a0 a1 a2 a3, p a0 a1 a2 a3) (k : ∀ a0 a1 a2 a3, p a0 a1 a2 a3 → P) : P := by
  obtain ⟨a0, a1, a2, a3, h⟩ := h
  exact k a0 a1 a2 a3 h
theorem ex5 {α β γ δ ε : Type} {p : α → β → γ → δ → ε → Prop} {P : Prop} (h : ∃ a0 a1 a2 a3 a4, p a0 a1 a2 a3 a4) (k : ∀ a0 a1 a2 a3 a4, p a0 a1 a2 a3 a4 → P) : P := by
  obtain ⟨a0, a1, a2, a3, a4, h⟩ := h
  exact k a0 a1 a2 a3 a4 h
theorem ex6 {α β γ δ ε ζ : Type} {p : α → β → γ → δ → ε → ζ → Prop} {P : Prop} (h : ∃ a0 a1 a2 a3 a4 a5, p a0 a1 a2 a3 a4 a5) (k : ∀ a0 a1 a2 a3 a4 a5, p a0 a1 a2 a3 a4 a5 → P) : P := by
  obtain ⟨a0, a1, a2, a3, a4, a5, h⟩ := h
  exact k a0 a1 a2 a3 a4 a5 h
theorem ex8 {α β γ δ ε ζ η θ : Type} {p : α → β → γ → δ → ε → ζ → η → θ → Prop} {P : Prop} (h : ∃ a0 a1 a2 a3 a4 a5 a6 a7, p a0 a1 a2 a3 a4 a5 a6 a7) (k : ∀ a0 a1 a2 a3 a4 a5 a6 a7, p a0 a1 a2 a3 a4 a5 a6 a7 → P) : P := by
  obtain ⟨a0, a1, a2, a3, a4, a5, a6, a7, h⟩ := h
  exact k a0 a1 a2 a3 a4 a5 a6 a7 h
theorem ex9 {α β γ δ ε ζ η θ ι : Type} {p : α → β → γ → δ → ε → ζ → η → θ → ι → Prop} {P : Prop} (h : ∃ a0 a1 a2 a3 a4 a5 a6 a7 a8, p a0 a1 a2 a3 a4 a5 a6 a7 a8) (k : ∀ a0 a1 a2 a3 a4 a5 a6 a7 a8, p a0 a1 a2 a3 a4 a5 a6 a7 a8 → P) : P := by
  obtain ⟨a0, a1, a2, a3, a4, a5, a6, a7, a8, h⟩ := h
  exact k a0 a1 a2 a3 a4 a5 a6 a7 a8 h
theorem ex1 {α : Type} {p : α → Prop} {P : Prop} (h : ∃ a, p a) (k : ∀ a, p a → P) : P := by
  obtain ⟨a, h⟩ := h
  exact k a h
theorem an2 {b0 b1 P : Prop} (h : b0 ∧ b1) (k : b0 → b1 → P) : P := by
  obtain ⟨h0, h1⟩ := h
  exact k h0 h1
theorem an3 {b0 b1 b2 P : Prop} (h : b0 ∧ b1 ∧ b2) (k : b0 → b1 → b2 → P) : P := by
  obtain ⟨h0, h1, h2⟩ := h
  exact k h0 h1 h2
theorem an4 {b0 b1 b2 b3 P : Prop} (h : b0 ∧ b1 ∧ b2 ∧ b3) (k : b0 → b1 → b2 → b3 → P) : P := by
  obtain ⟨h0, h1, h2, h3⟩ := h
  exact k h0 h1 h2 h3
theorem an5 {b0 b1 b2 b3 b4 P : Prop} (h : b0 ∧ b1 ∧ b2 ∧ b3 ∧ b4) (k : b0 → b1 → b2 → b3 → b4 → P) : P := by
  obtain ⟨h0, h1, h2, h3, h4⟩ := h
  exact k h0 h1 h2 h3 h4
theorem an6 {b0 b1 b2 b3 b4 b5 P : Prop} (h : b0 ∧ b1 ∧ b2 ∧ b3 ∧ b4 ∧ b5) (k : b0 → b1 → b2 → b3 → b4 → b5 → P) : P := by
  obtain ⟨h0, h1, h2, h3, h4, h5⟩ := h
  exact k h0 h1 h2 h3 h4 h5
theorem an7 {b0 b1 b2 b3 b4 b5 b6 P : Prop} (h : b0 ∧ b1 ∧ b2 ∧ b3 ∧ b4 ∧ b5 ∧ b6) (k : b0 → b1 → b2 → b3 → b4 → b5 → b6 → P) : P := by
  obtain ⟨h0, h1, h2, h3, h4, h5, h6⟩ := h
  exact k h0 h1 h2 h3 h4 h5 h6
theorem an8 {b0 b1 b2 b3 b4 b5 b6 b7 P : Prop} (h : b0 ∧ b1 ∧ b2 ∧ b3 ∧ b4 ∧ b5 ∧ b6 ∧ b7) (k : b0 → b1 → b2 → b3 → b4 → b5 → b6 → b7 → P) : P := by
  obtain ⟨h0, h1, h2, h3, h4, h5, h6, h7⟩ := h
  exact k h0 h1 h2 h3 h4 h5 h6 h7
theorem an9 {b0 b1 b2 b3 b4 b5 b6 b7 b8 P : Prop} (h : b0 ∧ b1 ∧ b2 ∧ b3 ∧ b4 ∧ b5 ∧ b6 ∧ b7 ∧ b8) (k : b0 → b1 → b2 → b3 → b4 → b5 → b6 → b7 → b8 → P) : P := by
  obtain ⟨h0, h1, h2, h3, h4, h5, h6, h7, h8⟩ := h
  exact k h0 h1 h2 h3 h4 h5 h6 h7 h8
theorem sub_at {a : Addr × Obj} {A B : List (Addr × Obj)} (i : Nat) (h : B[i]? = some a) (k : ∀ q ∈ A, q ∈ B) : ∀ q ∈ a :: A, q ∈ B := fun q hq => by
  rcases List.mem_cons.mp hq with rfl | hq
  · exact List.mem_of_getElem? h
  · exact k q hq
theorem sub_end {A B : List (Addr × Obj)} (n : Nat) (h : ∀ q ∈ A, q ∈ B.drop n) : ∀ q ∈ A, q ∈ B := fun q hq => List.mem_of_mem_drop (h q hq)
theorem sub_app {A B C : List (Addr × Obj)} (h : ∀ q ∈ A, q ∈ C) (k : ∀ q ∈ B, q ∈ C) : ∀ q ∈ A ++ B, q ∈ C := fun q hq => (List.mem_append.mp hq).elim (h q) (k q)
theorem sub_nil {C : List (Addr × Obj)} : ∀ q ∈ ([] : List (Addr × Obj)), q ∈ C := fun _ h => nomatch h
theorem sub_l {A C : List (Addr × Obj)} : ∀ q ∈ A, q ∈ A ++ C := fun _ h => List.mem_append_left _ h
theorem sub_r {A C : List (Addr × Obj)} : ∀ q ∈ C, q ∈ A ++ C := fun _ h => List.mem_append_right _ h
theorem sub_tr {A B C : List (Addr × Obj)} (h : ∀ q ∈ A, q ∈ B) (k : ∀ q ∈ B, q ∈ C) : ∀ q ∈ A, q ∈ C := fun q hq => k q (h q hq)
theorem news_sub {h₀ h : Heap} {L : Addr} {A B : List (Addr × Obj)} (N : News h₀ L h B) (k : ∀ q ∈ A, q ∈ B) : News h₀ L h A := fun q hq => N q (k q hq)
end Mine
end
section
open PySem PySem.W PyProof.Rows
namespace Mine
theorem fill0 : PySem.Challenge.rw_sn0066_01 = PySem.Challenge.rw_sn0066_01 → kx = kx → True := by
  k_fill
  intros; trivial
structure CRet (h₀ : Heap) (L : Addr) (m : Str → Option Value) (news : List (Addr × Obj)) (s : Shared) (R : Value → Prop) (Q : Value → Shared → Prop) : Prop where
  out : ∀ r h' tk', Fr h₀ L h' m → News h₀ L h' news → R r → Q r { s with heap := h', toks := tk' }
noncomputable def Calls (w : World) (nd : Nat) (f : Addr) (vs : List Value) (news : List (Addr × Obj)) (R : Value → Prop) : Prop :=
  ∀ (p : Program) (loose : List Str) (mean : ExcName → Option Value) (mg mb : Str → Option Value) (dp un : Nat) (gd : Option (List Code)) (cn : Str) (cs : Scope) (a : Addr) (ccd : Value) (cl : List (Str × Addr)) (outer : List Env) (A₀ : Around) (base h₀ : Heap) (L : Addr) (m : Str → Option Value) (s : Shared) (Q E : Value → Shared → Prop),
    Below A₀ base outer h₀ → Fr h₀ L s.heap m → (kx w.params).In h₀ → News h₀ L s.heap news → Top p loose mean mg mb h₀ → cs.kind = .function → dp + nd < recursionLimit → un + 10 * nd < cLine →
    CRet h₀ L m news s R Q →
    wpAny (model pw w) (ktrTop dp un gd cn cs L a ccd cl outer) (call (.ref f) vs) Q E s
theorem Calls.use {w : World} {nd : Nat} {f : Addr} {vs : List Value} {news : List (Addr × Obj)} {R : Value → Prop} (C : Calls w nd f vs news R)
    {p : Program} {loose : List Str} {mean : ExcName → Option Value} {mg mb : Str → Option Value} {dp un : Nat} {gd : Option (List Code)} {cn : Str} {cs : Scope} {a : Addr} {ccd : Value} {cl : List (Str × Addr)} {outer : List Env} {A₀ : Around} {base h₀ : Heap} {L : Addr} {m : Str → Option Value} {s : Shared} {Q E : Value → Shared → Prop}
    (B : Below A₀ base outer h₀) (F : Fr h₀ L s.heap m) (X : (kx w.params).In h₀) (N : News h₀ L s.heap news) (T : Top p loose mean mg mb h₀) (hk : cs.kind = .function) (hd : dp + nd < recursionLimit) (hu : un + 10 * nd < cLine)
    (ret : ∀ r h' tk', Fr h₀ L h' m → News h₀ L h' news → R r → Q r { s with heap := h', toks := tk' }) :
    wpAny (model pw w) (ktrTop dp un gd cn cs L a ccd cl outer) (call (.ref f) vs) Q E s := C _ _ _ _ _ _ _ _ _ _ _ _ _ _ _ _ _ _ _ _ _ _ B F X N T hk hd hu ⟨ret⟩
theorem getD_lt {l : List Int} {b : Int} (h0 : 0 ≤ b) (h : ∀ x ∈ l, 0 ≤ x ∧ x ≤ b) (n : Nat) : 0 ≤ l.getD n 0 ∧ l.getD n 0 ≤ b := by
  rw [List.getD_eq_getElem?_getD]
  cases e : l[n]? with
  | none => exact ⟨Int.le_refl 0, h0⟩
  | some x => exact h x (List.mem_of_getElem? e)
theorem drop_cons {h₀ h : Heap} {L : Addr} {p : Addr × Obj} {news : List (Addr × Obj)} (N : News h₀ L h (p :: news)) : News h₀ L h news := fun q hq => N q (.tail _ hq)
noncomputable def besideL : List Int := [172, 174, 846, 848, 6149, 6151, 6154, 6158, 8202, 8206, 8287, 8289, 65023, 65040, 65278, 65280]
noncomputable def besideC (k : Int) : Nat := (besideL.getD (k.fmod 16).toNat 0).toNat
noncomputable def unseenL : List Int := [173, 847, 6150, 6155, 6156, 6157, 8203, 8204, 8205, 8288, 65279]
noncomputable def unseenC (k : Int) : Nat := if k.fmod 27 < 16 then (65024 + k.fmod 27).toNat else (unseenL.getD (k.fmod 27 - 16).toNat 0).toNat
theorem c_beside (w : World) (k : Int) (t : Tok) (news : List (Addr × Obj)) : Calls w 2 298 [.int k t] news (fun r => ∃ t, r = .str ⟨#[besideC k]⟩ t) := by
  unfold Calls
  intro p loose mean mg mb dp un gd cn cs a ccd cl outer A₀ base h₀ L m s Q E B F X N T hk hd hu hret
  refine wpAny_call ?_
  k_dflt cell_enter
  k_steps
  have hb := getD_lt (b := 65280) (by decide) (show ∀ x ∈ besideL, 0 ≤ x ∧ x ≤ 65280 by decide) (k.fmod 16).toNat
  refine chr_of_range hb.1 (Int.le_trans hb.2 (by decide)) ?_
  k_steps
  exact hret.out _ _ _ (by k_asm) (drop_cons (by k_asm)) ⟨_, rfl⟩
theorem c_unseen (w : World) (k : Int) (t : Tok) (news : List (Addr × Obj)) : Calls w 2 291 [.int k t] news (fun r => ∃ t, r = .str ⟨#[unseenC k]⟩ t) := by
  unfold Calls
  intro p loose mean mg mb dp un gd cn cs a ccd cl outer A₀ base h₀ L m s Q E B F X N T hk hd hu hret
  have hm : 0 ≤ k.fmod 27 ∧ k.fmod 27 < 27 := ⟨Int.fmod_nonneg_of_pos _ (by decide), Int.fmod_lt_of_pos _ (by decide)⟩
  refine wpAny_call ?_
  k_dflt cell_enter
  k_steps
  · (with_reducible rename k.fmod 27 < 16 => ha)
    exact hret.out _ _ _ (by k_asm) (by k_asm) ⟨_, by rw [unseenC, if_pos ha]⟩
  · (with_reducible rename ¬ k.fmod 27 < 16 => ha)
    have hb := getD_lt (b := 65280) (by decide) (show ∀ x ∈ unseenL, 0 ≤ x ∧ x ≤ 65280 by decide) (k.fmod 27 - 16).toNat
    refine chr_of_range hb.1 (Int.le_trans hb.2 (by decide)) ?_
    k_steps
    exact hret.out _ _ _ (by k_asm) (drop_cons (by k_asm)) ⟨_, by rw [unseenC, if_neg ha]; rfl⟩
noncomputable def b1L : List Int := [65024, 65025, 65026, 65027, 65028, 65029, 6150, 65030, 65031, 65032, 65033, 6155, 6156, 6157, 8203, 8204, 8205, 65034, 65035, 65036, 65037, 65038, 65039, 173, 847, 8288, 65279]
noncomputable def setEs : Obj → Array (Int × Value)
  | ⟨_, _, .set es _ _, _⟩ => es
  | _ => #[]
theorem setEs_eq (P : Params) : (setEs (o119v6 P)).toList.map (fun e => (e.1, match e.2 with | .int i _ => i | _ => 0)) = b1L.map fun i => (i, i) := by kernel_rfl
theorem setEs_ints (P : Params) : (setEs (o119v6 P)).toList.all (fun e => match e.2 with | .int i _ => e.1 == i && hashInt i == i | _ => false) = true := by kernel_rfl
theorem b1_setOf {w : World} {h : Heap} (X : (kx w.params).In h) : h.SetOf (intKind pw w) 119 (fun k => decide (k ∈ b1L)) 27 := by
  have hl : (kx w.params).lookup 119 = some (o119v6 w.params) := by kernel_rfl
  have hall := List.all_eq_true.mp (setEs_ints w.params)
  have hmap := setEs_eq w.params
  have hmem : ∀ k : Int, k ∈ b1L ↔ ∃ e ∈ (setEs (o119v6 w.params)).toList, Value.isInt k e.2 = true := by
    intro k
    have e1 : b1L = (setEs (o119v6 w.params)).toList.map (fun e => match e.2 with | .int i _ => i | _ => 0) := by
      have := congrArg (List.map Prod.snd) hmap
      simpa [List.map_map, Function.comp_def] using this.symm
    rw [e1, List.mem_map]
    constructor
    · rintro ⟨e, he, hk⟩
      have := hall e he
      refine ⟨e, he, ?_⟩
      cases hv : e.2 with
      | int i t => rw [hv] at hk; simp only at hk; subst hk; simp [Value.isInt]
      | _ => rw [hv] at this; simp at this
    · rintro ⟨e, he, hk⟩
      refine ⟨e, he, ?_⟩
      obtain ⟨t, ht⟩ := Value.isInt_shape hk
      rw [ht]
  refine ⟨_, setEs (o119v6 w.params), 29, _, X _ _ hl, ⟨rfl, rfl, rfl⟩, rfl, ?_, ?_, by rw [show (setEs (o119v6 w.params)).size = 27 from by kernel_rfl]; decide, by kernel_rfl, by kernel_rfl⟩
  · intro e he
    have := hall e he
    cases hv : e.2 with
    | int i t =>
      rw [hv] at this
      simp only [Bool.and_eq_true, beq_iff_eq] at this
      exact ⟨⟨i, by simp [intKind, Value.isInt], this.1.trans this.2.symm⟩, rfl⟩
    | _ => rw [hv] at this; simp at this
  · intro k
    rw [decide_eq_true_iff]
    exact hmem k
theorem c_table (w : World) (c : Nat) (t : Tok) (news : List (Addr × Obj)) : Calls w 2 129 [.str ⟨#[c]⟩ t] news (fun r => r = .bool (decide ((c : Int) ∈ b1L))) := by
  unfold Calls
  intro p loose mean mg mb dp un gd cn cs a ccd cl outer A₀ base h₀ L m s Q E B F X N T hk hd hu hret
  refine wpAny_call ?_
  k_dflt cell_enter
  k_steps
  refine wpAny_inSet_of (knd := intKind pw w) (k := (c : Int)) (by simp [intKind, Value.isInt]) rfl (b1_setOf (Frag.In.keeps (K := kx w.params) (by k_asm) (Fr.keep (by k_asm)))) ?_
  k_steps
  exact hret.out _ _ _ (by k_asm) (by k_asm) rfl
noncomputable def keepsC (i : Int) : Bool := !decide (i ∈ b1L)
noncomputable def cleanS (l : List Int) : Str := KStt.txt (l.filter keepsC)
theorem cleanS_snoc_keep (l : List Int) (n : Nat) (h : keepsC n = true) : cleanS (l ++ [(n : Int)]) = cleanS l ++ ⟨#[n]⟩ := by
  unfold cleanS
  rw [List.filter_append, List.filter_cons, if_pos h, List.filter_nil, KStt.txt_snoc]
theorem cleanS_snoc_drop (l : List Int) (n : Nat) (h : keepsC n = false) : cleanS (l ++ [(n : Int)]) = cleanS l := by
  unfold cleanS
  rw [List.filter_append, List.filter_cons, if_neg (by rw [h]; decide), List.filter_nil, List.append_nil]
local macro_rules | `(tactic| walk_at "call ref") => `(tactic| (k_here; (with_reducible show wpAny _ _ (call (Value.ref _) _) _ _ _); k_dflt (refine' Calls.use (c_table _ _ _ _) ?k1 ?k2 ?k3 ?k4 ?k5 ?kK ?kd ?ku ?kR; (case k1 => k_asm); (case k2 => k_asm); (case k3 => k_asm); (case k4 => k_asm); (case k5 => k_asm); (case kK => first | exact rfl | assumption); (case kd => ktr_room); (case ku => ktr_units)); intro r9 h9 tk9 F9 N9 hr9; (first | (obtain ⟨t9, hr9⟩ := hr9; subst hr9) | subst hr9); (try dsimp only); (try k_fold)))
theorem clean_start : Str.ofString "" = cleanS [] ∧ (Str.ofString "").length ≤ ([] : List Int).length := ⟨by decide +kernel, by decide +kernel⟩
theorem clean_keep {l : Str} {pre : List Int} {n : Nat} (h : l = cleanS pre) (hl : l.length ≤ pre.length) (a : (decide ((n : Int) ∈ b1L) == false) = true) : l ++ ⟨#[n]⟩ = cleanS (pre ++ [(n : Int)]) ∧ (l ++ ⟨#[n]⟩ : Str).length ≤ (pre ++ [(n : Int)]).length := by
  refine ⟨?_, ?_⟩
  · rw [h, cleanS_snoc_keep]
    unfold keepsC; simpa using a
  · simp only [Str.length_append, List.length_append, List.length_cons, List.length_nil]
    have : Str.length ⟨#[n]⟩ = 1 := rfl
    omega
theorem clean_drop {l : Str} {pre : List Int} {n : Nat} (h : l = cleanS pre) (hl : l.length ≤ pre.length) (a : (decide ((n : Int) ∈ b1L) == true) = true) : l ++ Str.ofString "" = cleanS (pre ++ [(n : Int)]) ∧ (l ++ Str.ofString "" : Str).length ≤ (pre ++ [(n : Int)]).length := by
  have e : l ++ Str.ofString "" = l := by
    rw [show Str.ofString "" = Str.empty from by decide +kernel]; exact Str.append_empty l
  rw [e]
  refine ⟨?_, ?_⟩
  · rw [h, cleanS_snoc_drop]
    unfold keepsC; simpa using a
  · simp only [List.length_append, List.length_cons, List.length_nil]; omega
theorem clean_no {n : Nat} {P : Prop} (a : (decide ((n : Int) ∈ b1L) == false) = false) (b : (decide ((n : Int) ∈ b1L) == true) = false) : P := by
  cases h : decide ((n : Int) ∈ b1L) <;> simp_all
theorem c_clean (w : World) (c : Str) (t : Tok) (news : List (Addr × Obj)) (hc : c.length < 1000) : Calls w 4 305 [.str c t] news (fun r => ∃ t, r = .str (cleanS (KStt.codes c)) t) := by
  unfold Calls
  intro p loose mean mg mb dp un gd cn cs a ccd cl outer A₀ base h₀ L m s Q E B F X N T hk hd hu hret
  k_with "pyIter str" => k_state (fun pre (left : Str) => left = cleanS pre ∧ left.length ≤ pre.length) "left"
  k_with "state" => first | exact clean_start | exact clean_keep (by assumption) (by assumption) (by assumption) | exact clean_drop (by assumption) (by assumption) (by assumption) | exact clean_no (by assumption) (by assumption)
  refine wpAny_call ?_
  k_dflt cell_enter
  k_steps
  · (with_reducible rename _ = cleanS (KStt.codes c) => he)
    exact hret.out _ _ _ (by k_asm) (by k_asm) ⟨_, by rw [he]⟩
end Mine
end
section
open PySem PySem.W PyProof.Rows
namespace Mine
noncomputable def tlD : Nat → Int → List Int
  | 0, _ => []
  | k + 1, n => if 0 < n then (n.fmod 64 + 64) :: tlD k (n.fdiv 64) else []
noncomputable def octD (n : Int) : List Int := n.fmod 64 :: tlD 20 (n.fdiv 64)
noncomputable def OctP (c n : Int) (ds : List Int) : Prop := ∃ k, n < 64 ^ k ∧ ds ++ tlD k n = octD c ∧ ds.length + k = 21 ∧ (∀ d ∈ ds, 0 ≤ d ∧ d < 128)
theorem KswEnd_stop {σ : Type} {h₀ : Heap} {L : Addr} {s : Shared} {Led : σ → List (Addr × Obj)} {ps : σ → List (Str × Value)} {Facts : σ → Prop} {stored : List Str} {m₀ : Str → Option Value} {P : σ → Prop} {μ : σ → Nat} {c : σ} {s' : Shared}
  (h : KswEnd h₀ L s Led ps Facts stored m₀ P μ c s') : KswEnd h₀ L s Led ps Facts stored m₀ P μ c s' := h
theorem oct_start {c : Int} (h0 : 0 ≤ c) (h1 : c < 1152921504606846976) : [c.fmod 64].length ≤ 21 ∧ 0 ≤ c.fdiv 64 ∧ OctP c (c.fdiv 64) [c.fmod 64] := by
  have e1 : c.fmod 64 = c % 64 := Int.fmod_eq_emod_of_nonneg _ (by decide)
  have e2 : c.fdiv 64 = c / 64 := Int.fdiv_eq_ediv_of_nonneg _ (by decide)
  refine ⟨by simp, by rw [e2]; omega, 20, ?_, rfl, rfl, ?_⟩
  · rw [e2]
    have : c / 64 ≤ c := by omega
    have : (1152921504606846976 : Int) ≤ 64 ^ 20 := by decide
    omega
  · intro d hd
    rw [List.mem_singleton.mp hd, e1]
    omega
theorem oct_turn {c n : Int} {ds : List Int} (hl : ds.length ≤ 21) (h0 : 0 ≤ n) (h : OctP c n ds) (a : 0 < n) : (ds ++ [n.fmod 64 + 64]).length ≤ 21 ∧ 0 ≤ n.fdiv 64 ∧ OctP c (n.fdiv 64) (ds ++ [n.fmod 64 + 64]) := by
  have e1 : n.fmod 64 = n % 64 := Int.fmod_eq_emod_of_nonneg _ (by decide)
  have e2 : n.fdiv 64 = n / 64 := Int.fdiv_eq_ediv_of_nonneg _ (by decide)
  obtain ⟨k, hk, he, hlen, hb⟩ := h
  cases k with
  | zero => exfalso; rw [Int.pow_zero] at hk; omega
  | succ k =>
    refine ⟨by simp; omega, by rw [e2]; omega, k, ?_, ?_, by simp; omega, ?_⟩
    · rw [e2]
      rw [Int.pow_succ] at hk
      omega
    · rw [← he, List.append_assoc]
      congr 1
      show _ = (if 0 < n then (n.fmod 64 + 64) :: tlD k (n.fdiv 64) else [])
      rw [if_pos a]; rfl
    · intro d hd
      rcases List.mem_append.mp hd with q | q
      · exact hb d q
      · rw [List.mem_singleton.mp q, e1]; omega
theorem oct_end {c n : Int} {ds : List Int} (h : OctP c n ds) (a : ¬ 0 < n) : ds = octD c ∧ ∀ d ∈ ds, 0 ≤ d ∧ d < 128 := by
  obtain ⟨k, hk, he, hlen, hb⟩ := h
  refine ⟨?_, hb⟩
  cases k with
  | zero => simpa [tlD] using he
  | succ k =>
    have e : tlD (k + 1) n = [] := by
      show (if 0 < n then (n.fmod 64 + 64) :: tlD k (n.fdiv 64) else []) = []
      rw [if_neg a]
    rw [e] at he; simpa using he
end Mine
end
section
open PySem PySem.W PyProof.Rows
namespace Mine
inductive All2 {α β : Type} (R : α → β → Prop) : List α → List β → Prop
  | nil : All2 R [] []
  | cons {a : α} {b : β} {as : List α} {bs : List β} (h : R a b) (t : All2 R as bs) : All2 R (a :: as) (b :: bs)
theorem All2.imp {α β : Type} {R R' : α → β → Prop} (f : ∀ a b, R a b → R' a b) : ∀ {as : List α} {bs : List β}, All2 R as bs → All2 R' as bs
  | _, _, .nil => .nil
  | _, _, .cons h t => .cons (f _ _ h) (t.imp f)
theorem All2.snoc {α β : Type} {R : α → β → Prop} {a : α} {b : β} (h : R a b) : ∀ {as : List α} {bs : List β}, All2 R as bs → All2 R (as ++ [a]) (bs ++ [b])
  | _, _, .nil => .cons h .nil
  | _, _, .cons h' t => .cons h' (t.snoc h)
theorem All2.length {α β : Type} {R : α → β → Prop} : ∀ {as : List α} {bs : List β}, All2 R as bs → as.length = bs.length
  | _, _, .nil => rfl
  | _, _, .cons _ t => congrArg (· + 1) t.length
section
variable {prog : Program} {w : World} {A : Around} {h₀ : Heap} {L : Addr} {m : Str → Option Value} {env : Env} {elt : PySem.Expr} {x : Str} {scope : Scope} {cl : List (Str × Addr)} {s : Shared} {S : List (Addr × Obj) → Prop} {P : Nat → Value → Prop} {Fin : List Value → List (Addr × Obj) → Prop}
end
section
variable {prog : Program} {w : World} {A : Around} {E : Value → Shared → Prop} {s : Shared} {h₀ : Heap} {L l it : Addr} {m : Str → Option Value} {news : List (Addr × Obj)} {g : Obj → List (Addr × Obj)} {io lo : Obj} {vs : List Value} {i : Nat} {x : Value}
end
end Mine
end
section
open PySem PySem.W PyProof.Rows
namespace Mine
structure NRet (h₀ : Heap) (L : Addr) (m : Str → Option Value) (s : Shared) (R : Value → List (Addr × Obj) → Prop) (Q : Value → Shared → Prop) : Prop where
  out : ∀ r h' tk' news', Fr h₀ L h' m → News h₀ L h' news' → R r news' → Q r { s with heap := h', toks := tk' }
noncomputable def CallsN (w : World) (nd : Nat) (f : Addr) (vs : List Value) (news : List (Addr × Obj)) (R : Value → List (Addr × Obj) → Prop) : Prop :=
  ∀ (p : Program) (loose : List Str) (mean : ExcName → Option Value) (mg mb : Str → Option Value) (dp un : Nat) (gd : Option (List Code)) (cn : Str) (cs : Scope) (a : Addr) (ccd : Value) (cl : List (Str × Addr)) (outer : List Env) (A₀ : Around) (base h₀ : Heap) (L : Addr) (m : Str → Option Value) (s : Shared) (Q E : Value → Shared → Prop),
    Below A₀ base outer h₀ → Fr h₀ L s.heap m → (kx w.params).In h₀ → News h₀ L s.heap news → Top p loose mean mg mb h₀ → cs.kind = .function → dp + nd < recursionLimit → un + 10 * nd < cLine →
    NRet h₀ L m s R Q →
    wpAny (model pw w) (ktrTop dp un gd cn cs L a ccd cl outer) (call (.ref f) vs) Q E s
theorem CallsN.use {w : World} {nd : Nat} {f : Addr} {vs : List Value} {news : List (Addr × Obj)} {R : Value → List (Addr × Obj) → Prop} (C : CallsN w nd f vs news R)
    {p : Program} {loose : List Str} {mean : ExcName → Option Value} {mg mb : Str → Option Value} {dp un : Nat} {gd : Option (List Code)} {cn : Str} {cs : Scope} {a : Addr} {ccd : Value} {cl : List (Str × Addr)} {outer : List Env} {A₀ : Around} {base h₀ : Heap} {L : Addr} {m : Str → Option Value} {s : Shared} {Q E : Value → Shared → Prop}
    (B : Below A₀ base outer h₀) (F : Fr h₀ L s.heap m) (X : (kx w.params).In h₀) (N : News h₀ L s.heap news) (T : Top p loose mean mg mb h₀) (hk : cs.kind = .function) (hd : dp + nd < recursionLimit) (hu : un + 10 * nd < cLine)
    (ret : ∀ r h' tk' news', Fr h₀ L h' m → News h₀ L h' news' → R r news' → Q r { s with heap := h', toks := tk' }) :
    wpAny (model pw w) (ktrTop dp un gd cn cs L a ccd cl outer) (call (.ref f) vs) Q E s := C _ _ _ _ _ _ _ _ _ _ _ _ _ _ _ _ _ _ _ _ _ _ B F X N T hk hd hu ⟨ret⟩
noncomputable def vTail : Nat → List Int → Nat → Int → Int → Option (Int × Nat)
  | 0, _, _, _, _ => none
  | f + 1, ns, i, b, val => if Builtin.bitAnd b 64 = 0 then some (val, i) else match ns[i]? with
    | none => none
    | some b' => vTail f ns (i + 1) b' (Builtin.bitOr (val * 2 ^ 6) (Builtin.bitAnd b' 63))
theorem vTail_stop {f : Nat} {ns : List Int} {i : Nat} {b val v : Int} {i' : Nat} (h : vTail f ns i b val = some (v, i')) (a : Builtin.bitAnd b 64 = 0) : val = v ∧ i = i' := by
  cases f with
  | zero => simp [vTail] at h
  | succ f => rw [vTail, if_pos a] at h; simpa using h
theorem vTail_go {f : Nat} {ns : List Int} {i : Nat} {b val v : Int} {i' : Nat} (h : vTail f ns i b val = some (v, i')) (a : ¬ Builtin.bitAnd b 64 = 0) : ∃ f' b', f = f' + 1 ∧ ns[i]? = some b' ∧ vTail f' ns (i + 1) b' (Builtin.bitOr (val * 2 ^ 6) (Builtin.bitAnd b' 63)) = some (v, i') := by
  cases f with
  | zero => simp [vTail] at h
  | succ f =>
    rw [vTail, if_neg a] at h
    cases e : ns[i]? with
    | none => rw [e] at h; simp at h
    | some b' => rw [e] at h; exact ⟨f, b', rfl, rfl, h⟩
theorem or_le {val b : Int} {k : Nat} (h0 : 0 ≤ val) (h1 : val < 64 ^ k) : 0 ≤ Builtin.bitOr (val * 2 ^ 6) (Builtin.bitAnd b 63) ∧ Builtin.bitOr (val * 2 ^ 6) (Builtin.bitAnd b 63) < 64 ^ (k + 1) := by
  have hb := bitAnd_range b (y := 63) (by decide)
  have hb2 := bitAnd_range (val * 2 ^ 6) (y := Builtin.bitAnd b 63) hb.1
  have e : (2 : Int) ^ 6 = 64 := by decide
  have e2 : (64 : Int) ^ (k + 1) = 64 ^ k * 64 := Int.pow_succ ..
  rw [bitOr_and, e2]
  rw [e] at hb2 ⊢
  omega
theorem val_fits {val : Int} {k : Nat} (h0 : 0 ≤ val) (h : val < 64 ^ (11 - (k + 1))) : val.natAbs < 2 ^ 64 := by
  have h2 : (64 : Int) ^ (11 - (k + 1)) ≤ 64 ^ 10 := by
    have : (64 : Nat) ^ (11 - (k + 1)) ≤ 64 ^ 10 := Nat.pow_le_pow_right (by decide) (by omega)
    exact_mod_cast this
  have h3 : (64 : Int) ^ 10 = 1152921504606846976 := by decide
  omega
end Mine
end
section
open PySem PySem.W PyProof.Rows
namespace Mine
section
variable {prog : Program} {w : World} {A₀ A : Around} {s : Shared} {base h₀ : Heap} {L : Addr} {m : Str → Option Value} {env : Env} {news : List (Addr × Obj)} {K : Frag} {p : Program} {loose : List Str} {mean : ExcName → Option Value} {mg mb : Str → Option Value}
    {R : Result → Shared → Prop} {name qual : Str} {params : Arguments} {body : List Stmt} {scope : Scope} {dV kV doc pm cdv ct oc : Value} {an od : Option Addr} {osl : Array (Option Value)} {f : Addr} {args : Args} {binds : List (Str × Value)}
theorem ledger_apart (N : News h₀ L s.heap news) {b : Addr} {o : Obj} (e : h₀.get? b = some o) : b ∉ news.map (·.1) := by
  intro hm
  obtain ⟨q, hq, hb⟩ := List.mem_map.mp hm
  have h1 := (N q hq).2.2
  rw [hb, e] at h1
  exact nomatch h1
theorem enter_tryE (B : Below A₀ base [] h₀) (F : Fr h₀ L s.heap m) (X₀ : K.In h₀) (N : News h₀ L s.heap news) (T : Top p loose mean mg mb h₀) (hA : A.frames = some [env]) (hf : env.frame = some L) (hke : env.scope.kind = .function)
    (ho : K.lookup f = some ⟨oc, od, .func (fnOf name qual params body scope dV kV doc pm an cdv ct), osl⟩) (hcd : codeIn K cdv qual = true) (hroom : A.depth < recursionLimit)
    (hbind : BindsTo s (fnOf name qual params body scope dV kV doc pm an cdv ct) args binds) (hloc : ∀ y ∈ binds, scope.names.lookup y.1 = some .local)
    (h : ∀ g L' h₁, Fr h₀ L g m → Fr g L' h₁ (fun y => binds.reverse.lookup y) → News g L' h₁ news → Below A base [env] g → K.In g → Top p loose mean mg mb g → KtsDicts ([env].filterMap (·.frame)) g →
      wpAny (model prog w) (A.deeper (envOf qual scope L' f cdv)) (execs body (envOf qual scope L' f cdv))
        (fun fl s' => LeaveS0 ([env].filterMap (·.frame)) h₀ L m g R (match fl with | .ret v => v | _ => .none) s')
        (fun e s' => wpAny (model prog w) (A.deeper (envOf qual scope L' f cdv)) (leaving (envOf qual scope L' f cdv) e) (fun _ s'' => R (.error e) s'') (fun e' s'' => R (.error e') s'') s')
        { s with heap := h₁, toks := s.toks + binds.length })
    (hco : scope.isCoroutine = false) (hgen : scope.isGenerator = false) (hk : scope.kind = .function)
    (hcell : ∀ x ∈ scope.names, x.2 ≠ .cell) : codeAny (model prog w) A (.call (.ref f) args) R s := by
  have X := X₀.keeps F.keep
  have hfs : [env].filterMap (·.frame) = [L] := by simp [hf]
  refine codeAny_call_def (fd := fnOf name qual params body scope dV kV doc pm an cdv ct) (body := body) (binds := binds) hroom (X _ _ ho) rfl (T.nolimit.keeps F.keep) (codeRec_of X hcd) rfl hbind hcell hloc (fun h₁ hns hk₁ => ?_) hco hgen hk
  obtain ⟨oL, es, ep, hL, hLd, hLk, hLf⟩ := F.ns
  have hnL₀ : h₀.get? L = none := kts_self F
  have hnL : L ∉ news.map (·.1) := fun hm => by
    obtain ⟨q, hq, hb⟩ := List.mem_map.mp hm
    exact (N q hq).2.1 hb
  have hgL := hideAll_get (news.map (·.1)) hL hnL
  have st : h₀.StaysIn (hideAll s.heap (news.map (·.1))) := fun b o e => hideAll_get _ (F.keep b o e) (ledger_apart N e)
  have hbL : base.get? L = none := by
    cases hq : base.get? L with
    | none => rfl
    | some o => have z := B.stays L o hq; rw [hnL₀] at z; exact nomatch z
  have B₂ : Below A base [env] (hideAll s.heap (news.map (·.1))) :=
    ⟨hA, fun b o e => st b o (B.stays b o e), ⟨by rw [hke]; decide, ⟨L, oL, hf, hbL, hgL, fun vs e => by rw [hLd] at e; exact nomatch e⟩, trivial⟩⟩
  have FG : Fr h₀ L (hideAll s.heap (news.map (·.1))) m := ⟨⟨oL, es, ep, hgL, hLd, hLk, hLf⟩, st, F.above⟩
  refine wpAny_mono (h _ s.heap.objs.size h₁ FG ⟨hns, fun b o e => hk₁ b o (of_hideAll _ e), Nat.le_of_eq (hideAll_size _ _)⟩
    (fun q hq => ⟨hk₁ _ _ (N q hq).1, Nat.ne_of_lt (Heap.lt_size (N q hq).1), hideAll_none _ (List.mem_map_of_mem hq)⟩) B₂ (X₀.keeps st) (T.keeps st) (fun b hb => by
      rw [hfs] at hb
      obtain rfl := List.mem_singleton.mp hb
      exact ⟨oL, es, ep, hgL, hLd⟩)) (fun fl s' hl => ?_) fun _ _ y => y
  obtain ⟨g', L', m', news', T', F', N', k⟩ := hl
  obtain ⟨sl, hs⟩ := T'.up hgL
  refine k ⟨⟨_, es, ep, F'.keep _ _ hs, hLd, hLk, hLf⟩, fun b o e => F'.keep b o (T'.other b o (st b o e) fun q => ?_), F.above⟩ fun q hq => ⟨(N' q hq).1, fun z => ?_, ?_⟩
  · rw [hfs] at q
    obtain rfl := List.mem_singleton.mp q
    rw [hnL₀] at e
    exact nomatch e
  · have y := (N' q hq).2.2
    rw [z, hs] at y
    exact nomatch y
  · cases z : h₀.get? q.1 with
    | none => rfl
    | some o =>
      obtain ⟨sl', hs'⟩ := T'.up (st _ _ z)
      have y := (N' q hq).2.2
      rw [hs'] at y
      exact nomatch y
end
end Mine
end
section
open PySem PySem.W PyProof.Rows
namespace Mine
noncomputable def CallsT (w : World) (nd : Nat) (f : Addr) (vs : List Value) (news : List (Addr × Obj)) (R : Value → List (Addr × Obj) → Prop) : Prop :=
  ∀ (p : Program) (loose : List Str) (mean : ExcName → Option Value) (mg mb : Str → Option Value) (dp un : Nat) (gd : Option (List Code)) (cn : Str) (cs : Scope) (a : Addr) (ccd : Value) (cl : List (Str × Addr)) (A₀ : Around) (h₀ : Heap) (L : Addr) (m : Str → Option Value) (s : Shared) (Q E : Value → Shared → Prop),
    Below A₀ h₀ [] h₀ → Fr h₀ L s.heap m → (kx w.params).In h₀ → News h₀ L s.heap news → Top p loose mean mg mb h₀ → cs.kind = .function → dp + nd < recursionLimit → un + 10 * nd < cLine →
    NRet h₀ L m s R Q →
    wpAny (model pw w) (ktrTop dp un gd cn cs L a ccd cl []) (call (.ref f) vs) Q E s
end Mine
end
section
open PySem PySem.W PyProof.Rows
namespace Mine
section
variable {prog : Program} {w : World} {A : Around} {E : Value → Shared → Prop} {s : Shared} {env : Env} {h₀ : Heap} {x : Str} {body : List Stmt} {Q : Flow → Shared → Prop}
theorem gl_text {σ : Type} {xt : Str} {tx : Tok} {m₀ : Str → Option Value} (Led : σ → List (Addr × Obj)) (ps : σ → List (Str × Value)) (Facts : σ → Prop) (stored : List Str) (P : List Int → σ → Prop) (c₀ : σ)
    (hh : A.handled = none) (F : Fr h₀ env.locals s.heap m₀) (N : News h₀ env.locals s.heap (Led c₀)) (hf : Facts c₀) (hk : ∀ p ∈ ps c₀, m₀ p.1 = some p.2) (hp : P [] c₀)
    (turn : ∀ (c : σ) (pre post : List Int) (n : Nat) t (u : Str → Option Value) h tk own, KStt.codes xt = pre ++ (n : Int) :: post → OwnOff own ((Led c).map (·.1)) → Facts c → P pre c →
      Fr h₀ env.locals h (fun y => if y = x then some (.str ⟨#[n]⟩ t) else kstB (fun z => if stored.contains z then u z else m₀ z) (ps c) y) → News h₀ env.locals h (Led c ++ own) →
      wpAny (model prog w) A (execs body env) (InvPostG h₀ env.locals (KstS Led ps Facts x stored m₀ P (pre ++ [(n : Int)])) own { s with heap := h, toks := tk } Q) E { s with heap := h, toks := tk })
    (done : ∀ (c : σ) (u : Str → Option Value) h tk, Facts c → P (KStt.codes xt) c → Fr h₀ env.locals h (fun y => if y = x then u y else kstB (fun z => if stored.contains z then u z else m₀ z) (ps c) y) → News h₀ env.locals h (Led c) → Q .next { s with heap := h, toks := tk }) :
    wpAny (model prog w) A (pyIter (.str xt tx)) (fun it s₂ => LoopAtV prog w A h₀ env x body Q E it s₂) E s := by
  have main : ∀ (o : Obj) (St : Nat → Heap → Prop), Walks prog w A s.heap.objs.size [s.heap.objs.size] [s.heap.objs.size] xt.cps.size (SignAt xt) St → (∀ i h, St i h → ∃ o, h.get? s.heap.objs.size = some o) → St 0 (s.heap.push o) →
      LoopAtV prog w A h₀ env x body Q E (.ref s.heap.objs.size) { s with heap := s.heap.push o } := by
    intro o St W hob hst
    refine kdr_loop (fun i m nx => KstS Led ps Facts x stored m₀ P ((KStt.codes xt).take i) m nx) W (fun _ h => h) (fun _ h => h) (fun i h hs b hb => by rw [List.mem_singleton.mp hb]; exact hob i h hs) ?_ ?_ ?_ hst (F.push _) (fun p hp => ⟨Heap.get?_push_of_some _ (N p hp).1, (N p hp).2⟩) ⟨c₀, rfl, hf, hk, fun _ _ _ _ => rfl, by simpa using hp⟩ ?_ ?_
    · intro hm
      exact absurd F.ns.lt ((List.mem_singleton.mp hm) ▸ Nat.lt_irrefl _)
    · intro b' hb
      rw [List.mem_singleton.mp hb]
      exact next_is_new F
    · intro p hp hI
      exact absurd (Heap.lt_size (N p hp).1) ((List.mem_singleton.mp hI) ▸ Nat.lt_irrefl _)
    · rintro i v m₁ nx h tk own hi ⟨n, u, hn, rfl⟩ hoff ⟨c, rfl, hf', h1, h2, hp'⟩ F₁ N₁
      have hn' := KStt.code_at hn
      have hs : (KStt.codes xt).take (i + 1) = (KStt.codes xt).take i ++ [(n : Int)] := by simp [List.take_add_one, hn']
      have e : KStt.codes xt = (KStt.codes xt).take i ++ (n : Int) :: (KStt.codes xt).drop (i + 1) := by
        have ht := List.take_append_drop (i + 1) (KStt.codes xt)
        rw [hs, List.append_assoc] at ht
        exact ht.symm
      rw [hs]
      exact turn c _ _ n u m₁ h tk own e hoff hf' hp' (kst_fr h1 h2 F₁) N₁
    · rintro m₁ nx h tk ⟨c, rfl, hf', h1, h2, hp'⟩ F₁ N₁
      have hl : xt.cps.size = (KStt.codes xt).length := (KStt.codes_length xt).symm
      rw [hl, List.take_length] at hp'
      exact done c m₁ h tk hf' hp' (kst_frOut h1 h2 F₁) N₁
  cases ha : xt.cps.all (· < 128)
  · exact wpAny_pyIter_wide ha (main _ _ (Walks.strWide hh _ xt tx) (fun i h hs => ⟨_, hs.choose_spec.1⟩) ⟨_, Heap.get?_push_size _ rfl, rfl, rfl⟩)
  · exact wpAny_pyIter_ascii ha (main _ _ (Walks.strAscii hh _ xt tx) (fun i h hs => ⟨_, hs.choose_spec.1⟩) ⟨_, Heap.get?_push_size _ rfl, rfl, rfl⟩)
end
theorem gl_end {σ : Type} {Led : σ → List (Addr × Obj)} {ps : σ → List (Str × Value)} {Facts : σ → Prop} {x : Str} {stored : List Str} {m₀ : Str → Option Value} {P : List Int → σ → Prop} {pre : List Int} {h₀ : Heap} (c : σ) {L : Addr} {m' : Str → Option Value} {own news' : List (Addr × Obj)} {s₁ : Shared} {h' : Heap} {tk : Nat}
    (F : Fr h₀ L h' m') (N : News h₀ L h' news') (hn : ∀ p ∈ Led c, p ∈ news') (ho : ∀ p ∈ own, p ∈ news') (hw : OwnOff own ((Led c).map (·.1)))
    (hk : ∀ p ∈ ps c, m' p.1 = some p.2) (hr : ∀ z, z ≠ x → (∀ p ∈ ps c, z ≠ p.1) → stored.contains z = false → m' z = m₀ z) (hf : Facts c) (hp : P pre c) :
    InvEndG h₀ L (KstS Led ps Facts x stored m₀ P pre) own s₁ { s₁ with heap := h', toks := tk } :=
  ⟨h', tk, m', news', Led c, rfl, F, N, hn, ho, hw, c, rfl, hf, hk, hr, hp⟩
noncomputable def Off (d : Addr) (l : List (Addr × Obj)) : Prop := ∀ p ∈ l, p.1 ≠ d
theorem Off.out {d : Addr} {l : List (Addr × Obj)} (h : Off d l) : ∀ p ∈ l, p.1 ≠ d := h
theorem Off.app {d : Addr} {l r : List (Addr × Obj)} (h : Off d l) (k : Off d r) : Off d (l ++ r) := fun p hp => (List.mem_append.mp hp).elim (h p) (k p)
theorem off_sub {S : Addr} {A B : List (Addr × Obj)} (N : Off S B) (k : ∀ q ∈ A, q ∈ B) : Off S A := fun q hq => N q (k q hq)
noncomputable def TlS {σ : Type} (Led : σ → List (Addr × Obj)) (ps : σ → List (Str × Value)) (Facts : σ → Prop) (stored : List Str) (m₀ : Str → Option Value) (P : Nat → σ → Prop) (i : Nat) (m : Str → Option Value) (nx : List (Addr × Obj)) : Prop :=
  ∃ c : σ, nx = Led c ∧ Facts c ∧ (∀ p ∈ ps c, m p.1 = some p.2) ∧ (∀ z, (∀ p ∈ ps c, z ≠ p.1) → stored.contains z = false → m z = m₀ z) ∧ P i c
section
variable {prog : Program} {w : World} {A : Around} {E : Value → Shared → Prop} {s : Shared} {env : Env} {h₀ : Heap} {target : PySem.Expr} {body : List Stmt} {Q : Flow → Shared → Prop}
theorem unrPostW_imp {L : Addr} {s₁ : Shared} {its : List (Addr × Obj)} {r r' : (Str → Option Value) → List (Addr × Obj) → Prop} (f : ∀ m n, (∀ p ∈ n, ∀ q ∈ its, p.1 ≠ q.1) → r m n → r' m n) {fl : Flow} {s₂ : Shared} (h : UnrPostW h₀ L s₁ its r Q fl s₂) : UnrPostW h₀ L s₁ its r' Q fl s₂ := by
  cases fl with
  | ret v => exact h
  | brk => exact h
  | next => obtain ⟨h', tk, m', n', e, F, N, o, x⟩ := h; exact ⟨h', tk, m', n', e, F, N, o, f _ _ o x⟩
  | cont => obtain ⟨h', tk, m', n', e, F, N, o, x⟩ := h; exact ⟨h', tk, m', n', e, F, N, o, f _ _ o x⟩
end
section
variable {prog : Program} {w : World} {A : Around} {E : Value → Shared → Prop} {s : Shared} {env : Env} {h₀ : Heap} {body : List Stmt} {Q : Flow → Shared → Prop}
end
theorem UnrEndW_stop {h₀ : Heap} {L : Addr} {s₁ : Shared} {its : List (Addr × Obj)} {rest : (Str → Option Value) → List (Addr × Obj) → Prop} {s₂ : Shared} (h : UnrEndW h₀ L s₁ its rest s₂) : UnrEndW h₀ L s₁ its rest s₂ := h
theorem tl_end {σ : Type} {Led : σ → List (Addr × Obj)} {ps : σ → List (Str × Value)} {Facts : σ → Prop} {stored : List Str} {m₀ : Str → Option Value} {P : Nat → σ → Prop} {i : Nat} {h₀ : Heap} (c : σ) {L : Addr} {m' : Str → Option Value} {its news' : List (Addr × Obj)} {s₁ : Shared} {h' : Heap} {tk : Nat}
    (F : Fr h₀ L h' m') (N : News h₀ L h' news') (hn : ∀ p ∈ its ++ Led c, p ∈ news') (hw : ∀ q ∈ its, Off q.1 (Led c))
    (hk : ∀ p ∈ ps c, m' p.1 = some p.2) (hr : ∀ z, (∀ p ∈ ps c, z ≠ p.1) → stored.contains z = false → m' z = m₀ z) (hf : Facts c) (hp : P i c) :
    UnrEndW h₀ L s₁ its (TlS Led ps Facts stored m₀ P i) { s₁ with heap := h', toks := tk } :=
  ⟨h', tk, m', Led c, rfl, F, fun p hp => N p (hn p hp), fun p hp q hq => hw q hq p hp, c, rfl, hf, hk, hr, hp⟩
section
variable {prog : Program} {w : World} {A : Around} {E : Value → Shared → Prop} {s : Shared} {h₀ : Heap} {L : Addr} {m : Str → Option Value} {news : List (Addr × Obj)}
theorem li_add {D1 D2 : Addr} {ys ys2 : List Value} {n n2 : Nat} {Q : Value → Shared → Prop} (F : Fr h₀ L s.heap m) (N : News h₀ L s.heap news) (h1 : (D1, W.listOf ys.toArray n) ∈ news) (h2 : (D2, W.listOf ys2.toArray n2) ∈ news) (hsz : ys.length + ys2.length ≤ sizeLine)
    (h : ∀ D h', Fr h₀ L h' m → News h₀ L h' ((D, W.listOf (ys ++ ys2).toArray 0) :: news) → (∀ p ∈ news, p.1 < D) → Q (.ref D) { s with heap := h' }) :
    wpAny (model prog w) A (binaryOp .Add (.ref D1) (.ref D2)) Q E s := by
  have ho := (N _ h1).1
  have ho2 := (N _ h2).1
  refine concat_meets ⟨_, ho, rfl⟩ ⟨_, ho2, rfl⟩ noFill_list_add seq_list_add PySem.F.slot_list_add PySem.F.entry_list_add (PySem.F.args_list_add_2 _ _) (list_addW D1 D2 ys.toArray ys2.toArray n n2 none none #[] #[] (by simpa using hsz)) ⟨ho, ho2, ?_⟩
  refine h _ _ (F.push _) ?_ (fun q hq => Heap.lt_size (N q hq).1)
  have e : ys.toArray ++ ys2.toArray = (ys ++ ys2).toArray := by simp
  rw [e]
  exact News.push F N _ rfl
end
section
variable {prog : Program} {w : World} {A : Around} {h₀ : Heap} {L : Addr} {m : Str → Option Value} {env : Env} {elt : PySem.Expr} {x : Str} {scope : Scope} {cl : List (Str × Addr)} {s : Shared} {S : List (Addr × Obj) → Prop} {P : Nat → Value → Prop} {Fin : List Value → List (Addr × Obj) → Prop}
end
end Mine
end
section
open PySem PySem.W PyProof.Rows
namespace Mine
noncomputable def GcTurn (e : PySem.Expr) (d : Nat) (p : Pos) (target : PySem.Expr) (it acc : Value) (env : Env) (act : Sem Fin → Sem Fin) : Prop :=
  compTurn e d it acc env = (standAt p >>= fun _ => pyNext it >>= fun r => match r with
      | none => pure (.done .next)
      | some v => letOwnedTupleGo target it v >>= fun _ => assign target env v >>= fun _ => act (again (.compLoop e d it acc env)))
theorem fr_wr {h₀ h h' : Heap} {L : Addr} {m : Str → Option Value} {wr : List Addr} (F : Fr h₀ L h m) (k : ∀ b o, b ∉ wr → h.get? b = some o → h'.get? b = some o) (hL : L ∉ wr) (hw : ∀ b ∈ wr, h₀.get? b = none) : Fr h₀ L h' m := by
  obtain ⟨o, es, ep, e, r⟩ := F.ns
  refine ⟨⟨o, es, ep, k _ _ hL e, r⟩, fun b ob q => k _ _ (fun hb => ?_) (F.keep b ob q), F.above⟩
  rw [hw b hb] at q
  exact nomatch q
theorem news_wr {h₀ h h' : Heap} {L : Addr} {nx : List (Addr × Obj)} {wr : List Addr} (N : News h₀ L h nx) (k : ∀ b o, b ∉ wr → h.get? b = some o → h'.get? b = some o) (ha : ∀ p ∈ nx, p.1 ∉ wr) : News h₀ L h' nx := fun p hp => ⟨k _ _ (ha p hp) (N p hp).1, (N p hp).2⟩
section
variable {prog : Program} {w : World} {A : Around} {E : Value → Shared → Prop} {s : Shared} {h₀ : Heap} {L : Addr} {m : Str → Option Value}
noncomputable def GcEnd (h₀ : Heap) (L : Addr) (m : Str → Option Value) (ws : List (Addr × String)) (keep its : List (Addr × Obj)) (K : List (Addr × Obj) → Prop) (s₁ s₂ : Shared) : Prop :=
  ∃ h' tk nx, s₂ = { s₁ with heap := h', toks := tk } ∧ Fr h₀ L h' m ∧ News h₀ L h' (its ++ nx) ∧ (∀ p ∈ nx, p.1 ∉ ws.map (·.1)) ∧ SubL keep nx ∧ K nx
noncomputable def GcAct (prog : Program) (w : World) (A : Around) (act : Sem Fin → Sem Fin) (T : Shared → Prop) (E : Value → Shared → Prop) (s : Shared) : Prop :=
  ∀ (k : Sem Fin) (Q : Fin → Shared → Prop), (∀ s', T s' → wpAny (model prog w) A k Q E s') → wpAny (model prog w) A (act k) Q E s
theorem gc_loop {elt : PySem.Expr} {gens : List Comprehension} {scope : Scope} {pos p : Pos} {d : Nat} {target : PySem.Expr} {I : Addr} {acc : Value} {cenv : Env} {act : Sem Fin → Sem Fin} {R : Result → Shared → Prop} {fp wr : List Addr} {n : Nat} {P Md : Nat → Value → Heap → Prop} {St : Nat → Heap → Prop}
    (hT : GcTurn (.ListComp elt gens scope pos) d p target (.ref I) acc cenv act) (W : KTurns prog w A target I fp wr n P Md St) (ws : List (Addr × String)) (keep : List (Addr × Obj))
    (hobj : ∀ i h, St i h → ∃ its, Objs ws its ∧ ∀ q ∈ its, h.get? q.1 = some q.2) (hws : ∀ b ∈ ws.map (·.1), h₀.get? b = none ∧ b ≠ L) (hwr : ∀ b ∈ wr, b ∈ ws.map (·.1)) (hfp : ∀ b ∈ fp, b ∈ ws.map (·.1) ∨ ∃ o, (b, o) ∈ keep)
    (K : Nat → List (Addr × Obj) → Prop) {nx₀ : List (Addr × Obj)} (hst : St 0 s.heap) (F : Fr h₀ L s.heap m) (N : News h₀ L s.heap nx₀) (hap : ∀ q ∈ nx₀, q.1 ∉ ws.map (·.1)) (hkp : SubL keep nx₀) (hK : K 0 nx₀)
    (turn : ∀ i v nx its h tk, i < n → P i v h → K i nx → Objs ws its → (∀ q ∈ nx, q.1 ∉ ws.map (·.1)) → SubL keep nx → Fr h₀ L h m → News h₀ L h (its ++ nx) →
      wpAny (model prog w) A (assign target cenv v) (fun _ s₂ => GcAct prog w A act (GcEnd h₀ L m ws keep its (K (i + 1)) { s with heap := h, toks := tk }) (notedBy (model prog w) A cenv fun e s' => R (.error e) s') s₂) (notedBy (model prog w) A cenv fun e s' => R (.error e) s') { s with heap := h, toks := tk })
    (done : ∀ h tk nx, K n nx → Fr h₀ L h m → News h₀ L h nx → (∀ q ∈ nx, q.1 ∉ ws.map (·.1)) → R (.ok .next) { s with heap := h, toks := tk }) :
    codeAny (model prog w) A (.compLoop (.ListComp elt gens scope pos) d (.ref I) acc cenv) R s := by
  have hLw : L ∉ wr := fun h => (hws _ (hwr _ h)).2 rfl
  have hw0 : ∀ b ∈ wr, h₀.get? b = none := fun b hb => (hws _ (hwr _ hb)).1
  refine codeAny_loop rfl (fun k s' => ∃ i h' tk nx, s' = { s with heap := h', toks := tk } ∧ i ≤ n ∧ k = n + 1 - i ∧ St i h' ∧ Fr h₀ L h' m ∧ News h₀ L h' nx ∧ (∀ q ∈ nx, q.1 ∉ ws.map (·.1)) ∧ SubL keep nx ∧ K i nx) ?_ (n + 1)
    ⟨0, s.heap, s.toks, nx₀, rfl, Nat.zero_le _, rfl, hst, F, N, hap, hkp, hK⟩
  rintro k s' hXO
  refine ex4 hXO ?_; clear hXO; rintro i h' tk nx hXO
  refine an9 hXO ?_; clear hXO; rintro rfl hi rfl st F' N' ap hk hKi
  show wpAny _ A ((compTurn (.ListComp elt gens scope pos) d (.ref I) acc cenv).onRaise (fun x => do noteFrame x cenv; theTreesLotGoes x)) _ _ _
  refine wpAny_noted ?_
  rw [hT]
  refine wpAny_bind (wpAny_standAt (wpAny_bind ?_))
  by_cases hlt : i < n
  · refine W.item i _ _ _ hlt st fun v h₂ tk₂ hMd hk₂ => ?_
    dsimp only
    refine wpAny_bind (W.go i v _ _ _ hMd fun h₃ hP st₃ hk₃ => ?_)
    obtain ⟨its, hits, hval⟩ := hobj (i + 1) h₃ st₃
    have ap' : ∀ q ∈ nx, q.1 ∉ wr := fun q hq h => ap q hq (hwr _ h)
    have F₃ : Fr h₀ L h₃ m := fr_wr (fr_wr F' hk₂ hLw hw0) hk₃ hLw hw0
    have Nx₃ : News h₀ L h₃ nx := news_wr (news_wr N' hk₂ ap') hk₃ ap'
    have N₃ : News h₀ L h₃ (its ++ nx) := fun q hq => by
      rcases List.mem_append.mp hq with hq | hq
      · have hb : q.1 ∈ ws.map (·.1) := by rw [← hits.map]; exact List.mem_map.mpr ⟨q, hq, rfl⟩
        exact ⟨hval q hq, (hws _ hb).2, (hws _ hb).1⟩
      · exact Nx₃ q hq
    refine wpAny_bind (wpAny_mono (turn i v nx its h₃ tk₂ hlt hP hKi hits ap hk F₃ N₃) (fun _ s₂ h => h _ _ fun s₃ hE => ?_) fun _ _ e => e)
    refine ex3 hE ?_; clear hE; rintro h₄ tk₄ nx₄ hXO
    refine an6 hXO ?_; clear hXO; rintro rfl F₄ N₄ ap₄ hk₄ hK₄
    have st₄ : St (i + 1) h₄ := W.frame _ _ _ st₃ fun b hb o e => by
      rcases hfp b hb with h1 | ⟨o', h1⟩
      · have h2 : b ∈ its.map (·.1) := by rw [hits.map]; exact h1
        obtain ⟨q, hq, rfl⟩ := List.mem_map.mp h2
        have e1 := hval q hq
        rw [e] at e1
        rw [Option.some.inj e1]
        exact (N₄ q (List.mem_append_left _ hq)).1
      · have e1 := (Nx₃ _ (hk.mem _ h1)).1
        rw [e] at e1
        rw [Option.some.inj e1]
        exact (N₄ _ (List.mem_append_right _ (hk₄.mem _ h1))).1
    exact wpAny_pure ⟨rfl, n + 1 - (i + 1), by omega, i + 1, h₄, tk₄, nx₄, rfl, hlt, rfl, st₄, F₄, fun q hq => N₄ q (List.mem_append_right _ hq), ap₄, hk₄, hK₄⟩
  · obtain rfl : i = n := Nat.le_antisymm hi (Nat.not_lt.mp hlt)
    refine W.done _ _ _ st fun h₂ tk₂ hk₂ => ?_
    exact wpAny_pure (done h₂ tk₂ nx hKi (fr_wr F' hk₂ hLw hw0) (news_wr N' hk₂ fun q hq h => ap q hq (hwr _ h)) ap)
end
theorem gt_one (elt target iter : PySem.Expr) (scope : Scope) (pos : Pos) (it acc : Value) (env : Env) :
    GcTurn (.ListComp elt [⟨target, iter, [], 0⟩] scope pos) 0 iter.pos target it acc env (fun k => (eval elt env >>= fun x => call (.builtin "list.append") [acc, x] >>= fun _ => pure ()) >>= fun _ => k) := compTurn_list1 elt target iter scope pos it acc env
theorem gt_out (elt t1 i1 t2 i2 : PySem.Expr) (scope : Scope) (pos : Pos) (it acc : Value) (env : Env) :
    GcTurn (.ListComp elt [⟨t1, i1, [], 0⟩, ⟨t2, i2, [], 0⟩] scope pos) 0 i1.pos t1 it acc env (fun k => eval i2 env >>= fun x => standAt i2.pos >>= fun _ => foldedSetIterable i2 env x >>= fun x => holding [x] (pyIter x) >>= fun it2 => runOwn (.compStart (.ListComp elt [⟨t1, i1, [], 0⟩, ⟨t2, i2, [], 0⟩] scope pos) 1 it2 acc env) env >>= fun _ => k) := by rfl
theorem gt_in (elt t1 i1 t2 i2 : PySem.Expr) (scope : Scope) (pos : Pos) (it acc : Value) (env : Env) :
    GcTurn (.ListComp elt [⟨t1, i1, [], 0⟩, ⟨t2, i2, [], 0⟩] scope pos) 1 i2.pos t2 it acc env (fun k => (eval elt env >>= fun x => call (.builtin "list.append") [acc, x] >>= fun _ => pure ()) >>= fun _ => k) := by rfl
end Mine
end
section
open PySem PySem.W PyProof.Rows
namespace Mine
noncomputable def codeN : Array Nat := #[14, 10, 4, 1, 1, 22, 0, 31, 16, 127, 0, 13, 7, 22, 0, 31, 16, 127, 0, 1]
noncomputable def codeV : Array Nat := #[14, 14, 4, 1, 1, 9, 4294966783, 0, 0, 2147483648, 0, 0, 0, 0, 0, 13, 11, 9, 4294966783, 0, 0, 2147483648, 0, 0, 0, 0, 0, 1]
noncomputable def NoneIn (code : Array Nat) (ok : Nat → Prop) : Prop := ∀ c, ok c → ∀ seen, ∃ seen', Sre.inSet code c code.size 5 true seen = .ok (false, seen')
noncomputable def okN (c : Nat) : Prop := 32 ≤ c ∧ c ≠ 127
noncomputable def okV (c : Nat) : Prop := c = 9 ∨ okN c
theorem noneN : NoneIn codeN okN := by
  intro c h seen
  have h1 : ¬ c ≤ 31 := by have := h.1; omega
  have h2 : (c == 127) = false := by simpa using h.2
  refine ⟨((seen.add 22).add 16).add 0, ?_⟩
  show Sre.inSet codeN c 20 5 true seen = _
  rw [Sre.inSet]
  show (if (decide (0 ≤ c) && decide (c ≤ 31)) = true then _ else Sre.inSet codeN c 19 8 true _) = _
  rw [if_neg (by simp [h1]), Sre.inSet]
  show (if (c == 127) = true then _ else Sre.inSet codeN c 18 10 true _) = _
  rw [if_neg (by simp [h2]), Sre.inSet]
  rfl
theorem bitsV (k : Nat) (hk : k < 256) (h : okV k) : (codeV.getD (5 + (1 + k / 32)) 0).testBit (k % 32) = false := by
  have : ∀ k : Fin 256, (k.1 = 9 ∨ (32 ≤ k.1 ∧ k.1 ≠ 127)) → (codeV.getD (5 + (1 + k.1 / 32)) 0).testBit (k.1 % 32) = false := by decide +kernel
  exact this ⟨k, hk⟩ h
theorem noneV : NoneIn codeV okV := by
  intro c h seen
  refine ⟨(seen.add 9).add 0, ?_⟩
  show Sre.inSet codeV c 28 5 true seen = _
  rw [Sre.inSet]
  show (if (decide (c < 256) && (codeV.getD (5 + (1 + c / 32)) 0).testBit (c % 32)) = true then _ else Sre.inSet codeV c 27 14 true _) = _
  rw [if_neg (by
    intro e
    rw [Bool.and_eq_true, decide_eq_true_eq] at e
    rw [bitsV c e.1 h] at e
    exact nomatch e.2), Sre.inSet]
  rfl
theorem admitted_none {m : Sre.M} {ok : Nat → Prop} (h : NoneIn m.code ok) (hl : ∀ s, s < m.lim → ok (m.text.getD s 0)) : ∀ fuel s seen, ∃ seen', Sre.M.admitted m fuel s seen = .ok (none, seen')
  | 0, _, seen => ⟨seen, by rw [Sre.M.admitted]⟩
  | fuel + 1, s, seen => by
    rw [Sre.M.admitted]
    by_cases hs : s ≥ m.lim
    · exact ⟨seen, by rw [if_pos hs]⟩
    · rw [if_neg hs]
      obtain ⟨seen', e⟩ := h _ (hl s (by omega)) seen
      rw [e]
      exact admitted_none h hl fuel (s + 1) seen'
theorem attempt_none {m : Sre.M} {ok : Nat → Prop} (hf : m.hasFirstSet = true) (h : NoneIn m.code ok) (hl : ∀ s, s < m.lim → ok (m.text.getD s 0)) (ha : m.frames = []) (ho : m.outcome = none) (s : Nat) (first : Bool) :
    (m.attemptFrom s first).answer = some false ∧ (m.attemptFrom s first).frames = [] ∧ (m.attemptFrom s first).outcome = none := by
  unfold Sre.M.attemptFrom
  rw [if_neg (by rw [hf]; decide)]
  obtain ⟨seen', e⟩ := admitted_none h hl (m.lim + 1 - s) s m.seen
  rw [e]
  exact ⟨rfl, ha, ho⟩
theorem search_none {code text : Array Nat} {ok : Nat → Prop} (hc : code = codeN ∨ code = codeV) (h : NoneIn code ok) (ht : ∀ c ∈ text, ok c) :
    (Sre.forSearch code text 0 0 text.size false).answer = some false ∧ (Sre.forSearch code text 0 0 text.size false).frames = [] ∧ (Sre.forSearch code text 0 0 text.size false).outcome = none := by
  unfold Sre.forSearch
  dsimp only
  split
  · exact ⟨rfl, rfl, rfl⟩
  · refine attempt_none (ok := ok) (by rcases hc with rfl | rfl <;> rfl) h ?_ rfl rfl _ _
    intro s hs
    have hs' : s < text.size := hs
    show ok (text.getD s 0)
    have e : text.getD s 0 = text[s] := by simp [Array.getD, hs']
    rw [e]
    exact ht _ (Array.getElem_mem hs')
theorem run_none {m : Sre.M} (h : m.answer = some false ∧ m.frames = [] ∧ m.outcome = none) : (m.runFor 4).outcome = some .failed := by
  obtain ⟨h1, h2, h3⟩ := h
  have e : m.step = { m with outcome := some .failed } := by
    unfold Sre.M.step
    rw [if_neg (by rw [h3]; decide), h1, h2]
    rfl
  rw [Sre.M.runFor, if_neg (by rw [h3]; decide), e]
  rfl
section
open PySem.Builtin PySem.Builtin.Re
variable {prog : Program} {w : World} {A : Around} {E : Value → Shared → Prop} {s : Shared}
theorem slot_re_search : Slot "re.Pattern" "search" "re.Pattern.search" :=
  .of (owner := "re.Pattern") (n := "search") (by rw [typeLookup_type, builtinLookup_eq_fast]; kernel_rfl) (by decide +kernel) (by decide +kernel) (by decide +kernel)
    (by first | exact .inl (by decide +kernel) | exact .inr (by decide +kernel)) (by rw [isSubtype_type]; kernel_rfl)
theorem entry_re_search : entryFor table "re.Pattern.search" = some Builtin.«re.Pattern.search» := by first | exact entryFor_of_fast (by kernel_rfl) | exact entryFor_of_tree (by kernel_rfl)
theorem args_re_search (a b : Value) : argsOk "re.Pattern.search" ⟨[a, b], []⟩ := by unfold argsOk; kernel_rfl
theorem plainAttrs_re : PlainAttrs "re.Pattern" :=
  ⟨⟨"object.__getattribute__", by rw [typeLookup_type, builtinLookup_eq_fast]; kernel_rfl, by decide +kernel⟩, by rw [typeLookup_type, builtinLookup_eq_fast]; kernel_rfl⟩
theorem type_re_search : typeOf (.builtin "re.Pattern.search") = pure (.type "method_descriptor") := by show builtinType _ = _; rw [builtinType_eq_fast]; kernel_rfl
theorem get_search {P : Addr} {oP : Obj} {pl : Sem Bool} {Q : Value × List Value → Shared → Prop} (hP : s.heap.get? P = some oP) (hPc : oP.cls = .type "re.Pattern") (hPd : oP.dict = none) (h : Q (.builtin "re.Pattern.search", [.ref P]) s) :
    wpAny (model prog w) A (getMethod (.ref P) "search" pl) Q E s :=
  getMethod_builtin ⟨oP, hP, hPc⟩ plainAttrs_re slot_re_search type_re_search (fun a e => by cases e; exact ⟨oP, hP, hPd⟩) h
theorem rules_pass {p : Nat → Bool} {nm : Nat → String} {Q : PUnit → Shared → Prop} (l : List Nat) (h : Q ⟨⟩ s) :
    wpAny (model prog w) A (forIn l PUnit.unit fun i _ => do
      if p i then rule (nm i)
      pure (ForInStep.yield PUnit.unit)) Q E s := by
  refine wpAny_forIn_list _ (fun _ _ s' => s' = s) Q ?_ ?_ l _ rfl
  · rintro x rest b s' rfl
    cases hp : p x
    · simp only [Bool.false_eq_true, if_false]
      first | exact wpAny_pure rfl | exact wpAny_bind (wpAny_pure (wpAny_pure rfl))
    · simp only [if_true]
      exact wpAny_bind (wpAny_rule (wpAny_pure rfl))
  · rintro b s' rfl
    exact h
theorem runToEnd_none {m : Sre.M} {Q : Option Sre.M → Shared → Prop} (hm : m.answer = some false ∧ m.frames = [] ∧ m.outcome = none) (h : Q none s) : wpAny (model prog w) A (reRunToEnd m) Q E s := by
  have ho := run_none hm
  unfold reRunToEnd
  refine wpAny_bind ?_
  rw [show (2 ^ 64 : Nat) = 18446744073709551615 + 1 from rfl, reDrive]
  rw [show reTurnSteps = 4 from rfl, if_pos (by rw [ho]; rfl)]
  refine wpAny_pure ?_
  refine wpAny_bind ?_
  refine rules_pass _ ?_
  rw [ho]
  exact wpAny_pure h
theorem call_search {P C : Addr} {v : Str} {t : Tok} {code : Array Nat} {ok : Nat → Prop} {oP oC : Obj} {fs items : Array Value} {n : Nat} {Q : Value → Shared → Prop} (hP : s.heap.get? P = some oP) (hPc : oP.cls = .type "re.Pattern") (hPd : oP.data = .fields fs)
    (h2 : fs.getD 2 .none = .int 0 0) (h5 : fs.getD 5 .none = .ref C) (h6 : fs.getD 6 .none = .int 0 0) (hC : s.heap.get? C = some oC) (hCd : oC.data = .seq items n) (hCi : (items.map reRawOf).map (·.toNat) = code)
    (hc : code = codeN ∨ code = codeV) (hno : NoneIn code ok) (hv : ∀ c ∈ v.cps, ok c) (hl : v.cps.size < 2 ^ 63) (h : Q .none s) :
    wpAny (model prog w) A (call (.builtin "re.Pattern.search") [.ref P, .str v t]) Q E s := by
  refine wpAny_call_entry slot_re_search ⟨oP, hP, hPc⟩ entry_re_search ?_ (args_re_search _ _)
  unfold Builtin.«re.Pattern.search»
  refine wpAny_bind ?_
  unfold reTarget
  dsimp only
  refine wpAny_bind (wpAny_of_eq (a := [some (.str v t), none, none]) (by first | rfl | kernel_rfl!) ?_)
  dsimp only
  refine wpAny_bind (wpAny_pure ?_)
  refine wpAny_bind (wpAny_pure ?_)
  refine wpAny_bind (wpAny_fieldsOf hP hPd ?_)
  refine wpAny_bind ?_
  unfold reTextOf
  refine wpAny_bind (wpAny_pure ?_)
  dsimp only
  refine wpAny_pure ?_
  dsimp only
  rw [h6, h5, h2]
  rw [if_neg (by decide), if_neg (by decide)]
  refine wpAny_bind ?_
  unfold reNoCollectionInside
  rw [if_neg (by decide)]
  refine wpAny_pure ?_
  refine wpAny_bind ?_
  unfold reRawItems
  refine wpAny_bind (wpAny_seqItems hC hCd ?_)
  refine wpAny_pure ?_
  dsimp only [Option.getD_some]
  refine wpAny_pure ?_
  dsimp only
  have e1 : min (2 ^ 63 - 1 : Int).toNat v.cps.size = v.cps.size := by
    have : (2 ^ 63 - 1 : Int).toNat = 9223372036854775807 := by decide
    omega
  have e2 : min (Int.toNat 0) v.cps.size = 0 := Nat.zero_min _
  rw [hCi, e1, e2, show reRawNat (.int 0 0) = 0 from rfl]
  unfold reAnswer
  refine wpAny_bind (runToEnd_none (search_none hc hno hv) ?_)
  exact wpAny_pure ⟨_, rfl, h⟩
end
end Mine
end
section
open PySem PySem.W PyProof.Rows
namespace Mine
section
variable {prog : Program} {w : World} {A : Around} {E : Value → Shared → Prop} {s : Shared} {h₀ : Heap} {L : Addr} {m : Str → Option Value} {env : Env}
theorem gc_comp {elt target iter : PySem.Expr} {rest : List Comprehension} {scope : Scope} {cl : List (Str × Addr)} {pos : Pos} {Q : Value → Shared → Prop}
    (hclos : closureFor scope env = pure cl) (hcell : ∀ y ∈ scope.names, y.2 ≠ .cell) (hkind : scope.kind = .function) (hnames : ∀ y ∈ scope.names, y.2 = .local → scope.names.lookup y.1 = some .local)
    (h : wpAny (model prog w) A (eval iter env) (fun xv s₁ => wpAny (model prog w) A (pyIter xv) (fun it s₂ => ∃ I news, it = .ref I ∧ Fr h₀ L s₂.heap m ∧ News h₀ L s₂.heap news ∧
      (∀ h tk (Q : Value → Shared → Prop) (E : Value → Shared → Prop), (∀ b o, s₂.heap.get? b = some o → h.get? b = some o) → Q (.ref I) { s₂ with heap := h, toks := tk } → wpAny (model prog w) A (pyIter (.ref I)) Q E { s₂ with heap := h, toks := tk }) ∧
      ∀ D C oC mC h₁ tk, D = s₂.heap.objs.size → C = D + 1 → (∀ b o, s₂.heap.get? b = some o → h₁.get? b = some o) → LCg.NsObj oC mC → Fr h₀ L h₁ m → News h₀ L h₁ ((C, oC) :: (D, LCg.lst []) :: news) →
        codeAny (model prog w) A (.compLoop (.ListComp elt (⟨target, iter, [], 0⟩ :: rest) scope pos) 0 (.ref I) (.ref D) (compEnvC scope cl C env)) (compPost (model prog w) A E none Q (.ref D) C) { s₂ with heap := h₁, toks := tk }) E s₁) E s)
    (hs : ∀ x, foldedSetIterable iter env x = pure x) :
    wpAny (model prog w) A (eval (.ListComp elt (⟨target, iter, [], 0⟩ :: rest) scope pos) env) Q E s := by
  rw [eval_ListComp]
  refine wpAny_comprehension_free (use := none) rfl hs hclos hkind hnames (wpAny_mono h (fun xv s₁ h₁ => wpAny_mono h₁ (fun it s₂ h₂ => ?_) fun _ _ e => e) fun _ _ e => e)
  refine ex2 h₂ ?_; clear h₂; rintro I news hXO
  refine an5 hXO ?_; clear hXO; rintro rfl F N self R
  refine wpAny_newObj_type (wpAny_newFunctionEnv hcell (by intro y hy; simp at hy) (fun h₁ hns₁ hsb₁ => ?_) hkind)
  dsimp only at hns₁ hsb₁ ⊢
  generalize hH2 : s₂.heap.push { cls := .type "list", dict := none, data := .seq ([] : List Value).toArray } = H2 at hns₁ hsb₁ ⊢
  have hC : H2.objs.size = s₂.heap.objs.size + 1 := by rw [← hH2, Heap.size_push]
  have hDC : s₂.heap.objs.size ≠ H2.objs.size := by rw [hC]; exact Nat.ne_of_lt (Nat.lt_succ_self _)
  have old : ∀ b o, s₂.heap.get? b = some o → h₁.get? b = some o := fun b o e => hsb₁.extBut b o (by rw [hC]; exact Nat.ne_of_lt (Nat.lt_succ_of_lt (Heap.lt_size e))) (Heap.get?_push_of_some _ (hH2 ▸ Heap.get?_push_of_some _ e))
  have hacc : h₁.get? s₂.heap.objs.size = some (LCg.lst []) := hsb₁.extBut _ _ hDC (Heap.get?_push_of_some _ (hH2 ▸ Heap.get?_push_size _ rfl))
  have fresh₀ : ∀ a, s₂.heap.objs.size ≤ a → h₀.get? a = none := fun a ha => by
    cases e : h₀.get? a with
    | none => rfl
    | some o' => exact absurd (Heap.lt_size (F.keep a o' e)) (Nat.not_lt.mpr ha)
  have hLlt : L < s₂.heap.objs.size := F.ns.lt
  obtain ⟨oC, heC, hoC⟩ := LCg.ns_obj hns₁
  have N₁ : News h₀ L h₁ ((H2.objs.size, oC) :: (s₂.heap.objs.size, LCg.lst []) :: news) := fun p hp => by
    rcases List.mem_cons.mp hp with rfl | hp
    · exact ⟨heC, by rw [hC]; exact Nat.ne_of_gt (Nat.lt_succ_of_lt hLlt), fresh₀ _ (by rw [hC]; exact Nat.le_succ _)⟩
    rcases List.mem_cons.mp hp with rfl | hp
    · exact ⟨hacc, Nat.ne_of_gt hLlt, fresh₀ _ (Nat.le_refl _)⟩
    · exact ⟨old _ _ (N p hp).1, (N p hp).2⟩
  have loop := fun tk => R s₂.heap.objs.size H2.objs.size oC _ h₁ tk rfl hC old hoC (F.keeps old) N₁
  exact codeAny_compStart_list (loop _) (self h₁ _ _ _ old (loop _))
theorem gc_fin {C D : Addr} {oC : Obj} {mC : Str → Option Value} {ys : List Value} {nx : List (Addr × Obj)} {Q : Value → Shared → Prop} {h : Heap} {tk : Nat} (F : Fr h₀ L h m) (N : News h₀ L h ((C, oC) :: (D, LCg.lst ys) :: nx)) (hC : LCg.NsObj oC mC) (off : Off C ((D, LCg.lst ys) :: nx))
    (k : ∀ h', Fr h₀ L h' m → News h₀ L h' ((D, LCg.lst ys) :: nx) → Q (.ref D) { s with heap := h', toks := tk }) : compPost (model prog w) A E none Q (.ref D) C (.ok .next) { s with heap := h, toks := tk } := by
  have z := N (C, oC) (.head _)
  exact ⟨mC, hC.ns z.1, fun h' hs => k h' (F.change hs z.2.1 z.2.2) fun p hp => ⟨hs.extBut _ _ (off p hp) (N p (.tail _ hp)).1, (N p (.tail _ hp)).2⟩⟩
theorem gc_assign1 {x : Str} {px : Pos} {v : Value} {scope : Scope} {cl : List (Str × Addr)} {C : Addr} {oC : Obj} {mC : Str → Option Value} {pre post : List (Addr × Obj)} {Q : Unit → Shared → Prop} (hkind : scope.kind = .function) (hx : scope.names.lookup x = some .local) (F : Fr h₀ L s.heap m) (N : News h₀ L s.heap (pre ++ (C, oC) :: post)) (hC : LCg.NsObj oC mC) (h1 : Off C pre) (h2 : Off C post)
    (k : ∀ h' tk oC', LCg.NsObj oC' (fun y => if y = x then some v else mC y) → Fr h₀ L h' m → News h₀ L h' (pre ++ (C, oC') :: post) → Q () { s with heap := h', toks := tk }) :
    wpAny (model prog w) A (assign (.Name x px) (compEnvC scope cl C env) v) Q E s := by
  have z := N (C, oC) (List.mem_append_right _ (.head _))
  refine wpAny_assign_Name (wpAny_storeName_local (lookup_relabel_local hx) (hC.ns z.1) (fun h' hn hs => ?_) (by simp [compEnvC, relabel, hkind]))
  obtain ⟨oC', ho', hC'⟩ := LCg.ns_obj hn
  exact k h' _ oC' hC' (F.change hs z.2.1 z.2.2) (N.setIn h1 h2 hs ho')
theorem gc_assign2 {x x₂ : Str} {px px₂ tp : Pos} {kk : Nat} {t : Addr} {v₁ v₂ : Value} {scope : Scope} {cl : List (Str × Addr)} {C : Addr} {oC : Obj} {mC : Str → Option Value} {pre post : List (Addr × Obj)} {Q : Unit → Shared → Prop} (hh : A.handled = none) (hkind : scope.kind = .function) (hx : scope.names.lookup x = some .local) (hx₂ : scope.names.lookup x₂ = some .local)
    (ht : IsTup s.heap t #[v₁, v₂]) (F : Fr h₀ L s.heap m) (N : News h₀ L s.heap (pre ++ (C, oC) :: post)) (hC : LCg.NsObj oC mC) (h1 : Off C pre) (h2 : Off C post)
    (k : ∀ h' tk oC', LCg.NsObj oC' (fun y => if y = x₂ then some v₂ else if y = x then some v₁ else mC y) → Fr h₀ L h' m → News h₀ L h' (pre ++ (C, oC') :: post) → Q () { s with heap := h', toks := tk }) :
    wpAny (model prog w) A (assign (.Tuple [.Name x px, .Name x₂ px₂] kk tp) (compEnvC scope cl C env) (.ref t)) Q E s := by
  refine assign_Tuple_tuple hh ht rfl rfl fun h₅ he => ?_
  have he' : ∀ b o, s.heap.get? b = some o → h₅.get? b = some o := fun b o e => he b o (Nat.ne_of_lt (Heap.lt_size e)) e
  have F₅ := F.keeps he'
  have N₅ : News h₀ L h₅ (pre ++ (C, oC) :: post) := fun p hp => ⟨he' _ _ (N p hp).1, (N p hp).2⟩
  refine assignInOrder_cons (gc_assign1 (s := { s with heap := h₅ }) hkind hx F₅ N₅ hC h1 h2 fun h₆ tk₆ o₆ hC₆ F₆ N₆ => ?_)
  refine assignInOrder_cons (gc_assign1 (s := { s with heap := h₆, toks := tk₆ }) hkind hx₂ F₆ N₆ hC₆ h1 h2 fun h₇ tk₇ o₇ hC₇ F₇ N₇ => ?_)
  exact assignInOrder_nil (k h₇ tk₇ o₇ hC₇ F₇ N₇)
theorem gc_emit {elt : PySem.Expr} {cenv : Env} {D : Addr} {T : Shared → Prop} {E' : Value → Shared → Prop} (h : wpAny (model prog w) A (eval elt cenv) (fun y s₄ => wpAny (model prog w) A (call (.builtin "list.append") [.ref D, y]) (fun _ s₅ => T s₅) E' s₄) E' s) :
    GcAct prog w A (fun k => (eval elt cenv >>= fun x => call (.builtin "list.append") [.ref D, x] >>= fun _ => pure ()) >>= fun _ => k) T E' s := fun _ _ hk =>
  wpAny_bind (wpAny_bind (wpAny_mono h (fun _ _ h₄ => wpAny_bind (wpAny_mono h₄ (fun _ _ h₅ => wpAny_pure (hk _ h₅)) fun _ _ e => e)) fun _ _ e => e))
theorem gc_append {D : Addr} {ys : List Value} {y : Value} {pre post : List (Addr × Obj)} {Q : Value → Shared → Prop} (F : Fr h₀ L s.heap m) (N : News h₀ L s.heap (pre ++ (D, LCg.lst ys) :: post)) (h1 : Off D pre) (h2 : Off D post) (hsz : ys.length ≤ sizeLine)
    (k : ∀ h', Fr h₀ L h' m → News h₀ L h' (pre ++ (D, LCg.lst (ys ++ [y])) :: post) → Q .none { s with heap := h' }) : wpAny (model prog w) A (call (.builtin "list.append") [.ref D, y]) Q E s := by
  have z := N (D, LCg.lst ys) (List.mem_append_right _ (.head _))
  refine append_at (hsz := by rw [List.size_toArray]; exact hsz) z.1 fun h' hs hD => ?_
  exact k h' (F.change hs z.2.1 z.2.2) (N.setIn h1 h2 hs (hD.trans (congrArg some (LCg.lst_snoc ys y))))
end
noncomputable def PairIn (tl : List (Addr × Obj)) (y : Value) (p : Int × Int) : Prop := ∃ a t1 t2, y = .ref a ∧ (a, ({ cls := .type "tuple", data := .seq #[.int p.1 t1, .int p.2 t2] } : Obj)) ∈ tl
theorem PairIn.mono {tl tl' : List (Addr × Obj)} {y : Value} {p : Int × Int} (h : PairIn tl y p) (k : ∀ q ∈ tl, q ∈ tl') : PairIn tl' y p := by
  obtain ⟨a, t1, t2, e, hm⟩ := h
  exact ⟨a, t1, t2, e, k _ hm⟩
section
variable {prog : Program} {w : World} {A : Around} {E : Value → Shared → Prop} {s : Shared} {h₀ : Heap} {L : Addr} {m : Str → Option Value} {env : Env}
theorem gc_start1 {elt t1 i1 t2 i2 : PySem.Expr} {scope : Scope} {pos : Pos} {it acc : Value} {R : Result → Shared → Prop}
    (h0 : codeAny (model prog w) A (.compLoop (.ListComp elt [⟨t1, i1, [], 0⟩, ⟨t2, i2, [], 0⟩] scope pos) 1 it acc env) R s)
    (h : wpAny (model prog w) A (pyIter it) (fun it' s' => codeAny (model prog w) A (.compLoop (.ListComp elt [⟨t1, i1, [], 0⟩, ⟨t2, i2, [], 0⟩] scope pos) 1 it' acc env) R s') (notedBy (model prog w) A env fun x s' => R (.error x) s') s) :
    codeAny (model prog w) A (.compStart (.ListComp elt [⟨t1, i1, [], 0⟩, ⟨t2, i2, [], 0⟩] scope pos) 1 it acc env) R s := by
  refine codeAny_of_tree ?_
  show wpAny _ _ ((compStart (.ListComp elt [⟨t1, i1, [], 0⟩, ⟨t2, i2, [], 0⟩] scope pos) 1 it acc env).onRaise (fun x => do noteFrame x env; standAt theWindowsPlace)) _ _ s
  refine wpAny_notedAt ?_
  unfold compStart
  show wpAny _ _ (ask >>= _) _ _ s
  refine wpAny_bind (wpAny_askSetting (wpAny_ite ?_))
  split
  · first
      | exact wpAny_bind (wpAny_pure (wpAny_pure (And.intro rfl h0)))
      | exact wpAny_pure (And.intro rfl h0)
  · first
      | exact wpAny_bind (wpAny_rule (wpAny_bind (wpAny_standAt (wpAny_bind (wpAny_mono h (fun it' s' h' => wpAny_pure (And.intro rfl h')) fun _ _ x => x)))))
      | (refine wpAny_bind (wpAny_rule ?_); show wpAny _ _ (standAt i2.pos >>= _) _ _ s; exact wpAny_bind (wpAny_standAt (wpAny_bind (wpAny_mono h (fun it' s' h' => wpAny_pure (And.intro rfl h')) fun _ _ x => x))))
end
end Mine
end
section
open PySem PySem.W PyProof.Rows
namespace Mine
theorem Off.cons {d : Addr} {p : Addr × Obj} {l : List (Addr × Obj)} (h : p.1 ≠ d) (k : Off d l) : Off d (p :: l) := fun q hq => by
  rcases List.mem_cons.mp hq with rfl | hq
  · exact h
  · exact k q hq
theorem Off.tail {d : Addr} {p : Addr × Obj} {l : List (Addr × Obj)} (h : Off d (p :: l)) : Off d l := fun q hq => h q (.tail _ hq)
theorem off_nil {d : Addr} : Off d [] := fun _ h => nomatch h
section
variable (prog : Program) (w : World) (A : Around) (h₀ : Heap) (L : Addr) (m : Str → Option Value) (s : Shared)
end
section
variable {prog : Program} {w : World} {A : Around} {E : Value → Shared → Prop} {s : Shared} {h₀ : Heap} {L : Addr} {m : Str → Option Value} {env : Env}
end
end Mine
end
section
open PySem PySem.W PyProof.Rows
namespace Mine
noncomputable def Offs (ws : List (Addr × String)) (l : List (Addr × Obj)) : Prop := ∀ q ∈ l, q.1 ∉ ws.map (·.1)
theorem Offs.app {ws : List (Addr × String)} {l r : List (Addr × Obj)} (h : Offs ws l) (k : Offs ws r) : Offs ws (l ++ r) := fun q hq => (List.mem_append.mp hq).elim (h q) (k q)
theorem subL_left {k : List (Addr × Obj)} : ∀ {l : List (Addr × Obj)}, SubL k l → ∀ {l' : List (Addr × Obj)}, (∀ q ∈ l, q ∈ l') → SubL k l' := by
  induction k with
  | nil => exact fun _ _ _ => trivial
  | cons q r ih => exact fun h _ s => ⟨s _ h.1, ih h.2 s⟩
section
variable {prog : Program} {w : World} {A : Around} {E : Value → Shared → Prop} {s : Shared} {h₀ : Heap} {L : Addr} {m : Str → Option Value} {env : Env}
noncomputable def GpEl (h₀ : Heap) (L : Addr) (m : Str → Option Value) (s : Shared) (ws : List (Addr × String)) (its : List (Addr × Obj)) (C : Addr) (oC : Obj) (D : Addr) (oD : Obj) (pre tl : List (Addr × Obj)) (R : List (Addr × Obj) → Value → Prop) (y : Value) (s' : Shared) : Prop :=
  ∃ h' tk' tn, s' = { s with heap := h', toks := tk' } ∧ Fr h₀ L h' m ∧ News h₀ L h' (its ++ (C, oC) :: (D, oD) :: (pre ++ (tl ++ tn))) ∧ Offs ws tn ∧ Off C tn ∧ Off D tn ∧ R (tl ++ tn) y
theorem gc_pair {elt iter : PySem.Expr} {x1 x2 : Str} {p1 p2 tp : Pos} {kk : Nat} {scope : Scope} {cl : List (Str × Addr)} {pos : Pos} {Q : Value → Shared → Prop} (hh : A.handled = none)
    (hclos : closureFor scope env = pure cl) (hcell : ∀ y ∈ scope.names, y.2 ≠ .cell) (hkind : scope.kind = .function) (hnames : ∀ y ∈ scope.names, y.2 = .local → scope.names.lookup y.1 = some .local) (hx1 : scope.names.lookup x1 = some .local) (hx2 : scope.names.lookup x2 = some .local) (hxx : x1 ≠ x2)
    (h : wpAny (model prog w) A (eval iter env) (fun xv s₁ => wpAny (model prog w) A (pyIter xv) (fun it s₂ => ∃ (I : Addr) (fp wr : List Addr) (n : Nat) (P Md : Nat → Value → Heap → Prop) (St : Nat → Heap → Prop) (ws : List (Addr × String)) (keep pre : List (Addr × Obj)) (h₂ : Heap) (tk₂ : Nat) (PP : Nat → Value → Value → Prop) (R : List (Addr × Obj) → Nat → Value → Prop),
      it = .ref I ∧ s₂ = { s with heap := h₂, toks := tk₂ } ∧ KTurns prog w A (.Tuple [.Name x1 p1, .Name x2 p2] kk tp) I fp wr n P Md St ∧ St 0 h₂ ∧ Fr h₀ L h₂ m ∧ News h₀ L h₂ pre ∧
      (∀ i h, St i h → ∃ its, Objs ws its ∧ ∀ q ∈ its, h.get? q.1 = some q.2) ∧ (∀ b ∈ ws.map (·.1), h₀.get? b = none ∧ b ≠ L ∧ b < h₂.objs.size) ∧ (∀ b ∈ wr, b ∈ ws.map (·.1)) ∧ (∀ b ∈ fp, b ∈ ws.map (·.1) ∨ ∃ o, (b, o) ∈ keep) ∧ Offs ws pre ∧ SubL keep pre ∧
      (∀ h tk (Q : Value → Shared → Prop) (E : Value → Shared → Prop), (∀ b o, h₂.get? b = some o → h.get? b = some o) → Q (.ref I) { s with heap := h, toks := tk } → wpAny (model prog w) A (pyIter (.ref I)) Q E { s with heap := h, toks := tk }) ∧
      (∀ i v h, i < n → P i v h → News h₀ L h pre → ∃ T v1 v2, v = .ref T ∧ IsTup h T #[v1, v2] ∧ PP i v1 v2) ∧ n ≤ 10000 ∧ (∀ tl tl' i y, R tl i y → (∀ q ∈ tl, q ∈ tl') → R tl' i y) ∧
      (∀ i v1 v2 C oC mC D ys tl its h tk (E' : Value → Shared → Prop), i < n → PP i v1 v2 → LCg.NsObj oC mC → mC x1 = some v1 → mC x2 = some v2 → Objs ws its → Fr h₀ L h m → News h₀ L h (its ++ (C, oC) :: (D, LCg.lst ys) :: (pre ++ tl)) →
        wpAny (model prog w) A (eval elt (compEnvC scope cl C env)) (GpEl h₀ L m s ws its C oC D (LCg.lst ys) pre tl (fun tl' y => R tl' i y)) E' { s with heap := h, toks := tk }) ∧
      (∀ D ys tl h tk, All2 (fun i y => R tl i y) (List.range n) ys → Off D (pre ++ tl) → Fr h₀ L h m → News h₀ L h ((D, LCg.lst ys) :: (pre ++ tl)) → Q (.ref D) { s with heap := h, toks := tk })) E s₁) E s)
    (hs1 : ∀ x, foldedSetIterable iter env x = pure x) :
    wpAny (model prog w) A (eval (.ListComp elt [⟨.Tuple [.Name x1 p1, .Name x2 p2] kk tp, iter, [], 0⟩] scope pos) env) Q E s := by
  refine gc_comp (h₀ := h₀) (L := L) (m := m) hclos hcell hkind hnames (wpAny_mono h (fun xv s₁ h₁ => wpAny_mono h₁ (fun it s₂ h₂ => ?_) fun _ _ e => e) fun _ _ e => e) hs1
  refine ex9 h₂ ?_; clear h₂; rintro I fp wr n P Md St ws keep hXO
  refine ex5 hXO ?_; clear hXO; rintro pre hb tkb PP R hXO
  refine an9 hXO ?_; clear hXO; rintro rfl rfl W hst F N hobj hws hXO
  refine an9 hXO ?_; clear hXO; rintro hwr hfp hap hkp self hpair hn hR hXO
  refine an2 hXO ?_; clear hXO; rintro el fin
  refine ⟨I, pre, rfl, F, N, self, ?_⟩
  intro D C oC mC h₁ tk hD hC old hoC F₁ N₁
  have hD : D = hb.objs.size := hD
  have hClt : D < C := by omega
  have hwlt : ∀ b ∈ ws.map (·.1), b ≠ D ∧ b ≠ C := fun b hb' => by
    have h1 : b < D := by rw [hD]; exact (hws b hb').2.2
    exact ⟨Nat.ne_of_lt h1, Nat.ne_of_lt (Nat.lt_trans h1 hClt)⟩
  have offC : ∀ o : Obj, ∀ ws' : List (Addr × Obj), Offs ws ws' → Offs ws ((C, o) :: ws') := fun o ws' k q hq hm => by
    rcases List.mem_cons.mp hq with rfl | hq
    · exact (hwlt _ hm).2 rfl
    · exact k q hq hm
  have offD : ∀ o : Obj, ∀ ws' : List (Addr × Obj), Offs ws ws' → Offs ws ((D, o) :: ws') := fun o ws' k q hq hm => by
    rcases List.mem_cons.mp hq with rfl | hq
    · exact (hwlt _ hm).1 rfl
    · exact k q hq hm
  have hplt : ∀ q ∈ pre, q.1 < D := fun q hq => by rw [hD]; exact Heap.lt_size (N q hq).1
  refine gc_loop (s := { s with heap := h₁, toks := tk }) (gt_one elt _ iter scope pos _ _ _) W ws keep hobj (fun b hb' => ⟨(hws b hb').1, (hws b hb').2.1⟩) hwr hfp
    (fun i nx => ∃ oC mC ys tl, nx = (C, oC) :: (D, LCg.lst ys) :: (pre ++ tl) ∧ LCg.NsObj oC mC ∧ All2 (fun i y => R tl i y) (List.range i) ys ∧ Off C ((D, LCg.lst ys) :: (pre ++ tl)) ∧ Off D (pre ++ tl) ∧ Offs ws (pre ++ tl))
    (W.frame _ _ _ hst fun b _ o e => old b o e) F₁ N₁ (offC _ _ (offD _ _ hap)) (subL_left hkp fun q hq => .tail _ (.tail _ hq))
    ⟨oC, mC, [], [], by rw [List.append_nil], hoC, .nil, Off.cons (Nat.ne_of_lt hClt) fun q hq => Nat.ne_of_lt (Nat.lt_trans (hplt q (by simpa using hq)) hClt), fun q hq => Nat.ne_of_lt (hplt q (by simpa using hq)), by rw [List.append_nil]; exact hap⟩ ?turn ?done
  case done =>
    rintro h' tk' nx hZ F' N' -
    refine ex4 hZ ?_; clear hZ; rintro oC mC ys tl hXO
    refine an6 hXO ?_; clear hXO; rintro rfl hoC hA oCo oDo -
    exact gc_fin F' N' hoC oCo fun h'' F'' N'' => fin D ys tl h'' tk' hA oDo F'' N''
  case turn =>
    rintro i v nx its h' tk' hi hP hZ hits ap - F' N'
    refine ex4 hZ ?_; clear hZ; rintro oC mC ys tl hXO
    refine an6 hXO ?_; clear hXO; rintro rfl hoC hA oCo oDo oWo
    have hXO := hpair i v h' hi hP (fun q hq => N' q (List.mem_append_right _ (.tail _ (.tail _ (List.mem_append_left _ hq)))))
    refine ex3 hXO ?_; clear hXO; rintro T v1 v2 hXO
    refine an3 hXO ?_; clear hXO; rintro rfl hT hPP
    have hitsC : Off C its := fun q hq => (hwlt q.1 (by rw [← hits.map]; exact List.mem_map.mpr ⟨q, hq, rfl⟩)).2
    have hitsD : Off D its := fun q hq => (hwlt q.1 (by rw [← hits.map]; exact List.mem_map.mpr ⟨q, hq, rfl⟩)).1
    refine gc_assign2 (s := { s with heap := h', toks := tk' }) (pre := its) hh hkind hx1 hx2 hT F' N' hoC hitsC oCo fun h₅ tk₅ oC₅ hC₅ F₅ N₅ => ?_
    refine gc_emit (wpAny_mono (el i v1 v2 C oC₅ _ D ys tl its h₅ tk₅ _ hi hPP hC₅ (by simp [hxx]) (by simp) hits F₅ N₅) (fun y s₆ h₆ => ?_) fun _ _ e => e)
    refine ex3 h₆ ?_; clear h₆; rintro h₆ tk₆ tn hXO
    refine an7 hXO ?_; clear hXO; rintro rfl F₆ N₆ oWn oCn oDn hRn
    have hys : ys.length ≤ sizeLine := by
      have e := hA.length
      rw [List.length_range] at e
      rw [PySem.sizeLine_eq]
      omega
    refine gc_append (s := { s with heap := h₆, toks := tk₆ }) (pre := its ++ [(C, oC₅)]) (post := pre ++ (tl ++ tn)) F₆ (by rw [List.append_assoc]; exact N₆) (Off.app hitsD (Off.cons (Nat.ne_of_gt hClt) off_nil)) (by rw [← List.append_assoc]; exact Off.app oDo oDn) hys fun h₇ F₇ N₇ => ?_
    refine ⟨h₇, tk₆, (C, oC₅) :: (D, LCg.lst (ys ++ [y])) :: (pre ++ (tl ++ tn)), rfl, F₇, by rw [List.append_assoc] at N₇; exact N₇, ?_, subL_left hkp (fun q hq => .tail _ (.tail _ (List.mem_append_left _ hq))), oC₅, _, ys ++ [y], tl ++ tn, rfl, hC₅, ?_, ?_, ?_, ?_⟩
    · exact offC _ _ (offD _ _ (by rw [← List.append_assoc]; exact Offs.app oWo oWn))
    · rw [List.range_succ]
      exact (hA.imp fun a b h => hR _ _ _ _ h fun q hq => List.mem_append_left _ hq).snoc hRn
    · refine Off.cons (Nat.ne_of_lt hClt) ?_
      rw [← List.append_assoc]
      exact Off.app oCo.tail oCn
    · rw [← List.append_assoc]; exact Off.app oDo oDn
    · rw [← List.append_assoc]; exact Offs.app oWo oWn
end
section
variable {prog : Program} {w : World} {A : Around} {E : Value → Shared → Prop} {s : Shared} {h₀ : Heap} {L : Addr} {m : Str → Option Value} {env : Env}
noncomputable def GpSrc (prog : Program) (w : World) (A : Around) (h₀ : Heap) (L : Addr) (m : Str → Option Value) (env : Env) (s : Shared) (elt : PySem.Expr) (x1 x2 : Str) (p1 p2 tp : Pos) (kk : Nat) (scope : Scope) (cl : List (Str × Addr)) (Q : Value → Shared → Prop) (it : Value) (s₂ : Shared) : Prop :=
  ∃ (I : Addr) (fp wr : List Addr) (n : Nat) (P Md : Nat → Value → Heap → Prop) (St : Nat → Heap → Prop) (ws : List (Addr × String)) (keep pre : List (Addr × Obj)) (h₂ : Heap) (tk₂ : Nat) (PP : Nat → Value → Value → Prop) (R : List (Addr × Obj) → Nat → Value → Prop),
      it = .ref I ∧ s₂ = { s with heap := h₂, toks := tk₂ } ∧ KTurns prog w A (.Tuple [.Name x1 p1, .Name x2 p2] kk tp) I fp wr n P Md St ∧ St 0 h₂ ∧ Fr h₀ L h₂ m ∧ News h₀ L h₂ pre ∧
      (∀ i h, St i h → ∃ its, Objs ws its ∧ ∀ q ∈ its, h.get? q.1 = some q.2) ∧ (∀ b ∈ ws.map (·.1), h₀.get? b = none ∧ b ≠ L ∧ b < h₂.objs.size) ∧ (∀ b ∈ wr, b ∈ ws.map (·.1)) ∧ (∀ b ∈ fp, b ∈ ws.map (·.1) ∨ ∃ o, (b, o) ∈ keep) ∧ Offs ws pre ∧ SubL keep pre ∧
      (∀ h tk (Q : Value → Shared → Prop) (E : Value → Shared → Prop), (∀ b o, h₂.get? b = some o → h.get? b = some o) → Q (.ref I) { s with heap := h, toks := tk } → wpAny (model prog w) A (pyIter (.ref I)) Q E { s with heap := h, toks := tk }) ∧
      (∀ i v h, i < n → P i v h → News h₀ L h pre → ∃ T v1 v2, v = .ref T ∧ IsTup h T #[v1, v2] ∧ PP i v1 v2) ∧ n ≤ 10000 ∧ (∀ tl tl' i y, R tl i y → (∀ q ∈ tl, q ∈ tl') → R tl' i y) ∧
      (∀ i v1 v2 C oC mC D ys tl its h tk (E' : Value → Shared → Prop), i < n → PP i v1 v2 → LCg.NsObj oC mC → mC x1 = some v1 → mC x2 = some v2 → Objs ws its → Fr h₀ L h m → News h₀ L h (its ++ (C, oC) :: (D, LCg.lst ys) :: (pre ++ tl)) →
        wpAny (model prog w) A (eval elt (compEnvC scope cl C env)) (GpEl h₀ L m s ws its C oC D (LCg.lst ys) pre tl (fun tl' y => R tl' i y)) E' { s with heap := h, toks := tk }) ∧
      (∀ D ys tl h tk, All2 (fun i y => R tl i y) (List.range n) ys → Off D (pre ++ tl) → Fr h₀ L h m → News h₀ L h ((D, LCg.lst ys) :: (pre ++ tl)) → Q (.ref D) { s with heap := h, toks := tk })
theorem gc_pairS {elt iter : PySem.Expr} {x1 x2 : Str} {p1 p2 tp : Pos} {kk : Nat} {scope : Scope} {cl : List (Str × Addr)} {pos : Pos} {Q : Value → Shared → Prop} (hh : A.handled = none)
    (hclos : closureFor scope env = pure cl) (hcell : ∀ y ∈ scope.names, y.2 ≠ .cell) (hkind : scope.kind = .function) (hnames : ∀ y ∈ scope.names, y.2 = .local → scope.names.lookup y.1 = some .local) (hx1 : scope.names.lookup x1 = some .local) (hx2 : scope.names.lookup x2 = some .local) (hxx : x1 ≠ x2) (hs1 : ∀ x, foldedSetIterable iter env x = pure x)
    (h : wpAny (model prog w) A (eval iter env) (fun xv s₁ => wpAny (model prog w) A (pyIter xv) (GpSrc prog w A h₀ L m env s elt x1 x2 p1 p2 tp kk scope cl Q) E s₁) E s) :
    wpAny (model prog w) A (eval (.ListComp elt [⟨.Tuple [.Name x1 p1, .Name x2 p2] kk tp, iter, [], 0⟩] scope pos) env) Q E s :=
  gc_pair hh hclos hcell hkind hnames hx1 hx2 hxx h hs1
end
end Mine
end
section
open PySem PySem.W PyProof.Rows
namespace Mine
noncomputable def GxSrc (prog : Program) (w : World) (A : Around) (h₀ : Heap) (L : Addr) (m : Str → Option Value) (s : Shared) (target : PySem.Expr) (Rest : Nat → (Nat → Value → Heap → Prop) → List (Addr × String) → List (Addr × Obj) → Heap → Nat → Prop) (it : Value) (s₂ : Shared) : Prop :=
  ∃ (I : Addr) (fp wr : List Addr) (n : Nat) (P Md : Nat → Value → Heap → Prop) (St : Nat → Heap → Prop) (ws : List (Addr × String)) (keep pre : List (Addr × Obj)) (h₂ : Heap) (tk₂ : Nat),
      it = .ref I ∧ s₂ = { s with heap := h₂, toks := tk₂ } ∧ KTurns prog w A target I fp wr n P Md St ∧ St 0 h₂ ∧ Fr h₀ L h₂ m ∧ News h₀ L h₂ pre ∧
      (∀ i h, St i h → ∃ its, Objs ws its ∧ ∀ q ∈ its, h.get? q.1 = some q.2) ∧ (∀ b ∈ ws.map (·.1), h₀.get? b = none ∧ b ≠ L ∧ b < h₂.objs.size) ∧ (∀ b ∈ wr, b ∈ ws.map (·.1)) ∧ (∀ b ∈ fp, b ∈ ws.map (·.1) ∨ ∃ o, (b, o) ∈ keep) ∧ Offs ws pre ∧ SubL keep pre ∧
      (∀ h tk (Q : Value → Shared → Prop) (E : Value → Shared → Prop), (∀ b o, h₂.get? b = some o → h.get? b = some o) → Q (.ref I) { s with heap := h, toks := tk } → wpAny (model prog w) A (pyIter (.ref I)) Q E { s with heap := h, toks := tk }) ∧
      n ≤ 10000 ∧ Rest n P ws pre h₂ tk₂
noncomputable def GxVal (h₀ : Heap) (L : Addr) (m : Str → Option Value) (s : Shared) (ws : List (Addr × String)) (its fr : List (Addr × Obj)) (C D : Addr) (ys : List Value) (pre tl : List (Addr × Obj)) (K : List (Addr × Obj) → List Value → Prop) (y : Value) (s' : Shared) : Prop :=
  ∃ h' tk' tn, s' = { s with heap := h', toks := tk' } ∧ Fr h₀ L h' m ∧ News h₀ L h' (its ++ (fr ++ (D, LCg.lst ys) :: (pre ++ (tl ++ tn)))) ∧ Offs ws tn ∧ Off C tn ∧ Off D tn ∧ K (tl ++ tn) (ys ++ [y])
theorem GxVal_stop {h₀ : Heap} {L : Addr} {m : Str → Option Value} {s : Shared} {ws : List (Addr × String)} {its fr : List (Addr × Obj)} {C D : Addr} {ys : List Value} {pre tl : List (Addr × Obj)} {K : List (Addr × Obj) → List Value → Prop} {y : Value} {s' : Shared} (h : GxVal h₀ L m s ws its fr C D ys pre tl K y s') : GxVal h₀ L m s ws its fr C D ys pre tl K y s' := h
noncomputable def GxNo (h₀ : Heap) (L : Addr) (m : Str → Option Value) (s : Shared) (ws : List (Addr × String)) (its fr : List (Addr × Obj)) (C D : Addr) (ys : List Value) (pre tl : List (Addr × Obj)) (K : List (Addr × Obj) → List Value → Prop) (s' : Shared) : Prop :=
  ∃ h' tk' tn, s' = { s with heap := h', toks := tk' } ∧ Fr h₀ L h' m ∧ News h₀ L h' (its ++ (fr ++ (D, LCg.lst ys) :: (pre ++ (tl ++ tn)))) ∧ Offs ws tn ∧ Off C tn ∧ Off D tn ∧ K (tl ++ tn) ys
noncomputable def GxTurn (h₀ : Heap) (L : Addr) (m : Str → Option Value) (s : Shared) (ws : List (Addr × String)) (its fr : List (Addr × Obj)) (C D : Addr) (ys : List Value) (pre tl : List (Addr × Obj)) (K : List (Addr × Obj) → List Value → Prop) (s' : Shared) : Prop :=
  ∃ h' tk' tn ys', s' = { s with heap := h', toks := tk' } ∧ Fr h₀ L h' m ∧ News h₀ L h' (its ++ (fr ++ (D, LCg.lst ys') :: (pre ++ (tl ++ tn)))) ∧ Offs ws tn ∧ Off C tn ∧ Off D tn ∧ ys'.length ≤ ys.length + 1 ∧ K (tl ++ tn) ys'
theorem objs1 {I : Addr} {ty : String} {its : List (Addr × Obj)} (h : Objs [(I, ty)] its) : ∃ o, its = [(I, o)] := by
  cases its with
  | nil => exact h.elim
  | cons q r =>
    cases r with
    | cons _ _ => exact h.2.elim
    | nil =>
      obtain ⟨qa, qo⟩ := q
      obtain rfl : qa = I := h.1.1
      exact ⟨qo, rfl⟩
section
variable {prog : Program} {w : World} {A : Around} {E : Value → Shared → Prop} {s : Shared} {h₀ : Heap} {L : Addr} {m : Str → Option Value} {env : Env}
noncomputable def ifsAct (elt : PySem.Expr) (ifs : List PySem.Expr) (acc : Value) (env : Env) (k : Sem Fin) : Sem Fin := do
  let mut ok := true
  for c in ifs do
    if ok then ok ← isTrue c env (eval c env)
  if ok then
    (do let _ ← call (.builtin "list.append") [acc, ← eval elt env])
  k
theorem gt_ifs (elt target iter : PySem.Expr) (ifs : List PySem.Expr) (scope : Scope) (pos : Pos) (it acc : Value) (env : Env) :
    GcTurn (.ListComp elt [⟨target, iter, ifs, 0⟩] scope pos) 0 iter.pos target it acc env (ifsAct elt ifs acc env) := by rfl
theorem ga_none {elt : PySem.Expr} {cenv : Env} {D : Addr} {T : Shared → Prop} {E' : Value → Shared → Prop} (h : wpAny (model prog w) A (eval elt cenv) (fun y s₄ => wpAny (model prog w) A (call (.builtin "list.append") [.ref D, y]) (fun _ s₅ => T s₅) E' s₄) E' s) :
    GcAct prog w A (ifsAct elt [] (.ref D) cenv) T E' s := fun k Q hk => by
  unfold ifsAct
  refine wpAny_bind (wpAny_pure ?_)
  rw [if_pos rfl]
  exact wpAny_bind (wpAny_bind (wpAny_mono h (fun _ _ h₄ => wpAny_bind (wpAny_mono h₄ (fun _ _ h₅ => wpAny_pure (hk _ h₅)) fun _ _ e => e)) fun _ _ e => e))
theorem ga_one {elt c : PySem.Expr} {cenv : Env} {D : Addr} {T : Shared → Prop} {E' : Value → Shared → Prop}
    (h : wpAny (model prog w) A (isTrue c cenv (eval c cenv)) (fun b s₃ => if b = true then wpAny (model prog w) A (eval elt cenv) (fun y s₄ => wpAny (model prog w) A (call (.builtin "list.append") [.ref D, y]) (fun _ s₅ => T s₅) E' s₄) E' s₃ else T s₃) E' s) :
    GcAct prog w A (ifsAct elt [c] (.ref D) cenv) T E' s := fun k Q hk => by
  unfold ifsAct
  refine wpAny_bind (wpAny_tests_one (wpAny_mono h (fun b s₃ h₃ => ?_) fun _ _ e => e))
  cases b with
  | true =>
    rw [if_pos rfl] at h₃
    rw [if_pos rfl]
    exact wpAny_bind (wpAny_bind (wpAny_mono h₃ (fun _ _ h₄ => wpAny_bind (wpAny_mono h₄ (fun _ _ h₅ => wpAny_pure (hk _ h₅)) fun _ _ e => e)) fun _ _ e => e))
  | false =>
    rw [if_neg Bool.false_ne_true] at h₃
    rw [if_neg Bool.false_ne_true]
    exact hk _ h₃
theorem gx_compU {pos' : Pos} {use : Option (Value → Sem Unit)} {elt target iter : PySem.Expr} {ifs : List PySem.Expr} {rest : List Comprehension} {scope : Scope} {cl : List (Str × Addr)} {pos : Pos} {Q : Value → Shared → Prop}
    (hclos : closureFor scope env = pure cl) (hcell : ∀ y ∈ scope.names, y.2 ≠ .cell) (hkind : scope.kind = .function) (hnames : ∀ y ∈ scope.names, y.2 = .local → scope.names.lookup y.1 = some .local)
    (h : wpAny (model prog w) A (eval iter env) (fun xv s₁ => wpAny (model prog w) A (pyIter xv) (fun it s₂ => ∃ I news, it = .ref I ∧ Fr h₀ L s₂.heap m ∧ News h₀ L s₂.heap news ∧
      (∀ h tk (Q : Value → Shared → Prop) (E : Value → Shared → Prop), (∀ b o, s₂.heap.get? b = some o → h.get? b = some o) → Q (.ref I) { s₂ with heap := h, toks := tk } → wpAny (model prog w) A (pyIter (.ref I)) Q E { s₂ with heap := h, toks := tk }) ∧
      ∀ D C oC mC h₁ tk, D = s₂.heap.objs.size → C = D + 1 → (∀ b o, s₂.heap.get? b = some o → h₁.get? b = some o) → LCg.NsObj oC mC → Fr h₀ L h₁ m → News h₀ L h₁ ((C, oC) :: (D, LCg.lst []) :: news) →
        codeAny (model prog w) A (.compLoop (.ListComp elt (⟨target, iter, ifs, 0⟩ :: rest) scope pos) 0 (.ref I) (.ref D) (compEnvC scope cl C env)) (compPost (model prog w) A E use Q (.ref D) C) { s₂ with heap := h₁, toks := tk }) E s₁) E s)
    (hs : ∀ x, foldedSetIterable iter env x = pure x) :
    wpAny (model prog w) A (comprehension (.ListComp elt (⟨target, iter, ifs, 0⟩ :: rest) scope pos) scope env pos' (newList []) false (eval iter env) use) Q E s := by
  refine wpAny_comprehension_free rfl hs hclos hkind hnames (wpAny_mono h (fun xv s₁ h₁ => wpAny_mono h₁ (fun it s₂ h₂ => ?_) fun _ _ e => e) fun _ _ e => e)
  refine ex2 h₂ ?_; clear h₂; rintro I news hXO
  refine an5 hXO ?_; clear hXO; rintro rfl F N self R
  refine wpAny_newObj_type (wpAny_newFunctionEnv hcell (by intro y hy; simp at hy) (fun h₁ hns₁ hsb₁ => ?_) hkind)
  dsimp only at hns₁ hsb₁ ⊢
  generalize hH2 : s₂.heap.push { cls := .type "list", dict := none, data := .seq ([] : List Value).toArray } = H2 at hns₁ hsb₁ ⊢
  have hC : H2.objs.size = s₂.heap.objs.size + 1 := by rw [← hH2, Heap.size_push]
  have hDC : s₂.heap.objs.size ≠ H2.objs.size := by rw [hC]; exact Nat.ne_of_lt (Nat.lt_succ_self _)
  have old : ∀ b o, s₂.heap.get? b = some o → h₁.get? b = some o := fun b o e => hsb₁.extBut b o (by rw [hC]; exact Nat.ne_of_lt (Nat.lt_succ_of_lt (Heap.lt_size e))) (Heap.get?_push_of_some _ (hH2 ▸ Heap.get?_push_of_some _ e))
  have hacc : h₁.get? s₂.heap.objs.size = some (LCg.lst []) := hsb₁.extBut _ _ hDC (Heap.get?_push_of_some _ (hH2 ▸ Heap.get?_push_size _ rfl))
  have fresh₀ : ∀ a, s₂.heap.objs.size ≤ a → h₀.get? a = none := fun a ha => by
    cases e : h₀.get? a with
    | none => rfl
    | some o' => exact absurd (Heap.lt_size (F.keep a o' e)) (Nat.not_lt.mpr ha)
  have hLlt : L < s₂.heap.objs.size := F.ns.lt
  obtain ⟨oC, heC, hoC⟩ := LCg.ns_obj hns₁
  have N₁ : News h₀ L h₁ ((H2.objs.size, oC) :: (s₂.heap.objs.size, LCg.lst []) :: news) := fun p hp => by
    rcases List.mem_cons.mp hp with rfl | hp
    · exact ⟨heC, by rw [hC]; exact Nat.ne_of_gt (Nat.lt_succ_of_lt hLlt), fresh₀ _ (by rw [hC]; exact Nat.le_succ _)⟩
    rcases List.mem_cons.mp hp with rfl | hp
    · exact ⟨hacc, Nat.ne_of_gt hLlt, fresh₀ _ (Nat.le_refl _)⟩
    · exact ⟨old _ _ (N p hp).1, (N p hp).2⟩
  have loop := fun tk => R s₂.heap.objs.size H2.objs.size oC _ h₁ tk rfl hC old hoC (F.keeps old) N₁
  exact codeAny_compStart_list (loop _) (self h₁ _ _ _ old (loop _))
noncomputable def FinV (h₀ : Heap) (L : Addr) (m : Str → Option Value) (s : Shared) (Q : Value → Shared → Prop) (D : Addr) (ys : List Value) (nx : List (Addr × Obj)) : Prop :=
  ∀ h' tk, Fr h₀ L h' m → News h₀ L h' ((D, LCg.lst ys) :: nx) → Q (.ref D) { s with heap := h', toks := tk }
noncomputable def FinN (h₀ : Heap) (L : Addr) (m : Str → Option Value) (s : Shared) (y : Str) (Q : Flow → Shared → Prop) (D : Addr) (ys : List Value) (nx : List (Addr × Obj)) : Prop :=
  ∀ h' tk, Fr h₀ L h' (fun z => if z = y then some (.ref D) else m z) → News h₀ L h' ((D, LCg.lst ys) :: nx) → Q .next { s with heap := h', toks := tk }
noncomputable def PostOk (prog : Program) (w : World) (A : Around) (h₀ : Heap) (L : Addr) (m : Str → Option Value) (s : Shared) (E : Value → Shared → Prop) (use : Option (Value → Sem Unit)) (Q : Value → Shared → Prop) (Fin : Addr → List Value → List (Addr × Obj) → Prop) : Prop :=
  ∀ D C oC mC ys nx h tk, Fr h₀ L h m → News h₀ L h ((C, oC) :: (D, LCg.lst ys) :: nx) → LCg.NsObj oC mC → Off C ((D, LCg.lst ys) :: nx) → Fin D ys nx → compPost (model prog w) A E use Q (.ref D) C (.ok .next) { s with heap := h, toks := tk }
theorem post_V {Q : Value → Shared → Prop} : PostOk prog w A h₀ L m s E none Q (FinV h₀ L m s Q) :=
  fun D C oC mC ys nx h tk F N hC off fin => gc_fin F N hC off fun h' F' N' => fin h' tk F' N'
theorem post_N {y : Str} {py : Pos} {Q : Flow → Shared → Prop} (hLe : env.locals = L) (hy : env.kindOf y = some .local) (hp : (env.scope.kind == .class || (env.scope.kind == .module && env.locals != env.globals)) = false) :
    PostOk prog w A h₀ L m s E (some (assign (.Name y py) env)) (fun _ s' => Q .next s') (FinN h₀ L m s y Q) := by
  subst hLe
  intro D C oC mC ys nx h tk F N hC off fin
  have zC := N (C, oC) (.head _)
  have zD := N (D, LCg.lst ys) (.tail _ (.head _))
  have hCD : C ≠ D := Ne.symm (off _ (.head _))
  show wpAny _ A (assign (.Name y py) env (.ref D)) _ _ _
  refine wpAny_assign_Name (wpAny_storeName_local hy F.ns (fun h₂ hn₂ hs₂ => ?_) hp)
  have hL₀ : h₀.get? env.locals = none := Heap.get?_none_of_le F.above
  have F₂ : Fr h₀ env.locals h₂ (fun z => if z = y then some (.ref D) else m z) := ⟨hn₂, fun b o e => hs₂.extBut b o (fun q => by rw [q, hL₀] at e; cases e) (F.keep b o e), F.above⟩
  refine ⟨mC, (hC.ns zC.1).sameBut hs₂ zC.2.1, fun h'' hs'' => fin h'' _ (F₂.change hs'' zC.2.1 zC.2.2) (fun p hp => ?_)⟩
  have z : h₂.get? p.1 = some p.2 := hs₂.extBut _ _ (N p (.tail _ hp)).2.1 (N p (.tail _ hp)).1
  exact ⟨hs''.extBut _ _ (off p hp) z, (N p (.tail _ hp)).2⟩
theorem gx_emit {elt : PySem.Expr} {cenv : Env} {ws : List (Addr × String)} {its fr : List (Addr × Obj)} {C D : Addr} {ys : List Value} {pre tl : List (Addr × Obj)} {K : List (Addr × Obj) → List Value → Prop} {E' : Value → Shared → Prop}
    (hfr : Off D its) (hfr2 : Off D fr) (hpre : Off D (pre ++ tl)) (hsz : ys.length ≤ 10000)
    {s₁ : Shared} (h : wpAny (model prog w) A (eval elt cenv) (GxVal h₀ L m s ws its fr C D ys pre tl K) E' s₁) :
    wpAny (model prog w) A (eval elt cenv) (fun y s₄ => wpAny (model prog w) A (call (.builtin "list.append") [.ref D, y]) (fun _ s₅ => GxTurn h₀ L m s ws its fr C D ys pre tl K s₅) E' s₄) E' s₁ := by
  refine wpAny_mono h (fun y s₆ h₆ => ?_) fun _ _ e => e
  refine ex3 h₆ ?_; clear h₆; rintro h₆ tk₆ tn hXO
  refine an7 hXO ?_; clear hXO; rintro rfl F₆ N₆ oWn oCn oDn hK
  refine gc_append (s := { s with heap := h₆, toks := tk₆ }) (pre := its ++ fr) (post := pre ++ (tl ++ tn)) F₆ (by rw [List.append_assoc]; exact N₆) (Off.app hfr hfr2) (by rw [← List.append_assoc]; exact Off.app hpre oDn) (by rw [PySem.sizeLine_eq]; omega) fun h₇ F₇ N₇ => ?_
  exact ⟨h₇, tk₆, tn, ys ++ [y], rfl, F₇, by rw [List.append_assoc] at N₇; exact N₇, oWn, oCn, oDn, by simp, hK⟩
noncomputable def GxElt (prog : Program) (w : World) (A : Around) (h₀ : Heap) (L : Addr) (m : Str → Option Value) (elt : PySem.Expr) (cenv : Env) (s : Shared) (ws : List (Addr × String)) (its fr : List (Addr × Obj)) (C D : Addr) (ys : List Value) (pre tl : List (Addr × Obj)) (K : List (Addr × Obj) → List Value → Prop) (E' : Value → Shared → Prop) : List PySem.Expr → Prop
  | [] => wpAny (model prog w) A (eval elt cenv) (GxVal h₀ L m s ws its fr C D ys pre tl K) E' s
  | [c] => wpAny (model prog w) A (isTrue c cenv (eval c cenv)) (fun b s₃ => (b = true → wpAny (model prog w) A (eval elt cenv) (GxVal h₀ L m s ws its fr C D ys pre tl K) E' s₃) ∧ (b = false → GxNo h₀ L m s ws its fr C D ys pre tl K s₃)) E' s
  | _ => False
theorem gx_elt {elt : PySem.Expr} {ifs : List PySem.Expr} {cenv : Env} {ws : List (Addr × String)} {its fr : List (Addr × Obj)} {C D : Addr} {ys : List Value} {pre tl : List (Addr × Obj)} {K : List (Addr × Obj) → List Value → Prop} {E' : Value → Shared → Prop}
    (h : ∀ E', GxElt prog w A h₀ L m elt cenv s ws its fr C D ys pre tl K E' ifs) (hfr : Off D its) (hfr2 : Off D fr) (hpre : Off D (pre ++ tl)) (hsz : ys.length ≤ 10000) :
    GcAct prog w A (ifsAct elt ifs (.ref D) cenv) (GxTurn h₀ L m s ws its fr C D ys pre tl K) E' s := by
  match ifs, h with
  | [], h => exact ga_none (gx_emit hfr hfr2 hpre hsz (h E'))
  | [c], h =>
    refine ga_one (wpAny_mono (h E') (fun b s₃ h₃ => ?_) fun _ _ e => e)
    cases b with
    | true => rw [if_pos rfl]; exact gx_emit hfr hfr2 hpre hsz (h₃.1 rfl)
    | false =>
      rw [if_neg Bool.false_ne_true]
      have hXO := h₃.2 rfl
      refine ex3 hXO ?_; clear hXO; rintro h₆ tk₆ tn hXO
      refine an7 hXO ?_; clear hXO; rintro rfl F₆ N₆ oWn oCn oDn hK
      exact ⟨h₆, tk₆, tn, ys, rfl, F₆, N₆, oWn, oCn, oDn, Nat.le_succ _, hK⟩
  | _ :: _ :: _, h => exact (h E').elim
noncomputable def GxRest (prog : Program) (w : World) (A : Around) (h₀ : Heap) (L : Addr) (m : Str → Option Value) (env : Env) (s : Shared) (elt : PySem.Expr) (ifs : List PySem.Expr) (x : Str) (scope : Scope) (cl : List (Str × Addr)) (Fin : Addr → List Value → List (Addr × Obj) → Prop)
    (n : Nat) (P : Nat → Value → Heap → Prop) (ws : List (Addr × String)) (pre : List (Addr × Obj)) (h₂ : Heap) (tk₂ : Nat) : Prop :=
  ∃ (Inv : Nat → List (Addr × Obj) → List Value → Prop), Inv 0 [] [] ∧
    (∀ i v C oC mC D ys tl its h tk (E' : Value → Shared → Prop), i < n → (∃ h', P i v h') → Inv i tl ys → LCg.NsObj oC mC → mC x = some v → Objs ws its → Fr h₀ L h m → News h₀ L h (its ++ ([(C, oC)] ++ (D, LCg.lst ys) :: (pre ++ tl))) → ys.length ≤ n → D < C →
      GxElt prog w A h₀ L m elt (compEnvC scope cl C env) { s with heap := h, toks := tk } ws its [(C, oC)] C D ys pre tl (Inv (i + 1)) E' ifs) ∧
    (∀ D ys tl, Inv n tl ys → ys.length ≤ n → Fin D ys (pre ++ tl))
theorem gx_nameU {pos' : Pos} {use : Option (Value → Sem Unit)} {Fin : Addr → List Value → List (Addr × Obj) → Prop} {elt iter : PySem.Expr} {ifs : List PySem.Expr} {x : Str} {px : Pos} {scope : Scope} {cl : List (Str × Addr)} {pos : Pos} {Q : Value → Shared → Prop} (hh : A.handled = none) (hP : PostOk prog w A h₀ L m s E use Q Fin)
    (hclos : closureFor scope env = pure cl) (hcell : ∀ y ∈ scope.names, y.2 ≠ .cell) (hkind : scope.kind = .function) (hnames : ∀ y ∈ scope.names, y.2 = .local → scope.names.lookup y.1 = some .local) (hx : scope.names.lookup x = some .local) (hs1 : ∀ x, foldedSetIterable iter env x = pure x)
    (h : wpAny (model prog w) A (eval iter env) (fun xv s₁ => wpAny (model prog w) A (pyIter xv) (GxSrc prog w A h₀ L m s (.Name x px) (GxRest prog w A h₀ L m env s elt ifs x scope cl Fin)) E s₁) E s) :
    wpAny (model prog w) A (comprehension (.ListComp elt [⟨.Name x px, iter, ifs, 0⟩] scope pos) scope env pos' (newList []) false (eval iter env) use) Q E s := by
  refine gx_compU (h₀ := h₀) (L := L) (m := m) hclos hcell hkind hnames (wpAny_mono h (fun xv s₁ h₁ => wpAny_mono h₁ (fun it s₂ h₂ => ?_) fun _ _ e => e) fun _ _ e => e) hs1
  refine ex9 h₂ ?_; clear h₂; rintro I fp wr n P Md St ws keep hXO
  refine ex3 hXO ?_; clear hXO; rintro pre hb tkb hXO
  refine an9 hXO ?_; clear hXO; rintro rfl rfl W hst F N hobj hws hXO
  refine an7 hXO ?_; clear hXO; rintro hwr hfp hap hkp self hn hJ
  refine ex1 hJ ?_; clear hJ; rintro Inv hXO
  refine an3 hXO ?_; clear hXO; rintro inv0 el fin
  refine ⟨I, pre, rfl, F, N, self, ?_⟩
  intro D C oC mC h₁ tk hD hC old hoC F₁ N₁
  have hD : D = hb.objs.size := hD
  have hClt : D < C := by omega
  have hwlt : ∀ b ∈ ws.map (·.1), b ≠ D ∧ b ≠ C := fun b hb' => by
    have h1 : b < D := by rw [hD]; exact (hws b hb').2.2
    exact ⟨Nat.ne_of_lt h1, Nat.ne_of_lt (Nat.lt_trans h1 hClt)⟩
  have offC : ∀ o : Obj, ∀ ws' : List (Addr × Obj), Offs ws ws' → Offs ws ((C, o) :: ws') := fun o ws' k q hq hm => by
    rcases List.mem_cons.mp hq with rfl | hq
    · exact (hwlt _ hm).2 rfl
    · exact k q hq hm
  have offD : ∀ o : Obj, ∀ ws' : List (Addr × Obj), Offs ws ws' → Offs ws ((D, o) :: ws') := fun o ws' k q hq hm => by
    rcases List.mem_cons.mp hq with rfl | hq
    · exact (hwlt _ hm).1 rfl
    · exact k q hq hm
  have hplt : ∀ q ∈ pre, q.1 < D := fun q hq => by rw [hD]; exact Heap.lt_size (N q hq).1
  refine gc_loop (s := { s with heap := h₁, toks := tk }) (gt_ifs elt _ iter ifs scope pos _ _ _) W ws keep hobj (fun b hb' => ⟨(hws b hb').1, (hws b hb').2.1⟩) hwr hfp
    (fun i nx => ∃ oC mC ys tl, nx = (C, oC) :: (D, LCg.lst ys) :: (pre ++ tl) ∧ LCg.NsObj oC mC ∧ ys.length ≤ i ∧ Inv i tl ys ∧ Off C ((D, LCg.lst ys) :: (pre ++ tl)) ∧ Off D (pre ++ tl) ∧ Offs ws (pre ++ tl))
    (W.frame _ _ _ hst fun b _ o e => old b o e) F₁ N₁ (offC _ _ (offD _ _ hap)) (subL_left hkp fun q hq => .tail _ (.tail _ hq))
    ⟨oC, mC, [], [], by rw [List.append_nil], hoC, Nat.le_refl _, inv0, Off.cons (Nat.ne_of_lt hClt) fun q hq => Nat.ne_of_lt (Nat.lt_trans (hplt q (by simpa using hq)) hClt), fun q hq => Nat.ne_of_lt (hplt q (by simpa using hq)), by rw [List.append_nil]; exact hap⟩ ?turn ?done
  case done =>
    rintro h' tk' nx hXO F' N' -
    refine ex4 hXO ?_; clear hXO; rintro oC mC ys tl hXO
    refine an7 hXO ?_; clear hXO; rintro rfl hoC hyl hA oCo oDo -
    exact hP D C oC mC ys (pre ++ tl) h' tk' F' N' hoC oCo (fin D ys tl hA hyl)
  case turn =>
    rintro i v nx its h' tk' hi hPi hXO hits ap - F' N'
    refine ex4 hXO ?_; clear hXO; rintro oC mC ys tl hXO
    refine an7 hXO ?_; clear hXO; rintro rfl hoC hyl hA oCo oDo oWo
    have hitsC : Off C its := fun q hq => (hwlt q.1 (by rw [← hits.map]; exact List.mem_map.mpr ⟨q, hq, rfl⟩)).2
    have hitsD : Off D its := fun q hq => (hwlt q.1 (by rw [← hits.map]; exact List.mem_map.mpr ⟨q, hq, rfl⟩)).1
    refine gc_assign1 (s := { s with heap := h', toks := tk' }) (pre := its) hkind hx F' N' hoC hitsC oCo fun h₅ tk₅ oC₅ hC₅ F₅ N₅ => ?_
    have hel := fun E' => el i v C oC₅ _ D ys tl its h₅ tk₅ E' hi ⟨_, hPi⟩ hA hC₅ (by simp) hits F₅ N₅ (Nat.le_trans hyl (Nat.le_of_lt hi)) hClt
    have hyn : ys.length ≤ 10000 := Nat.le_trans (Nat.le_trans hyl (Nat.le_of_lt hi)) hn
    have oDC : Off D [(C, oC₅)] := Off.cons (Nat.ne_of_gt hClt) off_nil
    refine fun k Q' hk => gx_elt hel hitsD oDC oDo hyn k Q' fun s₆ h₆ => hk _ ?_
    refine ex4 h₆ ?_; clear h₆; rintro h₆ tk₆ tn ys' hXO
    refine an8 hXO ?_; clear hXO; rintro rfl F₆ N₆ oWn oCn oDn hyl' hK
    refine ⟨h₆, tk₆, (C, oC₅) :: (D, LCg.lst ys') :: (pre ++ (tl ++ tn)), rfl, F₆, N₆, ?_, subL_left hkp (fun q hq => .tail _ (.tail _ (List.mem_append_left _ hq))), oC₅, _, ys', tl ++ tn, rfl, hC₅, Nat.le_trans hyl' (Nat.succ_le_succ hyl), hK, ?_, ?_, ?_⟩
    · exact offC _ _ (offD _ _ (by rw [← List.append_assoc]; exact Offs.app oWo oWn))
    · refine Off.cons (Nat.ne_of_lt hClt) ?_
      rw [← List.append_assoc]
      exact Off.app oCo.tail oCn
    · rw [← List.append_assoc]; exact Off.app oDo oDn
    · rw [← List.append_assoc]; exact Offs.app oWo oWn
theorem gx_name {elt iter : PySem.Expr} {ifs : List PySem.Expr} {x : Str} {px : Pos} {scope : Scope} {cl : List (Str × Addr)} {pos : Pos} {Q : Value → Shared → Prop} (_F : Fr h₀ L s.heap m) (hh : A.handled = none)
    (hclos : closureFor scope env = pure cl) (hcell : ∀ y ∈ scope.names, y.2 ≠ .cell) (hkind : scope.kind = .function) (hnames : ∀ y ∈ scope.names, y.2 = .local → scope.names.lookup y.1 = some .local) (hx : scope.names.lookup x = some .local) (hs1 : ∀ x, foldedSetIterable iter env x = pure x)
    (h : wpAny (model prog w) A (eval iter env) (fun xv s₁ => wpAny (model prog w) A (pyIter xv) (GxSrc prog w A h₀ L m s (.Name x px) (GxRest prog w A h₀ L m env s elt ifs x scope cl (FinV h₀ L m s Q))) E s₁) E s) :
    wpAny (model prog w) A (eval (.ListComp elt [⟨.Name x px, iter, ifs, 0⟩] scope pos) env) Q E s := by
  rw [eval_ListComp]
  exact gx_nameU (h₀ := h₀) (L := L) (m := m) (use := none) (Q := Q) (Fin := FinV h₀ L m s Q) hh (@post_V prog w A E s h₀ L m Q) hclos hcell hkind hnames hx hs1 h
theorem gx_nameA {elt iter : PySem.Expr} {ifs : List PySem.Expr} {x y : Str} {px py : Pos} {scope : Scope} {cl : List (Str × Addr)} {pos spos : Pos} {Q : Flow → Shared → Prop} (_F : Fr h₀ L s.heap m) (hh : A.handled = none) (hLe : env.locals = L)
    (hsw : swapsWith (.ListComp elt [⟨.Name x px, iter, ifs, 0⟩] scope pos) (some (.Name y py)) spos.line env = pure true)
    (hclos : closureFor scope env = pure cl) (hcell : ∀ y ∈ scope.names, y.2 ≠ .cell) (hkind : scope.kind = .function) (hnames : ∀ y ∈ scope.names, y.2 = .local → scope.names.lookup y.1 = some .local) (hx : scope.names.lookup x = some .local) (hs1 : ∀ x, foldedSetIterable iter env x = pure x)
    (hy : env.kindOf y = some .local) (hp : (env.scope.kind == .class || (env.scope.kind == .module && env.locals != env.globals)) = false)
    (h : wpAny (model prog w) A (eval iter env) (fun xv s₁ => wpAny (model prog w) A (pyIter xv) (GxSrc prog w A h₀ L m s (.Name x px) (GxRest prog w A h₀ L m env s elt ifs x scope cl (FinN h₀ L m s y Q))) E s₁) E s) :
    wpAny (model prog w) A (exec (.Assign [.Name y py] (.ListComp elt [⟨.Name x px, iter, ifs, 0⟩] scope pos) spos) env) Q E s := by
  rw [exec_Assign_Name_used _ _ _ _ hsw]
  refine wpAny_bind (wpAny_standAt (wpAny_bind ?_))
  show wpAny _ A (do let _ ← comprehension (.ListComp elt [⟨.Name x px, iter, ifs, 0⟩] scope pos) scope env iter.pos (newList []) false (eval iter env) (some (assign (.Name y py) env))) _ _ s
  exact wpAny_bind (wpAny_mono (gx_nameU (h₀ := h₀) (L := L) (m := m) (use := some (assign (.Name y py) env)) (Q := fun _ s' => Q .next s') (Fin := FinN h₀ L m s y Q) hh (@post_N prog w A E s h₀ L m env y py Q hLe hy hp) hclos hcell hkind hnames hx hs1 h) (fun _ s' hq => wpAny_pure (wpAny_pure hq)) fun _ _ e => e)
end
end Mine
end
section
open PySem PySem.W PyProof.Rows
namespace Mine
section
variable {prog : Program} {w : World} {A : Around} {E : Value → Shared → Prop} {s : Shared} {h₀ : Heap} {L : Addr} {m : Str → Option Value}
theorem gx_list {target : PySem.Expr} {Rest : Nat → (Nat → Value → Heap → Prop) → List (Addr × String) → List (Addr × Obj) → Heap → Nat → Prop} {l : Addr} {vs : List Value} {nn : Nat} {pre : List (Addr × Obj)} {h₁ : Heap} {tk₁ : Nat}
    (hh : A.handled = none) (F : Fr h₀ L h₁ m) (N : News h₀ L h₁ pre) (hl : (l, W.listOf vs.toArray nn) ∈ pre) (hn : vs.length ≤ 10000)
    (rest : ∀ I h₂, h₂.objs.size = I + 1 → (∀ b o, h₁.get? b = some o → h₂.get? b = some o) → Rest vs.length (fun i v _ => vs[i]? = some v) [(I, "list_iterator")] pre h₂ tk₁) :
    wpAny (model prog w) A (pyIter (.ref l)) (GxSrc prog w A h₀ L m s target Rest) E { s with heap := h₁, toks := tk₁ } := by
  have hol := (N _ hl).1
  have hls : h₁.IsList l vs.toArray := ⟨_, hol, rfl, nn, rfl⟩
  have hlt : l < h₁.objs.size := Heap.lt_size hol
  have hne : l ≠ h₁.objs.size := Nat.ne_of_lt hlt
  refine wpAny_pyIter_list (s := { s with heap := h₁, toks := tk₁ }) hls ?_
  have WW := KTurns.ofWalks (target := target) (Walks.list (prog := prog) (w := w) hh h₁.objs.size l hne vs.toArray) fun i v s Q E st q => letGo_listiter st.1 q
  simp only [List.size_toArray, List.getElem?_toArray] at WW
  refine ⟨h₁.objs.size, _, _, vs.length, _, _, _, [(h₁.objs.size, "list_iterator")], [(l, W.listOf vs.toArray nn)], pre, _, _, rfl, rfl, WW, ⟨⟨_, Heap.get?_push_size _ rfl, rfl, rfl⟩, hls.push _⟩, F.push _, fun q hq => ⟨Heap.get?_push_of_some _ (N q hq).1, (N q hq).2⟩, ?_, ?_, ?_, ?_, ?_, ⟨hl, trivial⟩, ?_, hn, rest _ _ (by rw [Heap.size_push]) fun b o e => Heap.get?_push_of_some _ e⟩
  · intro i h st
    obtain ⟨o, ho, hc, _⟩ := st.1
    exact ⟨[(h₁.objs.size, o)], ⟨⟨rfl, hc⟩, trivial⟩, fun q hq => by rw [List.mem_singleton.mp hq]; exact ho⟩
  · intro b hb
    have e : b = h₁.objs.size := by simpa using hb
    subst e
    exact ⟨next_is_new F, Nat.ne_of_gt F.ns.lt, by show _ < (h₁.push _).objs.size; rw [Heap.size_push]; exact Nat.lt_succ_self _⟩
  · intro b hb; simpa using hb
  · intro b hb
    have e : b = h₁.objs.size ∨ b = l := by simpa using hb
    rcases e with e | e
    · exact .inl (by simp [e])
    · exact .inr ⟨_, by rw [e]; exact .head _⟩
  · intro q hq hm
    have e : q.1 = h₁.objs.size := by simpa using hm
    exact absurd (Heap.lt_size (N q hq).1) (e ▸ Nat.lt_irrefl _)
  · intro h tk Q' E' old q
    exact wpAny_pyIter_listiter (l := l) (i := 0) ⟨_, old _ _ (Heap.get?_push_size _ rfl), rfl, rfl⟩ q
theorem gx_tuple {target : PySem.Expr} {Rest : Nat → (Nat → Value → Heap → Prop) → List (Addr × String) → List (Addr × Obj) → Heap → Nat → Prop} {l : Addr} {vs : List Value} {pre : List (Addr × Obj)} {h₁ : Heap} {tk₁ : Nat}
    (hh : A.handled = none) (F : Fr h₀ L h₁ m) (N : News h₀ L h₁ pre) (hl : (l, ({ cls := .type "tuple", data := .seq vs.toArray } : Obj)) ∈ pre) (hn : vs.length ≤ 10000)
    (rest : ∀ I h₂, h₂.objs.size = I + 1 → (∀ b o, h₁.get? b = some o → h₂.get? b = some o) → Rest vs.length (fun i v _ => vs[i]? = some v) [(I, "tuple_iterator")] pre h₂ tk₁) :
    wpAny (model prog w) A (pyIter (.ref l)) (GxSrc prog w A h₀ L m s target Rest) E { s with heap := h₁, toks := tk₁ } := by
  have hol := (N _ hl).1
  have hls : h₁.IsTuple l vs.toArray := ⟨_, hol, rfl, _, rfl⟩
  have hlt : l < h₁.objs.size := Heap.lt_size hol
  have hne : l ≠ h₁.objs.size := Nat.ne_of_lt hlt
  refine wpAny_pyIter_tuple (s := { s with heap := h₁, toks := tk₁ }) hls ?_
  have WW := KTurns.ofWalks (target := target) (Walks.tuple (prog := prog) (w := w) hh h₁.objs.size l hne vs.toArray) fun i v s Q E st q => letGo_tupleiter st.1 q
  simp only [List.size_toArray, List.getElem?_toArray] at WW
  refine ⟨h₁.objs.size, _, _, vs.length, _, _, _, [(h₁.objs.size, "tuple_iterator")], [(l, { cls := .type "tuple", data := .seq vs.toArray })], pre, _, _, rfl, rfl, WW, ⟨⟨_, Heap.get?_push_size _ rfl, rfl, rfl⟩, hls.at fun o e => Heap.get?_push_of_some _ e⟩, F.push _, fun q hq => ⟨Heap.get?_push_of_some _ (N q hq).1, (N q hq).2⟩, ?_, ?_, ?_, ?_, ?_, ⟨hl, trivial⟩, ?_, hn, rest _ _ (by rw [Heap.size_push]) fun b o e => Heap.get?_push_of_some _ e⟩
  · intro i h st
    obtain ⟨o, ho, hc, _⟩ := st.1
    exact ⟨[(h₁.objs.size, o)], ⟨⟨rfl, hc⟩, trivial⟩, fun q hq => by rw [List.mem_singleton.mp hq]; exact ho⟩
  · intro b hb
    have e : b = h₁.objs.size := by simpa using hb
    subst e
    exact ⟨next_is_new F, Nat.ne_of_gt F.ns.lt, by show _ < (h₁.push _).objs.size; rw [Heap.size_push]; exact Nat.lt_succ_self _⟩
  · intro b hb; simpa using hb
  · intro b hb
    have e : b = h₁.objs.size ∨ b = l := by simpa using hb
    rcases e with e | e
    · exact .inl (by simp [e])
    · exact .inr ⟨_, by rw [e]; exact .head _⟩
  · intro q hq hm
    have e : q.1 = h₁.objs.size := by simpa using hm
    exact absurd (Heap.lt_size (N q hq).1) (e ▸ Nat.lt_irrefl _)
  · intro h tk Q' E' old q
    exact wpAny_pyIter_tupleiter (t := l) (i := 0) ⟨_, old _ _ (Heap.get?_push_size _ rfl), rfl, rfl⟩ q
theorem gx_range {x : Str} {px : Pos} {Rest : Nat → (Nat → Value → Heap → Prop) → List (Addr × String) → List (Addr × Obj) → Heap → Nat → Prop} {r : Addr} {a b : Int} {n : Nat} {t u v : Tok} {pre : List (Addr × Obj)} {h₁ : Heap} {tk₁ : Nat}
    (hh : A.handled = none) (F : Fr h₀ L h₁ m) (N : News h₀ L h₁ pre) (hr : IsRange h₁ r a b 1 t u v) (hsm : Builtin.Range.small a b 1 = true) (hsz : Builtin.Range.rangeSize a b 1 = (n : Int)) (hn : n ≤ 10000)
    (rest : ∀ I h₂, h₂.objs.size = I + 1 → (∀ b o, h₁.get? b = some o → h₂.get? b = some o) → Rest n (fun i v _ => i < n ∧ ∃ t, v = .int (a + i) t) [(I, "range_iterator")] pre h₂ tk₁) :
    wpAny (model prog w) A (pyIter (.ref r)) (GxSrc prog w A h₀ L m s (.Name x px) Rest) E { s with heap := h₁, toks := tk₁ } := by
  refine wpAny_pyIter_range (s := { s with heap := h₁, toks := tk₁ }) hr hsm ?_
  rw [hsz]
  have WW := KTurns.ofWalks (target := .Name x px) (Walks.range (prog := prog) (w := w) hh h₁.objs.size a 1 n).bound fun i v s Q E st q => wpAny_of_eq (a := ()) rfl q
  simp only [Int.mul_one] at WW
  have st0 : IsRangeIter (h₁.push { cls := .type "range_iterator", data := .fields #[rawInt a, rawInt (n : Int), rawInt 1] }) h₁.objs.size (a + ((0 : Nat) : Int)) ((n : Int) - ((0 : Nat) : Int)) 1 := by
    simpa using (Heap.get?_push_size h₁ (o := { cls := .type "range_iterator", data := .fields #[rawInt a, rawInt (n : Int), rawInt 1] }) rfl)
  refine ⟨h₁.objs.size, _, _, n, _, _, _, [(h₁.objs.size, "range_iterator")], [], pre, _, _, rfl, rfl, WW, st0, F.push _, fun q hq => ⟨Heap.get?_push_of_some _ (N q hq).1, (N q hq).2⟩, ?_, ?_, ?_, ?_, ?_, trivial, ?_, hn, rest _ _ (by rw [Heap.size_push]) fun b o e => Heap.get?_push_of_some _ e⟩
  · intro i h st
    exact ⟨[(h₁.objs.size, _)], ⟨⟨rfl, rfl⟩, trivial⟩, fun q hq => by rw [List.mem_singleton.mp hq]; exact st⟩
  · intro b hb
    have e : b = h₁.objs.size := by simpa using hb
    subst e
    exact ⟨next_is_new F, Nat.ne_of_gt F.ns.lt, by show _ < (h₁.push _).objs.size; rw [Heap.size_push]; exact Nat.lt_succ_self _⟩
  · intro b hb; simpa using hb
  · intro b hb
    exact .inl (by simpa using hb)
  · intro q hq hm
    have e : q.1 = h₁.objs.size := by simpa using hm
    exact absurd (Heap.lt_size (N q hq).1) (e ▸ Nat.lt_irrefl _)
  · intro h tk Q' E' old q
    exact wpAny_pyIter_rangeiter (old _ _ st0) q
end
end Mine
end
section
open PySem PySem.W PyProof.Rows
namespace Mine
theorem News.dup {h₀ h : Heap} {L : Addr} {p : Addr × Obj} {news : List (Addr × Obj)} (N : News h₀ L h news) (hp : p ∈ news) : News h₀ L h (p :: news) := fun q hq => by
  rcases List.mem_cons.mp hq with rfl | hq
  · exact N _ hp
  · exact N _ hq
theorem All2.get {α β : Type} {R : α → β → Prop} : ∀ {as : List α} {bs : List β}, All2 R as bs → ∀ {i : Nat} {a : α}, as[i]? = some a → ∃ b, bs[i]? = some b ∧ R a b
  | _, _, .nil, i, a, h => by simp at h
  | _, _, .cons h t, 0, a, e => by simp at e; subst e; exact ⟨_, rfl, h⟩
  | _, _, .cons h t, i + 1, a, e => by simpa using t.get (i := i) (by simpa using e)
section
variable {prog : Program} {w : World} {A : Around} {E : Value → Shared → Prop} {s : Shared} {h₀ : Heap} {L : Addr} {m : Str → Option Value} {env : Env}
theorem gp_enumL {elt : PySem.Expr} {x1 x2 : Str} {p1 p2 tp : Pos} {kk : Nat} {scope : Scope} {cl : List (Str × Addr)} {Q : Value → Shared → Prop} {l : Addr} {vs : List Value} {nn : Nat} {pre : List (Addr × Obj)} {h₁ : Heap} {tk₁ : Nat} (R : List (Addr × Obj) → Nat → Value → Prop)
    (hh : A.handled = none) (F : Fr h₀ L h₁ m) (N : News h₀ L h₁ pre) (hl : (l, W.listOf vs.toArray nn) ∈ pre) (hn : vs.length ≤ 10000) (hR : ∀ tl tl' i y, R tl i y → (∀ q ∈ tl, q ∈ tl') → R tl' i y)
    (el : ∀ i t v I o I' o' C oC mC D ys tl h tk (E' : Value → Shared → Prop), i < vs.length → vs[i]? = some v → LCg.NsObj oC mC → mC x1 = some (.int i t) → mC x2 = some v → Fr h₀ L h m → News h₀ L h ((I, o) :: (I', o') :: (C, oC) :: (D, LCg.lst ys) :: (pre ++ tl)) →
        wpAny (model prog w) A (eval elt (compEnvC scope cl C env)) (GpEl h₀ L m s [(I, "enumerate"), (I', "list_iterator")] [(I, o), (I', o')] C oC D (LCg.lst ys) pre tl (fun tl' y => R tl' i y)) E' { s with heap := h, toks := tk })
    (fin : ∀ D ys tl h tk, All2 (fun i y => R tl i y) (List.range vs.length) ys → Off D (pre ++ tl) → Fr h₀ L h m → News h₀ L h ((D, LCg.lst ys) :: (pre ++ tl)) → Q (.ref D) { s with heap := h, toks := tk }) :
    wpAny (model prog w) A (call (.type "enumerate") [.ref l]) (fun xv s₁ => wpAny (model prog w) A (pyIter xv) (GpSrc prog w A h₀ L m env s elt x1 x2 p1 p2 tp kk scope cl Q) E s₁) E { s with heap := h₁, toks := tk₁ } := by
  have hol := (N _ hl).1
  have hls : h₁.IsList l vs.toArray := ⟨_, hol, rfl, nn, rfl⟩
  have hlt : l < h₁.objs.size := Heap.lt_size hol
  refine call_enumerate_list (s := { s with heap := h₁, toks := tk₁ }) hls fun h' hE hI hsz hk => ?_
  refine wpAny_pyIter_enum hE ?_
  have WW := KTurns.ofWalksU (elts := [.Name x1 p1, .Name x2 p2]) (k := kk) (pos := tp) (WalksT.enumerateD (Draws.list (prog := prog) (w := w) (A := A.in1) hh h₁.objs.size l (Nat.ne_of_lt hlt) vs.toArray) (h₁.objs.size + 1) (Nat.succ_ne_self _) (by
    intro hm
    have e : h₁.objs.size + 1 = h₁.objs.size ∨ h₁.objs.size + 1 = l := by simpa using hm
    rcases e with e | e
    · exact Nat.succ_ne_self _ e
    · exact absurd (e ▸ hlt) (Nat.not_lt.mpr (Nat.le_succ _))) (by simp)).toU
  rw [List.size_toArray] at WW
  have fr0 : ∀ a, h₁.objs.size ≤ a → h₀.get? a = none := fun a hle => by
    cases e : h₀.get? a with
    | none => rfl
    | some o' => exact absurd (Heap.lt_size (F.keep a o' e)) (Nat.not_lt.mpr hle)
  have hLs := F.ns.lt
  refine ⟨h₁.objs.size + 1, _, _, vs.length, _, _, _, [(h₁.objs.size + 1, "enumerate"), (h₁.objs.size, "list_iterator")], [(l, W.listOf vs.toArray nn)], pre, h', _, fun i v1 v2 => (∃ t, v1 = .int i t) ∧ vs[i]? = some v2, R, rfl, rfl, WW, ⟨⟨_, hE⟩, hI, hls.at fun o e => hk _ _ e⟩, F.keeps hk, fun q hq => ⟨hk _ _ (N q hq).1, (N q hq).2⟩, ?_, ?_, ?_, ?_, ?_, ⟨hl, trivial⟩, ?_, ?_, hn, hR, ?_, fin⟩
  · rintro i h ⟨⟨old, he⟩, ⟨oi, hoi, hic, _⟩, _⟩
    have he' : ∃ oe : Obj, h.get? (h₁.objs.size + 1) = some oe ∧ oe.cls = .type "enumerate" := ⟨_, he, rfl⟩
    obtain ⟨oe, h1, h2⟩ := he'
    refine ⟨[(h₁.objs.size + 1, oe), (h₁.objs.size, oi)], ⟨⟨rfl, h2⟩, ⟨rfl, hic⟩, trivial⟩, fun q hq => ?_⟩
    rcases List.mem_cons.mp hq with rfl | hq
    · exact h1
    · rw [List.mem_singleton.mp hq]; exact hoi
  · intro b hb
    have e : b = h₁.objs.size + 1 ∨ b = h₁.objs.size := by simpa using hb
    rcases e with rfl | rfl
    · exact ⟨fr0 _ (Nat.le_succ _), Nat.ne_of_gt (Nat.lt_succ_of_lt hLs), by rw [hsz]; exact Nat.lt_succ_self _⟩
    · exact ⟨fr0 _ (Nat.le_refl _), Nat.ne_of_gt hLs, by rw [hsz]; exact Nat.lt_succ_of_lt (Nat.lt_succ_self _)⟩
  · intro b hb; simpa using hb
  · intro b hb
    have e : b = h₁.objs.size + 1 ∨ b = h₁.objs.size ∨ b = l := by simpa using hb
    rcases e with e | e | e
    · exact .inl (by simp [e])
    · exact .inl (by simp [e])
    · exact .inr ⟨_, by rw [e]; exact .head _⟩
  · intro q hq hm
    have hlq := Heap.lt_size (N q hq).1
    have e : q.1 = h₁.objs.size + 1 ∨ q.1 = h₁.objs.size := by simpa using hm
    rcases e with e | e
    · exact absurd (e ▸ hlq) (Nat.not_lt.mpr (Nat.le_succ _))
    · exact absurd (e ▸ hlq) (Nat.lt_irrefl _)
  · intro h tk Q' E' old q
    exact wpAny_pyIter_enum (old _ _ hE) q
  · rintro i v h hi ⟨T, vals, rfl, ⟨t, x, hx, rfl⟩, hT⟩ -
    exact ⟨T, _, _, rfl, hT, ⟨t, rfl⟩, by simpa using hx⟩
  · rintro i v1 v2 C oC mC D ys tl its h tk E' hi ⟨⟨t, rfl⟩, hv⟩ hC hx1 hx2 hits F' N'
    cases its with
    | nil => exact hits.elim
    | cons q r =>
      cases r with
      | nil => exact hits.2.elim
      | cons q2 r2 =>
        cases r2 with
        | cons _ _ => exact hits.2.2.elim
        | nil =>
          obtain ⟨qa, qo⟩ := q
          obtain ⟨qb, qp⟩ := q2
          obtain rfl : qa = h₁.objs.size + 1 := hits.1.1
          obtain rfl : qb = h₁.objs.size := hits.2.1.1
          exact el i t v2 _ qo _ qp C oC mC D ys tl h tk E' hi hv hC hx1 hx2 F' N'
end
theorem get_all2 {α β : Type} {R : α → β → Prop} : ∀ {as : List α} {bs : List β}, All2 R as bs → ∀ {i : Nat} {b : β}, bs[i]? = some b → ∃ a, as[i]? = some a ∧ R a b
  | _, _, .nil, i, a, h => by simp at h
  | _, _, .cons h t, 0, a, e => by simp at e; subst e; exact ⟨_, rfl, h⟩
  | _, _, .cons h t, i + 1, a, e => by simpa using get_all2 t (i := i) (by simpa using e)
section
variable {prog : Program} {w : World} {A : Around} {E : Value → Shared → Prop} {s : Shared} {h₀ : Heap} {L : Addr} {m : Str → Option Value} {env : Env}
theorem gc_pairF {elt iter : PySem.Expr} {x1 x2 : Str} {p1 p2 tp : Pos} {kk : Nat} {scope : Scope} {cl : List (Str × Addr)} {pos : Pos} {Q : Value → Shared → Prop} (_F : Fr h₀ L s.heap m) (hh : A.handled = none)
    (hclos : closureFor scope env = pure cl) (hcell : ∀ y ∈ scope.names, y.2 ≠ .cell) (hkind : scope.kind = .function) (hnames : ∀ y ∈ scope.names, y.2 = .local → scope.names.lookup y.1 = some .local) (hx1 : scope.names.lookup x1 = some .local) (hx2 : scope.names.lookup x2 = some .local) (hxx : x1 ≠ x2) (hs1 : ∀ x, foldedSetIterable iter env x = pure x)
    (h : wpAny (model prog w) A (eval iter env) (fun xv s₁ => wpAny (model prog w) A (pyIter xv) (GpSrc prog w A h₀ L m env s elt x1 x2 p1 p2 tp kk scope cl Q) E s₁) E s) :
    wpAny (model prog w) A (eval (.ListComp elt [⟨.Tuple [.Name x1 p1, .Name x2 p2] kk tp, iter, [], 0⟩] scope pos) env) Q E s :=
  gc_pairS hh hclos hcell hkind hnames hx1 hx2 hxx hs1 h
end
theorem GpEl_stop {h₀ : Heap} {L : Addr} {m : Str → Option Value} {s : Shared} {ws : List (Addr × String)} {its : List (Addr × Obj)} {C : Addr} {oC : Obj} {D : Addr} {oD : Obj} {pre tl : List (Addr × Obj)} {R : List (Addr × Obj) → Value → Prop} {y : Value} {s' : Shared} (h : GpEl h₀ L m s ws its C oC D oD pre tl R y s') : GpEl h₀ L m s ws its C oC D oD pre tl R y s' := h
theorem gp_plain {h₀ : Heap} {L : Addr} {m : Str → Option Value} {s : Shared} {ws : List (Addr × String)} {its : List (Addr × Obj)} {C : Addr} {oC : Obj} {D : Addr} {oD : Obj} {pre tl nw : List (Addr × Obj)} {R : List (Addr × Obj) → Value → Prop} {y : Value} {h' : Heap} {tk' : Nat} (F : Fr h₀ L h' m) (N : News h₀ L h' nw) (hs : ∀ q ∈ its ++ (C, oC) :: (D, oD) :: (pre ++ tl), q ∈ nw) (hR : R tl y) : GpEl h₀ L m s ws its C oC D oD pre tl R y { s with heap := h', toks := tk' } :=
  have o : Offs ws [] := fun q hq => absurd hq List.not_mem_nil
  have r : R (tl ++ []) y := by rw [List.append_nil]; exact hR
  have n : News h₀ L h' (its ++ (C, oC) :: (D, oD) :: (pre ++ (tl ++ []))) := by rw [List.append_nil]; exact fun q hq => N q (hs q hq)
  ⟨h', tk', [], rfl, F, n, o, off_nil, off_nil, r⟩
theorem gx_plain {h₀ : Heap} {L : Addr} {m : Str → Option Value} {s : Shared} {ws : List (Addr × String)} {its fr : List (Addr × Obj)} {C D : Addr} {ys : List Value} {pre tl nw : List (Addr × Obj)} {K : List (Addr × Obj) → List Value → Prop} {y : Value} {h' : Heap} {tk' : Nat} (F : Fr h₀ L h' m) (N : News h₀ L h' nw) (hs : ∀ q ∈ its ++ (fr ++ (D, LCg.lst ys) :: (pre ++ tl)), q ∈ nw) (hR : K tl (ys ++ [y])) : GxVal h₀ L m s ws its fr C D ys pre tl K y { s with heap := h', toks := tk' } :=
  have o : Offs ws [] := fun q hq => absurd hq List.not_mem_nil
  have r : K (tl ++ []) (ys ++ [y]) := by rw [List.append_nil]; exact hR
  have n : News h₀ L h' (its ++ (fr ++ (D, LCg.lst ys) :: (pre ++ (tl ++ [])))) := by rw [List.append_nil]; exact fun q hq => N q (hs q hq)
  ⟨h', tk', [], rfl, F, n, o, off_nil, off_nil, r⟩
theorem gx_no {h₀ : Heap} {L : Addr} {m : Str → Option Value} {s : Shared} {ws : List (Addr × String)} {its fr : List (Addr × Obj)} {C D : Addr} {ys : List Value} {pre tl nw : List (Addr × Obj)} {K : List (Addr × Obj) → List Value → Prop} {h' : Heap} {tk' : Nat} (F : Fr h₀ L h' m) (N : News h₀ L h' nw) (hs : ∀ q ∈ its ++ (fr ++ (D, LCg.lst ys) :: (pre ++ tl)), q ∈ nw) (hR : K tl ys) : GxNo h₀ L m s ws its fr C D ys pre tl K { s with heap := h', toks := tk' } :=
  have o : Offs ws [] := fun q hq => absurd hq List.not_mem_nil
  have r : K (tl ++ []) ys := by rw [List.append_nil]; exact hR
  have n : News h₀ L h' (its ++ (fr ++ (D, LCg.lst ys) :: (pre ++ (tl ++ [])))) := by rw [List.append_nil]; exact fun q hq => N q (hs q hq)
  ⟨h', tk', [], rfl, F, n, o, off_nil, off_nil, r⟩
theorem ints_range {g : Nat → Int} {n : Nat} {ys : List Value} (h : All2 (fun k y => ∃ t, y = Value.int (g k) t) (List.range n) ys) : IntsAre ys ((List.range n).map g) := by
  have key : ∀ (ks : List Nat) (ys : List Value), All2 (fun k y => ∃ t, y = Value.int (g k) t) ks ys → IntsAre ys (ks.map g) := by
    intro ks
    induction ks with
    | nil => intro ys h; cases h; exact .nil
    | cons k r ih =>
      intro ys h
      cases h with
      | cons h1 h2 => obtain ⟨t, rfl⟩ := h1; exact .cons _ _ (ih _ h2)
  exact key _ _ h
end Mine
end
section
open PySem PySem.W PyProof.Rows
namespace Mine
section
variable {prog : Program} {w : World} {A : Around} {E : Value → Shared → Prop} {s : Shared} {env : Env} {h₀ : Heap} {target : PySem.Expr} {body : List Stmt} {Q : Flow → Shared → Prop}
theorem tl_listC {σ : Type} {l : Addr} {vs : List Value} {nn : Nat} {m₀ : Str → Option Value} (Led : σ → List (Addr × Obj)) (ps : σ → List (Str × Value)) (Facts : σ → Prop) (stored : List Str) (P : Nat → σ → Prop) (c₀ : σ)
    (hh : A.handled = none) (F : Fr h₀ env.locals s.heap m₀) (N : News h₀ env.locals s.heap (Led c₀)) (hl : ∀ c, Facts c → (l, W.listOf vs.toArray nn) ∈ Led c) (hf : Facts c₀) (hk : ∀ p ∈ ps c₀, m₀ p.1 = some p.2) (hp : P 0 c₀)
    (turn : ∀ (c : σ) (i : Nat) (v : Value) (u : Str → Option Value) h tk I o, vs[i]? = some v → Off I (Led c) → o.cls = .type "list_iterator" → Facts c → P i c →
      Fr h₀ env.locals h (kstB (fun z => if stored.contains z then u z else m₀ z) (ps c)) → News h₀ env.locals h ((I, o) :: Led c) →
      wpAny (model prog w) A (assign target env v) (fun _ s₂ => wpAny (model prog w) A (execs body env) (UnrPostW h₀ env.locals { s with heap := h, toks := tk } [(I, o)] (TlS Led ps Facts stored m₀ P (i + 1)) Q) E s₂) E { s with heap := h, toks := tk })
    (done : ∀ (c : σ) (u : Str → Option Value) h tk, Facts c → P vs.length c → Fr h₀ env.locals h (kstB (fun z => if stored.contains z then u z else m₀ z) (ps c)) → News h₀ env.locals h (Led c) → Q .next { s with heap := h, toks := tk }) :
    wpAny (model prog w) A (pyIter (.ref l)) (fun it s₂ => TurnsAt prog w A h₀ env target body Q E it s₂) E s := by
  refine iter_listTurns hh F N (hl _ hf) rfl rfl ?_
  intro I hI0
  have key : ∀ (r : List Value) (i : Nat), i ≤ vs.length → vs.drop i = r → ∀ m nx, Off I nx → TlS Led ps Facts stored m₀ P i m nx → ItemsRest prog w A E h₀ env target body Q s [(I, "list_iterator")] [(l, W.listOf vs.toArray nn)] (r.map .val) m nx := by
    intro r
    induction r with
    | nil =>
      rintro i hi hr m nx hoff ⟨c, rfl, hf', h1, h2, hp'⟩
      have hi' : i = vs.length := by
        have := List.drop_eq_nil_iff.mp hr
        omega
      subst hi'
      refine ItemsRest.zero fun h tk F₁ N₁ => ?_
      exact done c m h tk hf' hp' (ksw_fr h1 h2 F₁) N₁
    | cons v r ih =>
      rintro i hi hr m nx hoff ⟨c, rfl, hf', h1, h2, hp'⟩
      have hlt : i < vs.length := by
        by_cases e : i < vs.length
        · exact e
        · rw [List.drop_eq_nil_of_le (by omega)] at hr
          exact nomatch hr
      have hv : vs[i]? = some v := by
        have := congrArg List.head? hr
        rw [List.head?_drop] at this
        simpa using this
      have hr' : vs.drop (i + 1) = r := by
        rw [← List.tail_drop, hr]
        rfl
      refine ItemsRest.val fun h tk F₁ o hoc N₁ => ?_
      refine wpAny_mono (turn c i v m h tk I o hv hoff hoc hf' hp' (ksw_fr h1 h2 F₁) N₁) (fun _ s₂ hq => wpAny_mono hq (fun fl s₃ hq' => unrPostW_imp (fun m' n' ho x => ⟨?_, ih (i + 1) hlt hr' m' n' (fun p hp => ho p hp _ (.head _)) x⟩) hq') fun _ _ e => e) fun _ _ e => e
      obtain ⟨c', rfl, hf'', _⟩ := x
      exact ⟨hl _ hf'', trivial⟩
  exact key vs 0 (Nat.zero_le _) rfl m₀ _ (fun p hp => Nat.ne_of_lt (hI0 p hp)) ⟨c₀, rfl, hf, hk, fun _ _ _ => rfl, hp⟩
theorem tl_tuple {σ : Type} {l : Addr} {vs : List Value} {m₀ : Str → Option Value} (Led : σ → List (Addr × Obj)) (ps : σ → List (Str × Value)) (Facts : σ → Prop) (stored : List Str) (P : Nat → σ → Prop) (c₀ : σ)
    (hh : A.handled = none) (F : Fr h₀ env.locals s.heap m₀) (N : News h₀ env.locals s.heap (Led c₀)) (hl : ∀ c, Facts c → (l, ({ cls := .type "tuple", data := .seq vs.toArray } : Obj)) ∈ Led c) (hf : Facts c₀) (hk : ∀ p ∈ ps c₀, m₀ p.1 = some p.2) (hp : P 0 c₀)
    (turn : ∀ (c : σ) (i : Nat) (v : Value) (u : Str → Option Value) h tk I o, vs[i]? = some v → Off I (Led c) → o.cls = .type "tuple_iterator" → Facts c → P i c →
      Fr h₀ env.locals h (kstB (fun z => if stored.contains z then u z else m₀ z) (ps c)) → News h₀ env.locals h ((I, o) :: Led c) →
      wpAny (model prog w) A (assign target env v) (fun _ s₂ => wpAny (model prog w) A (execs body env) (UnrPostW h₀ env.locals { s with heap := h, toks := tk } [(I, o)] (TlS Led ps Facts stored m₀ P (i + 1)) Q) E s₂) E { s with heap := h, toks := tk })
    (done : ∀ (c : σ) (u : Str → Option Value) h tk, Facts c → P vs.length c → Fr h₀ env.locals h (kstB (fun z => if stored.contains z then u z else m₀ z) (ps c)) → News h₀ env.locals h (Led c) → Q .next { s with heap := h, toks := tk }) :
    wpAny (model prog w) A (pyIter (.ref l)) (fun it s₂ => TurnsAt prog w A h₀ env target body Q E it s₂) E s := by
  refine iter_tupTurns hh F N (hl _ hf) rfl rfl ?_
  intro I hI0
  have key : ∀ (r : List Value) (i : Nat), i ≤ vs.length → vs.drop i = r → ∀ m nx, Off I nx → TlS Led ps Facts stored m₀ P i m nx → ItemsRest prog w A E h₀ env target body Q s [(I, "tuple_iterator")] [(l, ({ cls := .type "tuple", data := .seq vs.toArray } : Obj))] (r.map .val) m nx := by
    intro r
    induction r with
    | nil =>
      rintro i hi hr m nx hoff ⟨c, rfl, hf', h1, h2, hp'⟩
      have hi' : i = vs.length := by
        have := List.drop_eq_nil_iff.mp hr
        omega
      subst hi'
      refine ItemsRest.zero fun h tk F₁ N₁ => ?_
      exact done c m h tk hf' hp' (ksw_fr h1 h2 F₁) N₁
    | cons v r ih =>
      rintro i hi hr m nx hoff ⟨c, rfl, hf', h1, h2, hp'⟩
      have hlt : i < vs.length := by
        by_cases e : i < vs.length
        · exact e
        · rw [List.drop_eq_nil_of_le (by omega)] at hr
          exact nomatch hr
      have hv : vs[i]? = some v := by
        have := congrArg List.head? hr
        rw [List.head?_drop] at this
        simpa using this
      have hr' : vs.drop (i + 1) = r := by
        rw [← List.tail_drop, hr]
        rfl
      refine ItemsRest.val fun h tk F₁ o hoc N₁ => ?_
      refine wpAny_mono (turn c i v m h tk I o hv hoff hoc hf' hp' (ksw_fr h1 h2 F₁) N₁) (fun _ s₂ hq => wpAny_mono hq (fun fl s₃ hq' => unrPostW_imp (fun m' n' ho x => ⟨?_, ih (i + 1) hlt hr' m' n' (fun p hp => ho p hp _ (.head _)) x⟩) hq') fun _ _ e => e) fun _ _ e => e
      obtain ⟨c', rfl, hf'', _⟩ := x
      exact ⟨hl _ hf'', trivial⟩
  exact key vs 0 (Nat.zero_le _) rfl m₀ _ (fun p hp => Nat.ne_of_lt (hI0 p hp)) ⟨c₀, rfl, hf, hk, fun _ _ _ => rfl, hp⟩
end
section
variable {prog : Program} {w : World} {A : Around} {E : Value → Shared → Prop} {s : Shared} {env : Env} {h₀ : Heap} {body : List Stmt} {Q : Flow → Shared → Prop}
theorem tl_rangeC {σ : Type} {x : Str} {px : Pos} {r : Addr} {a b : Int} {t₀ u₀ v₀ : Tok} {n : Nat} {m₀ : Str → Option Value} (Led : σ → List (Addr × Obj)) (ps : σ → List (Str × Value)) (Facts : σ → Prop) (stored : List Str) (P : Nat → σ → Prop) (c₀ : σ)
    (hh : A.handled = none) (hr : IsRange s.heap r a b 1 t₀ u₀ v₀) (hsmall : Builtin.Range.small a b 1 = true) (hn : Builtin.Range.rangeSize a b 1 = (n : Int)) (F : Fr h₀ env.locals s.heap m₀) (N : News h₀ env.locals s.heap (Led c₀)) (hf : Facts c₀) (hk : ∀ p ∈ ps c₀, m₀ p.1 = some p.2) (hp : P 0 c₀)
    (turn : ∀ (c : σ) (i : Nat) (t : Tok) (u : Str → Option Value) h tk I o, i < n → Off I (Led c) → o.cls = .type "range_iterator" → Facts c → P i c →
      Fr h₀ env.locals h (kstB (fun z => if stored.contains z then u z else m₀ z) (ps c)) → News h₀ env.locals h ((I, o) :: Led c) →
      wpAny (model prog w) A (assign (.Name x px) env (.int (a + (i : Int)) t)) (fun _ s₂ => wpAny (model prog w) A (execs body env) (UnrPostW h₀ env.locals { s with heap := h, toks := tk } [(I, o)] (TlS Led ps Facts stored m₀ P (i + 1)) Q) E s₂) E { s with heap := h, toks := tk })
    (done : ∀ (c : σ) (u : Str → Option Value) h tk, Facts c → P n c → Fr h₀ env.locals h (kstB (fun z => if stored.contains z then u z else m₀ z) (ps c)) → News h₀ env.locals h (Led c) → Q .next { s with heap := h, toks := tk }) :
    wpAny (model prog w) A (pyIter (.ref r)) (fun it s₂ => TurnsAt prog w A h₀ env (.Name x px) body Q E it s₂) E s := by
  refine wpAny_pyIter_range hr hsmall ?_
  have W : Walks prog w A s.heap.objs.size [s.heap.objs.size] [s.heap.objs.size] n (fun i v => i < n ∧ ∃ t, v = .int (a + i * 1) t)
      (fun i h => IsRangeIter h s.heap.objs.size (a + (i : Nat) * 1) ((n : Int) - (i : Nat)) 1) := (Walks.range hh _ a 1 n).bound
  have key : ∀ (j i : Nat), i + j = n → ∀ m nx, Off s.heap.objs.size nx → TlS Led ps Facts stored m₀ P i m nx → ItemsRest prog w A E h₀ env (.Name x px) body Q s [(s.heap.objs.size, "range_iterator")] [] (((List.range n).drop i).map fun (k : Nat) => Itm.tok fun t => .int (a + (k : Int)) t) m nx := by
    intro j
    induction j with
    | zero =>
      rintro i hi m nx hoff ⟨c, rfl, hf', h1, h2, hp'⟩
      have hi' : i = n := by omega
      subst hi'
      rw [List.drop_eq_nil_of_le (by simp)]
      refine ItemsRest.zero fun h tk F₁ N₁ => ?_
      exact done c m h tk hf' hp' (ksw_fr h1 h2 F₁) N₁
    | succ j ih =>
      rintro i hi m nx hoff ⟨c, rfl, hf', h1, h2, hp'⟩
      have hlt : i < n := by omega
      rw [List.drop_eq_getElem_cons (by simpa using hlt), List.map_cons, List.getElem_range]
      refine ItemsRest.tok fun t h tk F₁ o hoc N₁ => ?_
      refine wpAny_mono (turn c i t m h tk _ o hlt hoff hoc hf' hp' (ksw_fr h1 h2 F₁) N₁) (fun _ s₂ hq => wpAny_mono hq (fun fl s₃ hq' => unrPostW_imp (fun m' n' ho x => ⟨trivial, ih (i + 1) (by omega) m' n' (fun p hp => ho p hp _ (.head _)) x⟩) hq') fun _ _ e => e) fun _ _ e => e
  refine ktu_core (tk0 := s.toks) (keep := []) (KTurns.ofWalks W fun i v s Q E _ q => wpAny_of_eq (a := ()) rfl q) (by simp) (fun i v h hp => ?_) (fun i h st => ?_) (fun b hb => ?_) (fun b hb => by simpa using hb) (fun b hb => .inl (by simpa using hb)) ?_ (fun p hp hI => ?_) ?_ (F.push _) (fun p hp => ⟨Heap.get?_push_of_some _ (N p hp).1, (N p hp).2⟩) trivial
    (key n 0 (by omega) m₀ _ (fun p hp => Nat.ne_of_lt (Heap.lt_size (N p hp).1)) ⟨c₀, rfl, hf, hk, fun _ _ _ => rfl, hp⟩)
  · obtain ⟨hi, t, rfl⟩ := hp
    refine ⟨.tok fun t => .int (a + (i : Int)) t, ?_, t, by rw [Int.mul_one]⟩
    simp [List.getElem?_map, List.getElem?_range hi]
  · exact ⟨[(s.heap.objs.size, _)], ⟨⟨rfl, rfl⟩, trivial⟩, fun p hp => by rw [List.mem_singleton.mp hp]; exact st⟩
  · have hb' : b = s.heap.objs.size := by simpa using hb
    rw [hb']
    exact ⟨List.mem_cons_self .., next_is_new F⟩
  · intro hI
    have e : env.locals = s.heap.objs.size := by simpa using hI
    exact absurd F.ns.lt (e ▸ Nat.lt_irrefl _)
  · have e : p.1 = s.heap.objs.size := by simpa using hI
    exact absurd (Heap.lt_size (N p hp).1) (e ▸ Nat.lt_irrefl _)
  · show IsRangeIter _ _ _ _ _
    rw [hn]
    simpa using Heap.get?_push_size _ rfl
end
end Mine
end
section
open PySem PySem.W PyProof.Rows
namespace Mine
section
variable {prog : Program} {w : World} {A : Around} {E : Value → Shared → Prop} {s : Shared} {h₀ : Heap} {L a b : Addr} {news n₁ n₂ : List (Addr × Obj)} {oa ob : Obj} {xs ys : List Value} {ka kb : Nat} {ds es : List Dat} {Q : Value → Shared → Prop}
open Classical in
theorem kqt_eq (N : News h₀ L s.heap news) (ma : (a, oa) ∈ news) (ca : oa.cls = .type "tuple") (da : oa.data = .seq xs.toArray ka) (Da : DatAll n₁ xs ds) (sa : ∀ p ∈ n₁, p ∈ news)
    (mb : (b, ob) ∈ news) (cb : ob.cls = .type "tuple") (db : ob.data = .seq ys.toArray kb) (Db : DatAll n₂ ys es) (sb : ∀ p ∈ n₂, p ∈ news)
    (ha : ∀ d ∈ ds, kqdOk 8 d = true) (hb : ∀ d ∈ es, kqdOk 8 d = true) (hu : A.units + 64 < cLine) (h : ∀ r : Bool, (r = true ↔ ds = es) → Q (.bool r) s) : wpAny (model prog w) A (compareOp .Eq (.ref a) (.ref b)) Q E s := by
  obtain ⟨as, ra⟩ := kqd_all N 8 (Da.mono sa) ha
  obtain ⟨bs, rb⟩ := kqd_all N 8 (Db.mono sb) hb
  have la := kqd_lay 9 (.tuple ds) (by simpa [kqdOk] using ha)
  have lb := kqd_lay 9 (.tuple es) (by simpa [kqdOk] using hb)
  rw [kqdP] at la lb
  have e : PyData.eqv (.tuple (kqdPs ds)) (.tuple (kqdPs es)) = decide (ds = es) := by
    have q := kqd_eqv 9 (.tuple ds) (.tuple es) 9 (by simpa [kqdOk] using ha) (by simpa [kqdOk] using hb)
    rw [kqdP, kqdP, Dat.tuple.injEq] at q
    by_cases hq : ds = es
    · rw [decide_eq_true hq]; exact q.mpr hq
    · rw [decide_eq_false hq]; exact Bool.eq_false_iff.mpr fun x => hq (q.mp x)
  refine eq_dataH (reads_tuple_at (N.get ma) ca da (by simpa using ra)) (reads_tuple_at (N.get mb) cb db (by simpa using rb)) ?_ ?_ hu (by rw [e]; exact h _ (decide_eq_true_iff))
  · unfold SeqAt.shaped; rw [la.1, Bool.true_and]; exact decide_eq_true (Nat.le_trans la.2 (by decide))
  · unfold SeqAt.shaped; rw [lb.1, Bool.true_and]; exact decide_eq_true (Nat.le_trans lb.2 (by decide))
end
theorem dat_ints {news : List (Addr × Obj)} : ∀ {vs : List Value} {ns : List Int}, IntsAre vs ns → DatAll news vs (ns.map Dat.int)
  | _, _, .nil => .nil
  | _, _, .cons _ _ h => .cons (.int _ _) (dat_ints h)
theorem dat_ints_ok {ns : List Int} {n : Nat} : ∀ d ∈ ns.map Dat.int, kqdOk n d = true := by
  intro d hd
  obtain ⟨i, _, rfl⟩ := List.mem_map.mp hd
  cases n <;> rfl
theorem dat_int_inj : ∀ {a b : List Int}, a.map Dat.int = b.map Dat.int ↔ a = b := by
  intro a b
  constructor
  · intro h
    exact (List.map_inj_right fun x y e => by injection e).mp h
  · intro h; rw [h]
section
variable {prog : Program} {w : World} {A : Around} {E : Value → Shared → Prop} {s : Shared} {h₀ : Heap} {L a b : Addr} {news n₁ n₂ : List (Addr × Obj)} {oa ob : Obj} {xs ys : List Value} {ka kb : Nat} {ds es : List Dat} {x : Value} {d : Dat} {Q : Value → Shared → Prop}
theorem kqn_ne (N : News h₀ L s.heap news) (ma : (a, oa) ∈ news) (ca : oa.cls = .type "list") (da : oa.data = .seq xs.toArray ka) (Da : DatAll n₁ xs ds) (sa : ∀ p ∈ n₁, p ∈ news)
    (mb : (b, ob) ∈ news) (cb : ob.cls = .type "list") (db : ob.data = .seq ys.toArray kb) (Db : DatAll n₂ ys es) (sb : ∀ p ∈ n₂, p ∈ news)
    (ha : ∀ d ∈ ds, kqdOk 8 d = true) (hb : ∀ d ∈ es, kqdOk 8 d = true) (hu : A.units + 64 < cLine) (h : ∀ r : Bool, (r = true ↔ ds ≠ es) → Q (.bool r) s) : wpAny (model prog w) A (compareOp .NotEq (.ref a) (.ref b)) Q E s :=
  kqd_ne N ma ca da Da sa mb cb db Db sb ha hb hu (h _ (by simp))
end
end Mine
end
section
open PySem PySem.W PyProof.Rows
namespace Mine
section
variable {prog : Program} {w : World} {A A₀ : Around} {E : Value → Shared → Prop} {s : Shared} {K : Frag} {C L : Addr} {h₀ base : Heap} {m mg mb : Str → Option Value} {news : List (Addr × Obj)} {p : Program} {loose : List Str} {mean : ExcName → Option Value} {Q : Value → Shared → Prop}
noncomputable def noDict : Obj := { cls := .type "dict", data := .dict #[] }
structure NoSys (d : Addr) : Prop where
  ne : (d == sysModules) = false
theorem code_defK {env : Env} {outer : List Env} {R : Result → Shared → Prop} {name qual : Str} {params : Arguments} {body : List Stmt} {scope : Scope} {dV kV doc pm cdv ct oc : Value} {an od : Option Addr} {osl : Array (Option Value)} {f : Addr} {args : Args} {binds : Addr → List (Str × Value)}
    (B : Below A₀ base outer h₀) (F : Fr h₀ L s.heap m) (X₀ : K.In h₀) (N : News h₀ L s.heap news) (T : Top p loose mean mg mb h₀) (hA : A.frames = some (env :: outer)) (hf : env.frame = some L) (hke : env.scope.kind = .function)
    (ho : K.lookup f = some ⟨oc, od, .func (fnOf name qual params body scope dV kV doc pm an cdv ct), osl⟩) (hcd : codeIn K cdv qual = true) (hroom : A.depth < recursionLimit)
    (hbind : bindArgs (fnOf name qual params body scope dV kV doc pm an cdv ct) args = (alloc noDict >>= fun d => pure (binds d))) (hloc : ∀ d, ∀ y ∈ binds d, scope.names.lookup y.1 = some .local)
    (h : ∀ g L' h₁ d tk, Fr h₀ L g m → Fr g L' h₁ (fun y => (binds d).reverse.lookup y) → News g L' h₁ ((d, noDict) :: news) → Below A base (env :: outer) g → K.In g → Top p loose mean mg mb g → NoSys d → (∀ q ∈ news, q.1 < d) →
      wpAny (model prog w) (A.deeper (envOf qual scope L' f cdv)) (execs body (envOf qual scope L' f cdv))
        (fun fl s' => LeaveK h₀ L m g R (match fl with | .ret v => v | _ => .none) s')
        (fun e s' => wpAny (model prog w) (A.deeper (envOf qual scope L' f cdv)) (leaving (envOf qual scope L' f cdv) e) (fun _ s'' => R (.error e) s'') (fun e' s'' => R (.error e') s'') s')
        { s with heap := h₁, toks := tk })
    (hco : scope.isCoroutine = false) (hgen : scope.isGenerator = false) (hk : scope.kind = .function)
    (hcell : ∀ x ∈ scope.names, x.2 ≠ .cell) (hf1 : 1 ≤ f) : codeAny (model prog w) A (.call (.ref f) args) R s := by
  have X := X₀.keeps F.keep
  refine codeAny_call_function hroom (X _ _ ho) rfl hco hgen rfl (codeRec_of X hcd) ?_
  rw [hbind]
  refine wpAny_bind (wpAny_alloc ?_)
  refine wpAny_pure ?_
  have F₂ : Fr h₀ L (s.heap.push noDict) m := F.push _
  have N₂ : News h₀ L (s.heap.push noDict) ((s.heap.objs.size, noDict) :: news) := News.push F N _ rfl
  obtain ⟨FG, BG, st, lv⟩ := groundX (R := R) (s := { s with heap := s.heap.push noDict }) B F₂ N₂ hA hf hke
  have hsm : (s.heap.objs.size == sysModules) = false := by
    have hlt := Heap.lt_size (X _ _ ho)
    rw [beq_eq_false_iff_ne]
    intro e
    rw [e] at hlt
    exact absurd hlt (Nat.not_lt.mpr hf1)
  refine wpAny_newFunctionEnv hcell (hloc _) (fun h₁ hns₁ hsb₁ => ⟨(T.nolimit.keeps F₂.keep).fresh _ hsb₁, codeAny_func ?_⟩) hk
  have hk₁ : ∀ b o, (s.heap.push noDict).get? b = some o → h₁.get? b = some o := fun b o e => hsb₁.extBut b o (Nat.ne_of_lt (Heap.lt_size e)) (Heap.get?_push_of_some _ e)
  exact wpAny_mono (h _ (s.heap.push noDict).objs.size h₁ s.heap.objs.size _ FG ⟨hns₁, fun b o e => hk₁ b o (of_hideAll _ e), Nat.le_of_eq (hideAll_size _ _)⟩
    (fun q hq => ⟨hk₁ _ _ (N₂ q hq).1, Nat.ne_of_lt (Heap.lt_size (N₂ q hq).1), hideAll_none _ (List.mem_map_of_mem hq)⟩) BG (X₀.keeps st) (T.keeps st) ⟨hsm⟩ (fun q hq => Heap.lt_size (N q hq).1)) (fun fl s' hl => lv _ _ hl) fun _ _ y => y
end
end Mine
end
section
open PySem PySem.W PyProof.Rows
namespace Mine
structure TupAt (led : List (Addr × Obj)) (v : Value) (cs : List Int) : Prop where
  at_ : ∃ T cvs, v = .ref T ∧ IntsAre cvs cs ∧ (T, ({ cls := .type "tuple", data := .seq cvs.toArray } : Obj)) ∈ led
theorem TupAt.mono {led led' : List (Addr × Obj)} {v : Value} {cs : List Int} (h : TupAt led v cs) (k : ∀ q ∈ led, q ∈ led') : TupAt led' v cs := by
  obtain ⟨T, cvs, e, hI, hm⟩ := h
  exact ⟨T, cvs, e, hI, k _ hm⟩
section
variable {prog : Program} {w : World} {A : Around} {E : Value → Shared → Prop} {s : Shared} {h₀ : Heap} {L : Addr} {m : Str → Option Value} {env : Env}
noncomputable def FlIs (h₀ : Heap) (L : Addr) (m : Str → Option Value) (s : Shared) (v : Value) (led : List (Addr × Obj)) (xv : Value) (s' : Shared) : Prop :=
  ∃ h' tk', s' = { s with heap := h', toks := tk' } ∧ xv = v ∧ Fr h₀ L h' m ∧ News h₀ L h' led
theorem FlIs_stop {v : Value} {led : List (Addr × Obj)} {xv : Value} {s' : Shared} (h : FlIs h₀ L m s v led xv s') : FlIs h₀ L m s v led xv s' := h
theorem take_flat {css : List (List Int)} {i : Nat} {cs : List Int} (h : css[i]? = some cs) : (css.take (i + 1)).flatten = (css.take i).flatten ++ cs := by
  rw [List.take_add_one, h, List.flatten_append]
  simp
theorem gc_flatU {pos' : Pos} {use : Option (Value → Sem Unit)} {Fin : Addr → List Value → List (Addr × Obj) → Prop} {elt i1 i2 : PySem.Expr} {x1 x2 : Str} {p1 p2 : Pos} {scope : Scope} {cl : List (Str × Addr)} {pos : Pos} {Q : Value → Shared → Prop} {l : Addr} {vs : List Value} {css : List (List Int)} {nn : Nat} {pre : List (Addr × Obj)} (hh : A.handled = none) (hP : PostOk prog w A h₀ L m s E use Q Fin)
    (hclos : closureFor scope env = pure cl) (hcell : ∀ y ∈ scope.names, y.2 ≠ .cell) (hkind : scope.kind = .function) (hnames : ∀ y ∈ scope.names, y.2 = .local → scope.names.lookup y.1 = some .local) (hx1 : scope.names.lookup x1 = some .local) (hx2 : scope.names.lookup x2 = some .local) (hxx : x1 ≠ x2) (hz : css.flatten.length ≤ 10000)
    (hT : All2 (TupAt pre) vs css) (hl : (l, W.listOf vs.toArray nn) ∈ pre)
    (h : wpAny (model prog w) A (eval i1 env) (FlIs h₀ L m s (.ref l) pre) E s)
    (hs1 : ∀ x, foldedSetIterable i1 env x = pure x) (hs2 : ∀ C x, foldedSetIterable i2 (compEnvC scope cl C env) x = pure x)
    (it2 : ∀ v C oC mC D ys I1 o1 h tk (E' : Value → Shared → Prop), LCg.NsObj oC mC → mC x1 = some v → Fr h₀ L h m → News h₀ L h ((I1, o1) :: (C, oC) :: (D, LCg.lst ys) :: pre) →
      wpAny (model prog w) A (eval i2 (compEnvC scope cl C env)) (FlIs h₀ L m { s with heap := h, toks := tk } v ((I1, o1) :: (C, oC) :: (D, LCg.lst ys) :: pre)) E' { s with heap := h, toks := tk })
    (el : ∀ v C oC mC D ys I1 o1 I2 o2 h tk (E' : Value → Shared → Prop), LCg.NsObj oC mC → mC x2 = some v → Fr h₀ L h m → News h₀ L h ((I2, o2) :: (I1, o1) :: (C, oC) :: (D, LCg.lst ys) :: pre) →
      wpAny (model prog w) A (eval elt (compEnvC scope cl C env)) (FlIs h₀ L m { s with heap := h, toks := tk } v ((I2, o2) :: (I1, o1) :: (C, oC) :: (D, LCg.lst ys) :: pre)) E' { s with heap := h, toks := tk })
    (fin : ∀ D ys, IntsAre ys css.flatten → Fin D ys pre) :
    wpAny (model prog w) A (comprehension (.ListComp elt [⟨.Name x1 p1, i1, [], 0⟩, ⟨.Name x2 p2, i2, [], 0⟩] scope pos) scope env pos' (newList []) false (eval i1 env) use) Q E s := by
  refine gx_compU (h₀ := h₀) (L := L) (m := m) hclos hcell hkind hnames (wpAny_mono h (fun xv s₁ h₁ => ?_) fun _ _ e => e) hs1
  refine ex2 h₁ ?_; clear h₁; rintro ha ta hXO
  refine an4 hXO ?_; clear hXO; rintro rfl rfl F N
  have hol := (N _ hl).1
  have hls : ha.IsList l vs.toArray := ⟨_, hol, rfl, nn, rfl⟩
  refine wpAny_pyIter_list (s := { s with heap := ha, toks := ta }) hls ?_
  have hLlt : L < ha.objs.size := F.ns.lt
  have hp : ∀ q ∈ pre, q.1 < ha.objs.size := fun q hq => Heap.lt_size (N q hq).1
  have fr0 : ∀ a, ha.objs.size ≤ a → h₀.get? a = none := fun a hle => by
    cases e : h₀.get? a with
    | none => rfl
    | some o' => exact absurd (Heap.lt_size (F.keep a o' e)) (Nat.not_lt.mpr hle)
  have up : ∀ (o : Obj) b ob, ha.get? b = some ob → (ha.push o).get? b = some ob := fun o b ob e => Heap.get?_push_of_some _ e
  have hne : l ≠ ha.objs.size := Nat.ne_of_lt (hp _ hl)
  have hit0 : (ha.push { cls := .type "list_iterator", data := .fields #[.ref l, .int 0 0] }).IsListIter ha.objs.size l 0 := ⟨_, Heap.get?_push_size _ rfl, rfl, rfl⟩
  refine ⟨ha.objs.size, pre, rfl, F.keeps (up _), fun q hq => ⟨up _ _ _ (N q hq).1, (N q hq).2⟩, fun h tk Q' E' old q => wpAny_pyIter_listiter (l := l) (i := 0) ⟨_, old _ _ (Heap.get?_push_size _ rfl), rfl, rfl⟩ q, ?_⟩
  intro D C oC mC h₁ tk hD hC old hoC F₁ N₁
  have hD : D = ha.objs.size + 1 := hD.trans (Heap.size_push ..)
  have hDlt : ha.objs.size < D := by omega
  have hClt : D < C := by omega
  have hIC : ha.objs.size ≠ C := Nat.ne_of_lt (Nat.lt_trans hDlt hClt)
  have hID : ha.objs.size ≠ D := Nat.ne_of_lt hDlt
  have preC : Off C pre := fun q hq => Nat.ne_of_lt (Nat.lt_trans (hp q hq) (Nat.lt_trans hDlt hClt))
  have preD : Off D pre := fun q hq => Nat.ne_of_lt (Nat.lt_trans (hp q hq) hDlt)
  have preI : Off ha.objs.size pre := fun q hq => Nat.ne_of_lt (hp q hq)
  have one : ∀ {I : Addr} {ty : String} {nx : List (Addr × Obj)}, Off I nx → ∀ q ∈ nx, q.1 ∉ [(I, ty)].map (·.1) := fun h q hq hm => h q hq (by simpa using hm)
  have WW := KTurns.ofWalks (target := .Name x1 p1) (Walks.list (prog := prog) (w := w) hh ha.objs.size l hne vs.toArray) fun i v s Q E st q => letGo_listiter st.1 q
  simp only [List.size_toArray, List.getElem?_toArray] at WW
  refine gc_loop (s := { s with heap := h₁, toks := tk }) (gt_out elt (.Name x1 p1) i1 (.Name x2 p2) i2 scope pos _ _ _) WW [(ha.objs.size, "list_iterator")] [(l, W.listOf vs.toArray nn)]
    (fun i h st => by obtain ⟨o, ho, hc, _⟩ := st.1; exact ⟨[(ha.objs.size, o)], ⟨⟨rfl, hc⟩, trivial⟩, fun q hq => by rw [List.mem_singleton.mp hq]; exact ho⟩)
    (fun b hb => (show b = ha.objs.size by simpa using hb) ▸ ⟨fr0 _ (Nat.le_refl _), Nat.ne_of_gt hLlt⟩) (fun b hb => by simpa using hb)
    (fun b hb => by
      have e : b = ha.objs.size ∨ b = l := by simpa using hb
      rcases e with e | e
      · exact .inl (by simp [e])
      · exact .inr ⟨_, by rw [e]; exact .head _⟩)
    (fun i nx => ∃ oC mC ys, nx = (C, oC) :: (D, LCg.lst ys) :: pre ∧ LCg.NsObj oC mC ∧ IntsAre ys (css.take i).flatten)
    ⟨hit0.at fun o e => old _ _ e, (hls.push _).at fun o e => old _ _ e⟩ F₁ N₁ (one (Off.cons (Ne.symm hIC) (Off.cons (Ne.symm hID) preI))) ⟨.tail _ (.tail _ hl), trivial⟩ ⟨oC, mC, [], rfl, hoC, .nil⟩ ?turn ?done
  case done =>
    rintro h tk nx hXO F' N' -
    refine ex3 hXO ?_; clear hXO; rintro oC mC ys hXO
    refine an3 hXO ?_; clear hXO; rintro rfl hoC hA
    have hlen := hT.length
    rw [hlen, List.take_length] at hA
    exact hP D C oC mC ys pre h tk F' N' hoC (Off.cons (Nat.ne_of_lt hClt) preC) (fin D ys hA)
  case turn =>
    rintro i v nx its h tk hi hv hXO hits hap - F' N'
    refine ex3 hXO ?_; clear hXO; rintro oC mC ys hXO
    refine an3 hXO ?_; clear hXO; rintro rfl hoC hA
    obtain ⟨o, rfl⟩ := objs1 hits
    obtain ⟨cs, hcs, T, cvs, rfl, hI, hm⟩ := hT.get hv
    refine gc_assign1 (s := { s with heap := h, toks := tk }) (pre := [(ha.objs.size, o)]) hkind hx1 F' N' hoC (Off.cons hIC off_nil) (Off.cons (Nat.ne_of_lt hClt) preC) fun h₂ tk₂ oC₂ hC₂ F₂ N₂ => ?_
    intro k Qk hk
    refine wpAny_bind (wpAny_mono (it2 (.ref T) C oC₂ _ D ys ha.objs.size o h₂ tk₂ _ hC₂ (by simp) F₂ N₂) (fun xv s₃ h₃ => ?_) fun _ _ e => e)
    refine ex2 h₃ ?_; clear h₃; rintro h₃ tk₃ hXO
    refine an4 hXO ?_; clear hXO; rintro rfl rfl F₃ N₃
    refine wpAny_bind (wpAny_standAt ?_)
    refine wpAny_bind (wpAny_of_eq (hs2 C _) ?_)
    have hol3 := (N₃ _ (.tail _ (.tail _ (.tail _ hm)))).1
    have hls3 : h₃.IsTuple T cvs.toArray := ⟨_, hol3, rfl, _, rfl⟩
    refine wpAny_bind (wpAny_holding (wpAny_pyIter_tuple (s := { s with heap := h₃, toks := tk₃ }) hls3 ?_))
    have lt3 : ∀ q ∈ (ha.objs.size, o) :: (C, oC₂) :: (D, LCg.lst ys) :: pre, q.1 < h₃.objs.size := fun q hq => Heap.lt_size (N₃ q hq).1
    have F₄ : Fr h₀ L (h₃.push { cls := .type "tuple_iterator", data := .fields #[.ref T, .int 0 0] }) m := F₃.push _
    have N₄ : News h₀ L (h₃.push { cls := .type "tuple_iterator", data := .fields #[.ref T, .int 0 0] }) ((ha.objs.size, o) :: (C, oC₂) :: (D, LCg.lst ys) :: pre) := fun q hq => ⟨Heap.get?_push_of_some _ (N₃ q hq).1, (N₃ q hq).2⟩
    have hI20 : h₀.get? h₃.objs.size = none := next_is_new F₃
    have hI2L : h₃.objs.size ≠ L := Nat.ne_of_gt F₃.ns.lt
    have hne3 : T ≠ h₃.objs.size := Nat.ne_of_lt (Heap.lt_size hol3)
    have hit2 : (h₃.push { cls := .type "tuple_iterator", data := .fields #[.ref T, .int 0 0] }).IsTupleIter h₃.objs.size T 0 := ⟨_, Heap.get?_push_size _ rfl, rfl, rfl⟩
    refine wpAny_bind (wpAny_runOwn ?_)
    have loop : codeAny (model prog w) A (.compLoop (.ListComp elt [⟨.Name x1 p1, i1, [], 0⟩, ⟨.Name x2 p2, i2, [], 0⟩] scope pos) 1 (.ref h₃.objs.size) (.ref D) (compEnvC scope cl C env))
        (fun r s' => match r with
          | .ok f => wpAny (model prog w) A k Qk (notedBy (model prog w) A (compEnvC scope cl C env) fun e s' => compPost (model prog w) A E use Q (.ref D) C (.error e) s') s'
          | .error e => cameBackBy (model prog w) A (compEnvC scope cl C env) (notedBy (model prog w) A (compEnvC scope cl C env) fun e s' => compPost (model prog w) A E use Q (.ref D) C (.error e) s') e s')
        { s with heap := h₃.push { cls := .type "tuple_iterator", data := .fields #[.ref T, .int 0 0] }, toks := tk₃ } := by
      have W2 := KTurns.ofWalks (target := .Name x2 p2) (Walks.tuple (prog := prog) (w := w) hh h₃.objs.size T hne3 cvs.toArray) fun i v s Q E st q => letGo_tupleiter st.1 q
      simp only [List.size_toArray, List.getElem?_toArray] at W2
      have hTpre : (T, ({ cls := .type "tuple", data := .seq cvs.toArray } : Obj)) ∈ pre := hm
      refine gc_loop (s := { s with heap := h₃.push { cls := .type "tuple_iterator", data := .fields #[.ref T, .int 0 0] }, toks := tk₃ }) (gt_in elt (.Name x1 p1) i1 (.Name x2 p2) i2 scope pos _ _ _) W2 [(h₃.objs.size, "tuple_iterator")] [(T, { cls := .type "tuple", data := .seq cvs.toArray })]
        (fun i h st => by obtain ⟨o, ho, hc, _⟩ := st.1; exact ⟨[(h₃.objs.size, o)], ⟨⟨rfl, hc⟩, trivial⟩, fun q hq => by rw [List.mem_singleton.mp hq]; exact ho⟩)
        (fun b hb => (show b = h₃.objs.size by simpa using hb) ▸ ⟨hI20, hI2L⟩) (fun b hb => by simpa using hb)
        (fun b hb => by
          have e : b = h₃.objs.size ∨ b = T := by simpa using hb
          rcases e with e | e
          · exact .inl (by simp [e])
          · exact .inr ⟨_, by rw [e]; exact .head _⟩)
        (fun j nx => ∃ oC mC ys, nx = (ha.objs.size, o) :: (C, oC) :: (D, LCg.lst ys) :: pre ∧ LCg.NsObj oC mC ∧ IntsAre ys ((css.take i).flatten ++ cs.take j))
        ⟨hit2, hls3.at fun o e => Heap.get?_push_of_some _ e⟩ F₄ N₄ (one fun q hq => Nat.ne_of_lt (lt3 q hq)) ⟨.tail _ (.tail _ (.tail _ hTpre)), trivial⟩ ⟨oC₂, _, ys, rfl, hC₂, by simpa using hA⟩ ?turn2 ?done2
      case done2 =>
        rintro h' tk' nx hXO F' N' -
        refine ex3 hXO ?_; clear hXO; rintro oC mC ys hXO
        refine an3 hXO ?_; clear hXO; rintro rfl hoC hA
        rw [hI.length, List.take_length] at hA
        exact hk _ ⟨h', tk', _, rfl, F', N', one (Off.cons (Ne.symm hIC) (Off.cons (Ne.symm hID) preI)), ⟨.tail _ (.tail _ hl), trivial⟩, oC, mC, ys, rfl, hoC, by rw [take_flat hcs]; exact hA⟩
      case turn2 =>
        rintro j v2 nx its2 h' tk' hj hv2 hXO hits2 hap2 - F' N'
        refine ex3 hXO ?_; clear hXO; rintro oC mC ys hXO
        refine an3 hXO ?_; clear hXO; rintro rfl hoC hA
        obtain ⟨o2, rfl⟩ := objs1 hits2
        obtain ⟨c2, t2, rfl, hc2⟩ := IntsAre.at hI j v2 hv2
        have hoI2 : Off h₃.objs.size ((ha.objs.size, o) :: (C, oC) :: (D, LCg.lst ys) :: pre) := fun q hq e => hap2 q hq (by simp [e])
        have hI2C : h₃.objs.size ≠ C := Ne.symm (hoI2 _ (.tail _ (.head _)))
        have hI2D : h₃.objs.size ≠ D := Ne.symm (hoI2 _ (.tail _ (.tail _ (.head _))))
        refine gc_assign1 (s := { s with heap := h', toks := tk' }) (pre := [(h₃.objs.size, o2), (ha.objs.size, o)]) hkind hx2 F' N' hoC (Off.cons hI2C (Off.cons hIC off_nil)) (Off.cons (Nat.ne_of_lt hClt) preC) fun h₅ tk₅ oC₅ hC₅ F₅ N₅ => ?_
        refine gc_emit (wpAny_mono (el (.int c2 t2) C oC₅ _ D ys ha.objs.size o h₃.objs.size o2 h₅ tk₅ _ hC₅ (by simp) F₅ N₅) (fun y s₆ h₆ => ?_) fun _ _ e => e)
        refine ex2 h₆ ?_; clear h₆; rintro h₆ tk₆ hXO
        refine an4 hXO ?_; clear hXO; rintro rfl rfl F₆ N₆
        have hys : ys.length ≤ sizeLine := by
          have e1 := hA.length
          have e2 : ((css.take i).flatten ++ cs).length ≤ css.flatten.length := by
            rw [← take_flat hcs]
            conv => rhs; rw [← List.take_append_drop (i + 1) css, List.flatten_append, List.length_append]
            omega
          rw [List.length_append, List.length_take] at e1
          rw [List.length_append] at e2
          rw [PySem.sizeLine_eq]
          omega
        refine gc_append (s := { s with heap := h₆, toks := tk₆ }) (pre := [(h₃.objs.size, o2), (ha.objs.size, o), (C, oC₅)]) (post := pre) F₆ N₆ (Off.cons hI2D (Off.cons hID (Off.cons (Nat.ne_of_gt hClt) off_nil))) preD hys fun h₇ F₇ N₇ => ?_
        refine ⟨h₇, tk₆, (ha.objs.size, o) :: (C, oC₅) :: (D, LCg.lst (ys ++ [Value.int c2 t2])) :: pre, rfl, F₇, N₇, one (Off.cons (hoI2 _ (.head _)) (Off.cons (Ne.symm hI2C) (Off.cons (Ne.symm hI2D) (hoI2.tail.tail.tail)))), ⟨.tail _ (.tail _ (.tail _ hTpre)), trivial⟩, oC₅, _, ys ++ [Value.int c2 t2], rfl, hC₅, ?_⟩
        rw [List.take_add_one, hc2, ← List.append_assoc]
        exact IntsAre.append hA (.cons _ _ .nil)
    exact gc_start1 loop (wpAny_pyIter_tupleiter (t := T) (i := 0) hit2 loop)
theorem gc_flatA {elt i1 i2 : PySem.Expr} {x1 x2 y : Str} {p1 p2 py : Pos} {scope : Scope} {cl : List (Str × Addr)} {pos spos : Pos} {Q : Flow → Shared → Prop} {l : Addr} {vs : List Value} {css : List (List Int)} {nn : Nat} {pre : List (Addr × Obj)} (_F : Fr h₀ L s.heap m) (hh : A.handled = none) (hLe : env.locals = L)
    (hsw : swapsWith (.ListComp elt [⟨.Name x1 p1, i1, [], 0⟩, ⟨.Name x2 p2, i2, [], 0⟩] scope pos) (some (.Name y py)) spos.line env = pure true)
    (hy : env.kindOf y = some .local) (hp : (env.scope.kind == .class || (env.scope.kind == .module && env.locals != env.globals)) = false)
    (hclos : closureFor scope env = pure cl) (hcell : ∀ y ∈ scope.names, y.2 ≠ .cell) (hkind : scope.kind = .function) (hnames : ∀ y ∈ scope.names, y.2 = .local → scope.names.lookup y.1 = some .local) (hx1 : scope.names.lookup x1 = some .local) (hx2 : scope.names.lookup x2 = some .local) (hxx : x1 ≠ x2) (hz : css.flatten.length ≤ 10000)
    (hT : All2 (TupAt pre) vs css) (hl : (l, W.listOf vs.toArray nn) ∈ pre)
    (h : wpAny (model prog w) A (eval i1 env) (FlIs h₀ L m s (.ref l) pre) E s)
    (hs1 : ∀ x, foldedSetIterable i1 env x = pure x) (hs2 : ∀ C x, foldedSetIterable i2 (compEnvC scope cl C env) x = pure x)
    (it2 : ∀ v C oC mC D ys I1 o1 h tk (E' : Value → Shared → Prop), LCg.NsObj oC mC → mC x1 = some v → Fr h₀ L h m → News h₀ L h ((I1, o1) :: (C, oC) :: (D, LCg.lst ys) :: pre) →
      wpAny (model prog w) A (eval i2 (compEnvC scope cl C env)) (FlIs h₀ L m { s with heap := h, toks := tk } v ((I1, o1) :: (C, oC) :: (D, LCg.lst ys) :: pre)) E' { s with heap := h, toks := tk })
    (el : ∀ v C oC mC D ys I1 o1 I2 o2 h tk (E' : Value → Shared → Prop), LCg.NsObj oC mC → mC x2 = some v → Fr h₀ L h m → News h₀ L h ((I2, o2) :: (I1, o1) :: (C, oC) :: (D, LCg.lst ys) :: pre) →
      wpAny (model prog w) A (eval elt (compEnvC scope cl C env)) (FlIs h₀ L m { s with heap := h, toks := tk } v ((I2, o2) :: (I1, o1) :: (C, oC) :: (D, LCg.lst ys) :: pre)) E' { s with heap := h, toks := tk })
    (fin : ∀ D ys, IntsAre ys css.flatten → FinN h₀ L m s y Q D ys pre) :
    wpAny (model prog w) A (exec (.Assign [.Name y py] (.ListComp elt [⟨.Name x1 p1, i1, [], 0⟩, ⟨.Name x2 p2, i2, [], 0⟩] scope pos) spos) env) Q E s := by
  rw [exec_Assign_Name_used _ _ _ _ hsw]
  refine wpAny_bind (wpAny_standAt (wpAny_bind ?_))
  show wpAny _ A (do let _ ← comprehension (.ListComp elt [⟨.Name x1 p1, i1, [], 0⟩, ⟨.Name x2 p2, i2, [], 0⟩] scope pos) scope env i1.pos (newList []) false (eval i1 env) (some (assign (.Name y py) env))) _ _ s
  exact wpAny_bind (wpAny_mono (gc_flatU (h₀ := h₀) (L := L) (m := m) (use := some (assign (.Name y py) env)) (Q := fun _ s' => Q .next s') (Fin := FinN h₀ L m s y Q) hh (@post_N prog w A E s h₀ L m env y py Q hLe hy hp) hclos hcell hkind hnames hx1 hx2 hxx hz hT hl h hs1 hs2 it2 el fin) (fun _ s' hq => wpAny_pure (wpAny_pure hq)) fun _ _ e => e)
end
end Mine
end
section
open PySem PySem.W PyProof.Rows
namespace Mine
theorem all2_app {α β : Type} {R : α → β → Prop} : ∀ {as as' : List α} {bs bs' : List β}, All2 R as bs → All2 R as' bs' → All2 R (as ++ as') (bs ++ bs')
  | _, _, _, _, .nil, k => k
  | _, _, _, _, .cons h t, k => .cons h (all2_app t k)
theorem upd_mid {D : Addr} {o o' : Obj} {post : List (Addr × Obj)} (h2 : Off D post) : ∀ {pre : List (Addr × Obj)}, Off D pre → Upd D o o' (pre ++ (D, o) :: post) (pre ++ (D, o') :: post)
  | [], _ => .head h2
  | p :: r, h => .tail (h p (.head _)) (upd_mid h2 fun q hq => h q (.tail _ hq))
section
variable {prog : Program} {w : World} {A : Around} {E : Value → Shared → Prop} {s : Shared} {h₀ : Heap} {L : Addr} {m : Str → Option Value}
theorem li_push {D : Addr} {ys : List Value} {n : Nat} {y : Value} {Q : Value → Shared → Prop} (pre : List (Addr × Obj)) {post : List (Addr × Obj)} (F : Fr h₀ L s.heap m) (N : News h₀ L s.heap (pre ++ (D, W.listOf ys.toArray n) :: post)) (h1 : Off D pre) (h2 : Off D post) (hsz : ys.length ≤ 10000)
    (k : ∀ h', Fr h₀ L h' m → News h₀ L h' (pre ++ (D, W.listOf (ys ++ [y]).toArray (n + 1)) :: post) → Q .none { s with heap := h' }) : wpAny (model prog w) A (call (.builtin "list.append") [.ref D, y]) Q E s := by
  have z := N (D, W.listOf ys.toArray n) (List.mem_append_right _ (.head _))
  refine append_at (hsz := by rw [List.size_toArray, PySem.sizeLine_eq]; omega) z.1 fun h' hs hD => ?_
  refine k h' (F.change hs z.2.1 z.2.2) (N.setIn h1 h2 hs ?_)
  rw [hD, List.push_toArray]
theorem li_ext {D b : Addr} {ys ys2 : List Value} {n n2 : Nat} {Q : Value → Shared → Prop} (pre : List (Addr × Obj)) {post : List (Addr × Obj)} (F : Fr h₀ L s.heap m) (N : News h₀ L s.heap (pre ++ (D, W.listOf ys.toArray n) :: post)) (hb : (b, W.listOf ys2.toArray n2) ∈ pre ++ (D, W.listOf ys.toArray n) :: post) (h1 : Off D pre) (h2 : Off D post) (hsz : ys.length + ys2.length ≤ 10000) (hne : ys2.length ≠ 0)
    (k : ∀ h', Fr h₀ L h' m → News h₀ L h' (pre ++ (D, W.listOf (ys ++ ys2).toArray (n + 1)) :: post) → Q .none { s with heap := h' }) : wpAny (model prog w) A (call (.builtin "list.extend") [.ref D, .ref b]) Q E s := by
  have hs := PySem.sizeLine_eq
  refine kl_extend F N hb (l := ys ++ ys2) rfl hne (upd_mid h2 h1) ?_ (by show ys.length ≤ sizeLine; omega) (by show ys.length + ys2.length ≤ sizeLine + 1; omega) fun h' F' N' => k h' F' N'
  intro hc
  rw [Bool.and_eq_true] at hc
  have h3 := hc.2
  have e : Builtin.List.listTooLong (ys.toArray.size + ys2.toArray.size) = false := by
    unfold Builtin.List.listTooLong
    simp
    omega
  rw [e] at h3
  exact Bool.false_ne_true h3
end
theorem updF_of {d : Addr} {o : Obj} {rest : List (Addr × Obj)} (h2 : Off d rest) : ∀ {own : List (Addr × Obj)}, Off d own → UpdF d o (own ++ (d, o) :: rest) (fun o' => own ++ (d, o') :: rest)
  | [], _ => UpdF.head h2
  | p :: r, h1 => UpdF.tail (p := p) (h1 p (.head _)) (updF_of h2 h1.tail)
end Mine
end
section
open PySem PySem.W PyProof.Rows
namespace Mine
section
variable {prog : Program} {w : World} {A : Around} {E : Value → Shared → Prop} {s : Shared}
theorem adjust_to (b n : Nat) (hb : b ≤ n) : Builtin.Slice.sliceAdjust none (some (b : Int)) 1 (n : Int) = (0, (b : Int)) := by
  unfold Builtin.Slice.sliceAdjust
  have h1 : ¬ ((1 : Int) < 0) := by omega
  have h2 : ¬ ((b : Int) < 0) := by omega
  simp only [h1, h2, if_false]
  congr 1
  omega
theorem places_to (b : Nat) : Builtin.Slice.slicePlaces 0 (b : Int) 1 = b := by
  unfold Builtin.Slice.slicePlaces
  have h1 : (1 : Int) > 0 := by omega
  simp only [h1, if_true, Int.ediv_one]
  split <;> omega
theorem sliceApplied_to {sl : Addr} {b n : Nat} {u : Tok} {Q : Int × Int × Nat → Shared → Prop} (hs : s.heap.IsSliceOf sl .none (.int b u) .none) (hb : b ≤ n) (h : Q (0, 1, b) s) :
    wpAny (model prog w) A (Builtin.Slice.sliceApplied (.ref sl) (pure (n : Int))) Q E s := by
  obtain ⟨os, hos, hcs, hds⟩ := id hs
  unfold Builtin.Slice.sliceApplied Builtin.Slice.sliceFields
  refine wpAny_bind (wpAny_bind (wpAny_field hos hds (x := .none) rfl (wpAny_bind (wpAny_field hos hds (x := .int b u) rfl (wpAny_bind (wpAny_field hos hds (x := .none) rfl (wpAny_pure ?_)))))))
  refine wpAny_bind (slicePart_none ?_)
  show wpAny _ _ (if ((1 : Int) == 0) = true then _ else _) _ _ s
  rw [if_neg (by decide)]
  refine wpAny_bind (slicePart_none (wpAny_bind (slicePart_int (wpAny_bind (wpAny_pure ?_)))))
  show wpAny _ _ (match Builtin.Slice.sliceAdjust none (some (b : Int)) 1 (n : Int) with | (lo, hi) => pure (lo, (1 : Int), Builtin.Slice.slicePlaces lo hi 1)) _ _ s
  rw [adjust_to b n hb]
  show wpAny _ _ (pure ((0 : Int), (1 : Int), Builtin.Slice.slicePlaces 0 (b : Int) 1)) _ _ s
  rw [places_to b]
  exact wpAny_pure h
theorem pick_to (xs : Array Value) (b : Nat) : ((List.range b).filterMap fun (k : Nat) => xs[((0 : Int) + (k : Int) * 1).toNat]?).toArray = (xs.toList.take b).toArray := by
  have e : (fun (k : Nat) => xs[((0 : Int) + (k : Int) * 1).toNat]?) = fun k => xs[0 + k]? := by
    funext k
    have : ((0 : Int) + (k : Int) * 1).toNat = 0 + k := by omega
    rw [this]
  rw [e]
  have := pick_run xs 0 b
  rw [List.filterMap_map, List.drop_zero] at this
  rw [← this]
  rfl
theorem getItem_tuple_to {t sl : Addr} {items : Array Value} {b : Nat} {u : Tok} {Q : Value → Shared → Prop} (ht : IsTup s.heap t items) (hs : s.heap.IsSliceOf sl .none (.int b u) .none) (hb : b < items.size)
    (h : Q (.ref s.heap.objs.size) { s with heap := s.heap.push { cls := .type "tuple", data := .seq (items.toList.take b).toArray } })
    (hsz : items.size ≤ 10000) : wpAny (model prog w) A (getItem (.ref t) (.ref sl)) Q E s := by
  have hdrop : sizeOk (.seq (items.toList.take b).toArray) := by
    show (items.toList.take b).toArray.size ≤ sizeLine
    rw [List.size_toArray, List.length_take, Array.length_toList, PySem.sizeLine_eq]
    omega
  obtain ⟨os, hos, hcs, hds⟩ := id hs
  have hTs : s.TypeIs (.ref sl) "slice" := ⟨os, hos, hcs⟩
  unfold getItem
  try with_reducible refine wpAny_holding ?_
  first | refine wpAny_bind (wpAny_pure ?_) | skip
  refine wpAny_bind (wpAny_sequenceKey ht.typeIs (by decide) ?_)
  refine wpAny_bind (wpAny_callSpecial?_slot (name := Str.ofString "__getitem__") ht.typeIs slot_tuple_getitem
    (wpAny_call_entry slot_tuple_getitem ht.typeIs entry_tuple_getitem ?_ (args_tuple_getitem _ _)))
  show wpAny _ _ (Builtin.Tuple.tupleItemsOf (.ref t) >>= _) _ _ s
  refine wpAny_bind (tupleItemsOf_ ht ?_)
  refine wpAny_bind (wpAny_typeOf hTs ?_)
  rw [if_pos (by decide)]
  refine wpAny_bind (sliceApplied_to hs (Nat.le_of_lt hb) ?_)
  have hno : ¬ (((0 : Int) == 0 && (1 : Int) == 1 && b == items.size) = true) := by
    have : (b == items.size) = false := by rw [beq_eq_false_iff_ne]; omega
    rw [this]; simp
  show wpAny _ _ (if ((0 : Int) == 0 && (1 : Int) == 1 && b == items.size) = true then _ else _) _ _ s
  rw [if_neg hno, pick_to items b]
  first
    | exact wpAny_bind (m := Builtin.Tuple.tupleExact _) (wpAny_newObj_type (wpAny_pure ⟨_, rfl, wpAny_pure h⟩) hdrop)
    | exact wpAny_bind (m := Builtin.Tuple.tupleExact _) (wpAny_newObj_type (wpAny_bind (wpAny_pure (wpAny_pure ⟨_, rfl, wpAny_pure h⟩))) hdrop)
    | exact wpAny_bind (wpAny_bind (m := Builtin.Tuple.tupleExact _) (wpAny_newObj_type (wpAny_pure (wpAny_pure ⟨_, rfl, wpAny_pure h⟩)) hdrop))
    | exact wpAny_bind (wpAny_bind (m := Builtin.Tuple.tupleExact _) (wpAny_newObj_type (wpAny_pure ⟨_, rfl, wpAny_pure h⟩) hdrop))
theorem getItem_tuple_whole {t sl : Addr} {items : Array Value} {u : Tok} {Q : Value → Shared → Prop} (ht : IsTup s.heap t items) (hs : s.heap.IsSliceOf sl (.int 0 u) .none .none)
    (h : Q (.ref t) s) : wpAny (model prog w) A (getItem (.ref t) (.ref sl)) Q E s := by
  obtain ⟨os, hos, hcs, hds⟩ := id hs
  have hTs : s.TypeIs (.ref sl) "slice" := ⟨os, hos, hcs⟩
  unfold getItem
  try with_reducible refine wpAny_holding ?_
  first | refine wpAny_bind (wpAny_pure ?_) | skip
  refine wpAny_bind (wpAny_sequenceKey ht.typeIs (by decide) ?_)
  refine wpAny_bind (wpAny_callSpecial?_slot (name := Str.ofString "__getitem__") ht.typeIs slot_tuple_getitem
    (wpAny_call_entry slot_tuple_getitem ht.typeIs entry_tuple_getitem ?_ (args_tuple_getitem _ _)))
  show wpAny _ _ (Builtin.Tuple.tupleItemsOf (.ref t) >>= _) _ _ s
  refine wpAny_bind (tupleItemsOf_ ht ?_)
  refine wpAny_bind (wpAny_typeOf hTs ?_)
  rw [if_pos (by decide)]
  refine wpAny_bind (sliceApplied_from (a := 0) hs (Nat.zero_le _) ?_)
  show wpAny _ _ (if ((((0 : Nat) : Int)) == 0 && (1 : Int) == 1 && (items.size - 0) == items.size) = true then _ else _) _ _ s
  rw [if_pos (by simp)]
  unfold Builtin.Tuple.tupleIsExact
  refine wpAny_bind (wpAny_bind (wpAny_typeOf ht.typeIs (wpAny_pure ?_)))
  rw [if_pos (by decide)]
  first
    | exact wpAny_bind (wpAny_rule (wpAny_pure ⟨_, rfl, wpAny_pure h⟩))
    | exact wpAny_bind (wpAny_rule (wpAny_bind (wpAny_pure (wpAny_pure ⟨_, rfl, wpAny_pure h⟩))))
    | exact wpAny_rule (wpAny_pure ⟨_, rfl, wpAny_pure h⟩)
end
section
variable {prog : Program} {w : World} {A : Around} {E : Value → Shared → Prop} {s : Shared} {h₀ : Heap} {L : Addr} {m : Str → Option Value} {news : List (Addr × Obj)}
theorem slice_tuple_to {value slice : PySem.Expr} {t : Addr} {vs : List Value} {b : Nat} {u : Tok} {Q : Value → Shared → Prop}
    (F : Fr h₀ L s.heap m) (N : News h₀ L s.heap news) (hm : (t, ({ cls := .type "tuple", data := .seq vs.toArray } : Obj)) ∈ news) (hb : b < vs.length) (hsz : vs.length ≤ 10000)
    (h : ∀ T h', Fr h₀ L h' m → News h₀ L h' ((T, { cls := .type "tuple", data := .seq (vs.take b).toArray }) :: news) → (∀ q ∈ news, q.1 < T) → Q (.ref T) { s with heap := h' })
    (hs : subscripted slice false (.ref t) (.ref s.heap.objs.size) = operate [.ref s.heap.objs.size, .ref t] (getItem (.ref t) (.ref s.heap.objs.size)))
    (hg : ∀ r, letTemporaryGo value (.ref t) r = pure ()) :
    wpAny (model prog w) A (subscriptTail value slice (.ref t) (.ref s.heap.objs.size)) Q E { s with heap := s.heap.push { cls := .type "slice", data := .fields #[.none, .int b u, .none] } } := by
  have ht : IsTup s.heap t vs.toArray := ⟨_, (N _ hm).1, rfl, _, rfl⟩
  have ht' : IsTup (s.heap.push { cls := .type "slice", data := .fields #[.none, .int b u, .none] }) t vs.toArray := ht.keeps fun _ _ e => Heap.get?_push_of_some _ e
  have hlt : ∀ q ∈ news, q.1 < (s.heap.push { cls := .type "slice", data := .fields #[.none, .int b u, .none] }).objs.size := fun q hq => by rw [Heap.size_push]; exact Nat.lt_succ_of_lt (Heap.lt_size (N q hq).1)
  refine subscriptTail_ops (s := { s with heap := s.heap.push { cls := .type "slice", data := .fields #[.none, .int b u, .none] } }) ht'.typeIs slot_tuple_getitem.lookup
    (getItem_tuple_to ht' (Heap.IsSliceOf.new ..) (by simpa using hb) ?_ (by simpa using hsz)) hs hg
  have N1 := News.push (F.push { cls := .type "slice", data := .fields #[.none, .int b u, .none] }) (N.grown fun _ _ e => Heap.get?_push_of_some _ e) { cls := .type "tuple", data := .seq (vs.take b).toArray }
  exact h _ _ ((F.push _).push _) N1 hlt
theorem slice_tuple_whole {value slice : PySem.Expr} {t : Addr} {vs : List Value} {u : Tok} {Q : Value → Shared → Prop}
    (F : Fr h₀ L s.heap m) (N : News h₀ L s.heap news) (hm : (t, ({ cls := .type "tuple", data := .seq vs.toArray } : Obj)) ∈ news)
    (h : ∀ h', Fr h₀ L h' m → News h₀ L h' news → Q (.ref t) { s with heap := h' })
    (hs : subscripted slice false (.ref t) (.ref s.heap.objs.size) = operate [.ref s.heap.objs.size, .ref t] (getItem (.ref t) (.ref s.heap.objs.size)))
    (hg : ∀ r, letTemporaryGo value (.ref t) r = pure ()) :
    wpAny (model prog w) A (subscriptTail value slice (.ref t) (.ref s.heap.objs.size)) Q E { s with heap := s.heap.push { cls := .type "slice", data := .fields #[.int 0 u, .none, .none] } } := by
  have ht : IsTup s.heap t vs.toArray := ⟨_, (N _ hm).1, rfl, _, rfl⟩
  have ht' : IsTup (s.heap.push { cls := .type "slice", data := .fields #[.int 0 u, .none, .none] }) t vs.toArray := ht.keeps fun _ _ e => Heap.get?_push_of_some _ e
  refine subscriptTail_ops (s := { s with heap := s.heap.push { cls := .type "slice", data := .fields #[.int 0 u, .none, .none] } }) ht'.typeIs slot_tuple_getitem.lookup
    (getItem_tuple_whole ht' (Heap.IsSliceOf.new ..) ?_) hs hg
  exact h _ (F.push _) (N.grown fun _ _ e => Heap.get?_push_of_some _ e)
theorem slice_tuple_on {value slice : PySem.Expr} {t : Addr} {vs : List Value} {a : Nat} {u : Tok} {Q : Value → Shared → Prop}
    (F : Fr h₀ L s.heap m) (N : News h₀ L s.heap news) (hm : (t, ({ cls := .type "tuple", data := .seq vs.toArray } : Obj)) ∈ news) (h1 : 1 ≤ a) (ha : a ≤ vs.length) (hsz : vs.length ≤ 10000)
    (h : ∀ T h', Fr h₀ L h' m → News h₀ L h' ((T, { cls := .type "tuple", data := .seq (vs.drop a).toArray }) :: news) → (∀ q ∈ news, q.1 < T) → Q (.ref T) { s with heap := h' })
    (hs : subscripted slice false (.ref t) (.ref s.heap.objs.size) = operate [.ref s.heap.objs.size, .ref t] (getItem (.ref t) (.ref s.heap.objs.size)))
    (hg : ∀ r, letTemporaryGo value (.ref t) r = pure ()) :
    wpAny (model prog w) A (subscriptTail value slice (.ref t) (.ref s.heap.objs.size)) Q E { s with heap := s.heap.push { cls := .type "slice", data := .fields #[.int a u, .none, .none] } } :=
  slice_tuple_from F N ⟨_, (N _ hm).1, rfl, _, rfl⟩ h1 (by simpa using ha) (fun h' F' N' => h _ h' F' N' fun q hq => Nat.lt_succ_of_lt (Heap.lt_size (N q hq).1)) hs hg (by rw [List.size_toArray, PySem.sizeLine_eq]; omega)
end
end Mine
end
section
open PySem PySem.W PyProof.Rows
namespace Mine
structure Ws where
  cnt : List Int
  b : Int
  n : Int
  nt : Int
noncomputable def Ws.grow (c : List Int) (b : Int) : List Int := if (c.length : Int) ≤ b then c ++ (List.replicate (b - c.length + 1).toNat [0]).flatten else c
noncomputable def Ws.put (c : List Int) (b : Int) : List Int := (Ws.grow c b).set b.toNat ((Ws.grow c b).getD b.toNat 0 + 1)
noncomputable def wsRun : List Int → Ws → Ws
  | [], st => st
  | c :: r, st => if c = 32 then wsRun r ⟨st.cnt, st.b + 1, st.n + 1, st.nt⟩
    else if c = 9 then wsRun r ⟨Ws.put st.cnt st.b, 0, st.n + 1, st.nt + 1⟩ else st
noncomputable def ws0 : Ws := ⟨[], 0, 0, 0⟩
structure WSt where
  l : Addr
  vs : List Value
  w : Ws
  ep : Nat
  tb : Tok
  tn : Tok
  tt : Tok
  kd : Tok
structure WsP (pre : List Int) (w : Ws) : Prop where
  run : ∀ post, wsRun (pre ++ post) ws0 = wsRun post w
  low : 0 ≤ w.b
  up : w.b ≤ pre.length
  len : w.cnt.length ≤ pre.length
theorem InvEndG_stop {h₀ : Heap} {L : Addr} {J : (Str → Option Value) → List (Addr × Obj) → Prop} {own : List (Addr × Obj)} {s₁ s₂ : Shared} (h : InvEndG h₀ L J own s₁ s₂) : InvEndG h₀ L J own s₁ s₂ := h
theorem pre_lt {c : Str} {pre post : List Int} {n : Int} (h : KStt.codes c = pre ++ n :: post) (hc : c.length < 1000) : pre.length < 1000 := by
  have := congrArg List.length h
  rw [KStt.codes_length] at this
  have e : c.length = c.cps.size := rfl
  rw [List.length_append, List.length_cons] at this
  omega
theorem off_of_lt {d : Addr} {l : List (Addr × Obj)} (h : AllLt d l) : Off d l := by
  induction l with
  | nil => exact fun p hp => nomatch hp
  | cons q r ih =>
    intro p hp
    rcases List.mem_cons.mp hp with rfl | hp
    · exact Nat.ne_of_lt h.1
    · exact ih h.2 p hp
theorem off_own {own : List (Addr × Obj)} {adr : List Addr} {d : Addr} (h : OwnOff own adr) (hd : d ∈ adr) : Off d own := fun p hp => h p hp d hd
structure WsF (x d : Addr) (news : List (Addr × Obj)) (st : WSt) : Prop where
  fI : IntsAre st.vs st.w.cnt
  fX : @Ne Nat x st.l
  fD : @Ne Nat d st.l
  fO : Off st.l news
theorem news_ne {h₀ h : Heap} {L : Addr} {news : List (Addr × Obj)} (N : News h₀ L h news) {p q : Addr × Obj} (hp : p ∈ news) (hq : q ∈ news) (hne : p.2 ≠ q.2) : @Ne Nat p.1 q.1 := fun e => by
  have h1 := (N p hp).1
  have h2 := (N q hq).1
  have e' : p.1 = q.1 := e
  rw [e', h2] at h1
  exact hne (Option.some.inj h1).symm
theorem drop_second {h₀ h : Heap} {L : Addr} {p q : Addr × Obj} {news : List (Addr × Obj)} (N : News h₀ L h (p :: q :: news)) : News h₀ L h (p :: news) := fun r hr => N r (by
  rcases List.mem_cons.mp hr with rfl | hr
  · exact .head _
  · exact .tail _ (.tail _ hr))
theorem sign_is {n k : Nat} {t : Str} (ht : t = ⟨#[k]⟩) (a : ((⟨#[n]⟩ : Str) == t) = true) : (n : Int) = k := by
  have e := eq_of_beq a
  rw [ht] at e
  have := congrArg Str.cps e
  simp at this
  rw [this]
theorem sign_not {n k : Nat} {t : Str} (ht : t = ⟨#[k]⟩) (a : ((⟨#[n]⟩ : Str) == t) = false) : (n : Int) ≠ k := by
  intro e
  have e' : n = k := by omega
  rw [ht, e'] at a
  simp at a
theorem sp_is : Str.ofString " " = ⟨#[32]⟩ := by decide +kernel
theorem tab_is : Str.ofString "\t" = ⟨#[9]⟩ := by decide +kernel
theorem wsP_space {pre : List Int} {w : Ws} {ch : Int} (h : WsP pre w) (e : ch = 32) : WsP (pre ++ [ch]) ⟨w.cnt, w.b + 1, w.n + 1, w.nt⟩ := by
  subst e
  refine ⟨fun post => ?_, by have := h.low; show 0 ≤ w.b + 1; omega, ?_, ?_⟩
  · rw [List.append_assoc, h.run]
    show wsRun (32 :: post) w = _
    rw [wsRun, if_pos rfl]
  · have := h.up; simp only [List.length_append, List.length_cons, List.length_nil]; show w.b + 1 ≤ _; omega
  · have := h.len; simp only [List.length_append, List.length_cons, List.length_nil]; omega
theorem wsP_tab {pre : List Int} {w : Ws} {ch : Int} (h : WsP pre w) (e : ch = 9) : WsP (pre ++ [ch]) ⟨Ws.put w.cnt w.b, 0, w.n + 1, w.nt + 1⟩ := by
  subst e
  refine ⟨fun post => ?_, Int.le_refl 0, Int.natCast_nonneg _, ?_⟩
  · rw [List.append_assoc, h.run]
    show wsRun (9 :: post) w = _
    rw [wsRun, if_neg (by decide), if_pos rfl]
  · have h1 := h.len
    have h2 := h.up
    have h3 := h.low
    simp only [List.length_append, List.length_cons, List.length_nil]
    unfold Ws.put Ws.grow
    rw [List.length_set]
    split
    · simp only [List.length_append, List.length_flatten, List.map_replicate, List.length_cons, List.length_nil, List.sum_replicate_nat]; omega
    · omega
theorem wsP_stop {pre post codes : List Int} {w : Ws} {ch : Int} (h : WsP pre w) (hc : codes = pre ++ ch :: post) (a : ch ≠ 32) (b : ch ≠ 9) : wsRun codes ws0 = w := by
  rw [hc, h.run, wsRun, if_neg a, if_neg b]
theorem wsP_done {codes : List Int} {w : Ws} (h : WsP codes w) : wsRun codes ws0 = w := by
  have := h.run []
  rw [List.append_nil] at this
  exact this
theorem led_sub {a b c : Addr × Obj} {news own : List (Addr × Obj)} : ∀ p ∈ a :: b :: c :: news, p ∈ a :: b :: c :: (news ++ own) := by
  intro p hp
  rcases List.mem_cons.mp hp with rfl | hp
  · exact .head _
  rcases List.mem_cons.mp hp with rfl | hp
  · exact .tail _ (.head _)
  rcases List.mem_cons.mp hp with rfl | hp
  · exact .tail _ (.tail _ (.head _))
  · exact .tail _ (.tail _ (.tail _ (List.mem_append_left _ hp)))
theorem own_sub {a b c : Addr × Obj} {news own : List (Addr × Obj)} : ∀ p ∈ own, p ∈ a :: b :: c :: (news ++ own) := fun _ hp => .tail _ (.tail _ (.tail _ (List.mem_append_right _ hp)))
local macro_rules | `(tactic| k_all) => `(tactic| exact Off.out (by with_reducible assumption))
noncomputable def whiteD (w : World) (c : Str) (t : Tok) (n nt : Int) (tn tt : Tok) (k0 k1 k2 k3 k4 : Tok) (a : Addr) (v : Value) : Obj :=
  dictOf [{ hash := PyData.keyHash w.params (Str.ofString "raw"), key := .str (Str.ofString "raw") k0, val := .str c t },
    { hash := PyData.keyHash w.params (Str.ofString "n"), key := .str (Str.ofString "n") k1, val := .int n tn },
    { hash := PyData.keyHash w.params (Str.ofString "nt"), key := .str (Str.ofString "nt") k2, val := .int nt tt },
    { hash := PyData.keyHash w.params (Str.ofString "norm"), key := .str (Str.ofString "norm") k3, val := .ref a },
    { hash := PyData.keyHash w.params (Str.ofString "is_simple"), key := .str (Str.ofString "is_simple") k4, val := v }] 5
noncomputable def WhiteL (w : World) (c : Str) (t : Tok) (x d tn tc : Addr) (st : Ws) (vs : List Value) (led : List (Addr × Obj)) : Prop :=
  ∃ t1 t2 t3 k0 k1 k2 k3 k4 v, led = [(x, instObj 100 d), (d, whiteD w c t st.n st.nt t1 t2 k0 k1 k2 k3 k4 tn v), (tn, { cls := .type "tuple", data := .seq #[.ref tc, .int st.b t3] }), (tc, { cls := .type "tuple", data := .seq vs.toArray })]
theorem own_head {own rest : List (Addr × Obj)} {p q : Addr × Obj} (h : OwnOff own ((p :: rest).map (·.1))) (k : Off q.1 own) : OwnOff own ((q :: rest).map (·.1)) := by
  intro a ha b hb
  rcases List.mem_cons.mp hb with rfl | hb
  · exact k a ha
  · exact h a ha b (.tail _ hb)
theorem off_right {d : Addr} {l r : List (Addr × Obj)} (h : Off d (l ++ r)) : Off d r := fun p hp => h p (List.mem_append_right _ hp)
theorem off_left {d : Addr} {l r : List (Addr × Obj)} (h : Off d (l ++ r)) : Off d l := fun p hp => h p (List.mem_append_left _ hp)
theorem led_sub3 {a e f g b c : Addr × Obj} {news own : List (Addr × Obj)} : ∀ p ∈ a :: b :: c :: news, p ∈ a :: e :: f :: g :: b :: c :: (news ++ own) := by
  intro p hp
  rcases List.mem_cons.mp hp with rfl | hp
  · exact .head _
  rcases List.mem_cons.mp hp with rfl | hp
  · exact .tail _ (.tail _ (.tail _ (.tail _ (.head _))))
  rcases List.mem_cons.mp hp with rfl | hp
  · exact .tail _ (.tail _ (.tail _ (.tail _ (.tail _ (.head _)))))
  · exact .tail _ (.tail _ (.tail _ (.tail _ (.tail _ (.tail _ (List.mem_append_left _ hp))))))
theorem own_sub3 {a e f g b c : Addr × Obj} {news own : List (Addr × Obj)} : ∀ p ∈ own, p ∈ a :: e :: f :: g :: b :: c :: (news ++ own) := fun _ hp => .tail _ (.tail _ (.tail _ (.tail _ (.tail _ (.tail _ (List.mem_append_right _ hp))))))
theorem white_led {h₀ h : Heap} {L : Addr} {n c l x d : Addr × Obj} {news : List (Addr × Obj)} (N : News h₀ L h (n :: c :: l :: x :: d :: news)) : News h₀ L h ([x, d, n, c] ++ news) := by
  intro p hp
  refine N p ?_
  rcases List.mem_append.mp hp with hp | hp
  · rcases List.mem_cons.mp hp with rfl | hp
    · exact .tail _ (.tail _ (.tail _ (.head _)))
    rcases List.mem_cons.mp hp with rfl | hp
    · exact .tail _ (.tail _ (.tail _ (.tail _ (.head _))))
    rcases List.mem_cons.mp hp with rfl | hp
    · exact .head _
    obtain rfl := List.mem_singleton.mp hp
    exact .tail _ (.head _)
  · exact .tail _ (.tail _ (.tail _ (.tail _ (.tail _ hp))))
theorem drop_own5 {h₀ h : Heap} {L : Addr} {n c l x d : Addr × Obj} {news own : List (Addr × Obj)} (N : News h₀ L h (n :: c :: l :: x :: d :: (news ++ own))) : News h₀ L h (n :: c :: l :: x :: d :: news) := by
  intro p hp
  refine N p ?_
  have e : n :: c :: l :: x :: d :: (news ++ own) = (n :: c :: l :: x :: d :: news) ++ own := rfl
  rw [e]
  exact List.mem_append_left _ hp
noncomputable def WhiteR (w : World) (c : Str) (t : Tok) (news : List (Addr × Obj)) (r : Value) (news' : List (Addr × Obj)) : Prop :=
  ∃ x d tn tc vs led, r = .ref x ∧ IntsAre vs (wsRun (KStt.codes c) ws0).cnt ∧ WhiteL w c t x d tn tc (wsRun (KStt.codes c) ws0) vs led ∧ news' = led ++ news
theorem white_out {w : World} {c : Str} {t : Tok} {news : List (Addr × Obj)} {h₀ h' : Heap} {L : Addr} {m : Str → Option Value} {s : Shared} {Q : Value → Shared → Prop} {tk : Nat} {st : Ws} {tn tc x d : Addr} {lx : Addr × Obj} {vs : List Value} {t1 t2 t3 k0 k1 k2 k3 k4 : Tok} {v : Value}
    (hret : NRet h₀ L m s (WhiteR w c t news) Q) (F : Fr h₀ L h' m)
    (N : News h₀ L h' ((tn, { cls := .type "tuple", data := .seq #[.ref tc, .int st.b t3] }) :: (tc, { cls := .type "tuple", data := .seq vs.toArray }) :: lx :: (x, instObj 100 d) :: (d, whiteD w c t st.n st.nt t1 t2 k0 k1 k2 k3 k4 tn v) :: news))
    (hw : wsRun (KStt.codes c) ws0 = st) (hI : IntsAre vs st.cnt) : Q (.ref x) { s with heap := h', toks := tk } := by
  subst hw
  exact hret.out _ _ _ _ F (white_led N) ⟨x, d, tn, tc, vs, _, rfl, hI, ⟨t1, t2, t3, k0, k1, k2, k3, k4, v, rfl⟩, rfl⟩
theorem c_white (w : World) (c : Str) (t : Tok) (news : List (Addr × Obj)) (hc : c.length < 1000) :
    CallsN w 4 100 [.str c t] news (WhiteR w c t news) := by
  unfold CallsN
  intro p loose mean mg mb dp un gd cn cs a ccd cl outer A₀ base h₀ L m s Q E B F X N T hk hd hu hret
  k_dflt (refine' call_cls ?k1 ?k2 ?k3 ?k4 ?k5 ?k6 ?_; (case k1 => k_asm); (case k2 => k_asm); (case k3 => k_asm); (case k4 => k_is); (case k5 => k_is); (case k6 => k_is); k_whole; intro x' d' h' F' N' l1 l2; (try k_lt l1); (try k_lt2 l2); (try k_sweep))
  k_dflt cell_enter
  (repeat (fail_if_success (with_reducible show wpAny _ _ (pyIter (Value.str _ _)) _ _ _)); first | (k_unfold; (try dsimp only)) | walk1 | (dsimp only; walk1))
  (with_reducible rename Fr _ _ _ _ => lF)
  (with_reducible rename News _ _ _ _ => lN)
  have lM := drop_second lN
  refine gl_text (σ := WSt) (fun st => (st.l, W.listOf st.vs.toArray st.ep) :: (x', instObj 100 d') :: (d', dictOf [{ hash := PyData.keyHash w.params (Str.ofString "raw"), key := Value.str (Str.ofString "raw") st.kd, val := Value.str c t }] 1) :: news)
    (fun st => [(Str.ofString "nt", .int st.w.nt st.tt), (Str.ofString "n", .int st.w.n st.tn), (Str.ofString "b", .int st.w.b st.tb), (Str.ofString "count", .ref st.l)]) (WsF x' d' news) [] (fun pre st => WsP pre st.w) ⟨_, [], ws0, 0, _, _, _, _⟩
    (by rfl) lF lM ⟨.nil, ?x0, ?d0, ?o0⟩ (List.forall_mem_cons.mpr ⟨rfl, List.forall_mem_cons.mpr ⟨rfl, List.forall_mem_cons.mpr ⟨rfl, List.forall_mem_cons.mpr ⟨rfl, List.forall_mem_nil _⟩⟩⟩⟩) (WsP.mk (w := ws0) (fun _ => rfl) (Int.le_refl 0) (Int.le_refl 0) (Nat.le_refl 0)) ?turn ?done
  case x0 => (with_reducible rename _ ∧ _ ∧ _ ∧ AllLt _ _ => lA); exact Nat.ne_of_lt lA.2.1
  case d0 => (with_reducible rename _ ∧ _ ∧ _ ∧ AllLt _ _ => lA); exact Nat.ne_of_lt lA.2.2.1
  case o0 => (with_reducible rename _ ∧ _ ∧ _ ∧ AllLt _ _ => lA); exact off_of_lt lA.2.2.2
  have hod : Off d' news := fun q hq => Nat.ne_of_lt (l1 q hq)
  have hox : Off x' news := fun q hq => Nat.ne_of_lt (Nat.lt_trans (l1 q hq) l2)
  clear l1
  case turn =>
    clear lF lN lM
    rintro ⟨l9, vs9, ⟨cnt9, b9, n9, nt9⟩, ep9, tb9, tn9, tt9, kd9⟩ pre post ch tch u h9 tk9 own hcs hOff ⟨hI9, hx9, hd9, ho9⟩ hP9 F9 N9
    dsimp only at hOff hI9 hx9 hd9 ho9 hP9 F9 N9 ⊢
    k_fold
    have hlo := hP9.low
    have hup := hP9.up
    have hln := hP9.len
    dsimp only at hlo hup hln
    simp only [List.cons_append] at N9
    have hvl := hI9.length
    have hoo1 : Off l9 (news ++ own) := ho9.app (off_own hOff (.head _))
    have hoo2 : Off x' (news ++ own) := hox.app (off_own hOff (.tail _ (.head _)))
    have hoo3 : Off d' (news ++ own) := hod.app (off_own hOff (.tail _ (.tail _ (.head _))))
    clear hox hod
    have hpl : pre.length < 1000 := pre_lt hcs hc
    have hcl : cnt9.length < 1000 := Nat.lt_of_le_of_lt hln hpl
    repeat' (first | (k_unfold; (try dsimp only)) | (k_end; wrow_close) | ((fail_if_success (with_reducible refine InvEndG_stop ?_)); walk1) | ((fail_if_success (with_reducible refine InvEndG_stop ?_)); dsimp only; walk1) | (leave1; walk_say "STEP leave1"; (try dsimp only)) | fail "no step")
    · (with_reducible rename (_ == Str.ofString " ") = true => ha)
      (with_reducible rename News _ _ _ _ => nE)
      (with_reducible rename Fr _ _ _ _ => nF)
      exact gl_end (⟨l9, vs9, ⟨cnt9, b9 + 1, n9 + 1, nt9⟩, ep9, _, _, tt9, kd9⟩ : WSt) nF nE led_sub own_sub hOff (List.forall_mem_cons.mpr ⟨by with_unfolding_all rfl, List.forall_mem_cons.mpr ⟨by with_unfolding_all rfl, List.forall_mem_cons.mpr ⟨by with_unfolding_all rfl, List.forall_mem_cons.mpr ⟨by with_unfolding_all rfl, List.forall_mem_nil _⟩⟩⟩⟩)
        (by intro z h1 h2 h3; simp only [List.forall_mem_cons, List.not_mem_nil, false_implies, implies_true, and_true, ne_eq] at h2; simp [h1, h2, kstB]) ⟨hI9, hx9, hd9, ho9⟩ (wsP_space hP9 (sign_is sp_is ha))
    · (with_reducible rename (_ == Str.ofString "\t") = true => ha)
      (with_reducible rename _ ≤ b9 => hb)
      (with_reducible rename News _ _ _ _ => nE)
      (with_reducible rename Fr _ _ _ _ => nF)
      (with_reducible rename _ ∧ _ ∧ _ ∧ _ ∧ _ ∧ AllLt _ _ => lA)
      (with_reducible rename IntsAre (List.set _ _ _) _ => hJ)
      have hP' := wsP_tab hP9 (sign_is tab_is ha)
      unfold Ws.put Ws.grow at hP'
      rw [if_pos hb] at hP'
      have hO := off_of_lt lA.2.2.2.2.2
      exact gl_end (⟨_, _, ⟨_, 0, n9 + 1, nt9 + 1⟩, 0, _, _, _, kd9⟩ : WSt) nF nE led_sub3 own_sub3 (own_head hOff (off_right hO)) (List.forall_mem_cons.mpr ⟨by with_unfolding_all rfl, List.forall_mem_cons.mpr ⟨by with_unfolding_all rfl, List.forall_mem_cons.mpr ⟨by with_unfolding_all rfl, List.forall_mem_cons.mpr ⟨by with_unfolding_all rfl, List.forall_mem_nil _⟩⟩⟩⟩)
        (by intro z h1 h2 h3; simp only [List.forall_mem_cons, List.not_mem_nil, false_implies, implies_true, and_true, ne_eq] at h2; simp [h1, h2, kstB]) ⟨hJ, Nat.ne_of_lt lA.2.2.2.1, Nat.ne_of_lt lA.2.2.2.2.1, off_left hO⟩ hP'
    · (with_reducible rename (_ == Str.ofString "\t") = true => ha)
      (with_reducible rename ¬ _ ≤ b9 => hb)
      (with_reducible rename News _ _ _ _ => nE)
      (with_reducible rename Fr _ _ _ _ => nF)
      have hP' := wsP_tab hP9 (sign_is tab_is ha)
      unfold Ws.put Ws.grow at hP'
      rw [if_neg hb] at hP'
      exact gl_end (⟨l9, _, ⟨_, 0, n9 + 1, nt9 + 1⟩, ep9, _, _, _, kd9⟩ : WSt) nF nE led_sub own_sub hOff (List.forall_mem_cons.mpr ⟨by with_unfolding_all rfl, List.forall_mem_cons.mpr ⟨by with_unfolding_all rfl, List.forall_mem_cons.mpr ⟨by with_unfolding_all rfl, List.forall_mem_cons.mpr ⟨by with_unfolding_all rfl, List.forall_mem_nil _⟩⟩⟩⟩)
        (by intro z h1 h2 h3; simp only [List.forall_mem_cons, List.not_mem_nil, false_implies, implies_true, and_true, ne_eq] at h2; simp [h1, h2, kstB]) ⟨ints_set hI9 _, hx9, hd9, ho9⟩ hP'
    · (with_reducible rename News _ _ _ (_ :: _ :: _ :: _) => lN)
      have hDd := news_ne lN (.tail _ (.head _)) (.tail _ (.tail _ (.tail _ (.tail _ (.head _))))) (fun e => by have := congrArg Obj.cls e; simp at this)
      dsimp only at hDd
      (repeat (first | (k_unfold; (try dsimp only)) | walk1 | (dsimp only; walk1)))
      (with_reducible rename (_ == Str.ofString " ") = false => hs)
      (with_reducible rename (_ == Str.ofString "\t") = false => ht)
      have hw := wsP_stop hP9 hcs (sign_not sp_is hs) (sign_not tab_is ht)
      (with_reducible rename News h₀ L _ _ => nE)
      (with_reducible rename Fr h₀ L _ _ => nF)
      exact white_out (st := ⟨cnt9, b9, n9, nt9⟩) hret nF (drop_own5 nE) hw hI9
  case done =>
    clear lF lN lM
    rintro ⟨l9, vs9, ⟨cnt9, b9, n9, nt9⟩, ep9, tb9, tn9, tt9, kd9⟩ u h9 tk9 ⟨hI9, hx9, hd9, ho9⟩ hP9 F9 N9
    dsimp only at hI9 hx9 hd9 ho9 hP9 F9 N9 ⊢
    (try k_fold)
    have hlo := hP9.low
    have hup := hP9.up
    have hln := hP9.len
    dsimp only at hlo hup hln
    have hvl := hI9.length
    have hpl : (KStt.codes c).length < 1000 := by rw [KStt.codes_length]; exact hc
    have hcl : cnt9.length < 1000 := Nat.lt_of_le_of_lt hln hpl
    (repeat (first | (k_unfold; (try dsimp only)) | walk1 | (dsimp only; walk1)))
    (with_reducible rename News _ _ _ (_ :: _ :: _ :: _) => lN)
    have hDd := news_ne lN (.tail _ (.head _)) (.tail _ (.tail _ (.tail _ (.tail _ (.head _))))) (fun e => by have := congrArg Obj.cls e; simp at this)
    dsimp only at hDd
    (repeat (first | (k_unfold; (try dsimp only)) | walk1 | (dsimp only; walk1)))
    have hw := wsP_done hP9
    (with_reducible rename News h₀ L _ _ => nE)
    (with_reducible rename Fr h₀ L _ _ => nF)
    exact white_out (st := ⟨cnt9, b9, n9, nt9⟩) hret nF nE hw hI9
end Mine
end
section
open PySem PySem.W PyProof.Rows
namespace Mine
theorem tup_at {h₀ h : Heap} {L tc : Addr} {vs : List Value} {news : List (Addr × Obj)} (N : News h₀ L h news) (hm : (tc, { cls := .type "tuple", data := .seq vs.toArray }) ∈ news) : IsTup h tc vs.toArray := ⟨_, (N _ hm).1, rfl, _, rfl⟩
end Mine
end
section
open PySem PySem.W PyProof.Rows
namespace Mine
theorem headers_search_N {w : World} {A : Around} {E : Value → Shared → Prop} {s : Shared} {v : Str} {t : Tok} {Q : Value → Shared → Prop} (X : (kx w.params).In s.heap) (hv : ∀ c ∈ v.cps, okN c) (hl : v.cps.size < 2 ^ 63) (h : Q .none s) :
    wpAny (model pw w) A (call (.builtin "re.Pattern.search") [.ref 139, .str v t]) Q E s :=
  call_search (X 139 (o139v7 w.params) (by kernel_rfl)) rfl rfl rfl rfl rfl (X 138 (o138v7 w.params) (by kernel_rfl)) rfl (code := codeN) (by decide +kernel) (.inl rfl) noneN hv hl h
theorem headers_search_V {w : World} {A : Around} {E : Value → Shared → Prop} {s : Shared} {v : Str} {t : Tok} {Q : Value → Shared → Prop} (X : (kx w.params).In s.heap) (hv : ∀ c ∈ v.cps, okV c) (hl : v.cps.size < 2 ^ 63) (h : Q .none s) :
    wpAny (model pw w) A (call (.builtin "re.Pattern.search") [.ref 144, .str v t]) Q E s :=
  call_search (X 144 (o144v7 w.params) (by kernel_rfl)) rfl rfl rfl rfl rfl (X 143 (o143v7 w.params) (by kernel_rfl)) rfl (code := codeV) (by decide +kernel) (.inr rfl) noneV hv hl h
theorem headers_get_N {w : World} {A : Around} {E : Value → Shared → Prop} {s : Shared} {pl : Sem Bool} {Q : Value × List Value → Shared → Prop} (X : (kx w.params).In s.heap) (h : Q (.builtin "re.Pattern.search", [.ref 139]) s) :
    wpAny (model pw w) A (getMethod (.ref 139) (Str.ofString "search") pl) Q E s := get_search (X 139 (o139v7 w.params) (by kernel_rfl)) rfl rfl h
theorem headers_get_V {w : World} {A : Around} {E : Value → Shared → Prop} {s : Shared} {pl : Sem Bool} {Q : Value × List Value → Shared → Prop} (X : (kx w.params).In s.heap) (h : Q (.builtin "re.Pattern.search", [.ref 144]) s) :
    wpAny (model pw w) A (getMethod (.ref 144) (Str.ofString "search") pl) Q E s := get_search (X 144 (o144v7 w.params) (by kernel_rfl)) rfl rfl h
structure OkN (v : Str) : Prop where
  all : ∀ c ∈ v.cps, okN c
  len : v.cps.size < 1000
structure OkV (v : Str) : Prop where
  all : ∀ c ∈ v.cps, okV c
  len : v.cps.size < 1000
theorem OkN.low {v : Str} (h : OkN v) : v.length ≤ 5592405 := by
  have := h.len
  have e : v.length = v.cps.size := rfl
  omega
structure HdrAt (news : List (Addr × Obj)) (v : Value) (h : Str × Str) : Prop where
  at_ : ∃ a tk tv, v = .ref a ∧ (a, { cls := .type "tuple", data := .seq #[.str h.1 tk, .str h.2 tv] }) ∈ news
  ok : OkN h.1
end Mine
end
section
open PySem PySem.W PyProof.Rows
namespace Mine
noncomputable def hdrD (w : World) (l : Addr) (k0 : Tok) : Obj := dictOf [{ hash := PyData.keyHash w.params (Str.ofString "_headers"), key := .str (Str.ofString "_headers") k0, val := .ref l }] 1
noncomputable def hdrL (w : World) (x d l : Addr) (k0 : Tok) (vs : List Value) (ep : Nat) : List (Addr × Obj) := [(x, instObj 273 d), (d, hdrD w l k0), (l, W.listOf vs.toArray ep)]
theorem hdr_led {h₀ h : Heap} {L : Addr} {a x d l : Addr × Obj} {news : List (Addr × Obj)} (N : News h₀ L h (a :: x :: d :: l :: news)) : News h₀ L h ([x, d, l] ++ a :: news) := by
  intro p hp
  refine N p ?_
  rcases List.mem_append.mp hp with hp | hp
  · rcases List.mem_cons.mp hp with rfl | hp
    · exact .tail _ (.head _)
    rcases List.mem_cons.mp hp with rfl | hp
    · exact .tail _ (.tail _ (.head _))
    obtain rfl := List.mem_singleton.mp hp
    exact .tail _ (.tail _ (.tail _ (.head _)))
  · rcases List.mem_cons.mp hp with rfl | hp
    · exact .head _
    · exact .tail _ (.tail _ (.tail _ (.tail _ hp)))
end Mine
end
section
open PySem PySem.W PyProof.Rows
namespace Mine
theorem filter_tt9 {α : Type} (l : List α) : l.filter (fun _ => true) = l := List.filter_eq_self.mpr fun _ _ => rfl
noncomputable def drawL (ns : List Int) : List Int := (((ns.take 8).filter fun _ => true).map fun a => a.fmod (10 ^ Int.toNat 6)) ++ [1, 3, 1, 5, 86, 4010, 77713, 904].drop (((ns.take 8).length : Nat) : Int).toNat
theorem draw_len (ns : List Int) : (drawL ns).length = 8 := by
  unfold drawL
  rw [List.length_append, List.length_drop, List.length_map, filter_tt9, List.length_take]
  simp only [List.length_cons, List.length_nil, Int.toNat_natCast]
  omega
theorem draw_size (ns : List Int) : ((ns.take 8).filter fun _ => true).length + ([1, 3, 1, 5, 86, 4010, 77713, 904].drop (((ns.take 8).length : Nat) : Int).toNat : List Int).length ≤ 16777216 := by
  rw [filter_tt9, List.length_take, List.length_drop]
  simp only [List.length_cons, List.length_nil]
  omega
theorem draw_range (ns : List Int) : ∀ x ∈ drawL ns, 0 ≤ x ∧ x < 1000000 := by
  intro x hx
  rcases List.mem_append.mp hx with h | h
  · obtain ⟨y, _, rfl⟩ := List.mem_map.mp h
    exact ⟨Int.fmod_nonneg_of_pos _ (by decide), Int.fmod_lt_of_pos _ (by decide)⟩
  · have := List.mem_of_mem_drop h
    simp only [List.mem_cons, List.not_mem_nil, or_false] at this
    rcases this with rfl | rfl | rfl | rfl | rfl | rfl | rfl | rfl <;> decide
theorem draw_led {h₀ h : Heap} {L : Addr} {a b c d e : Addr × Obj} {news : List (Addr × Obj)} (N : News h₀ L h (a :: b :: c :: d :: e :: news)) : News h₀ L h (a :: news) := fun r hr => N r (by
  rcases List.mem_cons.mp hr with rfl | hr
  · exact .head _
  · exact .tail _ (.tail _ (.tail _ (.tail _ (.tail _ hr)))))
theorem c_draw (w : World) (l : Addr) (vs : List Value) (ns : List Int) (hI : IntsAre vs ns) (hns : ns.length ≤ 63) (news : List (Addr × Obj)) 
   (p : Program) (loose : List Str) (mean : ExcName → Option Value) (mg mb : Str → Option Value) (dp un : Nat) (gd : Option (List Code)) (cn : Str) (cs : Scope) (a : Addr) (ccd : Value) (cl : List (Str × Addr)) (outer : List Env) (A₀ : Around) (base h₀ : Heap) (L : Addr) (m : Str → Option Value) (s : Shared) (Q E : Value → Shared → Prop)
   (hL : h₀.IsList l vs.toArray) (B : Below A₀ base outer h₀) (F : Fr h₀ L s.heap m) (X : (kx w.params).In h₀) (N : News h₀ L s.heap news) (T : Top p loose mean mg mb h₀) (hk : cs.kind = .function) (hd : dp + 4 < recursionLimit) (hu : un + 10 * 4 < cLine)
   (hret : NRet h₀ L m s (fun r news' => ∃ a vs' ep d, r = .ref a ∧ IntsAre vs' d ∧ d.length = 8 ∧ (∀ x ∈ d, 0 ≤ x ∧ x < 1000000) ∧ news' = (a, W.listOf vs'.toArray ep) :: news) Q) :
    wpAny (model pw w) (ktrTop dp un gd cn cs L a ccd cl outer) (call (.ref 310) [.ref l]) Q E s := by
  refine wpAny_call ?_
  k_dflt cell_enter
  (with_reducible rename Fr h₀ L _ m => FGx)
  have hLg := hL.at fun o e => FGx.keep _ _ e
  clear hL
  (repeat (fail_if_success (with_reducible show wpAny _ _ (subscriptTail (Expr.Name (Str.ofString "_") _) _ (Value.ref _) (Value.ref _)) _ _ _)); first | (k_unfold; (try dsimp only)) | walk1 | (dsimp only; walk1))
  (with_reducible rename Fr _ _ _ _ => lF)
  (with_reducible rename News _ _ _ _ => lN)
  have hlit : ∀ a b c d e f g i : Tok, IntsAre [.int 1 a, .int 3 b, .int 1 c, .int 5 d, .int 86 e, .int 4010 f, .int 77713 g, .int 904 i] [1, 3, 1, 5, 86, 4010, 77713, 904] := fun a b c d e f g i => .cons _ _ (.cons _ _ (.cons _ _ (.cons _ _ (.cons _ _ (.cons _ _ (.cons _ _ (.cons _ _ .nil)))))))
  k_dflt (refine kmk_slice_ints (vs := [.int 1 _, .int 3 _, .int 1 _, .int 5 _, .int 86 _, .int 4010 _, .int 77713 _, .int 904 _]) lF lN ⟨_, (lN _ (.head _)).1, rfl, _, rfl⟩ (.int _ _) .none (hlit _ _ _ _ _ _ _ _) (kmk_from (hlit _ _ _ _ _ _ _ _) (Int.natCast_nonneg _)) rfl ?_ (by with_unfolding_all rfl) (by intro r; with_unfolding_all rfl) (by rw [PySem.sizeLine_eq, List.size_toArray]; exact Nat.le_of_ble_eq_true rfl))
  clear lF lN
  intro D9 ws9 h9 F9 N9 l9 hI9 _ _
  (try dsimp only)
  (try k_fold)
  (repeat (fail_if_success (with_reducible show wpAny _ _ (binaryOp _ _ _) _ _ _)); first | (k_unfold; (try dsimp only)) | walk1 | (dsimp only; walk1))
  (with_reducible rename IntsAre _ (List.map _ _) => iX)
  have hl1 := iX.length
  have hl2 := hI9.length
  have hr := draw_range ns
  have hr2 := draw_len ns
  rw [List.length_map] at hl1
  k_dflt (refine li_add F9 N9 (.tail _ (.tail _ (.head _))) (.head _) (by rw [PySem.sizeLine_eq, hl1, hl2]; exact draw_size ns) ?_)
  clear F9 N9
  intro D8 h8 F8 N8 l8
  (try dsimp only)
  (try k_fold)
  (repeat (first | (k_unfold; (try dsimp only)) | walk1 | (dsimp only; walk1)))
  (with_reducible rename News h₀ L _ _ => nE)
  exact hret.out _ _ _ _ (by k_asm) (draw_led nE) ⟨D8, _, _, _, rfl, iX.append hI9, hr2, hr, rfl⟩
end Mine
end
section
open PySem PySem.W PyProof.Rows
namespace Mine
section
variable {prog : Program} {w : World} {A : Around} {h₀ : Heap} {L : Addr} {m : Str → Option Value} {s : Shared} {E : Value → Shared → Prop} {news : List (Addr × Obj)} {it : Addr} {b : Array UInt8} {t : Tok} {i : Nat} {g : Obj → List (Addr × Obj)}
noncomputable def biObj (b : Array UInt8) (t : Tok) (i : Nat) : Obj := { cls := .type "bytes_iterator", data := .fields #[.bytes b t, .int i 0] }
theorem bi_iter {Q : Value → Shared → Prop} (F : Fr h₀ L s.heap m) (N : News h₀ L s.heap news)
    (h : ∀ (I : Addr) h', Fr h₀ L h' m → News h₀ L h' ((I, biObj b t 0) :: news) → (∀ p ∈ news, p.1 < I) → Q (.ref I) { s with heap := h' }) :
    wpAny (model prog w) A (call (.builtin "iter") [.bytes b t]) Q E s := by
  refine Calls.call_function_entry (by decide +kernel) (by decide +kernel) kdk_entry_iter (kdk_args_iter _) ?_
  unfold Builtin.«iter»
  refine wpAny_bind (m := someArgs "iter" 1 2 _) (wpAny_of_eq (a := [Value.bytes b t]) (by first | rfl | kernel_rfl!) ?_)
  show wpAny _ _ (pyIter (.bytes b t) >>= _) _ _ _
  refine wpAny_bind (KBw.pyIter_bytes ?_)
  exact wpAny_pure ⟨_, rfl, h _ _ (F.push _) (News.push F N _ rfl) (fun q hq => Heap.lt_size (N q hq).1)⟩
theorem biObj_next (b : Array UInt8) (t : Tok) (i : Nat) : Obj.mapFields (·.setIfInBounds 1 (rawInt ((i : Int) + 1))) (biObj b t i) = biObj b t (i + 1) := by
  simp [biObj, Obj.mapFields, rawInt]
theorem bi_next {c : UInt8} {Q : Value → Shared → Prop} (F : Fr h₀ L s.heap m) (N : News h₀ L s.heap news) (U : UpdF it (biObj b t i) news g) (hx : b[i]? = some c)
    (h : ∀ h' tk, Fr h₀ L h' m → News h₀ L h' (g (biObj b t (i + 1))) → Q (.int (c.toNat : Int) tk) { s with heap := h', toks := tk + 1 }) :
    wpAny (model prog w) A (call (.builtin "next") [.ref it]) Q E s := by
  obtain ⟨pre, post, hn, hg, a, b'⟩ := U.split
  have hmem : (it, biObj b t i) ∈ news := by rw [hn]; exact List.mem_append_right _ (.head _)
  have hm := N (it, biObj b t i) hmem
  have hit : KBw.IsBytesIter s.heap it b t i := ⟨_, hm.1, rfl, rfl⟩
  obtain ⟨o, ho, hc, hd⟩ := id hit
  refine Calls.call_function_entry (by decide +kernel) (by decide +kernel) kdk_entry_next (kdk_args_next _) ?_
  unfold Builtin.«next»
  refine wpAny_bind (m := someArgs "next" 1 2 _) (wpAny_of_eq (a := [Value.ref it]) (by first | rfl | kernel_rfl!) ?_)
  dsimp only
  refine wpAny_bind (wpAny_specialOf (name := Str.ofString "__next__") (KBw.iter_typeIs hit) KBw.slot_next.lookup ?_)
  refine wpAny_ite_split (fun hab => absurd hab (by decide)) (fun _ => ?_)
  refine wpAny_bind (wpAny_callSpecial?_slot (name := PySem.Str.ofString "__next__") (KBw.iter_typeIs hit) KBw.slot_next
    (wpAny_call_entry KBw.slot_next (KBw.iter_typeIs hit) KBw.entry_next ?_ (KBw.args_next _)))
  show wpAny _ _ (field (.ref it) 0 >>= _) _ _ s
  refine wpAny_bind (wpAny_field ho hd (x := .bytes b t) rfl ?_)
  show wpAny _ _ (if (Value.bytes b t == Value.none) = true then _ else _) _ _ s
  rw [if_neg (show ¬ ((Value.bytes b t == Value.none) = true) from Bool.false_ne_true)]
  show wpAny _ _ (field (.ref it) 1 >>= _) _ _ s
  refine wpAny_bind (wpAny_field ho hd (x := .int i 0) rfl ?_)
  refine wpAny_bind (wpAny_of_eq (a := b) rfl ?_)
  simp only [Int.toNat_natCast, hx]
  refine wpAny_bind (wpAny_setField ho hd (by simp) (wpAny_bind (wpAny_mkInt (wpAny_pure ⟨_, rfl, ?_⟩))))
  have e : o = biObj b t i := Option.some.inj (ho.symm.trans hm.1)
  have ho' : (s.heap.update it (Obj.mapFields (·.setIfInBounds 1 (rawInt ((i : Int) + 1))))).get? it = some (biObj b t (i + 1)) := by
    rw [← biObj_next b t i, ← e]
    exact Heap.get?_update_self _ ho (Obj.isFreed_of_fields (Obj.data_mapFields hd _))
  have hs : Heap.SameBut it s.heap (s.heap.update it (Obj.mapFields (·.setIfInBounds 1 (rawInt ((i : Int) + 1))))) := Heap.SameBut.update ..
  exact wpAny_pure ⟨_, rfl, h _ _ (F.change hs hm.2.1 hm.2.2) (hg _ ▸ (show News h₀ L s.heap (pre ++ (it, biObj b t i) :: post) from hn ▸ N).setIn a b' hs ho')⟩
noncomputable def biEnd (i : Nat) : Obj := { cls := .type "bytes_iterator", data := .fields #[.none, .int i 0] }
theorem biObj_end (b : Array UInt8) (t : Tok) (i : Nat) : Obj.mapFields (·.setIfInBounds 0 .none) (biObj b t i) = biEnd i := by
  simp [biObj, biEnd, Obj.mapFields]
theorem bi_stop {Q : Value → Shared → Prop} (hh : A.handled = none) (F : Fr h₀ L s.heap m) (N : News h₀ L s.heap news) (U : UpdF it (biObj b t i) news g) (hx : b[i]? = none)
    (h : ∀ h₁ h' e, Fr h₀ L h₁ m → News h₀ L h₁ (g (biEnd i)) → Heap.MadeExc h₁ h' e "StopIteration" [] → E (.ref e) { s with heap := h' }) :
    wpAny (model prog w) A (call (.builtin "next") [.ref it]) Q E s := by
  obtain ⟨pre, post, hn, hg, a, b'⟩ := U.split
  have hmem : (it, biObj b t i) ∈ news := by rw [hn]; exact List.mem_append_right _ (.head _)
  have hm := N (it, biObj b t i) hmem
  have hit : KBw.IsBytesIter s.heap it b t i := ⟨_, hm.1, rfl, rfl⟩
  obtain ⟨o, ho, hc, hd⟩ := id hit
  refine Calls.call_function_entry (by decide +kernel) (by decide +kernel) kdk_entry_next (kdk_args_next _) ?_
  unfold Builtin.«next»
  refine wpAny_bind (m := someArgs "next" 1 2 _) (wpAny_of_eq (a := [Value.ref it]) (by first | rfl | kernel_rfl!) ?_)
  dsimp only
  refine wpAny_bind (wpAny_specialOf (name := Str.ofString "__next__") (KBw.iter_typeIs hit) KBw.slot_next.lookup ?_)
  refine wpAny_ite_split (fun hab => absurd hab (by decide)) (fun _ => ?_)
  refine wpAny_bind (wpAny_callSpecial?_slot (name := PySem.Str.ofString "__next__") (KBw.iter_typeIs hit) KBw.slot_next
    (wpAny_call_entry KBw.slot_next (KBw.iter_typeIs hit) KBw.entry_next ?_ (KBw.args_next _)))
  show wpAny _ _ (field (.ref it) 0 >>= _) _ _ s
  refine wpAny_bind (wpAny_field ho hd (x := .bytes b t) rfl ?_)
  show wpAny _ _ (if (Value.bytes b t == Value.none) = true then _ else _) _ _ s
  rw [if_neg (show ¬ ((Value.bytes b t == Value.none) = true) from Bool.false_ne_true)]
  show wpAny _ _ (field (.ref it) 1 >>= _) _ _ s
  refine wpAny_bind (wpAny_field ho hd (x := .int i 0) rfl ?_)
  refine wpAny_bind (wpAny_of_eq (a := b) rfl ?_)
  simp only [Int.toNat_natCast, hx]
  refine wpAny_bind (wpAny_rule (wpAny_bind (wpAny_setField ho hd (by simp) ?_)))
  have hs : Heap.SameBut it s.heap (s.heap.update it (Obj.mapFields (·.setIfInBounds 0 .none))) := Heap.SameBut.update ..
  have ho' : (s.heap.update it (Obj.mapFields (·.setIfInBounds 0 .none))).get? it = some (biEnd i) := by
    rw [← biObj_end b t i]
    have e : o = biObj b t i := Option.some.inj (ho.symm.trans hm.1)
    rw [← e]
    exact Heap.get?_update_self _ ho (Obj.isFreed_of_fields (Obj.data_mapFields hd _))
  show wpAny _ _ (newExc (.type "StopIteration") [] >>= _) _ _ _
  refine wpAny_bind ?_
  simp only [newExc, newTuple]
  refine wpAny_bind (wpAny_newObj_type ?_ (by size_fits))
  refine wpAny_bind (m := firstArgMember _ _) (wpAny_of_eq (a := Value.none) (by first | rfl | (simp only [firstArgMember]; rfl)) ?_)
  refine wpAny_newObj_type ?_ (by size_fits)
  simp only [raiseNew]
  refine wpAny_bind (wpAny_handled ?_)
  first | rw [show A.in1.handled = none from hh] | rw [hh]
  refine wpAny_bind (wpAny_pure (wpAny_throw ?_))
  refine h (s.heap.update it (Obj.mapFields (·.setIfInBounds 0 .none))) _ _ (F.change hs hm.2.1 hm.2.2) (hg _ ▸ (show News h₀ L s.heap (pre ++ (it, biObj b t i) :: post) from hn ▸ N).setIn a b' hs ho') ⟨fun b o hb => Heap.get?_push_of_some _ (Heap.get?_push_of_some _ hb), Heap.get?_none_of_le (by simp), (s.heap.update it (Obj.mapFields (·.setIfInBounds 0 .none))).objs.size, ?_, Heap.get?_none_of_le (Nat.le_refl _), ?_⟩
  · exact Heap.get?_push_size _ rfl
  · exact Heap.get?_push_of_some _ (Heap.get?_push_size _ rfl)
end
end Mine
end
section
open PySem PySem.W PyProof.Rows
namespace Mine
theorem bInts_get {b : Array UInt8} {i : Nat} {x : Int} (h : (KBw.bInts b)[i]? = some x) : ∃ c, b[i]? = some c ∧ (c.toNat : Int) = x := by
  rw [KBw.bInts, List.getElem?_map] at h
  cases e : b.toList[i]? with
  | none => rw [e] at h; simp at h
  | some c =>
    rw [e] at h
    exact ⟨c, by rw [← Array.getElem?_toList]; exact e, by simpa using h⟩
theorem bInts_none {b : Array UInt8} {i : Nat} (h : (KBw.bInts b)[i]? = none) : b[i]? = none := by
  rw [KBw.bInts, List.getElem?_map, Option.map_eq_none_iff] at h
  rw [← Array.getElem?_toList]; exact h
theorem c_parse (w : World) (it : Addr) (bs : Array UInt8) (bt : Tok) (i : Nat) (b : Int) (hx : (KBw.bInts bs)[i]? = some b) (v : Int) (i' : Nat) (hv0 : vTail 10 (KBw.bInts bs) (i + 1) b (Builtin.bitAnd b 63) = some (v, i')) (x : Addr × Obj) (hx1 : x.1 ≠ it) (news : List (Addr × Obj)) (hn : ∀ p ∈ news, p.1 ≠ it) :
    CallsN w 3 111 [.ref it] (x :: (it, biObj bs bt i) :: news) (fun r news' => (∃ t, r = .int v t) ∧ news' = x :: (it, biObj bs bt i') :: news) := by
  unfold CallsN
  intro p loose mean mg mb dp un gd cn cs a ccd cl outer A₀ base h₀ L m s Q E B F X N T hk hd hu hret
  refine wpAny_call ?_
  k_dflt cell_enter
  (repeat (fail_if_success (with_reducible show wpAny _ _ (call (Value.builtin "next") _) _ _ _)); first | walk1 | (dsimp only; walk1))
  (with_reducible rename Fr _ _ _ _ => lF)
  (with_reducible rename News _ _ _ _ => lN)
  obtain ⟨cb, hv, rfl⟩ := bInts_get hx
  refine bi_next lF lN (.tail hx1 (.head hn)) hv ?_
  intro h9 tk9 F9 N9
  clear lF lN
  (try dsimp only)
  (try k_fold)
  (repeat (fail_if_success (with_reducible show wpAny _ _ (exec (Stmt.While _ _ _ _) _) _ _ _)); first | (k_unfold; (try dsimp only)) | walk1 | (dsimp only; walk1))
  (with_reducible rename Fr _ _ _ _ => lF)
  (with_reducible rename News _ _ _ _ => lN)
  refine ksw_while (σ := Int × Tok × Int × Tok × Nat × Nat) (fun st => x :: (it, biObj bs bt st.2.2.2.2.1) :: news) (fun st => [(Str.ofString "b", .int st.1 st.2.1), (Str.ofString "val", .int st.2.2.1 st.2.2.2.1)]) (fun _ => True) [] (fun st => vTail st.2.2.2.2.2 (KBw.bInts bs) st.2.2.2.2.1 st.1 st.2.2.1 = some (v, i') ∧ 0 ≤ st.2.2.1 ∧ st.2.2.1 < 64 ^ (11 - st.2.2.2.2.2) ∧ st.2.2.2.2.2 ≤ 10) (fun st => st.2.2.2.2.2) ((cb.toNat : Int), _, Builtin.bitAnd (cb.toNat : Int) 63, _, i + 1, 10)
    lF lN trivial (List.forall_mem_cons.mpr ⟨rfl, List.forall_mem_cons.mpr ⟨rfl, List.forall_mem_nil _⟩⟩) ⟨hv0, (bitAnd_range (cb.toNat : Int) (y := 63) (by decide)).1, Int.lt_of_le_of_lt (bitAnd_range (cb.toNat : Int) (y := 63) (by decide)).2 (show (63 : Int) < 64 ^ (11 - 10) by decide), Nat.le_refl _⟩ ?turn (by exact PySem.PassesOwn.leaving)
  case turn =>
    clear lF lN
    rintro ⟨b', tb', val, tv', j, f'⟩ u h9 tk9 - ⟨hvt, hv1, hv2, hf10⟩ F9 N9
    dsimp only at hvt hv1 hv2 hf10 F9 N9 ⊢
    k_fold
    repeat' (first | (k_unfold; (try dsimp only)) | (k_end; wrow_close) | ((fail_if_success (with_reducible refine KswEnd_stop ?_)); (fail_if_success (with_reducible show wpAny _ _ (inplaceOp Operator.LShift _ _) _ _ _)); walk1) | ((fail_if_success (with_reducible show wpAny _ _ (inplaceOp Operator.LShift _ _) _ _ _)); dsimp only; walk1) | (leave1; walk_say "STEP leave1"; (try dsimp only)) | fail "no step")
    · (with_reducible rename _ ≠ (0 : Int) => ha)
      obtain ⟨f'', b'', rfl, hb'', hvt'⟩ := vTail_go hvt ha
      obtain ⟨cb'', hv'', rfl⟩ := bInts_get hb''
      have hbn := or_le (b := (cb''.toNat : Int)) hv1 hv2
      rw [show 11 - (f'' + 1) + 1 = 11 - f'' from by omega] at hbn
      dsimp only
      refine ilshift_int_small (by decide) (by decide) (val_fits hv1 hv2) ?_
      (repeat (fail_if_success (with_reducible show wpAny _ _ (call (Value.builtin "next") _) _ _ _)); first | walk1 | (dsimp only; walk1))
      (with_reducible rename Fr _ _ _ _ => lF)
      (with_reducible rename News _ _ _ _ => lN)
      refine bi_next lF lN (.tail hx1 (.head hn)) hv'' ?_
      intro h9 tk9 F9 N9
      clear lF lN
      (try dsimp only)
      (try k_fold)
      repeat' (first | (k_unfold; (try dsimp only)) | (k_end; wrow_close) | ((fail_if_success (with_reducible refine KswEnd_stop ?_)); walk1) | (dsimp only; walk1) | (leave1; walk_say "STEP leave1"; (try dsimp only)) | fail "no step")
      (with_reducible rename News _ _ _ _ => nE)
      (with_reducible rename Fr _ _ _ _ => nF)
      exact ksw_end ((cb''.toNat : Int), _, _, _, j + 1, f'') nF nE (fun _ hp => hp) trivial (List.forall_mem_cons.mpr ⟨by with_unfolding_all rfl, List.forall_mem_cons.mpr ⟨by with_unfolding_all rfl, List.forall_mem_nil _⟩⟩) (by intro z h2 h3; simp only [List.forall_mem_cons, List.not_mem_nil, false_implies, implies_true, and_true, ne_eq] at h2; simp [h2, kstB]) ⟨hvt', hbn.1, hbn.2, Nat.le_of_succ_le hf10⟩ (by show f'' < f'' + 1; omega)
    · (with_reducible rename _ = (0 : Int) => ha)
      obtain ⟨e1, e2⟩ := vTail_stop hvt ha
      subst e1; subst e2
      exact hret.out _ _ _ _ (by k_asm) (by k_asm) ⟨⟨_, rfl⟩, rfl⟩
noncomputable def rdNums : Nat → List Int → Nat → Option (List Int)
  | 0, _, _ => none
  | f + 1, ns, i => match ns[i]? with
    | none => some []
    | some b => match vTail 10 ns (i + 1) b (Builtin.bitAnd b 63) with
      | none => none
      | some (v, i') => (rdNums f ns i').map (v :: ·)
structure RdS where
  done : List Int
  vals : List Value
  ep : Nat
  i : Nat
  f : Nat
  rest : List Int
structure RdP (ns vs : List Int) (st : RdS) : Prop where
  rd : rdNums st.f ns st.i = some st.rest
  all : st.done ++ st.rest = vs
theorem RdP.cases {ns vs : List Int} {st : RdS} (h : RdP ns vs st) : (ns[st.i]? = none ∧ st.done = vs) ∨ ∃ f b v i' r, st.f = f + 1 ∧ ns[st.i]? = some b ∧ vTail 10 ns (st.i + 1) b (Builtin.bitAnd b 63) = some (v, i') ∧ rdNums f ns i' = some r ∧ (st.done ++ [v]) ++ r = vs := by
  obtain ⟨done, vals, ep, i, f, rest⟩ := st
  obtain ⟨h1, h2⟩ := h
  dsimp only at h1 h2 ⊢
  cases f with
  | zero => simp [rdNums] at h1
  | succ f =>
    rw [rdNums] at h1
    cases e : ns[i]? with
    | none => rw [e] at h1; simp at h1; subst h1; exact .inl ⟨rfl, by simpa using h2⟩
    | some b =>
      rw [e] at h1
      dsimp only at h1
      cases e2 : vTail 10 ns (i + 1) b (Builtin.bitAnd b 63) with
      | none => rw [e2] at h1; simp at h1
      | some q =>
        obtain ⟨v, i'⟩ := q
        rw [e2] at h1
        dsimp only at h1
        obtain ⟨r, h3, h4⟩ := Option.map_eq_some_iff.mp h1
        exact .inr ⟨f, b, v, i', r, rfl, rfl, e2, h3, by rw [← h2, ← h4]; simp⟩
theorem lt_names2 {I W : Addr} {news : List (Addr × Obj)} (_h : I < W ∧ AllLt W news) {P : Prop} (k : ∀ I' W' : Addr, I' = I → W' = W → P) : P := k I W rfl rfl
theorem c_read (w : World) (bs : Array UInt8) (bt : Tok) (f : Nat) (vs : List Int) (hrd : rdNums f (KBw.bInts bs) 0 = some vs) (hvl : vs.length ≤ 100) (news : List (Addr × Obj)) :
    CallsT w 8 284 [.bytes bs bt] news (fun r news' => ∃ a ws k, r = .ref a ∧ IntsAre ws vs ∧ news' = (a, W.listOf ws.toArray k) :: news) := by
  unfold CallsT
  intro p loose mean mg mb dp un gd cn cs a ccd cl A₀ h₀ L m s Q E B F X N T hk hd hu hret
  refine wpAny_call ?_
  k_dflt (refine' enter_tryE ?k1 ?k2 ?k3 ?k4 ?k5 ?kA ?kF ?kK ?k6 ?k7 ?k8 ?k9 ?kB ?_ ?c2 ?c3 ?c4 ?c5; (case kA => exact rfl); (case kF => exact rfl); (case kK => assumption); (case k1 => k_asm); (case k2 => k_asm); (case k3 => k_asm); (case k4 => k_asm); (case k5 => k_asm); (case k6 => k_is); (case k7 => k_is); (case k8 => ktr_room); (case k9 => exact BindsTo.of_eq rfl); (case c5 => decide); (case kB => exact locs rfl); (case c2 => exact rfl); (case c3 => exact rfl); (case c4 => exact rfl); k_whole; intro g' L' h' FG' F' N' B' X' T' D'; (try dsimp only); (try k_lift B'); (try k_fold))
  (repeat (fail_if_success (with_reducible show wpAny _ _ (call (Value.builtin "iter") _) _ _ _)); first | (k_unfold; (try dsimp only)) | walk1 | (dsimp only; walk1))
  (with_reducible rename Fr _ _ _ _ => lF)
  (with_reducible rename News _ _ _ _ => lN)
  refine bi_iter lF lN ?_
  clear lF lN
  intro I1 h9 F9 N9 lI
  (try dsimp only)
  (try k_fold)
  (repeat (fail_if_success (with_reducible show wpAny _ _ (exec (Stmt.While _ _ _ _) _) _ _ _)); first | (k_unfold; (try dsimp only)) | walk1 | (dsimp only; walk1))
  (with_reducible rename Fr _ _ _ _ => lF)
  (with_reducible rename News _ _ _ _ => lN)
  (with_reducible rename _ ∧ AllLt _ _ => lW)
  refine lt_names2 lW ?_
  rintro I1 W1 rfl rfl
  have hlI : ∀ q ∈ news, q.1 ≠ I1 := fun q hq => Nat.ne_of_lt (lI q hq)
  have hlW : W1 ≠ I1 := (Nat.ne_of_lt lW.1).symm
  refine ksw_while (σ := RdS) (fun st => (W1, W.listOf st.vals.toArray st.ep) :: (I1, biObj bs bt st.i) :: news) (fun st => []) (fun st => IntsAre st.vals st.done) [] (fun st => RdP (KBw.bInts bs) vs st) (fun st => st.f) ⟨[], [], 0, 0, f, vs⟩
    lF lN .nil (List.forall_mem_nil _) ⟨hrd, rfl⟩ ?turn (by passes_own)
  case turn =>
    clear lF lN
    rintro ⟨done, vals, ep, i, f', rest⟩ u h9 tk9 hIA hP F9 N9
    rcases hP.cases with ⟨hno, hdn⟩ | ⟨f'', b, v, i', r, hf, hb, hv, hr, hall⟩
    · dsimp only at hno hdn hIA F9 N9 ⊢
      k_fold
      (repeat (fail_if_success (with_reducible show wpAny _ _ (call (Value.ref _) _) _ _ _)); first | (k_unfold; (try dsimp only)) | walk1 | (dsimp only; walk1))
      refine wpAny_call ?_
      k_dflt (refine' code_defS ?k1 ?k2 ?k3 ?k4 ?k5 ?XB ?TB ?D ?T0 ?kA ?k6 ?k7 ?k8 ?k9 ?kB ?_ ?cK ?c2 ?c3 ?c4 ?c5; (case kA => exact rfl); (case k2 => k_asm); (case k1 => k_asm); (case XB => assumption); (case TB => assumption); (case D => assumption); (case T0 => first | assumption | exact KtsTurn.refl); (case k3 => k_asm); (case k4 => k_asm); (case k5 => k_asm); (case k6 => k_is); (case k7 => k_is); (case k8 => ktr_room); (case k9 => exact BindsTo.of_eq rfl); (case kB => exact locs rfl); (case cK => exact rfl); (case c2 => exact rfl); (case c3 => exact rfl); (case c4 => exact rfl); (case c5 => decide); k_whole; intro g2 L2 h2 FG2 F2 N2 B2 X2 T2 D2; (try dsimp only); (try k_lift B2); (try k_fold))
      (repeat (fail_if_success (with_reducible show wpAny _ _ (call (Value.builtin "next") _) _ _ _)); first | walk1 | (dsimp only; walk1))
      (with_reducible rename Fr _ _ _ _ => lF)
      (with_reducible rename News _ _ _ _ => lN)
      refine bi_stop rfl lF lN (.tail hlW (.head hlI)) (bInts_none hno) ?_
      intro h1 h9 e9 F9 N9 M9
      clear lF lN
      (try dsimp only)
      (try k_fold)
      (repeat (first | (k_unfold; (try dsimp only)) | walk1 | (dsimp only; walk1)))
      (with_reducible rename News h₀ L _ _ => nE)
      exact hret.out _ _ _ _ (by k_asm) (fun q hq => nE q (by
        rcases List.mem_cons.mp hq with rfl | hq
        · exact .head _
        · exact .tail _ (.tail _ hq))) ⟨_, _, _, rfl, hdn ▸ hIA, rfl⟩
    · dsimp only at hf hb hv hr hall hIA F9 N9 ⊢
      have hdl : done.length ≤ 100 := by
        rw [← hall] at hvl
        simp only [List.length_append, List.length_cons, List.length_nil] at hvl
        omega
      (try k_fold)
      (repeat (fail_if_success (with_reducible show wpAny _ _ (call (Value.ref _) _) _ _ _)); first | (k_unfold; (try dsimp only)) | walk1 | (dsimp only; walk1))
      refine CallsN.use (c_parse w I1 bs bt i b hb v i' hv (W1, W.listOf vals.toArray ep) hlW news hlI) (by k_asm) (by k_asm) (by k_asm) (by k_asm) (by k_asm) (by first | exact rfl | assumption) (by ktr_room) (by ktr_units) ?_
      rintro r9 h9 tk9 nw9 F9 N9 ⟨⟨t9, rfl⟩, rfl⟩
      (try dsimp only)
      (try k_fold)
      repeat' (first | (k_unfold; (try dsimp only)) | (k_end; wrow_close) | ((fail_if_success (with_reducible refine KswEnd_stop ?_)); walk1) | (dsimp only; walk1) | (leave1; walk_say "STEP leave1"; (try dsimp only)) | fail "no step")
      (with_reducible rename News _ _ _ _ => nE)
      (with_reducible rename Fr _ _ _ _ => nF)
      simp only [List.push_toArray] at nE
      exact ksw_end ⟨done ++ [v], vals ++ [Value.int v t9], ep + 1, i', f'', r⟩ nF nE (fun _ hp => hp) (IntsAre.append hIA (.cons _ _ .nil)) (List.forall_mem_nil _) (by intro z h2 h3; simp [kstB]) ⟨hr, hall⟩ (by show f'' < f'; omega)
end Mine
end
section
open PySem PySem.W PyProof.Rows
namespace Mine
noncomputable def octE (k : Int) (i : Nat) (d : Int) : Int := d + 128 * (k.fdiv (2 ^ i)).fmod 2
noncomputable def octB (c k : Int) : List Int := (octD c).reverse.mapIdx (octE k)
theorem range_mapIdx (f : Nat → Int → Int) (l : List Int) : (List.range l.length).map (fun i => f i (l.getD i 0)) = l.mapIdx f := by
  apply List.ext_getElem
  · simp
  · intro i h1 h2
    simp at h1 h2
    simp [List.getD_eq_getElem?_getD, h1]
theorem c_octets (w : World) (c k : Int) (t tk : Tok) (news : List (Addr × Obj)) (hc : 0 ≤ c) (hc2 : c < 1152921504606846976) (hk0 : 0 ≤ k) (hk1 : k < 1000000) : CallsN w 4 322 [.int c t, .int k tk] news (fun r news' => ∃ a vs ep, r = .ref a ∧ IntsAre vs (octB c k) ∧ Off a news ∧ news' = (a, W.listOf vs.toArray ep) :: news) := by
  unfold CallsN
  intro p loose mean mg mb dp un gd cn cs a ccd cl outer A₀ base h₀ L m s Q E B F X N T hk hd hu hret
  refine wpAny_call ?_
  k_dflt (refine' code_defC ?k1 ?k2 ?k3 ?k4 ?k5 ?kA ?kF ?kK ?k6 ?k7 ?k8 ?k9 ?kB ?kD ?_ ?c2 ?c3 ?c4; (case kA => exact rfl); (case kF => exact rfl); (case kK => assumption); (case k1 => k_asm); (case k2 => k_asm); (case k3 => k_asm); (case k4 => k_asm); (case k5 => k_asm); (case k6 => k_is); (case k7 => k_is); (case k8 => ktr_room); (case k9 => exact BindsTo.of_eq rfl); (case kB => exact rfl); (case kD => decide +kernel); (case c2 => exact rfl); (case c3 => exact rfl); (case c4 => exact rfl); k_whole; intro g' L' h' tk' cells' FG' F' N' Y' B' X' T' l1; k_cells Y'; (try simp only [List.cons_append, List.nil_append] at N'); (try dsimp only); (try k_fold))
  (repeat (fail_if_success (with_reducible show wpAny _ _ (exec (Stmt.While _ _ _ _) _) _ _ _)); first | walk1 | (dsimp only; walk1))
  (with_reducible rename Fr _ _ _ _ => lF)
  (with_reducible rename News _ _ _ _ => lN)
  refine ksw_while (σ := Int × Tok × List Value × List Int × Nat) (fun st => (_, W.listOf st.2.2.1.toArray st.2.2.2.2) :: _ :: news) (fun st => [(Str.ofString "number", .int st.1 st.2.1)]) (fun st => IntsAre st.2.2.1 st.2.2.2.1) [] (fun st => st.2.2.2.1.length ≤ 21 ∧ 0 ≤ st.1 ∧ OctP c st.1 st.2.2.2.1) (fun st => st.1.toNat) (c.fdiv 64, _, [Value.int (c.fmod 64) _], [c.fmod 64], 0)
    lF lN (.cons _ _ .nil) (List.forall_mem_cons.mpr ⟨rfl, List.forall_mem_nil _⟩) (oct_start hc hc2) ?turn (by exact PySem.PassesOwn.leaving)
  case turn =>
    clear lF lN
    rintro ⟨n, tn, vs, ds, ep⟩ u h9 tk9 hI ⟨hl9, h09, hP⟩ F9 N9
    dsimp only at hI hl9 h09 hP F9 N9 ⊢
    (try k_fold)
    repeat' (first | (k_unfold; (try dsimp only)) | (k_end; wrow_close) | ((fail_if_success (with_reducible refine KswEnd_stop ?_)); (fail_if_success (with_reducible show wpAny _ _ (eval (Expr.ListComp _ _ _ _) _) _ _ _)); walk1) | ((fail_if_success (with_reducible show wpAny _ _ (eval (Expr.ListComp _ _ _ _) _) _ _ _)); dsimp only; walk1) | (leave1; walk_say "STEP leave1"; (try dsimp only)) | fail "no step")
    · (with_reducible rename News _ _ _ _ => nE)
      (with_reducible rename Fr _ _ _ _ => nF)
      (with_reducible rename 0 < n => hn0)
      simp only [List.push_toArray] at nE
      exact ksw_end (n.fdiv 64, _, vs ++ [Value.int (n.fmod 64 + 64) _], ds ++ [n.fmod 64 + 64], ep + 1) nF nE (fun _ hp => hp) (IntsAre.append hI (.cons _ _ .nil)) (List.forall_mem_cons.mpr ⟨by with_unfolding_all rfl, List.forall_mem_nil _⟩) (by intro z h2 h3; simp only [List.forall_mem_cons, List.not_mem_nil, false_implies, implies_true, and_true, ne_eq] at h2; simp [h2, kstB]) (oct_turn hl9 h09 hP hn0)
        (by show (n.fdiv 64).toNat < n.toNat; rw [Int.fdiv_eq_ediv_of_nonneg _ (by decide)]; omega)
    · (with_reducible rename ¬ 0 < n => hnn)
      obtain ⟨hds, hdb⟩ := oct_end hP hnn
      (with_reducible rename Obj.data _ = Data.cell _ => dC)
      have dC2 := dC
      (repeat (fail_if_success (with_reducible show wpAny _ _ (call (Value.builtin "list.reverse") _) _ _ _)); first | (k_unfold; (try dsimp only)) | walk1 | (dsimp only; walk1))
      (with_reducible rename Fr _ _ _ _ => lF)
      (with_reducible rename News _ _ _ _ => lN)
      have hvl : vs.length ≤ 21 := by rw [hI.length]; exact hl9
      (try dsimp only)
      k_dflt (refine kl_reverse lF lN (l := vs.reverse) (by rw [List.toList_toArray]) (by k_upd) (by rw [List.toList_toArray, PySem.sizeLine_eq]; omega) ?_)
      clear lF lN
      intro h8 F8 N8
      have hIr := hI.reverse
      have hvr : vs.reverse.length ≤ 21 := by rw [List.length_reverse]; exact hvl
      (try dsimp only)
      (try k_fold)
      (repeat (fail_if_success (with_reducible show wpAny _ _ (eval (Expr.ListComp _ _ _ _) _) _ _ _)); first | (k_unfold; (try dsimp only)) | walk1 | (dsimp only; walk1))
      (with_reducible rename Fr _ _ _ _ => lF)
      (with_reducible rename News _ _ _ _ => lN)
      k_dflt (refine gc_pairF lF (by rfl) (by with_unfolding_all rfl) (by decide) (by rfl) (by decide) (by rfl) (by rfl) (by decide) (by intro _; rfl) ?_)
      (repeat (fail_if_success (with_reducible show wpAny _ _ (call (Value.type "enumerate") _) _ _ _)); first | (k_unfold; (try dsimp only)) | walk1 | (dsimp only; walk1))
      k_dflt (refine gp_enumL (vs := vs.reverse) (fun _ i y => ∃ t, y = Value.int (octE k i (ds.reverse.getD i 0)) t) (by rfl) lF lN (.head _) (by omega) (fun _ _ _ _ h _ => h) ?el ?fin)
      case el =>
        rintro k9 tk9 v9 I9 o9 I8 o8 C9 oC9 mC9 D9 ys9 tl8 h8 tk8 E8 hk8 hv8 hC8 hx1 hx2 F8 N8
        clear lF lN
        obtain ⟨c8, t8, rfl, hc8⟩ := IntsAre.at hIr k9 v9 hv8
        (try dsimp only [List.cons_append] at N8)
        (try k_fold)
        repeat' (first | (k_unfold; (try dsimp only)) | (k_end; wrow_close) | ((fail_if_success (with_reducible refine GpEl_stop ?_)); walk1) | ((fail_if_success (with_reducible refine GpEl_stop ?_)); dsimp only; walk1) | (leave1; walk_say "STEP leave1"; (try dsimp only)) | fail "no step")
        (with_reducible rename Fr _ _ _ _ => fE)
        (with_reducible rename News _ _ _ _ => nE)
        refine gp_plain fE nE ?_ ?_
        · exact fun q hq => hq
        · exact ⟨_, by rw [List.getD_eq_getElem?_getD, hc8]; rfl⟩
      case fin =>
        rintro D9 ys9 tl8 h8 tk8 hy8 hoD8 F8 N8
        clear lF lN
        have hS := ints_range hy8
        rw [List.length_reverse, hI.length, ← List.length_reverse, range_mapIdx (octE k) ds.reverse, hds] at hS
        clear hy8
        (try dsimp only)
        (try k_fold)
        (repeat (first | (k_unfold; (try dsimp only)) | walk1 | (dsimp only; walk1)))
        (with_reducible rename News h₀ L _ _ => nE)
        exact hret.out _ _ _ _ (by k_asm) (fun q hq => nE q (by
          rcases List.mem_cons.mp hq with rfl | hq
          · exact .head _
          · exact .tail _ (List.mem_append_left _ (.tail _ (.tail _ hq))))) ⟨_, _, _, rfl, hS, fun q hq => hoD8 q (List.mem_append_left _ (.tail _ (.tail _ hq))), rfl⟩
end Mine
end
section
open PySem PySem.W PyProof.Rows
namespace Mine
theorem cut_fact (k i : Int) (hi : 0 ≤ i) : 0 ≤ k.fmod (i + 1) ∧ k.fmod (i + 1) ≤ i :=
  ⟨Int.fmod_nonneg_of_pos _ (by omega), by have := Int.fmod_lt_of_pos k (show (0 : Int) < i + 1 by omega); omega⟩
noncomputable def pileS (t : Str) (p k : Int) : Str := t ++ Txt.mul (Str.ofString " ") (k.fmod (p + 1)) ++ ⟨#[unseenC k]⟩ ++ Txt.mul (Str.ofString " ") (p - k.fmod (p + 1)) ++ Str.ofString "\t"
theorem str0_len : (Str.ofString "").length ≤ 20 * 0 := by decide +kernel
noncomputable def typeGo : List Int → Int → Str → Str
  | [], _, t => t
  | c :: r, k, t => typeGo r (k + 7 * c + 4) (pileS t c k)
noncomputable def typeS (cs : List Int) (k : Int) : Str := typeGo cs k (Str.ofString "")
structure TyP (cs : List Int) (k : Int) (i : Nat) (st : Str × Tok × Int × Tok) : Prop where
  eq : typeGo (cs.drop i) st.2.2.1 st.1 = typeS cs k
  len : st.1.length ≤ 20 * i
  pos : 0 ≤ st.2.2.1 ∧ st.2.2.1 ≤ k + 100 * i
theorem sp_lenF : ∀ k : Fin 8, (Txt.mul (Str.ofString " ") (k.1 : Int)).length = k.1 := by decide +kernel
theorem sp_len {k : Int} (h : 0 ≤ k ∧ k ≤ 7) : (Txt.mul (Str.ofString " ") k).length = k.toNat := by
  have := sp_lenF ⟨k.toNat, by omega⟩
  rwa [show ((⟨k.toNat, by omega⟩ : Fin 8).1 : Int) = k from by show (k.toNat : Int) = k; omega] at this
theorem pileS_len {t : Str} {p k : Int} (hp : 0 ≤ p ∧ p ≤ 7) : (pileS t p k).length ≤ t.length + 16 := by
  have hc := cut_fact k p hp.1
  unfold pileS
  have e : ∀ a b : Str, (a ++ b).length = a.length + b.length := fun a b => by show (a.cps ++ b.cps).size = _; exact Array.size_append
  rw [e, e, e, e, sp_len (k := k.fmod (p + 1)) (by omega), sp_len (k := p - k.fmod (p + 1)) (by omega)]
  have e2 : (Str.ofString "\t").length = 1 := by decide +kernel
  have e3 : (⟨#[unseenC k]⟩ : Str).length = 1 := rfl
  rw [e2, e3]
  omega
theorem TyP.step {cs : List Int} {k : Int} {i : Nat} {x : Str} {tx : Tok} {sd : Int} {ts : Tok} {c : Int} {t1 t2 : Tok} (h : TyP cs k i (x, tx, sd, ts)) (hc : cs[i]? = some c) (hb : 0 ≤ c ∧ c ≤ 7) : TyP cs k (i + 1) (pileS x c sd, t1, sd + 7 * c + 4, t2) := by
  have hd : cs.drop i = c :: cs.drop (i + 1) := by
    obtain ⟨hl, he⟩ := List.getElem?_eq_some_iff.mp hc
    rw [← he]
    exact List.drop_eq_getElem_cons hl
  refine ⟨?_, ?_, ?_⟩
  · have := h.eq
    rw [hd] at this
    exact this
  · have h1 := h.len
    have h2 := pileS_len (t := x) (k := sd) hb
    dsimp only at h1 ⊢
    omega
  · have h1 := h.pos
    dsimp only at h1 ⊢
    omega
theorem c_typeL (w : World) (l : Addr) (cvs : List Value) (cs : List Int) (hI : IntsAre cvs cs) (k : Int) (t4 : Tok) (n : Nat) (news : List (Addr × Obj)) (hcb : ∀ c ∈ cs, 0 ≤ c ∧ c ≤ 7) (hcl : cs.length ≤ 20) (hk0 : 0 ≤ k) (hk1 : k < 2000000) : CallsN w 4 329 [.ref l, .int k t4] ((l, W.listOf cvs.toArray n) :: news) (fun r news' => (∃ t, r = .str (typeS cs k) t) ∧ news' = (l, W.listOf cvs.toArray n) :: news) := by
  unfold CallsN
  intro p loose mean mg mb dp un gd cn cs' a ccd cl outer A₀ base h₀ L m s Q E B F X N T hk hd hu hret
  have hvl : cvs.length ≤ 20 := by rw [hI.length]; exact hcl
  refine wpAny_call ?_
  k_dflt cell_enter
  (repeat (fail_if_success (with_reducible show wpAny _ _ (exec (Stmt.For _ _ _ _ _) _) _ _ _)); first | (k_unfold; (try dsimp only)) | walk1 | (dsimp only; walk1))
  (with_reducible rename Fr _ _ _ _ => lF)
  k_dflt (refine For_turns lF ?_)
  (repeat (fail_if_success (with_reducible show wpAny _ _ (pyIter _) _ _ _)); first | (k_unfold; (try dsimp only)) | walk1 | (dsimp only; walk1))
  (with_reducible rename Fr _ _ _ _ => lF)
  (with_reducible rename News _ _ _ _ => lN)
  refine tl_listC (σ := Str × Tok × Int × Tok) (vs := cvs) (fun _ => _) (fun st => [(Str.ofString "text", .str st.1 st.2.1), (Str.ofString "seed", .int st.2.2.1 st.2.2.2)]) (fun _ => True) [Str.ofString "corner", Str.ofString "cut"] (fun i st => TyP cs k i st) (Str.ofString "", _, k, _) (by rfl) lF lN (fun _ _ => .head _) trivial (List.forall_mem_cons.mpr ⟨rfl, List.forall_mem_cons.mpr ⟨rfl, List.forall_mem_nil _⟩⟩) ⟨rfl, str0_len, ⟨hk0, by show k ≤ k + 100 * ((0 : Nat) : Int); omega⟩⟩ ?turn ?done
  case turn =>
    clear lF lN
    rintro ⟨x, tx, sd, ts⟩ i v u h9 tk9 I9 o9 hv hoc - - hP F9 N9
    have hoc2 := hoc
    obtain ⟨c, tc, rfl, hc⟩ := IntsAre.at hI i v hv
    have hi20 : i < 20 := by
      have := (List.getElem?_eq_some_iff.mp hc).1
      omega
    have hb := hcb c (List.mem_of_getElem? hc)
    have hcut := cut_fact sd c hb.1
    have hx := hP.len
    have hs0 := hP.pos
    dsimp only at F9 N9 hx hs0 ⊢
    have hx2 : x.length ≤ 400 := by omega
    clear hx
    (try k_fold)
    (repeat (fail_if_success (with_reducible show wpAny _ _ (call (Value.ref _) _) _ _ _)); first | (k_unfold; (try dsimp only)) | walk1 | (dsimp only; walk1))
    k_dflt (refine Calls.use (c_unseen w sd _ _) (by k_asm) (by k_asm) (by k_asm) (by k_asm) (by k_asm) (by first | exact rfl | assumption) (by ktr_room) (by ktr_units) ?_)
    rintro r9 h9 tk9 F9 N9 ⟨t9, rfl⟩
    (try dsimp only)
    (try k_fold)
    repeat' (first | (k_unfold; (try dsimp only)) | (k_end; wrow_close) | ((fail_if_success (with_reducible refine UnrEndW_stop ?_)); walk1) | ((fail_if_success (with_reducible refine UnrEndW_stop ?_)); dsimp only; walk1) | (leave1; walk_say "STEP leave1"; (try dsimp only)) | fail "no step")
    (with_reducible rename News _ _ _ _ => nE)
    (with_reducible rename Fr _ _ _ _ => nF)
    exact tl_end (pileS x c sd, _, sd + 7 * c + 4, _) nF nE (fun q hq => hq) (List.forall_mem_singleton.mpr hoc) (List.forall_mem_cons.mpr ⟨by with_unfolding_all rfl, List.forall_mem_cons.mpr ⟨by with_unfolding_all rfl, List.forall_mem_nil _⟩⟩)
      (by intro z h1 h2; simp only [List.forall_mem_cons, List.not_mem_nil, false_implies, implies_true, and_true, ne_eq] at h1; simp only [List.contains_cons, List.contains_nil, Bool.or_false, Bool.or_eq_false_iff, beq_eq_false_iff_ne, ne_eq] at h2; simp [h1, h2, kstB]) trivial (hP.step hc hb)
  case done =>
    clear lF lN
    rintro ⟨x, tx, sd, ts⟩ u h9 tk9 - hP F9 N9
    have he := hP.eq
    rw [hI.length, List.drop_length] at he
    dsimp only [typeGo] at F9 N9 he ⊢
    (try k_fold)
    (repeat (first | (k_unfold; (try dsimp only)) | walk1 | (dsimp only; walk1)))
    exact hret.out _ _ _ _ (by k_asm) (by k_asm) ⟨⟨_, by rw [he]⟩, rfl⟩
theorem c_typeT (w : World) (l : Addr) (cvs : List Value) (cs : List Int) (hI : IntsAre cvs cs) (k : Int) (t4 : Tok) (news : List (Addr × Obj)) (hcb : ∀ c ∈ cs, 0 ≤ c ∧ c ≤ 7) (hcl : cs.length ≤ 20) (hk0 : 0 ≤ k) (hk1 : k < 2000000) : CallsN w 4 329 [.ref l, .int k t4] ((l, ({ cls := .type "tuple", data := .seq cvs.toArray } : Obj)) :: news) (fun r news' => (∃ t, r = .str (typeS cs k) t) ∧ news' = (l, ({ cls := .type "tuple", data := .seq cvs.toArray } : Obj)) :: news) := by
  unfold CallsN
  intro p loose mean mg mb dp un gd cn cs' a ccd cl outer A₀ base h₀ L m s Q E B F X N T hk hd hu hret
  have hvl : cvs.length ≤ 20 := by rw [hI.length]; exact hcl
  refine wpAny_call ?_
  k_dflt cell_enter
  (repeat (fail_if_success (with_reducible show wpAny _ _ (exec (Stmt.For _ _ _ _ _) _) _ _ _)); first | (k_unfold; (try dsimp only)) | walk1 | (dsimp only; walk1))
  (with_reducible rename Fr _ _ _ _ => lF)
  k_dflt (refine For_turns lF ?_)
  (repeat (fail_if_success (with_reducible show wpAny _ _ (pyIter _) _ _ _)); first | (k_unfold; (try dsimp only)) | walk1 | (dsimp only; walk1))
  (with_reducible rename Fr _ _ _ _ => lF)
  (with_reducible rename News _ _ _ _ => lN)
  refine tl_tuple (σ := Str × Tok × Int × Tok) (vs := cvs) (fun _ => _) (fun st => [(Str.ofString "text", .str st.1 st.2.1), (Str.ofString "seed", .int st.2.2.1 st.2.2.2)]) (fun _ => True) [Str.ofString "corner", Str.ofString "cut"] (fun i st => TyP cs k i st) (Str.ofString "", _, k, _) (by rfl) lF lN (fun _ _ => .head _) trivial (List.forall_mem_cons.mpr ⟨rfl, List.forall_mem_cons.mpr ⟨rfl, List.forall_mem_nil _⟩⟩) ⟨rfl, str0_len, ⟨hk0, by show k ≤ k + 100 * ((0 : Nat) : Int); omega⟩⟩ ?turn ?done
  case turn =>
    clear lF lN
    rintro ⟨x, tx, sd, ts⟩ i v u h9 tk9 I9 o9 hv hoc - - hP F9 N9
    have hoc2 := hoc
    obtain ⟨c, tc, rfl, hc⟩ := IntsAre.at hI i v hv
    have hi20 : i < 20 := by
      have := (List.getElem?_eq_some_iff.mp hc).1
      omega
    have hb := hcb c (List.mem_of_getElem? hc)
    have hcut := cut_fact sd c hb.1
    have hx := hP.len
    have hs0 := hP.pos
    dsimp only at F9 N9 hx hs0 ⊢
    have hx2 : x.length ≤ 400 := by omega
    clear hx
    (try k_fold)
    (repeat (fail_if_success (with_reducible show wpAny _ _ (call (Value.ref _) _) _ _ _)); first | (k_unfold; (try dsimp only)) | walk1 | (dsimp only; walk1))
    k_dflt (refine Calls.use (c_unseen w sd _ _) (by k_asm) (by k_asm) (by k_asm) (by k_asm) (by k_asm) (by first | exact rfl | assumption) (by ktr_room) (by ktr_units) ?_)
    rintro r9 h9 tk9 F9 N9 ⟨t9, rfl⟩
    (try dsimp only)
    (try k_fold)
    repeat' (first | (k_unfold; (try dsimp only)) | (k_end; wrow_close) | ((fail_if_success (with_reducible refine UnrEndW_stop ?_)); walk1) | ((fail_if_success (with_reducible refine UnrEndW_stop ?_)); dsimp only; walk1) | (leave1; walk_say "STEP leave1"; (try dsimp only)) | fail "no step")
    (with_reducible rename News _ _ _ _ => nE)
    (with_reducible rename Fr _ _ _ _ => nF)
    exact tl_end (pileS x c sd, _, sd + 7 * c + 4, _) nF nE (fun q hq => hq) (List.forall_mem_singleton.mpr hoc) (List.forall_mem_cons.mpr ⟨by with_unfolding_all rfl, List.forall_mem_cons.mpr ⟨by with_unfolding_all rfl, List.forall_mem_nil _⟩⟩)
      (by intro z h1 h2; simp only [List.forall_mem_cons, List.not_mem_nil, false_implies, implies_true, and_true, ne_eq] at h1; simp only [List.contains_cons, List.contains_nil, Bool.or_false, Bool.or_eq_false_iff, beq_eq_false_iff_ne, ne_eq] at h2; simp [h1, h2, kstB]) trivial (hP.step hc hb)
  case done =>
    clear lF lN
    rintro ⟨x, tx, sd, ts⟩ u h9 tk9 - hP F9 N9
    have he := hP.eq
    rw [hI.length, List.drop_length] at he
    dsimp only [typeGo] at F9 N9 he ⊢
    (try k_fold)
    (repeat (first | (k_unfold; (try dsimp only)) | walk1 | (dsimp only; walk1)))
    exact hret.out _ _ _ _ (by k_asm) (by k_asm) ⟨⟨_, by rw [he]⟩, rfl⟩
end Mine
end
section
open PySem PySem.W PyProof.Rows
namespace Mine
noncomputable def sg (x : Str) : List Nat := x.cps.toList
theorem sg_app (a b : Str) : sg (a ++ b) = sg a ++ sg b := by
  show (a.cps ++ b.cps).toList = _
  rw [Array.toList_append]; rfl
theorem sg_len (x : Str) : x.length = (sg x).length := by show x.cps.size = _; rw [sg, Array.length_toList]
theorem sg_codes (x : Str) : KStt.codes x = (sg x).map fun (c : Nat) => (c : Int) := rfl
theorem str_len (a b : Str) : (a ++ b).length = a.length + b.length := by show (a.cps ++ b.cps).size = _; exact Array.size_append
noncomputable def kc (x : Str) : List Int := (KStt.codes x).filter keepsC
theorem kc_app (a b : Str) : kc (a ++ b) = kc a ++ kc b := by
  unfold kc
  rw [sg_codes, sg_app, List.map_append, List.filter_append]
  rfl
theorem codes_txt {l : List Int} (h : ∀ x ∈ l, 0 ≤ x) : KStt.codes (KStt.txt l) = l := by
  rw [sg_codes]
  unfold KStt.txt sg
  simp only [List.map_map]
  conv => rhs; rw [← List.map_id l]
  refine List.map_congr_left fun x hx => ?_
  have := h x hx
  show ((x.toNat : Nat) : Int) = x
  omega
theorem codes_clean (x : Str) : KStt.codes (cleanS (KStt.codes x)) = kc x := by
  refine codes_txt fun y hy => ?_
  have := (List.mem_filter.mp hy).1
  rw [sg_codes] at this
  obtain ⟨c, _, rfl⟩ := List.mem_map.mp this
  exact Int.natCast_nonneg _
theorem clean_len (x : Str) : (cleanS (KStt.codes x)).length ≤ x.length := by
  rw [sg_len, sg_len]
  have h := congrArg List.length (codes_clean x)
  rw [sg_codes, List.length_map] at h
  rw [h]
  unfold kc
  refine Nat.le_trans (List.length_filter_le _ _) ?_
  rw [sg_codes, List.length_map]
  exact Nat.le_refl _
theorem sp_allF : ∀ k : Fin 8, kc (Txt.mul (Str.ofString " ") (k.1 : Int)) = List.replicate k.1 32 := by decide +kernel
theorem kc_sp {k : Int} (h : 0 ≤ k ∧ k ≤ 7) : kc (Txt.mul (Str.ofString " ") k) = List.replicate k.toNat 32 := by
  have := sp_allF ⟨k.toNat, by omega⟩
  rwa [show ((⟨k.toNat, by omega⟩ : Fin 8).1 : Int) = k from by show (k.toNat : Int) = k; omega] at this
theorem kc_tab : kc (Str.ofString "\t") = [9] := by decide +kernel
theorem kc_spt : kc (Str.ofString " \t") = [32, 9] := by decide +kernel
theorem kc_nil : kc (Str.ofString "") = [] := by decide +kernel
noncomputable def unsN : List Nat := [65024, 65025, 65026, 65027, 65028, 65029, 65030, 65031, 65032, 65033, 65034, 65035, 65036, 65037, 65038, 65039, 173, 847, 6150, 6155, 6156, 6157, 8203, 8204, 8205, 8288, 65279]
noncomputable def besN : List Nat := [172, 174, 846, 848, 6149, 6151, 6154, 6158, 8202, 8206, 8287, 8289, 65023, 65040, 65278, 65280]
theorem uns_all : ∀ f : Fin 27, (if (f.1 : Int) < 16 then (65024 + (f.1 : Int)).toNat else (unseenL.getD ((f.1 : Int) - 16).toNat 0).toNat) ∈ unsN := by decide +kernel
theorem uns_at (k : Int) : unseenC k ∈ unsN := by
  have h : 0 ≤ k.fmod 27 ∧ k.fmod 27 < 27 := ⟨Int.fmod_nonneg_of_pos _ (by decide), Int.fmod_lt_of_pos _ (by decide)⟩
  unfold unseenC
  generalize k.fmod 27 = r at h
  obtain ⟨f, rfl⟩ : ∃ f : Fin 27, r = (f.1 : Int) := ⟨⟨r.toNat, by omega⟩, by show r = (r.toNat : Int); omega⟩
  exact uns_all f
theorem bes_all : ∀ f : Fin 16, (besideL.getD ((f.1 : Int)).toNat 0).toNat ∈ besN := by decide +kernel
theorem bes_at (k : Int) : besideC k ∈ besN := by
  have h : 0 ≤ k.fmod 16 ∧ k.fmod 16 < 16 := ⟨Int.fmod_nonneg_of_pos _ (by decide), Int.fmod_lt_of_pos _ (by decide)⟩
  unfold besideC
  generalize k.fmod 16 = r at h
  obtain ⟨f, rfl⟩ : ∃ f : Fin 16, r = (f.1 : Int) := ⟨⟨r.toNat, by omega⟩, by show r = (r.toNat : Int); omega⟩
  exact bes_all f
theorem uns_facts : ∀ u ∈ unsN, (32 ≤ u ∧ u ≠ 127) ∧ keepsC (u : Int) = false := by decide +kernel
theorem bes_facts : ∀ u ∈ besN, (32 ≤ u ∧ u ≠ 127) ∧ keepsC (u : Int) = true ∧ u ≠ 32 ∧ u ≠ 9 := by decide +kernel
theorem kc_uns (k : Int) : kc ⟨#[unseenC k]⟩ = [] := by
  have := (uns_facts _ (uns_at k)).2
  show List.filter keepsC [((unseenC k : Nat) : Int)] = []
  simp [this]
theorem kc_bes (k : Int) : kc ⟨#[besideC k]⟩ = [((besideC k : Nat) : Int)] := by
  have := (bes_facts _ (bes_at k)).2.1
  show List.filter keepsC [((besideC k : Nat) : Int)] = _
  simp [this]
noncomputable def plainI (cs : List Int) : List Int := (cs.map fun c => List.replicate c.toNat 32 ++ [9]).flatten
theorem plain_cons (a : Int) (b : List Int) : plainI (a :: b) = List.replicate a.toNat 32 ++ 9 :: plainI b := by simp [plainI]
theorem kc_pile {t : Str} {c k : Int} (h : 0 ≤ c ∧ c ≤ 7) : kc (pileS t c k) = kc t ++ (List.replicate c.toNat 32 ++ [9]) := by
  have hc := cut_fact k c h.1
  unfold pileS
  rw [kc_app, kc_app, kc_app, kc_app, kc_sp (k := k.fmod (c + 1)) (by omega), kc_sp (k := c - k.fmod (c + 1)) (by omega), kc_uns, kc_tab, List.append_nil, List.append_assoc, List.append_assoc]
  congr 1
  rw [← List.append_assoc, List.replicate_append_replicate]
  congr 2
  omega
theorem kc_typeGo {cs : List Int} (h : ∀ c ∈ cs, 0 ≤ c ∧ c ≤ 7) : ∀ (k : Int) (t : Str), kc (typeGo cs k t) = kc t ++ plainI cs := by
  induction cs with
  | nil => intro k t; simp [typeGo, plainI]
  | cons c r ih =>
    intro k t
    rw [typeGo, ih (fun x hx => h x (.tail _ hx)), kc_pile (h c (.head _)), plain_cons]
    simp
theorem kc_type {cs : List Int} (h : ∀ c ∈ cs, 0 ≤ c ∧ c ≤ 7) (k : Int) : kc (typeS cs k) = plainI cs := by
  unfold typeS
  rw [kc_typeGo h, kc_nil, List.nil_append]
theorem typeGo_len {cs : List Int} (h : ∀ c ∈ cs, 0 ≤ c ∧ c ≤ 7) : ∀ (k : Int) (t : Str), (typeGo cs k t).length ≤ t.length + 16 * cs.length := by
  induction cs with
  | nil => intro k t; simp [typeGo]
  | cons c r ih =>
    intro k t
    have h1 := ih (fun x hx => h x (.tail _ hx)) (k + 7 * c + 4) (pileS t c k)
    have h2 := pileS_len (t := t) (k := k) (h c (.head _))
    rw [typeGo, List.length_cons]
    omega
theorem type_len {cs : List Int} (h : ∀ c ∈ cs, 0 ≤ c ∧ c ≤ 7) (k : Int) : (typeS cs k).length ≤ 16 * cs.length := by
  have := typeGo_len h k (Str.ofString "")
  have e : (Str.ofString "").length = 0 := by decide +kernel
  unfold typeS
  omega
theorem wsRun_stop {l o : List Int} {c : Int} (h1 : c ≠ 32) (h2 : c ≠ 9) : ∀ st, wsRun (l ++ c :: o) st = wsRun l st := by
  induction l with
  | nil => intro st; rw [List.nil_append]; show (if c = 32 then _ else if c = 9 then _ else st) = st; rw [if_neg h1, if_neg h2]
  | cons a r ih =>
    intro st
    rw [List.cons_append, wsRun, wsRun]
    split
    · exact ih _
    · split
      · exact ih _
      · rfl
noncomputable def wsOf (cs : List Int) (b : Int) : Ws := wsRun (plainI cs ++ List.replicate b.toNat 32) ws0
noncomputable def pageS (cs : List Int) (k b : Int) : Str := typeS cs k ++ Txt.mul (Str.ofString " ") b ++ ⟨#[besideC (k.fdiv 5)]⟩ ++ Str.ofString "\t"
theorem page_ws {cs : List Int} {k b : Int} (h : ∀ c ∈ cs, 0 ≤ c ∧ c ≤ 7) (hb : 0 ≤ b ∧ b ≤ 7) : wsRun (KStt.codes (cleanS (KStt.codes (pageS cs k b)))) ws0 = wsOf cs b := by
  have f := (bes_facts _ (bes_at (k.fdiv 5))).2.2
  rw [codes_clean]
  unfold pageS
  rw [kc_app, kc_app, kc_app, kc_type h, kc_sp hb, kc_bes, kc_tab, List.append_assoc]
  exact wsRun_stop (by omega) (by omega) _
theorem page_len {cs : List Int} {k b : Int} (h : ∀ c ∈ cs, 0 ≤ c ∧ c ≤ 7) (hb : 0 ≤ b ∧ b ≤ 7) (hl : cs.length ≤ 20) : (pageS cs k b).length < 1000 := by
  have h1 := type_len h k
  have h2 := sp_len hb
  unfold pageS
  rw [str_len, str_len, str_len, h2]
  have e2 : (Str.ofString "\t").length = 1 := by decide +kernel
  have e3 : (⟨#[besideC (k.fdiv 5)]⟩ : Str).length = 1 := rfl
  rw [e2, e3]
  omega
noncomputable def hdrS (cs : List Int) (k : Int) : Str := typeS cs (k.fdiv 2) ++ ⟨#[besideC (k.fdiv 3)]⟩ ++ Str.ofString " \t"
theorem hdr_ws {cs : List Int} {k : Int} (h : ∀ c ∈ cs, 0 ≤ c ∧ c ≤ 7) : wsRun (KStt.codes (cleanS (KStt.codes (hdrS cs k)))) ws0 = wsOf cs 0 := by
  have f := (bes_facts _ (bes_at (k.fdiv 3))).2.2
  rw [codes_clean]
  unfold hdrS
  rw [kc_app, kc_app, kc_type h, kc_bes, kc_spt, List.append_assoc]
  unfold wsOf
  rw [show List.replicate (Int.toNat 0) (32 : Int) = [] from rfl, List.append_nil]
  exact wsRun_stop (by omega) (by omega) _
theorem hdr_len {cs : List Int} {k : Int} (h : ∀ c ∈ cs, 0 ≤ c ∧ c ≤ 7) (hl : cs.length ≤ 20) : (hdrS cs k).length < 1000 := by
  have h1 := type_len h (k.fdiv 2)
  unfold hdrS
  rw [str_len, str_len]
  have e2 : (Str.ofString " \t").length = 2 := by decide +kernel
  have e3 : (⟨#[besideC (k.fdiv 3)]⟩ : Str).length = 1 := rfl
  rw [e2, e3]
  omega
end Mine
end
section
open PySem PySem.W PyProof.Rows
namespace Mine
structure WhAt (w : World) (led : List (Addr × Obj)) (v : Value) (st : Ws) : Prop where
  at_ : ∃ c t x d tn tc vs l, v = .ref x ∧ IntsAre vs st.cnt ∧ WhiteL w c t x d tn tc st vs l ∧ ∀ q ∈ l, q ∈ led
theorem WhAt.mono {w : World} {led led' : List (Addr × Obj)} {v : Value} {st : Ws} (h : WhAt w led v st) (k : ∀ q ∈ led, q ∈ led') : WhAt w led' v st := by
  obtain ⟨c, t, x, d, tn, tc, vs, l, e, hI, hW, hs⟩ := h
  exact ⟨c, t, x, d, tn, tc, vs, l, e, hI, hW, fun q hq => k q (hs q hq)⟩
theorem WhAt.openW {w : World} {led : List (Addr × Obj)} {v : Value} {st : Ws} (h : WhAt w led v st) {P : Prop} (k : ∀ c t x d tn tc vs u1 u2 u3 k0 k1 k2 k3 k4 v1, v = .ref x → IntsAre vs st.cnt → (∀ q ∈ [(x, instObj 100 d), (d, whiteD w c t st.n st.nt u1 u2 k0 k1 k2 k3 k4 tn v1), (tn, { cls := .type "tuple", data := .seq #[.ref tc, .int st.b u3] }), (tc, { cls := .type "tuple", data := .seq vs.toArray })], q ∈ led) → P) : P := by
  obtain ⟨c, t, x, d, tn, tc, vs, l, e, hI, ⟨u1, u2, u3, k0, k1, k2, k3, k4, v1, rfl⟩, hs⟩ := h
  exact k c t x d tn tc vs u1 u2 u3 k0 k1 k2 k3 k4 v1 e hI hs
theorem norm_dat {tc : Addr} {st : Ws} {vs : List Value} {t : Tok} {l : List (Addr × Obj)} (hI : IntsAre vs st.cnt) (hm : (tc, ({ cls := .type "tuple", data := .seq vs.toArray } : Obj)) ∈ l) : DatAll l [.ref tc, .int st.b t] [.tuple (st.cnt.map Dat.int), .int st.b] :=
  .cons (.tuple hm (dat_ints hI)) (.cons (.int _ _) .nil)
theorem norm_ok {st : Ws} : ∀ d ∈ [Dat.tuple (st.cnt.map Dat.int), .int st.b], kqdOk 8 d = true := by
  intro d hd
  rcases List.mem_cons.mp hd with rfl | hd
  · simp only [kqdOk, List.all_eq_true]
    exact dat_ints_ok
  · rw [List.mem_singleton.mp hd]; rfl
theorem norm_same {a b : Ws} : ([Dat.tuple (a.cnt.map Dat.int), .int a.b] = [Dat.tuple (b.cnt.map Dat.int), .int b.b]) ↔ (a.cnt = b.cnt ∧ a.b = b.b) := by
  simp only [List.cons.injEq, Dat.tuple.injEq, Dat.int.injEq, and_true, dat_int_inj]
noncomputable def sameW (a b : Ws) : Bool := a.cnt == b.cnt && a.b == b.b
theorem same_iff {a b : Ws} {r : Bool} (h : r = true ↔ [Dat.tuple (a.cnt.map Dat.int), .int a.b] = [Dat.tuple (b.cnt.map Dat.int), .int b.b]) : r = sameW a b := by
  rw [norm_same] at h
  have e : sameW a b = true ↔ (a.cnt = b.cnt ∧ a.b = b.b) := by simp [sameW]
  cases r <;> cases h2 : sameW a b <;> simp_all
theorem c_equal (w : World) (v1 v2 : Value) (s1 s2 : Ws) (led news : List (Addr × Obj)) (h1 : WhAt w led v1 s1) (h2 : WhAt w led v2 s2) (hs : ∀ q ∈ led, q ∈ news) : CallsN w 12 76 [v1, v2] news (fun r news' => r = .bool (sameW s1 s2) ∧ news' = news) := by
  unfold CallsN
  intro p loose mean mg mb dp un gd cn cs a ccd cl outer A₀ base h₀ L m s Q E B F X N T hk hd hu hret
  refine h1.openW ?_; clear h1
  rintro c1 t1 x1 d1 tn1 tc1 vs1 u1 u2 u3 k0 k1 k2 k3 k4 v1 rfl hI1 hs1
  refine h2.openW ?_; clear h2
  rintro c2 t2 x2 d2 tn2 tc2 vs2 u1' u2' u3' k0' k1' k2' k3' k4' v1' rfl hI2 hs2
  have N' : News h₀ L s.heap (([(x1, instObj 100 d1), (d1, whiteD w c1 t1 s1.n s1.nt u1 u2 k0 k1 k2 k3 k4 tn1 v1), (tn1, { cls := .type "tuple", data := .seq #[.ref tc1, .int s1.b u3] }), (tc1, { cls := .type "tuple", data := .seq vs1.toArray })] ++ [(x2, instObj 100 d2), (d2, whiteD w c2 t2 s2.n s2.nt u1' u2' k0' k1' k2' k3' k4' tn2 v1'), (tn2, { cls := .type "tuple", data := .seq #[.ref tc2, .int s2.b u3'] }), (tc2, { cls := .type "tuple", data := .seq vs2.toArray })]) ++ news) := fun q hq => by
    rcases List.mem_append.mp hq with hq | hq
    · rcases List.mem_append.mp hq with hq | hq
      · exact N q (hs _ (hs1 q hq))
      · exact N q (hs _ (hs2 q hq))
    · exact N q hq
  clear N hs hs1 hs2
  unfold whiteD at N'
  simp only [List.cons_append, List.nil_append] at N'
  refine wpAny_call ?_
  k_dflt cell_enter
  (repeat (fail_if_success (with_reducible show wpAny _ _ (compareOp _ _ _) _ _ _)); first | (k_unfold; (try dsimp only)) | walk1 | (dsimp only; walk1))
  (with_reducible rename News _ _ _ _ => lN)
  k_dflt (refine kqt_eq lN (.tail _ (.tail _ (.head _))) rfl rfl (norm_dat hI1 (l := _) (.tail _ (.tail _ (.tail _ (.head _))))) (fun q hq => hq) (.tail _ (.tail _ (.tail _ (.tail _ (.tail _ (.tail _ (.head _))))))) rfl rfl (norm_dat hI2 (l := _) (.tail _ (.tail _ (.tail _ (.tail _ (.tail _ (.tail _ (.tail _ (.head _))))))))) (fun q hq => hq) norm_ok norm_ok (by first | ktr_units | (simp only [Around.deeper, ktrTop]; omega)) ?_)
  intro r9 hr9
  obtain rfl := same_iff hr9
  (try dsimp only)
  (try k_fold)
  (repeat (first | (k_unfold; (try dsimp only)) | walk1 | (dsimp only; walk1)))
  (with_reducible rename News h₀ L _ _ => nE)
  exact hret.out _ _ _ _ (by k_asm) (fun q hq => nE q (.tail _ (.tail _ (.tail _ (.tail _ (.tail _ (.tail _ (.tail _ (.tail _ hq))))))))) ⟨rfl, rfl⟩
end Mine
end
section
open PySem PySem.W PyProof.Rows
namespace Mine
noncomputable def gallL (hs : List (Str × Str)) (m : Str) : List Str := (hs.filter fun h => Txt.lower h.1 == m).map (·.2)
theorem gall_hit {hs : List (Str × Str)} {m : Str} {i : Nat} {b : Str × Str} (h : hs[i]? = some b) (e : (Txt.lower b.1 == m) = true) : gallL (hs.take (i + 1)) m = gallL (hs.take i) m ++ [b.2] := by
  unfold gallL
  rw [List.take_add_one, h, List.filter_append, List.map_append]
  simp [e]
theorem gall_miss {hs : List (Str × Str)} {m : Str} {i : Nat} {b : Str × Str} (h : hs[i]? = some b) (e : (Txt.lower b.1 == m) = false) : gallL (hs.take (i + 1)) m = gallL (hs.take i) m := by
  unfold gallL
  rw [List.take_add_one, h, List.filter_append, List.map_append]
  simp [e]
theorem c_getall (w : World) (x d l : Addr) (n : Str) (t1 k0 : Tok) (vs : List Value) (hs : List (Str × Str)) (ep : Nat) (news : List (Addr × Obj)) (hn : OkN n) (hn' : OkN (Txt.lower n)) (hh : All2 (HdrAt news) vs hs) (hvl : vs.length ≤ 100) :
    CallsN w 6 212 [.ref x, .str n t1] (hdrL w x d l k0 vs ep ++ news) (fun r news' => ∃ D ys e2, r = .ref D ∧ StrsAre ys (gallL hs (Txt.lower n)) ∧ news' = (D, W.listOf ys.toArray e2) :: (hdrL w x d l k0 vs ep ++ news)) := by
  unfold CallsN
  intro p loose mean mg mb dp un gd cn cs a ccd cl outer A₀ base h₀ L m s Q E B F X N T hk hd hu hret
  unfold hdrL hdrD at N
  simp only [List.cons_append, List.nil_append] at N
  refine wpAny_call ?_
  k_dflt (refine' code_defC ?k1 ?k2 ?k3 ?k4 ?k5 ?kA ?kF ?kK ?k6 ?k7 ?k8 ?k9 ?kB ?kD ?_ ?c2 ?c3 ?c4; (case kA => exact rfl); (case kF => exact rfl); (case kK => first | exact rfl | assumption); (case k1 => k_asm); (case k2 => k_asm); (case k3 => k_asm); (case k4 => k_asm); (case k5 => k_asm); (case k6 => k_is); (case k7 => k_is); (case k8 => ktr_room); (case k9 => first | exact BindsTo.of_eq rfl | exact binds_K (by k_in) rfl (by k_is) rfl rfl rfl); (case kB => exact rfl); (case kD => decide +kernel); (case c2 => exact rfl); (case c3 => exact rfl); (case c4 => exact rfl); k_whole; intro g' L' h' tk' cells' FG' F' N' Y' B' X' T' l1; k_cells Y'; (try simp only [List.cons_append, List.nil_append] at N'); (try dsimp only); (try k_fold))
  (repeat (first | (k_unfold; (try dsimp only)) | ((with_reducible show wpAny _ _ (call (Value.ref _) _ _) _ _ _); k_here; refine wpAny_call ?_; k_dflt (refine code_def (by first | exact B' | k_asm) (by k_asm) (by k_asm) (by k_asm) (by k_asm) (by exact rfl) (by exact rfl) (by first | exact rfl | assumption) (by k_is) (by k_is) (by ktr_room) (by first | exact BindsTo.of_eq rfl | exact binds_K (by k_in) rfl (by k_is) rfl rfl rfl) (by exact locs rfl) ?_ (by exact rfl) (by exact rfl) (by exact rfl) (by decide); k_whole; intro gQ LQ hQ FGQ FQ NQ BQ XQ TQ; (try dsimp only); (try k_lift BQ); (try k_fold))) | ((with_reducible show wpAny _ _ (call (Value.builtin "re.Pattern.search") _ _) _ _ _); k_here; (with_reducible rename Fr _ _ _ _ => lF); k_dflt (first | (refine headers_search_N (Frag.In.keeps (K := kx _) (by k_asm) (Fr.keep lF)) (OkN.all (by assumption)) (Nat.lt_trans (OkN.len (by assumption)) (by decide)) ?_) | (refine headers_search_V (Frag.In.keeps (K := kx _) (by k_asm) (Fr.keep lF)) (OkV.all (by assumption)) (Nat.lt_trans (OkV.len (by assumption)) (by decide)) ?_))) | ((with_reducible show wpAny _ _ (call (Value.builtin "str.lower") [Value.str _ _]) _ _ _); k_here; (refine SCL.lower (OkN.low (by with_reducible assumption)) ?_); intro _; (try dsimp only)) | ((with_reducible show wpAny _ _ (getMethod (Value.ref _) _ _) _ _ _); k_here; (with_reducible rename Fr _ _ _ _ => lF); k_dflt (first | (refine headers_get_N (Frag.In.keeps (K := kx _) (by k_asm) (Fr.keep lF)) ?_) | (refine headers_get_V (Frag.In.keeps (K := kx _) (by k_asm) (Fr.keep lF)) ?_)); (try dsimp only)) | walk1 | (dsimp only; walk1)))
  (with_reducible rename Fr _ _ _ _ => lF)
  (with_reducible rename News _ _ _ _ => lN)
  rename (∀ p : Addr × Obj, p ∈ _ → p.1 < L') => lI
  have hoffc : Off (L' + 1) _ := fun p hp => Nat.ne_of_lt (Nat.lt_succ_of_lt (lI p hp))
  k_dflt (refine storeX_C lF lN (by rfl) (.head hoffc) (by assumption) ?_ (by rfl) (by rfl))
  clear lF lN
  intro h9 o9 F9 N9 d9
  (try dsimp only)
  (try k_fold)
  (repeat (fail_if_success (with_reducible show wpAny _ _ (eval (Expr.ListComp _ _ _ _) _) _ _ _)); first | (k_unfold; (try dsimp only)) | ((with_reducible show wpAny _ _ (call (Value.ref _) _ _) _ _ _); k_here; refine wpAny_call ?_; k_dflt (refine code_def (by first | exact B' | k_asm) (by k_asm) (by k_asm) (by k_asm) (by k_asm) (by exact rfl) (by exact rfl) (by first | exact rfl | assumption) (by k_is) (by k_is) (by ktr_room) (by first | exact BindsTo.of_eq rfl | exact binds_K (by k_in) rfl (by k_is) rfl rfl rfl) (by exact locs rfl) ?_ (by exact rfl) (by exact rfl) (by exact rfl) (by decide); k_whole; intro gQ LQ hQ FGQ FQ NQ BQ XQ TQ; (try dsimp only); (try k_lift BQ); (try k_fold))) | ((with_reducible show wpAny _ _ (call (Value.builtin "re.Pattern.search") _ _) _ _ _); k_here; (with_reducible rename Fr _ _ _ _ => lF); k_dflt (first | (refine headers_search_N (Frag.In.keeps (K := kx _) (by k_asm) (Fr.keep lF)) (OkN.all (by assumption)) (Nat.lt_trans (OkN.len (by assumption)) (by decide)) ?_) | (refine headers_search_V (Frag.In.keeps (K := kx _) (by k_asm) (Fr.keep lF)) (OkV.all (by assumption)) (Nat.lt_trans (OkV.len (by assumption)) (by decide)) ?_))) | ((with_reducible show wpAny _ _ (call (Value.builtin "str.lower") [Value.str _ _]) _ _ _); k_here; (refine SCL.lower (OkN.low (by with_reducible assumption)) ?_); intro _; (try dsimp only)) | ((with_reducible show wpAny _ _ (getMethod (Value.ref _) _ _) _ _ _); k_here; (with_reducible rename Fr _ _ _ _ => lF); k_dflt (first | (refine headers_get_N (Frag.In.keeps (K := kx _) (by k_asm) (Fr.keep lF)) ?_) | (refine headers_get_V (Frag.In.keeps (K := kx _) (by k_asm) (Fr.keep lF)) ?_)); (try dsimp only)) | walk1 | (dsimp only; walk1))
  (with_reducible rename Fr _ _ _ _ => lF)
  (with_reducible rename News _ _ _ _ => lN)
  k_dflt (refine gx_name lF (by rfl) (by with_unfolding_all rfl) (by decide) (by rfl) (by decide) (by rfl) (by intro _; rfl) ?_)
  (repeat (fail_if_success (with_reducible show wpAny _ _ (pyIter _) _ _ _)); first | (k_unfold; (try dsimp only)) | ((with_reducible show wpAny _ _ (call (Value.ref _) _ _) _ _ _); k_here; refine wpAny_call ?_; k_dflt (refine code_def (by first | exact B' | k_asm) (by k_asm) (by k_asm) (by k_asm) (by k_asm) (by exact rfl) (by exact rfl) (by first | exact rfl | assumption) (by k_is) (by k_is) (by ktr_room) (by first | exact BindsTo.of_eq rfl | exact binds_K (by k_in) rfl (by k_is) rfl rfl rfl) (by exact locs rfl) ?_ (by exact rfl) (by exact rfl) (by exact rfl) (by decide); k_whole; intro gQ LQ hQ FGQ FQ NQ BQ XQ TQ; (try dsimp only); (try k_lift BQ); (try k_fold))) | ((with_reducible show wpAny _ _ (call (Value.builtin "re.Pattern.search") _ _) _ _ _); k_here; (with_reducible rename Fr _ _ _ _ => lF); k_dflt (first | (refine headers_search_N (Frag.In.keeps (K := kx _) (by k_asm) (Fr.keep lF)) (OkN.all (by assumption)) (Nat.lt_trans (OkN.len (by assumption)) (by decide)) ?_) | (refine headers_search_V (Frag.In.keeps (K := kx _) (by k_asm) (Fr.keep lF)) (OkV.all (by assumption)) (Nat.lt_trans (OkV.len (by assumption)) (by decide)) ?_))) | ((with_reducible show wpAny _ _ (call (Value.builtin "str.lower") [Value.str _ _]) _ _ _); k_here; (refine SCL.lower (OkN.low (by with_reducible assumption)) ?_); intro _; (try dsimp only)) | ((with_reducible show wpAny _ _ (getMethod (Value.ref _) _ _) _ _ _); k_here; (with_reducible rename Fr _ _ _ _ => lF); k_dflt (first | (refine headers_get_N (Frag.In.keeps (K := kx _) (by k_asm) (Fr.keep lF)) ?_) | (refine headers_get_V (Frag.In.keeps (K := kx _) (by k_asm) (Fr.keep lF)) ?_)); (try dsimp only)) | walk1 | (dsimp only; walk1))
  k_dflt (refine gx_list (vs := vs) (by rfl) lF lN (.tail _ (.tail _ (.tail _ (.head _)))) (by omega) ?_)
  intro I9 h8 hsz old
  refine ⟨fun i tl ys => StrsAre ys (gallL (hs.take i) (Txt.lower n)), .nil, ?el, ?fin⟩
  case el =>
    rintro i v C9 oC9 mC9 D9 ys9 tl9 its9 h7 tk7 E7 hi ⟨_, hv⟩ hInv hC9 hx9 hits F7 N7 hyl hDC
    clear lF lN
    obtain ⟨o7, rfl⟩ := objs1 hits
    have hv := hv
    obtain ⟨b, hb, ⟨ah, tkh, tvh, rfl, hmem⟩, hok⟩ := hh.get hv
    have N6 := News.dup N7 (.tail _ (.tail _ (.tail _ (List.mem_append_left _ (.tail _ (.tail _ (.tail _ (.tail _ hmem))))))))
    dsimp only [List.cons_append, List.nil_append] at N6
    clear N7
    show wpAny _ _ (PySem.isTrue _ _ _) _ _ _
    (try dsimp only)
    (try k_fold)
    (repeat (first | (k_unfold; (try dsimp only)) | ((with_reducible show wpAny _ _ (call (Value.ref _) _ _) _ _ _); k_here; refine wpAny_call ?_; k_dflt (refine code_def (by first | exact B' | k_asm) (by k_asm) (by k_asm) (by k_asm) (by k_asm) (by exact rfl) (by exact rfl) (by first | exact rfl | assumption) (by k_is) (by k_is) (by ktr_room) (by first | exact BindsTo.of_eq rfl | exact binds_K (by k_in) rfl (by k_is) rfl rfl rfl) (by exact locs rfl) ?_ (by exact rfl) (by exact rfl) (by exact rfl) (by decide); k_whole; intro gQ LQ hQ FGQ FQ NQ BQ XQ TQ; (try dsimp only); (try k_lift BQ); (try k_fold))) | ((with_reducible show wpAny _ _ (call (Value.builtin "re.Pattern.search") _ _) _ _ _); k_here; (with_reducible rename Fr _ _ _ _ => lF); k_dflt (first | (refine headers_search_N (Frag.In.keeps (K := kx _) (by k_asm) (Fr.keep lF)) (OkN.all (by assumption)) (Nat.lt_trans (OkN.len (by assumption)) (by decide)) ?_) | (refine headers_search_V (Frag.In.keeps (K := kx _) (by k_asm) (Fr.keep lF)) (OkV.all (by assumption)) (Nat.lt_trans (OkV.len (by assumption)) (by decide)) ?_))) | ((with_reducible show wpAny _ _ (call (Value.builtin "str.lower") [Value.str _ _]) _ _ _); k_here; (refine SCL.lower (OkN.low (by with_reducible assumption)) ?_); intro _; (try dsimp only)) | ((with_reducible show wpAny _ _ (getMethod (Value.ref _) _ _) _ _ _); k_here; (with_reducible rename Fr _ _ _ _ => lF); k_dflt (first | (refine headers_get_N (Frag.In.keeps (K := kx _) (by k_asm) (Fr.keep lF)) ?_) | (refine headers_get_V (Frag.In.keeps (K := kx _) (by k_asm) (Fr.keep lF)) ?_)); (try dsimp only)) | walk1 | (dsimp only; walk1)))
    · (with_reducible rename (Txt.lower b.1 == Txt.lower n) = true => ha)
      (with_reducible rename Fr _ _ _ _ => fE)
      (with_reducible rename News _ _ _ _ => nE)
      refine gx_plain fE nE ?_ ?_
      · exact fun q hq => .tail _ hq
      · rw [gall_hit hb ha]
        exact StrsAre.append' hInv (.cons _ _ .nil)
    · intro ha
      (with_reducible rename Fr _ _ _ _ => fE)
      (with_reducible rename News _ _ _ _ => nE)
      refine gx_no fE nE ?_ ?_
      · exact fun q hq => .tail _ hq
      · rw [gall_miss hb ha]
        exact hInv
  case fin =>
    rintro D9 ys9 tl9 hInv hyl h7 tk7 F7 N7
    clear lF lN
    have hInv := hInv
    rw [hh.length, List.take_length] at hInv
    (try dsimp only)
    (try k_fold)
    (repeat (first | (k_unfold; (try dsimp only)) | ((with_reducible show wpAny _ _ (call (Value.ref _) _ _) _ _ _); k_here; refine wpAny_call ?_; k_dflt (refine code_def (by first | exact B' | k_asm) (by k_asm) (by k_asm) (by k_asm) (by k_asm) (by exact rfl) (by exact rfl) (by first | exact rfl | assumption) (by k_is) (by k_is) (by ktr_room) (by first | exact BindsTo.of_eq rfl | exact binds_K (by k_in) rfl (by k_is) rfl rfl rfl) (by exact locs rfl) ?_ (by exact rfl) (by exact rfl) (by exact rfl) (by decide); k_whole; intro gQ LQ hQ FGQ FQ NQ BQ XQ TQ; (try dsimp only); (try k_lift BQ); (try k_fold))) | ((with_reducible show wpAny _ _ (call (Value.builtin "re.Pattern.search") _ _) _ _ _); k_here; (with_reducible rename Fr _ _ _ _ => lF); k_dflt (first | (refine headers_search_N (Frag.In.keeps (K := kx _) (by k_asm) (Fr.keep lF)) (OkN.all (by assumption)) (Nat.lt_trans (OkN.len (by assumption)) (by decide)) ?_) | (refine headers_search_V (Frag.In.keeps (K := kx _) (by k_asm) (Fr.keep lF)) (OkV.all (by assumption)) (Nat.lt_trans (OkV.len (by assumption)) (by decide)) ?_))) | ((with_reducible show wpAny _ _ (call (Value.builtin "str.lower") [Value.str _ _]) _ _ _); k_here; (refine SCL.lower (OkN.low (by with_reducible assumption)) ?_); intro _; (try dsimp only)) | ((with_reducible show wpAny _ _ (getMethod (Value.ref _) _ _) _ _ _); k_here; (with_reducible rename Fr _ _ _ _ => lF); k_dflt (first | (refine headers_get_N (Frag.In.keeps (K := kx _) (by k_asm) (Fr.keep lF)) ?_) | (refine headers_get_V (Frag.In.keeps (K := kx _) (by k_asm) (Fr.keep lF)) ?_)); (try dsimp only)) | walk1 | (dsimp only; walk1)))
    (with_reducible rename News h₀ L _ _ => nE)
    exact hret.out _ _ _ _ (by k_asm) (fun q hq => nE q (by
      rcases List.mem_cons.mp hq with rfl | hq
      · exact .head _
      · exact .tail _ (List.mem_append_left _ (.tail _ hq)))) ⟨_, _, _, rfl, hInv, rfl⟩
local macro_rules | `(tactic| k_all) => `(tactic| exact Off.out (by with_reducible assumption))
theorem join_one {c : Str} : Txt.join (Str.ofString "; ") [c] = c := by
  show (⟨_⟩ : Str) = c
  cases c
  first | rfl | simp
theorem addh_led {h₀ h : Heap} {L : Addr} {a b c e x d l : Addr × Obj} {news : List (Addr × Obj)} (N : News h₀ L h (a :: b :: c :: e :: x :: d :: l :: news)) : News h₀ L h (a :: x :: d :: l :: news) := fun q hq => N q (by
  rcases List.mem_cons.mp hq with rfl | hq
  · exact .head _
  · exact .tail _ (.tail _ (.tail _ (.tail _ hq))))
theorem noDict_is {prog : Program} {w : World} : Obj.IsDictOf (PySem.strKind prog w) noDict [] :=
  ⟨#[], 0, ⟨rfl, rfl, rfl⟩, rfl, by first | (intro e he; simp at he) | simp [KeysOf], by first | exact .nil | simp [Pairs], List.nodup_nil⟩
theorem c_addh (w : World) (x d l : Addr) (n c : Str) (t1 t2 k0 : Tok) (vs : List Value) (ep : Nat) (news : List (Addr × Obj)) (hn : OkN n) (hc : OkV c) (hxl : @Ne Nat x l) (hdl : @Ne Nat d l) (hol : Off l news) (hvl : vs.length ≤ 100) :
    CallsN w 6 270 [.ref x, .str n t1, .str c t2] (hdrL w x d l k0 vs ep ++ news) (fun r news' => ∃ a t' t'', @Ne Nat a l ∧ r = .none ∧ news' = hdrL w x d l k0 (vs ++ [.ref a]) (ep + 1) ++ ((a, { cls := .type "tuple", data := .seq #[.str n t', .str c t''] }) :: news)) := by
  unfold CallsN
  intro p loose mean mg mb dp un gd cn cs a ccd cl outer A₀ base h₀ L m s Q E B F X N T hk hd hu hret
  unfold hdrL hdrD at N
  simp only [List.cons_append, List.nil_append] at N
  refine wpAny_call ?_
  k_dflt (refine' code_defK ?k1 ?k2 ?k3 ?k4 ?k5 ?kA ?kF ?kK ?k6 ?k7 ?k8 ?k9 ?kB ?_ ?c2 ?c3 ?c4 ?c5 ?c6; (case c6 => decide); (case kA => exact rfl); (case kF => exact rfl); (case kK => first | exact rfl | assumption); (case k1 => k_asm); (case k2 => k_asm); (case k3 => k_asm); (case k4 => k_asm); (case k5 => k_asm); (case k6 => k_is); (case k7 => k_is); (case k8 => ktr_room); (case k9 => exact rfl); (case c5 => decide); (case kB => exact fun d => locs rfl); (case c2 => exact rfl); (case c3 => exact rfl); (case c4 => exact rfl); k_whole; intro g' L' h' d' tk' FG' F' N' B' X' T' lo' l1; (try dsimp only); (try k_lift B'); (try k_fold))
  have hnd := noDict_is (prog := pw) (w := w)
  have hnf : PyProof.V.FlatPairs PyData.str ([] : List (Str × Value)) [] := by first | exact .nil | exact trivial | rfl
  (repeat (fail_if_success (with_reducible show wpAny _ _ (exec (Stmt.For _ _ _ _ _) _) _ _ _)); first | (k_unfold; (try dsimp only)) | ((with_reducible show wpAny _ _ (call (Value.ref _) _ _) _ _ _); k_here; refine wpAny_call ?_; k_dflt (refine code_def (by first | exact B' | k_asm) (by k_asm) (by k_asm) (by k_asm) (by k_asm) (by exact rfl) (by exact rfl) (by first | exact rfl | assumption) (by k_is) (by k_is) (by ktr_room) (by first | exact BindsTo.of_eq rfl | exact binds_K (by k_in) rfl (by k_is) rfl rfl rfl) (by exact locs rfl) ?_ (by exact rfl) (by exact rfl) (by exact rfl) (by decide); k_whole; intro gQ LQ hQ FGQ FQ NQ BQ XQ TQ; (try dsimp only); (try k_lift BQ); (try k_fold))) | ((with_reducible show wpAny _ _ (call (Value.builtin "re.Pattern.search") _ _) _ _ _); k_here; (with_reducible rename Fr _ _ _ _ => lF); k_dflt (first | (refine headers_search_N (Frag.In.keeps (K := kx _) (by k_asm) (Fr.keep lF)) (OkN.all (by assumption)) (Nat.lt_trans (OkN.len (by assumption)) (by decide)) ?_) | (refine headers_search_V (Frag.In.keeps (K := kx _) (by k_asm) (Fr.keep lF)) (OkV.all (by assumption)) (Nat.lt_trans (OkV.len (by assumption)) (by decide)) ?_))) | ((with_reducible show wpAny _ _ (getMethod (Value.ref _) _ _) _ _ _); k_here; (with_reducible rename Fr _ _ _ _ => lF); k_dflt (first | (refine headers_get_N (Frag.In.keeps (K := kx _) (by k_asm) (Fr.keep lF)) ?_) | (refine headers_get_V (Frag.In.keeps (K := kx _) (by k_asm) (Fr.keep lF)) ?_)); (try dsimp only)) | walk1 | (dsimp only; walk1))
  have lo9 := lo'.ne
  (repeat (fail_if_success (with_reducible show wpAny _ _ (call (Value.builtin "str.join") _) _ _ _)); first | (k_unfold; (try dsimp only)) | ((with_reducible show wpAny _ _ (call (Value.ref _) _ _) _ _ _); k_here; refine wpAny_call ?_; k_dflt (refine code_def (by first | exact B' | k_asm) (by k_asm) (by k_asm) (by k_asm) (by k_asm) (by exact rfl) (by exact rfl) (by first | exact rfl | assumption) (by k_is) (by k_is) (by ktr_room) (by first | exact BindsTo.of_eq rfl | exact binds_K (by k_in) rfl (by k_is) rfl rfl rfl) (by exact locs rfl) ?_ (by exact rfl) (by exact rfl) (by exact rfl) (by decide); k_whole; intro gQ LQ hQ FGQ FQ NQ BQ XQ TQ; (try dsimp only); (try k_lift BQ); (try k_fold))) | ((with_reducible show wpAny _ _ (call (Value.builtin "re.Pattern.search") _ _) _ _ _); k_here; (with_reducible rename Fr _ _ _ _ => lF); k_dflt (first | (refine headers_search_N (Frag.In.keeps (K := kx _) (by k_asm) (Fr.keep lF)) (OkN.all (by assumption)) (Nat.lt_trans (OkN.len (by assumption)) (by decide)) ?_) | (refine headers_search_V (Frag.In.keeps (K := kx _) (by k_asm) (Fr.keep lF)) (OkV.all (by assumption)) (Nat.lt_trans (OkV.len (by assumption)) (by decide)) ?_))) | ((with_reducible show wpAny _ _ (getMethod (Value.ref _) _ _) _ _ _); k_here; (with_reducible rename Fr _ _ _ _ => lF); k_dflt (first | (refine headers_get_N (Frag.In.keeps (K := kx _) (by k_asm) (Fr.keep lF)) ?_) | (refine headers_get_V (Frag.In.keeps (K := kx _) (by k_asm) (Fr.keep lF)) ?_)); (try dsimp only)) | walk1 | (dsimp only; walk1))
  (with_reducible rename News _ _ _ _ => lN)
  k_dflt (refine join_listW (items := #[Value.str c t2]) (ys := [c]) (News.isList lN (.tail _ (.head _))) (by show StrsAre [Value.str c t2] [c]; exact .cons _ _ .nil) (by decide) (by have := hc.len; simp only [List.map_cons, List.map_nil, List.sum_cons, List.sum_nil, List.length_cons, List.length_nil]; have e : c.length = c.cps.size := rfl; omega) ?_)
  rw [join_one]
  intro t7 tk7
  (try dsimp only)
  (try k_fold)
  (repeat (fail_if_success (with_reducible show wpAny _ _ (call (Value.builtin "list.append") _) _ _ _)); first | (k_unfold; (try dsimp only)) | ((with_reducible show wpAny _ _ (call (Value.ref _) _ _) _ _ _); k_here; refine wpAny_call ?_; k_dflt (refine code_def (by first | exact B' | k_asm) (by k_asm) (by k_asm) (by k_asm) (by k_asm) (by exact rfl) (by exact rfl) (by first | exact rfl | assumption) (by k_is) (by k_is) (by ktr_room) (by first | exact BindsTo.of_eq rfl | exact binds_K (by k_in) rfl (by k_is) rfl rfl rfl) (by exact locs rfl) ?_ (by exact rfl) (by exact rfl) (by exact rfl) (by decide); k_whole; intro gQ LQ hQ FGQ FQ NQ BQ XQ TQ; (try dsimp only); (try k_lift BQ); (try k_fold))) | ((with_reducible show wpAny _ _ (call (Value.builtin "re.Pattern.search") _ _) _ _ _); k_here; (with_reducible rename Fr _ _ _ _ => lF); k_dflt (first | (refine headers_search_N (Frag.In.keeps (K := kx _) (by k_asm) (Fr.keep lF)) (OkN.all (by assumption)) (Nat.lt_trans (OkN.len (by assumption)) (by decide)) ?_) | (refine headers_search_V (Frag.In.keeps (K := kx _) (by k_asm) (Fr.keep lF)) (OkV.all (by assumption)) (Nat.lt_trans (OkV.len (by assumption)) (by decide)) ?_))) | ((with_reducible show wpAny _ _ (getMethod (Value.ref _) _ _) _ _ _); k_here; (with_reducible rename Fr _ _ _ _ => lF); k_dflt (first | (refine headers_get_N (Frag.In.keeps (K := kx _) (by k_asm) (Fr.keep lF)) ?_) | (refine headers_get_V (Frag.In.keeps (K := kx _) (by k_asm) (Fr.keep lF)) ?_)); (try dsimp only)) | walk1 | (dsimp only; walk1))
  (with_reducible rename News _ _ _ _ => lN)
  have lN2 := addh_led lN
  clear lN
  (repeat (first | (k_unfold; (try dsimp only)) | ((with_reducible show wpAny _ _ (call (Value.ref _) _ _) _ _ _); k_here; refine wpAny_call ?_; k_dflt (refine code_def (by first | exact B' | k_asm) (by k_asm) (by k_asm) (by k_asm) (by k_asm) (by exact rfl) (by exact rfl) (by first | exact rfl | assumption) (by k_is) (by k_is) (by ktr_room) (by first | exact BindsTo.of_eq rfl | exact binds_K (by k_in) rfl (by k_is) rfl rfl rfl) (by exact locs rfl) ?_ (by exact rfl) (by exact rfl) (by exact rfl) (by decide); k_whole; intro gQ LQ hQ FGQ FQ NQ BQ XQ TQ; (try dsimp only); (try k_lift BQ); (try k_fold))) | ((with_reducible show wpAny _ _ (call (Value.builtin "re.Pattern.search") _ _) _ _ _); k_here; (with_reducible rename Fr _ _ _ _ => lF); k_dflt (first | (refine headers_search_N (Frag.In.keeps (K := kx _) (by k_asm) (Fr.keep lF)) (OkN.all (by assumption)) (Nat.lt_trans (OkN.len (by assumption)) (by decide)) ?_) | (refine headers_search_V (Frag.In.keeps (K := kx _) (by k_asm) (Fr.keep lF)) (OkV.all (by assumption)) (Nat.lt_trans (OkV.len (by assumption)) (by decide)) ?_))) | ((with_reducible show wpAny _ _ (getMethod (Value.ref _) _ _) _ _ _); k_here; (with_reducible rename Fr _ _ _ _ => lF); k_dflt (first | (refine headers_get_N (Frag.In.keeps (K := kx _) (by k_asm) (Fr.keep lF)) ?_) | (refine headers_get_V (Frag.In.keeps (K := kx _) (by k_asm) (Fr.keep lF)) ?_)); (try dsimp only)) | walk1 | (dsimp only; walk1)))
  (with_reducible rename News h₀ L _ _ => nE)
  simp only [List.push_toArray] at nE
  have hne := news_ne nE (.head _) (.tail _ (.tail _ (.tail _ (.head _)))) (fun e => by have := congrArg Obj.cls e; simp at this)
  exact hret.out _ _ _ _ (by k_asm) (hdr_led nE) ⟨_, _, _, hne, rfl, rfl⟩
end Mine
end
section
open PySem PySem.W PyProof.Rows
namespace Mine
noncomputable def WhiteX (w : World) (st : Ws) (news : List (Addr × Obj)) (r : Value) (news' : List (Addr × Obj)) : Prop :=
  ∃ c t x d tn tc vs led, r = .ref x ∧ IntsAre vs st.cnt ∧ WhiteL w c t x d tn tc st vs led ∧ news' = led ++ news
theorem page_led {h₀ h : Heap} {L : Addr} {a b c d e : Addr × Obj} {news : List (Addr × Obj)} (N : News h₀ L h (a :: b :: c :: d :: e :: news)) : News h₀ L h ([a, b, c, d] ++ news) := fun q hq => N q (by
  rcases List.mem_append.mp hq with hq | hq
  · exact List.mem_append_left [e] hq |> fun h => by
      rcases List.mem_append.mp h with h | h
      · rcases List.mem_cons.mp h with rfl | h
        · exact .head _
        rcases List.mem_cons.mp h with rfl | h
        · exact .tail _ (.head _)
        rcases List.mem_cons.mp h with rfl | h
        · exact .tail _ (.tail _ (.head _))
        rw [List.mem_singleton.mp h]; exact .tail _ (.tail _ (.tail _ (.head _)))
      · rw [List.mem_singleton.mp h]; exact .tail _ (.tail _ (.tail _ (.tail _ (.head _))))
  · exact .tail _ (.tail _ (.tail _ (.tail _ (.tail _ hq)))))
theorem c_page (w : World) (l : Addr) (vs : List Value) (css : List (List Int)) (n : Nat) (k b : Int) (t1 t2 : Tok) (pre news : List (Addr × Obj)) (hT : All2 (TupAt pre) vs css) (hp : ∀ q ∈ pre, q ∈ (l, W.listOf vs.toArray n) :: news) (hcb : ∀ c ∈ css.flatten, 0 ≤ c ∧ c ≤ 7) (hcl : css.flatten.length ≤ 20) (hk0 : 0 ≤ k) (hk1 : k < 1000000) (hb : 0 ≤ b ∧ b ≤ 7) :
    CallsN w 14 341 [.ref l, .int k t1, .int b t2] ((l, W.listOf vs.toArray n) :: news) (WhiteX w (wsOf css.flatten b) ((l, W.listOf vs.toArray n) :: news)) := by
  have hT2 := hT.imp fun a b h => h.mono hp
  clear hT hp
  unfold CallsN
  intro p loose mean mg mb dp un gd cn cs a ccd cl outer A₀ base h₀ L m s Q E B F X N T hk hd hu hret
  refine wpAny_call ?_
  k_dflt cell_enter
  (repeat (fail_if_success (with_reducible show wpAny _ _ (exec (Stmt.Assign _ (Expr.ListComp _ _ _ _) _) _) _ _ _)); first | (k_unfold; (try dsimp only)) | walk1 | (dsimp only; walk1))
  (with_reducible rename Fr _ _ _ _ => lF)
  (with_reducible rename News _ _ _ _ => lN)
  k_dflt (refine gc_flatA (css := css) lF (by rfl) (by rfl) (by with_unfolding_all rfl) (by rfl) (by rfl) (by with_unfolding_all rfl) (by decide) (by rfl) (by decide) (by rfl) (by rfl) (by decide) (by omega) hT2 (.head _) ?it1 (by intro _; rfl) (by intro _ _; rfl) ?it2 ?el ?fin)
  case it1 =>
    (repeat (fail_if_success (with_reducible refine FlIs_stop ?_)); first | (k_unfold; (try dsimp only)) | walk1 | (dsimp only; walk1))
    exact ⟨_, _, rfl, rfl, lF, lN⟩
  case it2 =>
    clear lF lN
    intro v C9 oC9 mC9 D9 ys9 I9 o9 h9 tk9 E9 hC hx F9 N9
    (repeat (fail_if_success (with_reducible refine FlIs_stop ?_)); first | (k_unfold; (try dsimp only)) | walk1 | (dsimp only; walk1))
    exact ⟨_, _, rfl, rfl, F9, N9⟩
  case el =>
    clear lF lN
    intro v C9 oC9 mC9 D9 ys9 I9 o9 I8 o8 h9 tk9 E9 hC hx F9 N9
    (repeat (fail_if_success (with_reducible refine FlIs_stop ?_)); first | (k_unfold; (try dsimp only)) | walk1 | (dsimp only; walk1))
    exact ⟨_, _, rfl, rfl, F9, N9⟩
  case fin =>
    clear lF lN
    intro D9 ys9 hI9 h9 tk9 F9 N9
    (try dsimp only)
    (try k_fold)
    (repeat (fail_if_success (with_reducible show wpAny _ _ (call (Value.ref _) _) _ _ _)); first | (k_unfold; (try dsimp only)) | walk1 | (dsimp only; walk1))
    have hS1 := type_len hcb k
    have hS2 := sp_len hb
    have hS3 : (typeS css.flatten k).length ≤ 400 := by omega
    k_dflt (refine CallsN.use (c_typeL w D9 ys9 css.flatten hI9 k _ _ _ hcb hcl hk0 (by omega)) (by k_asm) (by k_asm) (by k_asm) (by k_asm) (by k_asm) (by first | exact rfl | assumption) (by ktr_room) (by ktr_units) ?_)
    rintro r9 h9 tk9 nw9 F9 N9 ⟨⟨t9, rfl⟩, rfl⟩
    (try dsimp only)
    (try k_fold)
    (repeat (fail_if_success (with_reducible show wpAny _ _ (call (Value.ref _) _) _ _ _)); first | (k_unfold; (try dsimp only)) | walk1 | (dsimp only; walk1))
    k_dflt (refine Calls.use (c_beside w (k.fdiv 5) _ _) (by k_asm) (by k_asm) (by k_asm) (by k_asm) (by k_asm) (by first | exact rfl | assumption) (by ktr_room) (by ktr_units) ?_)
    rintro r8 h8 tk8 F8 N8 ⟨t8, rfl⟩
    (try dsimp only)
    (try k_fold)
    (repeat (fail_if_success (with_reducible show wpAny _ _ (call (Value.ref _) _) _ _ _)); first | (k_unfold; (try dsimp only)) | walk1 | (dsimp only; walk1))
    k_dflt (refine Calls.use (c_clean w (pageS css.flatten k b) _ _ (page_len hcb hb hcl)) (by k_asm) (by k_asm) (by k_asm) (by k_asm) (by k_asm) (by first | exact rfl | assumption) (by ktr_room) (by ktr_units) ?_)
    rintro r7 h7 tk7 F7 N7 ⟨t7, rfl⟩
    (try dsimp only)
    (try k_fold)
    (repeat (fail_if_success (with_reducible show wpAny _ _ (call (Value.ref _) _) _ _ _)); first | (k_unfold; (try dsimp only)) | walk1 | (dsimp only; walk1))
    k_dflt (refine CallsN.use (c_white w _ _ _ (Nat.lt_of_le_of_lt (clean_len _) (page_len hcb hb hcl))) (by k_asm) (by k_asm) (by k_asm) (by k_asm) (by k_asm) (by first | exact rfl | assumption) (by ktr_room) (by ktr_units) ?_)
    rintro r6 h6 tk6 nw6 F6 N6 hXO
    refine ex6 hXO ?_; clear hXO; rintro x d tn tc vs6 led6 hXO
    refine an4 hXO ?_; clear hXO; rintro rfl hI6 hW6 rfl
    rw [page_ws hcb hb] at hI6 hW6
    have hW5 := hW6
    refine ex9 hW5 ?_; clear hW5; rintro u1 u2 u3 k0 k1 k2 k3 k4 v6 rfl
    unfold whiteD at N6
    simp only [List.cons_append, List.nil_append] at N6
    (try dsimp only)
    (try k_fold)
    (repeat (first | (k_unfold; (try dsimp only)) | walk1 | (dsimp only; walk1)))
    (with_reducible rename News h₀ L _ _ => nE)
    exact hret.out _ _ _ _ (by k_asm) (page_led nE) ⟨_, _, x, d, tn, tc, vs6, _, rfl, hI6, hW6, rfl⟩
end Mine
end
section
open PySem PySem.W PyProof.Rows
namespace Mine
noncomputable def triGo (d : List Int) : Nat → List (List Int) → List (Int × Int) → Nat → Option (List (List Int))
  | 0, _, _, _ => none
  | f + 1, ts, es, k => match es[k]? with
    | none => some ts
    | some (lo, hi) => if hi - lo > 1 then triGo d f (ts ++ [[lo, lo + 1 + (d.getD (1 + (ts.length : Int)).toNat 0).fmod (hi - lo - 1), hi]]) (es ++ [(lo, lo + 1 + (d.getD (1 + (ts.length : Int)).toNat 0).fmod (hi - lo - 1)), (lo + 1 + (d.getD (1 + (ts.length : Int)).toNat 0).fmod (hi - lo - 1), hi)]) (k + 1)
      else triGo d f ts es (k + 1)
structure TrS where
  ts : List (List Int)
  es : List (Int × Int)
  tvs : List Value
  evs : List Value
  tl : List (Addr × Obj)
  ep1 : Nat
  ep2 : Nat
  k : Nat
  tk : Tok
  f : Nat
noncomputable def gapS (es : List (Int × Int)) (k : Nat) : Int := ((es.drop k).map fun e => e.2 - e.1 - 1).sum
structure TrP (z : Int) (d : List Int) (res : List (List Int)) (st : TrS) : Prop where
  go : triGo d st.f st.ts st.es st.k = some res
  gap : (st.ts.length : Int) + gapS st.es st.k = z - 2
  ok : ∀ e ∈ st.es, 0 ≤ e.1 ∧ e.1 < e.2 ∧ e.2 ≤ 6
  len : st.es.length = 2 * st.ts.length + 1
  kl : st.k ≤ st.es.length
structure TrF (news : List (Addr × Obj)) (De Dt : Addr) (st : TrS) : Prop where
  ev : All2 (PairIn st.tl) st.evs st.es
  tv : All2 (TupAt st.tl) st.tvs st.ts
  oe : Off De st.tl
  ot : Off Dt st.tl
theorem gap_nonneg {es : List (Int × Int)} (h : ∀ e ∈ es, 0 ≤ e.1 ∧ e.1 < e.2 ∧ e.2 ≤ 6) (k : Nat) : 0 ≤ gapS es k := by
  unfold gapS
  have : ∀ l : List (Int × Int), (∀ e ∈ l, 0 ≤ e.1 ∧ e.1 < e.2 ∧ e.2 ≤ 6) → 0 ≤ (l.map fun e => e.2 - e.1 - 1).sum := by
    intro l
    induction l with
    | nil => intro _; simp
    | cons e r ih =>
      intro hl
      have h1 := hl e (.head _)
      have h2 := ih fun x hx => hl x (.tail _ hx)
      rw [List.map_cons, List.sum_cons]
      omega
  exact this _ fun e he => h e (List.mem_of_mem_drop he)
theorem gap_at {es : List (Int × Int)} {k : Nat} {e : Int × Int} (h : es[k]? = some e) : gapS es k = (e.2 - e.1 - 1) + gapS es (k + 1) := by
  unfold gapS
  obtain ⟨hl, he⟩ := List.getElem?_eq_some_iff.mp h
  rw [List.drop_eq_getElem_cons hl, he, List.map_cons, List.sum_cons]
theorem gap_app {es r : List (Int × Int)} {k : Nat} (h : k ≤ es.length) : gapS (es ++ r) k = gapS es k + (r.map fun e => e.2 - e.1 - 1).sum := by
  unfold gapS
  rw [List.drop_append_of_le_length h, List.map_append, List.sum_append]
theorem TrP.at {z : Int} {d : List Int} {res : List (List Int)} {st : TrS} (h : TrP z d res st) (hk : st.k < st.es.length) (hz : z ≤ 7) : ∃ lo hi, st.es[st.k]? = some (lo, hi) ∧ 0 ≤ lo ∧ lo < hi ∧ hi ≤ 6 ∧ (1 < hi - lo → st.ts.length ≤ 4) := by
  obtain ⟨e, he⟩ : ∃ e, st.es[st.k]? = some e := ⟨_, List.getElem?_eq_getElem hk⟩
  obtain ⟨lo, hi⟩ := e
  have hb := h.ok _ (List.mem_of_getElem? he)
  refine ⟨lo, hi, he, hb.1, hb.2.1, hb.2.2, fun hg => ?_⟩
  have h1 := h.gap
  have h2 := gap_at he
  have h3 := gap_nonneg h.ok (st.k + 1)
  dsimp only at h2
  omega
theorem TrP.small {z : Int} {d : List Int} {res : List (List Int)} {st : TrS} (h : TrP z d res st) (hz : z ≤ 7) : st.ts.length ≤ 5 ∧ st.es.length ≤ 11 := by
  have h1 := h.gap
  have h3 := gap_nonneg h.ok st.k
  have h4 := h.len
  omega
theorem TrP.cut {z : Int} {d : List Int} {res : List (List Int)} {st : TrS} {lo hi : Int} {tvs evs : List Value} {tl : List (Addr × Obj)} {e1 e2 : Nat} {tk : Tok} (h : TrP z d res st) (he : st.es[st.k]? = some (lo, hi)) (hg : hi - lo > 1) : ∃ f, st.f = f + 1 ∧
    TrP z d res ⟨st.ts ++ [[lo, lo + 1 + (d.getD (1 + (st.ts.length : Int)).toNat 0).fmod (hi - lo - 1), hi]], st.es ++ [(lo, lo + 1 + (d.getD (1 + (st.ts.length : Int)).toNat 0).fmod (hi - lo - 1)), (lo + 1 + (d.getD (1 + (st.ts.length : Int)).toNat 0).fmod (hi - lo - 1), hi)], tvs, evs, tl, e1, e2, st.k + 1, tk, f⟩ := by
  obtain ⟨go, gap, ok, len, kl⟩ := h
  have hk := (List.getElem?_eq_some_iff.mp he).1
  have hb := ok _ (List.mem_of_getElem? he)
  dsimp only at hb
  cases hf : st.f with
  | zero => rw [hf] at go; simp [triGo] at go
  | succ f =>
    refine ⟨f, rfl, ?_⟩
    rw [hf, triGo, he] at go
    dsimp only at go
    rw [if_pos hg] at go
    have m1 := Int.fmod_nonneg_of_pos (d.getD (1 + (st.ts.length : Int)).toNat 0) (show 0 < hi - lo - 1 by omega)
    have m2 := Int.fmod_lt_of_pos (d.getD (1 + (st.ts.length : Int)).toNat 0) (show 0 < hi - lo - 1 by omega)
    refine ⟨go, ?_, ?_, ?_, ?_⟩
    · dsimp only
      rw [gap_app (by omega)]
      have := gap_at he
      simp only [List.length_append, List.length_cons, List.length_nil, List.map_cons, List.map_nil, List.sum_cons, List.sum_nil]
      dsimp only at this
      push_cast
      omega
    · intro e hm
      rcases List.mem_append.mp hm with hm | hm
      · exact ok e hm
      · simp only [List.mem_cons, List.not_mem_nil, or_false] at hm
        rcases hm with rfl | rfl
        · dsimp only; omega
        · dsimp only; omega
    · simp only [List.length_append, List.length_cons, List.length_nil]
      omega
    · simp only [List.length_append, List.length_cons, List.length_nil]
      omega
theorem TrP.skip {z : Int} {d : List Int} {res : List (List Int)} {st : TrS} {lo hi : Int} {tvs evs : List Value} {tl : List (Addr × Obj)} {e1 e2 : Nat} {tk : Tok} (h : TrP z d res st) (he : st.es[st.k]? = some (lo, hi)) (hg : ¬ hi - lo > 1) : ∃ f, st.f = f + 1 ∧ TrP z d res ⟨st.ts, st.es, tvs, evs, tl, e1, e2, st.k + 1, tk, f⟩ := by
  obtain ⟨go, gap, ok, len, kl⟩ := h
  have hk := (List.getElem?_eq_some_iff.mp he).1
  have hb := ok _ (List.mem_of_getElem? he)
  dsimp only at hb
  cases hf : st.f with
  | zero => rw [hf] at go; simp [triGo] at go
  | succ f =>
    refine ⟨f, rfl, ?_⟩
    rw [hf, triGo, he] at go
    dsimp only at go
    rw [if_neg hg] at go
    refine ⟨go, ?_, ok, len, hk⟩
    have := gap_at he
    dsimp only at this ⊢
    omega
theorem TrP.done {z : Int} {d : List Int} {res : List (List Int)} {st : TrS} (h : TrP z d res st) (hk : ¬ st.k < st.es.length) : st.ts = res := by
  have go := h.go
  cases hf : st.f with
  | zero => rw [hf] at go; simp [triGo] at go
  | succ f =>
    rw [hf, triGo, List.getElem?_eq_none (by omega)] at go
    simpa using go
end Mine
end
section
open PySem PySem.W PyProof.Rows
namespace Mine
theorem tri_led {h₀ h : Heap} {L : Addr} {a b c d : Addr × Obj} {news : List (Addr × Obj)} (N : News h₀ L h (a :: b :: c :: d :: news)) : News h₀ L h (a :: c :: d :: (news ++ [b])) :=
  news_sub N (sub_at 0 rfl (sub_at 2 rfl (sub_at 3 rfl (sub_app (sub_end 4 (fun _ h => h)) (sub_at 1 rfl sub_nil)))))
theorem tri_led2 {h₀ h : Heap} {L : Addr} {a b c d e : Addr × Obj} {r : List (Addr × Obj)} (N : News h₀ L h (a :: b :: c :: d :: e :: r)) : News h₀ L h ([c] ++ d :: a :: e :: r) :=
  news_sub N (sub_at 2 rfl (sub_at 3 rfl (sub_at 0 rfl (sub_end 4 (fun _ h => h)))))
theorem tri_sub {b t2 t1 de dt d l : Addr × Obj} {news tl : List (Addr × Obj)} : ∀ q ∈ de :: dt :: l :: (news ++ (tl ++ [d, t1, t2])), q ∈ b :: t2 :: t1 :: de :: dt :: d :: l :: (news ++ tl) :=
  (sub_at 3 rfl (sub_at 4 rfl (sub_at 6 rfl (sub_app (sub_end 7 sub_l) (sub_app (sub_end 7 sub_r) (sub_at 5 rfl (sub_at 2 rfl (sub_at 1 rfl sub_nil))))))))
structure TrO (De Dt l : Addr) (news : List (Addr × Obj)) : Prop where
  et : @Ne Nat De Dt
  el : @Ne Nat De l
  tl : @Ne Nat Dt l
  en : Off De news
  tn : Off Dt news
section
variable {prog : Program} {w : World} {A : Around} {E : Value → Shared → Prop} {s : Shared}
theorem lenL {l : Addr} {vs : List Value} {n : Nat} {Q : Value → Shared → Prop} (hl : s.heap.IsList l vs.toArray) (hn : vs.length = n) (hz : n ≤ 10000) (h : Q (.int (n : Int) (s.toks + 1)) { s with toks := s.toks + 1 + 1 }) :
    wpAny (model prog w) A (call (.builtin "len") [.ref l]) Q E s := by
  subst hn
  exact kun_lenL hl (by rw [List.size_toArray]) (by omega) h
end
local macro_rules | `(tactic| walk_at "call builtin:len") => `(tactic| (k_here; (with_reducible show wpAny _ _ (call (Value.builtin "len") [Value.ref _]) _ _ _); k_dflt (refine' lenL ?k1 ?k2 ?k3 ?_; (case k1 => exact News.isList (by k_asm) (by k_mem)); (case k2 => assumption); (case k3 => omega); k_whole)))
theorem tri_names {D1 De Dt : Addr} (_h : D1 < De) (_k : Dt < De) {P : Prop} (k : ∀ De' Dt' D1' : Addr, De' = De → Dt' = Dt → D1' = D1 → P) : P := k De Dt D1 rfl rfl rfl
theorem c_tri (w : World) (l : Addr) (z : Int) (tz : Tok) (dvs : List Value) (d : List Int) (hI : IntsAre dvs d) (hdl : d.length = 8) (n f : Nat) (res : List (List Int)) (news : List (Addr × Obj)) (hz : 4 ≤ z ∧ z ≤ 7) (hgo : triGo d f [] [(0, z - 1)] 0 = some res) :
    CallsN w 4 317 [.int z tz, .ref l] ((l, W.listOf dvs.toArray n) :: news) (fun r news' => ∃ D tvs ep tl, r = .ref D ∧ All2 (TupAt tl) tvs res ∧ news' = (D, W.listOf tvs.toArray ep) :: (l, W.listOf dvs.toArray n) :: (news ++ tl)) := by
  unfold CallsN
  intro p loose mean mg mb dp un gd cn cs a ccd cl outer A₀ base h₀ L m s Q E B F X N T hk hd hu hret
  refine wpAny_call ?_
  k_dflt cell_enter
  (repeat (fail_if_success (with_reducible show wpAny _ _ (exec (Stmt.While _ _ _ _) _) _ _ _)); first | (k_unfold; (try dsimp only)) | walk1 | (dsimp only; walk1))
  (with_reducible rename Fr _ _ _ _ => lF)
  (with_reducible rename News _ _ _ _ => lN)
  (with_reducible rename _ < _ ∧ _ < _ ∧ _ < _ ∧ AllLt _ _ => o3)
  (with_reducible rename _ < _ ∧ AllLt _ _ => o1)
  refine an4 o3 ?_; clear o3; rintro p1 p2 p3 p4
  obtain ⟨p5, p6⟩ := o1
  have lN2 := tri_led lN
  have hne1 := news_ne lN (.tail _ (.head _)) (.tail _ (.tail _ (.head _))) (fun e => by have := congrArg Obj.cls e; simp at this)
  clear lN
  refine tri_names p1 p2 ?_
  rintro De Dt D1 rfl rfl rfl
  have hO : TrO De Dt l news := ⟨Nat.ne_of_gt p2, Nat.ne_of_gt p3, Nat.ne_of_gt p5, off_of_lt p4, off_of_lt p6⟩
  clear p2 p3 p4 p5 p6
  refine ksw_while (σ := TrS) (fun st => (De, W.listOf st.evs.toArray st.ep1) :: (Dt, W.listOf st.tvs.toArray st.ep2) :: (l, W.listOf dvs.toArray n) :: (news ++ st.tl)) (fun st => [(Str.ofString "k", .int (st.k : Int) st.tk)]) (fun st => TrF news De Dt st) [Str.ofString "low", Str.ofString "high", Str.ofString "apex"] (fun st => TrP z d res st) (fun st => st.f) ⟨[], [(0, z - 1)], [], [.ref D1], [(D1, _)], 0, 0, 0, _, f⟩
    lF lN2 ⟨.cons ⟨_, _, _, rfl, .head _⟩ .nil, .nil, Off.cons (Nat.ne_of_lt p1) off_nil, Off.cons hne1 off_nil⟩ (List.forall_mem_cons.mpr ⟨rfl, List.forall_mem_nil _⟩) ⟨hgo, by show ((0 : Nat) : Int) + gapS [(0, z - 1)] 0 = z - 2; unfold gapS; simp; omega, List.forall_mem_cons.mpr ⟨by dsimp only; omega, List.forall_mem_nil _⟩, rfl, Nat.zero_le _⟩ ?turn (by exact PySem.PassesOwn.leaving)
  case turn =>
    clear lF lN2 p1 hne1
    rintro ⟨ts, es, tvs, evs, tl, ep1, ep2, k, tk5, f'⟩ u h9 tk9 hF hP F9 N9
    obtain ⟨hev, htv, hoe, hot⟩ := hF
    have hsm := hP.small hz.2
    have hevl := hev.length
    have htvl := htv.length
    dsimp only at hev htv hoe hot hsm hevl htvl F9 N9 ⊢
    have hevl2 : evs.length ≤ 11 := by omega
    have htvl2 : tvs.length ≤ 5 := by omega
    by_cases hk : k < es.length
    · obtain ⟨lo, hi, he, hlo, hlh, hhi, hts⟩ := hP.at hk hz.2
      dsimp only at he
      obtain ⟨v9, hv9, a9, t91, t92, rfl, hm9⟩ := get_all2 hev he
      have N8 := News.dup N9 (.tail _ (.tail _ (.tail _ (List.mem_append_right _ hm9))))
      clear N9
      (try dsimp only at N8)
      (try k_fold)
      have hts5 : 1 < hi - lo → (1 + (ts.length : Int)) < 6 := fun h => by have := hts h; dsimp only at this; omega
      (repeat (fail_if_success (with_reducible show wpAny _ _ (subscriptTail _ _ _ _) _ _ _)); first | (k_unfold; (try dsimp only)) | walk1 | (dsimp only; walk1))
      (with_reducible rename News _ _ _ _ => lN)
      k_dflt (refine item_listL (News.isList lN (.tail _ (.head _))) (by omega) (by omega) (x := .ref a9) hv9 ?_)
      (repeat (fail_if_success (with_reducible show wpAny _ _ (subscriptTail _ _ _ _) _ _ _)); first | (k_unfold; (try dsimp only)) | walk1 | (dsimp only; walk1))
      · have hg9 : 1 < hi - lo := by omega
        have hb9 := hts5 hg9
        (with_reducible rename News _ _ _ _ => lN)
        k_dflt (refine item_list_ints (News.isList lN (.tail _ (.tail _ (.tail _ (.head _))))) hI (by omega) (by rw [hdl]; omega) (by omega) ?_)
        intro t7
        (try dsimp only)
        (try k_fold)
        clear hts5 hts
        (repeat (fail_if_success (with_reducible show wpAny _ _ (call (Value.builtin "list.append") _) _ _ _)); first | (k_unfold; (try dsimp only)) | walk1 | (dsimp only; walk1))
        (with_reducible rename Fr _ _ _ _ => lF)
        (with_reducible rename News _ _ _ _ => lN)
        have nTup := news_ne lN (.head _) (.tail _ (.tail _ (.tail _ (.head _)))) (fun e => by have := congrArg Obj.cls e; simp at this)
        have nTup2 := news_ne lN (.head _) (.tail _ (.tail _ (.head _))) (fun e => by have := congrArg Obj.cls e; simp at this)
        have lN2 := tri_led2 lN
        clear lN
        k_dflt (refine li_push [(De, W.listOf evs.toArray ep1)] lF lN2 (Off.cons hO.et off_nil) (Off.cons nTup (Off.cons (Ne.symm hO.tl) (hO.tn.app hot))) (by omega) ?_)
        clear lF lN2
        intro h8 F8 N8
        dsimp only [List.cons_append, List.nil_append] at N8
        (try dsimp only)
        (try k_fold)
        (repeat (fail_if_success (with_reducible show wpAny _ _ (call (Value.builtin "list.extend") _) _ _ _)); first | (k_unfold; (try dsimp only)) | walk1 | (dsimp only; walk1))
        (with_reducible rename Fr _ _ _ _ => lF)
        (with_reducible rename News _ _ _ _ => lN)
        have oN := Off.app hO.en hoe
        have oM := Off.app hO.tn hot
        have htu := hP.small hz.2
        k_dflt (refine li_ext (ys2 := [.ref _, .ref _]) [_, _, _] lF lN (.head _) (Off.cons (by show @Ne Nat _ _; dsimp only; omega) (Off.cons (by show @Ne Nat _ _; dsimp only; omega) (Off.cons (by show @Ne Nat _ _; dsimp only; omega) off_nil))) (Off.cons (Ne.symm hO.et) (Off.cons nTup2 (Off.cons (Ne.symm hO.el) oN))) (by simp only [List.length_cons, List.length_nil]; omega) (by simp) ?_)
        clear lF lN
        intro h7 F7 N7
        dsimp only [List.cons_append, List.nil_append] at N7
        (try dsimp only)
        (try k_fold)
        clear htu
        repeat' (first | (k_unfold; (try dsimp only)) | (k_end; wrow_close) | ((fail_if_success (with_reducible refine KswEnd_stop ?_)); walk1) | ((fail_if_success (with_reducible refine KswEnd_stop ?_)); dsimp only; walk1) | (leave1; walk_say "STEP leave1"; (try dsimp only)) | fail "no step")
        (with_reducible rename News _ _ _ _ => nE)
        (with_reducible rename Fr _ _ _ _ => nF)
        obtain ⟨f'', rfl, hP2⟩ := hP.cut he (by omega)
        refine ksw_end ⟨ts ++ [_], es ++ [(lo, _), (_, hi)], tvs ++ [.ref _], evs ++ [.ref _, .ref _], tl ++ [_, _, _], ep1 + 1, ep2 + 1, k + 1, _, f''⟩ nF nE (tri_sub) ⟨?e1, ?e2, ?e3, ?e4⟩ (List.forall_mem_cons.mpr ⟨by with_unfolding_all rfl, List.forall_mem_nil _⟩) (by intro z h2 h3; simp only [List.forall_mem_cons, List.not_mem_nil, false_implies, implies_true, and_true, ne_eq] at h2; simp only [List.contains_cons, List.contains_nil, Bool.or_false, Bool.or_eq_false_iff, beq_eq_false_iff_ne, ne_eq] at h3; simp [h2, h3, kstB]) hP2 (by show f'' < f'' + 1; omega)
        case e1 => exact all2_app (hev.imp fun a b h => h.mono fun q hq => List.mem_append_left _ hq) (.cons ⟨_, _, _, rfl, List.mem_append_right _ (.tail _ (.head _))⟩ (.cons ⟨_, _, _, rfl, List.mem_append_right _ (.tail _ (.tail _ (.head _)))⟩ .nil))
        case e2 => exact all2_app (htv.imp fun a b h => h.mono fun q hq => List.mem_append_left _ hq) (.cons ⟨⟨_, _, rfl, .cons _ _ (.cons _ _ (.cons _ _ .nil)), List.mem_append_right _ (.head _)⟩⟩ .nil)
        case e3 => exact hoe.app (Off.cons nTup2 (Off.cons (by show @Ne Nat _ _; dsimp only; omega) (Off.cons (by show @Ne Nat _ _; dsimp only; omega) off_nil)))
        case e4 => exact hot.app (Off.cons nTup (Off.cons (by show @Ne Nat _ _; dsimp only; omega) (Off.cons (by show @Ne Nat _ _; dsimp only; omega) off_nil)))
      · clear hts5 hts
        repeat' (first | (k_unfold; (try dsimp only)) | (k_end; wrow_close) | ((fail_if_success (with_reducible refine KswEnd_stop ?_)); walk1) | ((fail_if_success (with_reducible refine KswEnd_stop ?_)); dsimp only; walk1) | (leave1; walk_say "STEP leave1"; (try dsimp only)) | fail "no step")
        (with_reducible rename News _ _ _ _ => nE)
        (with_reducible rename Fr _ _ _ _ => nF)
        obtain ⟨f'', rfl, hP2⟩ := hP.skip he (by omega)
        exact ksw_end ⟨ts, es, tvs, evs, tl, ep1, ep2, k + 1, _, f''⟩ nF nE (fun _ hp => .tail _ hp) ⟨hev, htv, hoe, hot⟩ (List.forall_mem_cons.mpr ⟨by with_unfolding_all rfl, List.forall_mem_nil _⟩) (by intro z h2 h3; simp only [List.forall_mem_cons, List.not_mem_nil, false_implies, implies_true, and_true, ne_eq] at h2; simp only [List.contains_cons, List.contains_nil, Bool.or_false, Bool.or_eq_false_iff, beq_eq_false_iff_ne, ne_eq] at h3; simp [h2, h3, kstB]) hP2 (by show f'' < f'' + 1; omega)
    · (repeat (fail_if_success (with_reducible show wpAny _ _ (subscriptTail _ _ _ _) _ _ _)); first | (k_unfold; (try dsimp only)) | walk1 | (dsimp only; walk1))
      have hd9 := hP.done hk
      dsimp only at hd9
      subst hd9
      (with_reducible rename News h₀ L _ _ => nE)
      exact hret.out _ _ _ _ (by k_asm) (fun q hq => nE q (.tail _ hq)) ⟨Dt, tvs, _, tl, rfl, htv, rfl⟩
end Mine
end
section
open PySem PySem.W PyProof.Rows
namespace Mine
noncomputable abbrev Ent := Int × Str × Str
noncomputable def nameS (c sd : Int) : Str := ⟨#[(97 + c - 32 * sd.fmod 2).toNat]⟩
noncomputable def fStep (cs : List Int) (k : Nat) (st : Int × List Ent) : Int × List Ent :=
  ((st.1 * 29 + 3).fmod 1000003, st.2 ++ [(cs.getD k 0, nameS (cs.getD k 0) ((st.1 * 29 + 3).fmod 1000003), hdrS (cs.drop k ++ cs.take k) ((st.1 * 29 + 3).fmod 1000003))])
noncomputable def fRow (cs : List Int) : Nat → Int × List Ent → Int × List Ent
  | 0, st => st
  | k + 1, st => fStep cs k (fRow cs k st)
noncomputable def fAll (css : List (List Int)) (sd : Int) : Nat → Int × List Ent
  | 0 => (sd, [])
  | i + 1 => fRow (css.getD i []) 3 (fAll css sd i)
noncomputable def textsOf (es : List Ent) (c : Int) : List Str := (es.filter fun e => e.1 == c).map fun e => e.2.2
structure DueAt (led : List (Addr × Obj)) (kvs : List (Int × Value)) (es : List Ent) (c : Int) : Prop where
  at_ : (valueAt kvs c = none ∧ textsOf es c = []) ∨ ∃ D ys ep, valueAt kvs c = some (.ref D) ∧ StrsAre ys (textsOf es c) ∧ (D, W.listOf ys.toArray ep) ∈ led
structure DueOk (led : List (Addr × Obj)) (kvs : List (Int × Value)) (es : List Ent) : Prop where
  all : ∀ c, DueAt led kvs es c
theorem DueAt.mono {led led' : List (Addr × Obj)} {kvs : List (Int × Value)} {es : List Ent} {c : Int} (h : DueAt led kvs es c) (k : ∀ q ∈ led, q ∈ led') : DueAt led' kvs es c := by
  rcases h with ⟨h | ⟨D, ys, ep, h1, h2, h3⟩⟩
  · exact ⟨.inl h⟩
  · exact ⟨.inr ⟨D, ys, ep, h1, h2, k _ h3⟩⟩
theorem valueAt_set (kvs : List (Int × Value)) (k k' : Int) (v : Value) : valueAt (stored kvs k v) k' = if k' = k then some v else valueAt kvs k' := by
  unfold stored
  split
  · rename_i ha
    unfold valueAt
    induction kvs with
    | nil => simp at ha
    | cons p r ih =>
      rw [List.map_cons, List.find?_cons, List.find?_cons]
      by_cases e : p.1 = k
      · rw [if_pos e]
        dsimp only
        by_cases e2 : k' = k
        · subst e2; simp [e]
        · have e3 : ¬ p.1 = k' := fun e' => e2 (e'.symm.trans e)
          rw [if_neg e2]
          simp only [decide_eq_false e3]
          by_cases ha2 : (r.any fun kv => decide (kv.1 = k)) = true
          · rw [ih ha2, if_neg e2]
          · have : r.map (fun kv => if kv.1 = k then (kv.1, v) else kv) = r := by
              conv => rhs; rw [← List.map_id r]
              refine List.map_congr_left fun q hq => ?_
              rw [if_neg]; rfl
              intro e4
              exact ha2 (List.any_eq_true.mpr ⟨q, hq, by simpa using e4⟩)
            rw [this]
      · rw [if_neg e]
        have ha2 : (r.any fun kv => decide (kv.1 = k)) = true := by
          rw [List.any_cons, decide_eq_false e, Bool.false_or] at ha
          exact ha
        by_cases e2 : p.1 = k'
        · have e3 : ¬ k' = k := fun e' => e (e2.trans e')
          rw [if_neg e3]
          simp only [decide_eq_true e2]
        · simp only [decide_eq_false e2]
          exact ih ha2
  · rename_i ha
    unfold valueAt
    rw [List.find?_append]
    by_cases e2 : k' = k
    · subst e2
      have : (kvs.find? fun kv => decide (kv.1 = k')) = none := by
        rw [List.find?_eq_none]
        intro q hq hc
        exact ha (List.any_eq_true.mpr ⟨q, hq, hc⟩)
      rw [this, if_pos rfl]
      simp
    · rw [if_neg e2]
      cases kvs.find? fun kv => decide (kv.1 = k') with
      | some q => rfl
      | none =>
        have : ¬ k = k' := fun e => e2 e.symm
        simp [this]
theorem stored_len (kvs : List (Int × Value)) (k : Int) (v : Value) : (stored kvs k v).length ≤ kvs.length + 1 := by
  unfold stored
  split
  · rw [List.length_map]; omega
  · rw [List.length_append]; exact Nat.le_refl _
theorem texts_app (es : List Ent) (e : Ent) (c : Int) : textsOf (es ++ [e]) c = if e.1 = c then textsOf es c ++ [e.2.2] else textsOf es c := by
  unfold textsOf
  rw [List.filter_append, List.map_append]
  by_cases h : e.1 = c
  · rw [if_pos h]; simp [h]
  · rw [if_neg h]
    have : (e.1 == c) = false := by simpa using h
    simp [this]
theorem DueOk.step {led led' : List (Addr × Obj)} {kvs : List (Int × Value)} {es : List Ent} {c : Int} {nm tx : Str} {D : Addr} {ys : List Value} {ep : Nat} (h : DueOk led kvs es) (hs : ∀ q ∈ led, q ∈ led') (hy : StrsAre ys (textsOf es c ++ [tx])) (hm : (D, W.listOf ys.toArray ep) ∈ led') : DueOk led' (stored kvs c (.ref D)) (es ++ [(c, nm, tx)]) := ⟨fun c' => by
  rw [show (DueAt led' (stored kvs c (.ref D)) (es ++ [(c, nm, tx)]) c') = DueAt led' (stored kvs c (.ref D)) (es ++ [(c, nm, tx)]) c' from rfl]
  by_cases e : c' = c
  · subst e
    exact ⟨.inr ⟨D, ys, ep, by rw [valueAt_set, if_pos rfl], by rw [texts_app, if_pos rfl]; exact hy, hm⟩⟩
  · rcases h.all c' with ⟨⟨h1, h2⟩ | ⟨D', ys', ep', h1, h2, h3⟩⟩
    · exact ⟨.inl ⟨by rw [valueAt_set, if_neg e]; exact h1, by rw [texts_app, if_neg (fun x => e x.symm)]; exact h2⟩⟩
    · exact ⟨.inr ⟨D', ys', ep', by rw [valueAt_set, if_neg e]; exact h1, by rw [texts_app, if_neg (fun x => e x.symm)]; exact h2, hs _ h3⟩⟩⟩
structure FlS where
  sd : Int
  tk : Tok
  kvs : List (Int × Value)
  od : Obj
  hvs : List Value
  hep : Nat
  tl : List (Addr × Obj)
  es : List Ent
structure FlF (prog : Program) (w : World) (x d l Dd : Addr) (st : FlS) : Prop where
  dict : st.od.IsDictOf (PySem.intKind prog w) st.kvs
  hdr : All2 (HdrAt st.tl) st.hvs (st.es.map fun e => e.2)
  due : DueOk st.tl st.kvs st.es
  ol : Off l st.tl
  oD : Off Dd st.tl
structure FlP (css : List (List Int)) (sd0 : Int) (i k : Nat) (st : FlS) : Prop where
  eq : (st.sd, st.es) = fRow (css.getD i []) k (fAll css sd0 i)
  sd : 0 ≤ st.sd ∧ st.sd < 1000003
  kl : st.kvs.length ≤ st.es.length
  hl : st.hvs.length = st.es.length
  el : st.es.length = 3 * i + k
structure TriOk (cs : List Int) : Prop where
  form : ∃ a b c, cs = [a, b, c] ∧ (0 ≤ a ∧ a ≤ 6) ∧ (0 ≤ b ∧ b ≤ 6) ∧ (0 ≤ c ∧ c ≤ 6)
theorem ok_name : ∀ (c : Fin 7) (b : Fin 2), (nameS (c.1 : Int) (b.1 : Int)).cps.toList.all (fun x => decide (32 ≤ x ∧ x ≠ 127)) = true ∧ (Txt.lower (nameS (c.1 : Int) (b.1 : Int))) = ⟨#[(97 + (c.1 : Int)).toNat]⟩ := by decide +kernel
theorem name_fmod (c sd : Int) : nameS c sd = nameS c (sd.fmod 2) := by
  unfold nameS
  have h : (sd.fmod 2).fmod 2 = sd.fmod 2 := Int.fmod_eq_of_lt (Int.fmod_nonneg_of_pos _ (by decide)) (Int.fmod_lt_of_pos _ (by decide))
  rw [h]
theorem name_at {c : Int} (sd : Int) (h : 0 ≤ c ∧ c ≤ 6) : OkN (nameS c sd) ∧ Txt.lower (nameS c sd) = ⟨#[(97 + c).toNat]⟩ := by
  rw [name_fmod]
  have hm : 0 ≤ sd.fmod 2 ∧ sd.fmod 2 < 2 := ⟨Int.fmod_nonneg_of_pos _ (by decide), Int.fmod_lt_of_pos _ (by decide)⟩
  generalize sd.fmod 2 = r at hm
  obtain ⟨f, rfl⟩ : ∃ f : Fin 7, c = (f.1 : Int) := ⟨⟨c.toNat, by omega⟩, by show c = (c.toNat : Int); omega⟩
  obtain ⟨g, rfl⟩ : ∃ f : Fin 2, r = (f.1 : Int) := ⟨⟨r.toNat, by omega⟩, by show r = (r.toNat : Int); omega⟩
  have := ok_name f g
  refine ⟨⟨fun x hx => ?_, by show 1 < 1000; decide⟩, this.2⟩
  have h2 := List.all_eq_true.mp this.1 x (by simpa using hx)
  exact (of_decide_eq_true h2 : 32 ≤ x ∧ x ≠ 127)
theorem okV_app {a b : Str} (ha : ∀ c ∈ a.cps, okV c) (hb : ∀ c ∈ b.cps, okV c) : ∀ c ∈ (a ++ b : Str).cps, okV c := fun c hc => by
  rw [show (a ++ b : Str).cps = a.cps ++ b.cps from rfl, Array.mem_append] at hc
  exact hc.elim (ha c) (hb c)
theorem okV_sp : ∀ k : Fin 8, ∀ c ∈ (Txt.mul (Str.ofString " ") (k.1 : Int)).cps, c = 32 := by decide +kernel
theorem okV_spc {k : Int} (h : 0 ≤ k ∧ k ≤ 7) : ∀ c ∈ (Txt.mul (Str.ofString " ") k).cps, okV c := fun c hc => by
  have := okV_sp ⟨k.toNat, by omega⟩
  rw [show ((⟨k.toNat, by omega⟩ : Fin 8).1 : Int) = k from by show (k.toNat : Int) = k; omega] at this
  rw [this c hc]; exact .inr ⟨by decide, by decide⟩
theorem okV_tab : ∀ c ∈ (Str.ofString "\t").cps, c = 9 := by decide +kernel
theorem okV_spt : ∀ c ∈ (Str.ofString " \t").cps, c = 32 ∨ c = 9 := by decide +kernel
theorem okV_pile {t : Str} {c k : Int} (ht : ∀ x ∈ t.cps, okV x) (h : 0 ≤ c ∧ c ≤ 7) : ∀ x ∈ (pileS t c k).cps, okV x := by
  have hc := cut_fact k c h.1
  unfold pileS
  refine okV_app (okV_app (okV_app (okV_app ht (okV_spc (by omega))) ?_) (okV_spc (by omega))) fun x hx => .inl (okV_tab x hx)
  intro x hx
  have e : x = unseenC k := by simpa using hx
  rw [e]; exact .inr (uns_facts _ (uns_at k)).1
theorem okV_type {cs : List Int} (h : ∀ c ∈ cs, 0 ≤ c ∧ c ≤ 7) : ∀ (k : Int) (t : Str), (∀ x ∈ t.cps, okV x) → ∀ x ∈ (typeGo cs k t).cps, okV x := by
  induction cs with
  | nil => intro k t ht; exact ht
  | cons c r ih => intro k t ht; exact ih (fun x hx => h x (.tail _ hx)) _ _ (okV_pile ht (h c (.head _)))
theorem okV_hdr {cs : List Int} {k : Int} (h : ∀ c ∈ cs, 0 ≤ c ∧ c ≤ 7) (hl : cs.length ≤ 20) : OkV (hdrS cs k) := by
  refine ⟨?_, hdr_len h hl⟩
  unfold hdrS
  refine okV_app (okV_app (okV_type h _ _ fun x hx => ?_) ?_) fun x hx => ?_
  · rw [show (Str.ofString "").cps = #[] from by decide +kernel] at hx; simp at hx
  · intro x hx
    have e : x = besideC (k.fdiv 3) := by simpa using hx
    rw [e]; exact .inr (bes_facts _ (bes_at _)).1
  · rcases okV_spt x hx with rfl | rfl
    · exact .inr ⟨by decide, by decide⟩
    · exact .inl rfl
end Mine
end
section
open PySem PySem.W PyProof.Rows
namespace Mine
theorem FlP.next {css : List (List Int)} {sd0 : Int} {i : Nat} {st : FlS} {cs : List Int} (h : FlP css sd0 i 3 st) (_hc : css[i]? = some cs) : FlP css sd0 (i + 1) 0 st :=
  ⟨h.eq, h.sd, h.kl, h.hl, by have := h.el; omega⟩
theorem file_sub {a b c d e i : Addr × Obj} {r : List (Addr × Obj)} : ∀ q ∈ [i] ++ (a :: b :: c :: d :: e :: r), q ∈ a :: b :: c :: d :: e :: i :: r :=
  (sub_at 5 rfl (sub_at 0 rfl (sub_at 1 rfl (sub_at 2 rfl (sub_at 3 rfl (sub_at 4 rfl (sub_end 6 (fun _ h => h))))))))
theorem tri_cb {a b c : Int} (h1 : 0 ≤ a ∧ a ≤ 6) (h2 : 0 ≤ b ∧ b ≤ 6) (h3 : 0 ≤ c ∧ c ≤ 6) : ∀ x ∈ [a, b, c], 0 ≤ x ∧ x ≤ 7 := by
  intro x hx
  simp only [List.mem_cons, List.not_mem_nil, or_false] at hx
  omega
theorem file_led3 {h₀ h : Heap} {L : Addr} {t : List (Addr × Obj)} {i x d l Dd lt I9 : Addr × Obj} {r : List (Addr × Obj)} (N : News h₀ L h (t ++ (i :: x :: d :: l :: Dd :: lt :: I9 :: r))) : News h₀ L h ([x, d, l] ++ (i :: Dd :: lt :: I9 :: r)) :=
  news_sub N (sub_tr (B := i :: x :: d :: l :: Dd :: lt :: I9 :: r) (sub_at 1 rfl (sub_at 2 rfl (sub_at 3 rfl (sub_at 0 rfl (sub_end 4 (fun _ h => h)))))) sub_r)
theorem due_get {tl : List (Addr × Obj)} {kvs : List (Int × Value)} {es : List Ent} {c : Int} (h : DueAt tl kvs es c) (Dn : Addr) : ∃ D0 ys0 ep1, (valueAt kvs c).getD (.ref Dn) = .ref D0 ∧ StrsAre ys0 (textsOf es c) ∧ ((D0, W.listOf ys0.toArray ep1) ∈ tl ∨ (D0, W.listOf ys0.toArray ep1) = (Dn, W.listOf #[] 0)) := by
  rcases h.at_ with ⟨h1, h2⟩ | ⟨D, ys, ep, h1, h2, h3⟩
  · exact ⟨Dn, [], 0, by rw [h1]; rfl, by rw [h2]; exact .nil, .inr rfl⟩
  · exact ⟨D, ys, ep, by rw [h1]; rfl, h2, .inl h3⟩
theorem file_m0 {p : List (Addr × Obj)} {q n : Addr × Obj} {news tl : List (Addr × Obj)} (h : q ∈ tl ∨ q = n) : q ∈ n :: (p ++ (news ++ tl)) := by
  rcases h with h | rfl
  · exact .tail _ (List.mem_append_right _ (List.mem_append_right _ h))
  · exact .head _
theorem texts_len (es : List Ent) (c : Int) : (textsOf es c).length ≤ es.length := by
  unfold textsOf
  rw [List.length_map]
  exact List.length_filter_le _ _
theorem file_led4 {h₀ h : Heap} {L : Addr} {D t1 t2 t3 T9 x d l ah I8 Dd lt I9 : Addr × Obj} {news tl : List (Addr × Obj)} (N : News h₀ L h (D :: t1 :: t2 :: t3 :: T9 :: x :: d :: l :: ah :: I8 :: Dd :: lt :: I9 :: (news ++ tl))) : News h₀ L h ([T9, I8, x, d, l] ++ Dd :: lt :: I9 :: (news ++ (tl ++ [ah, D]))) :=
  news_sub N (sub_at 4 rfl (sub_at 9 rfl (sub_at 5 rfl (sub_at 6 rfl (sub_at 7 rfl (sub_at 10 rfl (sub_at 11 rfl (sub_at 12 rfl (sub_app (sub_end 13 sub_l) (sub_app (sub_end 13 sub_r) (sub_at 8 rfl (sub_at 0 rfl sub_nil))))))))))))
structure Bnd5 (i : Nat) : Prop where
  lt : i < 5
theorem file_tok {h₀ h : Heap} {L D : Addr} {ys : List Value} {X : Str} {tx : Tok} {r : List (Addr × Obj)} (N : News h₀ L h ((D, W.listOf (ys ++ [Value.str X tx]).toArray 0) :: r)) : ∃ tx, News h₀ L h ((D, W.listOf (ys ++ [Value.str X tx]).toArray 0) :: r) := ⟨tx, N⟩
theorem off_file1 {I l Dd : Addr} {x d lt I9 a D : Addr × Obj} {o o' od od' : Obj} {news tl : List (Addr × Obj)} (h : Off I (x :: d :: (l, o) :: (Dd, od) :: lt :: I9 :: (news ++ tl))) (ha : a.1 ≠ I) (hD : D.1 ≠ I) : Off I (x :: d :: (l, o') :: (Dd, od') :: lt :: I9 :: (news ++ (tl ++ [a, D]))) := by
  refine Off.cons (h _ (.head _)) (Off.cons (h _ (.tail _ (.head _))) (Off.cons (h (l, o) (.tail _ (.tail _ (.head _)))) (Off.cons (h (Dd, od) (.tail _ (.tail _ (.tail _ (.head _))))) (Off.cons (h _ (.tail _ (.tail _ (.tail _ (.tail _ (.head _)))))) (Off.cons (h _ (.tail _ (.tail _ (.tail _ (.tail _ (.tail _ (.head _))))))) ?_)))))
  have h2 : Off I (news ++ tl) := h.tail.tail.tail.tail.tail.tail
  rw [← List.append_assoc]
  exact h2.app (Off.cons ha (Off.cons hD off_nil))
theorem off_file2 {I l Dd : Addr} {x d lt a D : Addr × Obj} {o o' od od' : Obj} {news tl : List (Addr × Obj)} (h : Off I (x :: d :: (l, o) :: (Dd, od) :: lt :: (news ++ tl))) (ha : a.1 ≠ I) (hD : D.1 ≠ I) : Off I (x :: d :: (l, o') :: (Dd, od') :: lt :: (news ++ (tl ++ [a, D]))) := by
  refine Off.cons (h _ (.head _)) (Off.cons (h _ (.tail _ (.head _))) (Off.cons (h (l, o) (.tail _ (.tail _ (.head _)))) (Off.cons (h (Dd, od) (.tail _ (.tail _ (.tail _ (.head _))))) (Off.cons (h _ (.tail _ (.tail _ (.tail _ (.tail _ (.head _)))))) ?_))))
  have h2 : Off I (news ++ tl) := h.tail.tail.tail.tail.tail
  rw [← List.append_assoc]
  exact h2.app (Off.cons ha (Off.cons hD off_nil))
theorem file_hdr {tl : List (Addr × Obj)} {hvs : List Value} {es : List Ent} {ah : Addr} {c : Int} {nm tx : Str} {t1 t2 : Tok} {T : Addr × Obj} (h : All2 (HdrAt tl) hvs (es.map fun e => e.2)) (hn : OkN nm) : All2 (HdrAt (tl ++ [(ah, { cls := .type "tuple", data := .seq #[Value.str nm t1, Value.str tx t2] }), T])) (hvs ++ [.ref ah]) ((es ++ [(c, nm, tx)]).map fun e => e.2) := by
  rw [List.map_append]
  exact all2_app (h.imp fun a b h => ⟨by obtain ⟨x1, x2, x3, x4, x5⟩ := h.at_; exact ⟨x1, x2, x3, x4, List.mem_append_left _ x5⟩, h.ok⟩) (.cons ⟨⟨ah, t1, t2, rfl, List.mem_append_right _ (.head _)⟩, hn⟩ .nil)
theorem FlP.step {css : List (List Int)} {sd0 : Int} {i k : Nat} {sd : Int} {tk tk' : Tok} {kvs : List (Int × Value)} {od od' : Obj} {hvs : List Value} {hep hep' : Nat} {tl tl' : List (Addr × Obj)} {es : List Ent} {cs : List Int} {v v' : Value} (h : FlP css sd0 i k ⟨sd, tk, kvs, od, hvs, hep, tl, es⟩) (hc : css[i]? = some cs) {c : Int} (e : c = cs.getD k 0) :
    FlP css sd0 i (k + 1) ⟨(sd * 29 + 3).fmod 1000003, tk', stored kvs c v, od', hvs ++ [v'], hep', tl', es ++ [(c, nameS c ((sd * 29 + 3).fmod 1000003), hdrS (cs.drop k ++ cs.take k) ((sd * 29 + 3).fmod 1000003))]⟩ := by
  have hcd : css.getD i [] = cs := by rw [List.getD_eq_getElem?_getD, hc]; rfl
  subst e
  obtain ⟨h1, h2, h3, h4, h5⟩ := h
  dsimp only at h1 h2 h3 h4 h5
  refine ⟨?_, ⟨Int.fmod_nonneg_of_pos _ (by decide), Int.fmod_lt_of_pos _ (by decide)⟩, ?_, ?_, ?_⟩
  · rw [fRow, ← h1, hcd]; rfl
  · have := stored_len kvs (cs.getD k 0) v
    simp only [List.length_append, List.length_cons, List.length_nil]
    omega
  · simp only [List.length_append, List.length_cons, List.length_nil]
    omega
  · simp only [List.length_append, List.length_cons, List.length_nil]
    omega
structure FlO (x d l Dd lt : Addr) (news : List (Addr × Obj)) : Prop where
  xl : @Ne Nat x l
  dl : @Ne Nat d l
  tl : @Ne Nat lt l
  ln : Off l news
  xD : @Ne Nat x Dd
  dD : @Ne Nat d Dd
  lD : @Ne Nat l Dd
  tD : @Ne Nat lt Dd
  nD : Off Dd news
theorem file_names {x Dd : Addr} (_h : x < Dd) {P : Prop} (k : ∀ D' : Addr, D' = Dd → P) : P := k Dd rfl
theorem file_led {h₀ h : Heap} {L : Addr} {a b c d e : Addr × Obj} {r : List (Addr × Obj)} (N : News h₀ L h (a :: b :: c :: d :: e :: r)) : News h₀ L h (b :: c :: d :: a :: e :: (r ++ [])) :=
  news_sub N (sub_at 1 rfl (sub_at 2 rfl (sub_at 3 rfl (sub_at 0 rfl (sub_at 4 rfl (sub_app (sub_end 5 (fun _ h => h)) sub_nil))))))
theorem file_led2 {h₀ h : Heap} {L : Addr} {i a b c d e : Addr × Obj} {r : List (Addr × Obj)} (N : News h₀ L h (i :: a :: b :: c :: d :: e :: r)) : News h₀ L h (a :: b :: c :: d :: e :: i :: r) :=
  news_sub N (sub_at 1 rfl (sub_at 2 rfl (sub_at 3 rfl (sub_at 4 rfl (sub_at 5 rfl (sub_at 0 rfl (sub_end 6 (fun _ h => h))))))))
theorem ints_drop : ∀ {vs : List Value} {cs : List Int}, IntsAre vs cs → ∀ n, IntsAre (vs.drop n) (cs.drop n)
  | _, _, h, 0 => h
  | _, _, .nil, _ + 1 => .nil
  | _, _, .cons _ _ h, n + 1 => ints_drop h n
theorem ints_take : ∀ {vs : List Value} {cs : List Int}, IntsAre vs cs → ∀ n, IntsAre (vs.take n) (cs.take n)
  | _, _, _, 0 => .nil
  | _, _, .nil, _ + 1 => .nil
  | _, _, .cons a t h, n + 1 => .cons a t (ints_take h n)
theorem TriOk.len {cs : List Int} (h : TriOk cs) : cs.length = 3 := by
  obtain ⟨a, b, c, rfl, -⟩ := h; rfl
theorem TriOk.all {cs : List Int} (h : TriOk cs) : ∀ x ∈ cs, 0 ≤ x ∧ x ≤ 6 := by
  obtain ⟨a, b, c, rfl, h1, h2, h3⟩ := h
  intro x hx
  simp only [List.mem_cons, List.not_mem_nil, or_false] at hx
  rcases hx with rfl | rfl | rfl <;> assumption
theorem TriOk.rot {cs : List Int} (h : TriOk cs) (j : Nat) : (∀ x ∈ cs.drop j ++ cs.take j, 0 ≤ x ∧ x ≤ 7) ∧ (cs.drop j ++ cs.take j).length = 3 := by
  refine ⟨fun x hx => ?_, ?_⟩
  · have : x ∈ cs := (List.mem_append.mp hx).elim List.mem_of_mem_drop List.mem_of_mem_take
    have := h.all x this
    omega
  · have := h.len
    rw [List.length_append, List.length_drop, List.length_take]
    omega
theorem TriOk.at {cs : List Int} (h : TriOk cs) {j : Nat} (hj : j < cs.length) : 0 ≤ cs.getD j 0 ∧ cs.getD j 0 ≤ 6 := by
  rw [List.getD_eq_getElem?_getD, List.getElem?_eq_getElem hj]
  exact h.all _ (List.getElem_mem hj)
theorem FlP.step' {css : List (List Int)} {sd0 : Int} {i k : Nat} {sd : Int} {tk tk' : Tok} {kvs : List (Int × Value)} {od od' : Obj} {hvs : List Value} {hep hep' : Nat} {tl tl' : List (Addr × Obj)} {es : List Ent} {cs rc : List Int} {v v' : Value} (h : FlP css sd0 i k ⟨sd, tk, kvs, od, hvs, hep, tl, es⟩) (hc : css[i]? = some cs) {c : Int} (e : c = cs.getD k 0) (er : rc = cs.drop k ++ cs.take k) :
    FlP css sd0 i (k + 1) ⟨(sd * 29 + 3).fmod 1000003, tk', stored kvs c v, od', hvs ++ [v'], hep', tl', es ++ [(c, nameS c ((sd * 29 + 3).fmod 1000003), hdrS rc ((sd * 29 + 3).fmod 1000003))]⟩ := by
  subst er; exact h.step hc e
section
variable {prog : Program} {w : World} {A : Around} {E : Value → Shared → Prop} {s : Shared} {h₀ : Heap} {L : Addr} {m : Str → Option Value} {news : List (Addr × Obj)}
theorem News.isTup {h : Heap} {t : Addr} {vs : List Value} (N : News h₀ L h news) (hm : (t, ({ cls := .type "tuple", data := .seq vs.toArray } : Obj)) ∈ news) : IsTup h t vs.toArray := ⟨_, (N _ hm).1, rfl, _, rfl⟩
theorem slice_from_any {value slice : PySem.Expr} {t : Addr} {vs : List Value} {a : Nat} {u : Tok} {Q : Value → Shared → Prop}
    (F : Fr h₀ L s.heap m) (N : News h₀ L s.heap news) (hm : (t, ({ cls := .type "tuple", data := .seq vs.toArray } : Obj)) ∈ news) (ha : a ≤ vs.length) (hsz : vs.length ≤ 10000)
    (h : ∀ T h', Fr h₀ L h' m → News h₀ L h' ((T, { cls := .type "tuple", data := .seq (vs.drop a).toArray }) :: news) → Q (.ref T) { s with heap := h' })
    (hs : subscripted slice false (.ref t) (.ref s.heap.objs.size) = operate [.ref s.heap.objs.size, .ref t] (getItem (.ref t) (.ref s.heap.objs.size)))
    (hg : ∀ r, letTemporaryGo value (.ref t) r = pure ()) :
    wpAny (model prog w) A (subscriptTail value slice (.ref t) (.ref s.heap.objs.size)) Q E { s with heap := s.heap.push { cls := .type "slice", data := .fields #[.int a u, .none, .none] } } := by
  cases a with
  | zero => exact slice_tuple_whole F N hm (fun h' F' N' => h t h' F' (News.dup N' hm)) hs hg
  | succ a => exact slice_tuple_on F N hm (Nat.succ_le_succ (Nat.zero_le _)) ha hsz (fun T h' F' N' _ => h T h' F' N') hs hg
theorem add_tup_any {t b : Addr} {vs ws : List Value} {Q : Value → Shared → Prop} (F : Fr h₀ L s.heap m) (N : News h₀ L s.heap news) (ht : (t, ({ cls := .type "tuple", data := .seq vs.toArray } : Obj)) ∈ news) (hb : (b, ({ cls := .type "tuple", data := .seq ws.toArray } : Obj)) ∈ news) (hsz : vs.length + ws.length ≤ sizeLine)
    (h : ∀ T h', Fr h₀ L h' m → News h₀ L h' ((T, { cls := .type "tuple", data := .seq (vs ++ ws).toArray }) :: news) → Q (.ref T) { s with heap := h' }) :
    wpAny (model prog w) A (binaryOp .Add (.ref t) (.ref b)) Q E s := by
  refine add_tuples F N (News.isTup N ht) (News.isTup N hb) (fun e => ?_) (fun _ e => ?_) (fun _ _ h' F' N' => h _ h' F' N') hsz
  · subst e; exact h b s.heap F (News.dup N hb)
  · subst e; rw [List.append_nil] at h; exact h t s.heap F (News.dup N ht)
theorem tri_item {value slice : PySem.Expr} {l : Addr} {vs : List Value} {cs : List Int} {j : Nat} {u : Tok} {c : Int} {Q : Value → Shared → Prop} (hl : IsTup s.heap l vs.toArray) (hi : IntsAre vs cs) (hc : c = cs.getD j 0) (hj : j < cs.length) (hs3 : cs.length ≤ 10000) (h : ∀ t, Q (.int c t) s)
    (hs : subscripted slice false (.ref l) (.int (j : Int) u) = operate [.ref l, .int (j : Int) u] (getItem (.ref l) (.int (j : Int) u))) (hg : ∀ r, letTemporaryGo value (.ref l) r = pure ()) :
    wpAny (model prog w) A (subscriptTail value slice (.ref l) (.int (j : Int) u)) Q E s := by
  subst hc
  exact item_tuple_ints hl hi (by omega) (by omega) (by omega) h hs hg
end
theorem c_file (w : World) (x d l lt : Addr) (k0 : Tok) (tvs : List Value) (css : List (List Int)) (nt ep0 : Nat) (sd0 : Int) (ts : Tok) (pre news : List (Addr × Obj)) (hT : All2 (TupAt pre) tvs css) (hc : ∀ cs ∈ css, TriOk cs) (hcl : css.length ≤ 5) (hs0 : 0 ≤ sd0 ∧ sd0 < 1000003)
    (hp : ∀ q ∈ pre, q ∈ news) (hxl : @Ne Nat x l) (hdl : @Ne Nat d l) (hol : Off l ((lt, W.listOf tvs.toArray nt) :: news)) :
    CallsN w 14 336 [.ref x, .ref lt, .int sd0 ts] (hdrL w x d l k0 [] ep0 ++ (lt, W.listOf tvs.toArray nt) :: news) (fun r news' => ∃ Dd od kvs hvs hep tl, r = .ref Dd ∧ od.IsDictOf (PySem.intKind pw w) kvs ∧ kvs.length ≤ 15 ∧ All2 (HdrAt tl) hvs ((fAll css sd0 css.length).2.map fun e => e.2) ∧ DueOk tl kvs (fAll css sd0 css.length).2 ∧ (Dd == sysModules) = false ∧ news' = hdrL w x d l k0 hvs hep ++ (Dd, od) :: (lt, W.listOf tvs.toArray nt) :: (news ++ tl)) := by
  unfold CallsN
  intro p loose mean mg mb dp un gd cn cs a ccd cl outer A₀ base h₀ L m s Q E B F X N T hk hd hu hret
  have hT2 := hT.imp fun a b h => h.mono hp
  clear hT hp
  unfold hdrL hdrD at N
  simp only [List.cons_append, List.nil_append] at N
  refine wpAny_call ?_
  k_dflt cell_enter
  (repeat (fail_if_success (with_reducible show wpAny _ _ (exec (Stmt.For _ _ _ _ _) _) _ _ _)); first | (k_unfold; (try dsimp only)) | walk1 | (dsimp only; walk1))
  (with_reducible rename Fr _ _ _ _ => lF)
  (with_reducible rename News _ _ _ _ => lN)
  (with_reducible rename _ < _ ∧ _ < _ ∧ _ < _ ∧ _ < _ ∧ AllLt _ _ => o3)
  (with_reducible rename (_ == sysModules) = false => lo)
  (with_reducible rename Obj.IsDictOf (intKind _ _) _ _ => hdi)
  refine an5 o3 ?_; clear o3; rintro q1 q2 q3 q4 q5
  have lN2 := file_led lN
  clear lN
  refine file_names q1 ?_
  rintro Dd rfl
  have hO : FlO x d l Dd lt news := ⟨hxl, hdl, hol _ (.head _), hol.tail, Nat.ne_of_lt q1, Nat.ne_of_lt q2, Nat.ne_of_lt q3, Nat.ne_of_lt q4, off_of_lt q5⟩
  clear q1 q2 q3 q4 q5 hol hxl hdl
  have htl := hT2.length
  k_dflt (refine For_turns lF ?_)
  (repeat (fail_if_success (with_reducible show wpAny _ _ (pyIter _) _ _ _)); first | (k_unfold; (try dsimp only)) | walk1 | (dsimp only; walk1))
  refine tl_listC (σ := FlS) (vs := tvs) (fun st => (x, instObj 273 d) :: (d, hdrD w l k0) :: (l, W.listOf st.hvs.toArray st.hep) :: (Dd, st.od) :: (lt, W.listOf tvs.toArray nt) :: (news ++ st.tl)) (fun st => [(Str.ofString "seed", .int st.sd st.tk)]) (fun st => FlF pw w x d l Dd st) [Str.ofString "corners", Str.ofString "k", Str.ofString "text"] (fun i st => FlP css sd0 i 0 st) ⟨sd0, ts, [], _, [], ep0, [], []⟩ (by rfl) lF lN2 (fun _ _ => .tail _ (.tail _ (.tail _ (.tail _ (.head _))))) ⟨hdi, .nil, ⟨fun c => ⟨.inl ⟨rfl, rfl⟩⟩⟩, off_nil, off_nil⟩ (List.forall_mem_cons.mpr ⟨rfl, List.forall_mem_nil _⟩) ⟨rfl, hs0, Nat.le_refl _, rfl, rfl⟩ ?turn ?done
  case turn =>
    clear lF lN2 hdi
    rintro ⟨sd, tk5, kvs, od, hvs, hep, tl, es⟩ i v u h9 tk9 I9 o9 hv hoI hoc hF hP F9 N9
    obtain ⟨cs, hcs, T9, cvs, rfl, hI9, hm9⟩ := hT2.get hv
    have hab := hc cs (List.mem_of_getElem? hcs)
    have hl9 := hI9.length
    rw [hab.len] at hl9
    have hi5 : i < css.length := (List.getElem?_eq_some_iff.mp hcs).1
    have hiB : Bnd5 i := ⟨by omega⟩
    dsimp only at hoI F9 N9 ⊢
    have hom := hoI
    unfold hdrD at N9
    (try k_fold)
    (repeat (fail_if_success (with_reducible show wpAny _ _ (exec (Stmt.For _ _ _ _ _) _) _ _ _)); first | (k_unfold; (try dsimp only)) | walk1 | (dsimp only; walk1))
    (with_reducible rename Fr _ _ _ _ => lF)
    k_dflt (refine For_turns lF ?_)
    (repeat (fail_if_success (with_reducible show wpAny _ _ (pyIter _) _ _ _)); first | (k_unfold; (try dsimp only)) | walk1 | (dsimp only; walk1))
    (with_reducible rename Fr _ _ _ _ => lF)
    (with_reducible rename News _ _ _ _ => lN)
    (with_reducible rename IsRange _ _ _ _ _ _ _ _ => lR)
    refine tl_rangeC (σ := FlS) (n := 3) (fun st => (x, instObj 273 d) :: (d, hdrD w l k0) :: (l, W.listOf st.hvs.toArray st.hep) :: (Dd, st.od) :: (lt, W.listOf tvs.toArray nt) :: (I9, o9) :: (news ++ st.tl)) (fun st => [(Str.ofString "seed", .int st.sd st.tk)]) (fun st => FlF pw w x d l Dd st ∧ Off I9 ((x, instObj 273 d) :: (d, hdrD w l k0) :: (l, W.listOf st.hvs.toArray st.hep) :: (Dd, st.od) :: (lt, W.listOf tvs.toArray nt) :: (news ++ st.tl))) [Str.ofString "k", Str.ofString "text"] (fun k st => FlP css sd0 i k st) ⟨sd, tk5, kvs, od, hvs, hep, tl, es⟩ (by rfl) lR (by decide) (by decide) lF (file_led2 lN) ⟨hF, hom⟩ (List.forall_mem_cons.mpr ⟨rfl, List.forall_mem_nil _⟩) hP ?turn2 ?done2
    case turn2 =>
      clear lF lN lR
      rintro ⟨sd, tk5, kvs, od, hvs, hep, tl, es⟩ j t u2 h8 tk8 I8 o8 hj hoI8 hoc8 ⟨hF8, hoI9⟩ hP8 F8 N8
      have N7 := News.dup N8 (.tail _ (.tail _ (.tail _ (.tail _ (.tail _ (.tail _ (.tail _ (List.mem_append_left _ hm9))))))))
      clear N8
      have hsd := hP8.sd
      dsimp only at hoI8 hoI9 F8 N7 hsd ⊢
      unfold hdrD at N7
      (try k_fold)
      have hsd9 : 0 ≤ (sd * 29 + 3).fmod 1000003 ∧ (sd * 29 + 3).fmod 1000003 < 1000003 := ⟨Int.fmod_nonneg_of_pos _ (by decide), Int.fmod_lt_of_pos _ (by decide)⟩
      have hm2 : 0 ≤ ((sd * 29 + 3).fmod 1000003).fmod 2 ∧ ((sd * 29 + 3).fmod 1000003).fmod 2 < 2 := ⟨Int.fmod_nonneg_of_pos _ (by decide), Int.fmod_lt_of_pos _ (by decide)⟩
      have hj3 : j < cs.length := by rw [hab.len]; exact hj
      have hs9 : cs.length ≤ 10000 := by rw [hab.len]; decide
      have hc0 := hab.at hj3
      obtain ⟨hcb, hr3⟩ := hab.rot j
      have hri := IntsAre.append (ints_drop hI9 j) (ints_take hI9 j)
      obtain ⟨c0, hcj⟩ : ∃ c0, c0 = cs.getD j 0 := ⟨_, rfl⟩
      rw [← hcj] at hc0
      obtain ⟨rc, hrc⟩ : ∃ rc, rc = cs.drop j ++ cs.take j := ⟨_, rfl⟩
      rw [← hrc] at hcb hr3 hri
      have hrl : rc.length ≤ 20 := by rw [hr3]; decide
      have hoL : Off l ((I8, o8) :: (Dd, od) :: (lt, W.listOf tvs.toArray nt) :: (I9, o9) :: (news ++ tl)) := Off.cons (Ne.symm (hoI8 (l, W.listOf hvs.toArray hep) (.tail _ (.tail _ (.head _))))) (Off.cons (Ne.symm hO.lD) (Off.cons hO.tl (Off.cons (Ne.symm (hoI9 (l, W.listOf hvs.toArray hep) (.tail _ (.tail _ (.head _))))) (hO.ln.app hF8.ol))))
      have hd0 : Obj.IsDictOf (PySem.intKind pw w) od kvs := hF8.dict
      have hodc : od.cls = .type "dict" := by obtain ⟨_, _, ⟨hc1, _⟩, _⟩ := hF8.dict; exact hc1
      have hhl : hvs.length ≤ 20 := by
        have h1 := hP8.hl
        have h2 := hP8.el
        have h4 := hiB.lt
        dsimp only at h1 h2
        omega
      rw [Int.zero_add]
      (repeat (fail_if_success (with_reducible show wpAny _ _ (subscriptTail _ (Expr.Slice _ _ _ _) _ _) _ _ _)); first | (k_unfold; (try dsimp only)) | walk1 | (dsimp only; walk1))
      (with_reducible rename Fr _ _ _ _ => lF)
      (with_reducible rename News _ _ _ _ => lN)
      k_dflt (refine slice_from_any (a := j) (vs := cvs) lF lN (.head _) (by omega) (by omega) ?_ (by with_unfolding_all rfl) (by intro _; with_unfolding_all rfl))
      clear lF lN
      intro T1 h7 F7 N6
      (try dsimp only)
      (try k_fold)
      (repeat (fail_if_success (with_reducible show wpAny _ _ (subscriptTail _ (Expr.Slice _ _ _ _) _ _) _ _ _)); first | (k_unfold; (try dsimp only)) | walk1 | (dsimp only; walk1))
      (with_reducible rename Fr _ _ _ _ => lF)
      (with_reducible rename News _ _ _ _ => lN)
      k_dflt (refine slice_tuple_to (b := j) (vs := cvs) lF lN (.tail _ (.head _)) (by omega) (by omega) ?_ (by with_unfolding_all rfl) (by intro _; with_unfolding_all rfl))
      clear lF lN
      intro T2 h6 F6 N5 _
      (try dsimp only)
      (try k_fold)
      (repeat (fail_if_success (with_reducible show wpAny _ _ (binaryOp _ (Value.ref _) (Value.ref _)) _ _ _)); first | (k_unfold; (try dsimp only)) | walk1 | (dsimp only; walk1))
      (with_reducible rename Fr _ _ _ _ => lF)
      (with_reducible rename News _ _ _ _ => lN)
      k_dflt (refine add_tup_any lF lN (.tail _ (.head _)) (.head _) (by rw [PySem.sizeLine_eq, List.length_drop, List.length_take]; omega) ?_)
      clear lF lN
      intro T3 h5 F5 N4
      (try dsimp only)
      (try k_fold)
      (repeat (fail_if_success (with_reducible show wpAny _ _ (call (Value.ref _) _) _ _ _)); first | (k_unfold; (try dsimp only)) | walk1 | (dsimp only; walk1))
      k_dflt (refine CallsN.use (c_typeT w _ _ rc hri _ _ _ hcb hrl (Int.fdiv_nonneg hsd9.1 (by decide)) (by rw [Int.fdiv_eq_ediv_of_nonneg _ (by decide)]; omega)) (by k_asm) (by k_asm) (by k_asm) (by k_asm) (by k_asm) (by first | exact rfl | assumption) (by ktr_room) (by ktr_units) ?_)
      rintro r5 h5 tk5 nw5 F5 N5 ⟨⟨t5, rfl⟩, rfl⟩
      (try dsimp only)
      (try k_fold)
      (repeat (fail_if_success (with_reducible show wpAny _ _ (call (Value.ref _) _) _ _ _)); first | (k_unfold; (try dsimp only)) | walk1 | (dsimp only; walk1))
      have hS9 : (typeS rc (((sd * 29 + 3).fmod 1000003).fdiv 2)).length ≤ 100 := Nat.le_trans (type_len hcb _) (by rw [hr3]; decide)
      k_dflt (refine Calls.use (c_beside w _ _ _) (by k_asm) (by k_asm) (by k_asm) (by k_asm) (by k_asm) (by first | exact rfl | assumption) (by ktr_room) (by ktr_units) ?_)
      rintro r4 h4 tk4 F4 N4 ⟨t4, rfl⟩
      (try dsimp only)
      (try k_fold)
      (repeat (fail_if_success (with_reducible show wpAny _ _ (subscriptTail _ _ (Value.ref T9) _) _ _ _)); first | (k_unfold; (try dsimp only)) | walk1 | (dsimp only; walk1))
      (with_reducible rename News _ _ _ _ => lN)
      k_dflt (refine tri_item (News.isTup lN (.tail _ (.tail _ (.tail _ (.head _))))) hI9 hcj hj3 hs9 ?_ (by with_unfolding_all rfl) (by intro _; with_unfolding_all rfl))
      intro _
      (try dsimp only)
      (try k_fold)
      (repeat (fail_if_success (with_reducible show wpAny _ _ (call (Value.ref _) _) _ _ _)); first | (k_unfold; (try dsimp only)) | walk1 | (dsimp only; walk1))
      (with_reducible rename News _ _ _ _ => lN)
      have N3 := file_led3 (t := [_, _, _, _]) lN
      clear lN
      k_dflt (refine CallsN.use (c_addh w x d l (nameS c0 ((sd * 29 + 3).fmod 1000003)) (hdrS rc ((sd * 29 + 3).fmod 1000003)) _ _ k0 hvs hep _ (name_at _ hc0).1 (okV_hdr hcb hrl) hO.xl hO.dl hoL (by omega)) (by k_asm) (by k_asm) (by k_asm) (by k_asm) (by k_asm) (by first | exact rfl | assumption) (by ktr_room) (by ktr_units) ?_)
      rintro r3 h3 tk3 nw3 F3 N3 hXO
      refine ex3 hXO ?_; clear hXO; rintro ah t3 t2 hXO
      refine an3 hXO ?_; clear hXO; rintro hal rfl rfl
      (try dsimp only)
      (try k_fold)
      unfold hdrL hdrD at N3
      have N2 := News.dup N3 (List.mem_append_right _ (.tail _ (.tail _ (.tail _ (.tail _ (.tail _ (List.mem_append_left _ hm9)))))))
      clear N3
      simp only [List.cons_append, List.nil_append] at N2
      (repeat (fail_if_success (with_reducible show wpAny _ _ (getMethod (Value.ref _) (Str.ofString "get") _) _ _ _)); first | (k_unfold; (try dsimp only)) | walk1 | (dsimp only; walk1))
      (with_reducible rename News _ _ _ _ => lN)
      k_dflt (refine kdg_method lN (.tail _ (.tail _ (.tail _ (.tail _ (.tail _ (.tail _ (.head _))))))) hd0 ?_)
      (repeat (fail_if_success (with_reducible show wpAny _ _ (subscriptTail _ _ (Value.ref T9) _) _ _ _)); first | (k_unfold; (try dsimp only)) | walk1 | (dsimp only; walk1))
      (with_reducible rename News _ _ _ _ => lN)
      k_dflt (refine tri_item (News.isTup lN (.head _)) hI9 hcj hj3 hs9 ?_ (by with_unfolding_all rfl) (by intro _; with_unfolding_all rfl))
      intro _
      (try dsimp only)
      (try k_fold)
      (repeat (fail_if_success (with_reducible show wpAny _ _ (call (Value.builtin "dict.get") _) _ _ _)); first | (k_unfold; (try dsimp only)) | walk1 | (dsimp only; walk1))
      (with_reducible rename Fr _ _ _ _ => lF)
      (with_reducible rename News _ _ _ _ => lN)
      obtain ⟨D0, ys0, ep1, hr0, hy0, hm0⟩ := due_get (hF8.due.all c0) _
      dsimp only at hr0 hy0 hm0
      k_dflt (refine kdg_get2 (knd := PySem.intKind _ _) lN (.tail _ (.tail _ (.tail _ (.tail _ (.tail _ (.tail _ (.tail _ (.head _)))))))) hd0 lo (intKind_is _ _ _ _) (valueAt kvs c0) rfl ?_)
      rw [hr0]
      have N1 := News.dup lN (file_m0 (p := [_, _, _, _, _, _, _, _, _]) hm0)
      clear lN
      (try dsimp only)
      (try k_fold)
      (repeat (fail_if_success (with_reducible show wpAny _ _ (binaryOp _ (Value.ref _) (Value.ref _)) _ _ _)); first | (k_unfold; (try dsimp only)) | walk1 | (dsimp only; walk1))
      (with_reducible rename Fr _ _ _ _ => lF)
      (with_reducible rename News _ _ _ _ => lN)
      have hyl : ys0.length ≤ 20 := by
        have h1 := hy0.length
        have h2 := texts_len es c0
        have h3 := hP8.el
        have h4 := hiB.lt
        dsimp only at h3
        omega
      have hne1 := news_ne lN (p := (ah, _)) (q := (Dd, od)) (.tail _ (.tail _ (.tail _ (.tail _ (.tail _ (.tail _ (.tail _ (.head _)))))))) (.tail _ (.tail _ (.tail _ (.tail _ (.tail _ (.tail _ (.tail _ (.tail _ (.tail _ (.head _)))))))))) (fun e => by have := (congrArg Obj.cls e).trans hodc; simp at this)
      have hne2 := news_ne lN (p := (ah, _)) (q := (I8, o8)) (.tail _ (.tail _ (.tail _ (.tail _ (.tail _ (.tail _ (.tail _ (.head _)))))))) (.tail _ (.tail _ (.tail _ (.tail _ (.tail _ (.tail _ (.tail _ (.tail _ (.head _))))))))) (fun e => by have := (congrArg Obj.cls e).trans hoc8; simp at this)
      have hne3 := news_ne lN (p := (ah, _)) (q := (I9, o9)) (.tail _ (.tail _ (.tail _ (.tail _ (.tail _ (.tail _ (.tail _ (.head _)))))))) (.tail _ (.tail _ (.tail _ (.tail _ (.tail _ (.tail _ (.tail _ (.tail _ (.tail _ (.tail _ (.tail _ (.head _)))))))))))) (fun e => by have := (congrArg Obj.cls e).trans hoc; simp at this)
      k_dflt (refine li_add (ys := ys0) (ys2 := [_]) lF lN (.tail _ (.head _)) (.head _) (by rw [PySem.sizeLine_eq]; simp only [List.length_cons, List.length_nil]; omega) ?_)
      clear lF lN
      intro D7 h2 F2 N2 lD
      have hDl : @Ne Nat D7 l := Nat.ne_of_gt (lD (l, _) (.tail _ (.tail _ (.tail _ (.tail _ (.tail _ (.tail _ (.head _))))))))
      have hDd : @Ne Nat D7 Dd := Nat.ne_of_gt (lD (Dd, od) (.tail _ (.tail _ (.tail _ (.tail _ (.tail _ (.tail _ (.tail _ (.tail _ (.tail _ (.head _)))))))))))
      have hD8 : @Ne Nat D7 I8 := Nat.ne_of_gt (lD (I8, o8) (.tail _ (.tail _ (.tail _ (.tail _ (.tail _ (.tail _ (.tail _ (.tail _ (.head _))))))))))
      have hD9 : @Ne Nat D7 I9 := Nat.ne_of_gt (lD (I9, o9) (.tail _ (.tail _ (.tail _ (.tail _ (.tail _ (.tail _ (.tail _ (.tail _ (.tail _ (.tail _ (.tail _ (.head _)))))))))))))
      clear lD
      obtain ⟨tx9, N2⟩ := file_tok (X := hdrS rc ((sd * 29 + 3).fmod 1000003)) N2
      have N1 := file_led4 N2
      clear N2
      dsimp only [List.cons_append, List.nil_append] at N1
      (try dsimp only)
      (try k_fold)
      (repeat (fail_if_success (with_reducible show wpAny _ _ (subscriptTail _ _ (Value.ref T9) _) _ _ _)); first | (k_unfold; (try dsimp only)) | walk1 | (dsimp only; walk1))
      (with_reducible rename News _ _ _ _ => lN)
      k_dflt (refine tri_item (News.isTup lN (.head _)) hI9 hcj hj3 hs9 ?_ (by with_unfolding_all rfl) (by intro _; with_unfolding_all rfl))
      intro _
      (try dsimp only)
      (try k_fold)
      (repeat (fail_if_success (with_reducible show wpAny _ _ (setItem _ _ _) _ _ _)); first | (k_unfold; (try dsimp only)) | walk1 | (dsimp only; walk1))
      (with_reducible rename Fr _ _ _ _ => lF)
      (with_reducible rename News _ _ _ _ => lN)
      have hkl := hP8.kl
      have hel := hP8.el
      have hib := hiB.lt
      dsimp only at hkl hel
      k_dflt (refine kda_set (knd := PySem.intKind _ _) lF lN (updF_of (own := [_, _, _, _, _]) (Off.cons hO.tD (Off.cons (Ne.symm (hoI9 (Dd, od) (.tail _ (.tail _ (.tail _ (.head _)))))) (hO.nD.app (hF8.oD.app (Off.cons hne1 (Off.cons hDd off_nil))))) ) (Off.cons (hO.nD _ hm9) (Off.cons (Ne.symm (hoI8 (Dd, od) (.tail _ (.tail _ (.tail _ (.head _)))))) (Off.cons hO.xD (Off.cons hO.dD (Off.cons hO.lD off_nil)))))) hd0 (intKind_is _ _ _ _) (by rw [PySem.sizeLine_eq]; omega) ?_)
      clear lF lN
      intro h1 o1 F1 N1 hd1
      dsimp only [List.cons_append, List.nil_append] at N1
      (try dsimp only)
      (try k_fold)
      repeat' (first | (k_unfold; (try dsimp only)) | (k_end; wrow_close) | ((fail_if_success (with_reducible refine UnrEndW_stop ?_)); walk1) | ((fail_if_success (with_reducible refine UnrEndW_stop ?_)); dsimp only; walk1) | (leave1; walk_say "STEP leave1"; (try dsimp only)) | fail "no step")
      (with_reducible rename News _ _ _ _ => nE)
      (with_reducible rename Fr _ _ _ _ => nF)
      refine tl_end ⟨(sd * 29 + 3).fmod 1000003, _, _, o1, hvs ++ [.ref ah], hep + 1, tl ++ [(ah, { cls := .type "tuple", data := .seq #[Value.str (nameS c0 ((sd * 29 + 3).fmod 1000003)) t3, Value.str (hdrS rc ((sd * 29 + 3).fmod 1000003)) t2] }), (D7, W.listOf (ys0 ++ [Value.str (hdrS rc ((sd * 29 + 3).fmod 1000003)) tx9]).toArray 0)], es ++ [(c0, nameS c0 ((sd * 29 + 3).fmod 1000003), hdrS rc ((sd * 29 + 3).fmod 1000003))]⟩ nF nE ?s1 ?s2 (List.forall_mem_cons.mpr ⟨by with_unfolding_all rfl, List.forall_mem_nil _⟩)
        (by intro z h1 h2; simp only [List.forall_mem_cons, List.not_mem_nil, false_implies, implies_true, and_true, ne_eq] at h1; simp only [List.contains_cons, List.contains_nil, Bool.or_false, Bool.or_eq_false_iff, beq_eq_false_iff_ne, ne_eq] at h2; simp [h1, h2, kstB]) ⟨⟨hd1, ?s3, ?s4, ?s5, ?s6⟩, ?s7⟩ ?s8
      case s1 => exact fun q hq => .tail _ hq
      case s2 => exact List.forall_mem_singleton.mpr (off_file1 hoI8 hne2 hD8)
      case s3 => exact file_hdr hF8.hdr (name_at _ hc0).1
      case s4 => exact hF8.due.step (fun q hq => List.mem_append_left _ hq) (StrsAre.append' hy0 (.cons _ _ .nil)) (List.mem_append_right _ (.tail _ (.head _)))
      case s5 => exact hF8.ol.app (Off.cons hal (Off.cons hDl off_nil))
      case s6 => exact hF8.oD.app (Off.cons hne1 (Off.cons hDd off_nil))
      case s7 => exact off_file2 hoI9 hne3 hD9
      case s8 => exact hP8.step' hcs hcj hrc
    case done2 =>
      clear lF lN lR
      rintro ⟨sd, tk5, kvs, od, hvs, hep, tl, es⟩ u2 h8 tk8 ⟨hF8, hoI8⟩ hP8 F8 N8
      dsimp only at F8 N8 hoI8 ⊢
      have hP7 := hP8.next hcs
      clear hP8
      repeat' (first | (k_unfold; (try dsimp only)) | (k_end; wrow_close) | ((fail_if_success (with_reducible refine UnrEndW_stop ?_)); walk1) | ((fail_if_success (with_reducible refine UnrEndW_stop ?_)); dsimp only; walk1) | (leave1; walk_say "STEP leave1"; (try dsimp only)) | fail "no step")
      (with_reducible rename News _ _ _ _ => nE)
      (with_reducible rename Fr _ _ _ _ => nF)
      exact tl_end ⟨sd, tk5, kvs, od, hvs, hep, tl, es⟩ nF nE file_sub (List.forall_mem_singleton.mpr hoI8) (List.forall_mem_cons.mpr ⟨by with_unfolding_all rfl, List.forall_mem_nil _⟩)
        (by intro z h1 h2; simp only [List.forall_mem_cons, List.not_mem_nil, false_implies, implies_true, and_true, ne_eq] at h1; simp only [List.contains_cons, List.contains_nil, Bool.or_false, Bool.or_eq_false_iff, beq_eq_false_iff_ne, ne_eq] at h2; simp [h1, h2, kstB]) hF8 hP7
  case done =>
    clear lF lN2 hdi
    rintro ⟨sd, tk5, kvs, od, hvs, hep, tl, es⟩ u h9 tk9 hF hP F9 N9
    rw [htl] at hP
    have he := hP.eq
    dsimp only [fRow] at he F9 N9 ⊢
    have he2 := congrArg Prod.snd he
    dsimp only at he2
    subst he2
    unfold hdrD at N9
    (try k_fold)
    (repeat (first | (k_unfold; (try dsimp only)) | walk1 | (dsimp only; walk1)))
    have hk1 := hP.kl
    have hk2 := hP.el
    dsimp only at hk1 hk2
    exact hret.out _ _ _ _ (by k_asm) (by k_asm) ⟨Dd, od, kvs, hvs, hep, tl, rfl, hF.dict, by omega, hF.hdr, hF.due, lo, rfl⟩
end Mine
end
section
open PySem PySem.W PyProof.Rows
namespace Mine
noncomputable def freeW (one : Ws) (taken : List Ws) : Bool := !(taken.any fun o => sameW one o)
noncomputable def moreOf (os : List Ws) (taken : List Ws) : List (List Ws) := (os.filter fun o => freeW o taken).map fun o => taken ++ [o]
noncomputable def nextG (os : List Ws) (given : List (List Ws)) : List (List Ws) := (given.map (moreOf os)).flatten
noncomputable def spotOf (sw : List (List Ws)) (start : Int) (k : Nat) : List Ws := sw.getD ((start + (1 + (k : Int))).fmod (sw.length : Int)).toNat []
noncomputable def wayG (sw : List (List Ws)) (start : Int) : Nat → List (List Ws)
  | 0 => [[]]
  | k + 1 => nextG (spotOf sw start k) (wayG sw start k)
noncomputable def wayL (sw : List (List Ws)) (start : Int) : Nat → List Int
  | 0 => [0, 1]
  | k + 1 => wayL sw start k ++ [((wayG sw start (k + 1)).length : Int)]
structure SpotAt (w : World) (led : List (Addr × Obj)) (v : Value) (ws : List Ws) : Prop where
  at_ : ∃ D ovs ep, v = .ref D ∧ (D, W.listOf ovs.toArray ep) ∈ led ∧ All2 (WhAt w led) ovs ws
theorem SpotAt.mono {w : World} {led led' : List (Addr × Obj)} {v : Value} {ws : List Ws} (h : SpotAt w led v ws) (k : ∀ q ∈ led, q ∈ led') : SpotAt w led' v ws := by
  obtain ⟨D, ovs, ep, e, hm, hA⟩ := h
  exact ⟨D, ovs, ep, e, k _ hm, hA.imp fun a b h => h.mono k⟩
theorem more_take {os : List Ws} {taken : List Ws} {j : Nat} {o : Ws} (h : os[j]? = some o) : moreOf (os.take (j + 1)) taken = if freeW o taken = true then moreOf (os.take j) taken ++ [taken ++ [o]] else moreOf (os.take j) taken := by
  unfold moreOf
  rw [List.take_add_one, h, List.filter_append, List.map_append]
  by_cases hf : freeW o taken = true
  · rw [if_pos hf]; simp [hf]
  · rw [if_neg hf]; simp [hf]
theorem next_take {os : List Ws} {given : List (List Ws)} {i : Nat} {t : List Ws} (h : given[i]? = some t) : nextG os (given.take (i + 1)) = nextG os (given.take i) ++ moreOf os t := by
  unfold nextG
  rw [List.take_add_one, h, List.map_append, List.flatten_append]
  simp
theorem next_le {os : List Ws} {given : List (List Ws)} {i j : Nat} {t : List Ws} (h : given[i]? = some t) : (nextG os (given.take i) ++ moreOf (os.take j) t).length ≤ (nextG os given).length := by
  have h1 : (nextG os (given.take (i + 1))).length ≤ (nextG os given).length := by
    unfold nextG
    conv => rhs; rw [← List.take_append_drop (i + 1) given, List.map_append, List.flatten_append, List.length_append]
    omega
  rw [next_take h, List.length_append] at h1
  rw [List.length_append]
  have h2 : (moreOf (os.take j) t).length ≤ (moreOf os t).length := by
    unfold moreOf
    rw [List.length_map, List.length_map]
    conv => rhs; rw [← List.take_append_drop j os, List.filter_append, List.length_append]
    omega
  omega
structure WyS where
  mvs : List Value
  mep : Nat
  more : List (List Ws)
  oc : Obj
  tl : List (Addr × Obj)
structure CellOk (o : Obj) : Prop where
  at_ : ∃ v, o.data = .cell v
theorem bools_reads {h : Heap} {g : Ws → Bool} : ∀ {os : List Ws} {ys : List Value}, All2 (fun o y => y = Value.bool (g o)) os ys → ReadsAll h ys (os.map fun o => PyData.bool (g o)) []
  | _, _, .nil => .nil
  | _, _, .cons e t => by subst e; exact ReadsAll.cons (.bool _) (bools_reads t)
theorem bools_lay {g : Ws → Bool} : ∀ os : List Ws, PyData.canLayAll0 (os.map fun o => PyData.bool (g o)) = true
  | [] => by simp [PyData.canLayAll0]
  | o :: r => by simp [PyData.canLayAll0, PyData.canLay0, bools_lay r]
section
variable {prog : Program} {w : World} {A : Around} {E : Value → Shared → Prop} {s : Shared} {h₀ : Heap} {L a : Addr} {news : List (Addr × Obj)} {Q : Value → Shared → Prop}
theorem bools_notIn {g : Ws → Bool} {os : List Ws} {ys : List Value} {ka : Nat} (N : News h₀ L s.heap news) (ma : (a, W.listOf ys.toArray ka) ∈ news) (hA : All2 (fun o y => y = Value.bool (g o)) os ys) (hu : A.units + 64 < cLine) (h : Q (.bool (!os.any g)) s) : wpAny (model prog w) A (compareOp .NotIn (.bool true) (.ref a)) Q E s := by
  have e : ((os.map fun o => PyData.bool (g o)).any fun y => PyData.eqv y (.bool true)) = os.any g := by
    rw [List.any_map]
    congr 1
    funext o
    show PyData.eqv (.bool (g o)) (.bool true) = g o
    cases g o <;> rfl
  refine SeqAt.notIn_list_reads (reads_list_at (N.get ma) rfl rfl (by simpa using bools_reads hA)) (.bool true) (bools_lay os) (by simp [PyData.canLay0]) ?_ (by rw [e]; exact h)
  have := Nat.min_le_right (PyData.depthAll (os.map fun o => PyData.bool (g o))) (PyData.depth (.bool true))
  have e2 : PyData.depth (.bool true) ≤ 8 := by simp [PyData.depth]
  omega
end
end Mine
end
section
open PySem PySem.W PyProof.Rows
namespace Mine
theorem spot_at {w : World} {led : List (Addr × Obj)} {vs : List Value} {sw : List (List Ws)} {i : Nat} {v : Value} (h : All2 (SpotAt w led) vs sw) (hv : vs[i]? = some v) {P : Prop} (k : ∀ ws D ovs ep, sw[i]? = some ws → v = .ref D → (D, W.listOf ovs.toArray ep) ∈ led → All2 (WhAt w led) ovs ws → P) : P := by
  obtain ⟨ws, h1, D, ovs, ep, e, hm, hA⟩ := h.get hv
  exact k ws D ovs ep h1 e hm hA
theorem way_len (sw : List (List Ws)) (start : Int) : ∀ k, ∀ t ∈ wayG sw start k, t.length = k := by
  intro k
  induction k with
  | zero => intro t ht; rw [wayG, List.mem_singleton] at ht; rw [ht]; rfl
  | succ k ih =>
    intro t ht
    rw [wayG, nextG, List.mem_flatten] at ht
    obtain ⟨l, hl, ht⟩ := ht
    obtain ⟨g, hg, rfl⟩ := List.mem_map.mp hl
    obtain ⟨o, _, rfl⟩ := List.mem_map.mp ht
    rw [List.length_append, ih g hg]
    rfl
theorem way_led {h₀ h : Heap} {L : Addr} {a b c d e : Addr × Obj} {r : List (Addr × Obj)} (N : News h₀ L h (a :: b :: c :: d :: e :: r)) : News h₀ L h (a :: c :: d :: e :: (r ++ [b])) :=
  news_sub N (sub_at 0 rfl (sub_at 2 rfl (sub_at 3 rfl (sub_at 4 rfl (sub_app (sub_end 5 (fun _ h => h)) (sub_at 1 rfl sub_nil))))))
theorem way_names {gD E0 Ln X : Addr} (_a : E0 < gD) (_b : Ln < E0) (_c : X < Ln) {P : Prop} (k : ∀ g e l : Addr, g = gD → e = E0 → l = Ln → P) : P := k _ _ _ rfl rfl rfl
theorem way_end {q g l c s : Addr × Obj} {news tl : List (Addr × Obj)} (h : q ∈ l :: s :: news) : q ∈ g :: l :: c :: s :: (news ++ tl) :=
  (sub_at 1 rfl (sub_at 3 rfl (sub_end 4 sub_l))) q h
structure WyO (Ln Cc ls : Addr) (news : List (Addr × Obj)) : Prop where
  lc : @Ne Nat Ln Cc
  ll : @Ne Nat Ln ls
  ln : Off Ln news
  cl : @Ne Nat Cc ls
  cn : Off Cc news
structure WxS where
  lvs : List Value
  lns : List Int
  lep : Nat
  gD : Addr
  gvs : List Value
  gep : Nat
  given : List (List Ws)
  tl : List (Addr × Obj)
  oc : Obj
structure WxF (w : World) (news : List (Addr × Obj)) (Ln Cc : Addr) (st : WxS) : Prop where
  lnI : IntsAre st.lvs st.lns
  giv : All2 (SpotAt w (news ++ st.tl)) st.gvs st.given
  cell : CellOk st.oc
  gn : @Ne Nat st.gD Ln
  gc : @Ne Nat st.gD Cc
  on : Off Ln st.tl
  oc' : Off Cc st.tl
structure WxP (sw : List (List Ws)) (start : Int) (k : Nat) (st : WxS) : Prop where
  giv : st.given = wayG sw start k
  lin : st.lns = wayL sw start k
theorem way_led2 {h₀ h : Heap} {L : Addr} {m i g l c s : Addr × Obj} {news tl0 : List (Addr × Obj)} (N : News h₀ L h (m :: i :: g :: l :: c :: s :: (news ++ tl0))) : News h₀ L h (m :: g :: l :: c :: s :: i :: (news ++ (tl0 ++ []))) :=
  by
  rw [List.append_nil]
  exact news_sub N (sub_at 0 rfl (sub_at 2 rfl (sub_at 3 rfl (sub_at 4 rfl (sub_at 5 rfl (sub_at 1 rfl (sub_end 6 (fun _ h => h))))))))
theorem way_name1 {x M : Addr} (_a : x < M) {P : Prop} (k : ∀ g : Addr, g = M → P) : P := k _ rfl
theorem way_mem {q : Addr × Obj} {news tl0 tl : List (Addr × Obj)} (h : q ∈ news ++ tl0) : q ∈ news ++ (tl0 ++ tl) := by
  rw [← List.append_assoc]; exact List.mem_append_left _ h
structure WyM (M I8 gD Ln Cc ls : Addr) (rest : List (Addr × Obj)) : Prop where
  i : @Ne Nat M I8
  g : @Ne Nat M gD
  l : @Ne Nat M Ln
  c : @Ne Nat M Cc
  s : @Ne Nat M ls
  r : Off M rest
structure WyG (gD Ln Cc : Addr) (tl0 : List (Addr × Obj)) : Prop where
  gn : @Ne Nat gD Ln
  gc : @Ne Nat gD Cc
  on : Off Ln tl0
  oc : Off Cc tl0
structure WyF (w : World) (news tl0 : List (Addr × Obj)) (M Ln Cc I8 : Addr) (st : WyS) : Prop where
  mv : All2 (SpotAt w (news ++ (tl0 ++ st.tl))) st.mvs st.more
  ce : CellOk st.oc
  om : Off M st.tl
  ol : Off Ln st.tl
  oc' : Off Cc st.tl
  oi : Off I8 st.tl
theorem spot_get {w : World} {news : List (Addr × Obj)} {spv : List Value} {sw : List (List Ws)} {start : Int} {k : Nat} (h : All2 (SpotAt w news) spv sw) (hz : 0 < sw.length) : ∃ Ds ovs oep, spv[((start + (1 + (k : Int))).fmod (sw.length : Int)).toNat]? = some (.ref Ds) ∧ (Ds, W.listOf ovs.toArray oep) ∈ news ∧ All2 (WhAt w news) ovs (spotOf sw start k) := by
  have h1 := Int.fmod_nonneg_of_pos (start + (1 + (k : Int))) (show (0 : Int) < (sw.length : Int) by omega)
  have h2 := Int.fmod_lt_of_pos (start + (1 + (k : Int))) (show (0 : Int) < (sw.length : Int) by omega)
  have hlt : ((start + (1 + (k : Int))).fmod (sw.length : Int)).toNat < sw.length := by omega
  obtain ⟨v, hv, D, ovs, ep, rfl, hm, hA⟩ := get_all2 h (List.getElem?_eq_getElem hlt)
  refine ⟨D, ovs, ep, hv, hm, ?_⟩
  unfold spotOf
  rw [List.getD_eq_getElem?_getD, List.getElem?_eq_getElem hlt]
  exact hA
theorem spot_len {sw : List (List Ws)} {start : Int} {k : Nat} (h : ∀ ws ∈ sw, ws.length ≤ 20) : (spotOf sw start k).length ≤ 20 := by
  unfold spotOf
  rw [List.getD_eq_getElem?_getD]
  cases e : sw[((start + (1 + (k : Int))).fmod (sw.length : Int)).toNat]? with
  | none => simp
  | some x => exact h x (List.mem_of_getElem? e)
theorem way_led3 {h₀ h : Heap} {L : Addr} {m i g l c s o : Addr × Obj} {r : List (Addr × Obj)} (N : News h₀ L h (i :: m :: g :: l :: c :: s :: o :: r)) : News h₀ L h (m :: g :: l :: c :: s :: o :: i :: r) :=
  news_sub N (sub_at 1 rfl (sub_at 2 rfl (sub_at 3 rfl (sub_at 4 rfl (sub_at 5 rfl (sub_at 6 rfl (sub_at 0 rfl (sub_end 7 (fun _ h => h)))))))))
theorem way_tl {I : Addr} {m g l c s o : Addr × Obj} {news tl0 tl : List (Addr × Obj)} (h : Off I (m :: g :: l :: c :: s :: o :: (news ++ (tl0 ++ tl)))) : Off I tl := fun q hq => h q (.tail _ (.tail _ (.tail _ (.tail _ (.tail _ (.tail _ (List.mem_append_right _ (List.mem_append_right _ hq))))))))
theorem way_led4 {h₀ h : Heap} {L : Addr} {i m g l c s a b T : Addr × Obj} {x1 x2 x3 x4 : Addr × Obj} {r : List (Addr × Obj)} (N : News h₀ L h (i :: m :: g :: l :: c :: s :: a :: b :: r)) (hT : T ∈ r) (hx : ∀ q ∈ [x1, x2, x3, x4], q ∈ r) : News h₀ L h (x1 :: x2 :: x3 :: x4 :: T :: i :: m :: g :: l :: c :: s :: a :: b :: r) := fun q hq => N q (by
  have hr : ∀ y ∈ r, y ∈ i :: m :: g :: l :: c :: s :: a :: b :: r := fun y hy => .tail _ (.tail _ (.tail _ (.tail _ (.tail _ (.tail _ (.tail _ (.tail _ hy)))))))
  rcases List.mem_cons.mp hq with rfl | hq
  · exact hr _ (hx _ (by simp))
  rcases List.mem_cons.mp hq with rfl | hq
  · exact hr _ (hx _ (by simp))
  rcases List.mem_cons.mp hq with rfl | hq
  · exact hr _ (hx _ (by simp))
  rcases List.mem_cons.mp hq with rfl | hq
  · exact hr _ (hx _ (by simp))
  rcases List.mem_cons.mp hq with rfl | hq
  · exact hr _ hT
  exact hq)
theorem way_led5 {h₀ h : Heap} {L : Addr} {D x1 x2 x3 x4 T : Addr × Obj} {r : List (Addr × Obj)} (N : News h₀ L h (D :: x1 :: x2 :: x3 :: x4 :: T :: r)) : News h₀ L h (T :: r) := fun q hq => N q (.tail _ (.tail _ (.tail _ (.tail _ (.tail _ hq)))))
theorem way_led6 {h₀ h : Heap} {L : Addr} {D t T i m g l c s a b : Addr × Obj} {r tl9 : List (Addr × Obj)} (N : News h₀ L h (D :: t :: T :: i :: m :: g :: l :: c :: s :: a :: b :: (r ++ tl9))) : News h₀ L h ([D, i] ++ m :: g :: l :: c :: s :: a :: b :: r) :=
  news_sub N (sub_at 0 rfl (sub_at 3 rfl (sub_at 4 rfl (sub_at 5 rfl (sub_at 6 rfl (sub_at 7 rfl (sub_at 8 rfl (sub_at 9 rfl (sub_at 10 rfl (sub_end 11 sub_l))))))))))
theorem way_sub {D i m g l c s a b : Addr × Obj} {news tl0 tl : List (Addr × Obj)} : ∀ q ∈ [i] ++ (m :: g :: l :: c :: s :: a :: b :: (news ++ (tl0 ++ (tl ++ [D])))), q ∈ D :: i :: m :: g :: l :: c :: s :: a :: b :: (news ++ (tl0 ++ tl)) :=
  (sub_at 1 rfl (sub_at 2 rfl (sub_at 3 rfl (sub_at 4 rfl (sub_at 5 rfl (sub_at 6 rfl (sub_at 7 rfl (sub_at 8 rfl (sub_app (sub_end 9 sub_l) (sub_app (sub_end 9 (sub_tr sub_l sub_r)) (sub_app (sub_end 9 (sub_tr sub_r sub_r)) (sub_at 0 rfl sub_nil))))))))))))
theorem way_sub2 {T i m g l c s a b : Addr × Obj} {r tl9 : List (Addr × Obj)} : ∀ q ∈ [i] ++ (m :: g :: l :: c :: s :: a :: b :: r), q ∈ T :: i :: m :: g :: l :: c :: s :: a :: b :: (r ++ tl9) :=
  (sub_at 1 rfl (sub_at 2 rfl (sub_at 3 rfl (sub_at 4 rfl (sub_at 5 rfl (sub_at 6 rfl (sub_at 7 rfl (sub_at 8 rfl (sub_end 9 sub_l)))))))))
theorem way_off {I M Cc : Addr} {mo mo' co co' : Obj} {g l s a b D : Addr × Obj} {news tl0 tl : List (Addr × Obj)} (h : Off I ((M, mo) :: g :: l :: (Cc, co) :: s :: a :: b :: (news ++ (tl0 ++ tl)))) (hD : D.1 ≠ I) : Off I ((M, mo') :: g :: l :: (Cc, co') :: s :: a :: b :: (news ++ (tl0 ++ (tl ++ [D])))) := by
  have h7 : Off I (news ++ (tl0 ++ tl)) := h.tail.tail.tail.tail.tail.tail.tail
  have e : news ++ (tl0 ++ (tl ++ [D])) = (news ++ (tl0 ++ tl)) ++ [D] := by simp
  rw [e]
  exact Off.cons (h (M, mo) (.head _)) (Off.cons (h _ (.tail _ (.head _))) (Off.cons (h _ (.tail _ (.tail _ (.head _)))) (Off.cons (h (Cc, co) (.tail _ (.tail _ (.tail _ (.head _))))) (Off.cons (h _ (.tail _ (.tail _ (.tail _ (.tail _ (.head _)))))) (Off.cons (h _ (.tail _ (.tail _ (.tail _ (.tail _ (.tail _ (.head _))))))) (Off.cons (h _ (.tail _ (.tail _ (.tail _ (.tail _ (.tail _ (.tail _ (.head _)))))))) (h7.app (Off.cons hD off_nil))))))))
theorem way_off2 {I M Cc : Addr} {mo co co' : Obj} {g l : Addr × Obj} {r : List (Addr × Obj)} (h : Off I ((M, mo) :: g :: l :: (Cc, co) :: r)) : Off I ((M, mo) :: g :: l :: (Cc, co') :: r) :=
  Off.cons (h (M, mo) (.head _)) (Off.cons (h _ (.tail _ (.head _))) (Off.cons (h _ (.tail _ (.tail _ (.head _)))) (Off.cons (h (Cc, co) (.tail _ (.tail _ (.tail _ (.head _))))) h.tail.tail.tail.tail)))
theorem way_up {news tl0 tl : List (Addr × Obj)} {D : Addr × Obj} : ∀ q ∈ news ++ (tl0 ++ tl), q ∈ news ++ (tl0 ++ (tl ++ [D])) := fun q hq => by
  rw [show news ++ (tl0 ++ (tl ++ [D])) = (news ++ (tl0 ++ tl)) ++ [D] by simp]
  exact List.mem_append_left _ hq
theorem way_new {news tl0 tl : List (Addr × Obj)} {D : Addr × Obj} : D ∈ news ++ (tl0 ++ (tl ++ [D])) := by simp
theorem way_sub3 {m g l c s a b : Addr × Obj} {r : List (Addr × Obj)} : ∀ q ∈ [b] ++ (m :: g :: l :: c :: s :: a :: r), q ∈ m :: g :: l :: c :: s :: a :: b :: r :=
  (sub_at 6 rfl (sub_at 0 rfl (sub_at 1 rfl (sub_at 2 rfl (sub_at 3 rfl (sub_at 4 rfl (sub_at 5 rfl (sub_end 7 (fun _ h => h)))))))))
theorem way_off3 {I M Cc : Addr} {mo mo' co co' : Obj} {g l s a : Addr × Obj} {news tl0 tl tl' : List (Addr × Obj)} (h : Off I ((M, mo) :: g :: l :: (Cc, co) :: s :: a :: (news ++ (tl0 ++ tl)))) (ht : Off I tl') : Off I ((M, mo') :: g :: l :: (Cc, co') :: s :: a :: (news ++ (tl0 ++ tl'))) := by
  have h7 : Off I (news ++ (tl0 ++ tl)) := h.tail.tail.tail.tail.tail.tail
  have h8 : Off I news := fun q hq => h7 q (List.mem_append_left _ hq)
  have h9 : Off I tl0 := fun q hq => h7 q (List.mem_append_right _ (List.mem_append_left _ hq))
  exact Off.cons (h (M, mo) (.head _)) (Off.cons (h _ (.tail _ (.head _))) (Off.cons (h _ (.tail _ (.tail _ (.head _)))) (Off.cons (h (Cc, co) (.tail _ (.tail _ (.tail _ (.head _))))) (Off.cons (h _ (.tail _ (.tail _ (.tail _ (.tail _ (.head _)))))) (Off.cons (h _ (.tail _ (.tail _ (.tail _ (.tail _ (.tail _ (.head _))))))) (h8.app (h9.app ht)))))))
theorem wayL_len (sw : List (List Ws)) (start : Int) : ∀ k, (wayL sw start k).length = k + 2
  | 0 => rfl
  | k + 1 => by rw [wayL, List.length_append, wayL_len sw start k]; rfl
theorem way_sub4 {m g l c s i : Addr × Obj} {r : List (Addr × Obj)} : ∀ q ∈ [i] ++ (m :: l :: c :: s :: r), q ∈ m :: g :: l :: c :: s :: i :: r :=
  (sub_at 5 rfl (sub_at 0 rfl (sub_at 2 rfl (sub_at 3 rfl (sub_at 4 rfl (sub_end 6 (fun _ h => h)))))))
theorem way_off4 {I M Ln Cc : Addr} {mo lo lo' co co' : Obj} {g s : Addr × Obj} {news tl0 tl : List (Addr × Obj)} (h : Off I (g :: (Ln, lo) :: (Cc, co) :: s :: (news ++ tl0))) (hM : M ≠ I) (ht : Off I tl) : Off I ((M, mo) :: (Ln, lo') :: (Cc, co') :: s :: (news ++ (tl0 ++ tl))) := by
  have h7 : Off I (news ++ tl0) := h.tail.tail.tail.tail
  rw [← List.append_assoc]
  exact Off.cons hM (Off.cons (h (Ln, lo) (.tail _ (.head _))) (Off.cons (h (Cc, co) (.tail _ (.tail _ (.head _)))) (Off.cons (h _ (.tail _ (.tail _ (.tail _ (.head _))))) (h7.app ht))))
theorem c_ways (w : World) (ls : Addr) (spv : List Value) (sw : List (List Ws)) (ns : Nat) (z start : Int) (ts : Tok) (pre news : List (Addr × Obj)) (hS : All2 (SpotAt w pre) spv sw) (hp : ∀ q ∈ pre, q ∈ news) (hz : 4 ≤ z ∧ z ≤ 7) (hzl : (sw.length : Int) = z) (hst : 0 ≤ start ∧ start < z) (hb : ∀ k, k ≤ 6 → (wayG sw start k).length ≤ 200) (hsl : ∀ ws ∈ sw, ws.length ≤ 20) (hln : Off ls news) :
    CallsN w 20 346 [.ref ls, .int start ts] ((ls, W.listOf spv.toArray ns) :: news) (fun r news' => ∃ D vs e, r = .ref D ∧ IntsAre vs (wayL sw start (sw.length - 1)) ∧ news' = (D, W.listOf vs.toArray e) :: (ls, W.listOf spv.toArray ns) :: news) := by
  unfold CallsN
  intro p loose mean mg mb dp un gd cn cs a ccd cl outer A₀ base h₀ L m s Q E B F X N T hk hd hu hret
  have hS2 := hS.imp fun a b h => h.mono hp
  clear hS hp
  have hspl := hS2.length
  have hspl2 : spv.length = z.toNat := by omega
  refine wpAny_call ?_
  k_dflt (refine' code_defC ?k1 ?k2 ?k3 ?k4 ?k5 ?kA ?kF ?kK ?k6 ?k7 ?k8 ?k9 ?kB ?kD ?_ ?c2 ?c3 ?c4; (case kA => exact rfl); (case kF => exact rfl); (case kK => assumption); (case k1 => k_asm); (case k2 => k_asm); (case k3 => k_asm); (case k4 => k_asm); (case k5 => k_asm); (case k6 => k_is); (case k7 => k_is); (case k8 => ktr_room); (case k9 => exact BindsTo.of_eq rfl); (case kB => exact rfl); (case kD => decide +kernel); (case c2 => exact rfl); (case c3 => exact rfl); (case c4 => exact rfl); k_whole; intro g' L' h' tk' cells' FG' F' N' Y' B' X' T' l1; k_cells Y'; (try simp only [List.cons_append, List.nil_append] at N'); (try dsimp only); (try k_fold))
  (repeat (fail_if_success (with_reducible show wpAny _ _ (call (Value.builtin "len") _) _ _ _)); first | (k_unfold; (try dsimp only)) | walk1 | (dsimp only; walk1))
  (with_reducible rename News _ _ _ _ => lN)
  k_dflt (refine lenL (News.isList lN (.tail _ (.head _))) hspl2 (by omega) ?_)
  rw [show ((z.toNat : Nat) : Int) = z from by omega]
  (repeat (fail_if_success (with_reducible show wpAny _ _ (exec (Stmt.For _ _ _ _ _) _) _ _ _)); first | (k_unfold; (try dsimp only)) | walk1 | (dsimp only; walk1))
  (with_reducible rename Fr _ _ _ _ => lF)
  (with_reducible rename News _ _ _ _ => lN)
  (with_reducible rename _ < _ ∧ _ < _ ∧ _ < _ ∧ _ < _ ∧ AllLt _ _ => o3)
  (with_reducible rename _ < _ ∧ _ < _ ∧ _ < _ ∧ AllLt _ _ => o2)
  (with_reducible rename _ < _ ∧ _ < _ ∧ AllLt _ _ => o1)
  refine an5 o3 ?_; clear o3; rintro q1 q2 q3 q4 q5
  refine an4 o2 ?_; clear o2; rintro r1 r2 r3 r4
  refine an3 o1 ?_; clear o1; rintro s1 s2 s3
  rename (∀ p : Addr × Obj, p ∈ _ → p.1 < L') => lI
  have lN2 := way_led lN
  clear lN
  refine way_names q1 r1 s1 ?_
  rintro gD E0 Ln rfl rfl rfl
  have hO : WyO Ln (L' + 1) ls news := ⟨Nat.ne_of_gt s1, Nat.ne_of_gt s2, off_of_lt s3, Ne.symm (Nat.ne_of_lt (Nat.lt_succ_of_lt (lI _ (.head _)))), fun q hq => Nat.ne_of_lt (Nat.lt_succ_of_lt (lI q (.tail _ hq)))⟩
  have hgn : @Ne Nat gD Ln := Nat.ne_of_gt q2
  have hgc : @Ne Nat gD (L' + 1) := Nat.ne_of_gt q3
  have hEn : @Ne Nat E0 Ln := Nat.ne_of_gt r1
  have hEc : @Ne Nat E0 (L' + 1) := Nat.ne_of_gt r2
  clear q1 q2 q3 q4 q5 r1 r2 r3 r4 s1 s2 s3 lI
  (with_reducible rename Obj.data _ = Data.cell _ => dC)
  have hcell : CellOk _ := ⟨_, dC⟩
  clear dC
  k_dflt (refine For_turns lF ?_)
  (repeat (fail_if_success (with_reducible show wpAny _ _ (pyIter _) _ _ _)); first | (k_unfold; (try dsimp only)) | walk1 | (dsimp only; walk1))
  (with_reducible rename Fr _ _ _ _ => lF)
  (with_reducible rename IsRange _ _ _ _ _ _ _ _ => lR)
  (with_reducible rename News _ _ _ _ => lN)
  refine tl_rangeC (σ := WxS) (n := (z - 1).toNat) (fun st => (st.gD, W.listOf st.gvs.toArray st.gep) :: (Ln, W.listOf st.lvs.toArray st.lep) :: (L' + 1, st.oc) :: (ls, W.listOf spv.toArray ns) :: (news ++ st.tl)) (fun st => [(Str.ofString "given", .ref st.gD)]) (fun st => WxF w news Ln (L' + 1) st) [Str.ofString "k", Str.ofString "more", Str.ofString "taken"] (fun k st => WxP sw start k st) ⟨[.int 0 _, .int 1 _], [0, 1], 0, gD, [.ref E0], 0, [[]], [(E0, _)], _⟩ (by rfl) lR (small_one (by omega) (by omega) (by omega) (by omega)) (rangeSize_nat _ _) lF lN ⟨.cons _ _ (.cons _ _ .nil), .cons ⟨E0, [], 0, rfl, List.mem_append_right _ (.head _), .nil⟩ .nil, hcell, hgn, hgc, Off.cons hEn off_nil, Off.cons hEc off_nil⟩ (List.forall_mem_cons.mpr ⟨rfl, List.forall_mem_nil _⟩) ⟨rfl, rfl⟩ ?turn ?done
  case turn =>
    clear lF lN lR hgn hgc hEn hEc hcell
    rintro ⟨lvs, lns, lep, gD, gvs, gep, given, tl0, oc⟩ k t u h9 tk9 I8 o8 hk hoI hoc8 hF hP F9 N9
    obtain ⟨hli, hgv, hce, hgn, hgc, hon, hoc⟩ := hF
    obtain ⟨hg, hl⟩ := hP
    dsimp only at hli hgv hce hgn hgc hon hoc hg hl hoI F9 N9 ⊢
    have hgl := hgv.length
    have hk6 : k ≤ 5 := by omega
    have hgb := hb k (by omega)
    have hgb2 := hb (k + 1) (by omega)
    rw [← hg] at hgb
    have hgl2 : gvs.length ≤ 200 := by omega
    (try k_fold)
    (repeat (fail_if_success (with_reducible show wpAny _ _ (exec (Stmt.For _ _ _ _ _) _) _ _ _)); first | (k_unfold; (try dsimp only)) | walk1 | (dsimp only; walk1))
    (with_reducible rename Fr _ _ _ _ => lF)
    (with_reducible rename News _ _ _ _ => lN)
    (with_reducible rename _ < _ ∧ _ < _ ∧ _ < _ ∧ _ < _ ∧ _ < _ ∧ AllLt _ _ => o3)
    refine an6 o3 ?_; clear o3; rintro q1 q2 q3 q4 q5 q6
    have lN2 := way_led2 lN
    clear lN
    refine way_name1 q1 ?_
    rintro M rfl
    have hM : WyM M I8 gD Ln (L' + 1) ls (news ++ tl0) := ⟨Nat.ne_of_gt q1, Nat.ne_of_gt q2, Nat.ne_of_gt q3, Nat.ne_of_gt q4, Nat.ne_of_gt q5, off_of_lt q6⟩
    clear q1 q2 q3 q4 q5 q6
    have hW : WyG gD Ln (L' + 1) tl0 := ⟨hgn, hgc, hon, hoc⟩
    have hI8 : Off I8 ((gD, W.listOf gvs.toArray gep) :: (Ln, W.listOf lvs.toArray lep) :: (L' + 1, oc) :: (ls, W.listOf spv.toArray ns) :: (news ++ tl0)) := hoI
    clear hgn hgc hon hoc hoI
    k_dflt (refine For_turns lF ?_)
    (repeat (fail_if_success (with_reducible show wpAny _ _ (pyIter _) _ _ _)); first | (k_unfold; (try dsimp only)) | walk1 | (dsimp only; walk1))
    refine tl_listC (σ := WyS) (vs := gvs) (fun st => (M, W.listOf st.mvs.toArray st.mep) :: (gD, W.listOf gvs.toArray gep) :: (Ln, W.listOf lvs.toArray lep) :: (L' + 1, st.oc) :: (ls, W.listOf spv.toArray ns) :: (I8, o8) :: (news ++ (tl0 ++ st.tl))) (fun st => []) (fun st => WyF w news tl0 M Ln (L' + 1) I8 st) [Str.ofString "taken"] (fun i st => st.more = nextG (spotOf sw start k) (given.take i)) ⟨[], 0, [], oc, []⟩ (by rfl) lF lN2 (fun _ _ => .tail _ (.head _)) ⟨.nil, hce, off_nil, off_nil, off_nil, off_nil⟩ (List.forall_mem_nil _) rfl ?turn1 ?done1
    case turn1 =>
      clear lF lN2 hce
      rintro ⟨mvs, mep, more, oc, tl⟩ i v u2 h7 tk7 I9 o9 hv hoI9 hoc9 hF hP F7 N7
      obtain ⟨hmv, hce, hoM, hoL, hoC, ho8⟩ := hF
      dsimp only at hmv hce hoM hoL hoC ho8 hP hoI9 F7 N7 ⊢
      refine spot_at hgv hv ?_
      rintro tws T tvs tep hti rfl hmT hTw
      have hmT2 := way_mem (tl := tl) hmT
      have hTw2 := hTw.imp fun a b h => h.mono (fun q hq => way_mem (tl := tl) hq)
      have htl : tvs.length ≤ 6 := by
        have h1 := hTw.length
        have h2 := way_len sw start k tws (hg ▸ List.mem_of_getElem? hti)
        omega
      (try k_fold)
      (repeat (fail_if_success (with_reducible show wpAny _ _ (exec (Stmt.For _ _ _ _ _) _) _ _ _)); first | (k_unfold; (try dsimp only)) | walk1 | (dsimp only; walk1))
      (with_reducible rename Fr _ _ _ _ => lF)
      k_dflt (refine For_turns lF ?_)
      (repeat (fail_if_success (with_reducible show wpAny _ _ (subscriptTail _ _ _ _) _ _ _)); first | (k_unfold; (try dsimp only)) | walk1 | (dsimp only; walk1))
      have hXO := spot_get (start := start) (k := k) hS2 (by omega)
      refine ex3 hXO ?_; clear hXO; rintro Ds ovs oep hXO
      refine an3 hXO ?_; clear hXO; rintro hsv hmD hoW
      rw [hzl] at hsv
      have hol := hoW.length
      have hol2 : (spotOf sw start k).length ≤ 20 := spot_len hsl
      have hf1 := Int.fmod_nonneg_of_pos (start + (1 + (k : Int))) (show (0 : Int) < z by omega)
      have hf2 := Int.fmod_lt_of_pos (start + (1 + (k : Int))) (show (0 : Int) < z by omega)
      have hoW2 := hoW.imp fun a b h => h.mono (fun q hq => way_mem (tl := tl) (List.mem_append_left tl0 hq))
      (with_reducible rename News _ _ _ _ => lN)
      k_dflt (refine item_listL (News.isList lN (.tail _ (.tail _ (.tail _ (.tail _ (.tail _ (.head _))))))) hf1 (by omega) (x := .ref Ds) hsv ?_)
      (repeat (fail_if_success (with_reducible show wpAny _ _ (pyIter _) _ _ _)); first | (k_unfold; (try dsimp only)) | walk1 | (dsimp only; walk1))
      (with_reducible rename Fr _ _ _ _ => lF)
      have lN2 := way_led3 lN
      clear lN
      refine tl_listC (σ := WyS) (vs := ovs) (fun st => (M, W.listOf st.mvs.toArray st.mep) :: (gD, W.listOf gvs.toArray gep) :: (Ln, W.listOf lvs.toArray lep) :: (L' + 1, st.oc) :: (ls, W.listOf spv.toArray ns) :: (I8, o8) :: (I9, o9) :: (news ++ (tl0 ++ st.tl))) (fun st => []) (fun st => WyF w news tl0 M Ln (L' + 1) I8 st ∧ Off I9 st.tl) [] (fun j st => st.more = nextG (spotOf sw start k) (given.take i) ++ moreOf ((spotOf sw start k).take j) tws) ⟨mvs, mep, more, oc, tl⟩ (by rfl) lF lN2 (fun _ _ => .tail _ (.tail _ (.tail _ (.tail _ (.tail _ (.tail _ (.tail _ (List.mem_append_left _ hmD)))))))) ⟨⟨hmv, hce, hoM, hoL, hoC, ho8⟩, way_tl hoI9⟩ (List.forall_mem_nil _) (by dsimp only; rw [hP]; simp [moreOf]) ?turn2 ?done2
      case turn2 =>
        clear lF lN2 hmv hce hoM hoL hoC ho8 hTw2 hoW2 hmT2
        rintro ⟨mvs, mep, more, oc, tl⟩ j v u3 h5 tk5 I7 o7 hv7 hoI7 hoc7 ⟨hF, ho9⟩ hP5 F5 N5
        obtain ⟨hmv, hce, hoM, hoL, hoC, ho8⟩ := hF
        dsimp only at hmv hce hoM hoL hoC ho8 ho9 hP5 hoI7 F5 N5 ⊢
        have hmT2 := way_mem (tl := tl) hmT
        have hTw2 := hTw.imp fun a b h => h.mono (fun q hq => way_mem (tl := tl) hq)
        have hoW2 := hoW.imp fun a b h => h.mono (fun q hq => way_mem (tl := tl) (List.mem_append_left tl0 hq))
        obtain ⟨ow, how, hWo⟩ := hoW2.get hv7
        (try k_fold)
        (repeat (first | (k_unfold; (try dsimp only)) | walk1 | (dsimp only; walk1)))
        (with_reducible rename Fr _ _ _ _ => lF)
        (with_reducible rename News _ _ _ _ => lN)
        obtain ⟨cv, hcv⟩ := hce
        k_dflt (refine storeX_C lF lN (by rfl) (updF_of (own := [_, _, _, _]) (Off.cons (Ne.symm hO.cl) (Off.cons (Ne.symm (hI8 _ (.tail _ (.tail _ (.head _))))) (Off.cons (Ne.symm (hoI9 _ (.tail _ (.tail _ (.tail _ (.head _)))))) (hO.cn.app (hW.oc.app hoC))))) (Off.cons (Ne.symm (hoI7 _ (.tail _ (.tail _ (.tail _ (.head _)))))) (Off.cons hM.c (Off.cons hW.gc (Off.cons hO.lc off_nil))))) hcv ?_ (by rfl) (by rfl))
        clear lF lN
        intro h4 o4 F4 N4 d4
        dsimp only [List.cons_append, List.nil_append] at N4
        have hWo2 := hWo
        refine hWo.openW ?_
        clear hWo
        rintro c1 t1 x1 d1 tn1 tc1 vs1 u1 u2 u3 k0 k1 k2 k3 k4 v1 rfl hI1 hs1
        have N3 := way_led4 (T := (T, W.listOf tvs.toArray tep)) N4 hmT2 hs1
        clear N4 hs1
        unfold whiteD at N3
        (try dsimp only)
        (try k_fold)
        (repeat (fail_if_success (with_reducible show wpAny _ _ (eval (Expr.ListComp _ _ _ _) _) _ _ _)); first | (k_unfold; (try dsimp only)) | walk1 | (dsimp only; walk1))
        (with_reducible rename Fr _ _ _ _ => lF)
        (with_reducible rename News _ _ _ _ => lN)
        k_dflt (refine gx_name lF (by rfl) (by with_unfolding_all rfl) (by decide) (by rfl) (by decide) (by rfl) (by intro _; rfl) ?_)
        (repeat (fail_if_success (with_reducible show wpAny _ _ (pyIter _) _ _ _)); first | (k_unfold; (try dsimp only)) | walk1 | (dsimp only; walk1))
        k_dflt (refine gx_list (vs := tvs) (by rfl) lF lN (.tail _ (.tail _ (.tail _ (.tail _ (.head _))))) (by omega) ?_)
        intro I6 h3 hsz old
        refine ⟨fun i tl ys => All2 (fun o y => y = Value.bool (sameW ow o)) (tws.take i) ys, .nil, ?el, ?fin⟩
        case el =>
          rintro i6 v6 C9 oC9 mC9 D9 ys9 tl9 its9 h7 tk7 E7 hi6 ⟨_, hv6⟩ hInv hC9 hx9 hits F7 N7 hyl hDC
          clear lF lN
          obtain ⟨o6, rfl⟩ := objs1 hits
          have hv6 := hv6
          obtain ⟨os6, hos6, hWs6⟩ := hTw2.get hv6
          show wpAny _ _ (eval _ _) _ _ _
          dsimp only [List.cons_append, List.nil_append] at N7
          (try dsimp only)
          (try k_fold)
          (repeat (fail_if_success (with_reducible show wpAny _ _ (call (Value.ref _) _) _ _ _)); first | (k_unfold; (try dsimp only)) | walk1 | (dsimp only; walk1))
          k_dflt (refine CallsN.use (c_equal w _ _ ow os6 (news ++ (tl0 ++ tl)) _ hWo2 hWs6 (fun q hq => .tail _ (.tail _ (.tail _ (.tail _ (.tail _ (.tail _ (.tail _ (.tail _ (.tail _ (.tail _ (.tail _ (.tail _ (.tail _ (.tail _ (.tail _ (.tail _ (List.mem_append_left _ hq)))))))))))))))))) (by k_asm) (by k_asm) (by k_asm) (by k_asm) (by k_asm) (by first | exact rfl | assumption) (by ktr_room) (by ktr_units) ?_)
          rintro r4 h4 tk4 nw4 F4 N4 ⟨rfl, rfl⟩
          (try dsimp only)
          (try k_fold)
          (repeat (fail_if_success (with_reducible refine GxVal_stop ?_)); first | (k_unfold; (try dsimp only)) | walk1 | (dsimp only; walk1))
          (with_reducible rename Fr _ _ _ _ => fE)
          (with_reducible rename News _ _ _ _ => nE)
          refine gx_plain fE nE ?_ ?_
          · exact fun q hq => hq
          · rw [List.take_add_one, hos6]
            exact All2.snoc (R := fun o y => y = Value.bool (sameW ow o)) rfl hInv
        case fin =>
          rintro D9 ys9 tl9 hInv hyl h7 tk7 F7 N7
          clear lF lN
          have hInv := hInv
          rw [hTw.length, List.take_length] at hInv
          dsimp only [List.cons_append, List.nil_append] at N7
          (try dsimp only)
          (try k_fold)
          (repeat (fail_if_success (with_reducible show wpAny _ _ (compareOp _ _ _) _ _ _)); first | (k_unfold; (try dsimp only)) | walk1 | (dsimp only; walk1))
          (with_reducible rename News _ _ _ _ => lN)
          k_dflt (refine bools_notIn (g := sameW ow) lN (.head _) hInv (by first | ktr_units | (simp only [Around.deeper, ktrTop]; omega)) ?_)
          rw [show (!tws.any (sameW ow)) = freeW ow tws from rfl]
          have lN2 := way_led5 lN
          clear lN
          have hL5 := (next_le (os := spotOf sw start k) (j := j) hti)
          (try dsimp only)
          (try k_fold)
          (repeat (fail_if_success (with_reducible show wpAny _ _ (binaryOp _ (Value.ref _) (Value.ref _)) _ _ _)); (fail_if_success (with_reducible refine UnrEndW_stop ?_)); first | (k_unfold; (try dsimp only)) | walk1 | (dsimp only; walk1))
          · (with_reducible rename freeW ow tws = true => hfr)
            (with_reducible rename Fr _ _ _ _ => lF)
            (with_reducible rename News _ _ _ _ => lN)
            k_dflt (refine li_add (ys := tvs) (ys2 := [.ref x1]) lF lN (.tail _ (.head _)) (.head _) (by rw [PySem.sizeLine_eq]; simp only [List.length_cons, List.length_nil]; omega) ?_)
            clear lF lN
            intro D4 h2 F2 N2 lD
            have e7 := Nat.ne_of_gt (lD _ (.tail _ (.tail _ (.head _))))
            have eM := Nat.ne_of_gt (lD _ (.tail _ (.tail _ (.tail _ (.head _)))))
            have eL := Nat.ne_of_gt (lD _ (.tail _ (.tail _ (.tail _ (.tail _ (.tail _ (.head _)))))))
            have eC := Nat.ne_of_gt (lD _ (.tail _ (.tail _ (.tail _ (.tail _ (.tail _ (.tail _ (.head _))))))))
            have e8 := Nat.ne_of_gt (lD _ (.tail _ (.tail _ (.tail _ (.tail _ (.tail _ (.tail _ (.tail _ (.tail _ (.head _))))))))))
            have e9 := Nat.ne_of_gt (lD _ (.tail _ (.tail _ (.tail _ (.tail _ (.tail _ (.tail _ (.tail _ (.tail _ (.tail _ (.head _)))))))))))
            clear lD
            have N1 := way_led6 N2
            clear N2
            (try dsimp only)
            (try k_fold)
            (repeat (fail_if_success (with_reducible show wpAny _ _ (call (Value.builtin "list.append") _) _ _ _)); first | (k_unfold; (try dsimp only)) | walk1 | (dsimp only; walk1))
            (with_reducible rename Fr _ _ _ _ => lF)
            (with_reducible rename News _ _ _ _ => lN)
            have hoMr : Off M (news ++ (tl0 ++ tl)) := by rw [← List.append_assoc]; exact hM.r.app hoM
            have hml := hmv.length
            have hP6 := congrArg List.length hP5
            rw [hg] at hP6 hL5
            k_dflt (refine li_push [_, _] lF lN (Off.cons eM (Off.cons (Ne.symm (hoI7 _ (.head _))) off_nil)) (Off.cons (Ne.symm hM.g) (Off.cons (Ne.symm hM.l) (Off.cons (Ne.symm hM.c) (Off.cons (Ne.symm hM.s) (Off.cons (Ne.symm hM.i) (Off.cons (Ne.symm (hoI9 _ (.head _))) hoMr)))))) (by rw [wayG] at hgb2; omega) ?_)
            clear lF lN
            intro h1 F1 N1
            dsimp only [List.cons_append, List.nil_append] at N1
            (try dsimp only)
            (try k_fold)
            repeat' (first | (k_unfold; (try dsimp only)) | (k_end; wrow_close) | ((fail_if_success (with_reducible refine UnrEndW_stop ?_)); walk1) | ((fail_if_success (with_reducible refine UnrEndW_stop ?_)); dsimp only; walk1) | (leave1; walk_say "STEP leave1"; (try dsimp only)) | fail "no step")
            (with_reducible rename News _ _ _ _ => nE)
            (with_reducible rename Fr _ _ _ _ => nF)
            refine tl_end ⟨mvs ++ [.ref D4], mep + 1, more ++ [tws ++ [ow]], o4, tl ++ [(D4, W.listOf (tvs ++ [Value.ref x1]).toArray 0)]⟩ nF nE way_sub ?s2 (List.forall_mem_nil _) (by intro z h1 h2; simp [kstB]) ⟨⟨?s3, ⟨_, d4⟩, hoM.app (Off.cons eM off_nil), hoL.app (Off.cons eL off_nil), hoC.app (Off.cons eC off_nil), ho8.app (Off.cons e8 off_nil)⟩, ho9.app (Off.cons e9 off_nil)⟩ ?s4
            case s2 => exact List.forall_mem_singleton.mpr (way_off hoI7 e7)
            case s3 => exact all2_app (hmv.imp fun a b h => h.mono way_up) (.cons ⟨D4, tvs ++ [.ref x1], 0, rfl, way_new, all2_app (hTw2.imp fun a b h => h.mono way_up) (.cons (hWo2.mono way_up) .nil)⟩ .nil)
            case s4 =>
              dsimp only
              rw [more_take how, if_pos hfr, ← List.append_assoc, ← hP5]
          · (with_reducible rename freeW ow tws = false => hfr)
            repeat' (first | (k_unfold; (try dsimp only)) | (k_end; wrow_close) | ((fail_if_success (with_reducible refine UnrEndW_stop ?_)); walk1) | ((fail_if_success (with_reducible refine UnrEndW_stop ?_)); dsimp only; walk1) | (leave1; walk_say "STEP leave1"; (try dsimp only)) | fail "no step")
            (with_reducible rename News _ _ _ _ => nE)
            (with_reducible rename Fr _ _ _ _ => nF)
            exact tl_end ⟨mvs, mep, more, o4, tl⟩ nF nE way_sub2 (List.forall_mem_singleton.mpr (way_off2 hoI7)) (List.forall_mem_nil _) (by intro z h1 h2; simp [kstB]) ⟨⟨hmv, ⟨_, d4⟩, hoM, hoL, hoC, ho8⟩, ho9⟩ (by dsimp only; rw [more_take how, if_neg (by rw [hfr]; exact Bool.false_ne_true), ← hP5])
      case done2 =>
        clear lF lN2 hmv hce hoM hoL hoC ho8 hTw2 hoW2 hmT2
        rintro ⟨mvs, mep, more, oc, tl⟩ u3 h5 tk5 ⟨hF, ho9⟩ hP5 F5 N5
        obtain ⟨hmv, hce, hoM, hoL, hoC, ho8⟩ := hF
        dsimp only at hmv hce hoM hoL hoC ho8 ho9 hP5 F5 N5 ⊢
        rw [hol, List.take_length] at hP5
        have hPn : more = nextG (spotOf sw start k) (given.take (i + 1)) := by rw [next_take hti]; exact hP5
        clear hP5
        repeat' (first | (k_unfold; (try dsimp only)) | (k_end; wrow_close) | ((fail_if_success (with_reducible refine UnrEndW_stop ?_)); walk1) | ((fail_if_success (with_reducible refine UnrEndW_stop ?_)); dsimp only; walk1) | (leave1; walk_say "STEP leave1"; (try dsimp only)) | fail "no step")
        (with_reducible rename News _ _ _ _ => nE)
        (with_reducible rename Fr _ _ _ _ => nF)
        exact tl_end ⟨mvs, mep, more, oc, tl⟩ nF nE way_sub3 (List.forall_mem_singleton.mpr (way_off3 hoI9 ho9)) (List.forall_mem_nil _) (by intro z h1 h2; simp only [List.contains_cons, List.contains_nil, Bool.or_false, beq_eq_false_iff_ne, ne_eq] at h2; simp [h2, kstB]) ⟨hmv, hce, hoM, hoL, hoC, ho8⟩ hPn
    case done1 =>
      clear lF lN2 hce
      rintro ⟨mvs, mep, more, oc, tl⟩ u2 h7 tk7 hF hP F7 N7
      obtain ⟨hmv, hce, hoM, hoL, hoC, ho8⟩ := hF
      dsimp only at hmv hce hoM hoL hoC ho8 hP F7 N7 ⊢
      rw [hgl, List.take_length] at hP
      (try k_fold)
      have hgN : more = wayG sw start (k + 1) := by rw [wayG, ← hg]; exact hP
      have hml := hmv.length
      have hmb : more.length ≤ 200 := by rw [hgN]; exact hgb2
      have hlb : lvs.length ≤ 10 := by
        have h1 := hli.length
        rw [hl, wayL_len] at h1
        omega
      (repeat (fail_if_success (with_reducible show wpAny _ _ (call (Value.builtin "len") _) _ _ _)); first | (k_unfold; (try dsimp only)) | walk1 | (dsimp only; walk1))
      (with_reducible rename News _ _ _ _ => lN)
      k_dflt (refine lenL (News.isList lN (.head _)) hml (by omega) ?_)
      (repeat (fail_if_success (with_reducible show wpAny _ _ (call (Value.builtin "list.append") _) _ _ _)); first | (k_unfold; (try dsimp only)) | walk1 | (dsimp only; walk1))
      (with_reducible rename Fr _ _ _ _ => lF)
      k_dflt (refine li_push [_, _] lF lN (Off.cons hM.l (Off.cons hW.gn off_nil)) (Off.cons (Ne.symm hO.lc) (Off.cons (Ne.symm hO.ll) (Off.cons (Ne.symm (hI8 _ (.tail _ (.head _)))) (hO.ln.app (hW.on.app hoL))))) (by omega) ?_)
      clear lF lN
      intro h1 F1 N1
      dsimp only [List.cons_append, List.nil_append] at N1
      (try dsimp only)
      (try k_fold)
      repeat' (first | (k_unfold; (try dsimp only)) | (k_end; wrow_close) | ((fail_if_success (with_reducible refine UnrEndW_stop ?_)); walk1) | ((fail_if_success (with_reducible refine UnrEndW_stop ?_)); dsimp only; walk1) | (leave1; walk_say "STEP leave1"; (try dsimp only)) | fail "no step")
      (with_reducible rename News _ _ _ _ => nE)
      (with_reducible rename Fr _ _ _ _ => nF)
      exact tl_end ⟨lvs ++ [.int (more.length : Int) _], lns ++ [(more.length : Int)], lep + 1, M, mvs, mep, more, tl0 ++ tl, oc⟩ nF nE way_sub4 (List.forall_mem_singleton.mpr (way_off4 hI8 hM.i ho8)) (List.forall_mem_cons.mpr ⟨by with_unfolding_all rfl, List.forall_mem_nil _⟩) (by intro z h1 h2; simp only [List.forall_mem_cons, List.not_mem_nil, false_implies, implies_true, and_true, ne_eq] at h1; simp only [List.contains_cons, List.contains_nil, Bool.or_false, Bool.or_eq_false_iff, beq_eq_false_iff_ne, ne_eq] at h2; simp [h1, h2, kstB]) ⟨hli.append (.cons _ _ .nil), hmv, hce, hM.l, hM.c, hW.on.app hoL, hW.oc.app hoC⟩ ⟨hgN, by dsimp only; rw [wayL, ← hgN, hl]⟩
  case done =>
    clear lF lN lR hgn hgc hEn hEc hcell
    rintro ⟨lvs, lns, lep, gD, gvs, gep, given, tl0, oc⟩ u h9 tk9 hF hP F9 N9
    obtain ⟨hli, hgv, hce, hgn, hgc, hon, hoc⟩ := hF
    obtain ⟨hg, hl⟩ := hP
    dsimp only at hli hl F9 N9 ⊢
    (try k_fold)
    (repeat (first | (k_unfold; (try dsimp only)) | walk1 | (dsimp only; walk1)))
    (with_reducible rename News h₀ L _ _ => nE)
    subst hl
    rw [show sw.length - 1 = (z - 1).toNat by omega] at *
    exact hret.out _ _ _ _ (by k_asm) (fun q hq => nE q (way_end hq)) ⟨Ln, lvs, lep, rfl, hli, rfl⟩
end Mine
end
section
open PySem PySem.W PyProof.Rows
namespace Mine
noncomputable def explore : Nat → List (List Int) → List (Int × Int) → Nat → List (Option (List (List Int)))
  | 0, _, _, _ => [none]
  | f + 1, ts, es, k => match es[k]? with
    | none => [some ts]
    | some (lo, hi) => if hi - lo > 1 then (List.range (hi - lo - 1).toNat).flatMap fun (r : Nat) => explore f (ts ++ [[lo, lo + 1 + (r : Int), hi]]) (es ++ [(lo, lo + 1 + (r : Int)), (lo + 1 + (r : Int), hi)]) (k + 1)
      else explore f ts es (k + 1)
theorem go_mem (d : List Int) : ∀ (f : Nat) (ts : List (List Int)) (es : List (Int × Int)) (k : Nat), triGo d f ts es k ∈ explore f ts es k := by
  intro f
  induction f with
  | zero => intro ts es k; simp [triGo, explore]
  | succ f ih =>
    intro ts es k
    rw [triGo, explore]
    cases he : es[k]? with
    | none => simp
    | some e =>
      obtain ⟨lo, hi⟩ := e
      dsimp only
      by_cases hg : hi - lo > 1
      · rw [if_pos hg, if_pos hg]
        have m1 := Int.fmod_nonneg_of_pos (d.getD (1 + (ts.length : Int)).toNat 0) (show 0 < hi - lo - 1 by omega)
        have m2 := Int.fmod_lt_of_pos (d.getD (1 + (ts.length : Int)).toNat 0) (show 0 < hi - lo - 1 by omega)
        rw [List.mem_flatMap]
        refine ⟨((d.getD (1 + (ts.length : Int)).toNat 0).fmod (hi - lo - 1)).toNat, List.mem_range.mpr (by omega), ?_⟩
        rw [show ((((d.getD (1 + (ts.length : Int)).toNat 0).fmod (hi - lo - 1)).toNat : Nat) : Int) = (d.getD (1 + (ts.length : Int)).toNat 0).fmod (hi - lo - 1) from by omega]
        exact ih _ _ _
      · rw [if_neg hg, if_neg hg]
        exact ih _ _ _
noncomputable def numOf (cs : List Int) : Int := (cs.map fun c => (8 : Int) ^ c.toNat).sum
noncomputable def bitsOf (z : Nat) (n : Int) : List Int := ((List.range z).map fun (k : Nat) => (k : Int)).filter fun k => (n.fdiv ((8 : Int) ^ k.toNat)).fmod 8 == 1
noncomputable def octs0 (ts : List (List Int)) : List Int := (ts.map fun cs => (octD (numOf cs)).reverse).flatten
noncomputable def rotAll (ts : List (List Int)) : List (Int × List Int) := ts.flatMap fun cs => (List.range 3).map fun k => (cs.getD k 0, cs.drop k ++ cs.take k)
noncomputable def spotC (ts : List (List Int)) (c : Int) : List Ws := ((rotAll ts).filter fun r => r.1 == c).map fun r => wsOf r.2 0
noncomputable def spotsP (z : Nat) (ts : List (List Int)) : List (List Ws) := (List.range z).map fun (c : Nat) => spotC ts (c : Int)
noncomputable def lineP (z : Nat) (cnt : List Int) (k : Nat) : Nat → List Int
  | 0 => [0, 1]
  | j + 1 => lineP z cnt k j ++ [cnt.getD ((k + (j + 1)) % z) 0 * (lineP z cnt k j).getD (j + 1) 0 - (lineP z cnt k j).getD j 0]
noncomputable def tiedP (z : Nat) (ts : List (List Int)) (k j : Nat) : Bool := ts.any fun cs => cs.contains (k : Int) && cs.contains (((k + (j + 1)) % z : Nat) : Int)
noncomputable def triOkB (cs : List Int) : Bool := cs.length == 3 && cs.all fun c => decide (0 ≤ c ∧ c ≤ 6)
noncomputable def okA (z : Nat) (ts : List (List Int)) : Bool := decide (ts.length ≤ 5) && (ts.all triOkB && (ts.all (fun cs => bitsOf z (numOf cs) == cs) && (rdNums 20 (octs0 ts) 0 == some (ts.map numOf))))
noncomputable def okB (z : Nat) (ts : List (List Int)) : Bool := (List.range 4).all fun b =>
  let st := wsOf ts.flatten (b : Int)
  decide (st.n = ((ts.map fun cs => cs.sum + 3).sum) + (b : Int)) && (decide (st.nt = 3 * (ts.length : Int)) && (st.cnt.length == z && (decide (st.b = (b : Int)) && ((List.range 2).all fun e => sameW st (wsOf ts.reverse.flatten ((b : Int) + (e : Int))) == (e == 0)))))
noncomputable def okC (z : Nat) (ts : List (List Int)) : Bool :=
  let sw := spotsP z ts
  let cnt := (wsOf ts.flatten 0).cnt
  (sw.all fun l => decide (l.length ≤ 15)) && ((List.range z).all fun k =>
    ((List.range 7).all fun i => decide ((wayG sw (k : Int) i).length ≤ 200)) && ((lineP z cnt k (z - 1) == wayL sw (k : Int) (z - 1)) && ((List.range (z - 1)).all fun j => (((lineP z cnt k (j + 1)).getD (j + 1) 0 == 1) == tiedP z ts k j))))
noncomputable def okD (z : Nat) (ts : List (List Int)) : Bool := ((List.range z).all fun c => (rotAll ts).any fun r => r.1 == (c : Int)) && ((wsOf ts.flatten 0).cnt.all (fun c => decide (0 ≤ c ∧ c ≤ 1000)) && (List.range z).all fun k => (lineP z (wsOf ts.flatten 0).cnt k (z - 1)).all fun c => decide (0 ≤ c ∧ c ≤ 1000))
end Mine
end
section
open PySem PySem.W PyProof.Rows
namespace Mine
noncomputable def allOk (g : Nat → List (List Int) → Bool) (z : Nat) : Bool := (explore 12 [] [(0, (z : Int) - 1)] 0).all fun o => match o with | none => false | some ts => g z ts
theorem allA : allOk okA 4 = true ∧ allOk okA 5 = true ∧ allOk okA 6 = true ∧ allOk okA 7 = true := by decide +kernel
theorem allB4 : allOk okB 4 = true ∧ allOk okB 5 = true := by decide +kernel
theorem allB6 : allOk okB 6 = true := by decide +kernel
theorem allB7 : allOk okB 7 = true := by decide +kernel
theorem allC4 : allOk okC 4 = true ∧ allOk okC 5 = true := by decide +kernel
theorem allC6 : allOk okC 6 = true := by decide +kernel
theorem allC7 : allOk okC 7 = true := by decide +kernel
theorem allD : allOk okD 4 = true ∧ allOk okD 5 = true ∧ allOk okD 6 = true ∧ allOk okD 7 = true := by decide +kernel
structure TrisOk (z : Nat) (ts : List (List Int)) : Prop where
  a : okA z ts = true
  b : okB z ts = true
  c : okC z ts = true
  d : okD z ts = true
theorem tris_ok {z : Int} (d : List Int) (hz : 4 ≤ z ∧ z ≤ 7) : ∃ ts, triGo d 12 [] [(0, z - 1)] 0 = some ts ∧ TrisOk z.toNat ts := by
  have hm := go_mem d 12 [] [(0, z - 1)] 0
  have key : ∀ g, allOk g 4 = true → allOk g 5 = true → allOk g 6 = true → allOk g 7 = true → ∃ ts, triGo d 12 [] [(0, z - 1)] 0 = some ts ∧ g z.toNat ts = true := by
    intro g h4 h5 h6 h7
    have hz' : allOk g z.toNat = true := by
      rcases (show z = 4 ∨ z = 5 ∨ z = 6 ∨ z = 7 by omega) with rfl | rfl | rfl | rfl
      · exact h4
      · exact h5
      · exact h6
      · exact h7
    unfold allOk at hz'
    rw [show ((z.toNat : Nat) : Int) = z by omega] at hz'
    have h1 := List.all_eq_true.mp hz' _ hm
    cases e : triGo d 12 [] [(0, z - 1)] 0 with
    | none => rw [e] at h1; exact absurd h1 Bool.false_ne_true
    | some ts => rw [e] at h1; exact ⟨ts, rfl, h1⟩
  obtain ⟨t1, e1, a⟩ := key okA allA.1 allA.2.1 allA.2.2.1 allA.2.2.2
  obtain ⟨t2, e2, b⟩ := key okB allB4.1 allB4.2 allB6 allB7
  obtain ⟨t3, e3, c⟩ := key okC allC4.1 allC4.2 allC6 allC7
  obtain ⟨t4, e4, d4⟩ := key okD allD.1 allD.2.1 allD.2.2.1 allD.2.2.2
  rw [e1] at e2 e3 e4
  obtain rfl := Option.some.inj e2
  obtain rfl := Option.some.inj e3
  obtain rfl := Option.some.inj e4
  exact ⟨t1, e1, a, b, c, d4⟩
theorem TrisOk.tri {z : Nat} {ts : List (List Int)} (h : TrisOk z ts) : ∀ cs ∈ ts, TriOk cs := by
  intro cs hcs
  have h1 := h.a
  unfold okA at h1
  simp only [Bool.and_eq_true] at h1
  have h2 := List.all_eq_true.mp h1.2.1 cs hcs
  unfold triOkB at h2
  rw [Bool.and_eq_true] at h2
  obtain ⟨hl, ha⟩ := h2
  have hl : cs.length = 3 := by simpa using hl
  match cs, hl with
  | [a, b, c], _ =>
    simp only [List.all_cons, List.all_nil, Bool.and_true, Bool.and_eq_true, decide_eq_true_eq] at ha
    exact ⟨a, b, c, rfl, ha.1, ha.2.1, ha.2.2⟩
theorem TrisOk.len {z : Nat} {ts : List (List Int)} (h : TrisOk z ts) : ts.length ≤ 5 := by
  have h1 := h.a
  unfold okA at h1
  rw [Bool.and_eq_true] at h1
  exact of_decide_eq_true h1.1
theorem TrisOk.bits {z : Nat} {ts : List (List Int)} (h : TrisOk z ts) : ∀ cs ∈ ts, bitsOf z (numOf cs) = cs := by
  intro cs hcs
  have h1 := h.a
  unfold okA at h1
  simp only [Bool.and_eq_true] at h1
  simpa using List.all_eq_true.mp h1.2.2.1 cs hcs
theorem TrisOk.read {z : Nat} {ts : List (List Int)} (h : TrisOk z ts) : rdNums 20 (octs0 ts) 0 = some (ts.map numOf) := by
  have h1 := h.a
  unfold okA at h1
  simp only [Bool.and_eq_true] at h1
  simpa using h1.2.2.2
end Mine
end
section
open PySem PySem.W PyProof.Rows
namespace Mine
structure LawEnd (h₀ : Heap) (L : Addr) (s : Shared) (Q : Flow → Shared → Prop) : Prop where
  out : ∀ h tk m, Fr h₀ L h m → Q (.ret (.bool true)) { s with heap := h, toks := tk }
theorem get_b {d : List Int} (h : d.length = 8) (k : ∀ x ∈ d, 0 ≤ x ∧ x < 1000000) (n : Nat) (hn : n < 8) : 0 ≤ d.getD n 0 ∧ d.getD n 0 < 1000000 := by
  have hl : n < d.length := by omega
  rw [List.getD_eq_getElem?_getD, List.getElem?_eq_getElem hl]
  exact k _ (List.getElem_mem hl)
theorem fmod_b (a n : Int) (h : 0 < n) : 0 ≤ a.fmod n ∧ a.fmod n < n := ⟨Int.fmod_nonneg_of_pos _ h, Int.fmod_lt_of_pos _ h⟩
@[reducible] noncomputable def lgA : { b : List PySem.Stmt // bo27.val = b } := ⟨_, by (conv => lhs; whnf; try dsimp only)⟩
@[reducible] noncomputable def lgB : { b : List PySem.Stmt // bo27.val.drop 8 = b } := ⟨_, by (conv => lhs; whnf; try dsimp only)⟩
@[reducible] noncomputable def lgC : { b : List PySem.Stmt // bo27.val.drop 15 = b } := ⟨_, by (conv => lhs; whnf; try dsimp only)⟩
@[reducible] noncomputable def lgD : { b : List PySem.Stmt // bo27.val.drop 19 = b } := ⟨_, by (conv => lhs; whnf; try dsimp only)⟩
noncomputable abbrev lawEnv (L fa : Addr) (cdv : Value) : Env := envOfC (Str.ofString "law") sc27.val L fa cdv
noncomputable abbrev lawA (L fa : Addr) (cdv : Value) : Around := callerA.deeper (lawEnv L fa cdv)
structure Has (m : Str → Option Value) (ps : List (Str × Value)) : Prop where
  all : ∀ p ∈ ps, m p.1 = some p.2
structure Agree (st : List Str) (m m' : Str → Option Value) : Prop where
  out : ∀ z, st.contains z = false → m' z = m z
theorem Has.nil {m : Str → Option Value} : Has m [] := ⟨List.forall_mem_nil _⟩
theorem Has.cons {m : Str → Option Value} {x : Str} {v : Value} {ps : List (Str × Value)} (h : m x = some v) (k : Has m ps) : Has m ((x, v) :: ps) := ⟨List.forall_mem_cons.mpr ⟨h, k.all⟩⟩
theorem Has.kst {m : Str → Option Value} {ps : List (Str × Value)} (h : Has m ps) (z : Str) : kstB m ps z = m z := kstB_eq h.all fun _ => rfl
theorem Has.fr {m : Str → Option Value} {ps : List (Str × Value)} (h : Has m ps) {h₀ g : Heap} {L : Addr} (F : Fr h₀ L g m) : Fr h₀ L g (kstB m ps) := by
  rw [show kstB m ps = m from funext h.kst]; exact F
theorem Has.app {m : Str → Option Value} {ps qs : List (Str × Value)} (h : Has m ps) (k : Has m qs) : Has m (ps ++ qs) := ⟨fun p hp => (List.mem_append.mp hp).elim (h.all p) (k.all p)⟩
theorem Agree.trans {a b : List Str} {m m' m'' : Str → Option Value} (h : Agree a m m') (k : Agree b m' m'') : Agree (a ++ b) m m'' := ⟨fun z hz => by
  have : a.contains z = false ∧ b.contains z = false := by
    simp only [List.contains_eq_mem, List.mem_append, decide_eq_false_iff_not, not_or] at hz ⊢
    exact hz
  rw [k.out z this.2, h.out z this.1]⟩
structure Nxt (w : World) (h₀ : Heap) (L fa : Addr) (cdv : Value) (rest : List PySem.Stmt) (s : Shared) (Q : Flow → Shared → Prop) (E : Value → Shared → Prop) (m : Str → Option Value) (st : List Str) (K : (Str → Option Value) → List (Addr × Obj) → Prop) : Prop where
  out : ∀ h' tk' m' news', Fr h₀ L h' m' → News h₀ L h' news' → Agree st m m' → K m' news' → wpAny (model pw w) (lawA L fa cdv) (execs rest (lawEnv L fa cdv)) Q E { s with heap := h', toks := tk' }
structure HasPO (w : World) (L fa : Addr) (cdv : Value) (E : Value → Shared → Prop) : Prop where
  po : PassesOwn (model pw w) (lawA L fa cdv) (lawEnv L fa cdv) E
end Mine
end
section
open PySem PySem.W PyProof.Rows
namespace Mine
theorem pow8 {v : Int} (h : 0 ≤ v ∧ v ≤ 7) (x : Int) : (8 : Int) ^ Int.toNat v ≠ 0 ∧ Builtin.divisionGoesByPylong x ((8 : Int) ^ Int.toNat v) = false := by
  obtain ⟨f, rfl⟩ : ∃ f : Fin 8, v = (f.1 : Int) := ⟨⟨v.toNat, by omega⟩, by show v = (v.toNat : Int); omega⟩
  have key : ∀ f : Fin 8, (8 : Int) ^ Int.toNat (f.1 : Int) ≠ 0 ∧ ((8 : Int) ^ Int.toNat (f.1 : Int)).natAbs.log2 < 9000 := by decide +kernel
  exact ⟨(key f).1, PyProof.noPylong_of_log2 (key f).2⟩
noncomputable def octsK (ts : List (List Int)) (h : Int) (k : Nat) : List Int := ((List.range k).map fun i => octB ((ts.map numOf).getD i 0) (h.fdiv ((8 : Int) ^ i))).flatten
theorem octsK_succ (ts : List (List Int)) (h : Int) (k : Nat) : octsK ts h (k + 1) = octsK ts h k ++ octB ((ts.map numOf).getD k 0) (h.fdiv ((8 : Int) ^ k)) := by
  unfold octsK
  rw [List.range_succ, List.map_append, List.flatten_append]
  simp
theorem tlD_facts : ∀ (k : Nat) (n : Int), (tlD k n).length ≤ k ∧ ∀ x ∈ tlD k n, 0 ≤ x ∧ x < 128
  | 0, n => by simp [tlD]
  | k + 1, n => by
    have ih := tlD_facts k (n.fdiv 64)
    rw [tlD]
    split
    · have h1 := Int.fmod_nonneg_of_pos n (show (0 : Int) < 64 by decide)
      have h2 := Int.fmod_lt_of_pos n (show (0 : Int) < 64 by decide)
      refine ⟨by rw [List.length_cons]; omega, fun x hx => ?_⟩
      rcases List.mem_cons.mp hx with rfl | hx
      · omega
      · exact ih.2 x hx
    · simp
theorem octD_facts (n : Int) : (octD n).length ≤ 21 ∧ 1 ≤ (octD n).length ∧ ∀ x ∈ octD n, 0 ≤ x ∧ x < 128 := by
  have ih := tlD_facts 20 (n.fdiv 64)
  have h1 := Int.fmod_nonneg_of_pos n (show (0 : Int) < 64 by decide)
  have h2 := Int.fmod_lt_of_pos n (show (0 : Int) < 64 by decide)
  unfold octD
  refine ⟨by rw [List.length_cons]; omega, by rw [List.length_cons]; omega, fun x hx => ?_⟩
  rcases List.mem_cons.mp hx with rfl | hx
  · omega
  · exact ih.2 x hx
theorem octB_len (c k : Int) : (octB c k).length ≤ 21 ∧ 1 ≤ (octB c k).length := by
  have h := octD_facts c
  unfold octB
  rw [List.length_mapIdx, List.length_reverse]
  exact ⟨h.1, h.2.1⟩
theorem octB_range (c k : Int) : ∀ x ∈ octB c k, 0 ≤ x ∧ x < 256 := by
  intro x hx
  unfold octB at hx
  obtain ⟨i, hi, rfl⟩ := List.mem_mapIdx.mp hx
  have h1 := (octD_facts c).2.2 ((octD c).reverse[i]) (List.mem_reverse.mp (List.getElem_mem hi))
  unfold octE
  have h2 := Int.fmod_nonneg_of_pos (k.fdiv (2 ^ i)) (show (0 : Int) < 2 by decide)
  have h3 := Int.fmod_lt_of_pos (k.fdiv (2 ^ i)) (show (0 : Int) < 2 by decide)
  omega
theorem octsK_facts (ts : List (List Int)) (h : Int) : ∀ k, (octsK ts h k).length ≤ 21 * k ∧ ∀ x ∈ octsK ts h k, 0 ≤ x ∧ x < 256
  | 0 => by simp [octsK]
  | k + 1 => by
    have ih := octsK_facts ts h k
    have h1 := octB_len ((ts.map numOf).getD k 0) (h.fdiv ((8 : Int) ^ k))
    rw [octsK_succ, List.length_append]
    refine ⟨by omega, fun x hx => ?_⟩
    rcases List.mem_append.mp hx with hx | hx
    · exact ih.2 x hx
    · exact octB_range _ _ x hx
structure Alike (x y : Int) : Prop where
  lo : Builtin.bitAnd x 63 = Builtin.bitAnd y 63
  hi : Builtin.bitAnd x 64 = Builtin.bitAnd y 64
theorem alike_all : ∀ (d : Fin 128) (b : Fin 2), Builtin.bitAnd ((d.1 : Int) + 128 * (b.1 : Int)) 63 = Builtin.bitAnd (d.1 : Int) 63 ∧ Builtin.bitAnd ((d.1 : Int) + 128 * (b.1 : Int)) 64 = Builtin.bitAnd (d.1 : Int) 64 := by decide +kernel
theorem alike_at {d b : Int} (hd : 0 ≤ d ∧ d < 128) (hb : 0 ≤ b ∧ b < 2) : Alike (d + 128 * b) d := by
  obtain ⟨f, rfl⟩ : ∃ f : Fin 128, d = (f.1 : Int) := ⟨⟨d.toNat, by omega⟩, by show d = (d.toNat : Int); omega⟩
  obtain ⟨g, rfl⟩ : ∃ f : Fin 2, b = (f.1 : Int) := ⟨⟨b.toNat, by omega⟩, by show b = (b.toNat : Int); omega⟩
  exact ⟨(alike_all f g).1, (alike_all f g).2⟩
theorem vTail_alike {ns ms : List Int} (hA : All2 Alike ns ms) : ∀ (f i : Nat) (b c v : Int), Alike b c → vTail f ns i b v = vTail f ms i c v := by
  intro f
  induction f with
  | zero => intro i b c v h; rfl
  | succ f ih =>
    intro i b c v h
    rw [vTail, vTail, h.hi]
    split
    · rfl
    · cases e : ns[i]? with
      | none =>
        have : ms[i]? = none := List.getElem?_eq_none (by rw [← hA.length]; exact List.getElem?_eq_none_iff.mp e)
        rw [this]
      | some x =>
        obtain ⟨y, hy, hxy⟩ := hA.get e
        rw [hy]
        dsimp only
        rw [hxy.lo]
        exact ih _ _ _ _ hxy
theorem rdNums_alike {ns ms : List Int} (hA : All2 Alike ns ms) : ∀ (f i : Nat), rdNums f ns i = rdNums f ms i := by
  intro f
  induction f with
  | zero => intro i; rfl
  | succ f ih =>
    intro i
    rw [rdNums, rdNums]
    cases e : ns[i]? with
    | none =>
      have : ms[i]? = none := List.getElem?_eq_none (by rw [← hA.length]; exact List.getElem?_eq_none_iff.mp e)
      rw [this]
    | some x =>
      obtain ⟨y, hy, hxy⟩ := hA.get e
      rw [hy]
      dsimp only
      rw [hxy.lo, vTail_alike hA 10 (i + 1) x y _ hxy]
      cases vTail 10 ms (i + 1) y (Builtin.bitAnd y 63) with
      | none => rfl
      | some q => dsimp only; rw [ih]
theorem all2_of_get {α β : Type} {R : α → β → Prop} : ∀ {as : List α} {bs : List β}, as.length = bs.length → (∀ i (h1 : i < as.length) (h2 : i < bs.length), R as[i] bs[i]) → All2 R as bs
  | [], [], _, _ => .nil
  | a :: as, b :: bs, hl, h => .cons (h 0 (by simp) (by simp)) (all2_of_get (by simpa using hl) fun i h1 h2 => h (i + 1) (by simpa using h1) (by simpa using h2))
  | [], _ :: _, hl, _ => by simp at hl
  | _ :: _, [], hl, _ => by simp at hl
theorem octB_alike (c k : Int) : All2 Alike (octB c k) (octD c).reverse := by
  refine all2_of_get (by unfold octB; rw [List.length_mapIdx]) fun i h1 h2 => ?_
  have e : (octB c k)[i] = octE k i ((octD c).reverse[i]) := by simp only [octB, List.getElem_mapIdx]
  rw [e]
  exact alike_at ((octD_facts c).2.2 _ (List.mem_reverse.mp (List.getElem_mem h2))) ⟨Int.fmod_nonneg_of_pos _ (by decide), Int.fmod_lt_of_pos _ (by decide)⟩
theorem octsK_alike (ts : List (List Int)) (h : Int) : ∀ k, k ≤ ts.length → All2 Alike (octsK ts h k) (octs0 (ts.take k))
  | 0, _ => by simp [octsK, octs0]; exact .nil
  | k + 1, hk => by
    have ih := octsK_alike ts h k (by omega)
    have hg : ts[k]? = some ts[k] := List.getElem?_eq_getElem hk
    rw [octsK_succ]
    have e : octs0 (ts.take (k + 1)) = octs0 (ts.take k) ++ (octD (numOf ts[k])).reverse := by
      unfold octs0
      rw [List.take_add_one, hg, List.map_append, List.flatten_append]
      simp
    rw [e, show (ts.map numOf).getD k 0 = numOf ts[k] by rw [List.getD_eq_getElem?_getD, List.getElem?_map, hg]; rfl]
    exact all2_app ih (octB_alike _ _)
theorem octs_read {z : Nat} {ts : List (List Int)} (hok : TrisOk z ts) (h : Int) : rdNums 20 (octsK ts h ts.length) 0 = some (ts.map numOf) := by
  have hA := octsK_alike ts h ts.length (Nat.le_refl _)
  rw [List.take_length] at hA
  rw [rdNums_alike hA]
  exact hok.read
theorem num_range {cs : List Int} (h : TriOk cs) : 0 ≤ numOf cs ∧ numOf cs < 1000000 := by
  obtain ⟨a, b, c, rfl, ha, hb, hc⟩ := h.form
  have key : ∀ f : Fin 7, 0 ≤ (8 : Int) ^ ((f.1 : Int)).toNat ∧ (8 : Int) ^ ((f.1 : Int)).toNat < 300000 := by decide +kernel
  have k : ∀ x : Int, 0 ≤ x ∧ x ≤ 6 → 0 ≤ (8 : Int) ^ x.toNat ∧ (8 : Int) ^ x.toNat < 300000 := fun x hx => by
    obtain ⟨f, rfl⟩ : ∃ f : Fin 7, x = (f.1 : Int) := ⟨⟨x.toNat, by omega⟩, by show x = (x.toNat : Int); omega⟩
    exact key f
  have h1 := k a ha; have h2 := k b hb; have h3 := k c hc
  unfold numOf
  simp only [List.map_cons, List.map_nil, List.sum_cons, List.sum_nil]
  omega
theorem bInts_byteArr {ns : List Int} (h : ∀ x ∈ ns, 0 ≤ x ∧ x < 256) : KBw.bInts (byteArr ns) = ns := by
  unfold KBw.bInts byteArr
  rw [List.toList_toArray, List.map_map]
  conv => rhs; rw [← List.map_id ns]
  refine List.map_congr_left fun x hx => ?_
  have hb := h x hx
  show ((x.toNat.toUInt8).toNat : Int) = x
  rw [Nat.toUInt8, UInt8.toNat_ofNat']
  omega
end Mine
end
section
open PySem PySem.W PyProof.Rows
namespace Mine
theorem off_cell {h₀ h : Heap} {L c : Addr} {oc : Obj} {v : Option Value} {news l : List (Addr × Obj)} (N : News h₀ L h news) (hc : (c, oc) ∈ news) (hd : oc.data = .cell v) (hl : ∀ q ∈ l, q ∈ news) (hn : ∀ q ∈ l, ∀ v, q.2.data ≠ .cell v) : Off c l := fun q hq => news_ne N (p := q) (q := (c, oc)) (hl q hq) hc fun e => hn q hq v (by rw [e]; exact hd)
theorem pick_tups {tl : List (Addr × Obj)} : ∀ {tvs : List Value} {css : List (List Int)}, All2 (TupAt tl) tvs css → ∃ tl', (∀ q ∈ tl', q ∈ tl ∧ q.2.cls = .type "tuple" ∧ ∀ v, q.2.data ≠ .cell v) ∧ All2 (TupAt tl') tvs css
  | _, _, .nil => ⟨[], fun _ h => (nomatch h), .nil⟩
  | _, _, .cons h t => by
    obtain ⟨tl', h1, h2⟩ := pick_tups t
    obtain ⟨T, cvs, rfl, hI, hm⟩ := h
    refine ⟨(T, { cls := .type "tuple", data := .seq cvs.toArray }) :: tl', fun q hq => ?_, .cons ⟨T, cvs, rfl, hI, .head _⟩ (h2.imp fun a b h => h.mono fun q hq => .tail _ hq)⟩
    rcases List.mem_cons.mp hq with rfl | hq
    · exact ⟨hm, rfl, fun v e => (nomatch e)⟩
    · exact h1 q hq
structure OcS where
  ovs : List Value
  oL : List Int
  oep : Nat
  ok : Obj
structure OcF (st : OcS) : Prop where
  oi : IntsAre st.ovs st.oL
  ce : CellOk st.ok
theorem CellOk.no {o o' : Obj} (h : CellOk o) (e : o'.data = o.data) : CellOk o' := by obtain ⟨v, hv⟩ := h; exact ⟨v, e.trans hv⟩
structure LawS where
  d : List Int
  ts : List (List Int)
  lh : Addr
  vh : List Value
  eph : Nat
  lt : Addr
  tvs : List Value
  ept : Nat
  ln : Addr
  nvs : List Value
  nep : Nat
  tl : List (Addr × Obj)
  oj : Obj
  ok : Obj
  os : Obj
  tz : Tok
noncomputable def LawS.z (st : LawS) : Int := 4 + (st.d.getD (Int.toNat 0) 0).fmod 4
noncomputable def LawS.led (L : Addr) (st : LawS) : List (Addr × Obj) := (st.ln, W.listOf st.nvs.toArray st.nep) :: (st.lt, W.listOf st.tvs.toArray st.ept) :: (st.lh, W.listOf st.vh.toArray st.eph) :: (L + 1 + 1 + 1, st.oj) :: (L + 1 + 1, st.ok) :: (L + 1, st.os) :: st.tl
structure LawF (st : LawS) : Prop where
  dI : IntsAre st.vh st.d
  dl : st.d.length = 8
  dr : ∀ x ∈ st.d, 0 ≤ x ∧ x < 1000000
  ok : TrisOk st.z.toNat st.ts
  tr : All2 (TupAt st.tl) st.tvs st.ts
  nI : IntsAre st.nvs (st.ts.map numOf)
  cs : st.os.data = .cell (some (.int st.z st.tz))
  ck : CellOk st.ok
  cj : CellOk st.oj
  tup : ∀ q ∈ st.tl, q.2.cls = .type "tuple" ∧ ∀ v, q.2.data ≠ .cell v
noncomputable def LawS.has (st : LawS) : List (Str × Value) := [(Str.ofString "have", .ref st.lh), (Str.ofString "drawn", .ref st.lt), (Str.ofString "numbers", .ref st.ln)]
end Mine
end
section
open PySem PySem.W PyProof.Rows
namespace Mine
theorem part_m1 {I C D t l a b c q : Addr × Obj} {tl tl9 : List (Addr × Obj)} (h : q ∈ tl) : q ∈ [I] ++ ([C] ++ D :: ((t :: l :: ([a, b, c] ++ tl)) ++ tl9)) := by simp [h]
theorem part_m2 {D T I C Dd : Addr × Obj} {r tl8 : List (Addr × Obj)} : ∀ q ∈ [I] ++ ([C] ++ Dd :: r), q ∈ D :: T :: I :: C :: Dd :: (r ++ tl8) :=
  (sub_at 2 rfl (sub_at 3 rfl (sub_at 4 rfl (sub_end 5 sub_l))))
theorem part_m3 {h₀ h : Heap} {L : Addr} {D t l a b c : Addr × Obj} {tl tl9 tl1 : List (Addr × Obj)} (N : News h₀ L h (D :: t :: l :: a :: b :: c :: (tl ++ tl9))) (k : ∀ q ∈ tl1, q ∈ tl) : News h₀ L h (D :: t :: l :: a :: b :: c :: tl1) :=
  news_sub N (sub_at 0 rfl (sub_at 1 rfl (sub_at 2 rfl (sub_at 3 rfl (sub_at 4 rfl (sub_at 5 rfl (sub_end 6 (sub_tr k sub_l))))))))
theorem part_m4 {o D t l a b c q : Addr × Obj} {tl : List (Addr × Obj)} (h : q ∈ [o, D, t, l]) : q ∈ o :: D :: t :: l :: a :: b :: c :: tl :=
  (sub_at 0 rfl (sub_at 1 rfl (sub_at 2 rfl (sub_at 3 rfl sub_nil)))) q h
theorem part_m5 {o D t l : Addr × Obj} (h1 : ∀ v, o.2.data ≠ .cell v) (h2 : ∀ v, D.2.data ≠ .cell v) (h3 : ∀ v, t.2.data ≠ .cell v) (h4 : ∀ v, l.2.data ≠ .cell v) : ∀ q ∈ [o, D, t, l], ∀ v, q.2.data ≠ .cell v := fun q hq => by
  simp only [List.mem_cons, List.not_mem_nil, or_false] at hq
  rcases hq with rfl | rfl | rfl | rfl
  · exact h1
  · exact h2
  · exact h3
  · exact h4
structure OcO (D9 lt lh L : Addr) (tl : List (Addr × Obj)) (Do : Addr) : Prop where
  d : @Ne Nat D9 Do
  t : @Ne Nat lt Do
  h : @Ne Nat lh Do
  j : @Ne Nat (L + 1 + 1 + 1) Do
  k : @Ne Nat (L + 1 + 1) Do
  s : @Ne Nat (L + 1) Do
  r : Off Do tl
theorem num_at {z : Nat} {ts : List (List Int)} (hok : TrisOk z ts) {k : Nat} (h : k < ts.length) : 0 ≤ (ts.map numOf).getD (Int.toNat (k : Int)) 0 ∧ (ts.map numOf).getD (Int.toNat (k : Int)) 0 < 1152921504606846976 := by
  rw [Int.toNat_natCast, List.getD_eq_getElem?_getD, List.getElem?_map, List.getElem?_eq_getElem h]
  have := num_range (hok.tri _ (List.getElem_mem h))
  show 0 ≤ numOf ts[k] ∧ numOf ts[k] < _
  omega
theorem fdiv_pow {x : Int} (h : 0 ≤ x ∧ x < 1000000) {k : Nat} : 0 ≤ x.fdiv (8 ^ Int.toNat (k : Int)) ∧ x.fdiv (8 ^ Int.toNat (k : Int)) < 1000000 := by
  rw [Int.toNat_natCast]
  have hp : (0 : Int) < 8 ^ k := Int.pow_pos (by decide)
  rw [Int.fdiv_eq_ediv_of_nonneg _ (Int.le_of_lt hp)]
  exact ⟨Int.ediv_nonneg h.1 (Int.le_of_lt hp), Int.lt_of_le_of_lt (Int.ediv_le_self _ h.1) h.2⟩
theorem sub_tail {a : Addr × Obj} {l : List (Addr × Obj)} : ∀ q ∈ l, q ∈ a :: l := fun _ hq => .tail _ hq
theorem part_grow {h₀ h h' : Heap} {L : Addr} {news : List (Addr × Obj)} (N : News h₀ L h news) (k : ∀ b o, h.get? b = some o → h'.get? b = some o) : News h₀ L h' news := fun q hq => ⟨k _ _ (N q hq).1, (N q hq).2⟩
theorem part_led {h₀ h : Heap} {L : Addr} {n o D : Addr × Obj} {r : List (Addr × Obj)} (N : News h₀ L h (n :: o :: D :: r)) : News h₀ L h (n :: r) :=
  news_sub N (sub_at 0 rfl (sub_end 3 (fun _ h => h)))
theorem part_off {I Do K : Addr} {oo oo' ok ok' : Obj} {D t l a : Addr × Obj} {r : List (Addr × Obj)} (h : Off I ((Do, oo) :: D :: t :: l :: a :: (K, ok) :: r)) : Off I ((Do, oo') :: D :: t :: l :: a :: (K, ok') :: r) :=
  Off.cons (h (Do, oo) (.head _)) (Off.cons (h _ (.tail _ (.head _))) (Off.cons (h _ (.tail _ (.tail _ (.head _)))) (Off.cons (h _ (.tail _ (.tail _ (.tail _ (.head _))))) (Off.cons (h _ (.tail _ (.tail _ (.tail _ (.tail _ (.head _)))))) (Off.cons (h (K, ok) (.tail _ (.tail _ (.tail _ (.tail _ (.tail _ (.head _))))))) h.tail.tail.tail.tail.tail.tail)))))
theorem p_A (w : World) (p : Program) (loose : List Str) (mean : ExcName → Option Value) (mg mb : Str → Option Value) (h₀ : Heap) (l fa L : Addr) (cdv : Value) (vs : List Value) (ns : List Int) (s : Shared) (Q : Flow → Shared → Prop) (E : Value → Shared → Prop) (oj ok os : Obj)
    (hL : h₀.IsList l vs.toArray) (hI : IntsAre vs ns) (hns : ns.length ≤ 63) (B : Below callerA h₀ [] h₀) (X : (kx w.params).In h₀) (T : Top p loose mean mg mb h₀)
    (F : Fr h₀ L s.heap (bindL (lawEnv L fa cdv).kindOf [(Str.ofString "script", .ref l)] fun _ => none)) (N : News h₀ L s.heap [(L + 1 + 1 + 1, oj), (L + 1 + 1, ok), (L + 1, os)])
    (d1 : oj.data = .cell none) (d2 : ok.data = .cell none) (d3 : os.data = .cell none) (hE : HasPO w L fa cdv E) {st9 : List Str}
    (hk : ∀ m, Nxt w h₀ L fa cdv lgB.val s Q E m st9 (fun m' news' => ∃ st, LawF st ∧ Has m' st.has ∧ news' = st.led L)) :
    wpAny (model pw w) (lawA L fa cdv) (execs lgA.val (lawEnv L fa cdv)) Q E s := by
  (try dsimp only [lawA])
  (repeat (fail_if_success (with_reducible show wpAny _ _ (call (Value.ref _) _) _ _ _)); first | (k_unfold; (try dsimp only)) | walk1 | (dsimp only; walk1))
  (with_reducible rename Fr _ _ _ _ => lF)
  (with_reducible rename News _ _ _ _ => lN)
  k_dflt (refine c_draw w l vs ns hI hns _ p loose mean mg mb _ _ _ _ _ _ _ _ [] callerA h₀ h₀ _ _ _ _ _ hL B lF X lN T (by rfl) (by ktr_room) (by ktr_units) ⟨?_⟩)
  clear lF lN
  rintro r9 h9 tk9 nw9 F9 N9 hXO
  refine ex4 hXO ?_; clear hXO; rintro lh vh eph d hXO
  refine an5 hXO ?_; clear hXO; rintro rfl hId hdl hdr rfl
  have hg := get_b hdl hdr
  have hg0 := hg (Int.toNat 0) (by decide)
  have hg7 := hg (Int.toNat 7) (by decide)
  have hz0 := fmod_b (d.getD (Int.toNat 0) 0) 4 (by decide)
  (try dsimp only at N9 ⊢)
  (try k_fold)
  (repeat (fail_if_success (with_reducible show wpAny _ _ (call (Value.ref _) _) _ _ _)); first | (k_unfold; (try dsimp only)) | walk1 | (dsimp only; walk1))
  obtain ⟨ts9, hgo, hok⟩ := tris_ok (z := 4 + (d.getD (Int.toNat 0) 0).fmod 4) d (by omega)
  (with_reducible rename News _ _ _ _ => lN)
  simp only [List.cons_append, List.nil_append] at lN
  k_dflt (refine CallsN.use (c_tri w lh _ _ vh d hId hdl eph 12 ts9 _ (by omega) hgo) B (by k_asm) X (by k_asm) T (by rfl) (by ktr_room) (by ktr_units) ?_)
  clear lN
  rintro r8 h8 tk8 nw8 F8 N8 hXO
  refine ex4 hXO ?_; clear hXO; rintro lt tvs ept tl hXO
  refine an3 hXO ?_; clear hXO; rintro rfl hT rfl
  have htl := hT.length
  have hol := hok.len
  (try dsimp only at N8 ⊢)
  (try k_fold)
  (repeat (fail_if_success (with_reducible show wpAny _ _ (exec (Stmt.Assign _ (Expr.ListComp _ _ _ _) _) _) _ _ _)); first | (k_unfold; (try dsimp only)) | walk1 | (dsimp only; walk1))
  (with_reducible rename Fr _ _ _ _ => lF)
  (with_reducible rename News _ _ _ _ => lN)
  k_dflt (refine gx_nameA lF (by rfl) (by rfl) (by with_unfolding_all rfl) (by with_unfolding_all rfl) (by decide) (by rfl) (by decide) (by rfl) (by intro _; rfl) (by rfl) (by rfl) ?_)
  (repeat (fail_if_success (with_reducible show wpAny _ _ (pyIter _) _ _ _)); first | (k_unfold; (try dsimp only)) | walk1 | (dsimp only; walk1))
  k_dflt (refine gx_list (vs := tvs) (by rfl) lF lN (.head _) (by omega) ?_)
  intro I9 h7 hsz old
  refine ⟨fun i tl ys => IntsAre ys ((ts9.take i).map numOf), .nil, ?el, ?fin⟩
  case el =>
    rintro i v C9 oC9 mC9 D9 ys9 tl9 its9 h6 tk6 E6 hi ⟨_, hv⟩ hInv hC9 hx9 hits F6 N6 hyl hDC
    clear lF lN
    obtain ⟨o6, rfl⟩ := objs1 hits
    have hv := hv
    obtain ⟨cs, hcs, T9, cvs, rfl, hI9, hm9⟩ := hT.get hv
    obtain ⟨a, b, c, rfl, hab⟩ := hok.tri cs (List.mem_of_getElem? hcs)
    have N5 := News.dup N6 (part_m1 hm9)
    clear N6
    dsimp only [List.cons_append, List.nil_append] at N5
    show wpAny _ _ (eval _ _) _ _ _
    (try dsimp only)
    (try k_fold)
    (repeat (fail_if_success (with_reducible show wpAny _ _ (eval (Expr.ListComp _ _ _ _) _) _ _ _)); first | (k_unfold; (try dsimp only)) | walk1 | (dsimp only; walk1))
    (with_reducible rename Fr _ _ _ _ => lF)
    (with_reducible rename News _ _ _ _ => lN)
    k_dflt (refine gx_name lF (by rfl) (by with_unfolding_all rfl) (by decide) (by rfl) (by decide) (by rfl) (by intro _; rfl) ?_)
    (repeat (fail_if_success (with_reducible show wpAny _ _ (pyIter _) _ _ _)); first | (k_unfold; (try dsimp only)) | walk1 | (dsimp only; walk1))
    have hcl3 := hI9.length
    k_dflt (refine gx_tuple (vs := cvs) (by rfl) lF lN (.head _) (by simp only [List.length_cons, List.length_nil] at hcl3; omega) ?_)
    intro I8 h5 hsz5 old5
    refine ⟨fun i tl ys => IntsAre ys ((([a, b, c] : List Int).take i).map fun c => (8 : Int) ^ c.toNat), .nil, ?el2, ?fin2⟩
    case el2 =>
      rintro i2 v2 C8 oC8 mC8 D8 ys8 tl8 its8 h4 tk4 E4 hi2 ⟨_, hv2⟩ hInv2 hC8 hx8 hits2 F4 N4 hyl2 hDC2
      clear lF lN
      obtain ⟨o8, rfl⟩ := objs1 hits2
      have hv2 := hv2
      obtain ⟨c8, t8, rfl, hc8⟩ := IntsAre.at hI9 i2 v2 hv2
      have hcb := tri_cb hab.1 hab.2.1 hab.2.2 c8 (List.mem_of_getElem? hc8)
      dsimp only [List.cons_append, List.nil_append] at N4
      show wpAny _ _ (eval _ _) _ _ _
      (try dsimp only)
      (try k_fold)
      (repeat (fail_if_success (with_reducible refine GxVal_stop ?_)); first | (k_unfold; (try dsimp only)) | walk1 | (dsimp only; walk1))
      (try k_unfold)
      (with_reducible rename Fr _ _ _ _ => fE)
      (with_reducible rename News _ _ _ _ => nE)
      refine gx_plain fE nE ?_ ?_
      · exact fun q hq => hq
      · rw [List.take_add_one, hc8, List.map_append]
        exact IntsAre.append hInv2 (.cons _ _ .nil)
    case fin2 =>
      rintro D8 ys8 tl8 hInv2 hyl2 h4 tk4 F4 N4
      clear lF lN
      have hS2 := hInv2
      rw [show (([a, b, c] : List Int).take cvs.length) = [a, b, c] by rw [hcl3]; rfl] at hS2
      clear hInv2
      dsimp only [List.cons_append, List.nil_append] at N4
      (try dsimp only)
      (try k_fold)
      (repeat (fail_if_success (with_reducible refine GxVal_stop ?_)); first | (k_unfold; (try dsimp only)) | walk1 | (dsimp only; walk1))
      (try k_unfold)
      (with_reducible rename Fr _ _ _ _ => fE)
      (with_reducible rename News _ _ _ _ => nE)
      refine gx_plain fE nE ?_ ?_
      · exact part_m2
      · rw [List.take_add_one, hcs, List.map_append]
        exact IntsAre.append hInv (.cons _ _ .nil)
  case fin =>
    rintro D9 ys9 tl9 hInv hyl h7 tk7 F7 N7
    clear lF lN
    have hS := hInv
    rw [htl, List.take_length] at hS
    clear hInv
    have hSl := hS.length
    rw [List.length_map] at hSl
    simp only [List.cons_append, List.nil_append] at N7
    obtain ⟨tl1, htl1, hT1⟩ := pick_tups hT
    clear hT
    have N6 := part_m3 (tl1 := tl1) N7 (fun q hq => (htl1 q hq).1)
    clear N7
    (try dsimp only)
    (try k_fold)
    (repeat (fail_if_success (with_reducible show wpAny _ _ (exec (Stmt.For _ _ _ _ _) _) _ _ _)); first | (k_unfold; (try dsimp only)) | walk1 | (dsimp only; walk1))
    (with_reducible rename Fr _ _ _ _ => lF)
    (with_reducible rename News _ _ _ _ => lN)
    (with_reducible rename _ < _ ∧ _ < _ ∧ _ < _ ∧ _ < _ ∧ _ < _ ∧ _ < _ ∧ AllLt _ _ => o3)
    refine an7 o3 ?_; clear o3; rintro q1 q2 q3 q4 q5 q6 q7
    (with_reducible rename Obj.data _ = Data.cell (some (Value.int _ _)) => dS)
    have hDo : OcO D9 lt lh L tl1 _ := ⟨Nat.ne_of_lt q1, Nat.ne_of_lt q2, Nat.ne_of_lt q3, Nat.ne_of_lt q4, Nat.ne_of_lt q5, Nat.ne_of_lt q6, off_of_lt q7⟩
    have hK : Off (L + 1 + 1) _ := off_cell (l := [_, _, _, _]) lN (.tail _ (.tail _ (.tail _ (.tail _ (.tail _ (.head _)))))) d2 (fun q hq => part_m4 hq) (part_m5 (fun v e => (nomatch e)) (fun v e => (nomatch e)) (fun v e => (nomatch e)) (fun v e => (nomatch e)))
    have hKt : Off (L + 1 + 1) tl1 := off_cell lN (.tail _ (.tail _ (.tail _ (.tail _ (.tail _ (.head _)))))) d2 (fun q hq => .tail _ (.tail _ (.tail _ (.tail _ (.tail _ (.tail _ (.tail _ hq))))))) (fun q hq => (htl1 q hq).2.2)
    clear q1 q2 q3 q4 q5 q6 q7
    k_dflt (refine For_turns (hE := hE.po) lF ?_)
    (repeat (fail_if_success (with_reducible show wpAny _ _ (call (Value.builtin "len") _) _ _ _)); first | (k_unfold; (try dsimp only)) | walk1 | (dsimp only; walk1))
    k_dflt (refine lenL (News.isList lN (.tail _ (.head _))) hSl (by omega) ?_)
    (repeat (fail_if_success (with_reducible show wpAny _ _ (pyIter _) _ _ _)); first | (k_unfold; (try dsimp only)) | walk1 | (dsimp only; walk1))
    (with_reducible rename Fr _ _ _ _ => lF)
    (with_reducible rename IsRange _ _ _ _ _ _ _ _ => lR)
    (with_reducible rename News _ _ _ _ => lN)
    have hko : CellOk ok := ⟨_, d2⟩
    refine tl_rangeC (σ := OcS) (n := (((ts9.length : Nat) : Int) - 0).toNat) (fun st => (_, W.listOf st.ovs.toArray st.oep) :: (D9, LCg.lst ys9) :: (lt, W.listOf tvs.toArray ept) :: (lh, W.listOf vh.toArray eph) :: (L + 1 + 1 + 1, oj) :: (L + 1 + 1, st.ok) :: (L + 1, _) :: tl1) (fun st => []) (fun st => OcF st) [] (fun k st => st.oL = octsK ts9 (d.getD (Int.toNat 7) 0) k) ⟨[], [], 0, ok⟩ (by rfl) lR (small_one (by omega) (by omega) (by omega) (by omega)) (rangeSize_nat _ _) lF lN ⟨.nil, hko⟩ (List.forall_mem_nil _) rfl ?turn ?done
    case turn =>
      clear lF lN lR hko
      rintro ⟨ovs, oL, oep, ok⟩ k t u h5 tk5 I5 o5 hk hoI hoc hF hP F5 N5
      obtain ⟨hoi, hce⟩ := hF
      dsimp only at hoi hce hP hoI F5 N5 ⊢
      (try k_fold)
      rw [Int.zero_add]
      have hk5 : (k : Int) < (ts9.length : Int) := by omega
      (repeat (first | (k_unfold; (try dsimp only)) | walk1 | (dsimp only; walk1)))
      (with_reducible rename Fr _ _ _ _ => lF)
      (with_reducible rename News _ _ _ _ => lN)
      obtain ⟨cv, hcv⟩ := hce
      k_dflt (refine storeX_C lF lN (by rfl) (updF_of (own := [_, _, _, _, _, _]) (Off.cons (by show @Ne Nat _ _; dsimp only; omega) hKt) (Off.cons (Ne.symm (hoI _ (.tail _ (.tail _ (.tail _ (.tail _ (.tail _ (.head _)))))))) (Off.cons (Ne.symm hDo.k) (Off.cons (hK _ (.tail _ (.head _))) (Off.cons (hK _ (.tail _ (.tail _ (.head _)))) (Off.cons (hK _ (.tail _ (.tail _ (.tail _ (.head _))))) (Off.cons (by show @Ne Nat _ _; dsimp only; omega) off_nil))))))) hcv ?_ (by rfl) (by rfl))
      clear lF lN
      intro h4 o4 F4 N4 d4
      dsimp only [List.cons_append, List.nil_append] at N4
      have hp8 := fun x => pow8 (v := (k : Int)) ⟨by omega, by omega⟩ x
      (try dsimp only)
      (try k_fold)
      (repeat (fail_if_success (with_reducible show wpAny _ _ (binaryOp Operator.FloorDiv _ _) _ _ _)); first | (k_unfold; (try dsimp only)) | walk1 | (dsimp only; walk1))
      have hpw := hp8 (d.getD (Int.toNat 7) 0)
      clear hp8
      k_dflt (refine floordiv_int hpw.1 ?_ (Or.inl hpw.2))
      (repeat (fail_if_success (with_reducible show wpAny _ _ (call (Value.ref _) _) _ _ _)); first | (k_unfold; (try dsimp only)) | walk1 | (dsimp only; walk1))
      have hnr := num_at hok (k := k) (by omega)
      have hdr2 := fdiv_pow hg7 (k := k)
      k_dflt (refine CallsN.use (c_octets w ((ts9.map numOf).getD (Int.toNat (k : Int)) 0) ((d.getD (Int.toNat 7) 0).fdiv (8 ^ Int.toNat (k : Int))) _ _ _ hnr.1 hnr.2 hdr2.1 hdr2.2) B (by k_asm) X (by k_asm) T (by rfl) (by ktr_room) (by ktr_units) ?_)
      rintro r3 h3 tk3 nw3 F3 N3 hXO
      refine ex3 hXO ?_; clear hXO; rintro ao ovs2 oe2 hXO
      refine an4 hXO ?_; clear hXO; rintro rfl hio2 hoa rfl
      (try k_unfold)
      (try dsimp only)
      (repeat (fail_if_success (with_reducible show wpAny _ _ (call (Value.builtin "list.extend") _) _ _ _)); first | (k_unfold; (try dsimp only)) | walk1 | (dsimp only; walk1))
      (with_reducible rename Fr _ _ _ _ => lF)
      (with_reducible rename News _ _ _ _ => lN)
      have hob := octsK_facts ts9 (d.getD (Int.toNat 7) 0) k
      have hoil := hoi.length
      have hob2 := octB_len ((ts9.map numOf).getD (Int.toNat (k : Int)) 0) ((d.getD (Int.toNat 7) 0).fdiv (8 ^ Int.toNat (k : Int)))
      have hoil2 := hio2.length
      rw [hP] at hoil
      k_dflt (refine li_ext [_, _] lF lN (.head _) (Off.cons (Ne.symm (hoa _ (.tail _ (.head _)))) (Off.cons (Ne.symm (hoI _ (.head _))) off_nil)) (Off.cons hDo.d (Off.cons hDo.t (Off.cons hDo.h (Off.cons hDo.j (Off.cons hDo.k (Off.cons hDo.s hDo.r)))))) (by omega) (by omega) ?_)
      clear lF lN
      intro h2 F2 N2
      dsimp only [List.cons_append, List.nil_append] at N2
      (try dsimp only)
      (try k_fold)
      repeat' (first | (k_unfold; (try dsimp only)) | (k_end; wrow_close) | ((fail_if_success (with_reducible refine UnrEndW_stop ?_)); walk1) | ((fail_if_success (with_reducible refine UnrEndW_stop ?_)); dsimp only; walk1) | (leave1; walk_say "STEP leave1"; (try dsimp only)) | fail "no step")
      (with_reducible rename News _ _ _ _ => nE)
      (with_reducible rename Fr _ _ _ _ => nF)
      exact tl_end ⟨ovs ++ ovs2, oL ++ octB ((ts9.map numOf).getD (Int.toNat (k : Int)) 0) ((d.getD (Int.toNat 7) 0).fdiv (8 ^ Int.toNat (k : Int))), oep + 1, o4⟩ nF nE sub_tail (List.forall_mem_singleton.mpr (part_off hoI)) (List.forall_mem_nil _) (by intro z h1 h2; simp [kstB]) ⟨hoi.append hio2, ⟨_, d4⟩⟩ (by dsimp only; rw [octsK_succ, hP]; rfl)
    case done =>
      clear lF lN lR hko
      rintro ⟨ovs, oL, oep, ok⟩ u h5 tk5 hF hP F5 N5
      obtain ⟨hoi, hce⟩ := hF
      dsimp only at hoi hce hP F5 N5 ⊢
      rw [show (((ts9.length : Nat) : Int) - 0).toNat = ts9.length by omega] at hP
      subst hP
      have hob := octsK_facts ts9 (d.getD (Int.toNat 7) 0) ts9.length
      have hoil := hoi.length
      (try k_fold)
      (repeat (fail_if_success (with_reducible show wpAny _ _ (call (Value.type "bytes") _) _ _ _)); first | (k_unfold; (try dsimp only)) | walk1 | (dsimp only; walk1))
      (with_reducible rename Fr _ _ _ _ => lF)
      (with_reducible rename News _ _ _ _ => lN)
      k_dflt (refine call_bytes_ints (News.isList lN (.head _)) hoi hob.2 (by rw [PySem.sizeLine_eq]; omega) (by rfl) ?_)
      intro h4 t4 tk4 hk4
      have F4 := lF.keeps hk4
      have N4 := part_grow lN hk4
      clear lF lN
      have hrd := octs_read hok (d.getD (Int.toNat 7) 0)
      rw [← bInts_byteArr hob.2] at hrd
      (try k_unfold)
      (try dsimp only)
      (repeat (fail_if_success (with_reducible show wpAny _ _ (call (Value.ref _) _) _ _ _)); first | (k_unfold; (try dsimp only)) | walk1 | (dsimp only; walk1))
      (with_reducible rename Fr _ _ _ _ => lF)
      (with_reducible rename News _ _ _ _ => lN)
      k_dflt (refine c_read w _ t4 20 (ts9.map numOf) hrd (by rw [List.length_map]; omega) _ p loose mean mg mb _ _ _ _ _ _ _ _ callerA h₀ _ _ _ _ _ B lF X lN T (by rfl) (by ktr_room) (by ktr_units) ⟨?_⟩)
      clear lF lN
      rintro r3 h3 tk3 nw3 F3 N3 hXO
      refine ex3 hXO ?_; clear hXO; rintro ln nvs nep hXO
      refine an3 hXO ?_; clear hXO; rintro rfl hnI rfl
      (try k_unfold)
      (try dsimp only)
      (repeat (fail_if_success (with_reducible show wpAny _ _ (compareOp _ _ _) _ _ _)); first | (k_unfold; (try dsimp only)) | walk1 | (dsimp only; walk1))
      (with_reducible rename News _ _ _ _ => lN)
      k_dflt (refine kqn_ne lN (.head _) rfl rfl (dat_ints hnI) (n₁ := []) (fun q hq => nomatch hq) (.tail _ (.tail _ (.head _))) rfl rfl (dat_ints hS) (n₂ := []) (fun q hq => nomatch hq) dat_ints_ok dat_ints_ok (by first | ktr_units | units_room | (simp only [Around.deeper, ktrTop]; omega)) ?_)
      intro r2 hr2
      obtain rfl : r2 = false := by cases r2 with | false => rfl | true => exact absurd rfl (hr2.mp rfl)
      clear hr2
      (try dsimp only)
      (try k_fold)
      (repeat (fail_if_success (with_reducible show wpAny _ _ (execs (Stmt.Assign _ (Expr.ListComp _ _ _ _) _ :: _) _) _ _ _)); first | (k_unfold; (try dsimp only)) | walk1 | (dsimp only; walk1))
      (try k_unfold)
      (with_reducible rename Fr _ _ _ _ => fE)
      (with_reducible rename News _ _ _ _ => nE)
      refine (hk _).out _ _ _ _ fE (part_led nE) ⟨fun z hz => rfl⟩ ⟨⟨d, ts9, lh, vh, eph, lt, tvs, ept, ln, nvs, nep, tl1, oj, ok, _, _⟩, ⟨hId, hdl, hdr, hok, hT1, hnI, dS, hce, ⟨_, d1⟩, fun q hq => (htl1 q hq).2⟩, ?_, rfl⟩
      exact Has.cons rfl (Has.cons rfl (Has.cons rfl Has.nil))
end Mine
end
section
open PySem PySem.W PyProof.Rows
namespace Mine
section
variable {prog : Program} {w : World} {A : Around} {E : Value → Shared → Prop} {s : Shared} {h₀ : Heap} {L : Addr} {m : Str → Option Value} {env : Env}
noncomputable def cellO (v : Option Value) : Obj := { cls := .type "cell", data := .cell v }
theorem gx_compK {pos' : Pos} {use : Option (Value → Sem Unit)} {elt target iter : PySem.Expr} {ifs : List PySem.Expr} {rest : List Comprehension} {scope : Scope} {x : Str} {cl : List (Str × Addr)} {pos : Pos} {Q : Value → Shared → Prop}
    (hclos : closureFor scope env = pure cl) (hcells : ∀ n, cellsFrom n scope.names cl = (x, n) :: cl) (hpush : ∀ h, pushCells h scope.names = h.push (cellO none)) (hkind : scope.kind = .function) (hnames : ∀ y ∈ scope.names, y.2 = .local → scope.names.lookup y.1 = some .local)
    (h : wpAny (model prog w) A (eval iter env) (fun xv s₁ => wpAny (model prog w) A (pyIter xv) (fun it s₂ => ∃ I news, it = .ref I ∧ Fr h₀ L s₂.heap m ∧ News h₀ L s₂.heap news ∧
      (∀ h tk (Q : Value → Shared → Prop) (E : Value → Shared → Prop), (∀ b o, s₂.heap.get? b = some o → h.get? b = some o) → Q (.ref I) { s₂ with heap := h, toks := tk } → wpAny (model prog w) A (pyIter (.ref I)) Q E { s₂ with heap := h, toks := tk }) ∧
      ∀ D C K oC mC h₁ tk, D = s₂.heap.objs.size → C = D + 1 → K = C + 1 → (∀ b o, s₂.heap.get? b = some o → h₁.get? b = some o) → LCg.NsObj oC mC → Fr h₀ L h₁ m → News h₀ L h₁ ((K, cellO none) :: (C, oC) :: (D, LCg.lst []) :: news) →
        codeAny (model prog w) A (.compLoop (.ListComp elt (⟨target, iter, ifs, 0⟩ :: rest) scope pos) 0 (.ref I) (.ref D) (compEnvC scope ((x, K) :: cl) C env)) (compPost (model prog w) A E use Q (.ref D) C) { s₂ with heap := h₁, toks := tk }) E s₁) E s)
    (hs : ∀ x, foldedSetIterable iter env x = pure x) :
    wpAny (model prog w) A (comprehension (.ListComp elt (⟨target, iter, ifs, 0⟩ :: rest) scope pos) scope env pos' (newList []) false (eval iter env) use) Q E s := by
  refine wpAny_comprehension_free rfl hs hclos hkind hnames (wpAny_mono h (fun xv s₁ h₁ => wpAny_mono h₁ (fun it s₂ h₂ => ?_) fun _ _ e => e) fun _ _ e => e)
  refine ex2 h₂ ?_; clear h₂; rintro I news hXO
  refine an5 hXO ?_; clear hXO; rintro rfl F N self R
  refine wpAny_newObj_type ?_
  simp only [newFunctionEnv, Option.isSome_some, if_true]
  refine wpAny_bind (wpAny_alloc ?_)
  refine wpAny_bind (wpAny_layCells _ (fun name kind cells => by cases hkc : kind == NameKind.cell <;> simp [hkc]) _ _ _ _ ?_)
  refine wpAny_bind (wpAny_pure (wpAny_pure ?_))
  dsimp only
  rw [hcells, hpush]
  generalize hH2 : s₂.heap.push { cls := .type "list", dict := none, data := .seq ([] : List Value).toArray } = H2
  have hC : H2.objs.size = s₂.heap.objs.size + 1 := by rw [← hH2, Heap.size_push]
  have hns : (H2.push { cls := .type "dict", data := .dict #[] }).Ns H2.objs.size fun _ => none := Heap.Ns.new H2 (.type "dict")
  generalize hH3 : H2.push { cls := .type "dict", data := .dict #[] } = H3 at hns ⊢
  have hK : H3.objs.size = H2.objs.size + 1 := by rw [← hH3, Heap.size_push]
  have up3 : ∀ b o, H3.get? b = some o → (H3.push (cellO none)).get? b = some o := fun b o e => Heap.get?_push_of_some _ e
  have up2 : ∀ b o, H2.get? b = some o → H3.get? b = some o := fun b o e => hH3 ▸ Heap.get?_push_of_some _ e
  have up1 : ∀ b o, s₂.heap.get? b = some o → H2.get? b = some o := fun b o e => hH2 ▸ Heap.get?_push_of_some _ e
  have old : ∀ b o, s₂.heap.get? b = some o → (H3.push (cellO none)).get? b = some o := fun b o e => up3 _ _ (up2 _ _ (up1 _ _ e))
  have hacc : (H3.push (cellO none)).get? s₂.heap.objs.size = some (LCg.lst []) := up3 _ _ (up2 _ _ (hH2 ▸ Heap.get?_push_size _ rfl))
  have hcell : (H3.push (cellO none)).get? H3.objs.size = some (cellO none) := Heap.get?_push_size _ rfl
  have fresh₀ : ∀ a, s₂.heap.objs.size ≤ a → h₀.get? a = none := fun a ha => by
    cases e : h₀.get? a with
    | none => rfl
    | some o' => exact absurd (Heap.lt_size (F.keep a o' e)) (Nat.not_lt.mpr ha)
  have hLlt : L < s₂.heap.objs.size := F.ns.lt
  obtain ⟨oC, heC, hoC⟩ := LCg.ns_obj hns
  have N₁ : News h₀ L (H3.push (cellO none)) ((H3.objs.size, cellO none) :: (H2.objs.size, oC) :: (s₂.heap.objs.size, LCg.lst []) :: news) := fun p hp => by
    rcases List.mem_cons.mp hp with rfl | hp
    · exact ⟨hcell, Nat.ne_of_gt (show L < H3.objs.size by rw [hK, hC]; exact Nat.lt_succ_of_lt (Nat.lt_succ_of_lt hLlt)), fresh₀ _ (by show _ ≤ H3.objs.size; omega)⟩
    rcases List.mem_cons.mp hp with rfl | hp
    · exact ⟨up3 _ _ heC, Nat.ne_of_gt (show L < H2.objs.size by rw [hC]; exact Nat.lt_succ_of_lt hLlt), fresh₀ _ (by show _ ≤ H2.objs.size; omega)⟩
    rcases List.mem_cons.mp hp with rfl | hp
    · exact ⟨hacc, Nat.ne_of_gt hLlt, fresh₀ _ (Nat.le_refl _)⟩
    · exact ⟨old _ _ (N p hp).1, (N p hp).2⟩
  have loop := fun tk => R s₂.heap.objs.size H2.objs.size H3.objs.size oC _ (H3.push (cellO none)) tk rfl hC hK old hoC (F.keeps old) N₁
  exact codeAny_compStart_list (loop _) (self (H3.push (cellO none)) _ _ _ old (loop _))
noncomputable def GkRest (prog : Program) (w : World) (A : Around) (h₀ : Heap) (L : Addr) (m : Str → Option Value) (env : Env) (s : Shared) (elt : PySem.Expr) (x : Str) (scope : Scope) (cl : List (Str × Addr)) (Fin : Addr → List Value → List (Addr × Obj) → Prop)
    (n : Nat) (P : Nat → Value → Heap → Prop) (ws : List (Addr × String)) (pre : List (Addr × Obj)) (h₂ : Heap) (tk₂ : Nat) : Prop :=
  ∃ (Inv : Nat → List (Addr × Obj) → List Value → Prop), Inv 0 [] [] ∧
    (∀ i v K C oK oC mC D ys tl its h tk (E' : Value → Shared → Prop), i < n → (∃ h', P i v h') → Inv i tl ys → LCg.NsObj oC mC → oK.data = .cell (some v) → Objs ws its → Fr h₀ L h m → News h₀ L h (its ++ ([(K, oK), (C, oC)] ++ (D, LCg.lst ys) :: (pre ++ tl))) → ys.length ≤ n → D < C → C < K → Off K tl →
      GxElt prog w A h₀ L m elt (compEnvC scope ((x, K) :: cl) C env) { s with heap := h, toks := tk } ws its [(K, oK), (C, oC)] C D ys pre tl (fun tl' ys' => Inv (i + 1) tl' ys' ∧ Off K tl') E' []) ∧
    (∀ D ys tl, Inv n tl ys → ys.length ≤ n → Fin D ys (pre ++ tl))
theorem gk_nameU {pos' : Pos} {use : Option (Value → Sem Unit)} {Fin : Addr → List Value → List (Addr × Obj) → Prop} {elt iter : PySem.Expr} {x : Str} {px : Pos} {scope : Scope} {cl : List (Str × Addr)} {pos : Pos} {Q : Value → Shared → Prop} (hh : A.handled = none) (hP : PostOk prog w A h₀ L m s E use Q Fin)
    (hclos : closureFor scope env = pure cl) (hcells : ∀ n, cellsFrom n scope.names cl = (x, n) :: cl) (hpush : ∀ h, pushCells h scope.names = h.push (cellO none)) (hkind : scope.kind = .function) (hnames : ∀ y ∈ scope.names, y.2 = .local → scope.names.lookup y.1 = some .local)
    (hx : ∀ C K, (compEnvC scope ((x, K) :: cl) C env).kindOf x = some .cell) (hs1 : ∀ x, foldedSetIterable iter env x = pure x)
    (h : wpAny (model prog w) A (eval iter env) (fun xv s₁ => wpAny (model prog w) A (pyIter xv) (GxSrc prog w A h₀ L m s (.Name x px) (GkRest prog w A h₀ L m env s elt x scope cl Fin)) E s₁) E s) :
    wpAny (model prog w) A (comprehension (.ListComp elt [⟨.Name x px, iter, [], 0⟩] scope pos) scope env pos' (newList []) false (eval iter env) use) Q E s := by
  refine gx_compK (h₀ := h₀) (L := L) (m := m) (x := x) hclos hcells hpush hkind hnames (wpAny_mono h (fun xv s₁ h₁ => wpAny_mono h₁ (fun it s₂ h₂ => ?_) fun _ _ e => e) fun _ _ e => e) hs1
  refine ex9 h₂ ?_; clear h₂; rintro I fp wr n P Md St ws keep hXO
  refine ex3 hXO ?_; clear hXO; rintro pre hb tkb hXO
  refine an9 hXO ?_; clear hXO; rintro rfl rfl W hst F N hobj hws hXO
  refine an7 hXO ?_; clear hXO; rintro hwr hfp hap hkp self hn hJ
  refine ex1 hJ ?_; clear hJ; rintro Inv hXO
  refine an3 hXO ?_; clear hXO; rintro inv0 el fin
  refine ⟨I, pre, rfl, F, N, self, ?_⟩
  intro D C K oC mC h₁ tk hD hC hK old hoC F₁ N₁
  have hD : D = hb.objs.size := hD
  have hClt : D < C := by omega
  have hKlt : C < K := by omega
  have hwlt : ∀ b ∈ ws.map (·.1), b ≠ D ∧ b ≠ C ∧ b ≠ K := fun b hb' => by
    have h1 : b < D := by rw [hD]; exact (hws b hb').2.2
    exact ⟨Nat.ne_of_lt h1, Nat.ne_of_lt (Nat.lt_trans h1 hClt), Nat.ne_of_lt (Nat.lt_trans h1 (Nat.lt_trans hClt hKlt))⟩
  have offX : ∀ (a : Addr) (o : Obj), (∀ b ∈ ws.map (·.1), b ≠ a) → ∀ ws' : List (Addr × Obj), Offs ws ws' → Offs ws ((a, o) :: ws') := fun a o ha ws' k q hq hm => by
    rcases List.mem_cons.mp hq with rfl | hq
    · exact ha _ hm rfl
    · exact k q hq hm
  have offK := fun o => offX K o fun b hb => (hwlt b hb).2.2
  have offC := fun o => offX C o fun b hb => (hwlt b hb).2.1
  have offD := fun o => offX D o fun b hb => (hwlt b hb).1
  have hplt : ∀ q ∈ pre, q.1 < D := fun q hq => by rw [hD]; exact Heap.lt_size (N q hq).1
  refine gc_loop (s := { s with heap := h₁, toks := tk }) (gt_ifs elt _ iter [] scope pos _ _ _) W ws keep hobj (fun b hb' => ⟨(hws b hb').1, (hws b hb').2.1⟩) hwr hfp
    (fun i nx => ∃ oK oC mC ys tl, nx = (K, oK) :: (C, oC) :: (D, LCg.lst ys) :: (pre ++ tl) ∧ (∃ v, oK.data = .cell v) ∧ LCg.NsObj oC mC ∧ ys.length ≤ i ∧ Inv i tl ys ∧ Off K ((C, oC) :: (D, LCg.lst ys) :: (pre ++ tl)) ∧ Off C ((D, LCg.lst ys) :: (pre ++ tl)) ∧ Off D (pre ++ tl) ∧ Offs ws (pre ++ tl))
    (W.frame _ _ _ hst fun b _ o e => old b o e) F₁ N₁ (offK _ _ (offC _ _ (offD _ _ hap))) (subL_left hkp fun q hq => .tail _ (.tail _ (.tail _ hq)))
    ⟨cellO none, oC, mC, [], [], by rw [List.append_nil], ⟨_, rfl⟩, hoC, Nat.le_refl _, inv0, Off.cons (Nat.ne_of_lt hKlt) (Off.cons (Nat.ne_of_lt (Nat.lt_trans hClt hKlt)) fun q hq => Nat.ne_of_lt (Nat.lt_trans (hplt q (by simpa using hq)) (Nat.lt_trans hClt hKlt))), Off.cons (Nat.ne_of_lt hClt) fun q hq => Nat.ne_of_lt (Nat.lt_trans (hplt q (by simpa using hq)) hClt), fun q hq => Nat.ne_of_lt (hplt q (by simpa using hq)), by rw [List.append_nil]; exact hap⟩ ?turn ?done
  case done =>
    rintro h' tk' nx hXO F' N' -
    refine ex5 hXO ?_; clear hXO; rintro oK oC mC ys tl hXO
    refine an9 hXO ?_; clear hXO; rintro rfl - hoC hyl hA oKo oCo oDo -
    exact hP D C oC mC ys (pre ++ tl) h' tk' F' (fun q hq => N' q (.tail _ hq)) hoC oCo (fin D ys tl hA hyl)
  case turn =>
    rintro i v nx its h' tk' hi hPi hXO hits ap - F' N'
    refine ex5 hXO ?_; clear hXO; rintro oK oC mC ys tl hXO
    refine an9 hXO ?_; clear hXO; rintro rfl ⟨v0, hv0⟩ hoC hyl hA oKo oCo oDo oWo
    have hitsK : Off K its := fun q hq => (hwlt q.1 (by rw [← hits.map]; exact List.mem_map.mpr ⟨q, hq, rfl⟩)).2.2
    have hitsC : Off C its := fun q hq => (hwlt q.1 (by rw [← hits.map]; exact List.mem_map.mpr ⟨q, hq, rfl⟩)).2.1
    have hitsD : Off D its := fun q hq => (hwlt q.1 (by rw [← hits.map]; exact List.mem_map.mpr ⟨q, hq, rfl⟩)).1
    have zK := N' (K, oK) (List.mem_append_right _ (.head _))
    have hkd : (compEnvC scope ((x, K) :: cl) C env).scope.kind = .function := by show (relabel scope env).kind = _; simp [relabel, hkind]
    refine wpAny_assign_Name (wpAny_storeName_cell hkd (hx C K) (by show List.lookup x ((x, K) :: cl) = some K; simp) ⟨oK, zK.1, hv0⟩ fun h₅ hv hs => ?_)
    obtain ⟨oK5, hoK5, hvK5⟩ := hv
    have F₅ := F'.change hs zK.2.1 zK.2.2
    have N₅ := N'.setIn (own := its) hitsK oKo hs hoK5
    have hel := fun E' => el i v K C oK5 oC _ D ys tl its h₅ tk' E' hi ⟨_, hPi⟩ hA hoC hvK5 hits F₅ N₅ (Nat.le_trans hyl (Nat.le_of_lt hi)) hClt hKlt (fun q hq => oKo q (.tail _ (.tail _ (List.mem_append_right _ hq))))
    have hyn : ys.length ≤ 10000 := Nat.le_trans (Nat.le_trans hyl (Nat.le_of_lt hi)) hn
    have oDK : Off D [(K, oK5), (C, oC)] := Off.cons (Nat.ne_of_gt (Nat.lt_trans hClt hKlt)) (Off.cons (Nat.ne_of_gt hClt) off_nil)
    refine fun k Q' hk => gx_elt hel hitsD oDK oDo hyn k Q' fun s₆ h₆ => hk _ ?_
    refine ex4 h₆ ?_; clear h₆; rintro h₆ tk₆ tn ys' hXO
    refine an9 hXO ?_; clear hXO; rintro rfl F₆ N₆ oWn oCn oDn hyl' hInv' hoK
    have oCtl : Off C tl := fun q hq => oCo q (.tail _ (List.mem_append_right _ hq))
    have oKpre : Off K pre := fun q hq => oKo q (.tail _ (.tail _ (List.mem_append_left _ hq)))
    refine ⟨h₆, tk₆, (K, oK5) :: (C, oC) :: (D, LCg.lst ys') :: (pre ++ (tl ++ tn)), rfl, F₆, N₆, ?_, subL_left hkp (fun q hq => .tail _ (.tail _ (.tail _ (List.mem_append_left _ hq)))), oK5, oC, mC, ys', tl ++ tn, rfl, ⟨_, hvK5⟩, hoC, Nat.le_trans hyl' (Nat.succ_le_succ hyl), hInv', ?_, ?_, ?_, ?_⟩
    · exact offK _ _ (offC _ _ (offD _ _ (by rw [← List.append_assoc]; exact Offs.app oWo oWn)))
    · exact Off.cons (Nat.ne_of_lt hKlt) (Off.cons (Nat.ne_of_lt (Nat.lt_trans hClt hKlt)) (oKpre.app hoK))
    · refine Off.cons (Nat.ne_of_lt hClt) ?_
      rw [← List.append_assoc]
      exact Off.app oCo.tail oCn
    · rw [← List.append_assoc]; exact Off.app oDo oDn
    · rw [← List.append_assoc]; exact Offs.app oWo oWn
theorem gk_nameA {elt iter : PySem.Expr} {x y : Str} {px py : Pos} {scope : Scope} {cl : List (Str × Addr)} {pos spos : Pos} {Q : Flow → Shared → Prop} (_F : Fr h₀ L s.heap m) (hh : A.handled = none) (hLe : env.locals = L)
    (hsw : swapsWith (.ListComp elt [⟨.Name x px, iter, [], 0⟩] scope pos) (some (.Name y py)) spos.line env = pure true)
    (hclos : closureFor scope env = pure cl) (hcells : ∀ n, cellsFrom n scope.names cl = (x, n) :: cl) (hpush : ∀ h, pushCells h scope.names = h.push (cellO none)) (hkind : scope.kind = .function) (hnames : ∀ y ∈ scope.names, y.2 = .local → scope.names.lookup y.1 = some .local)
    (hx : ∀ C K, (compEnvC scope ((x, K) :: cl) C env).kindOf x = some .cell) (hs1 : ∀ x, foldedSetIterable iter env x = pure x)
    (hy : env.kindOf y = some .local) (hp : (env.scope.kind == .class || (env.scope.kind == .module && env.locals != env.globals)) = false)
    (h : wpAny (model prog w) A (eval iter env) (fun xv s₁ => wpAny (model prog w) A (pyIter xv) (GxSrc prog w A h₀ L m s (.Name x px) (GkRest prog w A h₀ L m env s elt x scope cl (FinN h₀ L m s y Q))) E s₁) E s) :
    wpAny (model prog w) A (exec (.Assign [.Name y py] (.ListComp elt [⟨.Name x px, iter, [], 0⟩] scope pos) spos) env) Q E s := by
  rw [exec_Assign_Name_used _ _ _ _ hsw]
  refine wpAny_bind (wpAny_standAt (wpAny_bind ?_))
  show wpAny _ A (do let _ ← comprehension (.ListComp elt [⟨.Name x px, iter, [], 0⟩] scope pos) scope env iter.pos (newList []) false (eval iter env) (some (assign (.Name y py) env))) _ _ s
  exact wpAny_bind (wpAny_mono (gk_nameU (h₀ := h₀) (L := L) (m := m) (use := some (assign (.Name y py) env)) (Q := fun _ s' => Q .next s') (Fin := FinN h₀ L m s y Q) hh (@post_N prog w A E s h₀ L m env y py Q hLe hy hp) hclos hcells hpush hkind hnames hx hs1 h) (fun _ s' hq => wpAny_pure (wpAny_pure hq)) fun _ _ e => e)
end
end Mine
end
section
open PySem PySem.W PyProof.Rows
namespace Mine
theorem bits_hit {n : Int} {k : Nat} (h : ((n.fdiv ((8 : Int) ^ Int.toNat (0 + (k : Int)))).fmod 8 == 1) = true) : bitsOf (k + 1) n = bitsOf k n ++ [0 + (k : Int)] := by
  rw [Int.zero_add] at h ⊢
  unfold bitsOf
  rw [List.range_succ, List.map_append, List.filter_append]
  simp only [List.map_cons, List.map_nil]
  congr 1
  rw [Int.toNat_natCast] at h
  simp only [List.filter_cons, List.filter_nil, Int.toNat_natCast, h, if_true]
theorem bits_miss {n : Int} {k : Nat} (h : ((n.fdiv ((8 : Int) ^ Int.toNat (0 + (k : Int)))).fmod 8 == 1) = false) : bitsOf (k + 1) n = bitsOf k n := by
  rw [Int.zero_add] at h
  unfold bitsOf
  rw [List.range_succ, List.map_append, List.filter_append]
  simp only [List.map_cons, List.map_nil]
  rw [Int.toNat_natCast] at h
  simp only [List.filter_cons, List.filter_nil, Int.toNat_natCast, h]
  simp
theorem gx_tup {h₀ : Heap} {L : Addr} {m : Str → Option Value} {s : Shared} {I K C D T : Addr} {o ok oc : Obj} {mC : Str → Option Value} {ys : List Value} {vs : Array Value} {pre tl nw : List (Addr × Obj)} {R : List (Addr × Obj) → List Value → Prop} {h' : Heap} {tk' : Nat} (F : Fr h₀ L h' m)
    (N : News h₀ L h' nw) (hs : ∀ q ∈ [(I, o)] ++ ([(K, ok), (C, oc)] ++ (D, LCg.lst ys) :: (pre ++ tl)), q ∈ nw) (hT : (T, ({ cls := .type "tuple", data := .seq vs } : Obj)) ∈ nw) (hits : Objs [(I, "list_iterator")] [(I, o)]) (hC : LCg.NsObj oc mC)
    (hR : R (tl ++ [(T, { cls := .type "tuple", data := .seq vs })]) (ys ++ [.ref T]) ∧ Off K (tl ++ [(T, { cls := .type "tuple", data := .seq vs })])) :
    GxVal h₀ L m s [(I, "list_iterator")] [(I, o)] [(K, ok), (C, oc)] C D ys pre tl (fun tl' ys' => R tl' ys' ∧ Off K tl') (.ref T) { s with heap := h', toks := tk' } := by
  obtain ⟨es, ep, hd, _⟩ := hC
  have hi := hits.1.2
  have nI : @Ne Nat T I := news_ne N hT (q := (I, o)) (hs _ (.head _)) fun e => by rw [← show ({ cls := .type "tuple", data := .seq vs } : Obj) = o from e] at hi; exact absurd hi (by simp)
  have nC : @Ne Nat T C := news_ne N hT (q := (C, oc)) (hs _ (.tail _ (.tail _ (.head _)))) fun e => by rw [← show ({ cls := .type "tuple", data := .seq vs } : Obj) = oc from e] at hd; exact nomatch hd
  have nD : @Ne Nat T D := news_ne N hT (q := (D, LCg.lst ys)) (hs _ (.tail _ (.tail _ (.tail _ (.head _))))) fun e => by
    have := congrArg Obj.cls (show ({ cls := .type "tuple", data := .seq vs } : Obj) = LCg.lst ys from e)
    exact absurd this (by simp)
  refine ⟨h', tk', [(T, { cls := .type "tuple", data := .seq vs })], rfl, F, fun q hq => N q ?_, ?_, ?_, ?_, hR⟩
  · have key : [(I, o)] ++ ([(K, ok), (C, oc)] ++ (D, LCg.lst ys) :: (pre ++ (tl ++ [(T, { cls := .type "tuple", data := .seq vs })]))) = ([(I, o)] ++ ([(K, ok), (C, oc)] ++ (D, LCg.lst ys) :: (pre ++ tl))) ++ [(T, { cls := .type "tuple", data := .seq vs })] := by simp
    rw [key] at hq
    rcases List.mem_append.mp hq with hq | hq
    · exact hs q hq
    · rw [List.mem_singleton.mp hq]; exact hT
  · intro q hq hm
    rw [List.mem_singleton.mp hq] at hm
    have : T = I := by simpa using hm
    exact nI this
  · exact Off.cons nC off_nil
  · exact Off.cons nD off_nil
theorem b_sub1 {I K C D a b c d e f l : Addr × Obj} {tl tl9 tl8 : List (Addr × Obj)} : ∀ q ∈ [I] ++ ([K, C] ++ D :: ((a :: b :: c :: d :: e :: f :: tl) ++ tl9)), q ∈ l :: I :: K :: C :: D :: a :: b :: c :: d :: e :: f :: (tl ++ tl9 ++ tl8) := fun q hq => by
  rw [show l :: I :: K :: C :: D :: a :: b :: c :: d :: e :: f :: (tl ++ tl9 ++ tl8) = (l :: ([I] ++ ([K, C] ++ D :: ((a :: b :: c :: d :: e :: f :: tl) ++ tl9)))) ++ tl8 by simp]
  exact List.mem_append_left _ (.tail _ hq)
theorem b_sub2 {D a b c d e f q : Addr × Obj} {tl tl9 : List (Addr × Obj)} (h : q ∈ tl9) : q ∈ D :: a :: b :: c :: d :: e :: f :: (tl ++ tl9) := by
  rw [show D :: a :: b :: c :: d :: e :: f :: (tl ++ tl9) = (D :: a :: b :: c :: d :: e :: f :: tl) ++ tl9 by simp]
  exact List.mem_append_right _ h
theorem b_sub3 {q x1 x2 x3 x4 x5 x6 x7 x8 x9 y1 y2 y3 y4 y5 : Addr × Obj} {tl tl9 tl8 : List (Addr × Obj)} (h : q ∈ tl) : q ∈ x1 :: x2 :: x3 :: x4 :: x5 :: x6 :: x7 :: x8 :: x9 :: y1 :: y2 :: y3 :: y4 :: y5 :: (tl ++ tl9 ++ tl8) := by
  rw [show x1 :: x2 :: x3 :: x4 :: x5 :: x6 :: x7 :: x8 :: x9 :: y1 :: y2 :: y3 :: y4 :: y5 :: (tl ++ tl9 ++ tl8) = [x1, x2, x3, x4, x5, x6, x7, x8, x9, y1, y2, y3, y4, y5] ++ (tl ++ tl9 ++ tl8) by simp]
  exact List.mem_append_right _ (List.mem_append_left _ (List.mem_append_left _ h))
theorem b_sub4 {q D a b c d e f : Addr × Obj} {tl tl9 tl8 : List (Addr × Obj)} (h : q ∈ tl9) : q ∈ D :: a :: b :: c :: d :: e :: f :: (tl ++ tl9 ++ tl8) := by
  rw [show D :: a :: b :: c :: d :: e :: f :: (tl ++ tl9 ++ tl8) = [D, a, b, c, d, e, f] ++ (tl ++ tl9 ++ tl8) by simp]
  exact List.mem_append_right _ (List.mem_append_left _ (List.mem_append_right _ h))
theorem b_sub5 {x1 x2 x3 x4 x5 x6 a b c d : Addr × Obj} {r : List (Addr × Obj)} : ∀ q ∈ [a, b, c, d], q ∈ x1 :: x2 :: x3 :: x4 :: x5 :: x6 :: a :: b :: c :: d :: r := fun q hq => by
  rw [show x1 :: x2 :: x3 :: x4 :: x5 :: x6 :: a :: b :: c :: d :: r = [x1, x2, x3, x4, x5, x6] ++ ([a, b, c, d] ++ r) by simp]
  exact List.mem_append_right _ (List.mem_append_left _ hq)
theorem b_sub6 {a b c d : Addr × Obj} {r : List (Addr × Obj)} : ∀ q ∈ [a, b, c, d], q ∈ a :: b :: c :: d :: r := fun q hq => by
  rw [show a :: b :: c :: d :: r = [a, b, c, d] ++ r by simp]
  exact List.mem_append_left _ hq
theorem flat_len {ts : List (List Int)} (h : ∀ cs ∈ ts, TriOk cs) : ts.flatten.length = 3 * ts.length := by
  induction ts with
  | nil => rfl
  | cons a r ih =>
    obtain ⟨x, y, z, rfl, _⟩ := h a (.head _)
    rw [List.flatten_cons, List.length_append, ih fun cs hc => h cs (.tail _ hc)]
    simp only [List.length_cons, List.length_nil]
    omega
theorem flat_cb {ts : List (List Int)} (h : ∀ cs ∈ ts, TriOk cs) : ∀ c ∈ ts.flatten, 0 ≤ c ∧ c ≤ 7 := by
  intro c hc
  obtain ⟨cs, h1, h2⟩ := List.mem_flatten.mp hc
  obtain ⟨x, y, z, rfl, hab⟩ := h cs h1
  exact tri_cb hab.1 hab.2.1 hab.2.2 c h2
theorem LawF.zr {st : LawS} (h : LawF st) : 4 ≤ st.z ∧ st.z ≤ 7 := by
  unfold LawS.z
  have m1 := Int.fmod_nonneg_of_pos (st.d.getD (Int.toNat 0) 0) (show (0 : Int) < 4 by decide)
  have m2 := Int.fmod_lt_of_pos (st.d.getD (Int.toNat 0) 0) (show (0 : Int) < 4 by decide)
  omega
theorem lenT {prog : Program} {w : World} {A : Around} {E : Value → Shared → Prop} {s : Shared} {h₀ : Heap} {L l : Addr} {vs : List Value} {k : Int} {news : List (Addr × Obj)} {Q : Value → Shared → Prop} (N : News h₀ L s.heap news) (hl : (l, ({ cls := .type "tuple", data := .seq vs.toArray } : Obj)) ∈ news) (hn : (vs.length : Int) = k) (hz : k ≤ 10000) (h : Q (.int k (s.toks + 1)) { s with toks := s.toks + 1 + 1 }) :
    wpAny (model prog w) A (call (.builtin "len") [.ref l]) Q E s := by
  exact kun_lenT ⟨_, (N _ hl).1, rfl, _, rfl⟩ (by rw [List.size_toArray]; exact hn) (by omega) h
theorem all2_rev {α β : Type} {R : α → β → Prop} : ∀ {as : List α} {bs : List β}, All2 R as bs → All2 R as.reverse bs.reverse
  | _, _, .nil => .nil
  | _, _, .cons h t => by rw [List.reverse_cons, List.reverse_cons]; exact all2_app (all2_rev t) (.cons h .nil)
structure LawT where
  st : LawS
  pled : List (Addr × Obj)
  px : Addr
  b : Int
  tri : Addr
  yvs : List Value
  yep : Nat
  tl2 : List (Addr × Obj)
noncomputable def LawT.led (L : Addr) (x : LawT) : List (Addr × Obj) := x.pled ++ (x.tri, W.listOf x.yvs.toArray x.yep) :: (x.st.lt, W.listOf x.st.tvs.toArray x.st.ept) :: (x.st.lh, W.listOf x.st.vh.toArray x.st.eph) :: (L + 1 + 1 + 1, x.st.oj) :: (L + 1 + 1, x.st.ok) :: (L + 1, x.st.os) :: (x.st.tl ++ x.tl2)
structure LawG (w : World) (x : LawT) : Prop where
  f : LawF x.st
  b : 0 ≤ x.b ∧ x.b < 4
  pg : ∃ c t d tn tc vs, IntsAre vs (wsOf x.st.ts.flatten x.b).cnt ∧ WhiteL w c t x.px d tn tc (wsOf x.st.ts.flatten x.b) vs x.pled
  tr2 : All2 (TupAt x.tl2) x.yvs x.st.ts
  tup2 : ∀ q ∈ x.tl2, q.2.cls = .type "tuple" ∧ ∀ v, q.2.data ≠ .cell v
noncomputable def LawT.has (x : LawT) : List (Str × Value) := [(Str.ofString "have", .ref x.st.lh), (Str.ofString "drawn", .ref x.st.lt), (Str.ofString "page", .ref x.px), (Str.ofString "triangles", .ref x.tri)]
theorem b_led {h₀ h : Heap} {L : Addr} {x1 x2 x3 x4 x5 x6 a b c d t n e f g i j : Addr × Obj} {tl tl9 tl8 tl1 : List (Addr × Obj)} (N : News h₀ L h (x1 :: x2 :: x3 :: x4 :: x5 :: x6 :: a :: b :: c :: d :: t :: n :: e :: f :: g :: i :: j :: (tl ++ tl9 ++ tl8))) (k : ∀ q ∈ tl1, q ∈ tl9) : News h₀ L h ([a, b, c, d] ++ t :: e :: f :: g :: i :: j :: (tl ++ tl1)) :=
  news_sub N (sub_at 6 rfl (sub_at 7 rfl (sub_at 8 rfl (sub_at 9 rfl (sub_at 10 rfl (sub_at 12 rfl (sub_at 13 rfl (sub_at 14 rfl (sub_at 15 rfl (sub_at 16 rfl (sub_app (sub_end 17 (sub_tr sub_l sub_l)) (sub_end 17 (sub_tr (sub_tr k sub_r) sub_l)))))))))))))
structure PageOk (z : Int) (ts : List (List Int)) (b : Int) (st : Ws) : Prop where
  n : st.n = (ts.map fun cs => cs.sum + 3).sum + b
  nt : st.nt = 3 * (ts.length : Int)
  len : (st.cnt.length : Int) = z
  b : st.b = b
theorem TrisOk.pageB {z : Int} {ts : List (List Int)} (h : TrisOk z.toNat ts) (hz : 4 ≤ z ∧ z ≤ 7) {b : Int} (hb : 0 ≤ b ∧ b < 4) : PageOk z ts b (wsOf ts.flatten b) ∧ (sameW (wsOf ts.flatten b) (wsOf ts.reverse.flatten (b + 0)) = true ∧ sameW (wsOf ts.flatten b) (wsOf ts.reverse.flatten (b + 1)) = false) := by
  have h1 := h.b
  unfold okB at h1
  have h2 := List.all_eq_true.mp h1 b.toNat (List.mem_range.mpr (by omega))
  rw [show ((b.toNat : Nat) : Int) = b by omega] at h2
  dsimp only at h2
  simp only [Bool.and_eq_true, decide_eq_true_eq] at h2
  obtain ⟨a1, a2, a3, a4, a5⟩ := h2
  have e0 := List.all_eq_true.mp a5 0 (by decide)
  have e1 := List.all_eq_true.mp a5 1 (by decide)
  refine ⟨⟨a1, a2, ?_, a4⟩, ?_, ?_⟩
  · have : (wsOf ts.flatten b).cnt.length = z.toNat := by simpa using a3
    omega
  · simpa using e0
  · simpa using e1
theorem p_B (w : World) (p : Program) (loose : List Str) (mean : ExcName → Option Value) (mg mb : Str → Option Value) (h₀ : Heap) (fa L : Addr) (cdv : Value) (s : Shared) (Q : Flow → Shared → Prop) (E : Value → Shared → Prop) (m : Str → Option Value) (st : LawS) (hs : LawF st)
    (B : Below callerA h₀ [] h₀) (X : (kx w.params).In h₀) (T : Top p loose mean mg mb h₀)
    (F : Fr h₀ L s.heap m) (N : News h₀ L s.heap (st.led L)) (hm : Has m st.has) (hE : HasPO w L fa cdv E) {stB : List Str} (hk : ∀ m, Nxt w h₀ L fa cdv lgC.val s Q E m stB (fun m' news' => ∃ x : LawT, LawG w x ∧ Has m' x.has ∧ news' = x.led L)) :
    wpAny (model pw w) (lawA L fa cdv) (execs lgB.val (lawEnv L fa cdv)) Q E s := by
  have F := hm.fr F
  have hz := hs.zr
  have hs0 := hs
  obtain ⟨hdI, hdl, hdr, hok, hT, hnI, hcs, hck, hcj, htup⟩ := hs
  rcases hst : st with ⟨d, ts, lh, vh, eph, lt, tvs, ept, ln, nvs, nep, tl, oj, ok, os, tz⟩
  subst hst
  generalize hzz : LawS.z _ = z at *
  clear hzz
  simp only [LawS.led, LawS.has] at *
  clear hm
  have hg := get_b hdl hdr
  have hnl := hnI.length
  have htl := hT.length
  have hol := hok.len
  rw [List.length_map] at hnl
  (try dsimp only [lawA])
  (repeat (fail_if_success (with_reducible show wpAny _ _ (exec (Stmt.Assign _ (Expr.ListComp _ _ _ _) _) _) _ _ _)); first | (k_unfold; (try dsimp only)) | walk1 | (dsimp only; walk1))
  (with_reducible rename Fr _ _ _ _ => lF)
  (with_reducible rename News _ _ _ _ => lN)
  k_dflt (refine gk_nameA lF (by rfl) (by rfl) (by with_unfolding_all rfl) (by with_unfolding_all rfl) (by intro n; rfl) (by intro h; rfl) (by rfl) (by decide) (by intro _ _; rfl) (by intro _; rfl) (by rfl) (by rfl) ?_)
  (repeat (fail_if_success (with_reducible show wpAny _ _ (pyIter _) _ _ _)); first | (k_unfold; (try dsimp only)) | walk1 | (dsimp only; walk1))
  k_dflt (refine gx_list (vs := nvs) (by rfl) lF lN (.head _) (by omega) ?_)
  intro I9 h7 hsz old
  refine ⟨fun i tl ys => All2 (TupAt tl) ys (ts.take i), .nil, ?el, ?fin⟩
  case el =>
    rintro i v K9 C9 oK9 oC9 mC9 D9 ys9 tl9 its9 h6 tk6 E6 hi ⟨_, hv⟩ hInv hC9 hx9 hits F6 N6 hyl hDC hCK hoK
    clear lF lN
    obtain ⟨o6, rfl⟩ := objs1 hits
    have hv := hv
    obtain ⟨n9, t9, rfl, hn9⟩ := IntsAre.at hnI i v hv
    dsimp only [List.cons_append] at N6
    show wpAny _ _ (eval _ _) _ _ _
    (try dsimp only)
    (try k_fold)
    (repeat (fail_if_success (with_reducible show wpAny _ _ (eval (Expr.ListComp _ _ _ _) _) _ _ _)); first | (k_unfold; (try dsimp only)) | walk1 | (dsimp only; walk1))
    (with_reducible rename Fr _ _ _ _ => lF)
    (with_reducible rename News _ _ _ _ => lN)
    k_dflt (refine gx_name lF (by rfl) (by with_unfolding_all rfl) (by decide) (by rfl) (by decide) (by rfl) (by intro _; rfl) ?_)
    (repeat (fail_if_success (with_reducible show wpAny _ _ (pyIter _) _ _ _)); first | (k_unfold; (try dsimp only)) | walk1 | (dsimp only; walk1))
    (with_reducible rename Fr _ _ _ _ => lF)
    (with_reducible rename News _ _ _ _ => lN)
    (with_reducible rename IsRange _ _ _ _ _ _ _ _ => lR)
    have hzn : (z - 0).toNat = z.toNat := by rw [Int.sub_zero]
    k_dflt (refine gx_range (n := z.toNat) (by rfl) lF lN lR (small_one (by omega) (by omega) (by omega) (by omega)) (by rw [← hzn]; exact rangeSize_nat _ _) (by omega) ?_)
    intro I8 h5 hsz5 old5
    refine ⟨fun i tl ys => IntsAre ys (bitsOf i n9), .nil, ?el2, ?fin2⟩
    case el2 =>
      rintro i2 v2 C8 oC8 mC8 D8 ys8 tl8 its8 h4 tk4 E4 hi2 ⟨_, _, t8, rfl⟩ hInv2 hC8 hx8 hits2 F4 N4 hyl2 hDC2
      clear lF lN lR
      obtain ⟨o8, rfl⟩ := objs1 hits2
      dsimp only [List.cons_append, List.nil_append] at N4
      have hp8 := pow8 (v := (0 : Int) + (i2 : Int)) ⟨by omega, by omega⟩ n9
      show wpAny _ _ (PySem.isTrue _ _ _) _ _ _
      (try dsimp only)
      (try k_fold)
      (repeat (fail_if_success (with_reducible show wpAny _ _ (binaryOp Operator.FloorDiv _ _) _ _ _)); first | (k_unfold; (try dsimp only)) | walk1 | (dsimp only; walk1))
      k_dflt (refine floordiv_int hp8.1 ?_ (Or.inl hp8.2))
      clear hp8
      (repeat (first | (k_unfold; (try dsimp only)) | walk1 | (dsimp only; walk1)))
      · (with_reducible rename Fr _ _ _ _ => fE)
        (with_reducible rename News _ _ _ _ => nE)
        refine gx_plain fE nE ?_ ?_
        · exact fun q hq => hq
        · rw [bits_hit (by assumption)]
          exact IntsAre.append hInv2 (.cons _ _ .nil)
      · intro ha
        (with_reducible rename Fr _ _ _ _ => fE)
        (with_reducible rename News _ _ _ _ => nE)
        refine gx_no fE nE ?_ ?_
        · exact fun q hq => hq
        · rw [bits_miss ha]
          exact hInv2
    case fin2 =>
      rintro D8 ys8 tl8 hInv2 hyl2 h4 tk4 F4 N4
      clear lF lN lR
      have hn8 := hn9
      rw [List.getElem?_map] at hn8
      obtain ⟨cs, hcs9, rfl⟩ := Option.map_eq_some_iff.mp hn8
      rw [hok.bits cs (List.mem_of_getElem? hcs9)] at hInv2
      dsimp only [List.cons_append, List.nil_append] at N4
      (try dsimp only)
      (try k_fold)
      (repeat (fail_if_success (with_reducible refine GxVal_stop ?_)); first | (k_unfold; (try dsimp only)) | walk1 | (dsimp only; walk1))
      (try k_unfold)
      (with_reducible rename Fr _ _ _ _ => fE)
      (with_reducible rename News _ _ _ _ => nE)
      refine gx_tup fE nE (fun q hq => .tail _ (b_sub1 q hq)) (.head _) hits hC9 ⟨?_, ?_⟩
      · rw [List.take_add_one, hcs9]
        exact all2_app (hInv.imp fun a b h => h.mono fun q hq => List.mem_append_left _ hq) (.cons ⟨_, _, rfl, hInv2, by simp⟩ .nil)
      · exact hoK.app (Off.cons (news_ne nE (p := (_, _)) (q := (K9, oK9)) (.head _) (.tail _ (.tail _ (.tail _ (.head _)))) fun e => by rw [← show _ = oK9 from e] at hx9; exact nomatch hx9) off_nil)
  case fin =>
    rintro D9 ys9 tl9 hInv hyl h6 tk6 F6 N6
    clear lF lN
    have hT2 := hInv
    rw [hnl, List.take_length] at hT2
    clear hInv
    simp only [List.cons_append] at N6
    (try dsimp only)
    (try k_fold)
    (repeat (fail_if_success (with_reducible show wpAny _ _ (call (Value.ref _) _) _ _ _)); first | (k_unfold; (try dsimp only)) | walk1 | (dsimp only; walk1))
    have hg6 := hg (Int.toNat 6) (by decide)
    have hb6 := fmod_b (d.getD (Int.toNat 6) 0) 4 (by decide)
    k_dflt (refine CallsN.use (c_page w D9 ys9 ts _ _ _ _ _ tl9 _ hT2 (fun q hq => b_sub2 hq) (flat_cb hok.tri) (by rw [flat_len hok.tri]; omega) hg6.1 hg6.2 ⟨hb6.1, by omega⟩) B (by k_asm) X (by k_asm) T (by rfl) (by ktr_room) (by ktr_units) ?_)
    rintro r5 h5 tk5 nw5 F5 N5 hXO
    refine ex8 hXO ?_; clear hXO; rintro pc pt px pd ptn ptc pvs pled hXO
    refine an4 hXO ?_; clear hXO; rintro rfl hpI hpW rfl
    refine ex9 hpW ?_; clear hpW; rintro u1 u2 u3 k0 k1 k2 k3 k4 v6 rfl
    unfold whiteD at N5
    simp only [List.cons_append, List.nil_append] at N5
    (try dsimp only)
    (try k_fold)
    (repeat (fail_if_success (with_reducible show wpAny _ _ (eval (Expr.ListComp _ _ _ _) _) _ _ _)); first | (k_unfold; (try dsimp only)) | walk1 | (dsimp only; walk1))
    obtain ⟨hPg, hS0, hS1⟩ := hok.pageB hz hb6
    (with_reducible rename Fr _ _ _ _ => lF)
    (with_reducible rename News _ _ _ _ => lN)
    k_dflt (refine gx_name lF (by rfl) (by with_unfolding_all rfl) (by decide) (by rfl) (by decide) (by rfl) (by intro _; rfl) ?_)
    (repeat (fail_if_success (with_reducible show wpAny _ _ (pyIter _) _ _ _)); first | (k_unfold; (try dsimp only)) | walk1 | (dsimp only; walk1))
    k_dflt (refine gx_list (vs := tvs) (by rfl) lF lN (.tail _ (.tail _ (.tail _ (.tail _ (.tail _ (.tail _ (.head _))))))) (by omega) ?_)
    intro I8 h4 hsz4 old4
    refine ⟨fun i tl ys => IntsAre ys ((ts.take i).map fun cs => cs.sum + 3), .nil, ?el3, ?fin3⟩
    case el3 =>
      rintro i v C8 oC8 mC8 D8 ys8 tl8 its8 h3 tk3 E3 hi ⟨_, hv⟩ hInv hC8 hx8 hits F3 N3 hyl3 hDC
      clear lF lN
      obtain ⟨o8, rfl⟩ := objs1 hits
      have hv := hv
      obtain ⟨cs, hcs9, T9, cvs, rfl, hI9, hm9⟩ := hT.get hv
      obtain ⟨a, b, c, rfl, hab⟩ := hok.tri cs (List.mem_of_getElem? hcs9)
      dsimp only [List.cons_append, List.nil_append] at N3
      have N2 := News.dup N3 (b_sub3 hm9)
      clear N3
      show wpAny _ _ (eval _ _) _ _ _
      (try dsimp only)
      (try k_fold)
      (repeat (fail_if_success (with_reducible refine GxVal_stop ?_)); first | (k_unfold; (try dsimp only)) | walk1 | (dsimp only; walk1))
      (try k_unfold)
      (with_reducible rename Fr _ _ _ _ => fE)
      (with_reducible rename News _ _ _ _ => nE)
      refine gx_plain fE nE ?_ ?_
      · exact sub_tail
      · rw [List.take_add_one, hcs9, List.map_append]
        exact IntsAre.append hInv (.cons _ _ .nil)
    case fin3 =>
      rintro D8 ys8 tl8 hInv hyl3 h3 tk3 F3 N3
      clear lF lN
      have hS := hInv
      rw [htl, List.take_length] at hS
      clear hInv
      have hSl := hS.length
      rw [List.length_map] at hSl
      simp only [List.cons_append] at N3
      (try dsimp only)
      (try k_fold)
      (repeat (fail_if_success (with_reducible show wpAny _ _ (compareOp CmpOp.NotEq _ _) _ _ _)); first | (k_unfold; (try dsimp only)) | walk1 | (dsimp only; walk1))
      walk1
      rw [hPg.n, bne_self_eq_false]
      (repeat (fail_if_success (with_reducible show wpAny _ _ (call (Value.builtin "len") _) _ _ _)); first | (k_unfold; (try dsimp only)) | walk1 | (dsimp only; walk1))
      (with_reducible rename News _ _ _ _ => lN)
      k_dflt (refine lenL (News.isList lN (.tail _ (.tail _ (.tail _ (.tail _ (.tail _ (.tail _ (.tail _ (.head _)))))))) ) htl (by omega) ?_)
      (repeat (fail_if_success (with_reducible show wpAny _ _ (compareOp CmpOp.NotEq _ _) _ _ _)); first | (k_unfold; (try dsimp only)) | walk1 | (dsimp only; walk1))
      walk1
      rw [hPg.nt, bne_self_eq_false]
      (repeat (fail_if_success (with_reducible show wpAny _ _ (compareOp CmpOp.NotEq _ _) _ _ _)); first | (k_unfold; (try dsimp only)) | walk1 | (dsimp only; walk1))
      (with_reducible rename News _ _ _ _ => lN)
      have hpl := hpI.length
      k_dflt (refine lenT (k := z) lN (.tail _ (.tail _ (.tail _ (.tail _ (.head _))))) (by rw [hpl]; exact hPg.len) (by omega) ?_)
      (repeat (fail_if_success (with_reducible show wpAny _ _ (compareOp CmpOp.NotEq _ _) _ _ _)); first | (k_unfold; (try dsimp only)) | walk1 | (dsimp only; walk1))
      walk1
      rw [bne_self_eq_false]
      (repeat (fail_if_success (with_reducible show wpAny _ _ (compareOp CmpOp.NotEq _ _) _ _ _)); first | (k_unfold; (try dsimp only)) | walk1 | (dsimp only; walk1))
      walk1
      rw [hPg.b, bne_self_eq_false]
      (repeat (fail_if_success (with_reducible show wpAny _ _ (call (Value.ref _) _) _ _ _)); first | (k_unfold; (try dsimp only)) | walk1 | (dsimp only; walk1))
      (with_reducible rename News _ _ _ _ => lN)
      dsimp only at lN ⊢
      rw [krv_pick] at lN
      dsimp only at lN
      have hg7 := hg (Int.toNat 7) (by decide)
      have hb7 := fmod_b (d.getD (Int.toNat 7) 0) 2 (by decide)
      have hokr : ∀ cs ∈ ts.reverse, TriOk cs := fun cs hc => hok.tri cs (List.mem_reverse.mp hc)
      have hSe : sameW (wsOf ts.flatten ((d.getD (Int.toNat 6) 0).fmod 4)) (wsOf ts.reverse.flatten ((d.getD (Int.toNat 6) 0).fmod 4 + (d.getD (Int.toNat 7) 0).fmod 2)) = ((d.getD (Int.toNat 7) 0).fmod 2 == 0) := by
        rcases (show (d.getD (Int.toNat 7) 0).fmod 2 = 0 ∨ (d.getD (Int.toNat 7) 0).fmod 2 = 1 by omega) with e | e
        · rw [e]; exact hS0
        · rw [e]; exact hS1
      k_dflt (refine CallsN.use (c_page w _ ys9.reverse ts.reverse _ _ _ _ _ tl9 _ (all2_rev hT2) (fun q hq => .tail _ (.tail _ (.tail _ (.tail _ (.tail _ (.tail _ (b_sub4 hq))))))) (flat_cb hokr) (by rw [flat_len hokr, List.length_reverse]; omega) hg7.1 hg7.2 ⟨by omega, by omega⟩) B (by k_asm) X (by k_asm) T (by rfl) (by ktr_room) (by ktr_units) ?_)
      rintro r2 h2 tk2 nw2 F2 N2 hXO
      refine ex8 hXO ?_; clear hXO; rintro pc' pt' px' pd' ptn' ptc' pvs' pled' hXO
      refine an4 hXO ?_; clear hXO; rintro rfl hpI' hpW' rfl
      refine ex9 hpW' ?_; clear hpW'; rintro u1' u2' u3' k0' k1' k2' k3' k4' v6' rfl
      unfold whiteD at N2
      simp only [List.cons_append, List.nil_append] at N2
      (try dsimp only)
      (try k_fold)
      (repeat (fail_if_success (with_reducible show wpAny _ _ (call (Value.ref _) _) _ _ _)); first | (k_unfold; (try dsimp only)) | walk1 | (dsimp only; walk1))
      k_dflt (refine CallsN.use (c_equal w (.ref px) (.ref px') _ _ _ _ ⟨_, _, _, _, _, _, _, _, rfl, hpI, ⟨_, _, _, _, _, _, _, _, _, rfl⟩, b_sub5⟩ ⟨_, _, _, _, _, _, _, _, rfl, hpI', ⟨_, _, _, _, _, _, _, _, _, rfl⟩, b_sub6⟩ (fun q hq => hq)) B (by k_asm) X (by k_asm) T (by rfl) (by ktr_room) (by ktr_units) ?_)
      rintro r1 h1 tk1 nw1 F1 N1 ⟨rfl, rfl⟩
      rw [hSe]
      (try dsimp only)
      (try k_fold)
      (repeat (fail_if_success (with_reducible show wpAny _ _ (compareOp CmpOp.IsNot _ _) _ _ _)); first | (k_unfold; (try dsimp only)) | walk1 | (dsimp only; walk1))
      walk1
      rw [bne_self_eq_false]
      (repeat (fail_if_success (with_reducible show wpAny _ _ (execs (Stmt.Assign _ (Expr.Call _ _ _ _) _ :: _) _) _ _ _)); first | (k_unfold; (try dsimp only)) | walk1 | (dsimp only; walk1))
      (try k_unfold)
      (with_reducible rename Fr _ _ _ _ => fE)
      (with_reducible rename News _ _ _ _ => nE)
      obtain ⟨tl1, htl1, hT1⟩ := pick_tups hT2
      refine (hk _).out _ _ _ _ fE (b_led nE (fun q hq => (htl1 q hq).1)) ⟨fun z hz => rfl⟩ ⟨⟨⟨d, ts, lh, vh, eph, lt, tvs, ept, ln, nvs, nep, tl, oj, ok, os, tz⟩, _, px, _, D9, ys9, _, tl1⟩, ⟨hs0, hb6, ⟨_, _, _, _, _, _, hpI, ⟨_, _, _, _, _, _, _, _, _, rfl⟩⟩, hT1, fun q hq => (htl1 q hq).2⟩, ?_, rfl⟩
      exact Has.cons rfl (Has.cons rfl (Has.cons rfl (Has.cons rfl Has.nil)))
end Mine
end
section
open PySem PySem.W PyProof.Rows
namespace Mine
structure EntOf (e : Ent) (r : Int × List Int) : Prop where
  c : e.1 = r.1
  cb : 0 ≤ r.1 ∧ r.1 ≤ 6
  nm : ∃ sd, e.2.1 = nameS r.1 sd
  tx : ∃ sd, e.2.2 = hdrS r.2 sd
  rb : ∀ c ∈ r.2, 0 ≤ c ∧ c ≤ 7
  rl : r.2.length ≤ 20
theorem fAll_ents {css : List (List Int)} (hc : ∀ cs ∈ css, TriOk cs) (sd : Int) : ∀ i, i ≤ css.length → All2 EntOf (fAll css sd i).2 (rotAll (css.take i))
  | 0, _ => .nil
  | i + 1, hi => by
    have ih := fAll_ents hc sd i (by omega)
    have hg : css[i]? = some css[i] := List.getElem?_eq_getElem hi
    have hd : css.getD i [] = css[i] := by rw [List.getD_eq_getElem?_getD, hg]; rfl
    obtain ⟨a, b, c, hcs, ha, hb, hcc⟩ := hc css[i] (List.getElem_mem hi)
    rw [fAll, hd]
    have e : rotAll (css.take (i + 1)) = rotAll (css.take i) ++ [(a, [a, b, c]), (b, [b, c, a]), (c, [c, a, b])] := by
      unfold rotAll
      rw [List.take_add_one, hg, List.flatMap_append]
      simp [hcs, List.range_succ]
    rw [e, hcs]
    generalize fAll css sd i = st at ih
    show All2 EntOf (((st.2 ++ [_]) ++ [_]) ++ [_]) _
    rw [List.append_assoc, List.append_assoc]
    refine all2_app ih (.cons ⟨rfl, ha, ⟨_, rfl⟩, ⟨_, rfl⟩, tri_cb ha hb hcc, by show 3 ≤ 20; decide⟩ (.cons ⟨rfl, hb, ⟨_, rfl⟩, ⟨_, rfl⟩, tri_cb hb hcc ha, by show 3 ≤ 20; decide⟩ (.cons ⟨rfl, hcc, ⟨_, rfl⟩, ⟨_, rfl⟩, tri_cb hcc ha hb, by show 3 ≤ 20; decide⟩ .nil)))
theorem chr_inj {a b : Int} (ha : 0 ≤ a) (hb : 0 ≤ b) : ((⟨#[(97 + a).toNat]⟩ : Str) == ⟨#[(97 + b).toNat]⟩) = (a == b) := by
  by_cases h : a = b
  · subst h; simp
  · have : ¬ (⟨#[(97 + a).toNat]⟩ : Str) = ⟨#[(97 + b).toNat]⟩ := fun e => by
      injection e with e
      have e2 := congrArg Array.toList e
      simp only [List.cons.injEq, and_true] at e2
      omega
    rw [beq_eq_false_iff_ne.mpr this, beq_eq_false_iff_ne.mpr h]
theorem gall_texts : ∀ {es : List Ent} {rs : List (Int × List Int)}, All2 EntOf es rs → ∀ {c : Int}, 0 ≤ c → gallL (es.map fun e => e.2) ⟨#[(97 + c).toNat]⟩ = textsOf es c
  | _, _, .nil, _, _ => rfl
  | e :: es, r :: rs, .cons h t, c, hc => by
    have ih := gall_texts t hc
    obtain ⟨sd, hn⟩ := h.nm
    have hl := (name_at sd h.cb).2
    unfold gallL textsOf at ih ⊢
    rw [List.map_cons, List.filter_cons, List.filter_cons, hn, hl, chr_inj h.cb.1 hc, h.c]
    cases r.1 == c with
    | true => simp only [if_true, List.map_cons]; rw [ih]
    | false => rw [if_neg Bool.false_ne_true, if_neg Bool.false_ne_true]; exact ih
noncomputable def loC (x : Str) : Prop := ∀ c ∈ x.cps, c < 1114112
theorem loC_app {a b : Str} (ha : loC a) (hb : loC b) : loC (a ++ b) := fun c hc => by
  rw [show (a ++ b : Str).cps = a.cps ++ b.cps from rfl, Array.mem_append] at hc
  exact hc.elim (ha c) (hb c)
theorem loC_sp {k : Int} (h : 0 ≤ k ∧ k ≤ 7) : loC (Txt.mul (Str.ofString " ") k) := fun c hc => by
  have := okV_sp ⟨k.toNat, by omega⟩
  rw [show ((⟨k.toNat, by omega⟩ : Fin 8).1 : Int) = k from by show (k.toNat : Int) = k; omega] at this
  rw [this c hc]; decide
theorem lo_uns : ∀ u ∈ unsN, u < 1114112 := by decide +kernel
theorem lo_bes : ∀ u ∈ besN, u < 1114112 := by decide +kernel
theorem loC_one {u : Nat} (h : u < 1114112) : loC ⟨#[u]⟩ := fun c hc => by
  have : c = u := by simpa using hc
  rw [this]; exact h
theorem loC_type {cs : List Int} (h : ∀ c ∈ cs, 0 ≤ c ∧ c ≤ 7) : ∀ (k : Int) (t : Str), loC t → loC (typeGo cs k t) := by
  induction cs with
  | nil => intro k t ht; exact ht
  | cons c r ih =>
    intro k t ht
    have hb := h c (.head _)
    have hc := cut_fact k c hb.1
    refine ih (fun x hx => h x (.tail _ hx)) _ _ ?_
    unfold pileS
    exact loC_app (loC_app (loC_app (loC_app ht (loC_sp (by omega))) (loC_one (lo_uns _ (uns_at k)))) (loC_sp (by omega))) fun x hx => by rw [okV_tab x hx]; decide
theorem loC_hdr {cs : List Int} {k : Int} (h : ∀ c ∈ cs, 0 ≤ c ∧ c ≤ 7) : loC (hdrS cs k) := by
  unfold hdrS typeS
  refine loC_app (loC_app (loC_type h _ _ fun x hx => ?_) (loC_one (lo_bes _ (bes_at _)))) fun x hx => ?_
  · exact absurd hx (by simp [show (Str.ofString "").cps = #[] from rfl])
  · rcases okV_spt x hx with rfl | rfl <;> decide
structure TxtOk (x : Str) (st : Ws) : Prop where
  len : x.length < 1000
  lo : loC x
  ws : wsRun (KStt.codes (cleanS (KStt.codes x))) ws0 = st
theorem texts_ok : ∀ {es : List Ent} {rs : List (Int × List Int)}, All2 EntOf es rs → ∀ c : Int, All2 TxtOk (textsOf es c) ((rs.filter fun r => r.1 == c).map fun r => wsOf r.2 0)
  | _, _, .nil, _ => .nil
  | e :: es, r :: rs, .cons h t, c => by
    have ih := texts_ok t c
    unfold textsOf at ih ⊢
    rw [List.filter_cons, List.filter_cons, h.c]
    cases r.1 == c with
    | true =>
      simp only [if_true, List.map_cons]
      obtain ⟨sd, hx⟩ := h.tx
      exact .cons ⟨by rw [hx]; exact hdr_len h.rb h.rl, by rw [hx]; exact loC_hdr h.rb, by rw [hx]; exact hdr_ws h.rb⟩ ih
    | false => rw [if_neg Bool.false_ne_true, if_neg Bool.false_ne_true]; exact ih
theorem TrisOk.spot {z : Nat} {ts : List (List Int)} (h : TrisOk z ts) {c : Nat} (hc : c < z) : 1 ≤ (spotC ts (c : Int)).length ∧ (spotC ts (c : Int)).length ≤ 15 := by
  have h1 := h.d
  unfold okD at h1
  rw [Bool.and_eq_true] at h1
  have h1 := h1.1
  have h2 := List.all_eq_true.mp h1 c (List.mem_range.mpr hc)
  obtain ⟨r, hr, hr2⟩ := List.any_eq_true.mp h2
  have h3 := h.c
  unfold okC at h3
  simp only [Bool.and_eq_true] at h3
  have h4 := List.all_eq_true.mp h3.1 (spotC ts (c : Int)) (List.mem_map.mpr ⟨c, List.mem_range.mpr hc, rfl⟩)
  refine ⟨?_, of_decide_eq_true h4⟩
  unfold spotC
  rw [List.length_map]
  exact List.length_pos_of_mem (List.mem_filter.mpr ⟨hr, hr2⟩)
end Mine
end
section
open PySem PySem.W PyProof.Rows
namespace Mine
theorem dat_strs {news : List (Addr × Obj)} : ∀ {vs : List Value} {ss : List Str}, StrsAre vs ss → DatAll news vs (ss.map Dat.str)
  | _, _, .nil => .nil
  | _, _, .cons _ _ h => .cons (.str _ _) (dat_strs h)
theorem dat_strs_ok {ss : List Str} {n : Nat} (h : ∀ x ∈ ss, loC x) : ∀ d ∈ ss.map Dat.str, kqdOk n d = true := by
  intro d hd
  obtain ⟨x, hx, rfl⟩ := List.mem_map.mp hd
  have h1 := h x hx
  have : PyData.strOk x = true := by
    unfold PyData.strOk
    rw [Array.all_eq_true_iff_forall_mem]
    exact fun c hc => by simpa using h1 c hc
  cases n <;> exact this
noncomputable def noCell (o : Obj) : Bool := match o.data with | .cell _ => false | _ => true
theorem noCell_at {o : Obj} (h : noCell o = true) : ∀ v, o.data ≠ .cell v := fun v e => by
  unfold noCell at h
  rw [e] at h
  exact Bool.false_ne_true h
noncomputable def plainOf (tl : List (Addr × Obj)) : List (Addr × Obj) := tl.filter fun q => noCell q.2
theorem plain_sub {tl : List (Addr × Obj)} : ∀ q ∈ plainOf tl, q ∈ tl := fun q hq => (List.mem_filter.mp hq).1
theorem plain_no {tl : List (Addr × Obj)} : ∀ q ∈ plainOf tl, ∀ v, q.2.data ≠ .cell v := fun q hq => noCell_at (List.mem_filter.mp hq).2
theorem HdrAt.plain {tl : List (Addr × Obj)} {v : Value} {h : Str × Str} (k : HdrAt tl v h) : HdrAt (plainOf tl) v h := by
  obtain ⟨⟨a, tk, tv, e, hm⟩, ok⟩ := k
  exact ⟨⟨a, tk, tv, e, List.mem_filter.mpr ⟨hm, rfl⟩⟩, ok⟩
theorem DueOk.plain {tl : List (Addr × Obj)} {kvs : List (Int × Value)} {es : List Ent} (h : DueOk tl kvs es) : DueOk (plainOf tl) kvs es := ⟨fun c => by
  rcases h.all c with ⟨h | ⟨D, ys, ep, h1, h2, h3⟩⟩
  · exact ⟨.inl h⟩
  · exact ⟨.inr ⟨D, ys, ep, h1, h2, List.mem_filter.mpr ⟨h3, rfl⟩⟩⟩⟩
theorem spot_ne {w : World} {h₀ h : Heap} {L S D : Addr} {news led led' : List (Addr × Obj)} {spv ys : List Value} {sep yep : Nat} {sw : List (List Ws)} {ws : List Ws} (N : News h₀ L h news) (hS : (S, W.listOf spv.toArray sep) ∈ news) (hD : (D, W.listOf ys.toArray yep) ∈ news)
    (hA : All2 (SpotAt w led) spv sw) (hB : All2 (WhAt w led') ys ws) (hw : 1 ≤ ws.length) (h1 : ∀ q ∈ led, q ∈ news) (h2 : ∀ q ∈ led', q ∈ news) : @Ne Nat D S := by
  refine news_ne N (p := (D, _)) (q := (S, _)) hD hS fun e => ?_
  have e2 : ys = spv := by
    have := congrArg Obj.data (show W.listOf ys.toArray yep = W.listOf spv.toArray sep from e)
    exact (by simpa [W.listOf] using (show Data.seq ys.toArray yep = Data.seq spv.toArray sep from this) : ys = spv ∧ yep = sep).1
  subst e2
  cases hB with
  | nil => simp at hw
  | cons hb _ =>
    cases hA with
    | cons ha _ =>
      obtain ⟨c, t, x, d, tn, tc, vs, l, e3, _, hW, hs⟩ := hb
      obtain ⟨D', ovs, ep, e4, hm, _⟩ := ha
      obtain ⟨_, _, _, _, _, _, _, _, _, rfl⟩ := hW
      rw [e3] at e4
      obtain rfl : x = D' := by injection e4
      have a1 := (N _ (h2 _ (hs _ (.head _)))).1
      have a2 := (N _ (h1 _ hm)).1
      have a3 := Option.some.inj (a1.symm.trans a2)
      have := congrArg Obj.cls (show instObj 100 d = W.listOf ovs.toArray ep from a3)
      exact absurd this (by simp [instObj, W.listOf])
theorem gx_white {w : World} {h₀ : Heap} {L : Addr} {m : Str → Option Value} {s : Shared} {I C D x d tn tc : Addr} {o oc : Obj} {mC : Str → Option Value} {ys : List Value} {pre tl nw led : List (Addr × Obj)} {R : List (Addr × Obj) → List Value → Prop} {h' : Heap} {tk' : Nat} {c : Str} {t : Tok} {st : Ws} {vs : List Value} {v : Value} (F : Fr h₀ L h' m)
    (N : News h₀ L h' nw) (hs : ∀ q ∈ [(I, o)] ++ ([(C, oc)] ++ (D, LCg.lst ys) :: (pre ++ tl)), q ∈ nw) (hL : ∀ q ∈ led, q ∈ nw) (hW : WhiteL w c t x d tn tc st vs led) (hits : Objs [(I, "list_iterator")] [(I, o)]) (hC : LCg.NsObj oc mC) (hv : mC (Str.ofString "text") = some v)
    (hR : R (tl ++ led) (ys ++ [.ref x])) :
    GxVal h₀ L m s [(I, "list_iterator")] [(I, o)] [(C, oc)] C D ys pre tl R (.ref x) { s with heap := h', toks := tk' } := by
  obtain ⟨es, ep, hd, _, hf⟩ := hC
  have hi := hits.1.2
  obtain ⟨t1, t2, t3, k0, k1, k2, k3, k4, v6, rfl⟩ := hW
  have mI := hs (I, o) (.head _)
  have mC' := hs (C, oc) (.tail _ (.head _))
  have mD := hs (D, LCg.lst ys) (.tail _ (.tail _ (.head _)))
  have nI : ∀ q ∈ [(x, instObj 100 d), (d, whiteD w c t st.n st.nt t1 t2 k0 k1 k2 k3 k4 tn v6), (tn, ({ cls := .type "tuple", data := .seq #[.ref tc, .int st.b t3] } : Obj)), (tc, ({ cls := .type "tuple", data := .seq vs.toArray } : Obj))], @Ne Nat q.1 I ∧ @Ne Nat q.1 C ∧ @Ne Nat q.1 D := by
    intro q hq
    have hqn := hL q hq
    refine ⟨news_ne N hqn mI fun e => ?_, news_ne N hqn mC' fun e => ?_, news_ne N hqn mD fun e => ?_⟩
    · rw [← show q.2 = o from e] at hi
      simp only [List.mem_cons, List.not_mem_nil, or_false] at hq
      rcases hq with rfl | rfl | rfl | rfl
      · exact absurd hi (by simp [instObj])
      · exact absurd hi (by simp [whiteD, W.dictOf])
      · exact absurd hi (by simp)
      · exact absurd hi (by simp)
    · rw [← show q.2 = oc from e] at hd
      simp only [List.mem_cons, List.not_mem_nil, or_false] at hq
      rcases hq with rfl | rfl | rfl | rfl
      · exact nomatch hd
      · have h1 := hf (Str.ofString "text")
        unfold whiteD at hd
        injection hd with hd
        rw [← hd, hv] at h1
        exact nomatch h1
      · exact nomatch hd
      · exact nomatch hd
    · simp only [List.mem_cons, List.not_mem_nil, or_false] at hq
      rcases hq with rfl | rfl | rfl | rfl
      · have := congrArg Obj.cls (show instObj 100 d = LCg.lst ys from e); exact absurd this (by simp [instObj])
      · have := congrArg Obj.cls (show whiteD w c t st.n st.nt t1 t2 k0 k1 k2 k3 k4 tn v6 = LCg.lst ys from e); exact absurd this (by simp [whiteD, W.dictOf])
      · have := congrArg Obj.cls (show ({ cls := .type "tuple", data := .seq #[.ref tc, .int st.b t3] } : Obj) = LCg.lst ys from e); exact absurd this (by simp)
      · have := congrArg Obj.cls (show ({ cls := .type "tuple", data := .seq vs.toArray } : Obj) = LCg.lst ys from e); exact absurd this (by simp)
  refine ⟨h', tk', _, rfl, F, fun q hq => N q ?_, fun q hq hm => ?_, fun q hq => (nI q hq).2.1, fun q hq => (nI q hq).2.2, hR⟩
  · rw [← List.append_assoc pre, ← List.cons_append, ← List.append_assoc, ← List.append_assoc] at hq
    rcases List.mem_append.mp hq with hq | hq
    · exact hs q (by rwa [List.append_assoc] at hq)
    · exact hL q hq
  · have : q.1 = I := by simpa using hm
    exact (nI q hq).1 this
end Mine
end
section
open PySem PySem.W PyProof.Rows
namespace Mine
theorem pow2c {v : Int} (h : 0 ≤ v ∧ v ≤ 7) (x : Int) : (2 : Int) ^ Int.toNat v ≠ 0 ∧ Builtin.divisionGoesByPylong x ((2 : Int) ^ Int.toNat v) = false := by
  obtain ⟨f, rfl⟩ : ∃ f : Fin 8, v = (f.1 : Int) := ⟨⟨v.toNat, by omega⟩, by show v = (v.toNat : Int); omega⟩
  have key : ∀ f : Fin 8, (2 : Int) ^ Int.toNat (f.1 : Int) ≠ 0 ∧ ((2 : Int) ^ Int.toNat (f.1 : Int)).natAbs.log2 < 9000 := by decide +kernel
  exact ⟨(key f).1, PyProof.noPylong_of_log2 (key f).2⟩
structure NoC (l : List (Addr × Obj)) : Prop where
  all : ∀ q ∈ l, ∀ v, q.2.data ≠ .cell v
theorem NoC.cons {p : Addr × Obj} {l : List (Addr × Obj)} (h : ∀ v, p.2.data ≠ .cell v) (k : NoC l) : NoC (p :: l) := ⟨List.forall_mem_cons.mpr ⟨h, k.all⟩⟩
theorem NoC.app {l r : List (Addr × Obj)} (h : NoC l) (k : NoC r) : NoC (l ++ r) := ⟨fun q hq => (List.mem_append.mp hq).elim (h.all q) (k.all q)⟩
theorem NoC.nil : NoC [] := ⟨List.forall_mem_nil _⟩
theorem News.sub2 {h₀ h : Heap} {L : Addr} {p : Addr × Obj} {l r : List (Addr × Obj)} (N : News h₀ L h (p :: l)) (k : ∀ q ∈ r, q ∈ l) : News h₀ L h (p :: r) := fun q hq => N q (by
  rcases List.mem_cons.mp hq with rfl | hq
  · exact .head _
  · exact .tail _ (k q hq))
theorem off_sub2 {S : Addr} {l r : List (Addr × Obj)} (h : ∀ p ∈ l, p.1 < S) (k : ∀ q ∈ r, q ∈ l) : Off S r := fun q hq => Nat.ne_of_lt (h q (k q hq))
theorem c_name2 {S : Addr} {l : List (Addr × Obj)} (_h : Off S l) {P : Prop} (k : ∀ S' : Addr, S' = S → P) : P := k S rfl
theorem rot_len : ∀ ts : List (List Int), (rotAll ts).length = 3 * ts.length
  | [] => rfl
  | a :: r => by
    have h := rot_len r
    unfold rotAll at h ⊢
    rw [List.flatMap_cons, List.length_append, h, List.length_map, List.length_range, List.length_cons]
    omega
theorem HdrAt.mono2 {led led' : List (Addr × Obj)} {v : Value} {x : Str × Str} (h : HdrAt led v x) (k : ∀ q ∈ led, q ∈ led') : HdrAt led' v x := by
  obtain ⟨⟨a, tk, tv, e, hm⟩, ok⟩ := h
  exact ⟨⟨a, tk, tv, e, k _ hm⟩, ok⟩
theorem white_no {w : World} {c : Str} {t : Tok} {x d tn tc : Addr} {st : Ws} {vs : List Value} {led : List (Addr × Obj)} (hW : WhiteL w c t x d tn tc st vs led) : NoC led := by
  obtain ⟨t1, t2, t3, k0, k1, k2, k3, k4, v6, rfl⟩ := hW
  exact .cons (fun v e => nomatch e) (.cons (fun v e => nomatch e) (.cons (fun v e => nomatch e) (.cons (fun v e => nomatch e) .nil)))
theorem white_off {w : World} {c : Str} {t : Tok} {x d tn tc a : Addr} {st : Ws} {vs : List Value} {o : Obj} {ty : String} {led nw : List (Addr × Obj)} {h₀ h : Heap} {L : Addr} (hW : WhiteL w c t x d tn tc st vs led) (N : News h₀ L h nw) (hS : (a, o) ∈ nw) (hl : ∀ q ∈ led, q ∈ nw) (hc : o.cls = .type ty) (h1 : ty ≠ "dict") (h2 : ty ≠ "tuple") : Off a led := by
  obtain ⟨t1, t2, t3, k0, k1, k2, k3, k4, v6, rfl⟩ := hW
  refine fun q hq => news_ne N (hl q hq) hS fun e => ?_
  rw [← show q.2 = o from e] at hc
  simp only [List.mem_cons, List.not_mem_nil, or_false] at hq
  rcases hq with rfl | rfl | rfl | rfl
  · exact nomatch hc
  · exact h1 (by injection hc with e; exact e.symm)
  · exact h2 (by injection hc with e; exact e.symm)
  · exact h2 (by injection hc with e; exact e.symm)
theorem c_start {h₀ h : Heap} {L : Addr} {tri lt lh J K Z : Addr × Obj} {pled tl tl2 : List (Addr × Obj)} (N : News h₀ L h (pled ++ tri :: lt :: lh :: J :: K :: Z :: (tl ++ tl2))) {P : Prop}
    (k : ∀ R, R = J :: lt :: (pled ++ (tl ++ tl2)) → News h₀ L h (tri :: lh :: K :: Z :: R) → P) : P := k _ rfl (news_sub N (sub_tr (B := (tri :: lt :: lh :: J :: K :: Z :: (tl ++ tl2)) ++ pled)
  (sub_at 0 rfl (sub_at 2 rfl (sub_at 4 rfl (sub_at 5 rfl (sub_at 3 rfl (sub_at 1 rfl (sub_app sub_r (sub_end 6 sub_l)))))))) (sub_app sub_r sub_l)))
theorem c_names {w : World} {h₀ h : Heap} {L l x d : Addr} {k0 : Tok} {a b c e : Addr × Obj} {r : List (Addr × Obj)} (N : News h₀ L h ((l, W.listOf #[] 0) :: (x, instObj 273 d) :: (d, dictOf [{ hash := PyData.keyHash w.params (Str.ofString "_headers"), key := .str (Str.ofString "_headers") k0, val := .ref l }] 1) :: a :: b :: c :: e :: r)) (o : x < l ∧ d < l ∧ a.1 < l ∧ b.1 < l ∧ c.1 < l ∧ e.1 < l ∧ AllLt l r) {P : Prop}
    (k : ∀ x9 d9 l9 k9, x9 = x → d9 = d → l9 = l → k9 = k0 → News h₀ L h (hdrL w x9 d9 l9 k9 [] 0 ++ a :: b :: c :: e :: r) → @Ne Nat x9 l9 → @Ne Nat d9 l9 → Off l9 (a :: b :: c :: e :: r) → P) : P :=
  k x d l k0 rfl rfl rfl rfl (news_sub (B := (l, W.listOf #[] 0) :: (x, instObj 273 d) :: (d, hdrD w l k0) :: a :: b :: c :: e :: r) N (sub_at 1 rfl (sub_at 2 rfl (sub_at 0 rfl (sub_end 3 fun _ h => h))))) (Nat.ne_of_lt o.1) (Nat.ne_of_lt o.2.1)
    (Off.cons (Nat.ne_of_lt o.2.2.1) (Off.cons (Nat.ne_of_lt o.2.2.2.1) (Off.cons (Nat.ne_of_lt o.2.2.2.2.1) (Off.cons (Nat.ne_of_lt o.2.2.2.2.2.1) (off_of_lt o.2.2.2.2.2.2)))))
theorem c_sub2 {tri k s hx hd hl Dd lh : Addr × Obj} {R tl3 : List (Addr × Obj)} : ∀ q ∈ k :: s :: hx :: hd :: hl :: Dd :: lh :: (R ++ (plainOf tl3 ++ [])), q ∈ hx :: hd :: hl :: Dd :: tri :: lh :: k :: s :: (R ++ tl3) :=
  sub_at 6 rfl (sub_at 7 rfl (sub_at 0 rfl (sub_at 1 rfl (sub_at 2 rfl (sub_at 3 rfl (sub_at 5 rfl (sub_end 8 (sub_app sub_l (sub_app (sub_tr plain_sub sub_r) sub_nil)))))))))
theorem c_offK {h₀ h : Heap} {L K : Addr} {ok : Obj} {v : Option Value} {i s z hx hd hl Dd lh : Addr × Obj} {R t : List (Addr × Obj)} (N : News h₀ L h (i :: s :: (K, ok) :: z :: hx :: hd :: hl :: Dd :: lh :: (R ++ t))) (hv : ok.data = .cell v) (hz : @Ne Nat z.1 K) (hr : NoC (hx :: hd :: hl :: Dd :: lh :: t)) (hR : Off K R) : Off K (z :: hx :: hd :: hl :: Dd :: lh :: (R ++ t)) := by
  have h1 : Off K (hx :: hd :: hl :: Dd :: lh :: t) := off_cell N (.tail _ (.tail _ (.head _))) hv (sub_at 4 rfl (sub_at 5 rfl (sub_at 6 rfl (sub_at 7 rfl (sub_at 8 rfl (sub_end 9 sub_r)))))) hr.all
  exact Off.cons hz (off_sub (hR.app h1) (sub_tr (B := (hx :: hd :: hl :: Dd :: lh :: t) ++ R) (sub_at 0 rfl (sub_at 1 rfl (sub_at 2 rfl (sub_at 3 rfl (sub_at 4 rfl (sub_app sub_r (sub_end 5 sub_l))))))) (sub_app sub_r sub_l)))
theorem c_led3 {h₀ h : Heap} {L : Addr} {i s k z x d l : Addr × Obj} {r : List (Addr × Obj)} (N : News h₀ L h (i :: s :: k :: z :: x :: d :: l :: r)) : News h₀ L h ([x, d, l] ++ i :: s :: k :: z :: r) :=
  news_sub N (sub_at 4 rfl (sub_at 5 rfl (sub_at 6 rfl (sub_at 0 rfl (sub_at 1 rfl (sub_at 2 rfl (sub_at 3 rfl (sub_end 7 fun _ h => h))))))))
theorem noc_fix {w : World} {hx hd hl Dd lh : Addr} {hk : Tok} {n m : Nat} {hvs vh : Array Value} {od : Obj} {r : List (Addr × Obj)} (hDd : ∀ v, od.data ≠ .cell v) (hr : NoC r) :
    NoC ((hx, instObj 273 hd) :: (hd, hdrD w hl hk) :: (hl, W.listOf hvs n) :: (Dd, od) :: (lh, W.listOf vh m) :: r) :=
  .cons (fun v e => nomatch e) (.cons (fun v e => nomatch e) (.cons (fun v e => nomatch e) (.cons hDd (.cons (fun v e => nomatch e) hr))))
theorem c_sub3 {q a b c d e f : Addr × Obj} {R tp tl9 : List (Addr × Obj)} (h : q ∈ tp) : q ∈ a :: b :: c :: d :: e :: f :: (R ++ (tp ++ tl9)) :=
  sub_end 6 (sub_tr sub_l sub_r) q h
theorem c_sub4 {q a b : Addr × Obj} {R tp tl9 : List (Addr × Obj)} (h : q ∈ tp) : q ∈ a :: b :: (R ++ (tp ++ tl9)) :=
  sub_end 2 (sub_tr sub_l sub_r) q h
theorem c_led5 {h₀ h : Heap} {L : Addr} {D9 D3 hx hd hl I5 S K Z Dd lh : Addr × Obj} {R tp tl9 tl8 : List (Addr × Obj)} (N : News h₀ L h (D9 :: D3 :: hx :: hd :: hl :: I5 :: S :: K :: Z :: Dd :: lh :: (R ++ (tp ++ tl9) ++ tl8))) : News h₀ L h ([D9, I5] ++ S :: K :: Z :: hx :: hd :: hl :: Dd :: lh :: (R ++ (tp ++ (tl9 ++ tl8)))) :=
  news_sub N (sub_at 0 rfl (sub_at 5 rfl (sub_at 6 rfl (sub_at 7 rfl (sub_at 8 rfl (sub_at 2 rfl (sub_at 3 rfl (sub_at 4 rfl (sub_at 9 rfl (sub_at 10 rfl (sub_end 11 (sub_app (sub_tr sub_l sub_l) (sub_app (sub_tr (sub_tr sub_l sub_r) sub_l) (sub_app (sub_tr (sub_tr sub_r sub_r) sub_l) sub_r))))))))))))))
theorem c_off5 {S K : Addr} {ok ok' : Obj} {Z hx hd hl Dd lh : Addr × Obj} {R tp tl' : List (Addr × Obj)} (h : Off S ((K, ok) :: Z :: hx :: hd :: hl :: Dd :: lh :: (R ++ (tp ++ [])))) (k : Off S tl') : Off S ((K, ok') :: Z :: hx :: hd :: hl :: Dd :: lh :: (R ++ (tp ++ tl'))) :=
  Off.cons (h (K, ok) (.head _)) (off_sub (h.tail.app k) (sub_at 0 rfl (sub_at 1 rfl (sub_at 2 rfl (sub_at 3 rfl (sub_at 4 rfl (sub_at 5 rfl (sub_end 6 (sub_app (sub_tr sub_l sub_l) (sub_app (sub_tr (sub_tr sub_l sub_r) sub_l) sub_r))))))))))
theorem c_off6 {I S K : Addr} {os os' ok ok' : Obj} {Z hx hd hl Dd lh : Addr × Obj} {R tp tl9 tl' : List (Addr × Obj)} (h : Off I ((S, os) :: (K, ok) :: Z :: hx :: hd :: hl :: Dd :: lh :: (R ++ (tp ++ tl9)))) (k : Off I tl') : Off I ((S, os') :: (K, ok') :: Z :: hx :: hd :: hl :: Dd :: lh :: (R ++ (tp ++ (tl9 ++ tl')))) :=
  Off.cons (h (S, os) (.head _)) (Off.cons (h (K, ok) (.tail _ (.head _))) (off_sub (h.tail.tail.app k) (sub_at 0 rfl (sub_at 1 rfl (sub_at 2 rfl (sub_at 3 rfl (sub_at 4 rfl (sub_at 5 rfl (sub_end 6 (sub_app (sub_tr sub_l sub_l) (sub_app (sub_tr (sub_tr sub_l sub_r) sub_l) (sub_app (sub_tr (sub_tr sub_r sub_r) sub_l) sub_r))))))))))))
theorem c_sub5 {D I S K Z hx hd hl Dd lh : Addr × Obj} {R tp tl9 tl8 : List (Addr × Obj)} : ∀ q ∈ [I] ++ (S :: K :: Z :: hx :: hd :: hl :: Dd :: lh :: (R ++ (tp ++ (tl9 ++ (tl8 ++ [D]))))), q ∈ D :: I :: S :: K :: Z :: hx :: hd :: hl :: Dd :: lh :: (R ++ (tp ++ (tl9 ++ tl8))) :=
  sub_at 1 rfl (sub_at 2 rfl (sub_at 3 rfl (sub_at 4 rfl (sub_at 5 rfl (sub_at 6 rfl (sub_at 7 rfl (sub_at 8 rfl (sub_at 9 rfl (sub_app (sub_end 10 sub_l) (sub_app (sub_end 10 (sub_tr sub_l sub_r)) (sub_app (sub_end 10 (sub_tr (sub_tr sub_l sub_r) sub_r)) (sub_app (sub_end 10 (sub_tr (sub_tr sub_r sub_r) sub_r)) (sub_at 0 rfl sub_nil)))))))))))))
theorem c_sub6 {q D3 hx hd hl I5 S K Z Dd lh D : Addr × Obj} {R tp tl9 tl8 : List (Addr × Obj)} (h : q ∈ tl9) : q ∈ D :: D3 :: hx :: hd :: hl :: I5 :: S :: K :: Z :: Dd :: lh :: (R ++ (tp ++ tl9) ++ tl8) :=
  sub_end 11 (sub_tr (sub_tr sub_r sub_r) sub_l) q h
theorem c_sub7 {q D3 hx hd hl I5 S K Z Dd lh D : Addr × Obj} {R tp tl9 tl8 : List (Addr × Obj)} (h : q ∈ tl8) : q ∈ D :: D3 :: hx :: hd :: hl :: I5 :: S :: K :: Z :: Dd :: lh :: (R ++ (tp ++ tl9) ++ tl8) :=
  sub_end 11 sub_r q h
structure WcI (w : World) (S I : Addr) (sts : List Ws) (i : Nat) (tl : List (Addr × Obj)) (ys : List Value) : Prop where
  at_ : All2 (WhAt w tl) ys (sts.take i)
  no : NoC tl
  oS : Off S tl
  oI : Off I tl
theorem okN_low {c : Int} (h : 0 ≤ c ∧ c ≤ 6) : OkN ⟨#[(97 + c).toNat]⟩ := by
  have := (name_at 0 h).1
  unfold nameS at this
  rwa [show 97 + c - 32 * (0 : Int).fmod 2 = 97 + c by simp] at this
theorem due_at {tl : List (Addr × Obj)} {kvs : List (Int × Value)} {es : List Ent} {c : Int} (h : DueOk tl kvs es) (hn : 1 ≤ (textsOf es c).length) : ∃ D ys ep, valueAt kvs c = some (.ref D) ∧ StrsAre ys (textsOf es c) ∧ (D, W.listOf ys.toArray ep) ∈ tl := by
  rcases h.all c with ⟨⟨_, h2⟩ | h⟩
  · rw [h2] at hn; simp at hn
  · exact h
theorem lo_all {xs : List Str} {sts : List Ws} (h : All2 TxtOk xs sts) : ∀ x ∈ xs, loC x := fun x hx => by
  obtain ⟨i, hi⟩ := List.getElem?_of_mem hx
  obtain ⟨st, _, hs⟩ := h.get hi
  exact hs.lo
structure LawV where
  z : Int
  ts : List (List Int)
  b : Int
  S : Addr
  spv : List Value
  sep : Nat
  lt : Addr
  tvs : List Value
  ept : Nat
  pled : List (Addr × Obj)
  px : Addr
  tl : List (Addr × Obj)
  tl9 : List (Addr × Obj)
  oj : Obj
  ok : Obj
  os : Obj
  tz : Tok
noncomputable def LawV.led (L : Addr) (x : LawV) : List (Addr × Obj) := (x.S, W.listOf x.spv.toArray x.sep) :: (L + 1 + 1 + 1, x.oj) :: (L + 1 + 1, x.ok) :: (L + 1, x.os) :: (x.lt, W.listOf x.tvs.toArray x.ept) :: (x.pled ++ (x.tl ++ x.tl9))
noncomputable def LawV.has (x : LawV) : List (Str × Value) := [(Str.ofString "drawn", .ref x.lt), (Str.ofString "page", .ref x.px), (Str.ofString "spots", .ref x.S)]
structure LawH (w : World) (L : Addr) (x : LawV) : Prop where
  z : 4 ≤ x.z ∧ x.z ≤ 7
  ok : TrisOk x.z.toNat x.ts
  b : 0 ≤ x.b ∧ x.b < 4
  pg : ∃ c t d tn tc vs, IntsAre vs (wsOf x.ts.flatten x.b).cnt ∧ WhiteL w c t x.px d tn tc (wsOf x.ts.flatten x.b) vs x.pled
  tr : All2 (TupAt x.tl) x.tvs x.ts
  sp : All2 (SpotAt w x.tl9) x.spv (spotsP x.z.toNat x.ts)
  cs : x.os.data = .cell (some (.int x.z x.tz))
  ck : CellOk x.ok
  cj : CellOk x.oj
  oS : Off x.S ((L + 1 + 1 + 1, x.oj) :: (L + 1 + 1, x.ok) :: (L + 1, x.os) :: (x.lt, W.listOf x.tvs.toArray x.ept) :: (x.pled ++ (x.tl ++ x.tl9)))
  no : NoC (x.pled ++ (x.tl ++ x.tl9))
theorem c_sub8 {S J K Z hx hd hl Dd lh lt : Addr × Obj} {pled tl tl2 R tp tl9 : List (Addr × Obj)} (hR : R = J :: lt :: (pled ++ (tl ++ tl2))) : ∀ q ∈ S :: J :: K :: Z :: lt :: (pled ++ (tl ++ tl9)), q ∈ S :: K :: Z :: hx :: hd :: hl :: Dd :: lh :: (R ++ (tp ++ tl9)) := by
  subst hR
  exact sub_at 0 rfl (sub_at 8 rfl (sub_at 1 rfl (sub_at 2 rfl (sub_at 9 rfl (sub_end 10 (sub_app (sub_tr sub_l sub_l) (sub_app (sub_tr (sub_tr sub_l sub_r) sub_l) (sub_tr sub_r sub_r))))))))
theorem c_off8 {S : Addr} {K J Z hx hd hl Dd lh lt : Addr × Obj} {pled tl tl2 R tp tl9 : List (Addr × Obj)} (hR : R = J :: lt :: (pled ++ (tl ++ tl2))) (h : Off S (K :: Z :: hx :: hd :: hl :: Dd :: lh :: (R ++ (tp ++ tl9)))) : Off S (J :: K :: Z :: lt :: (pled ++ (tl ++ tl9))) := by
  subst hR
  exact off_sub h (sub_at 7 rfl (sub_at 0 rfl (sub_at 1 rfl (sub_at 8 rfl (sub_end 9 (sub_app (sub_tr sub_l sub_l) (sub_app (sub_tr (sub_tr sub_l sub_r) sub_l) (sub_tr sub_r sub_r))))))))
theorem c_offR {h₀ h : Heap} {L K J lt : Addr} {ok oj olt : Obj} {v : Option Value} {tri lh Z : Addr × Obj} {pled tl tl2 R : List (Addr × Obj)} (hR : R = (J, oj) :: (lt, olt) :: (pled ++ (tl ++ tl2))) (N : News h₀ L h (tri :: lh :: (K, ok) :: Z :: R)) (hv : ok.data = .cell v) (hJ : @Ne Nat J K) (hlt : ∀ v, olt.data ≠ .cell v) (hp : NoC pled) (ht : NoC tl) (ht2 : NoC tl2) : Off K R := by
  subst hR
  exact Off.cons hJ (off_cell N (.tail _ (.tail _ (.head _))) hv (sub_at 5 rfl (sub_end 6 fun _ h => h)) (NoC.cons (p := (lt, olt)) hlt (hp.app (ht.app ht2))).all)
structure SpS where
  spv : List Value
  sep : Nat
  ok : Obj
  tl : List (Addr × Obj)
structure SpF (w : World) (z : Nat) (ts : List (List Int)) (S : Addr) (st : SpS) : Prop where
  ce : CellOk st.ok
  oS : Off S st.tl
  no : NoC st.tl
theorem p_C (w : World) (p : Program) (loose : List Str) (mean : ExcName → Option Value) (mg mb : Str → Option Value) (h₀ : Heap) (fa L : Addr) (cdv : Value) (s : Shared) (Q : Flow → Shared → Prop) (E : Value → Shared → Prop) (m : Str → Option Value) (x : LawT) (hx : LawG w x)
    (B : Below callerA h₀ [] h₀) (X : (kx w.params).In h₀) (T : Top p loose mean mg mb h₀)
    (F : Fr h₀ L s.heap m) (N : News h₀ L s.heap (x.led L)) (hm : Has m x.has) (hE : HasPO w L fa cdv E) {stC : List Str} (hfin : ∀ m, Nxt w h₀ L fa cdv lgD.val s Q E m stC (fun m' news' => ∃ x : LawV, LawH w L x ∧ Has m' x.has ∧ news' = x.led L)) :
    wpAny (model pw w) (lawA L fa cdv) (execs lgC.val (lawEnv L fa cdv)) Q E s := by
  have F := hm.fr F
  obtain ⟨hs, hb, hpg, hT2, htup2⟩ := hx
  have hz := hs.zr
  obtain ⟨hdI, hdl, hdr, hok, hT, hnI, hcs, hck, hcj, htup⟩ := hs
  rcases x with ⟨⟨d, ts, lh, vh, eph, lt, tvs, ept, ln, nvs, nep, tl, oj, ok, os, tz⟩, pled, px, b, tri, yvs, yep, tl2⟩
  simp only [LawT.led, LawT.has] at F N
  dsimp only at *
  generalize hzz : LawS.z _ = z at *
  clear hm
  refine c_start N ?_
  clear N
  intro R hR N
  have hnt : NoC tl := ⟨fun q hq => (htup q hq).2⟩
  have hnp : NoC pled := by obtain ⟨_, _, _, _, _, _, _, hW⟩ := hpg; exact white_no hW
  have hKR : Off (L + 1 + 1) R := by
    obtain ⟨v, hv⟩ := hck
    exact c_offR hR N hv (by show @Ne Nat _ _; omega) (fun v e => nomatch e) hnp hnt ⟨fun q hq => (htup2 q hq).2⟩
  have hR2 : ∀ q ∈ tl2, q ∈ R := by rw [hR]; exact sub_end 2 (sub_tr sub_r sub_r)
  have hg6 := get_b hdl hdr (Int.toNat 6) (by decide)
  have hg7 := get_b hdl hdr (Int.toNat 7) (by decide)
  clear hdr htup htup2
  have htl := hT2.length
  have hol := hok.len
  (try dsimp only [lawA])
  (repeat (fail_if_success (with_reducible show wpAny _ _ (exec (Stmt.For _ _ _ _ _) _) _ _ _)); first | (k_unfold; (try dsimp only)) | walk1 | (dsimp only; walk1))
  (with_reducible rename Fr _ _ _ _ => lF)
  k_dflt (refine For_turns lF ?_)
  (repeat (fail_if_success (with_reducible show wpAny _ _ (pyIter _) _ _ _)); first | (k_unfold; (try dsimp only)) | walk1 | (dsimp only; walk1))
  (with_reducible rename Fr _ _ _ _ => lF)
  (with_reducible rename News _ _ _ _ => lN)
  refine tl_listC (σ := Unit) (vs := []) (fun _ => _) (fun _ => []) (fun _ => True) [] (fun _ _ => True) () (by rfl) lF lN (fun _ _ => .head _) trivial (List.forall_mem_nil _) trivial ?turn0 ?done0
  case turn0 =>
    intro c i v u h tk I o hv
    exact absurd hv (by simp)
  case done0 =>
    clear lF lN
    rintro - u9 h9 tk9 - - F9 N9
    dsimp only at F9 N9
    (try k_fold)
    (repeat (fail_if_success (with_reducible show wpAny _ _ (call (Value.ref 336) _) _ _ _)); first | (k_unfold; (try dsimp only)) | walk1 | (dsimp only; walk1))
    (with_reducible rename Fr _ _ _ _ => lF)
    (with_reducible rename News _ _ _ _ => lN)
    (with_reducible rename _ < _ ∧ _ < _ ∧ _ < _ ∧ _ < _ ∧ _ < _ ∧ _ < _ ∧ AllLt _ _ => o3)
    refine c_names lN o3 ?_
    clear lN o3
    rintro hx hd hl hk9 rfl rfl rfl - N8 hxl hdl9 hol9
    k_dflt (refine CallsN.use (c_file w hx hd hl tri _ yvs ts yep 0 _ _ tl2 _ hT2 hok.tri hol ⟨hg6.1, Int.lt_of_lt_of_le hg6.2 (by decide)⟩ (sub_end (B := _ :: _ :: _ :: R) 3 hR2) hxl hdl9 hol9) B (by k_asm) X N8 T (by rfl) (by ktr_room) (by ktr_units) ?_)
    clear lF N8
    rintro r7 h7 tk7 nw7 F7 N7 hXO
    refine ex6 hXO ?_; clear hXO; rintro Dd od kvs hvs hep tl3 hXO
    refine an7 hXO ?_; clear hXO; rintro rfl hod hkl hH hDu hDs rfl
    (try dsimp only)
    (try k_fold)
    (repeat (fail_if_success (with_reducible show wpAny _ _ (exec (Stmt.For _ _ _ _ _) _) _ _ _)); first | (k_unfold; (try dsimp only)) | walk1 | (dsimp only; walk1))
    (with_reducible rename Fr _ _ _ _ => lF)
    (with_reducible rename News _ _ _ _ => lN)
    rename (∀ p : Addr × Obj, p ∈ _ → p.1 < _) => lI
    unfold hdrL hdrD at lN lI
    simp only [List.cons_append, List.nil_append] at lN lI
    have lN2 := News.sub2 lN c_sub2
    have hS := off_sub2 lI c_sub2
    clear lN lI
    k_dflt (refine For_turns (hE := hE.po) lF ?_)
    (repeat (fail_if_success (with_reducible show wpAny _ _ (pyIter _) _ _ _)); first | (k_unfold; (try dsimp only)) | walk1 | (dsimp only; walk1))
    (with_reducible rename Fr _ _ _ _ => lF)
    (with_reducible rename IsRange _ _ _ _ _ _ _ _ => lR)
    (with_reducible rename News _ _ _ _ => lN)
    refine c_name2 hS ?_
    rintro S rfl
    have hE2 := fAll_ents hok.tri (d.getD (Int.toNat 6) 0) ts.length (Nat.le_refl _)
    rw [List.take_length] at hE2
    have hH2 := hH.imp fun a b h => h.plain
    have hD2 := hDu.plain
    have hnp3 : NoC (plainOf tl3) := ⟨plain_no⟩
    clear hH hDu hR2
    generalize (fAll ts (d.getD (Int.toNat 6) 0) ts.length).2 = EN at *
    generalize plainOf tl3 = tp at *
    have hel : EN.length ≤ 15 := by
      have h1 := hE2.length
      have h2 := rot_len ts
      omega
    refine tl_rangeC (σ := SpS) (n := (z - 0).toNat) (fun st => (S, W.listOf st.spv.toArray st.sep) :: (L + 1 + 1, st.ok) :: (L + 1, os) :: (hx, instObj 273 hd) :: (hd, _) :: (hl, W.listOf hvs.toArray hep) :: (Dd, od) :: (lh, W.listOf vh.toArray eph) :: (R ++ (tp ++ st.tl))) (fun st => []) (fun st => SpF w z.toNat ts S st) [Str.ofString "told"] (fun k st => All2 (SpotAt w st.tl) st.spv ((spotsP z.toNat ts).take k)) ⟨[], 0, ok, []⟩ (by rfl) lR (small_one (by omega) (by omega) (by omega) (by omega)) (rangeSize_nat _ _) lF lN ⟨hck, off_nil, NoC.nil⟩ (List.forall_mem_nil _) .nil ?turn ?done
    case turn =>
      clear lF lN lR hck
      rintro ⟨spv, sep, ok, tl9⟩ k t u h5 tk5 I5 o5 hk hoI hoc hF hP F5 N5
      obtain ⟨hce, hoS, hno⟩ := hF
      dsimp only at hce hoS hno hP hoI F5 N5 ⊢
      (try k_fold)
      rw [Int.zero_add]
      have hkz : (k : Int) < z := by omega
      have hDd : ∀ v, od.data ≠ .cell v := fun v e => by obtain ⟨_, _, _, hd, _⟩ := hod; rw [hd] at e; exact nomatch e
      obtain ⟨cv, hcv⟩ := hce
      have hK := c_offK N5 hcv (by show @Ne Nat _ _; dsimp only; omega) (noc_fix hDd (hnp3.app hno)) hKR
      clear hDd
      (repeat (first | (k_unfold; (try dsimp only)) | walk1 | (dsimp only; walk1)))
      (with_reducible rename Fr _ _ _ _ => lF)
      (with_reducible rename News _ _ _ _ => lN)
      k_dflt (refine storeX_C lF lN (by rfl) (updF_of (own := [_, _]) hK (Off.cons (Ne.symm (hoI _ (.tail _ (.head _)))) (Off.cons (Ne.symm (hS _ (.head _))) off_nil))) hcv ?_ (by rfl) (by rfl))
      clear lF lN
      intro h4 o4 F4 N4 d4
      dsimp only [List.cons_append, List.nil_append] at N4
      (try dsimp only)
      (try k_fold)
      have hp2 := pow2c (v := (k : Int)) ⟨by omega, by omega⟩ (d.getD (Int.toNat 7) 0)
      (repeat (fail_if_success (with_reducible show wpAny _ _ (binaryOp Operator.FloorDiv _ _) _ _ _)); first | (k_unfold; (try dsimp only)) | walk1 | (dsimp only; walk1))
      k_dflt (refine floordiv_int hp2.1 ?_ (Or.inl hp2.2))
      clear hp2
      (repeat (fail_if_success (with_reducible show wpAny _ _ (call (Value.ref _) _) _ _ _)); first | (k_unfold; (try dsimp only)) | walk1 | (dsimp only; walk1))
      have hk6 : 0 ≤ (k : Int) ∧ (k : Int) ≤ 6 := ⟨by omega, by omega⟩
      have hnm := name_at ((d.getD (Int.toNat 7) 0).fdiv (2 ^ Int.toNat (k : Int))) hk6
      (with_reducible rename News _ _ _ _ => lN)
      have lN2 := c_led3 lN
      clear lN
      k_dflt (refine CallsN.use (c_getall w hx hd hl (nameS (k : Int) ((d.getD (Int.toNat 7) 0).fdiv (2 ^ Int.toNat (k : Int)))) _ hk9 hvs (EN.map fun e => e.2) hep _ hnm.1 (by rw [hnm.2]; exact okN_low hk6) (hH2.imp fun a b h => h.mono2 fun q hq => c_sub3 hq) (by rw [hH2.length, List.length_map]; omega)) B (by k_asm) X lN2 T (by rfl) (by ktr_room) (by ktr_units) ?_)
      clear lN2
      rintro r3 h3 tk3 nw3 F3 N3 hXO
      refine ex3 hXO ?_; clear hXO; rintro D3 ys3 ep3 hXO
      refine an3 hXO ?_; clear hXO; rintro rfl hy3 rfl
      rw [hnm.2, gall_texts hE2 hk6.1] at hy3
      clear hnm
      have hTx := texts_ok hE2 (k : Int)
      have hSp : spotC ts (k : Int) = ((rotAll ts).filter fun r => r.1 == (k : Int)).map fun r => wsOf r.2 0 := rfl
      rw [← hSp] at hTx
      clear hSp
      have hsl := hok.spot (c := k) (by omega)
      have htxl := hTx.length
      have hXO := due_at hD2 (c := (k : Int)) (by omega)
      refine ex3 hXO ?_; clear hXO; rintro D0 ys0 ep0 hXO
      refine an3 hXO ?_; clear hXO; rintro hv0 hy0 hm0
      unfold hdrL hdrD at N3
      simp only [List.cons_append, List.nil_append] at N3
      (try dsimp only)
      (try k_fold)
      (repeat (fail_if_success (with_reducible show wpAny _ _ (subscriptTail _ _ _ _) _ _ _)); first | (k_unfold; (try dsimp only)) | walk1 | (dsimp only; walk1))
      (with_reducible rename News _ _ _ _ => lN)
      k_dflt (refine kda_item (knd := PySem.intKind _ _) lN (.tail _ (.tail _ (.tail _ (.tail _ (.tail _ (.tail _ (.tail _ (.tail _ (.head _))))))))) hod (intKind_is _ _ _ _) hv0 ?_)
      (repeat (fail_if_success (with_reducible show wpAny _ _ (compareOp _ _ _) _ _ _)); first | (k_unfold; (try dsimp only)) | walk1 | (dsimp only; walk1))
      (with_reducible rename News _ _ _ _ => lN)
      k_dflt (refine kqn_ne lN (.head _) rfl rfl (dat_strs hy3) (n₁ := []) (fun q hq => nomatch hq) (.tail _ (.tail _ (.tail _ (.tail _ (.tail _ (.tail _ (.tail _ (.tail _ (c_sub4 hm0))))))))) rfl rfl (dat_strs hy0) (n₂ := []) (fun q hq => nomatch hq) (dat_strs_ok (lo_all hTx)) (dat_strs_ok (lo_all hTx)) (by first | ktr_units | units_room | (simp only [Around.deeper, ktrTop]; omega)) ?_)
      intro r2 hr2
      obtain rfl : r2 = false := by cases r2 with | false => rfl | true => exact absurd rfl (hr2.mp rfl)
      clear hr2
      (repeat (fail_if_success (with_reducible show wpAny _ _ (eval (Expr.ListComp _ _ _ _) _) _ _ _)); first | (k_unfold; (try dsimp only)) | walk1 | (dsimp only; walk1))
      (with_reducible rename Fr _ _ _ _ => lF)
      (with_reducible rename News _ _ _ _ => lN)
      k_dflt (refine gx_name lF (by rfl) (by with_unfolding_all rfl) (by decide) (by rfl) (by decide) (by rfl) (by intro _; rfl) ?_)
      (repeat (fail_if_success (with_reducible show wpAny _ _ (pyIter _) _ _ _)); first | (k_unfold; (try dsimp only)) | walk1 | (dsimp only; walk1))
      have hyl3 := hy3.length
      k_dflt (refine gx_list (vs := ys3) (by rfl) lF lN (.head _) (by omega) ?_)
      intro I9 h2 hsz old
      refine ⟨fun i tl ys => WcI w S I5 (spotC ts (k : Int)) i tl ys, ⟨.nil, NoC.nil, off_nil, off_nil⟩, ?el, ?fin⟩
      case el =>
        rintro i v C9 oC9 mC9 D9 ys9 tl8 its9 h1 tk1 E1 hi ⟨_, hv⟩ hInv hC9 hx9 hits F1 N1 hyl hDC
        clear lF lN
        obtain ⟨o9, rfl⟩ := objs1 hits
        have hv := hv
        obtain ⟨x9, t9, rfl, hxs⟩ := StrsAre.item hy3 i v hv
        obtain ⟨st9, hst9, hok9⟩ := hTx.get hxs
        dsimp only [List.cons_append, List.nil_append] at N1
        show wpAny _ _ (eval _ _) _ _ _
        (try dsimp only)
        (try k_fold)
        (repeat (fail_if_success (with_reducible show wpAny _ _ (call (Value.ref _) _) _ _ _)); first | (k_unfold; (try dsimp only)) | walk1 | (dsimp only; walk1))
        k_dflt (refine Calls.use (c_clean w x9 _ _ hok9.len) B (by k_asm) X (by k_asm) T (by rfl) (by ktr_room) (by ktr_units) ?_)
        rintro r8 h8 tk8 F8 N8 ⟨t8, rfl⟩
        (try dsimp only)
        (try k_fold)
        (repeat (fail_if_success (with_reducible show wpAny _ _ (call (Value.ref _) _) _ _ _)); first | (k_unfold; (try dsimp only)) | walk1 | (dsimp only; walk1))
        k_dflt (refine CallsN.use (c_white w (cleanS (KStt.codes x9)) _ _ (Nat.lt_of_le_of_lt (clean_len _) hok9.len)) B (by k_asm) X (by k_asm) T (by rfl) (by ktr_room) (by ktr_units) ?_)
        rintro r7 h7 tk7 nw7 F7 N7 hXO
        refine ex6 hXO ?_; clear hXO; rintro x7 d7 tn7 tc7 vs7 led7 hXO
        refine an4 hXO ?_; clear hXO; rintro rfl hI7 hW7 rfl
        rw [hok9.ws] at hI7 hW7
        (try dsimp only)
        (try k_fold)
        (repeat (fail_if_success (with_reducible refine GxVal_stop ?_)); first | (k_unfold; (try dsimp only)) | walk1 | (dsimp only; walk1))
        (try k_unfold)
        (with_reducible rename Fr _ _ _ _ => fE)
        (with_reducible rename News _ _ _ _ => nE)
        refine gx_white fE nE (fun q hq => List.mem_append_right _ hq) (fun q hq => List.mem_append_left _ hq) hW7 hits hC9 hx9 ⟨?_, hInv.no.app (white_no hW7), hInv.oS.app (white_off hW7 nE (ty := "list") (List.mem_append_right _ (.tail _ (.tail _ (.tail _ (.tail _ (.tail _ (.tail _ (.tail _ (.tail _ (.head _)))))))))) (fun q hq => List.mem_append_left _ hq) rfl (by decide) (by decide)), hInv.oI.app (white_off hW7 nE (List.mem_append_right _ (.tail _ (.tail _ (.tail _ (.tail _ (.tail _ (.tail _ (.tail _ (.head _))))))))) (fun q hq => List.mem_append_left _ hq) hoc (by decide) (by decide))⟩
        rw [List.take_add_one, hst9]
        exact all2_app (hInv.at_.imp fun a b h => h.mono fun q hq => List.mem_append_left _ hq) (.cons ⟨_, _, _, _, _, _, _, _, rfl, hI7, hW7, fun q hq => List.mem_append_right _ hq⟩ .nil)
      case fin =>
        rintro D9 ys9 tl8 hInv hyl h1 tk1 F1 N1
        clear lF lN
        obtain ⟨hWs, hno8, hoS8, hoI8⟩ := hInv
        have hyl8 : ys3.length = (spotC ts (k : Int)).length := by omega
        rw [hyl8, List.take_length] at hWs
        simp only [List.cons_append] at N1
        (try dsimp only)
        (try k_fold)
        (repeat (fail_if_success (with_reducible show wpAny _ _ (call (Value.builtin "list.append") _) _ _ _)); first | (k_unfold; (try dsimp only)) | walk1 | (dsimp only; walk1))
        (with_reducible rename Fr _ _ _ _ => lF)
        (with_reducible rename News _ _ _ _ => lN)
        have hDS := spot_ne (S := S) lN (.tail _ (.tail _ (.tail _ (.tail _ (.tail _ (.tail _ (.head _))))))) (.head _) hP hWs hsl.1 (fun q hq => c_sub6 hq) (fun q hq => c_sub7 hq)
        have hDI := news_ne lN (p := (D9, LCg.lst ys9)) (q := (I5, o5)) (.head _) (.tail _ (.tail _ (.tail _ (.tail _ (.tail _ (.head _)))))) (fun e => by have := (congrArg Obj.cls e).trans hoc; simp at this)
        have lN2 := c_led5 lN
        clear lN
        have hpl := hP.length
        rw [List.length_take] at hpl
        k_dflt (refine li_push [_, _] lF lN2 (Off.cons hDS (Off.cons (Ne.symm (hoI _ (.head _))) off_nil)) (c_off5 hS (hoS.app hoS8)) (by omega) ?_)
        clear lF lN2
        intro h0 F0 N0
        dsimp only [List.cons_append, List.nil_append] at N0
        (try dsimp only)
        (try k_fold)
        repeat' (first | (k_unfold; (try dsimp only)) | (k_end; wrow_close) | ((fail_if_success (with_reducible refine UnrEndW_stop ?_)); walk1) | ((fail_if_success (with_reducible refine UnrEndW_stop ?_)); dsimp only; walk1) | (leave1; walk_say "STEP leave1"; (try dsimp only)) | fail "no step")
        (with_reducible rename News _ _ _ _ => nE)
        (with_reducible rename Fr _ _ _ _ => nF)
        refine tl_end ⟨spv ++ [.ref D9], sep + 1, o4, tl9 ++ (tl8 ++ [(D9, LCg.lst ys9)])⟩ nF nE c_sub5 (List.forall_mem_singleton.mpr (c_off6 hoI (hoI8.app (Off.cons hDI off_nil)))) (List.forall_mem_nil _) (by intro z h1 h2; simp only [List.contains_cons, List.contains_nil, Bool.or_false, beq_eq_false_iff_ne, ne_eq] at h2; simp [h2, kstB]) ⟨⟨_, d4⟩, hoS.app (hoS8.app (Off.cons hDS off_nil)), hno.app (hno8.app (NoC.cons (p := (D9, W.listOf ys9.toArray ys9.length)) (fun v e => nomatch e) NoC.nil))⟩ ?_
        dsimp only
        have hkl : (spotsP z.toNat ts)[k]? = some (spotC ts (k : Int)) := by
          unfold spotsP
          rw [List.getElem?_map, List.getElem?_range (by omega)]
          rfl
        rw [List.take_add_one, hkl]
        exact all2_app (hP.imp fun a b h => h.mono fun q hq => List.mem_append_left _ hq) (.cons ⟨D9, ys9, ys9.length, rfl, by simp, hWs.imp fun a b h => h.mono fun q hq => by simp [hq]⟩ .nil)
    case done =>
      clear lF lN lR hck
      rintro ⟨spv, sep, ok, tl9⟩ u h5 tk5 hF hP F5 N5
      obtain ⟨hce, hoS, hno⟩ := hF
      dsimp only at hce hoS hno hP F5 N5 ⊢
      have hzl : (spotsP z.toNat ts).length = (z - 0).toNat := by unfold spotsP; rw [List.length_map, List.length_range, Int.sub_zero]
      rw [← hzl, List.take_length] at hP
      (try k_fold)
      (repeat (fail_if_success (with_reducible show wpAny _ _ (execs (Stmt.For _ _ _ _ _ :: _) _) _ _ _)); first | (k_unfold; (try dsimp only)) | walk1 | (dsimp only; walk1))
      (try k_unfold)
      (with_reducible rename Fr _ _ _ _ => fE)
      (with_reducible rename News _ _ _ _ => nE)
      refine (hfin _).out _ _ _ _ fE (news_sub nE (c_sub8 hR)) ⟨fun z hz => rfl⟩ ⟨⟨z, ts, b, S, spv, sep, lt, tvs, ept, pled, px, tl, tl9, oj, ok, os, tz⟩, ⟨hz, hok, hb, hpg, hT, hP, hcs, hce, hcj, c_off8 hR (c_off5 (ok' := ok) hS hoS), hnp.app (hnt.app hno)⟩, ?_, rfl⟩
      exact Has.cons rfl (Has.cons rfl (Has.cons rfl Has.nil))
end Mine
end
section
open PySem PySem.W PyProof.Rows
namespace Mine
theorem run_app : ∀ {l : List Int} (r : List Int) (st : Ws), (∀ c ∈ l, c = 32 ∨ c = 9) → wsRun (l ++ r) st = wsRun r (wsRun l st)
  | [], r, st, _ => rfl
  | c :: l, r, st, h => by
    have ih := fun st' => run_app (l := l) r st' fun x hx => h x (.tail _ hx)
    rw [List.cons_append, wsRun, wsRun]
    rcases h c (.head _) with rfl | rfl
    · rw [if_pos rfl, if_pos rfl]; exact ih _
    · rw [if_neg (by decide), if_pos rfl, if_neg (by decide), if_pos rfl]; exact ih _
theorem run_sp : ∀ (n : Nat) (st : Ws), (wsRun (List.replicate n 32) st).cnt = st.cnt
  | 0, _ => rfl
  | n + 1, st => by
    rw [List.replicate_succ, wsRun, if_pos rfl]
    exact run_sp n _
theorem plain_mem {cs : List Int} : ∀ c ∈ plainI cs, c = 32 ∨ c = 9 := by
  intro c hc
  unfold plainI at hc
  obtain ⟨l, hl, hc⟩ := List.mem_flatten.mp hc
  obtain ⟨x, _, rfl⟩ := List.mem_map.mp hl
  rcases List.mem_append.mp hc with hc | hc
  · exact .inl (List.eq_of_mem_replicate hc)
  · exact .inr (List.mem_singleton.mp hc)
theorem cnt_same (cs : List Int) (b : Int) : (wsOf cs b).cnt = (wsOf cs 0).cnt := by
  unfold wsOf
  rw [run_app _ _ plain_mem, run_app _ _ plain_mem, run_sp, run_sp]
theorem lineP_len (z : Nat) (cnt : List Int) (k : Nat) : ∀ j, (lineP z cnt k j).length = j + 2
  | 0 => rfl
  | j + 1 => by rw [lineP, List.length_append, lineP_len z cnt k j]; rfl
structure LineOk (z : Nat) (ts : List (List Int)) (cnt : List Int) (k : Nat) : Prop where
  ways : ∀ i, i ≤ 6 → (wayG (spotsP z ts) (k : Int) i).length ≤ 200
  line : lineP z cnt k (z - 1) = wayL (spotsP z ts) (k : Int) (z - 1)
  tied : ∀ j, j < z - 1 → ((lineP z cnt k (j + 1)).getD (j + 1) 0 == 1) = tiedP z ts k j
theorem TrisOk.line {z : Nat} {ts : List (List Int)} (h : TrisOk z ts) {k : Nat} (hk : k < z) (b : Int) : LineOk z ts (wsOf ts.flatten b).cnt k := by
  rw [cnt_same]
  have h1 := h.c
  unfold okC at h1
  simp only [Bool.and_eq_true] at h1
  have h2 := List.all_eq_true.mp h1.2 k (List.mem_range.mpr hk)
  simp only [Bool.and_eq_true] at h2
  obtain ⟨a, c, e⟩ := h2
  refine ⟨fun i hi => of_decide_eq_true (List.all_eq_true.mp a i (List.mem_range.mpr (by omega))), by simpa using c, fun j hj => by simpa using List.all_eq_true.mp e j (List.mem_range.mpr hj)⟩
theorem line_up {z : Nat} {cnt : List Int} {k j : Nat} {x : Int} (h : x ∈ lineP z cnt k j) : ∀ i, x ∈ lineP z cnt k (j + i)
  | 0 => h
  | i + 1 => by rw [← Nat.add_assoc, lineP]; exact List.mem_append_left _ (line_up h i)
theorem getD_small {l : List Int} (h : ∀ x ∈ l, 0 ≤ x ∧ x ≤ 1000) (i : Nat) : 0 ≤ l.getD i 0 ∧ l.getD i 0 ≤ 1000 := by
  rw [List.getD_eq_getElem?_getD]
  cases e : l[i]? with
  | none => exact ⟨by decide, by decide⟩
  | some x => exact h x (List.mem_of_getElem? e)
theorem TrisOk.small {z : Nat} {ts : List (List Int)} (h : TrisOk z ts) {k : Nat} (hk : k < z) (b : Int) (i j n : Nat) (hj : j ≤ z - 1) : (0 ≤ (wsOf ts.flatten b).cnt.getD i 0 ∧ (wsOf ts.flatten b).cnt.getD i 0 ≤ 1000) ∧ 0 ≤ (lineP z (wsOf ts.flatten b).cnt k j).getD n 0 ∧ (lineP z (wsOf ts.flatten b).cnt k j).getD n 0 ≤ 1000 := by
  rw [cnt_same]
  have h1 := h.d
  unfold okD at h1
  simp only [Bool.and_eq_true] at h1
  obtain ⟨-, h2, h3⟩ := h1
  refine ⟨getD_small (fun x hx => of_decide_eq_true (List.all_eq_true.mp h2 x hx)) i, getD_small (fun x hx => ?_) n⟩
  have h4 := List.all_eq_true.mp h3 k (List.mem_range.mpr hk)
  have h5 := line_up hx (z - 1 - j)
  rw [show j + (z - 1 - j) = z - 1 by omega] at h5
  exact of_decide_eq_true (List.all_eq_true.mp h4 x h5)
theorem mul_small {a b : Int} (ha : 0 ≤ a ∧ a ≤ 1000) (hb : 0 ≤ b ∧ b ≤ 1000) : IntMulOk a b := by
  have e1 : a = a.fmod 1001 := (Int.fmod_eq_of_lt ha.1 (by omega)).symm
  have e2 : b = b.fmod 1001 := (Int.fmod_eq_of_lt hb.1 (by omega)).symm
  rw [e1, e2]
  mul_fits
theorem spots_len {z : Nat} {ts : List (List Int)} (h : TrisOk z ts) : ∀ ws ∈ spotsP z ts, ws.length ≤ 20 := by
  intro ws hw
  unfold spotsP at hw
  obtain ⟨c, hc, rfl⟩ := List.mem_map.mp hw
  have := (h.spot (List.mem_range.mp hc)).2
  omega
theorem fmod_toNat {z : Int} (hz : 0 < z) (a : Nat) : ((a : Int)).fmod z = ((a % z.toNat : Nat) : Int) := by
  obtain ⟨n, rfl⟩ : ∃ n : Nat, z = (n : Int) := ⟨z.toNat, by omega⟩
  rw [Int.fmod_eq_emod_of_nonneg _ (by omega)]
  simp
noncomputable def tiedQ (a b : Int) (cs : List Int) : Bool := cs.contains a && cs.contains b
theorem tied_filter (z : Nat) (ts : List (List Int)) (k j : Nat) : ((ts.filter (tiedQ (k : Int) (((k + (j + 1)) % z : Nat) : Int))) ≠ []) ↔ tiedP z ts k j = true := by
  unfold tiedP
  rw [ne_eq, List.filter_eq_nil_iff, List.any_eq_true]
  constructor
  · intro h
    simp only [Classical.not_forall] at h
    obtain ⟨cs, hc, ht⟩ := h
    exact ⟨cs, hc, by unfold tiedQ at ht; simpa using ht⟩
  · rintro ⟨cs, hc, ht⟩ h
    exact h cs hc ht
theorem tups_dat {led : List (Addr × Obj)} : ∀ {vs : List Value} {css : List (List Int)}, All2 (TupAt led) vs css → DatAll led vs (css.map fun cs => Dat.tuple (cs.map Dat.int))
  | _, _, .nil => .nil
  | _, _, .cons h t => by
    obtain ⟨T, cvs, rfl, hI, hm⟩ := h
    exact .cons (.tuple hm (dat_ints hI)) (tups_dat t)
theorem tups_ok {css : List (List Int)} : ∀ d ∈ css.map (fun cs => Dat.tuple (cs.map Dat.int)), kqdOk 8 d = true := by
  intro d hd
  obtain ⟨cs, _, rfl⟩ := List.mem_map.mp hd
  simp only [kqdOk, List.all_eq_true]
  exact dat_ints_ok
theorem any_contains : ∀ (l : List Int) (a : Int), (l.any fun x => x == a) = l.contains a
  | [], _ => rfl
  | x :: l, a => by rw [List.any_cons, List.contains_cons, any_contains l a, BEq.comm]
theorem tied_step {ts : List (List Int)} {i : Nat} {cs : List Int} (h : ts[i]? = some cs) (a b : Int) : (ts.take (i + 1)).filter (tiedQ a b) = (ts.take i).filter (tiedQ a b) ++ if ((cs.any fun x => x == a) && (cs.any fun x => x == b)) = true then [cs] else [] := by
  rw [List.take_add_one, h, List.filter_append, any_contains, any_contains]
  congr 1
  show List.filter (tiedQ a b) [cs] = _
  rw [List.filter_cons, List.filter_nil]
  rfl
theorem tied_r {z : Nat} {ts : List (List Int)} {k j : Nat} {r : Bool} (h : r = true ↔ ((ts.filter (tiedQ (k : Int) (((k + (j + 1)) % z : Nat) : Int))).map fun cs => Dat.tuple (cs.map Dat.int)) ≠ []) : r = tiedP z ts k j := by
  rw [Bool.eq_iff_iff, h, ne_eq, List.map_eq_nil_iff]
  exact tied_filter z ts k j
end Mine
end
section
open PySem PySem.W PyProof.Rows
namespace Mine
structure DoS where
  oj : Obj
  ok : Obj
structure DoF (st : DoS) : Prop where
  cj : CellOk st.oj
  ck : CellOk st.ok
theorem d_offK {h₀ h : Heap} {L K : Addr} {ok : Obj} {v : Option Value} {i s j z : Addr × Obj} {r : List (Addr × Obj)} (N : News h₀ L h (i :: s :: j :: (K, ok) :: z :: r)) (hd : ok.data = .cell v) (hr : NoC r) (hz : @Ne Nat z.1 K) : Off K (z :: r) :=
  Off.cons hz (off_cell N (.tail _ (.tail _ (.tail _ (.head _)))) hd (sub_end 5 fun _ h => h) hr.all)
theorem d_offJ {h₀ h : Heap} {L J : Addr} {oj : Obj} {v : Option Value} {i n i2 s k z : Addr × Obj} {r : List (Addr × Obj)} (N : News h₀ L h (i :: n :: i2 :: s :: (J, oj) :: k :: z :: r)) (hd : oj.data = .cell v) (hr : NoC r) (hk : @Ne Nat k.1 J) (hz : @Ne Nat z.1 J) : Off J (k :: z :: r) :=
  Off.cons hk (Off.cons hz (off_cell N (.tail _ (.tail _ (.tail _ (.tail _ (.head _))))) hd (sub_end 7 fun _ h => h) hr.all))
theorem d_name {n : Nat} {i s j k z a : Addr × Obj} {r : List (Addr × Obj)} {P : Prop} (o : i.1 < n ∧ s.1 < n ∧ j.1 < n ∧ k.1 < n ∧ z.1 < n ∧ a.1 < n ∧ AllLt n r) (kk : ∀ n' : Addr, n' = n → Off n' (i :: s :: j :: k :: z :: a :: r) → P) : P :=
  kk n rfl (Off.cons (Nat.ne_of_lt o.1) (Off.cons (Nat.ne_of_lt o.2.1) (Off.cons (Nat.ne_of_lt o.2.2.1) (Off.cons (Nat.ne_of_lt o.2.2.2.1) (Off.cons (Nat.ne_of_lt o.2.2.2.2.1) (Off.cons (Nat.ne_of_lt o.2.2.2.2.2.1) (off_of_lt o.2.2.2.2.2.2)))))))
theorem d_off9 {n J : Addr} {oj oj' : Obj} {i s : Addr × Obj} {r : List (Addr × Obj)} (h : Off n (i :: s :: (J, oj) :: r)) : Off n (i :: s :: (J, oj') :: r) := Off.cons (h _ (.head _)) (Off.cons (h _ (.tail _ (.head _))) (Off.cons (h (J, oj) (.tail _ (.tail _ (.head _)))) h.tail.tail.tail))
theorem d_sub1 {q y a b c d e f g i j k : Addr × Obj} {R tl8 : List (Addr × Obj)} (h : q ∈ R) : q ∈ y :: a :: b :: c :: d :: e :: f :: g :: i :: j :: k :: (R ++ tl8) :=
  sub_end 11 sub_l q h
theorem d_sub3 {a b c d e f g i j k : Addr × Obj} {R tl tl8 : List (Addr × Obj)} (h : ∀ q ∈ tl, q ∈ R) : ∀ q ∈ tl, q ∈ a :: b :: c :: d :: e :: f :: g :: i :: j :: k :: (R ++ tl8) :=
  sub_end 10 (sub_tr h sub_l)
theorem d_sub4 {x y a b c d e f g i : Addr × Obj} {R tl8 : List (Addr × Obj)} : ∀ q ∈ [a] ++ (b :: c :: d :: e :: f :: g :: i :: R), q ∈ x :: y :: a :: b :: c :: d :: e :: f :: g :: i :: (R ++ tl8) :=
  sub_at 2 rfl (sub_at 3 rfl (sub_at 4 rfl (sub_at 5 rfl (sub_at 6 rfl (sub_at 7 rfl (sub_at 8 rfl (sub_at 9 rfl (sub_end 10 sub_l))))))))
theorem d_off10 {n N J : Addr} {ol ol' oj oj' : Obj} {i s : Addr × Obj} {r : List (Addr × Obj)} (h : Off n ((N, ol) :: i :: s :: (J, oj) :: r)) : Off n ((N, ol') :: i :: s :: (J, oj') :: r) := Off.cons (h (N, ol) (.head _)) (d_off9 h.tail)
theorem d_led1 {h₀ h : Heap} {L : Addr} {a b c : Addr × Obj} {r : List (Addr × Obj)} (N : News h₀ L h (a :: b :: c :: r)) : News h₀ L h (c :: a :: b :: r) :=
  news_sub N (sub_at 2 rfl (sub_at 0 rfl (sub_at 1 rfl (sub_end 3 fun _ h => h))))
theorem d_sub6 {x y a b : Addr × Obj} {r : List (Addr × Obj)} : ∀ q ∈ [b] ++ (a :: r), q ∈ x :: a :: y :: b :: r :=
  sub_at 3 rfl (sub_at 1 rfl (sub_end 4 fun _ h => h))
theorem d_off11 {S J K : Addr} {oj oj' ok ok' : Obj} {r : List (Addr × Obj)} (h : Off S ((J, oj) :: (K, ok) :: r)) : Off S ((J, oj') :: (K, ok') :: r) := Off.cons (h (J, oj) (.head _)) (Off.cons (h (K, ok) (.tail _ (.head _))) h.tail.tail)
theorem d_off12 {n S J K : Addr} {os oj oj' ok ok' : Obj} {r : List (Addr × Obj)} (h : Off n ((S, os) :: (J, oj) :: (K, ok) :: r)) : Off n ((S, os) :: (J, oj') :: (K, ok') :: r) := Off.cons (h (S, os) (.head _)) (d_off11 h.tail)
theorem d_page {h₀ h : Heap} {L : Addr} {w : World} {c : Str} {t : Tok} {x d tn tc : Addr} {st : Ws} {vs : List Value} {pled R : List (Addr × Obj)} {a b e f g i j k : Addr × Obj} (hW : WhiteL w c t x d tn tc st vs pled) (hR : ∀ q ∈ pled, q ∈ R) (N : News h₀ L h (a :: b :: e :: f :: g :: i :: j :: k :: R)) {P : Prop}
    (kk : ∀ u1 u2 u3 k0 k1 k2 k3 k4 v6, News h₀ L h (a :: b :: e :: f :: g :: i :: j :: (x, instObj 100 d) :: (d, whiteD w c t st.n st.nt u1 u2 k0 k1 k2 k3 k4 tn v6) :: (tn, { cls := .type "tuple", data := .seq #[.ref tc, .int st.b u3] }) :: (tc, { cls := .type "tuple", data := .seq vs.toArray }) :: k :: R) → P) : P := by
  obtain ⟨u1, u2, u3, k0, k1, k2, k3, k4, v6, rfl⟩ := hW
  refine kk u1 u2 u3 k0 k1 k2 k3 k4 v6 (news_sub N (sub_at 0 rfl (sub_at 1 rfl (sub_at 2 rfl (sub_at 3 rfl (sub_at 4 rfl (sub_at 5 rfl (sub_at 6 rfl ?_))))))))
  intro q hq
  have e4 : ∀ y ∈ [(x, instObj 100 d), (d, whiteD w c t st.n st.nt u1 u2 k0 k1 k2 k3 k4 tn v6), (tn, { cls := .type "tuple", data := .seq #[.ref tc, .int st.b u3] }), (tc, { cls := .type "tuple", data := .seq vs.toArray })], y ∈ a :: b :: e :: f :: g :: i :: j :: k :: R := sub_end 8 hR
  rcases List.mem_append.mp (show q ∈ [(x, instObj 100 d), (d, whiteD w c t st.n st.nt u1 u2 k0 k1 k2 k3 k4 tn v6), (tn, { cls := .type "tuple", data := .seq #[.ref tc, .int st.b u3] }), (tc, { cls := .type "tuple", data := .seq vs.toArray })] ++ (k :: R) from hq) with hq | hq
  · exact e4 q hq
  · exact sub_end 7 (fun _ h => h) q hq
theorem d_drop {h₀ h : Heap} {L : Addr} {a b e f g i j x d tn tc k : Addr × Obj} {R : List (Addr × Obj)} (N : News h₀ L h (a :: b :: e :: f :: g :: i :: j :: x :: d :: tn :: tc :: k :: R)) : News h₀ L h (a :: b :: e :: f :: g :: i :: j :: k :: R) :=
  news_sub N (sub_at 0 rfl (sub_at 1 rfl (sub_at 2 rfl (sub_at 3 rfl (sub_at 4 rfl (sub_at 5 rfl (sub_at 6 rfl (sub_end 11 fun _ h => h))))))))
theorem spots_card (z : Nat) (ts : List (List Int)) : (spotsP z ts).length = z := by
  unfold spotsP; rw [List.length_map, List.length_range]
theorem line_same {z : Nat} {ts : List (List Int)} {cnt : List Int} {k : Nat} (h : LineOk z ts cnt k) : lineP z cnt k (z - 1) = wayL (spotsP z ts) (k : Int) ((spotsP z ts).length - 1) := by
  rw [spots_card]
  exact h.line
theorem d_r0 {n : Nat} : Builtin.Range.rangeSize 0 (n : Int) 1 = ((n : Nat) : Int) := (rangeSize_nat _ _).trans (by omega)
theorem d_r1 {n : Nat} (h : 4 ≤ n) : Builtin.Range.rangeSize 1 (n : Int) 1 = ((n - 1 : Nat) : Int) := (rangeSize_nat _ _).trans (by omega)
theorem d_s0 {n : Nat} (h : n ≤ 7) : Builtin.Range.small 0 (n : Int) 1 = true := small_one (by omega) (by omega) (by omega) (by omega)
theorem d_s1 {n : Nat} (h : n ≤ 7) : Builtin.Range.small 1 (n : Int) 1 = true := small_one (by omega) (by omega) (by omega) (by omega)
theorem d_fm {z k j : Nat} (h : 4 ≤ z) : ((k : Int) + (1 + (j : Int))).fmod (z : Int) = (((k + (j + 1)) % z : Nat) : Int) := by
  rw [show (k : Int) + (1 + (j : Int)) = ((k + (j + 1) : Nat) : Int) by omega, fmod_toNat (by omega), Int.toNat_natCast]
theorem d_fm2 {z k j : Nat} (h : 4 ≤ z) : (((k : Int) + (1 + (j : Int))).fmod (z : Int)).toNat = (k + (j + 1)) % z := by
  rw [d_fm h, Int.toNat_natCast]
theorem d_t1 (j : Nat) : (1 + (j : Int)).toNat = j + 1 := by omega
theorem d_t2 (j : Nat) : (1 + (j : Int) - 1).toNat = j := by omega
structure DiS where
  lvs : List Value
  lns : List Int
  lep : Nat
  oj : Obj
structure DiF (st : DiS) : Prop where
  li : IntsAre st.lvs st.lns
  cj : CellOk st.oj
theorem p_D (w : World) (p : Program) (loose : List Str) (mean : ExcName → Option Value) (mg mb : Str → Option Value) (h₀ : Heap) (fa L : Addr) (cdv : Value) (s : Shared) (Q : Flow → Shared → Prop) (E : Value → Shared → Prop) (m : Str → Option Value) (x : LawV) (hx : LawH w L x)
    (B : Below callerA h₀ [] h₀) (X : (kx w.params).In h₀) (T : Top p loose mean mg mb h₀)
    (F : Fr h₀ L s.heap m) (N : News h₀ L s.heap (x.led L)) (hm : Has m x.has) (hE : HasPO w L fa cdv E) (hend : LawEnd h₀ L s Q) :
    wpAny (model pw w) (lawA L fa cdv) (execs lgD.val (lawEnv L fa cdv)) Q E s := by
  have F := hm.fr F
  obtain ⟨hz, hok, hb, ⟨pc, pt, pd, ptn, ptc, pvs, hpI, hpW⟩, hT, hSp, hcs, hck, hcj, hoS, hno⟩ := hx
  rcases x with ⟨z, ts, b, S, spv, sep, lt, tvs, ept, pled, px, tl, tl9, oj, ok, os, tz⟩
  simp only [LawV.led, LawV.has] at F N
  dsimp only at *
  clear hm
  have htl := hT.length
  have hol := hok.len
  have hpl := hpI.length
  have hpg := (hok.pageB hz hb).1.len
  obtain ⟨zn, rfl⟩ : ∃ n : Nat, z = (n : Int) := ⟨z.toNat, by omega⟩
  have hz4 : 4 ≤ zn := by omega
  have hz7 : zn ≤ 7 := by omega
  clear hz
  rw [Int.toNat_natCast] at hok hSp
  have hpz : (wsOf ts.flatten b).cnt.length = zn := by omega
  rw [hpz] at hpl
  clear hpg
  obtain ⟨R, hR⟩ : ∃ R, R = pled ++ (tl ++ tl9) := ⟨_, rfl⟩
  rw [← hR] at N hoS hno
  have hR1 : ∀ q ∈ pled, q ∈ R := by rw [hR]; exact sub_l
  have hR2 : ∀ q ∈ tl, q ∈ R := by rw [hR]; exact sub_tr sub_l sub_r
  have hR3 : ∀ q ∈ tl9, q ∈ R := by rw [hR]; exact sub_tr sub_r sub_r
  clear hR
  have hno2 : NoC ((lt, W.listOf tvs.toArray ept) :: R) := NoC.cons (fun v e => nomatch e) hno
  clear hno
  (try dsimp only [lawA])
  (repeat (fail_if_success (with_reducible show wpAny _ _ (exec (Stmt.For _ _ _ _ _) _) _ _ _)); first | (k_unfold; (try dsimp only)) | walk1 | (dsimp only; walk1))
  (with_reducible rename Fr _ _ _ _ => lF)
  k_dflt (refine For_turns (hE := hE.po) lF ?_)
  (repeat (fail_if_success (with_reducible show wpAny _ _ (pyIter _) _ _ _)); first | (k_unfold; (try dsimp only)) | walk1 | (dsimp only; walk1))
  (with_reducible rename Fr _ _ _ _ => lF); (with_reducible rename IsRange _ _ _ _ _ _ _ _ => lR); (with_reducible rename News _ _ _ _ => lN)
  refine tl_rangeC (σ := DoS) (n := zn) (fun st => (S, W.listOf spv.toArray sep) :: (L + 1 + 1 + 1, st.oj) :: (L + 1 + 1, st.ok) :: (L + 1, os) :: (lt, W.listOf tvs.toArray ept) :: R) (fun st => []) (fun st => DoF st) [Str.ofString "line", Str.ofString "tied"] (fun k st => True) ⟨oj, ok⟩ (by rfl) lR (d_s0 hz7) d_r0 lF lN ⟨hcj, hck⟩ (List.forall_mem_nil _) trivial ?turn ?done
  case turn =>
    clear lF lN lR hcj hck
    rintro ⟨oj, ok⟩ k t u h5 tk5 I5 o5 hk hoI hoc hF - F5 N5
    obtain ⟨hcj, cv, hcv⟩ := hF
    dsimp only at hcj hcv hoI F5 N5 ⊢
    (try k_fold)
    rw [Int.zero_add]
    have hK := d_offK N5 hcv hno2 (by show @Ne Nat _ _; dsimp only; omega)
    (repeat (first | (k_unfold; (try dsimp only)) | walk1 | (dsimp only; walk1)))
    (with_reducible rename Fr _ _ _ _ => lF); (with_reducible rename News _ _ _ _ => lN)
    k_dflt (refine storeX_C lF lN (by rfl) (updF_of (own := [_, _, _]) hK (Off.cons (Ne.symm (hoI _ (.tail _ (.tail _ (.head _))))) (Off.cons (Ne.symm (hoS _ (.tail _ (.head _)))) (Off.cons (by show @Ne Nat _ _; dsimp only; omega) off_nil)))) hcv ?_ (by rfl) (by rfl))
    clear lF lN hK
    intro h4 o4 F4 N4 d4
    dsimp only [List.cons_append, List.nil_append] at N4
    (try dsimp only); (try k_fold)
    have hLn := hok.line hk b
    (repeat (fail_if_success (with_reducible show wpAny _ _ (exec (Stmt.For _ _ _ _ _) _) _ _ _)); first | (k_unfold; (try dsimp only)) | walk1 | (dsimp only; walk1))
    (with_reducible rename _ < _ ∧ _ < _ ∧ _ < _ ∧ _ < _ ∧ _ < _ ∧ _ < _ ∧ AllLt _ _ => o3)
    (with_reducible rename Fr _ _ _ _ => lF); (with_reducible rename News _ _ _ _ => lN)
    refine d_name (i := (I5, o5)) (s := (S, W.listOf spv.toArray sep)) (j := (L + 1 + 1 + 1, oj)) (k := (L + 1 + 1, o4)) (z := (L + 1, os)) (a := (lt, W.listOf tvs.toArray ept)) (r := R) o3 ?_
    clear o3
    rintro Ln rfl hLo
    k_dflt (refine For_turns (hE := hE.po) lF ?_)
    (repeat (fail_if_success (with_reducible show wpAny _ _ (pyIter _) _ _ _)); first | (k_unfold; (try dsimp only)) | walk1 | (dsimp only; walk1))
    (with_reducible rename Fr _ _ _ _ => lF); (with_reducible rename IsRange _ _ _ _ _ _ _ _ => lR); (with_reducible rename News _ _ _ _ => lN)
    refine tl_rangeC (σ := DiS) (n := zn - 1) (fun st => (Ln, W.listOf st.lvs.toArray st.lep) :: (I5, o5) :: (S, W.listOf spv.toArray sep) :: (L + 1 + 1 + 1, st.oj) :: (L + 1 + 1, o4) :: (L + 1, os) :: (lt, W.listOf tvs.toArray ept) :: R) (fun st => []) (fun st => DiF st) [Str.ofString "tied"] (fun j st => st.lns = lineP zn (wsOf ts.flatten b).cnt k j) ⟨[.int 0 _, .int 1 _], [0, 1], 0, oj⟩ (by rfl) lR (d_s1 hz7) (d_r1 hz4) lF lN ⟨.cons _ _ (.cons _ _ .nil), hcj⟩ (List.forall_mem_nil _) rfl ?turn2 ?done2
    case turn2 =>
      clear lF lN lR hcj
      rintro ⟨lvs, lns, lep, oj⟩ j t2 u2 h7 tk7 I7 o7 hj hoI7 hoc7 hF hP F7 N7
      obtain ⟨hli, dv, hdv⟩ := hF
      dsimp only at hli hdv hP hoI7 F7 N7 ⊢
      subst hP
      (try k_fold)
      have hJ := d_offJ N7 hdv hno2 (by show @Ne Nat _ _; dsimp only; omega) (by show @Ne Nat _ _; dsimp only; omega)
      (repeat (first | (k_unfold; (try dsimp only)) | walk1 | (dsimp only; walk1)))
      (with_reducible rename Fr _ _ _ _ => lF); (with_reducible rename News _ _ _ _ => lN)
      k_dflt (refine storeX_C lF lN (by rfl) (updF_of (own := [_, _, _, _]) hJ (Off.cons (Ne.symm (hoI7 _ (.tail _ (.tail _ (.tail _ (.head _)))))) (Off.cons (Ne.symm (hLo _ (.tail _ (.tail _ (.head _))))) (Off.cons (Ne.symm (hoI _ (.tail _ (.head _)))) (Off.cons (Ne.symm (hoS _ (.head _))) off_nil))))) hdv ?_ (by rfl) (by rfl))
      clear lF lN hJ
      intro h6 o6 F6 N6 d6
      dsimp only [List.cons_append, List.nil_append] at N6
      refine d_page hpW hR1 N6 ?_
      clear N6
      intro u1 u3 u4 k0 k1 k2 k3 k4 v6 N6
      unfold whiteD at N6
      (try dsimp only); (try k_fold)
      have hll := hli.length
      rw [lineP_len] at hll
      (repeat (fail_if_success (with_reducible show wpAny _ _ (binaryOp Operator.Mult _ _) _ _ _)); first | (k_unfold; (try dsimp only)) | walk1 | (dsimp only; walk1))
      rw [d_fm2 hz4, d_t1]
      have hsm := hok.small hk b ((k + (j + 1)) % zn) j (j + 1) (Nat.le_of_lt hj)
      k_dflt (refine PyProof.Rows.mul_int ?_ (mul_small hsm.1 hsm.2))
      clear hsm
      (repeat (fail_if_success (with_reducible show wpAny _ _ (call (Value.builtin "list.append") _) _ _ _)); first | (k_unfold; (try dsimp only)) | walk1 | (dsimp only; walk1))
      rw [d_t2]
      (with_reducible rename Fr _ _ _ _ => lF); (with_reducible rename News _ _ _ _ => lN)
      have lN2 := d_drop lN
      clear lN
      k_dflt (refine li_push [_] lF lN2 (Off.cons (Ne.symm (hoI7 _ (.head _))) off_nil) (d_off9 hLo) (by omega) ?_)
      clear lF lN2
      intro h3 F3 N3
      dsimp only [List.cons_append, List.nil_append] at N3
      (try dsimp only); (try k_fold)
      (repeat (fail_if_success (with_reducible show wpAny _ _ (eval (Expr.ListComp _ _ _ _) _) _ _ _)); first | (k_unfold; (try dsimp only)) | walk1 | (dsimp only; walk1))
      (with_reducible rename Fr _ _ _ _ => lF); (with_reducible rename News _ _ _ _ => lN)
      k_dflt (refine gx_name lF (by rfl) (by with_unfolding_all rfl) (by decide) (by rfl) (by decide) (by rfl) (by intro _; rfl) ?_)
      (repeat (fail_if_success (with_reducible show wpAny _ _ (pyIter _) _ _ _)); first | (k_unfold; (try dsimp only)) | walk1 | (dsimp only; walk1))
      k_dflt (refine gx_list (vs := tvs) (by rfl) lF lN (.tail _ (.tail _ (.tail _ (.tail _ (.tail _ (.tail _ (.tail _ (.head _)))))))) (by omega) ?_)
      intro I9 h2 hsz old
      refine ⟨fun i _ ys => All2 (TupAt tl) ys ((ts.take i).filter (tiedQ (k : Int) (((k + (j + 1)) % zn : Nat) : Int))), .nil, ?el, ?fin⟩
      case el =>
        rintro i v C9 oC9 mC9 D9 ys9 tl8 its9 h1 tk1 E1 hi ⟨_, hv⟩ hInv hC9 hx9 hits F1 N1 hyl hDC
        clear lF lN
        obtain ⟨o9, rfl⟩ := objs1 hits
        have hv := hv
        obtain ⟨cs, hcs9, T9, cvs, rfl, hI9, hm9⟩ := hT.get hv
        obtain ⟨a9, b9, c9, rfl, hab⟩ := hok.tri cs (List.mem_of_getElem? hcs9)
        dsimp only [List.cons_append, List.nil_append] at N1
        have N2 := News.dup N1 (d_sub1 (hR2 _ hm9))
        clear N1
        show wpAny _ _ (PySem.isTrue _ _ _) _ _ _
        (try dsimp only); (try k_fold)
        (repeat (first | (k_unfold; (try dsimp only)) | walk1 | (dsimp only; walk1)))
        · (with_reducible rename List.any _ (fun x => x == Int.fmod _ _) = true => h2); (with_reducible rename List.any _ (fun x => x == (k : Int)) = true => h1)
          (with_reducible rename Fr _ _ _ _ => fE); (with_reducible rename News _ _ _ _ => nE)
          refine gx_plain fE nE sub_tail ?_
          rw [d_fm hz4] at h2
          rw [tied_step hcs9, h1, h2]
          exact all2_app hInv (.cons ⟨_, _, rfl, hI9, hm9⟩ .nil)
        · intro h; exact absurd h (by decide)
        · (with_reducible rename List.any _ (fun x => x == Int.fmod _ _) = false => h2)
          (try k_unfold)
          refine ⟨fun h => absurd h (by decide), fun _ => ?_⟩
          (with_reducible rename Fr _ _ _ _ => fE); (with_reducible rename News _ _ _ _ => nE)
          refine gx_no fE nE sub_tail ?_
          rw [d_fm hz4] at h2
          rw [tied_step hcs9, h2, Bool.and_false, if_neg Bool.false_ne_true, List.append_nil]
          exact hInv
        · (with_reducible rename List.any _ (fun x => x == (k : Int)) = false => h1)
          (try k_unfold)
          refine ⟨fun h => absurd h (by decide), fun _ => ?_⟩
          (with_reducible rename Fr _ _ _ _ => fE); (with_reducible rename News _ _ _ _ => nE)
          refine gx_no fE nE sub_tail ?_
          rw [tied_step hcs9, h1, Bool.false_and, if_neg Bool.false_ne_true, List.append_nil]
          exact hInv
      case fin =>
        rintro D9 ys9 tl8 hInv hyl h1 tk1 F1 N1
        clear lF lN
        have hFl := hInv
        rw [htl, List.take_length] at hFl
        clear hInv
        simp only [List.cons_append] at N1
        (try dsimp only); (try k_fold)
        (repeat (fail_if_success (with_reducible show wpAny _ _ (compareOp CmpOp.NotEq _ _) _ _ _)); first | (k_unfold; (try dsimp only)) | walk1 | (dsimp only; walk1))
        (with_reducible rename News _ _ _ _ => lN)
        k_dflt (refine kqn_ne lN (.tail _ (.head _)) rfl rfl (tups_dat hFl) (n₁ := tl) (d_sub3 hR2) (.head _) rfl rfl (DatAll.nil) (n₂ := []) (fun q hq => nomatch hq) tups_ok (List.forall_mem_nil _) (by first | ktr_units | units_room | (simp only [Around.deeper, ktrTop]; omega)) ?_)
        clear hFl
        intro r2 hr2
        obtain rfl := tied_r hr2
        clear hr2
        (repeat (fail_if_success (with_reducible show wpAny _ _ (compareOp CmpOp.IsNot _ _) _ _ _)); first | (k_unfold; (try dsimp only)) | walk1 | (dsimp only; walk1))
        have hT2 := hLn.tied j hj
        rw [lineP] at hT2
        rw [d_t1, hT2]
        clear hT2
        walk1
        rw [bne_self_eq_false]
        repeat' (first | (k_unfold; (try dsimp only)) | (k_end; wrow_close) | ((fail_if_success (with_reducible refine UnrEndW_stop ?_)); walk1) | ((fail_if_success (with_reducible refine UnrEndW_stop ?_)); dsimp only; walk1) | (leave1; walk_say "STEP leave1"; (try dsimp only)) | fail "no step")
        (with_reducible rename Fr _ _ _ _ => fE); (with_reducible rename News _ _ _ _ => nE)
        refine tl_end ⟨lvs ++ [.int _ _], lineP zn (wsOf ts.flatten b).cnt k (j + 1), lep + 1, o6⟩ fE nE d_sub4 (List.forall_mem_singleton.mpr (d_off10 hoI7)) (List.forall_mem_nil _) (by intro z h1 h2; simp only [List.contains_cons, List.contains_nil, Bool.or_false, beq_eq_false_iff_ne, ne_eq] at h2; simp [h2, kstB]) ⟨intsAre_append hli (.cons _ _ .nil), ⟨_, d6⟩⟩ rfl
    case done2 =>
      clear lF lN lR hcj
      rintro ⟨lvs, lns, lep, oj⟩ u2 h7 tk7 hF hP F7 N7
      obtain ⟨hli, hcj⟩ := hF
      dsimp only at hli hcj hP F7 N7 ⊢
      subst hP
      (try k_fold)
      (repeat (fail_if_success (with_reducible show wpAny _ _ (call (Value.ref 346) _) _ _ _)); first | (k_unfold; (try dsimp only)) | walk1 | (dsimp only; walk1))
      (with_reducible rename Fr _ _ _ _ => lF); (with_reducible rename News _ _ _ _ => lN)
      have lN2 := d_led1 lN
      clear lN
      k_dflt (refine CallsN.use (c_ways w S spv (spotsP zn ts) sep zn k t tl9 _ hSp (sub_end (B := _ :: _ :: _ :: _ :: _ :: _ :: R) 6 hR3) ⟨by omega, by omega⟩ (congrArg Nat.cast (spots_card zn ts)) ⟨by omega, by omega⟩ hLn.ways (spots_len hok) (Off.cons (Ne.symm (hLo _ (.tail _ (.head _)))) (Off.cons (Ne.symm (hoI _ (.head _))) (d_off11 hoS)))) B (by k_asm) X lN2 T (by rfl) (by ktr_room) (by ktr_units) ?_)
      clear lF lN2
      rintro r3 h3 tk3 nw3 F3 N3 ⟨D3, ys3, ep3, rfl, hI3, rfl⟩
      (try dsimp only); (try k_fold)
      (repeat (fail_if_success (with_reducible show wpAny _ _ (compareOp CmpOp.NotEq _ _) _ _ _)); first | (k_unfold; (try dsimp only)) | walk1 | (dsimp only; walk1))
      (with_reducible rename News _ _ _ _ => lN)
      k_dflt (refine kqn_ne lN (.tail _ (.tail _ (.head _))) rfl rfl (dat_ints hli) (n₁ := []) (fun q hq => nomatch hq) (.head _) rfl rfl (dat_ints hI3) (n₂ := []) (fun q hq => nomatch hq) dat_ints_ok dat_ints_ok (by first | ktr_units | units_room | (simp only [Around.deeper, ktrTop]; omega)) ?_)
      intro r2 hr2
      obtain rfl : r2 = false := by
        cases r2 with
        | false => rfl
        | true => exact absurd (dat_int_inj.mpr (line_same hLn)) (hr2.mp rfl)
      clear hr2
      repeat' (first | (k_unfold; (try dsimp only)) | (k_end; wrow_close) | ((fail_if_success (with_reducible refine UnrEndW_stop ?_)); walk1) | ((fail_if_success (with_reducible refine UnrEndW_stop ?_)); dsimp only; walk1) | (leave1; walk_say "STEP leave1"; (try dsimp only)) | fail "no step")
      (with_reducible rename Fr _ _ _ _ => fE); (with_reducible rename News _ _ _ _ => nE)
      refine tl_end ⟨oj, o4⟩ fE nE d_sub6 (List.forall_mem_singleton.mpr (d_off12 hoI)) (List.forall_mem_nil _) (by intro z h1 h2; simp only [List.contains_cons, List.contains_nil, Bool.or_false, Bool.or_eq_false_iff, beq_eq_false_iff_ne, ne_eq] at h2; simp [h2, kstB]) ⟨hcj, ⟨_, d4⟩⟩ trivial
  case done =>
    clear lF lN lR hcj hck
    rintro ⟨oj, ok⟩ u h5 tk5 - - F5 N5
    dsimp only at F5 N5 ⊢
    (try k_fold)
    (repeat (first | (k_unfold; (try dsimp only)) | walk1 | (dsimp only; walk1)))
    exact hend.out _ _ _ F5
end Mine
end
section
open PySem PySem.W PyProof.Rows
namespace Mine
theorem c_law (w : World) (p : Program) (loose : List Str) (mean : ExcName → Option Value) (mg mb : Str → Option Value) (h₀ : Heap) (l fa L : Addr) (cdv : Value) (vs : List Value) (ns : List Int) (s : Shared) (Q : Flow → Shared → Prop) (E : Value → Shared → Prop) (oj ok os : Obj)
    (hL : h₀.IsList l vs.toArray) (hI : IntsAre vs ns) (hns : ns.length ≤ 63) (B : Below callerA h₀ [] h₀) (X : (kx w.params).In h₀) (T : Top p loose mean mg mb h₀)
    (F : Fr h₀ L s.heap (bindL (lawEnv L fa cdv).kindOf [(Str.ofString "script", .ref l)] fun _ => none)) (N : News h₀ L s.heap [(L + 1 + 1 + 1, oj), (L + 1 + 1, ok), (L + 1, os)])
    (d1 : oj.data = .cell none) (d2 : ok.data = .cell none) (d3 : os.data = .cell none) (hret : LawEnd h₀ L s Q) :
    wpAny (model pw w) (callerA.deeper (lawEnv L fa cdv)) (execs bo27.val (lawEnv L fa cdv)) Q (fun e s' => wpAny (model pw w) (callerA.deeper (lawEnv L fa cdv)) (leaving (lawEnv L fa cdv) e) (fun _ s'' => E e s'') (fun e' s'' => E e' s'') s') s := by
  have hE : HasPO w L fa cdv (fun e s' => wpAny (model pw w) (callerA.deeper (lawEnv L fa cdv)) (leaving (lawEnv L fa cdv) e) (fun _ s'' => E e s'') (fun e' s'' => E e' s'') s') := ⟨PySem.PassesOwn.leaving⟩
  refine p_A w p loose mean mg mb h₀ l fa L cdv vs ns s Q _ oj ok os hL hI hns B X T F N d1 d2 d3 hE (st9 := []) (fun m => ⟨?_⟩)
  rintro h1 tk1 m1 - F1 N1 - ⟨st, hs, hm1, rfl⟩
  refine p_B w p loose mean mg mb h₀ fa L cdv _ Q _ m1 st hs B X T F1 N1 hm1 hE (stB := []) (fun m => ⟨?_⟩)
  rintro h2 tk2 m2 - F2 N2 - ⟨x, hx, hm2, rfl⟩
  refine p_C w p loose mean mg mb h₀ fa L cdv _ Q _ m2 x hx B X T F2 N2 hm2 hE (stC := []) (fun m => ⟨?_⟩)
  rintro h3 tk3 m3 - F3 N3 - ⟨y, hy, hm3, rfl⟩
  exact p_D w p loose mean mg mb h₀ fa L cdv _ Q _ m3 y hy B X T F3 N3 hm3 hE ⟨fun h t m F => hret.out h t m F⟩
end Mine
end
open PySem PySem.W PyProof.Rows
namespace Mine
theorem both_true {a b : Bool} (x : a = true) (y : b = true) : (a && b) = true := by rw [x, y]; rfl
theorem law_said : PySem.Challenge.rw_sn0066_01.wellSaid = true := by
  unfold OpenLaw.wellSaid OpenRow.wellSaid
  repeat' (with_reducible refine both_true ?_ ?_)
  all_goals (try unfold OpenRow.partSaid; try (repeat' (with_reducible refine both_true ?_ ?_)))
  all_goals (try unfold looksOpen; try (repeat' (with_reducible refine both_true ?_ ?_)))
  all_goals decide +kernel
end Mine
theorem PySem.Challenge.cw_sn0066_01_holds : PySem.Challenge.rw_sn0066_01.Holds := by
  w_on
  refine holds_law Mine.law_said fun _ => ?_
  refine holds_open (q := Mine.qv) (loose := Mine.looseL) (Xt := Mine.Xt) (XP := XL Mine.qv []) (Yf := Hook.obs (kHook Mine.kx Mine.kas Mine.kpf)) (Ya := Hook.val (kHook Mine.kx Mine.kas Mine.kpf)) (YP := Hook.says (kHook Mine.kx Mine.kas Mine.kpf)) (N := Mine.NN) Mine.left (Hook.of (kHook Mine.kx Mine.kas Mine.kpf)) (Hook.keeps (kHook Mine.kx Mine.kas Mine.kpf)) (fun s e => xl_of s (Bool.and_eq_true_iff.mp e).1) XL.keeps (by rfl) (by rfl) (by rfl) (fun s e => recFacts_of (Bool.and_eq_true_iff.mp e).2) (by rfl) (by assumption) (by decide +kernel) ⟨rfl, rfl, rfl, rfl, rfl, by decide +kernel⟩ ?hw ?hc
  case hw => w_witness2
  case hc =>
    rename_i said0; clear said0
    k_fill
    intro w s₀ s₁ mg mb G Y fa o pm cd doc dV kV ho hd hcd hD hmg hg args vals as hpre hlay hrd hwl hlo
    have KX := kIn_of Y
    have gX := (Ground.X G).1
    have gV := (Ground.X G).2
    refine Ground.open G ?_
    intro T B D TE TW
    try (refine guard_noD D (by decide +kernel) ?_; clear D)
    obtain ⟨_, _, M⟩ := bmod_of_top T
    have TA := at_of_top T
    try (obtain ⟨_, _, he, B0⟩ := based_of_top T rfl hmg ho hd; have he' : cd = _ := he; subst he'; clear he)
    clear hmg
    wrow_args hpre hlay hrd hwl hlo
    refine enter_call ?_
    w_top on
    try refine codeAny_mono ?_ (fun _ _ g => GoodW.toG g)
    have K0 := below_caller (Top.heap T)
    w_call any ho hd hcd hD T F
    clear hd TA
    k_drop
    ((with_reducible rename Heap.IsList _ _ _ => fL); (with_reducible rename IntsAre _ _ => fI); (with_reducible rename ¬ _ < _ => fC); (with_reducible rename Below _ _ _ _ => fB); (with_reducible rename Frag.In _ _ => fX); (with_reducible rename Top _ _ _ _ _ _ => fT); (with_reducible rename Fr _ _ _ _ => fF); (with_reducible rename News _ _ _ _ => fN); (with_reducible rename Obj.data _ = Data.cell (bindC _ _ _ (Str.ofString "j")) => f1); (with_reducible rename Obj.data _ = Data.cell (bindC _ _ _ (Str.ofString "k")) => f2); (with_reducible rename Obj.data _ = Data.cell (bindC _ _ _ (Str.ofString "size")) => f3); k_dflt (refine Mine.c_law _ _ _ _ _ _ _ _ _ _ _ _ _ _ _ _ _ _ _ fL fI (by omega) fB fX fT fF fN f1 f2 f3 ⟨?_⟩)); intro h9 tk9 m9 F9; (try dsimp only); wrow_close
