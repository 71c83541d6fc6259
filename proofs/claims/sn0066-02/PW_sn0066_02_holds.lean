import PyProof.Rows.All
import Wide.All
import OpenK.AllK
import Wide.FinOn
import PySem.Challenge.RW_sn0066_02
set_option Elab.async false
set_option maxRecDepth 100000
set_option linter.all false
set_option maxHeartbeats 0
section
namespace Mine
open PySem PySem.W PyProof.Rows
noncomputable abbrev pw : PySem.Program := PySem.Challenge.pw_sn0066_02
noncomputable def stT (i : Nat) : PySem.Stmt := (pw.main.body[i]?).getD (.Pass default)
noncomputable def stC (i j : Nat) : PySem.Stmt := match stT i with | .ClassDef _ _ _ b _ _ _ _ _ _ _ => (b[j]?).getD (.Pass default) | s => s
noncomputable def sBo : PySem.Stmt → List PySem.Stmt | .FunctionDef _ _ b _ _ _ _ _ _ _ => b | _ => []
noncomputable def sPa : PySem.Stmt → PySem.Arguments | .FunctionDef _ a _ _ _ _ _ _ _ _ => a | _ => ⟨[], [], none, [], [], none, []⟩
noncomputable def sSc : PySem.Stmt → PySem.Scope | .FunctionDef _ _ _ _ _ _ s _ _ _ => s | _ => pw.main.scope
@[reducible] noncomputable def bo1 : { b : List PySem.Stmt // sBo (stT 1) = b } := ⟨_, by (conv => lhs; whnf; try dsimp only)⟩
@[reducible] noncomputable def pa1 : { b : PySem.Arguments // sPa (stT 1) = b } := ⟨_, by (conv => lhs; whnf; try dsimp only)⟩
@[reducible] noncomputable def sc1 : { b : PySem.Scope // sSc (stT 1) = b } := ⟨_, by (conv => lhs; whnf; try dsimp only)⟩
@[reducible] noncomputable def bo3x1 : { b : List PySem.Stmt // sBo (stC 3 1) = b } := ⟨_, by (conv => lhs; whnf; try dsimp only)⟩
@[reducible] noncomputable def pa3x1 : { b : PySem.Arguments // sPa (stC 3 1) = b } := ⟨_, by (conv => lhs; whnf; try dsimp only)⟩
@[reducible] noncomputable def sc3x1 : { b : PySem.Scope // sSc (stC 3 1) = b } := ⟨_, by (conv => lhs; whnf; try dsimp only)⟩
@[reducible] noncomputable def bo3x2 : { b : List PySem.Stmt // sBo (stC 3 2) = b } := ⟨_, by (conv => lhs; whnf; try dsimp only)⟩
@[reducible] noncomputable def pa3x2 : { b : PySem.Arguments // sPa (stC 3 2) = b } := ⟨_, by (conv => lhs; whnf; try dsimp only)⟩
@[reducible] noncomputable def sc3x2 : { b : PySem.Scope // sSc (stC 3 2) = b } := ⟨_, by (conv => lhs; whnf; try dsimp only)⟩
@[reducible] noncomputable def bo3x3 : { b : List PySem.Stmt // sBo (stC 3 3) = b } := ⟨_, by (conv => lhs; whnf; try dsimp only)⟩
@[reducible] noncomputable def pa3x3 : { b : PySem.Arguments // sPa (stC 3 3) = b } := ⟨_, by (conv => lhs; whnf; try dsimp only)⟩
@[reducible] noncomputable def sc3x3 : { b : PySem.Scope // sSc (stC 3 3) = b } := ⟨_, by (conv => lhs; whnf; try dsimp only)⟩
@[reducible] noncomputable def bo3x4 : { b : List PySem.Stmt // sBo (stC 3 4) = b } := ⟨_, by (conv => lhs; whnf; try dsimp only)⟩
@[reducible] noncomputable def pa3x4 : { b : PySem.Arguments // sPa (stC 3 4) = b } := ⟨_, by (conv => lhs; whnf; try dsimp only)⟩
@[reducible] noncomputable def sc3x4 : { b : PySem.Scope // sSc (stC 3 4) = b } := ⟨_, by (conv => lhs; whnf; try dsimp only)⟩
@[reducible] noncomputable def bo3x5 : { b : List PySem.Stmt // sBo (stC 3 5) = b } := ⟨_, by (conv => lhs; whnf; try dsimp only)⟩
@[reducible] noncomputable def pa3x5 : { b : PySem.Arguments // sPa (stC 3 5) = b } := ⟨_, by (conv => lhs; whnf; try dsimp only)⟩
@[reducible] noncomputable def sc3x5 : { b : PySem.Scope // sSc (stC 3 5) = b } := ⟨_, by (conv => lhs; whnf; try dsimp only)⟩
@[reducible] noncomputable def bo3x6 : { b : List PySem.Stmt // sBo (stC 3 6) = b } := ⟨_, by (conv => lhs; whnf; try dsimp only)⟩
@[reducible] noncomputable def pa3x6 : { b : PySem.Arguments // sPa (stC 3 6) = b } := ⟨_, by (conv => lhs; whnf; try dsimp only)⟩
@[reducible] noncomputable def sc3x6 : { b : PySem.Scope // sSc (stC 3 6) = b } := ⟨_, by (conv => lhs; whnf; try dsimp only)⟩
@[reducible] noncomputable def bo3x7 : { b : List PySem.Stmt // sBo (stC 3 7) = b } := ⟨_, by (conv => lhs; whnf; try dsimp only)⟩
@[reducible] noncomputable def pa3x7 : { b : PySem.Arguments // sPa (stC 3 7) = b } := ⟨_, by (conv => lhs; whnf; try dsimp only)⟩
@[reducible] noncomputable def sc3x7 : { b : PySem.Scope // sSc (stC 3 7) = b } := ⟨_, by (conv => lhs; whnf; try dsimp only)⟩
@[reducible] noncomputable def bo5 : { b : List PySem.Stmt // sBo (stT 5) = b } := ⟨_, by (conv => lhs; whnf; try dsimp only)⟩
@[reducible] noncomputable def pa5 : { b : PySem.Arguments // sPa (stT 5) = b } := ⟨_, by (conv => lhs; whnf; try dsimp only)⟩
@[reducible] noncomputable def sc5 : { b : PySem.Scope // sSc (stT 5) = b } := ⟨_, by (conv => lhs; whnf; try dsimp only)⟩
@[reducible] noncomputable def bo8 : { b : List PySem.Stmt // sBo (stT 8) = b } := ⟨_, by (conv => lhs; whnf; try dsimp only)⟩
@[reducible] noncomputable def pa8 : { b : PySem.Arguments // sPa (stT 8) = b } := ⟨_, by (conv => lhs; whnf; try dsimp only)⟩
@[reducible] noncomputable def sc8 : { b : PySem.Scope // sSc (stT 8) = b } := ⟨_, by (conv => lhs; whnf; try dsimp only)⟩
@[reducible] noncomputable def bo12x0 : { b : List PySem.Stmt // sBo (stC 12 0) = b } := ⟨_, by (conv => lhs; whnf; try dsimp only)⟩
@[reducible] noncomputable def pa12x0 : { b : PySem.Arguments // sPa (stC 12 0) = b } := ⟨_, by (conv => lhs; whnf; try dsimp only)⟩
@[reducible] noncomputable def sc12x0 : { b : PySem.Scope // sSc (stC 12 0) = b } := ⟨_, by (conv => lhs; whnf; try dsimp only)⟩
@[reducible] noncomputable def bo12x1 : { b : List PySem.Stmt // sBo (stC 12 1) = b } := ⟨_, by (conv => lhs; whnf; try dsimp only)⟩
@[reducible] noncomputable def pa12x1 : { b : PySem.Arguments // sPa (stC 12 1) = b } := ⟨_, by (conv => lhs; whnf; try dsimp only)⟩
@[reducible] noncomputable def sc12x1 : { b : PySem.Scope // sSc (stC 12 1) = b } := ⟨_, by (conv => lhs; whnf; try dsimp only)⟩
@[reducible] noncomputable def bo12x2 : { b : List PySem.Stmt // sBo (stC 12 2) = b } := ⟨_, by (conv => lhs; whnf; try dsimp only)⟩
@[reducible] noncomputable def pa12x2 : { b : PySem.Arguments // sPa (stC 12 2) = b } := ⟨_, by (conv => lhs; whnf; try dsimp only)⟩
@[reducible] noncomputable def sc12x2 : { b : PySem.Scope // sSc (stC 12 2) = b } := ⟨_, by (conv => lhs; whnf; try dsimp only)⟩
@[reducible] noncomputable def bo12x3 : { b : List PySem.Stmt // sBo (stC 12 3) = b } := ⟨_, by (conv => lhs; whnf; try dsimp only)⟩
@[reducible] noncomputable def pa12x3 : { b : PySem.Arguments // sPa (stC 12 3) = b } := ⟨_, by (conv => lhs; whnf; try dsimp only)⟩
@[reducible] noncomputable def sc12x3 : { b : PySem.Scope // sSc (stC 12 3) = b } := ⟨_, by (conv => lhs; whnf; try dsimp only)⟩
@[reducible] noncomputable def bo12x4 : { b : List PySem.Stmt // sBo (stC 12 4) = b } := ⟨_, by (conv => lhs; whnf; try dsimp only)⟩
@[reducible] noncomputable def pa12x4 : { b : PySem.Arguments // sPa (stC 12 4) = b } := ⟨_, by (conv => lhs; whnf; try dsimp only)⟩
@[reducible] noncomputable def sc12x4 : { b : PySem.Scope // sSc (stC 12 4) = b } := ⟨_, by (conv => lhs; whnf; try dsimp only)⟩
@[reducible] noncomputable def bo12x5 : { b : List PySem.Stmt // sBo (stC 12 5) = b } := ⟨_, by (conv => lhs; whnf; try dsimp only)⟩
@[reducible] noncomputable def pa12x5 : { b : PySem.Arguments // sPa (stC 12 5) = b } := ⟨_, by (conv => lhs; whnf; try dsimp only)⟩
@[reducible] noncomputable def sc12x5 : { b : PySem.Scope // sSc (stC 12 5) = b } := ⟨_, by (conv => lhs; whnf; try dsimp only)⟩
@[reducible] noncomputable def bo12x6 : { b : List PySem.Stmt // sBo (stC 12 6) = b } := ⟨_, by (conv => lhs; whnf; try dsimp only)⟩
@[reducible] noncomputable def pa12x6 : { b : PySem.Arguments // sPa (stC 12 6) = b } := ⟨_, by (conv => lhs; whnf; try dsimp only)⟩
@[reducible] noncomputable def sc12x6 : { b : PySem.Scope // sSc (stC 12 6) = b } := ⟨_, by (conv => lhs; whnf; try dsimp only)⟩
@[reducible] noncomputable def bo12x7 : { b : List PySem.Stmt // sBo (stC 12 7) = b } := ⟨_, by (conv => lhs; whnf; try dsimp only)⟩
@[reducible] noncomputable def pa12x7 : { b : PySem.Arguments // sPa (stC 12 7) = b } := ⟨_, by (conv => lhs; whnf; try dsimp only)⟩
@[reducible] noncomputable def sc12x7 : { b : PySem.Scope // sSc (stC 12 7) = b } := ⟨_, by (conv => lhs; whnf; try dsimp only)⟩
@[reducible] noncomputable def bo12x8 : { b : List PySem.Stmt // sBo (stC 12 8) = b } := ⟨_, by (conv => lhs; whnf; try dsimp only)⟩
@[reducible] noncomputable def pa12x8 : { b : PySem.Arguments // sPa (stC 12 8) = b } := ⟨_, by (conv => lhs; whnf; try dsimp only)⟩
@[reducible] noncomputable def sc12x8 : { b : PySem.Scope // sSc (stC 12 8) = b } := ⟨_, by (conv => lhs; whnf; try dsimp only)⟩
@[reducible] noncomputable def bo12x9 : { b : List PySem.Stmt // sBo (stC 12 9) = b } := ⟨_, by (conv => lhs; whnf; try dsimp only)⟩
@[reducible] noncomputable def pa12x9 : { b : PySem.Arguments // sPa (stC 12 9) = b } := ⟨_, by (conv => lhs; whnf; try dsimp only)⟩
@[reducible] noncomputable def sc12x9 : { b : PySem.Scope // sSc (stC 12 9) = b } := ⟨_, by (conv => lhs; whnf; try dsimp only)⟩
@[reducible] noncomputable def bo12x10 : { b : List PySem.Stmt // sBo (stC 12 10) = b } := ⟨_, by (conv => lhs; whnf; try dsimp only)⟩
@[reducible] noncomputable def pa12x10 : { b : PySem.Arguments // sPa (stC 12 10) = b } := ⟨_, by (conv => lhs; whnf; try dsimp only)⟩
@[reducible] noncomputable def sc12x10 : { b : PySem.Scope // sSc (stC 12 10) = b } := ⟨_, by (conv => lhs; whnf; try dsimp only)⟩
@[reducible] noncomputable def bo12x11 : { b : List PySem.Stmt // sBo (stC 12 11) = b } := ⟨_, by (conv => lhs; whnf; try dsimp only)⟩
@[reducible] noncomputable def pa12x11 : { b : PySem.Arguments // sPa (stC 12 11) = b } := ⟨_, by (conv => lhs; whnf; try dsimp only)⟩
@[reducible] noncomputable def sc12x11 : { b : PySem.Scope // sSc (stC 12 11) = b } := ⟨_, by (conv => lhs; whnf; try dsimp only)⟩
@[reducible] noncomputable def bo12x12 : { b : List PySem.Stmt // sBo (stC 12 12) = b } := ⟨_, by (conv => lhs; whnf; try dsimp only)⟩
@[reducible] noncomputable def pa12x12 : { b : PySem.Arguments // sPa (stC 12 12) = b } := ⟨_, by (conv => lhs; whnf; try dsimp only)⟩
@[reducible] noncomputable def sc12x12 : { b : PySem.Scope // sSc (stC 12 12) = b } := ⟨_, by (conv => lhs; whnf; try dsimp only)⟩
@[reducible] noncomputable def bo12x13 : { b : List PySem.Stmt // sBo (stC 12 13) = b } := ⟨_, by (conv => lhs; whnf; try dsimp only)⟩
@[reducible] noncomputable def pa12x13 : { b : PySem.Arguments // sPa (stC 12 13) = b } := ⟨_, by (conv => lhs; whnf; try dsimp only)⟩
@[reducible] noncomputable def sc12x13 : { b : PySem.Scope // sSc (stC 12 13) = b } := ⟨_, by (conv => lhs; whnf; try dsimp only)⟩
@[reducible] noncomputable def bo12x14 : { b : List PySem.Stmt // sBo (stC 12 14) = b } := ⟨_, by (conv => lhs; whnf; try dsimp only)⟩
@[reducible] noncomputable def pa12x14 : { b : PySem.Arguments // sPa (stC 12 14) = b } := ⟨_, by (conv => lhs; whnf; try dsimp only)⟩
@[reducible] noncomputable def sc12x14 : { b : PySem.Scope // sSc (stC 12 14) = b } := ⟨_, by (conv => lhs; whnf; try dsimp only)⟩
@[reducible] noncomputable def bo12x15 : { b : List PySem.Stmt // sBo (stC 12 15) = b } := ⟨_, by (conv => lhs; whnf; try dsimp only)⟩
@[reducible] noncomputable def pa12x15 : { b : PySem.Arguments // sPa (stC 12 15) = b } := ⟨_, by (conv => lhs; whnf; try dsimp only)⟩
@[reducible] noncomputable def sc12x15 : { b : PySem.Scope // sSc (stC 12 15) = b } := ⟨_, by (conv => lhs; whnf; try dsimp only)⟩
@[reducible] noncomputable def bo12x16 : { b : List PySem.Stmt // sBo (stC 12 16) = b } := ⟨_, by (conv => lhs; whnf; try dsimp only)⟩
@[reducible] noncomputable def pa12x16 : { b : PySem.Arguments // sPa (stC 12 16) = b } := ⟨_, by (conv => lhs; whnf; try dsimp only)⟩
@[reducible] noncomputable def sc12x16 : { b : PySem.Scope // sSc (stC 12 16) = b } := ⟨_, by (conv => lhs; whnf; try dsimp only)⟩
@[reducible] noncomputable def bo14 : { b : List PySem.Stmt // sBo (stT 14) = b } := ⟨_, by (conv => lhs; whnf; try dsimp only)⟩
@[reducible] noncomputable def pa14 : { b : PySem.Arguments // sPa (stT 14) = b } := ⟨_, by (conv => lhs; whnf; try dsimp only)⟩
@[reducible] noncomputable def sc14 : { b : PySem.Scope // sSc (stT 14) = b } := ⟨_, by (conv => lhs; whnf; try dsimp only)⟩
@[reducible] noncomputable def bo15 : { b : List PySem.Stmt // sBo (stT 15) = b } := ⟨_, by (conv => lhs; whnf; try dsimp only)⟩
@[reducible] noncomputable def pa15 : { b : PySem.Arguments // sPa (stT 15) = b } := ⟨_, by (conv => lhs; whnf; try dsimp only)⟩
@[reducible] noncomputable def sc15 : { b : PySem.Scope // sSc (stT 15) = b } := ⟨_, by (conv => lhs; whnf; try dsimp only)⟩
@[reducible] noncomputable def bo16 : { b : List PySem.Stmt // sBo (stT 16) = b } := ⟨_, by (conv => lhs; whnf; try dsimp only)⟩
@[reducible] noncomputable def pa16 : { b : PySem.Arguments // sPa (stT 16) = b } := ⟨_, by (conv => lhs; whnf; try dsimp only)⟩
@[reducible] noncomputable def sc16 : { b : PySem.Scope // sSc (stT 16) = b } := ⟨_, by (conv => lhs; whnf; try dsimp only)⟩
@[reducible] noncomputable def bo17 : { b : List PySem.Stmt // sBo (stT 17) = b } := ⟨_, by (conv => lhs; whnf; try dsimp only)⟩
@[reducible] noncomputable def pa17 : { b : PySem.Arguments // sPa (stT 17) = b } := ⟨_, by (conv => lhs; whnf; try dsimp only)⟩
@[reducible] noncomputable def sc17 : { b : PySem.Scope // sSc (stT 17) = b } := ⟨_, by (conv => lhs; whnf; try dsimp only)⟩
@[reducible] noncomputable def bo18 : { b : List PySem.Stmt // sBo (stT 18) = b } := ⟨_, by (conv => lhs; whnf; try dsimp only)⟩
@[reducible] noncomputable def pa18 : { b : PySem.Arguments // sPa (stT 18) = b } := ⟨_, by (conv => lhs; whnf; try dsimp only)⟩
@[reducible] noncomputable def sc18 : { b : PySem.Scope // sSc (stT 18) = b } := ⟨_, by (conv => lhs; whnf; try dsimp only)⟩
@[reducible] noncomputable def bo19 : { b : List PySem.Stmt // sBo (stT 19) = b } := ⟨_, by (conv => lhs; whnf; try dsimp only)⟩
@[reducible] noncomputable def pa19 : { b : PySem.Arguments // sPa (stT 19) = b } := ⟨_, by (conv => lhs; whnf; try dsimp only)⟩
@[reducible] noncomputable def sc19 : { b : PySem.Scope // sSc (stT 19) = b } := ⟨_, by (conv => lhs; whnf; try dsimp only)⟩
@[reducible] noncomputable def bo20 : { b : List PySem.Stmt // sBo (stT 20) = b } := ⟨_, by (conv => lhs; whnf; try dsimp only)⟩
@[reducible] noncomputable def pa20 : { b : PySem.Arguments // sPa (stT 20) = b } := ⟨_, by (conv => lhs; whnf; try dsimp only)⟩
@[reducible] noncomputable def sc20 : { b : PySem.Scope // sSc (stT 20) = b } := ⟨_, by (conv => lhs; whnf; try dsimp only)⟩
@[reducible] noncomputable def bo21 : { b : List PySem.Stmt // sBo (stT 21) = b } := ⟨_, by (conv => lhs; whnf; try dsimp only)⟩
@[reducible] noncomputable def pa21 : { b : PySem.Arguments // sPa (stT 21) = b } := ⟨_, by (conv => lhs; whnf; try dsimp only)⟩
@[reducible] noncomputable def sc21 : { b : PySem.Scope // sSc (stT 21) = b } := ⟨_, by (conv => lhs; whnf; try dsimp only)⟩
@[reducible] noncomputable def bo22 : { b : List PySem.Stmt // sBo (stT 22) = b } := ⟨_, by (conv => lhs; whnf; try dsimp only)⟩
@[reducible] noncomputable def pa22 : { b : PySem.Arguments // sPa (stT 22) = b } := ⟨_, by (conv => lhs; whnf; try dsimp only)⟩
@[reducible] noncomputable def sc22 : { b : PySem.Scope // sSc (stT 22) = b } := ⟨_, by (conv => lhs; whnf; try dsimp only)⟩
noncomputable def o0v0 (P : PySem.Params) : PySem.Obj := (PySem.Obj.mk (PySem.Value.type "dict") none (PySem.Data.dict ([(PySem.DictEntry.mk (PySem.PyData.keyHash P (PySem.Str.ofString "__name__")) (PySem.Value.str (PySem.Str.ofString "__name__") 1) (PySem.Value.str (PySem.Str.ofString "builtins") 160)), (PySem.DictEntry.mk (PySem.PyData.keyHash P (PySem.Str.ofString "__doc__")) (PySem.Value.str (PySem.Str.ofString "__doc__") 2) (PySem.Value.builtin "builtins.__doc__:str#opaque")), (PySem.DictEntry.mk (PySem.PyData.keyHash P (PySem.Str.ofString "__package__")) (PySem.Value.str (PySem.Str.ofString "__package__") 3) (PySem.Value.builtin "builtins.__package__:str#opaque")), (PySem.DictEntry.mk (PySem.PyData.keyHash P (PySem.Str.ofString "__loader__")) (PySem.Value.str (PySem.Str.ofString "__loader__") 4) (PySem.Value.builtin "builtins.__loader__:shared#opaque")), (PySem.DictEntry.mk (PySem.PyData.keyHash P (PySem.Str.ofString "__spec__")) (PySem.Value.str (PySem.Str.ofString "__spec__") 5) (PySem.Value.builtin "builtins.__spec__#opaque")), (PySem.DictEntry.mk (PySem.PyData.keyHash P (PySem.Str.ofString "__build_class__")) (PySem.Value.str (PySem.Str.ofString "__build_class__") 6) (PySem.Value.builtin "__build_class__")), (PySem.DictEntry.mk (PySem.PyData.keyHash P (PySem.Str.ofString "__import__")) (PySem.Value.str (PySem.Str.ofString "__import__") 7) (PySem.Value.builtin "__import__")), (PySem.DictEntry.mk (PySem.PyData.keyHash P (PySem.Str.ofString "abs")) (PySem.Value.str (PySem.Str.ofString "abs") 8) (PySem.Value.builtin "abs")), (PySem.DictEntry.mk (PySem.PyData.keyHash P (PySem.Str.ofString "all")) (PySem.Value.str (PySem.Str.ofString "all") 9) (PySem.Value.builtin "all")), (PySem.DictEntry.mk (PySem.PyData.keyHash P (PySem.Str.ofString "any")) (PySem.Value.str (PySem.Str.ofString "any") 10) (PySem.Value.builtin "any")), (PySem.DictEntry.mk (PySem.PyData.keyHash P (PySem.Str.ofString "ascii")) (PySem.Value.str (PySem.Str.ofString "ascii") 11) (PySem.Value.builtin "ascii")), (PySem.DictEntry.mk (PySem.PyData.keyHash P (PySem.Str.ofString "bin")) (PySem.Value.str (PySem.Str.ofString "bin") 12) (PySem.Value.builtin "bin")), (PySem.DictEntry.mk (PySem.PyData.keyHash P (PySem.Str.ofString "breakpoint")) (PySem.Value.str (PySem.Str.ofString "breakpoint") 13) (PySem.Value.builtin "breakpoint")), (PySem.DictEntry.mk (PySem.PyData.keyHash P (PySem.Str.ofString "callable")) (PySem.Value.str (PySem.Str.ofString "callable") 14) (PySem.Value.builtin "callable")), (PySem.DictEntry.mk (PySem.PyData.keyHash P (PySem.Str.ofString "chr")) (PySem.Value.str (PySem.Str.ofString "chr") 15) (PySem.Value.builtin "chr")), (PySem.DictEntry.mk (PySem.PyData.keyHash P (PySem.Str.ofString "compile")) (PySem.Value.str (PySem.Str.ofString "compile") 16) (PySem.Value.builtin "compile")), (PySem.DictEntry.mk (PySem.PyData.keyHash P (PySem.Str.ofString "delattr")) (PySem.Value.str (PySem.Str.ofString "delattr") 17) (PySem.Value.builtin "delattr")), (PySem.DictEntry.mk (PySem.PyData.keyHash P (PySem.Str.ofString "dir")) (PySem.Value.str (PySem.Str.ofString "dir") 18) (PySem.Value.builtin "dir")), (PySem.DictEntry.mk (PySem.PyData.keyHash P (PySem.Str.ofString "divmod")) (PySem.Value.str (PySem.Str.ofString "divmod") 19) (PySem.Value.builtin "divmod")), (PySem.DictEntry.mk (PySem.PyData.keyHash P (PySem.Str.ofString "eval")) (PySem.Value.str (PySem.Str.ofString "eval") 20) (PySem.Value.builtin "eval")), (PySem.DictEntry.mk (PySem.PyData.keyHash P (PySem.Str.ofString "exec")) (PySem.Value.str (PySem.Str.ofString "exec") 21) (PySem.Value.builtin "exec")), (PySem.DictEntry.mk (PySem.PyData.keyHash P (PySem.Str.ofString "format")) (PySem.Value.str (PySem.Str.ofString "format") 22) (PySem.Value.builtin "format")), (PySem.DictEntry.mk (PySem.PyData.keyHash P (PySem.Str.ofString "getattr")) (PySem.Value.str (PySem.Str.ofString "getattr") 23) (PySem.Value.builtin "getattr")), (PySem.DictEntry.mk (PySem.PyData.keyHash P (PySem.Str.ofString "globals")) (PySem.Value.str (PySem.Str.ofString "globals") 24) (PySem.Value.builtin "globals")), (PySem.DictEntry.mk (PySem.PyData.keyHash P (PySem.Str.ofString "hasattr")) (PySem.Value.str (PySem.Str.ofString "hasattr") 25) (PySem.Value.builtin "hasattr")), (PySem.DictEntry.mk (PySem.PyData.keyHash P (PySem.Str.ofString "hash")) (PySem.Value.str (PySem.Str.ofString "hash") 26) (PySem.Value.builtin "hash")), (PySem.DictEntry.mk (PySem.PyData.keyHash P (PySem.Str.ofString "hex")) (PySem.Value.str (PySem.Str.ofString "hex") 27) (PySem.Value.builtin "hex")), (PySem.DictEntry.mk (PySem.PyData.keyHash P (PySem.Str.ofString "id")) (PySem.Value.str (PySem.Str.ofString "id") 28) (PySem.Value.builtin "id")), (PySem.DictEntry.mk (PySem.PyData.keyHash P (PySem.Str.ofString "input")) (PySem.Value.str (PySem.Str.ofString "input") 29) (PySem.Value.builtin "input")), (PySem.DictEntry.mk (PySem.PyData.keyHash P (PySem.Str.ofString "isinstance")) (PySem.Value.str (PySem.Str.ofString "isinstance") 30) (PySem.Value.builtin "isinstance")), (PySem.DictEntry.mk (PySem.PyData.keyHash P (PySem.Str.ofString "issubclass")) (PySem.Value.str (PySem.Str.ofString "issubclass") 31) (PySem.Value.builtin "issubclass")), (PySem.DictEntry.mk (PySem.PyData.keyHash P (PySem.Str.ofString "iter")) (PySem.Value.str (PySem.Str.ofString "iter") 32) (PySem.Value.builtin "iter")), (PySem.DictEntry.mk (PySem.PyData.keyHash P (PySem.Str.ofString "aiter")) (PySem.Value.str (PySem.Str.ofString "aiter") 33) (PySem.Value.builtin "aiter")), (PySem.DictEntry.mk (PySem.PyData.keyHash P (PySem.Str.ofString "len")) (PySem.Value.str (PySem.Str.ofString "len") 34) (PySem.Value.builtin "len")), (PySem.DictEntry.mk (PySem.PyData.keyHash P (PySem.Str.ofString "locals")) (PySem.Value.str (PySem.Str.ofString "locals") 35) (PySem.Value.builtin "locals")), (PySem.DictEntry.mk (PySem.PyData.keyHash P (PySem.Str.ofString "max")) (PySem.Value.str (PySem.Str.ofString "max") 36) (PySem.Value.builtin "max")), (PySem.DictEntry.mk (PySem.PyData.keyHash P (PySem.Str.ofString "min")) (PySem.Value.str (PySem.Str.ofString "min") 37) (PySem.Value.builtin "min")), (PySem.DictEntry.mk (PySem.PyData.keyHash P (PySem.Str.ofString "next")) (PySem.Value.str (PySem.Str.ofString "next") 38) (PySem.Value.builtin "next")), (PySem.DictEntry.mk (PySem.PyData.keyHash P (PySem.Str.ofString "anext")) (PySem.Value.str (PySem.Str.ofString "anext") 39) (PySem.Value.builtin "anext")), (PySem.DictEntry.mk (PySem.PyData.keyHash P (PySem.Str.ofString "oct")) (PySem.Value.str (PySem.Str.ofString "oct") 40) (PySem.Value.builtin "oct")), (PySem.DictEntry.mk (PySem.PyData.keyHash P (PySem.Str.ofString "ord")) (PySem.Value.str (PySem.Str.ofString "ord") 41) (PySem.Value.builtin "ord")), (PySem.DictEntry.mk (PySem.PyData.keyHash P (PySem.Str.ofString "pow")) (PySem.Value.str (PySem.Str.ofString "pow") 42) (PySem.Value.builtin "pow")), (PySem.DictEntry.mk (PySem.PyData.keyHash P (PySem.Str.ofString "print")) (PySem.Value.str (PySem.Str.ofString "print") 43) (PySem.Value.builtin "print")), (PySem.DictEntry.mk (PySem.PyData.keyHash P (PySem.Str.ofString "repr")) (PySem.Value.str (PySem.Str.ofString "repr") 44) (PySem.Value.builtin "repr")), (PySem.DictEntry.mk (PySem.PyData.keyHash P (PySem.Str.ofString "round")) (PySem.Value.str (PySem.Str.ofString "round") 45) (PySem.Value.builtin "round")), (PySem.DictEntry.mk (PySem.PyData.keyHash P (PySem.Str.ofString "setattr")) (PySem.Value.str (PySem.Str.ofString "setattr") 46) (PySem.Value.builtin "setattr")), (PySem.DictEntry.mk (PySem.PyData.keyHash P (PySem.Str.ofString "sorted")) (PySem.Value.str (PySem.Str.ofString "sorted") 47) (PySem.Value.builtin "sorted")), (PySem.DictEntry.mk (PySem.PyData.keyHash P (PySem.Str.ofString "sum")) (PySem.Value.str (PySem.Str.ofString "sum") 48) (PySem.Value.builtin "sum")), (PySem.DictEntry.mk (PySem.PyData.keyHash P (PySem.Str.ofString "vars")) (PySem.Value.str (PySem.Str.ofString "vars") 49) (PySem.Value.builtin "vars")), (PySem.DictEntry.mk (PySem.PyData.keyHash P (PySem.Str.ofString "None")) (PySem.Value.str (PySem.Str.ofString "None") 50) PySem.Value.none), (PySem.DictEntry.mk (PySem.PyData.keyHash P (PySem.Str.ofString "Ellipsis")) (PySem.Value.str (PySem.Str.ofString "Ellipsis") 51) PySem.Value.ellipsis), (PySem.DictEntry.mk (PySem.PyData.keyHash P (PySem.Str.ofString "NotImplemented")) (PySem.Value.str (PySem.Str.ofString "NotImplemented") 52) PySem.Value.notImplemented), (PySem.DictEntry.mk (PySem.PyData.keyHash P (PySem.Str.ofString "False")) (PySem.Value.str (PySem.Str.ofString "False") 53) (PySem.Value.bool Bool.false)), (PySem.DictEntry.mk (PySem.PyData.keyHash P (PySem.Str.ofString "True")) (PySem.Value.str (PySem.Str.ofString "True") 54) (PySem.Value.bool Bool.true)), (PySem.DictEntry.mk (PySem.PyData.keyHash P (PySem.Str.ofString "bool")) (PySem.Value.str (PySem.Str.ofString "bool") 55) (PySem.Value.type "bool")), (PySem.DictEntry.mk (PySem.PyData.keyHash P (PySem.Str.ofString "memoryview")) (PySem.Value.str (PySem.Str.ofString "memoryview") 56) (PySem.Value.type "memoryview")), (PySem.DictEntry.mk (PySem.PyData.keyHash P (PySem.Str.ofString "bytearray")) (PySem.Value.str (PySem.Str.ofString "bytearray") 57) (PySem.Value.type "bytearray")), (PySem.DictEntry.mk (PySem.PyData.keyHash P (PySem.Str.ofString "bytes")) (PySem.Value.str (PySem.Str.ofString "bytes") 58) (PySem.Value.type "bytes")), (PySem.DictEntry.mk (PySem.PyData.keyHash P (PySem.Str.ofString "classmethod")) (PySem.Value.str (PySem.Str.ofString "classmethod") 59) (PySem.Value.type "classmethod")), (PySem.DictEntry.mk (PySem.PyData.keyHash P (PySem.Str.ofString "complex")) (PySem.Value.str (PySem.Str.ofString "complex") 60) (PySem.Value.type "complex")), (PySem.DictEntry.mk (PySem.PyData.keyHash P (PySem.Str.ofString "dict")) (PySem.Value.str (PySem.Str.ofString "dict") 61) (PySem.Value.type "dict")), (PySem.DictEntry.mk (PySem.PyData.keyHash P (PySem.Str.ofString "enumerate")) (PySem.Value.str (PySem.Str.ofString "enumerate") 62) (PySem.Value.type "enumerate")), (PySem.DictEntry.mk (PySem.PyData.keyHash P (PySem.Str.ofString "filter")) (PySem.Value.str (PySem.Str.ofString "filter") 63) (PySem.Value.type "filter")), (PySem.DictEntry.mk (PySem.PyData.keyHash P (PySem.Str.ofString "float")) (PySem.Value.str (PySem.Str.ofString "float") 64) (PySem.Value.type "float")), (PySem.DictEntry.mk (PySem.PyData.keyHash P (PySem.Str.ofString "frozenset")) (PySem.Value.str (PySem.Str.ofString "frozenset") 65) (PySem.Value.type "frozenset")), (PySem.DictEntry.mk (PySem.PyData.keyHash P (PySem.Str.ofString "property")) (PySem.Value.str (PySem.Str.ofString "property") 66) (PySem.Value.type "property")), (PySem.DictEntry.mk (PySem.PyData.keyHash P (PySem.Str.ofString "int")) (PySem.Value.str (PySem.Str.ofString "int") 67) (PySem.Value.type "int")), (PySem.DictEntry.mk (PySem.PyData.keyHash P (PySem.Str.ofString "list")) (PySem.Value.str (PySem.Str.ofString "list") 68) (PySem.Value.type "list")), (PySem.DictEntry.mk (PySem.PyData.keyHash P (PySem.Str.ofString "map")) (PySem.Value.str (PySem.Str.ofString "map") 69) (PySem.Value.type "map")), (PySem.DictEntry.mk (PySem.PyData.keyHash P (PySem.Str.ofString "object")) (PySem.Value.str (PySem.Str.ofString "object") 70) (PySem.Value.type "object")), (PySem.DictEntry.mk (PySem.PyData.keyHash P (PySem.Str.ofString "range")) (PySem.Value.str (PySem.Str.ofString "range") 71) (PySem.Value.type "range")), (PySem.DictEntry.mk (PySem.PyData.keyHash P (PySem.Str.ofString "reversed")) (PySem.Value.str (PySem.Str.ofString "reversed") 72) (PySem.Value.type "reversed")), (PySem.DictEntry.mk (PySem.PyData.keyHash P (PySem.Str.ofString "set")) (PySem.Value.str (PySem.Str.ofString "set") 73) (PySem.Value.type "set")), (PySem.DictEntry.mk (PySem.PyData.keyHash P (PySem.Str.ofString "slice")) (PySem.Value.str (PySem.Str.ofString "slice") 74) (PySem.Value.type "slice")), (PySem.DictEntry.mk (PySem.PyData.keyHash P (PySem.Str.ofString "staticmethod")) (PySem.Value.str (PySem.Str.ofString "staticmethod") 75) (PySem.Value.type "staticmethod")), (PySem.DictEntry.mk (PySem.PyData.keyHash P (PySem.Str.ofString "str")) (PySem.Value.str (PySem.Str.ofString "str") 76) (PySem.Value.type "str")), (PySem.DictEntry.mk (PySem.PyData.keyHash P (PySem.Str.ofString "super")) (PySem.Value.str (PySem.Str.ofString "super") 77) (PySem.Value.type "super")), (PySem.DictEntry.mk (PySem.PyData.keyHash P (PySem.Str.ofString "tuple")) (PySem.Value.str (PySem.Str.ofString "tuple") 78) (PySem.Value.type "tuple")), (PySem.DictEntry.mk (PySem.PyData.keyHash P (PySem.Str.ofString "type")) (PySem.Value.str (PySem.Str.ofString "type") 79) (PySem.Value.type "type")), (PySem.DictEntry.mk (PySem.PyData.keyHash P (PySem.Str.ofString "zip")) (PySem.Value.str (PySem.Str.ofString "zip") 80) (PySem.Value.type "zip")), (PySem.DictEntry.mk (PySem.PyData.keyHash P (PySem.Str.ofString "__debug__")) (PySem.Value.str (PySem.Str.ofString "__debug__") 81) (PySem.Value.bool Bool.true)), (PySem.DictEntry.mk (PySem.PyData.keyHash P (PySem.Str.ofString "BaseException")) (PySem.Value.str (PySem.Str.ofString "BaseException") 82) (PySem.Value.type "BaseException")), (PySem.DictEntry.mk (PySem.PyData.keyHash P (PySem.Str.ofString "BaseExceptionGroup")) (PySem.Value.str (PySem.Str.ofString "BaseExceptionGroup") 83) (PySem.Value.type "BaseExceptionGroup")), (PySem.DictEntry.mk (PySem.PyData.keyHash P (PySem.Str.ofString "Exception")) (PySem.Value.str (PySem.Str.ofString "Exception") 84) (PySem.Value.type "Exception")), (PySem.DictEntry.mk (PySem.PyData.keyHash P (PySem.Str.ofString "GeneratorExit")) (PySem.Value.str (PySem.Str.ofString "GeneratorExit") 85) (PySem.Value.type "GeneratorExit")), (PySem.DictEntry.mk (PySem.PyData.keyHash P (PySem.Str.ofString "KeyboardInterrupt")) (PySem.Value.str (PySem.Str.ofString "KeyboardInterrupt") 86) (PySem.Value.type "KeyboardInterrupt")), (PySem.DictEntry.mk (PySem.PyData.keyHash P (PySem.Str.ofString "SystemExit")) (PySem.Value.str (PySem.Str.ofString "SystemExit") 87) (PySem.Value.type "SystemExit")), (PySem.DictEntry.mk (PySem.PyData.keyHash P (PySem.Str.ofString "ArithmeticError")) (PySem.Value.str (PySem.Str.ofString "ArithmeticError") 88) (PySem.Value.type "ArithmeticError")), (PySem.DictEntry.mk (PySem.PyData.keyHash P (PySem.Str.ofString "AssertionError")) (PySem.Value.str (PySem.Str.ofString "AssertionError") 89) (PySem.Value.type "AssertionError")), (PySem.DictEntry.mk (PySem.PyData.keyHash P (PySem.Str.ofString "AttributeError")) (PySem.Value.str (PySem.Str.ofString "AttributeError") 90) (PySem.Value.type "AttributeError")), (PySem.DictEntry.mk (PySem.PyData.keyHash P (PySem.Str.ofString "BufferError")) (PySem.Value.str (PySem.Str.ofString "BufferError") 91) (PySem.Value.type "BufferError")), (PySem.DictEntry.mk (PySem.PyData.keyHash P (PySem.Str.ofString "EOFError")) (PySem.Value.str (PySem.Str.ofString "EOFError") 92) (PySem.Value.type "EOFError")), (PySem.DictEntry.mk (PySem.PyData.keyHash P (PySem.Str.ofString "ImportError")) (PySem.Value.str (PySem.Str.ofString "ImportError") 93) (PySem.Value.type "ImportError")), (PySem.DictEntry.mk (PySem.PyData.keyHash P (PySem.Str.ofString "LookupError")) (PySem.Value.str (PySem.Str.ofString "LookupError") 94) (PySem.Value.type "LookupError")), (PySem.DictEntry.mk (PySem.PyData.keyHash P (PySem.Str.ofString "MemoryError")) (PySem.Value.str (PySem.Str.ofString "MemoryError") 95) (PySem.Value.type "MemoryError")), (PySem.DictEntry.mk (PySem.PyData.keyHash P (PySem.Str.ofString "NameError")) (PySem.Value.str (PySem.Str.ofString "NameError") 96) (PySem.Value.type "NameError")), (PySem.DictEntry.mk (PySem.PyData.keyHash P (PySem.Str.ofString "OSError")) (PySem.Value.str (PySem.Str.ofString "OSError") 97) (PySem.Value.type "OSError")), (PySem.DictEntry.mk (PySem.PyData.keyHash P (PySem.Str.ofString "ReferenceError")) (PySem.Value.str (PySem.Str.ofString "ReferenceError") 98) (PySem.Value.type "ReferenceError")), (PySem.DictEntry.mk (PySem.PyData.keyHash P (PySem.Str.ofString "RuntimeError")) (PySem.Value.str (PySem.Str.ofString "RuntimeError") 99) (PySem.Value.type "RuntimeError")), (PySem.DictEntry.mk (PySem.PyData.keyHash P (PySem.Str.ofString "StopAsyncIteration")) (PySem.Value.str (PySem.Str.ofString "StopAsyncIteration") 100) (PySem.Value.type "StopAsyncIteration")), (PySem.DictEntry.mk (PySem.PyData.keyHash P (PySem.Str.ofString "StopIteration")) (PySem.Value.str (PySem.Str.ofString "StopIteration") 101) (PySem.Value.type "StopIteration")), (PySem.DictEntry.mk (PySem.PyData.keyHash P (PySem.Str.ofString "SyntaxError")) (PySem.Value.str (PySem.Str.ofString "SyntaxError") 102) (PySem.Value.type "SyntaxError")), (PySem.DictEntry.mk (PySem.PyData.keyHash P (PySem.Str.ofString "SystemError")) (PySem.Value.str (PySem.Str.ofString "SystemError") 103) (PySem.Value.type "SystemError")), (PySem.DictEntry.mk (PySem.PyData.keyHash P (PySem.Str.ofString "TypeError")) (PySem.Value.str (PySem.Str.ofString "TypeError") 104) (PySem.Value.type "TypeError")), (PySem.DictEntry.mk (PySem.PyData.keyHash P (PySem.Str.ofString "ValueError")) (PySem.Value.str (PySem.Str.ofString "ValueError") 105) (PySem.Value.type "ValueError")), (PySem.DictEntry.mk (PySem.PyData.keyHash P (PySem.Str.ofString "Warning")) (PySem.Value.str (PySem.Str.ofString "Warning") 106) (PySem.Value.type "Warning")), (PySem.DictEntry.mk (PySem.PyData.keyHash P (PySem.Str.ofString "FloatingPointError")) (PySem.Value.str (PySem.Str.ofString "FloatingPointError") 107) (PySem.Value.type "FloatingPointError")), (PySem.DictEntry.mk (PySem.PyData.keyHash P (PySem.Str.ofString "OverflowError")) (PySem.Value.str (PySem.Str.ofString "OverflowError") 108) (PySem.Value.type "OverflowError")), (PySem.DictEntry.mk (PySem.PyData.keyHash P (PySem.Str.ofString "ZeroDivisionError")) (PySem.Value.str (PySem.Str.ofString "ZeroDivisionError") 109) (PySem.Value.type "ZeroDivisionError")), (PySem.DictEntry.mk (PySem.PyData.keyHash P (PySem.Str.ofString "BytesWarning")) (PySem.Value.str (PySem.Str.ofString "BytesWarning") 110) (PySem.Value.type "BytesWarning")), (PySem.DictEntry.mk (PySem.PyData.keyHash P (PySem.Str.ofString "DeprecationWarning")) (PySem.Value.str (PySem.Str.ofString "DeprecationWarning") 111) (PySem.Value.type "DeprecationWarning")), (PySem.DictEntry.mk (PySem.PyData.keyHash P (PySem.Str.ofString "EncodingWarning")) (PySem.Value.str (PySem.Str.ofString "EncodingWarning") 112) (PySem.Value.type "EncodingWarning")), (PySem.DictEntry.mk (PySem.PyData.keyHash P (PySem.Str.ofString "FutureWarning")) (PySem.Value.str (PySem.Str.ofString "FutureWarning") 113) (PySem.Value.type "FutureWarning")), (PySem.DictEntry.mk (PySem.PyData.keyHash P (PySem.Str.ofString "ImportWarning")) (PySem.Value.str (PySem.Str.ofString "ImportWarning") 114) (PySem.Value.type "ImportWarning")), (PySem.DictEntry.mk (PySem.PyData.keyHash P (PySem.Str.ofString "PendingDeprecationWarning")) (PySem.Value.str (PySem.Str.ofString "PendingDeprecationWarning") 115) (PySem.Value.type "PendingDeprecationWarning")), (PySem.DictEntry.mk (PySem.PyData.keyHash P (PySem.Str.ofString "ResourceWarning")) (PySem.Value.str (PySem.Str.ofString "ResourceWarning") 116) (PySem.Value.type "ResourceWarning")), (PySem.DictEntry.mk (PySem.PyData.keyHash P (PySem.Str.ofString "RuntimeWarning")) (PySem.Value.str (PySem.Str.ofString "RuntimeWarning") 117) (PySem.Value.type "RuntimeWarning")), (PySem.DictEntry.mk (PySem.PyData.keyHash P (PySem.Str.ofString "SyntaxWarning")) (PySem.Value.str (PySem.Str.ofString "SyntaxWarning") 118) (PySem.Value.type "SyntaxWarning")), (PySem.DictEntry.mk (PySem.PyData.keyHash P (PySem.Str.ofString "UnicodeWarning")) (PySem.Value.str (PySem.Str.ofString "UnicodeWarning") 119) (PySem.Value.type "UnicodeWarning")), (PySem.DictEntry.mk (PySem.PyData.keyHash P (PySem.Str.ofString "UserWarning")) (PySem.Value.str (PySem.Str.ofString "UserWarning") 120) (PySem.Value.type "UserWarning")), (PySem.DictEntry.mk (PySem.PyData.keyHash P (PySem.Str.ofString "BlockingIOError")) (PySem.Value.str (PySem.Str.ofString "BlockingIOError") 121) (PySem.Value.type "BlockingIOError")), (PySem.DictEntry.mk (PySem.PyData.keyHash P (PySem.Str.ofString "ChildProcessError")) (PySem.Value.str (PySem.Str.ofString "ChildProcessError") 122) (PySem.Value.type "ChildProcessError")), (PySem.DictEntry.mk (PySem.PyData.keyHash P (PySem.Str.ofString "ConnectionError")) (PySem.Value.str (PySem.Str.ofString "ConnectionError") 123) (PySem.Value.type "ConnectionError")), (PySem.DictEntry.mk (PySem.PyData.keyHash P (PySem.Str.ofString "FileExistsError")) (PySem.Value.str (PySem.Str.ofString "FileExistsError") 124) (PySem.Value.type "FileExistsError")), (PySem.DictEntry.mk (PySem.PyData.keyHash P (PySem.Str.ofString "FileNotFoundError")) (PySem.Value.str (PySem.Str.ofString "FileNotFoundError") 125) (PySem.Value.type "FileNotFoundError")), (PySem.DictEntry.mk (PySem.PyData.keyHash P (PySem.Str.ofString "InterruptedError")) (PySem.Value.str (PySem.Str.ofString "InterruptedError") 126) (PySem.Value.type "InterruptedError")), (PySem.DictEntry.mk (PySem.PyData.keyHash P (PySem.Str.ofString "IsADirectoryError")) (PySem.Value.str (PySem.Str.ofString "IsADirectoryError") 127) (PySem.Value.type "IsADirectoryError")), (PySem.DictEntry.mk (PySem.PyData.keyHash P (PySem.Str.ofString "NotADirectoryError")) (PySem.Value.str (PySem.Str.ofString "NotADirectoryError") 128) (PySem.Value.type "NotADirectoryError")), (PySem.DictEntry.mk (PySem.PyData.keyHash P (PySem.Str.ofString "PermissionError")) (PySem.Value.str (PySem.Str.ofString "PermissionError") 129) (PySem.Value.type "PermissionError")), (PySem.DictEntry.mk (PySem.PyData.keyHash P (PySem.Str.ofString "ProcessLookupError")) (PySem.Value.str (PySem.Str.ofString "ProcessLookupError") 130) (PySem.Value.type "ProcessLookupError")), (PySem.DictEntry.mk (PySem.PyData.keyHash P (PySem.Str.ofString "TimeoutError")) (PySem.Value.str (PySem.Str.ofString "TimeoutError") 131) (PySem.Value.type "TimeoutError")), (PySem.DictEntry.mk (PySem.PyData.keyHash P (PySem.Str.ofString "IndentationError")) (PySem.Value.str (PySem.Str.ofString "IndentationError") 132) (PySem.Value.type "IndentationError")), (PySem.DictEntry.mk (PySem.PyData.keyHash P (PySem.Str.ofString "_IncompleteInputError")) (PySem.Value.str (PySem.Str.ofString "_IncompleteInputError") 133) (PySem.Value.type "_IncompleteInputError")), (PySem.DictEntry.mk (PySem.PyData.keyHash P (PySem.Str.ofString "IndexError")) (PySem.Value.str (PySem.Str.ofString "IndexError") 134) (PySem.Value.type "IndexError")), (PySem.DictEntry.mk (PySem.PyData.keyHash P (PySem.Str.ofString "KeyError")) (PySem.Value.str (PySem.Str.ofString "KeyError") 135) (PySem.Value.type "KeyError")), (PySem.DictEntry.mk (PySem.PyData.keyHash P (PySem.Str.ofString "ModuleNotFoundError")) (PySem.Value.str (PySem.Str.ofString "ModuleNotFoundError") 136) (PySem.Value.type "ModuleNotFoundError")), (PySem.DictEntry.mk (PySem.PyData.keyHash P (PySem.Str.ofString "NotImplementedError")) (PySem.Value.str (PySem.Str.ofString "NotImplementedError") 137) (PySem.Value.type "NotImplementedError")), (PySem.DictEntry.mk (PySem.PyData.keyHash P (PySem.Str.ofString "PythonFinalizationError")) (PySem.Value.str (PySem.Str.ofString "PythonFinalizationError") 138) (PySem.Value.type "PythonFinalizationError")), (PySem.DictEntry.mk (PySem.PyData.keyHash P (PySem.Str.ofString "RecursionError")) (PySem.Value.str (PySem.Str.ofString "RecursionError") 139) (PySem.Value.type "RecursionError")), (PySem.DictEntry.mk (PySem.PyData.keyHash P (PySem.Str.ofString "UnboundLocalError")) (PySem.Value.str (PySem.Str.ofString "UnboundLocalError") 140) (PySem.Value.type "UnboundLocalError")), (PySem.DictEntry.mk (PySem.PyData.keyHash P (PySem.Str.ofString "UnicodeError")) (PySem.Value.str (PySem.Str.ofString "UnicodeError") 141) (PySem.Value.type "UnicodeError")), (PySem.DictEntry.mk (PySem.PyData.keyHash P (PySem.Str.ofString "BrokenPipeError")) (PySem.Value.str (PySem.Str.ofString "BrokenPipeError") 142) (PySem.Value.type "BrokenPipeError")), (PySem.DictEntry.mk (PySem.PyData.keyHash P (PySem.Str.ofString "ConnectionAbortedError")) (PySem.Value.str (PySem.Str.ofString "ConnectionAbortedError") 143) (PySem.Value.type "ConnectionAbortedError")), (PySem.DictEntry.mk (PySem.PyData.keyHash P (PySem.Str.ofString "ConnectionRefusedError")) (PySem.Value.str (PySem.Str.ofString "ConnectionRefusedError") 144) (PySem.Value.type "ConnectionRefusedError")), (PySem.DictEntry.mk (PySem.PyData.keyHash P (PySem.Str.ofString "ConnectionResetError")) (PySem.Value.str (PySem.Str.ofString "ConnectionResetError") 145) (PySem.Value.type "ConnectionResetError")), (PySem.DictEntry.mk (PySem.PyData.keyHash P (PySem.Str.ofString "TabError")) (PySem.Value.str (PySem.Str.ofString "TabError") 146) (PySem.Value.type "TabError")), (PySem.DictEntry.mk (PySem.PyData.keyHash P (PySem.Str.ofString "UnicodeDecodeError")) (PySem.Value.str (PySem.Str.ofString "UnicodeDecodeError") 147) (PySem.Value.type "UnicodeDecodeError")), (PySem.DictEntry.mk (PySem.PyData.keyHash P (PySem.Str.ofString "UnicodeEncodeError")) (PySem.Value.str (PySem.Str.ofString "UnicodeEncodeError") 148) (PySem.Value.type "UnicodeEncodeError")), (PySem.DictEntry.mk (PySem.PyData.keyHash P (PySem.Str.ofString "UnicodeTranslateError")) (PySem.Value.str (PySem.Str.ofString "UnicodeTranslateError") 149) (PySem.Value.type "UnicodeTranslateError")), (PySem.DictEntry.mk (PySem.PyData.keyHash P (PySem.Str.ofString "ExceptionGroup")) (PySem.Value.str (PySem.Str.ofString "ExceptionGroup") 150) (PySem.Value.type "ExceptionGroup")), (PySem.DictEntry.mk (PySem.PyData.keyHash P (PySem.Str.ofString "EnvironmentError")) (PySem.Value.str (PySem.Str.ofString "EnvironmentError") 151) (PySem.Value.type "OSError")), (PySem.DictEntry.mk (PySem.PyData.keyHash P (PySem.Str.ofString "IOError")) (PySem.Value.str (PySem.Str.ofString "IOError") 152) (PySem.Value.type "OSError")), (PySem.DictEntry.mk (PySem.PyData.keyHash P (PySem.Str.ofString "open")) (PySem.Value.str (PySem.Str.ofString "open") 153) (PySem.Value.builtin "open")), (PySem.DictEntry.mk (PySem.PyData.keyHash P (PySem.Str.ofString "quit")) (PySem.Value.str (PySem.Str.ofString "quit") 154) (PySem.Value.builtin "builtins.quit#opaque")), (PySem.DictEntry.mk (PySem.PyData.keyHash P (PySem.Str.ofString "exit")) (PySem.Value.str (PySem.Str.ofString "exit") 155) (PySem.Value.builtin "builtins.exit#opaque")), (PySem.DictEntry.mk (PySem.PyData.keyHash P (PySem.Str.ofString "copyright")) (PySem.Value.str (PySem.Str.ofString "copyright") 156) (PySem.Value.builtin "builtins.copyright#opaque")), (PySem.DictEntry.mk (PySem.PyData.keyHash P (PySem.Str.ofString "credits")) (PySem.Value.str (PySem.Str.ofString "credits") 157) (PySem.Value.builtin "builtins.credits#opaque")), (PySem.DictEntry.mk (PySem.PyData.keyHash P (PySem.Str.ofString "license")) (PySem.Value.str (PySem.Str.ofString "license") 158) (PySem.Value.builtin "builtins.license#opaque")), (PySem.DictEntry.mk (PySem.PyData.keyHash P (PySem.Str.ofString "help")) (PySem.Value.str (PySem.Str.ofString "help") 159) (PySem.Value.builtin "builtins.help#opaque"))].toArray) 159) ([].toArray))
noncomputable def o1v0 (P : PySem.Params) : PySem.Obj := (PySem.Obj.mk (PySem.Value.type "dict") none (PySem.Data.dict ([(PySem.DictEntry.mk (PySem.PyData.keyHash P (PySem.Str.ofString "builtins")) (PySem.Value.str (PySem.Str.ofString "builtins") 162) (PySem.Value.ref 4)), (PySem.DictEntry.mk (PySem.PyData.keyHash P (PySem.Str.ofString "__main__")) (PySem.Value.str (PySem.Str.ofString "__main__") 163) (PySem.Value.ref 5)), (PySem.DictEntry.mk (PySem.PyData.keyHash P (PySem.Str.ofString "_sre")) (PySem.Value.str (PySem.Str.ofString "_sre") 244) (PySem.Value.ref 12))].toArray) 3) ([].toArray))
noncomputable def o2v0 (P : PySem.Params) : PySem.Obj := (PySem.Obj.mk PySem.Value.none none (PySem.Data.dict ([(PySem.DictEntry.mk (PySem.PyData.keyHash P (PySem.Str.ofString "\x69mport.loaded._sre")) (PySem.Value.str (PySem.Str.ofString "\x69mport.loaded._sre") 183) (PySem.Value.bool Bool.true)), (PySem.DictEntry.mk (PySem.PyData.keyHash P (PySem.Str.ofString "class._frozen_importlib.BuiltinImporter")) (PySem.Value.str (PySem.Str.ofString "class._frozen_importlib.BuiltinImporter") 185) (PySem.Value.ref 14)), (PySem.DictEntry.mk (PySem.PyData.keyHash P (PySem.Str.ofString "watched.\x69mport")) (PySem.Value.str (PySem.Str.ofString "watched.\x69mport") 206) (PySem.Value.ref 18)), (PySem.DictEntry.mk (PySem.PyData.keyHash P (PySem.Str.ofString "class._frozen_importlib.ModuleSpec")) (PySem.Value.str (PySem.Str.ofString "class._frozen_importlib.ModuleSpec") 216) (PySem.Value.ref 22)), (PySem.DictEntry.mk (PySem.PyData.keyHash P (PySem.Str.ofString "sys.modules.booked-epoch")) (PySem.Value.str (PySem.Str.ofString "sys.modules.booked-epoch") 245) (PySem.Value.int (3 : Int) 0)), (PySem.DictEntry.mk (PySem.PyData.keyHash P (PySem.Str.ofString "\x69mport.later-laid._sre")) (PySem.Value.str (PySem.Str.ofString "\x69mport.later-laid._sre") 270) (PySem.Value.bool Bool.true)), (PySem.DictEntry.mk (PySem.PyData.keyHash P (PySem.Str.ofString "watched.library")) (PySem.Value.str (PySem.Str.ofString "watched.library") 272) (PySem.Value.ref 27)), (PySem.DictEntry.mk (PySem.PyData.keyHash P (PySem.Str.ofString "watched.library-objects")) (PySem.Value.str (PySem.Str.ofString "watched.library-objects") 0) (PySem.Value.str (PySem.Str.ofString "\x0c") 0)), (PySem.DictEntry.mk (PySem.PyData.keyHash P (PySem.Str.ofString "watched.library-deep._sre")) (PySem.Value.str (PySem.Str.ofString "watched.library-deep._sre") 273) (PySem.Value.str (PySem.Str.ofString "\x04\x00\x00\x0b\x04\x00\x00\x0b\x04\x00\x00\x03\x04\x00\x00\x0b\x08\x04dict\x02") 0))].toArray) 9) ([].toArray))
noncomputable def o3v0 (P : PySem.Params) : PySem.Obj := (PySem.Obj.mk (PySem.Value.type "dict") none (PySem.Data.dict ([(PySem.DictEntry.mk (PySem.PyData.keyHash P (PySem.Str.ofString "__name__")) (PySem.Value.str (PySem.Str.ofString "__name__") 165) (PySem.Value.str (PySem.Str.ofString "__main__") 164)), (PySem.DictEntry.mk (PySem.PyData.keyHash P (PySem.Str.ofString "__doc__")) (PySem.Value.str (PySem.Str.ofString "__doc__") 166) PySem.Value.none), (PySem.DictEntry.mk (PySem.PyData.keyHash P (PySem.Str.ofString "__package__")) (PySem.Value.str (PySem.Str.ofString "__package__") 167) PySem.Value.none), (PySem.DictEntry.mk (PySem.PyData.keyHash P (PySem.Str.ofString "__loader__")) (PySem.Value.str (PySem.Str.ofString "__loader__") 168) (PySem.Value.builtin "__main__.__loader__#opaque")), (PySem.DictEntry.mk (PySem.PyData.keyHash P (PySem.Str.ofString "__spec__")) (PySem.Value.str (PySem.Str.ofString "__spec__") 169) PySem.Value.none), (PySem.DictEntry.mk (PySem.PyData.keyHash P (PySem.Str.ofString "__annotations__")) (PySem.Value.str (PySem.Str.ofString "__annotations__") 170) (PySem.Value.ref 6)), (PySem.DictEntry.mk (PySem.PyData.keyHash P (PySem.Str.ofString "__builtins__")) (PySem.Value.str (PySem.Str.ofString "__builtins__") 171) (PySem.Value.ref 4)), (PySem.DictEntry.mk (PySem.PyData.keyHash P (PySem.Str.ofString "__file__")) (PySem.Value.str (PySem.Str.ofString "__file__") 173) (PySem.Value.str (PySem.Str.ofString "/claim/cut.py") 172)), (PySem.DictEntry.mk (PySem.PyData.keyHash P (PySem.Str.ofString "__cached__")) (PySem.Value.str (PySem.Str.ofString "__cached__") 174) PySem.Value.none), (PySem.DictEntry.mk (PySem.PyData.keyHash P (PySem.Str.ofString "_sre")) (PySem.Value.str (PySem.Str.ofString "_sre") 275) (PySem.Value.ref 12))].toArray) 10) ([].toArray))
noncomputable def o4v0 (P : PySem.Params) : PySem.Obj := (PySem.Obj.mk (PySem.Value.type "module") (some 0) PySem.Data.plain ([].toArray))
noncomputable def o5v0 (P : PySem.Params) : PySem.Obj := (PySem.Obj.mk (PySem.Value.type "module") (some 3) PySem.Data.plain ([].toArray))
noncomputable def o6v0 (P : PySem.Params) : PySem.Obj := (PySem.Obj.mk (PySem.Value.type "dict") none (PySem.Data.dict ([].toArray) 0) ([].toArray))
noncomputable def o7v0 (P : PySem.Params) : PySem.Obj := (PySem.Obj.mk (PySem.Value.type "tuple") none (PySem.Data.seq ([].toArray) 0) ([].toArray))
noncomputable def o8v0 (P : PySem.Params) : PySem.Obj := (PySem.Obj.mk PySem.Value.none none (PySem.Data.fields ([].toArray)) ([].toArray))
noncomputable def o9v0 (P : PySem.Params) : PySem.Obj := (PySem.Obj.mk (PySem.Value.type "code") none (PySem.Data.fields ([(PySem.Value.str (PySem.Str.ofString "<module>") 176), (PySem.Value.str (PySem.Str.ofString "<module>") 177), (PySem.Value.str (PySem.Str.ofString "/claim/cut.py") 178), (PySem.Value.int (1 : Int) 0), (PySem.Value.int (0 : Int) 0), (PySem.Value.int (0 : Int) 0), (PySem.Value.int (0 : Int) 0), (PySem.Value.int (0 : Int) 0), (PySem.Value.ref 7), (PySem.Value.bool Bool.false), (PySem.Value.int (175 : Int) 0), (PySem.Value.ref 8), PySem.Value.none, PySem.Value.none, PySem.Value.none, PySem.Value.none, (PySem.Value.int (179 : Int) 0), (PySem.Value.int (1 : Int) 0), (PySem.Value.str (PySem.Str.ofString "/claim/cut.py") 180)].toArray)) ([].toArray))
noncomputable def o10v0 (P : PySem.Params) : PySem.Obj := (PySem.Obj.mk (PySem.Value.type "frame") none PySem.Data.plain ([(some (PySem.Value.ref 9)), (some (PySem.Value.ref 3)), (some (PySem.Value.ref 3)), none, (some (PySem.Value.str (PySem.Str.ofString "__main__") 164)), none, (some (PySem.Value.ref 0))].toArray))
noncomputable def o11v0 (P : PySem.Params) : PySem.Obj := (PySem.Obj.mk (PySem.Value.type "dict") none (PySem.Data.dict ([(PySem.DictEntry.mk (PySem.PyData.keyHash P (PySem.Str.ofString "__name__")) (PySem.Value.str (PySem.Str.ofString "__name__") 247) (PySem.Value.str (PySem.Str.ofString "_sre") 246)), (PySem.DictEntry.mk (PySem.PyData.keyHash P (PySem.Str.ofString "__doc__")) (PySem.Value.str (PySem.Str.ofString "__doc__") 248) PySem.Value.none), (PySem.DictEntry.mk (PySem.PyData.keyHash P (PySem.Str.ofString "__package__")) (PySem.Value.str (PySem.Str.ofString "__package__") 250) (PySem.Value.str (PySem.Str.ofString "") 249)), (PySem.DictEntry.mk (PySem.PyData.keyHash P (PySem.Str.ofString "__loader__")) (PySem.Value.str (PySem.Str.ofString "__loader__") 251) (PySem.Value.builtin "off-the-table:_sre.__loader__:shared#opaque")), (PySem.DictEntry.mk (PySem.PyData.keyHash P (PySem.Str.ofString "__spec__")) (PySem.Value.str (PySem.Str.ofString "__spec__") 252) (PySem.Value.builtin "off-the-table:_sre.__spec__:shared#opaque")), (PySem.DictEntry.mk (PySem.PyData.keyHash P (PySem.Str.ofString "compile")) (PySem.Value.str (PySem.Str.ofString "compile") 253) (PySem.Value.builtin "_sre.compile")), (PySem.DictEntry.mk (PySem.PyData.keyHash P (PySem.Str.ofString "template")) (PySem.Value.str (PySem.Str.ofString "template") 254) (PySem.Value.builtin "off-the-table:_sre.template:shared#opaque")), (PySem.DictEntry.mk (PySem.PyData.keyHash P (PySem.Str.ofString "getcodesize")) (PySem.Value.str (PySem.Str.ofString "getcodesize") 255) (PySem.Value.builtin "off-the-table:_sre.getcodesize:shared#opaque")), (PySem.DictEntry.mk (PySem.PyData.keyHash P (PySem.Str.ofString "ascii_iscased")) (PySem.Value.str (PySem.Str.ofString "ascii_iscased") 256) (PySem.Value.builtin "off-the-table:_sre.ascii_iscased:shared#opaque")), (PySem.DictEntry.mk (PySem.PyData.keyHash P (PySem.Str.ofString "unicode_iscased")) (PySem.Value.str (PySem.Str.ofString "unicode_iscased") 257) (PySem.Value.builtin "off-the-table:_sre.unicode_iscased:shared#opaque")), (PySem.DictEntry.mk (PySem.PyData.keyHash P (PySem.Str.ofString "ascii_tolower")) (PySem.Value.str (PySem.Str.ofString "ascii_tolower") 258) (PySem.Value.builtin "off-the-table:_sre.ascii_tolower:shared#opaque")), (PySem.DictEntry.mk (PySem.PyData.keyHash P (PySem.Str.ofString "unicode_tolower")) (PySem.Value.str (PySem.Str.ofString "unicode_tolower") 259) (PySem.Value.builtin "off-the-table:_sre.unicode_tolower:shared#opaque")), (PySem.DictEntry.mk (PySem.PyData.keyHash P (PySem.Str.ofString "MAGIC")) (PySem.Value.str (PySem.Str.ofString "MAGIC") 261) (PySem.Value.int (20230612 : Int) 260)), (PySem.DictEntry.mk (PySem.PyData.keyHash P (PySem.Str.ofString "CODESIZE")) (PySem.Value.str (PySem.Str.ofString "CODESIZE") 263) (PySem.Value.int (4 : Int) 262)), (PySem.DictEntry.mk (PySem.PyData.keyHash P (PySem.Str.ofString "MAXREPEAT")) (PySem.Value.str (PySem.Str.ofString "MAXREPEAT") 265) (PySem.Value.int (4294967295 : Int) 264)), (PySem.DictEntry.mk (PySem.PyData.keyHash P (PySem.Str.ofString "MAXGROUPS")) (PySem.Value.str (PySem.Str.ofString "MAXGROUPS") 267) (PySem.Value.int (1073741823 : Int) 266)), (PySem.DictEntry.mk (PySem.PyData.keyHash P (PySem.Str.ofString "copyright")) (PySem.Value.str (PySem.Str.ofString "copyright") 269) (PySem.Value.str (PySem.Str.ofString " SRE 2.2.2 Copyright (c) 1997-2002 by Secret Labs AB ") 268))].toArray) 17) ([].toArray))
noncomputable def o12v0 (P : PySem.Params) : PySem.Obj := (PySem.Obj.mk (PySem.Value.type "module") (some 11) PySem.Data.plain ([].toArray))
noncomputable def o13v0 (P : PySem.Params) : PySem.Obj := (PySem.Obj.mk (PySem.Value.type "dict") none (PySem.Data.dict ([(PySem.DictEntry.mk (PySem.PyData.keyHash P (PySem.Str.ofString "__module__")) (PySem.Value.str (PySem.Str.ofString "__module__") 189) (PySem.Value.str (PySem.Str.ofString "_frozen_importlib") 186)), (PySem.DictEntry.mk (PySem.PyData.keyHash P (PySem.Str.ofString "__firstlineno__")) (PySem.Value.str (PySem.Str.ofString "__firstlineno__") 190) (PySem.Value.int (971 : Int) 187)), (PySem.DictEntry.mk (PySem.PyData.keyHash P (PySem.Str.ofString "__doc__")) (PySem.Value.str (PySem.Str.ofString "__doc__") 191) (PySem.Value.builtin "_frozen_importlib.BuiltinImporter.__doc__:str#opaque")), (PySem.DictEntry.mk (PySem.PyData.keyHash P (PySem.Str.ofString "_ORIGIN")) (PySem.Value.str (PySem.Str.ofString "_ORIGIN") 192) (PySem.Value.str (PySem.Str.ofString "built-in") 188)), (PySem.DictEntry.mk (PySem.PyData.keyHash P (PySem.Str.ofString "find_spec")) (PySem.Value.str (PySem.Str.ofString "find_spec") 193) (PySem.Value.builtin "_frozen_importlib.BuiltinImporter.find_spec#opaque")), (PySem.DictEntry.mk (PySem.PyData.keyHash P (PySem.Str.ofString "create_module")) (PySem.Value.str (PySem.Str.ofString "create_module") 194) (PySem.Value.builtin "_frozen_importlib.BuiltinImporter.create_module#opaque")), (PySem.DictEntry.mk (PySem.PyData.keyHash P (PySem.Str.ofString "exec_module")) (PySem.Value.str (PySem.Str.ofString "exec_module") 195) (PySem.Value.builtin "_frozen_importlib.BuiltinImporter.exec_module#opaque")), (PySem.DictEntry.mk (PySem.PyData.keyHash P (PySem.Str.ofString "get_code")) (PySem.Value.str (PySem.Str.ofString "get_code") 196) (PySem.Value.builtin "_frozen_importlib.BuiltinImporter.get_code#opaque")), (PySem.DictEntry.mk (PySem.PyData.keyHash P (PySem.Str.ofString "get_source")) (PySem.Value.str (PySem.Str.ofString "get_source") 197) (PySem.Value.builtin "_frozen_importlib.BuiltinImporter.get_source#opaque")), (PySem.DictEntry.mk (PySem.PyData.keyHash P (PySem.Str.ofString "is_package")) (PySem.Value.str (PySem.Str.ofString "is_package") 198) (PySem.Value.builtin "_frozen_importlib.BuiltinImporter.is_package#opaque")), (PySem.DictEntry.mk (PySem.PyData.keyHash P (PySem.Str.ofString "load_module")) (PySem.Value.str (PySem.Str.ofString "load_module") 199) (PySem.Value.builtin "_frozen_importlib.BuiltinImporter.load_module#opaque")), (PySem.DictEntry.mk (PySem.PyData.keyHash P (PySem.Str.ofString "__static_attributes__")) (PySem.Value.str (PySem.Str.ofString "__static_attributes__") 200) (PySem.Value.ref 15)), (PySem.DictEntry.mk (PySem.PyData.keyHash P (PySem.Str.ofString "__dict__")) (PySem.Value.str (PySem.Str.ofString "__dict__") 202) (PySem.Value.ref 16)), (PySem.DictEntry.mk (PySem.PyData.keyHash P (PySem.Str.ofString "__weakref__")) (PySem.Value.str (PySem.Str.ofString "__weakref__") 204) (PySem.Value.ref 17))].toArray) 14) ([].toArray))
noncomputable def o14v0 (P : PySem.Params) : PySem.Obj := (PySem.Obj.mk (PySem.Value.type "type") none (PySem.Data.cls (PySem.ClassData.mk (PySem.Str.ofString "BuiltinImporter") [(PySem.Value.type "object")] [(PySem.Value.ref 14), (PySem.Value.type "object")] 13 (PySem.Str.ofString "BuiltinImporter") Bool.true [] [] Bool.false none Bool.false)) ([].toArray))
noncomputable def o15v0 (P : PySem.Params) : PySem.Obj := (PySem.Obj.mk (PySem.Value.type "tuple") none (PySem.Data.seq ([].toArray) 0) ([].toArray))
noncomputable def o16v0 (P : PySem.Params) : PySem.Obj := (PySem.Obj.mk (PySem.Value.type "getset_descriptor") none (PySem.Data.fields ([(PySem.Value.str (PySem.Str.ofString "__dict__") 201), (PySem.Value.ref 14), (PySem.Value.builtin "function.__dict__"), (PySem.Value.builtin "function.__dict__#set")].toArray)) ([].toArray))
noncomputable def o17v0 (P : PySem.Params) : PySem.Obj := (PySem.Obj.mk (PySem.Value.type "getset_descriptor") none (PySem.Data.fields ([(PySem.Value.str (PySem.Str.ofString "__weakref__") 203), (PySem.Value.ref 14), (PySem.Value.builtin "ExceptionGroup.__weakref__"), PySem.Value.none].toArray)) ([].toArray))
noncomputable def o18v0 (P : PySem.Params) : PySem.Obj := (PySem.Obj.mk PySem.Value.none none (PySem.Data.seq ([(PySem.Value.int (13 : Int) 0), (PySem.Value.str (PySem.Str.ofString "\x06½\n__module__\x06º\x11_frozen_importlib\x06¾\x0f__firstlineno__\x04»\x00ϋ\x06¿\x07__doc__\t4_frozen_importlib.BuiltinImporter.__doc__:str#opaque\x06À\x07_ORIGIN\x06¼\x08built-in\x06Á\tfind_spec\t2_frozen_importlib.BuiltinImporter.find_spec#opaque\x06Â\rcreate_module\t6_frozen_importlib.BuiltinImporter.create_module#opaque\x06Ã\x0bexec_module\t4_frozen_importlib.BuiltinImporter.exec_module#opaque\x06Ä\x08get_code\t1_frozen_importlib.BuiltinImporter.get_code#opaque\x06Å\nget_source\t3_frozen_importlib.BuiltinImporter.get_source#opaque\x06Æ\nis_package\t3_frozen_importlib.BuiltinImporter.is_package#opaque\x06Ç\x0bload_module\t4_frozen_importlib.BuiltinImporter.load_module#opaque\x06È\x15__static_attributes__\x04\x00\x00\x0f\x06Ê\x08__dict__\x04\x00\x00\x10\x06Ì\x0b__weakref__\x04\x00\x00\x11") 0), (PySem.Value.bool Bool.true), (PySem.Value.bool Bool.true), (PySem.Value.str (PySem.Str.ofString "") 205), (PySem.Value.int (21 : Int) 0), (PySem.Value.str (PySem.Str.ofString "\x06ã\n__module__\x06Ù\x11_frozen_importlib\x06ä\x0f__firstlineno__\x04Ú\x00Ȳ\x06å\x07__doc__\t/_frozen_importlib.ModuleSpec.__doc__:str#opaque\x06æ\x08__init__\t,_frozen_importlib.ModuleSpec.__init__#opaque\x06ç\x08__repr__\t,_frozen_importlib.ModuleSpec.__repr__#opaque\x06è\x06__eq__\t*_frozen_importlib.ModuleSpec.__eq__#opaque\x06é\x06cached\t*_frozen_importlib.ModuleSpec.cached#opaque\x06ê\x06parent\t*_frozen_importlib.ModuleSpec.parent#opaque\x06ë\x0chas_location\t0_frozen_importlib.ModuleSpec.has_location#opaque\x06ì\x15__static_attributes__\x04\x00\x00\x17\x06î\x08__dict__\x04\x00\x00\x18\x06ð\x0b__weakref__\x04\x00\x00\x19\x06ñ\x08__hash__\x00") 0), (PySem.Value.bool Bool.true), (PySem.Value.bool Bool.true), (PySem.Value.str (PySem.Str.ofString "") 242)].toArray) 1) ([].toArray))
noncomputable def o19v0 (P : PySem.Params) : PySem.Obj := (PySem.Obj.mk (PySem.Value.type "list") none (PySem.Data.seq ([].toArray) 0) ([].toArray))
noncomputable def o20v0 (P : PySem.Params) : PySem.Obj := (PySem.Obj.mk (PySem.Value.type "dict") none (PySem.Data.dict ([(PySem.DictEntry.mk (PySem.PyData.keyHash P (PySem.Str.ofString "name")) (PySem.Value.str (PySem.Str.ofString "name") 208) (PySem.Value.str (PySem.Str.ofString "_sre") 207)), (PySem.DictEntry.mk (PySem.PyData.keyHash P (PySem.Str.ofString "loader")) (PySem.Value.str (PySem.Str.ofString "loader") 209) (PySem.Value.ref 14)), (PySem.DictEntry.mk (PySem.PyData.keyHash P (PySem.Str.ofString "origin")) (PySem.Value.str (PySem.Str.ofString "origin") 210) (PySem.Value.str (PySem.Str.ofString "built-in") 184)), (PySem.DictEntry.mk (PySem.PyData.keyHash P (PySem.Str.ofString "loader_state")) (PySem.Value.str (PySem.Str.ofString "loader_state") 211) PySem.Value.none), (PySem.DictEntry.mk (PySem.PyData.keyHash P (PySem.Str.ofString "submodule_search_locations")) (PySem.Value.str (PySem.Str.ofString "submodule_search_locations") 212) PySem.Value.none), (PySem.DictEntry.mk (PySem.PyData.keyHash P (PySem.Str.ofString "_uninitialized_submodules")) (PySem.Value.str (PySem.Str.ofString "_uninitialized_submodules") 213) (PySem.Value.ref 19)), (PySem.DictEntry.mk (PySem.PyData.keyHash P (PySem.Str.ofString "_set_fileattr")) (PySem.Value.str (PySem.Str.ofString "_set_fileattr") 214) (PySem.Value.bool Bool.false)), (PySem.DictEntry.mk (PySem.PyData.keyHash P (PySem.Str.ofString "_cached")) (PySem.Value.str (PySem.Str.ofString "_cached") 215) PySem.Value.none), (PySem.DictEntry.mk (PySem.PyData.keyHash P (PySem.Str.ofString "_initializing")) (PySem.Value.str (PySem.Str.ofString "_initializing") 243) (PySem.Value.bool Bool.false))].toArray) 9) ([].toArray))
noncomputable def o21v0 (P : PySem.Params) : PySem.Obj := (PySem.Obj.mk (PySem.Value.type "dict") none (PySem.Data.dict ([(PySem.DictEntry.mk (PySem.PyData.keyHash P (PySem.Str.ofString "__module__")) (PySem.Value.str (PySem.Str.ofString "__module__") 227) (PySem.Value.str (PySem.Str.ofString "_frozen_importlib") 217)), (PySem.DictEntry.mk (PySem.PyData.keyHash P (PySem.Str.ofString "__firstlineno__")) (PySem.Value.str (PySem.Str.ofString "__firstlineno__") 228) (PySem.Value.int (562 : Int) 218)), (PySem.DictEntry.mk (PySem.PyData.keyHash P (PySem.Str.ofString "__doc__")) (PySem.Value.str (PySem.Str.ofString "__doc__") 229) (PySem.Value.builtin "_frozen_importlib.ModuleSpec.__doc__:str#opaque")), (PySem.DictEntry.mk (PySem.PyData.keyHash P (PySem.Str.ofString "__init__")) (PySem.Value.str (PySem.Str.ofString "__init__") 230) (PySem.Value.builtin "_frozen_importlib.ModuleSpec.__init__#opaque")), (PySem.DictEntry.mk (PySem.PyData.keyHash P (PySem.Str.ofString "__repr__")) (PySem.Value.str (PySem.Str.ofString "__repr__") 231) (PySem.Value.builtin "_frozen_importlib.ModuleSpec.__repr__#opaque")), (PySem.DictEntry.mk (PySem.PyData.keyHash P (PySem.Str.ofString "__eq__")) (PySem.Value.str (PySem.Str.ofString "__eq__") 232) (PySem.Value.builtin "_frozen_importlib.ModuleSpec.__eq__#opaque")), (PySem.DictEntry.mk (PySem.PyData.keyHash P (PySem.Str.ofString "cached")) (PySem.Value.str (PySem.Str.ofString "cached") 233) (PySem.Value.builtin "_frozen_importlib.ModuleSpec.cached#opaque")), (PySem.DictEntry.mk (PySem.PyData.keyHash P (PySem.Str.ofString "parent")) (PySem.Value.str (PySem.Str.ofString "parent") 234) (PySem.Value.builtin "_frozen_importlib.ModuleSpec.parent#opaque")), (PySem.DictEntry.mk (PySem.PyData.keyHash P (PySem.Str.ofString "has_location")) (PySem.Value.str (PySem.Str.ofString "has_location") 235) (PySem.Value.builtin "_frozen_importlib.ModuleSpec.has_location#opaque")), (PySem.DictEntry.mk (PySem.PyData.keyHash P (PySem.Str.ofString "__static_attributes__")) (PySem.Value.str (PySem.Str.ofString "__static_attributes__") 236) (PySem.Value.ref 23)), (PySem.DictEntry.mk (PySem.PyData.keyHash P (PySem.Str.ofString "__dict__")) (PySem.Value.str (PySem.Str.ofString "__dict__") 238) (PySem.Value.ref 24)), (PySem.DictEntry.mk (PySem.PyData.keyHash P (PySem.Str.ofString "__weakref__")) (PySem.Value.str (PySem.Str.ofString "__weakref__") 240) (PySem.Value.ref 25)), (PySem.DictEntry.mk (PySem.PyData.keyHash P (PySem.Str.ofString "__hash__")) (PySem.Value.str (PySem.Str.ofString "__hash__") 241) PySem.Value.none)].toArray) 13) ([].toArray))
noncomputable def o22v0 (P : PySem.Params) : PySem.Obj := (PySem.Obj.mk (PySem.Value.type "type") none (PySem.Data.cls (PySem.ClassData.mk (PySem.Str.ofString "ModuleSpec") [(PySem.Value.type "object")] [(PySem.Value.ref 22), (PySem.Value.type "object")] 21 (PySem.Str.ofString "ModuleSpec") Bool.true [] [] Bool.false none Bool.false)) ([].toArray))
noncomputable def o23v0 (P : PySem.Params) : PySem.Obj := (PySem.Obj.mk (PySem.Value.type "tuple") none (PySem.Data.seq ([(PySem.Value.str (PySem.Str.ofString "_cached") 219), (PySem.Value.str (PySem.Str.ofString "_set_fileattr") 220), (PySem.Value.str (PySem.Str.ofString "_uninitialized_submodules") 221), (PySem.Value.str (PySem.Str.ofString "loader") 222), (PySem.Value.str (PySem.Str.ofString "loader_state") 223), (PySem.Value.str (PySem.Str.ofString "name") 224), (PySem.Value.str (PySem.Str.ofString "origin") 225), (PySem.Value.str (PySem.Str.ofString "submodule_search_locations") 226)].toArray) 0) ([].toArray))
noncomputable def o24v0 (P : PySem.Params) : PySem.Obj := (PySem.Obj.mk (PySem.Value.type "getset_descriptor") none (PySem.Data.fields ([(PySem.Value.str (PySem.Str.ofString "__dict__") 237), (PySem.Value.ref 22), (PySem.Value.builtin "function.__dict__"), (PySem.Value.builtin "function.__dict__#set")].toArray)) ([].toArray))
noncomputable def o25v0 (P : PySem.Params) : PySem.Obj := (PySem.Obj.mk (PySem.Value.type "getset_descriptor") none (PySem.Data.fields ([(PySem.Value.str (PySem.Str.ofString "__weakref__") 239), (PySem.Value.ref 22), (PySem.Value.builtin "ExceptionGroup.__weakref__"), PySem.Value.none].toArray)) ([].toArray))
noncomputable def o26v0 (P : PySem.Params) : PySem.Obj := (PySem.Obj.mk (PySem.Value.ref 22) (some 20) PySem.Data.plain ([].toArray))
noncomputable def o27v0 (P : PySem.Params) : PySem.Obj := (PySem.Obj.mk PySem.Value.none none (PySem.Data.seq ([(PySem.Value.int (11 : Int) 0), (PySem.Value.str (PySem.Str.mk ([6, 247, 8, 95, 95, 110, 97, 109, 101, 95, 95, 6, 246, 4, 95, 115, 114, 101, 6, 248, 7, 95, 95, 100, 111, 99, 95, 95, 0, 6, 250, 11, 95, 95, 112, 97, 99, 107, 97, 103, 101, 95, 95, 6, 249, 0, 6, 251, 10, 95, 95, 108, 111, 97, 100, 101, 114, 95, 95, 4, 0, 0, 14, 6, 252, 8, 95, 95, 115, 112, 101, 99, 95, 95, 4, 0, 0, 26, 6, 253, 7, 99, 111, 109, 112, 105, 108, 101, 9, 12, 95, 115, 114, 101, 46, 99, 111, 109, 112, 105, 108, 101, 6, 254, 8, 116, 101, 109, 112, 108, 97, 116, 101, 9, 13, 95, 115, 114, 101, 46, 116, 101, 109, 112, 108, 97, 116, 101, 6, 255, 11, 103, 101, 116, 99, 111, 100, 101, 115, 105, 122, 101, 9, 16, 95, 115, 114, 101, 46, 103, 101, 116, 99, 111, 100, 101, 115, 105, 122, 101, 6, 256, 13, 97, 115, 99, 105, 105, 95, 105, 115, 99, 97, 115, 101, 100, 9, 18, 95, 115, 114, 101, 46, 97, 115, 99, 105, 105, 95, 105, 115, 99, 97, 115, 101, 100, 6, 257, 15, 117, 110, 105, 99, 111, 100, 101, 95, 105, 115, 99, 97, 115, 101, 100, 9, 20, 95, 115, 114, 101, 46, 117, 110, 105, 99, 111, 100, 101, 95, 105, 115, 99, 97, 115, 101, 100, 6, 258, 13, 97, 115, 99, 105, 105, 95, 116, 111, 108, 111, 119, 101, 114, 9, 18, 95, 115, 114, 101, 46, 97, 115, 99, 105, 105, 95, 116, 111, 108, 111, 119, 101, 114, 6, 259, 15, 117, 110, 105, 99, 111, 100, 101, 95, 116, 111, 108, 111, 119, 101, 114, 9, 20, 95, 115, 114, 101, 46, 117, 110, 105, 99, 111, 100, 101, 95, 116, 111, 108, 111, 119, 101, 114, 6, 261, 5, 77, 65, 71, 73, 67, 4, 260, 0, 20230612, 6, 263, 8, 67, 79, 68, 69, 83, 73, 90, 69, 4, 262, 0, 4, 6, 265, 9, 77, 65, 88, 82, 69, 80, 69, 65, 84, 4, 264, 0, 4294967295, 6, 267, 9, 77, 65, 88, 71, 82, 79, 85, 80, 83, 4, 266, 0, 1073741823, 6, 269, 9, 99, 111, 112, 121, 114, 105, 103, 104, 116, 6, 268, 53, 32, 83, 82, 69, 32, 50, 46, 50, 46, 50, 32, 67, 111, 112, 121, 114, 105, 103, 104, 116, 32, 40, 99, 41, 32, 49, 57, 57, 55, 45, 50, 48, 48, 50, 32, 98, 121, 32, 83, 101, 99, 114, 101, 116, 32, 76, 97, 98, 115, 32, 65, 66, 32].toArray)) 0), (PySem.Value.bool Bool.true), (PySem.Value.bool Bool.false), (PySem.Value.str (PySem.Str.ofString "_sre") 271)].toArray) 0) ([].toArray))
noncomputable def o28v1 (P : PySem.Params) : PySem.Obj := (PySem.Obj.mk (PySem.Value.type "tuple") none (PySem.Data.seq ([].toArray) 0) ([].toArray))
noncomputable def o29v1 (P : PySem.Params) : PySem.Obj := (PySem.Obj.mk PySem.Value.none none (PySem.Data.fields ([].toArray)) ([].toArray))
noncomputable def o30v1 (P : PySem.Params) : PySem.Obj := (PySem.Obj.mk (PySem.Value.type "code") none (PySem.Data.fields ([(PySem.Value.str (PySem.Str.ofString "<module>") 277), (PySem.Value.str (PySem.Str.ofString "<module>") 278), (PySem.Value.str (PySem.Str.ofString "/claim/cut.py") 279), (PySem.Value.int (1 : Int) 0), (PySem.Value.int (0 : Int) 0), (PySem.Value.int (0 : Int) 0), (PySem.Value.int (0 : Int) 0), (PySem.Value.int (0 : Int) 0), (PySem.Value.ref 28), (PySem.Value.bool Bool.false), (PySem.Value.int (276 : Int) 0), (PySem.Value.ref 29), PySem.Value.none, PySem.Value.none, PySem.Value.none, PySem.Value.none, (PySem.Value.int (280 : Int) 0), (PySem.Value.int (1 : Int) 0), (PySem.Value.str (PySem.Str.ofString "/claim/cut.py") 281)].toArray)) ([].toArray))
noncomputable def o31v1 (P : PySem.Params) : PySem.Obj := (PySem.Obj.mk (PySem.Value.type "frame") none PySem.Data.plain ([(some (PySem.Value.ref 30)), (some (PySem.Value.ref 3)), (some (PySem.Value.ref 3)), none, (some (PySem.Value.str (PySem.Str.ofString "__main__") 164)), none, (some (PySem.Value.ref 0))].toArray))
noncomputable def o3v3 (P : PySem.Params) : PySem.Obj := (PySem.Obj.mk (PySem.Value.type "dict") none (PySem.Data.dict ([(PySem.DictEntry.mk (PySem.PyData.keyHash P (PySem.Str.ofString "__name__")) (PySem.Value.str (PySem.Str.ofString "__name__") 165) (PySem.Value.str (PySem.Str.ofString "cpy313.tabnanny") 289)), (PySem.DictEntry.mk (PySem.PyData.keyHash P (PySem.Str.ofString "__doc__")) (PySem.Value.str (PySem.Str.ofString "__doc__") 166) PySem.Value.none), (PySem.DictEntry.mk (PySem.PyData.keyHash P (PySem.Str.ofString "__package__")) (PySem.Value.str (PySem.Str.ofString "__package__") 167) PySem.Value.none), (PySem.DictEntry.mk (PySem.PyData.keyHash P (PySem.Str.ofString "__loader__")) (PySem.Value.str (PySem.Str.ofString "__loader__") 168) (PySem.Value.builtin "__main__.__loader__#opaque")), (PySem.DictEntry.mk (PySem.PyData.keyHash P (PySem.Str.ofString "__spec__")) (PySem.Value.str (PySem.Str.ofString "__spec__") 169) PySem.Value.none), (PySem.DictEntry.mk (PySem.PyData.keyHash P (PySem.Str.ofString "__annotations__")) (PySem.Value.str (PySem.Str.ofString "__annotations__") 170) (PySem.Value.ref 6)), (PySem.DictEntry.mk (PySem.PyData.keyHash P (PySem.Str.ofString "__builtins__")) (PySem.Value.str (PySem.Str.ofString "__builtins__") 171) (PySem.Value.ref 4)), (PySem.DictEntry.mk (PySem.PyData.keyHash P (PySem.Str.ofString "__file__")) (PySem.Value.str (PySem.Str.ofString "__file__") 173) (PySem.Value.str (PySem.Str.ofString "/claim/cut.py") 172)), (PySem.DictEntry.mk (PySem.PyData.keyHash P (PySem.Str.ofString "__cached__")) (PySem.Value.str (PySem.Str.ofString "__cached__") 174) PySem.Value.none), (PySem.DictEntry.mk (PySem.PyData.keyHash P (PySem.Str.ofString "_sre")) (PySem.Value.str (PySem.Str.ofString "_sre") 275) (PySem.Value.ref 12)), (PySem.DictEntry.mk (PySem.PyData.keyHash P (PySem.Str.ofString "_wall")) (PySem.Value.str (PySem.Str.ofString "_wall") 288) (PySem.Value.ref 38))].toArray) 11) ([].toArray))
noncomputable def o29v3 (P : PySem.Params) : PySem.Obj := (PySem.Obj.mk PySem.Value.none none (PySem.Data.fields ([(PySem.Value.int (2 : Int) 0), (PySem.Value.int (0 : Int) 0), (PySem.Value.ref 37)].toArray)) ([].toArray))
noncomputable def o32v3 (P : PySem.Params) : PySem.Obj := (PySem.Obj.mk (PySem.Value.type "tuple") none (PySem.Data.seq ([].toArray) 0) ([].toArray))
noncomputable def o33v3 (P : PySem.Params) : PySem.Obj := (PySem.Obj.mk PySem.Value.none none (PySem.Data.fields ([].toArray)) ([].toArray))
noncomputable def o34v3 (P : PySem.Params) : PySem.Obj := (PySem.Obj.mk (PySem.Value.type "tuple") none (PySem.Data.seq ([(PySem.Value.str (PySem.Str.ofString "k") 285)].toArray) 0) ([].toArray))
noncomputable def o35v3 (P : PySem.Params) : PySem.Obj := (PySem.Obj.mk (PySem.Value.type "tuple") none (PySem.Data.seq ([].toArray) 0) ([].toArray))
noncomputable def o36v3 (P : PySem.Params) : PySem.Obj := ⟨PySem.Value.none, none, .func { name := (PySem.Str.ofString "_wall"), qualname := (PySem.Str.ofString "_wall"), params := pa1.1, body := .stmts bo1.1, scope := sc1.1, globals := 0, closure := [], defaults := PySem.Value.none, kwdefaults := PySem.Value.none, doc := PySem.Value.none, pyModule := PySem.Value.none, annotations := none, code := PySem.Value.none, closureTuple := PySem.Value.none, builtins := 0 }, ([].toArray)⟩
noncomputable def o37v3 (P : PySem.Params) : PySem.Obj := (PySem.Obj.mk (PySem.Value.type "code") none (PySem.Data.fields ([(PySem.Value.str (PySem.Str.ofString "_wall") 282), (PySem.Value.str (PySem.Str.ofString "_wall") 283), (PySem.Value.str (PySem.Str.ofString "/claim/cut.py") 284), (PySem.Value.int (2 : Int) 0), (PySem.Value.int (1 : Int) 0), (PySem.Value.int (0 : Int) 0), (PySem.Value.int (0 : Int) 0), (PySem.Value.int (3 : Int) 0), (PySem.Value.ref 32), (PySem.Value.bool Bool.true), (PySem.Value.int (276 : Int) 0), (PySem.Value.ref 33), PySem.Value.none, (PySem.Value.ref 34), (PySem.Value.ref 35), (PySem.Value.ref 36), (PySem.Value.int (286 : Int) 0), (PySem.Value.int (2 : Int) 0), (PySem.Value.str (PySem.Str.ofString "/claim/cut.py") 287)].toArray)) ([].toArray))
noncomputable def o38v3 (P : PySem.Params) : PySem.Obj := ⟨(PySem.Value.type "function"), none, .func { name := (PySem.Str.ofString "_wall"), qualname := (PySem.Str.ofString "_wall"), params := pa1.1, body := .stmts bo1.1, scope := sc1.1, globals := 3, closure := [], defaults := PySem.Value.none, kwdefaults := PySem.Value.none, doc := PySem.Value.none, pyModule := (PySem.Value.str (PySem.Str.ofString "__main__") 164), annotations := none, code := (PySem.Value.ref 37), closureTuple := PySem.Value.none, builtins := 0 }, ([].toArray)⟩
noncomputable def o3v4 (P : PySem.Params) : PySem.Obj := (PySem.Obj.mk (PySem.Value.type "dict") none (PySem.Data.dict ([(PySem.DictEntry.mk (PySem.PyData.keyHash P (PySem.Str.ofString "__name__")) (PySem.Value.str (PySem.Str.ofString "__name__") 165) (PySem.Value.str (PySem.Str.ofString "cpy313.tabnanny") 289)), (PySem.DictEntry.mk (PySem.PyData.keyHash P (PySem.Str.ofString "__doc__")) (PySem.Value.str (PySem.Str.ofString "__doc__") 166) PySem.Value.none), (PySem.DictEntry.mk (PySem.PyData.keyHash P (PySem.Str.ofString "__package__")) (PySem.Value.str (PySem.Str.ofString "__package__") 167) PySem.Value.none), (PySem.DictEntry.mk (PySem.PyData.keyHash P (PySem.Str.ofString "__loader__")) (PySem.Value.str (PySem.Str.ofString "__loader__") 168) (PySem.Value.builtin "__main__.__loader__#opaque")), (PySem.DictEntry.mk (PySem.PyData.keyHash P (PySem.Str.ofString "__spec__")) (PySem.Value.str (PySem.Str.ofString "__spec__") 169) PySem.Value.none), (PySem.DictEntry.mk (PySem.PyData.keyHash P (PySem.Str.ofString "__annotations__")) (PySem.Value.str (PySem.Str.ofString "__annotations__") 170) (PySem.Value.ref 6)), (PySem.DictEntry.mk (PySem.PyData.keyHash P (PySem.Str.ofString "__builtins__")) (PySem.Value.str (PySem.Str.ofString "__builtins__") 171) (PySem.Value.ref 4)), (PySem.DictEntry.mk (PySem.PyData.keyHash P (PySem.Str.ofString "__file__")) (PySem.Value.str (PySem.Str.ofString "__file__") 173) (PySem.Value.str (PySem.Str.ofString "/claim/cut.py") 172)), (PySem.DictEntry.mk (PySem.PyData.keyHash P (PySem.Str.ofString "__cached__")) (PySem.Value.str (PySem.Str.ofString "__cached__") 174) PySem.Value.none), (PySem.DictEntry.mk (PySem.PyData.keyHash P (PySem.Str.ofString "_sre")) (PySem.Value.str (PySem.Str.ofString "_sre") 275) (PySem.Value.ref 12)), (PySem.DictEntry.mk (PySem.PyData.keyHash P (PySem.Str.ofString "_wall")) (PySem.Value.str (PySem.Str.ofString "_wall") 288) (PySem.Value.ref 38)), (PySem.DictEntry.mk (PySem.PyData.keyHash P (PySem.Str.ofString "Whitespace")) (PySem.Value.str (PySem.Str.ofString "Whitespace") 386) (PySem.Value.ref 100))].toArray) 12) ([].toArray))
noncomputable def o29v4 (P : PySem.Params) : PySem.Obj := (PySem.Obj.mk PySem.Value.none none (PySem.Data.fields ([(PySem.Value.int (2 : Int) 0), (PySem.Value.int (0 : Int) 0), (PySem.Value.ref 37), (PySem.Value.int (6 : Int) 0), (PySem.Value.int (0 : Int) 0), (PySem.Value.ref 44)].toArray)) ([].toArray))
noncomputable def o39v4 (P : PySem.Params) : PySem.Obj := (PySem.Obj.mk (PySem.Value.type "tuple") none (PySem.Data.seq ([].toArray) 0) ([].toArray))
noncomputable def o40v4 (P : PySem.Params) : PySem.Obj := (PySem.Obj.mk (PySem.Value.type "builtin_function_or_method") none (PySem.Data.fields ([(PySem.Value.builtin "type.__prepare__"), (PySem.Value.type "type")].toArray)) ([].toArray))
noncomputable def o41v4 (P : PySem.Params) : PySem.Obj := (PySem.Obj.mk (PySem.Value.type "dict") none (PySem.Data.dict ([(PySem.DictEntry.mk (PySem.PyData.keyHash P (PySem.Str.ofString "__module__")) (PySem.Value.str (PySem.Str.ofString "__module__") 298) (PySem.Value.str (PySem.Str.ofString "cpy313.tabnanny") 289)), (PySem.DictEntry.mk (PySem.PyData.keyHash P (PySem.Str.ofString "__qualname__")) (PySem.Value.str (PySem.Str.ofString "__qualname__") 300) (PySem.Value.str (PySem.Str.ofString "Whitespace") 299)), (PySem.DictEntry.mk (PySem.PyData.keyHash P (PySem.Str.ofString "__firstlineno__")) (PySem.Value.str (PySem.Str.ofString "__firstlineno__") 302) (PySem.Value.int (6 : Int) 301)), (PySem.DictEntry.mk (PySem.PyData.keyHash P (PySem.Str.ofString "S")) (PySem.Value.str (PySem.Str.ofString "S") 306) (PySem.Value.str (PySem.Str.ofString " ") 304)), (PySem.DictEntry.mk (PySem.PyData.keyHash P (PySem.Str.ofString "T")) (PySem.Value.str (PySem.Str.ofString "T") 307) (PySem.Value.str (PySem.Str.ofString "\t") 305)), (PySem.DictEntry.mk (PySem.PyData.keyHash P (PySem.Str.ofString "__init__")) (PySem.Value.str (PySem.Str.ofString "__init__") 322) (PySem.Value.ref 55)), (PySem.DictEntry.mk (PySem.PyData.keyHash P (PySem.Str.ofString "longest_run_of_spaces")) (PySem.Value.str (PySem.Str.ofString "longest_run_of_spaces") 329) (PySem.Value.ref 62)), (PySem.DictEntry.mk (PySem.PyData.keyHash P (PySem.Str.ofString "indent_level")) (PySem.Value.str (PySem.Str.ofString "indent_level") 341) (PySem.Value.ref 69)), (PySem.DictEntry.mk (PySem.PyData.keyHash P (PySem.Str.ofString "equal")) (PySem.Value.str (PySem.Str.ofString "equal") 349) (PySem.Value.ref 76)), (PySem.DictEntry.mk (PySem.PyData.keyHash P (PySem.Str.ofString "not_equal_witness")) (PySem.Value.str (PySem.Str.ofString "not_equal_witness") 357) (PySem.Value.ref 83)), (PySem.DictEntry.mk (PySem.PyData.keyHash P (PySem.Str.ofString "less")) (PySem.Value.str (PySem.Str.ofString "less") 365) (PySem.Value.ref 90)), (PySem.DictEntry.mk (PySem.PyData.keyHash P (PySem.Str.ofString "not_less_witness")) (PySem.Value.str (PySem.Str.ofString "not_less_witness") 373) (PySem.Value.ref 97)), (PySem.DictEntry.mk (PySem.PyData.keyHash P (PySem.Str.ofString "__static_attributes__")) (PySem.Value.str (PySem.Str.ofString "__static_attributes__") 379) (PySem.Value.ref 98))].toArray) 13) ([].toArray))
noncomputable def o42v4 (P : PySem.Params) : PySem.Obj := (PySem.Obj.mk (PySem.Value.type "tuple") none (PySem.Data.seq ([].toArray) 0) ([].toArray))
noncomputable def o43v4 (P : PySem.Params) : PySem.Obj := (PySem.Obj.mk PySem.Value.none none (PySem.Data.fields ([(PySem.Value.int (9 : Int) 0), (PySem.Value.int (4 : Int) 0), (PySem.Value.ref 54), (PySem.Value.int (32 : Int) 0), (PySem.Value.int (4 : Int) 0), (PySem.Value.ref 61), (PySem.Value.int (35 : Int) 0), (PySem.Value.int (4 : Int) 0), (PySem.Value.ref 68), (PySem.Value.int (42 : Int) 0), (PySem.Value.int (4 : Int) 0), (PySem.Value.ref 75), (PySem.Value.int (45 : Int) 0), (PySem.Value.int (4 : Int) 0), (PySem.Value.ref 82), (PySem.Value.int (48 : Int) 0), (PySem.Value.int (4 : Int) 0), (PySem.Value.ref 89), (PySem.Value.int (51 : Int) 0), (PySem.Value.int (4 : Int) 0), (PySem.Value.ref 96)].toArray)) ([].toArray))
noncomputable def o44v4 (P : PySem.Params) : PySem.Obj := (PySem.Obj.mk (PySem.Value.type "code") none (PySem.Data.fields ([(PySem.Value.str (PySem.Str.ofString "Whitespace") 293), (PySem.Value.str (PySem.Str.ofString "Whitespace") 294), (PySem.Value.str (PySem.Str.ofString "/claim/cut.py") 295), (PySem.Value.int (6 : Int) 0), (PySem.Value.int (0 : Int) 0), (PySem.Value.int (0 : Int) 0), (PySem.Value.int (0 : Int) 0), (PySem.Value.int (0 : Int) 0), (PySem.Value.ref 42), (PySem.Value.bool Bool.false), (PySem.Value.int (276 : Int) 0), (PySem.Value.ref 43), PySem.Value.none, PySem.Value.none, PySem.Value.none, PySem.Value.none, (PySem.Value.int (296 : Int) 0), (PySem.Value.int (6 : Int) 0), (PySem.Value.str (PySem.Str.ofString "/claim/cut.py") 297)].toArray)) ([].toArray))
noncomputable def o45v4 (P : PySem.Params) : PySem.Obj := (PySem.Obj.mk (PySem.Value.type "frame") none PySem.Data.plain ([(some (PySem.Value.ref 44)), (some (PySem.Value.ref 3)), (some (PySem.Value.ref 41)), none, (some (PySem.Value.str (PySem.Str.ofString "cpy313.tabnanny") 289)), none, (some (PySem.Value.ref 0))].toArray))
noncomputable def o46v4 (P : PySem.Params) : PySem.Obj := (PySem.Obj.mk (PySem.Value.type "str_ascii_iterator") none (PySem.Data.fields ([PySem.Value.none, (PySem.Value.int (2 : Int) 0)].toArray)) ([].toArray))
noncomputable def o47v4 (P : PySem.Params) : PySem.Obj := (PySem.Obj.mk (PySem.Value.type "tuple") none (PySem.Data.seq ([].toArray) 0) ([].toArray))
noncomputable def o48v4 (P : PySem.Params) : PySem.Obj := (PySem.Obj.mk (PySem.Value.type "StopIteration") none (PySem.Data.fields ([(PySem.Value.ref 47), PySem.Value.none, PySem.Value.none, PySem.Value.none, (PySem.Value.bool Bool.false), PySem.Value.none].toArray)) ([].toArray))
noncomputable def o49v4 (P : PySem.Params) : PySem.Obj := (PySem.Obj.mk (PySem.Value.type "tuple") none (PySem.Data.seq ([].toArray) 0) ([].toArray))
noncomputable def o50v4 (P : PySem.Params) : PySem.Obj := (PySem.Obj.mk PySem.Value.none none (PySem.Data.fields ([].toArray)) ([].toArray))
noncomputable def o51v4 (P : PySem.Params) : PySem.Obj := (PySem.Obj.mk (PySem.Value.type "tuple") none (PySem.Data.seq ([(PySem.Value.str (PySem.Str.ofString "self") 311), (PySem.Value.str (PySem.Str.ofString "ws") 312), (PySem.Value.str (PySem.Str.ofString "S") 313), (PySem.Value.str (PySem.Str.ofString "T") 314), (PySem.Value.str (PySem.Str.ofString "count") 315), (PySem.Value.str (PySem.Str.ofString "b") 316), (PySem.Value.str (PySem.Str.ofString "n") 317), (PySem.Value.str (PySem.Str.ofString "nt") 318), (PySem.Value.str (PySem.Str.ofString "ch") 319)].toArray) 0) ([].toArray))
noncomputable def o52v4 (P : PySem.Params) : PySem.Obj := (PySem.Obj.mk (PySem.Value.type "tuple") none (PySem.Data.seq ([].toArray) 0) ([].toArray))
noncomputable def o53v4 (P : PySem.Params) : PySem.Obj := ⟨PySem.Value.none, none, .func { name := (PySem.Str.ofString "__init__"), qualname := (PySem.Str.ofString "Whitespace.__init__"), params := pa3x1.1, body := .stmts bo3x1.1, scope := sc3x1.1, globals := 0, closure := [], defaults := PySem.Value.none, kwdefaults := PySem.Value.none, doc := PySem.Value.none, pyModule := PySem.Value.none, annotations := none, code := PySem.Value.none, closureTuple := PySem.Value.none, builtins := 0 }, ([].toArray)⟩
noncomputable def o54v4 (P : PySem.Params) : PySem.Obj := (PySem.Obj.mk (PySem.Value.type "code") none (PySem.Data.fields ([(PySem.Value.str (PySem.Str.ofString "__init__") 308), (PySem.Value.str (PySem.Str.ofString "Whitespace.__init__") 309), (PySem.Value.str (PySem.Str.ofString "/claim/cut.py") 310), (PySem.Value.int (9 : Int) 0), (PySem.Value.int (2 : Int) 0), (PySem.Value.int (0 : Int) 0), (PySem.Value.int (0 : Int) 0), (PySem.Value.int (3 : Int) 0), (PySem.Value.ref 49), (PySem.Value.bool Bool.true), (PySem.Value.int (276 : Int) 0), (PySem.Value.ref 50), PySem.Value.none, (PySem.Value.ref 51), (PySem.Value.ref 52), (PySem.Value.ref 53), (PySem.Value.int (320 : Int) 0), (PySem.Value.int (9 : Int) 0), (PySem.Value.str (PySem.Str.ofString "/claim/cut.py") 321)].toArray)) ([].toArray))
noncomputable def o55v4 (P : PySem.Params) : PySem.Obj := ⟨(PySem.Value.type "function"), none, .func { name := (PySem.Str.ofString "__init__"), qualname := (PySem.Str.ofString "Whitespace.__init__"), params := pa3x1.1, body := .stmts bo3x1.1, scope := sc3x1.1, globals := 3, closure := [], defaults := PySem.Value.none, kwdefaults := PySem.Value.none, doc := PySem.Value.none, pyModule := (PySem.Value.str (PySem.Str.ofString "cpy313.tabnanny") 289), annotations := none, code := (PySem.Value.ref 54), closureTuple := PySem.Value.none, builtins := 0 }, ([].toArray)⟩
noncomputable def o56v4 (P : PySem.Params) : PySem.Obj := (PySem.Obj.mk (PySem.Value.type "tuple") none (PySem.Data.seq ([].toArray) 0) ([].toArray))
noncomputable def o57v4 (P : PySem.Params) : PySem.Obj := (PySem.Obj.mk PySem.Value.none none (PySem.Data.fields ([].toArray)) ([].toArray))
noncomputable def o58v4 (P : PySem.Params) : PySem.Obj := (PySem.Obj.mk (PySem.Value.type "tuple") none (PySem.Data.seq ([(PySem.Value.str (PySem.Str.ofString "self") 326)].toArray) 0) ([].toArray))
noncomputable def o59v4 (P : PySem.Params) : PySem.Obj := (PySem.Obj.mk (PySem.Value.type "tuple") none (PySem.Data.seq ([].toArray) 0) ([].toArray))
noncomputable def o60v4 (P : PySem.Params) : PySem.Obj := ⟨PySem.Value.none, none, .func { name := (PySem.Str.ofString "longest_run_of_spaces"), qualname := (PySem.Str.ofString "Whitespace.longest_run_of_spaces"), params := pa3x2.1, body := .stmts bo3x2.1, scope := sc3x2.1, globals := 0, closure := [], defaults := PySem.Value.none, kwdefaults := PySem.Value.none, doc := PySem.Value.none, pyModule := PySem.Value.none, annotations := none, code := PySem.Value.none, closureTuple := PySem.Value.none, builtins := 0 }, ([].toArray)⟩
noncomputable def o61v4 (P : PySem.Params) : PySem.Obj := (PySem.Obj.mk (PySem.Value.type "code") none (PySem.Data.fields ([(PySem.Value.str (PySem.Str.ofString "longest_run_of_spaces") 323), (PySem.Value.str (PySem.Str.ofString "Whitespace.longest_run_of_spaces") 324), (PySem.Value.str (PySem.Str.ofString "/claim/cut.py") 325), (PySem.Value.int (32 : Int) 0), (PySem.Value.int (1 : Int) 0), (PySem.Value.int (0 : Int) 0), (PySem.Value.int (0 : Int) 0), (PySem.Value.int (3 : Int) 0), (PySem.Value.ref 56), (PySem.Value.bool Bool.true), (PySem.Value.int (276 : Int) 0), (PySem.Value.ref 57), PySem.Value.none, (PySem.Value.ref 58), (PySem.Value.ref 59), (PySem.Value.ref 60), (PySem.Value.int (327 : Int) 0), (PySem.Value.int (32 : Int) 0), (PySem.Value.str (PySem.Str.ofString "/claim/cut.py") 328)].toArray)) ([].toArray))
noncomputable def o62v4 (P : PySem.Params) : PySem.Obj := ⟨(PySem.Value.type "function"), none, .func { name := (PySem.Str.ofString "longest_run_of_spaces"), qualname := (PySem.Str.ofString "Whitespace.longest_run_of_spaces"), params := pa3x2.1, body := .stmts bo3x2.1, scope := sc3x2.1, globals := 3, closure := [], defaults := PySem.Value.none, kwdefaults := PySem.Value.none, doc := PySem.Value.none, pyModule := (PySem.Value.str (PySem.Str.ofString "cpy313.tabnanny") 289), annotations := none, code := (PySem.Value.ref 61), closureTuple := PySem.Value.none, builtins := 0 }, ([].toArray)⟩
noncomputable def o63v4 (P : PySem.Params) : PySem.Obj := (PySem.Obj.mk (PySem.Value.type "tuple") none (PySem.Data.seq ([].toArray) 0) ([].toArray))
noncomputable def o64v4 (P : PySem.Params) : PySem.Obj := (PySem.Obj.mk PySem.Value.none none (PySem.Data.fields ([].toArray)) ([].toArray))
noncomputable def o65v4 (P : PySem.Params) : PySem.Obj := (PySem.Obj.mk (PySem.Value.type "tuple") none (PySem.Data.seq ([(PySem.Value.str (PySem.Str.ofString "self") 333), (PySem.Value.str (PySem.Str.ofString "tabsize") 334), (PySem.Value.str (PySem.Str.ofString "count") 335), (PySem.Value.str (PySem.Str.ofString "trailing") 336), (PySem.Value.str (PySem.Str.ofString "il") 337), (PySem.Value.str (PySem.Str.ofString "i") 338)].toArray) 0) ([].toArray))
noncomputable def o66v4 (P : PySem.Params) : PySem.Obj := (PySem.Obj.mk (PySem.Value.type "tuple") none (PySem.Data.seq ([].toArray) 0) ([].toArray))
noncomputable def o67v4 (P : PySem.Params) : PySem.Obj := ⟨PySem.Value.none, none, .func { name := (PySem.Str.ofString "indent_level"), qualname := (PySem.Str.ofString "Whitespace.indent_level"), params := pa3x3.1, body := .stmts bo3x3.1, scope := sc3x3.1, globals := 0, closure := [], defaults := PySem.Value.none, kwdefaults := PySem.Value.none, doc := PySem.Value.none, pyModule := PySem.Value.none, annotations := none, code := PySem.Value.none, closureTuple := PySem.Value.none, builtins := 0 }, ([].toArray)⟩
noncomputable def o68v4 (P : PySem.Params) : PySem.Obj := (PySem.Obj.mk (PySem.Value.type "code") none (PySem.Data.fields ([(PySem.Value.str (PySem.Str.ofString "indent_level") 330), (PySem.Value.str (PySem.Str.ofString "Whitespace.indent_level") 331), (PySem.Value.str (PySem.Str.ofString "/claim/cut.py") 332), (PySem.Value.int (35 : Int) 0), (PySem.Value.int (2 : Int) 0), (PySem.Value.int (0 : Int) 0), (PySem.Value.int (0 : Int) 0), (PySem.Value.int (3 : Int) 0), (PySem.Value.ref 63), (PySem.Value.bool Bool.true), (PySem.Value.int (276 : Int) 0), (PySem.Value.ref 64), PySem.Value.none, (PySem.Value.ref 65), (PySem.Value.ref 66), (PySem.Value.ref 67), (PySem.Value.int (339 : Int) 0), (PySem.Value.int (35 : Int) 0), (PySem.Value.str (PySem.Str.ofString "/claim/cut.py") 340)].toArray)) ([].toArray))
noncomputable def o69v4 (P : PySem.Params) : PySem.Obj := ⟨(PySem.Value.type "function"), none, .func { name := (PySem.Str.ofString "indent_level"), qualname := (PySem.Str.ofString "Whitespace.indent_level"), params := pa3x3.1, body := .stmts bo3x3.1, scope := sc3x3.1, globals := 3, closure := [], defaults := PySem.Value.none, kwdefaults := PySem.Value.none, doc := PySem.Value.none, pyModule := (PySem.Value.str (PySem.Str.ofString "cpy313.tabnanny") 289), annotations := none, code := (PySem.Value.ref 68), closureTuple := PySem.Value.none, builtins := 0 }, ([].toArray)⟩
noncomputable def o70v4 (P : PySem.Params) : PySem.Obj := (PySem.Obj.mk (PySem.Value.type "tuple") none (PySem.Data.seq ([].toArray) 0) ([].toArray))
noncomputable def o71v4 (P : PySem.Params) : PySem.Obj := (PySem.Obj.mk PySem.Value.none none (PySem.Data.fields ([].toArray)) ([].toArray))
noncomputable def o72v4 (P : PySem.Params) : PySem.Obj := (PySem.Obj.mk (PySem.Value.type "tuple") none (PySem.Data.seq ([(PySem.Value.str (PySem.Str.ofString "self") 345), (PySem.Value.str (PySem.Str.ofString "other") 346)].toArray) 0) ([].toArray))
noncomputable def o73v4 (P : PySem.Params) : PySem.Obj := (PySem.Obj.mk (PySem.Value.type "tuple") none (PySem.Data.seq ([].toArray) 0) ([].toArray))
noncomputable def o74v4 (P : PySem.Params) : PySem.Obj := ⟨PySem.Value.none, none, .func { name := (PySem.Str.ofString "equal"), qualname := (PySem.Str.ofString "Whitespace.equal"), params := pa3x4.1, body := .stmts bo3x4.1, scope := sc3x4.1, globals := 0, closure := [], defaults := PySem.Value.none, kwdefaults := PySem.Value.none, doc := PySem.Value.none, pyModule := PySem.Value.none, annotations := none, code := PySem.Value.none, closureTuple := PySem.Value.none, builtins := 0 }, ([].toArray)⟩
noncomputable def o75v4 (P : PySem.Params) : PySem.Obj := (PySem.Obj.mk (PySem.Value.type "code") none (PySem.Data.fields ([(PySem.Value.str (PySem.Str.ofString "equal") 342), (PySem.Value.str (PySem.Str.ofString "Whitespace.equal") 343), (PySem.Value.str (PySem.Str.ofString "/claim/cut.py") 344), (PySem.Value.int (42 : Int) 0), (PySem.Value.int (2 : Int) 0), (PySem.Value.int (0 : Int) 0), (PySem.Value.int (0 : Int) 0), (PySem.Value.int (3 : Int) 0), (PySem.Value.ref 70), (PySem.Value.bool Bool.true), (PySem.Value.int (276 : Int) 0), (PySem.Value.ref 71), PySem.Value.none, (PySem.Value.ref 72), (PySem.Value.ref 73), (PySem.Value.ref 74), (PySem.Value.int (347 : Int) 0), (PySem.Value.int (42 : Int) 0), (PySem.Value.str (PySem.Str.ofString "/claim/cut.py") 348)].toArray)) ([].toArray))
noncomputable def o76v4 (P : PySem.Params) : PySem.Obj := ⟨(PySem.Value.type "function"), none, .func { name := (PySem.Str.ofString "equal"), qualname := (PySem.Str.ofString "Whitespace.equal"), params := pa3x4.1, body := .stmts bo3x4.1, scope := sc3x4.1, globals := 3, closure := [], defaults := PySem.Value.none, kwdefaults := PySem.Value.none, doc := PySem.Value.none, pyModule := (PySem.Value.str (PySem.Str.ofString "cpy313.tabnanny") 289), annotations := none, code := (PySem.Value.ref 75), closureTuple := PySem.Value.none, builtins := 0 }, ([].toArray)⟩
noncomputable def o77v4 (P : PySem.Params) : PySem.Obj := (PySem.Obj.mk (PySem.Value.type "tuple") none (PySem.Data.seq ([].toArray) 0) ([].toArray))
noncomputable def o78v4 (P : PySem.Params) : PySem.Obj := (PySem.Obj.mk PySem.Value.none none (PySem.Data.fields ([].toArray)) ([].toArray))
noncomputable def o79v4 (P : PySem.Params) : PySem.Obj := (PySem.Obj.mk (PySem.Value.type "tuple") none (PySem.Data.seq ([(PySem.Value.str (PySem.Str.ofString "self") 353), (PySem.Value.str (PySem.Str.ofString "other") 354)].toArray) 0) ([].toArray))
noncomputable def o80v4 (P : PySem.Params) : PySem.Obj := (PySem.Obj.mk (PySem.Value.type "tuple") none (PySem.Data.seq ([].toArray) 0) ([].toArray))
noncomputable def o81v4 (P : PySem.Params) : PySem.Obj := ⟨PySem.Value.none, none, .func { name := (PySem.Str.ofString "not_equal_witness"), qualname := (PySem.Str.ofString "Whitespace.not_equal_witness"), params := pa3x5.1, body := .stmts bo3x5.1, scope := sc3x5.1, globals := 0, closure := [], defaults := PySem.Value.none, kwdefaults := PySem.Value.none, doc := PySem.Value.none, pyModule := PySem.Value.none, annotations := none, code := PySem.Value.none, closureTuple := PySem.Value.none, builtins := 0 }, ([].toArray)⟩
noncomputable def o82v4 (P : PySem.Params) : PySem.Obj := (PySem.Obj.mk (PySem.Value.type "code") none (PySem.Data.fields ([(PySem.Value.str (PySem.Str.ofString "not_equal_witness") 350), (PySem.Value.str (PySem.Str.ofString "Whitespace.not_equal_witness") 351), (PySem.Value.str (PySem.Str.ofString "/claim/cut.py") 352), (PySem.Value.int (45 : Int) 0), (PySem.Value.int (2 : Int) 0), (PySem.Value.int (0 : Int) 0), (PySem.Value.int (0 : Int) 0), (PySem.Value.int (3 : Int) 0), (PySem.Value.ref 77), (PySem.Value.bool Bool.true), (PySem.Value.int (276 : Int) 0), (PySem.Value.ref 78), PySem.Value.none, (PySem.Value.ref 79), (PySem.Value.ref 80), (PySem.Value.ref 81), (PySem.Value.int (355 : Int) 0), (PySem.Value.int (45 : Int) 0), (PySem.Value.str (PySem.Str.ofString "/claim/cut.py") 356)].toArray)) ([].toArray))
noncomputable def o83v4 (P : PySem.Params) : PySem.Obj := ⟨(PySem.Value.type "function"), none, .func { name := (PySem.Str.ofString "not_equal_witness"), qualname := (PySem.Str.ofString "Whitespace.not_equal_witness"), params := pa3x5.1, body := .stmts bo3x5.1, scope := sc3x5.1, globals := 3, closure := [], defaults := PySem.Value.none, kwdefaults := PySem.Value.none, doc := PySem.Value.none, pyModule := (PySem.Value.str (PySem.Str.ofString "cpy313.tabnanny") 289), annotations := none, code := (PySem.Value.ref 82), closureTuple := PySem.Value.none, builtins := 0 }, ([].toArray)⟩
noncomputable def o84v4 (P : PySem.Params) : PySem.Obj := (PySem.Obj.mk (PySem.Value.type "tuple") none (PySem.Data.seq ([].toArray) 0) ([].toArray))
noncomputable def o85v4 (P : PySem.Params) : PySem.Obj := (PySem.Obj.mk PySem.Value.none none (PySem.Data.fields ([].toArray)) ([].toArray))
noncomputable def o86v4 (P : PySem.Params) : PySem.Obj := (PySem.Obj.mk (PySem.Value.type "tuple") none (PySem.Data.seq ([(PySem.Value.str (PySem.Str.ofString "self") 361), (PySem.Value.str (PySem.Str.ofString "other") 362)].toArray) 0) ([].toArray))
noncomputable def o87v4 (P : PySem.Params) : PySem.Obj := (PySem.Obj.mk (PySem.Value.type "tuple") none (PySem.Data.seq ([].toArray) 0) ([].toArray))
noncomputable def o88v4 (P : PySem.Params) : PySem.Obj := ⟨PySem.Value.none, none, .func { name := (PySem.Str.ofString "less"), qualname := (PySem.Str.ofString "Whitespace.less"), params := pa3x6.1, body := .stmts bo3x6.1, scope := sc3x6.1, globals := 0, closure := [], defaults := PySem.Value.none, kwdefaults := PySem.Value.none, doc := PySem.Value.none, pyModule := PySem.Value.none, annotations := none, code := PySem.Value.none, closureTuple := PySem.Value.none, builtins := 0 }, ([].toArray)⟩
noncomputable def o89v4 (P : PySem.Params) : PySem.Obj := (PySem.Obj.mk (PySem.Value.type "code") none (PySem.Data.fields ([(PySem.Value.str (PySem.Str.ofString "less") 358), (PySem.Value.str (PySem.Str.ofString "Whitespace.less") 359), (PySem.Value.str (PySem.Str.ofString "/claim/cut.py") 360), (PySem.Value.int (48 : Int) 0), (PySem.Value.int (2 : Int) 0), (PySem.Value.int (0 : Int) 0), (PySem.Value.int (0 : Int) 0), (PySem.Value.int (3 : Int) 0), (PySem.Value.ref 84), (PySem.Value.bool Bool.true), (PySem.Value.int (276 : Int) 0), (PySem.Value.ref 85), PySem.Value.none, (PySem.Value.ref 86), (PySem.Value.ref 87), (PySem.Value.ref 88), (PySem.Value.int (363 : Int) 0), (PySem.Value.int (48 : Int) 0), (PySem.Value.str (PySem.Str.ofString "/claim/cut.py") 364)].toArray)) ([].toArray))
noncomputable def o90v4 (P : PySem.Params) : PySem.Obj := ⟨(PySem.Value.type "function"), none, .func { name := (PySem.Str.ofString "less"), qualname := (PySem.Str.ofString "Whitespace.less"), params := pa3x6.1, body := .stmts bo3x6.1, scope := sc3x6.1, globals := 3, closure := [], defaults := PySem.Value.none, kwdefaults := PySem.Value.none, doc := PySem.Value.none, pyModule := (PySem.Value.str (PySem.Str.ofString "cpy313.tabnanny") 289), annotations := none, code := (PySem.Value.ref 89), closureTuple := PySem.Value.none, builtins := 0 }, ([].toArray)⟩
noncomputable def o91v4 (P : PySem.Params) : PySem.Obj := (PySem.Obj.mk (PySem.Value.type "tuple") none (PySem.Data.seq ([].toArray) 0) ([].toArray))
noncomputable def o92v4 (P : PySem.Params) : PySem.Obj := (PySem.Obj.mk PySem.Value.none none (PySem.Data.fields ([].toArray)) ([].toArray))
noncomputable def o93v4 (P : PySem.Params) : PySem.Obj := (PySem.Obj.mk (PySem.Value.type "tuple") none (PySem.Data.seq ([(PySem.Value.str (PySem.Str.ofString "self") 369), (PySem.Value.str (PySem.Str.ofString "other") 370)].toArray) 0) ([].toArray))
noncomputable def o94v4 (P : PySem.Params) : PySem.Obj := (PySem.Obj.mk (PySem.Value.type "tuple") none (PySem.Data.seq ([].toArray) 0) ([].toArray))
noncomputable def o95v4 (P : PySem.Params) : PySem.Obj := ⟨PySem.Value.none, none, .func { name := (PySem.Str.ofString "not_less_witness"), qualname := (PySem.Str.ofString "Whitespace.not_less_witness"), params := pa3x7.1, body := .stmts bo3x7.1, scope := sc3x7.1, globals := 0, closure := [], defaults := PySem.Value.none, kwdefaults := PySem.Value.none, doc := PySem.Value.none, pyModule := PySem.Value.none, annotations := none, code := PySem.Value.none, closureTuple := PySem.Value.none, builtins := 0 }, ([].toArray)⟩
noncomputable def o96v4 (P : PySem.Params) : PySem.Obj := (PySem.Obj.mk (PySem.Value.type "code") none (PySem.Data.fields ([(PySem.Value.str (PySem.Str.ofString "not_less_witness") 366), (PySem.Value.str (PySem.Str.ofString "Whitespace.not_less_witness") 367), (PySem.Value.str (PySem.Str.ofString "/claim/cut.py") 368), (PySem.Value.int (51 : Int) 0), (PySem.Value.int (2 : Int) 0), (PySem.Value.int (0 : Int) 0), (PySem.Value.int (0 : Int) 0), (PySem.Value.int (3 : Int) 0), (PySem.Value.ref 91), (PySem.Value.bool Bool.true), (PySem.Value.int (276 : Int) 0), (PySem.Value.ref 92), PySem.Value.none, (PySem.Value.ref 93), (PySem.Value.ref 94), (PySem.Value.ref 95), (PySem.Value.int (371 : Int) 0), (PySem.Value.int (51 : Int) 0), (PySem.Value.str (PySem.Str.ofString "/claim/cut.py") 372)].toArray)) ([].toArray))
noncomputable def o97v4 (P : PySem.Params) : PySem.Obj := ⟨(PySem.Value.type "function"), none, .func { name := (PySem.Str.ofString "not_less_witness"), qualname := (PySem.Str.ofString "Whitespace.not_less_witness"), params := pa3x7.1, body := .stmts bo3x7.1, scope := sc3x7.1, globals := 3, closure := [], defaults := PySem.Value.none, kwdefaults := PySem.Value.none, doc := PySem.Value.none, pyModule := (PySem.Value.str (PySem.Str.ofString "cpy313.tabnanny") 289), annotations := none, code := (PySem.Value.ref 96), closureTuple := PySem.Value.none, builtins := 0 }, ([].toArray)⟩
noncomputable def o98v4 (P : PySem.Params) : PySem.Obj := (PySem.Obj.mk (PySem.Value.type "tuple") none (PySem.Data.seq ([(PySem.Value.str (PySem.Str.ofString "is_simple") 374), (PySem.Value.str (PySem.Str.ofString "n") 375), (PySem.Value.str (PySem.Str.ofString "norm") 376), (PySem.Value.str (PySem.Str.ofString "nt") 377), (PySem.Value.str (PySem.Str.ofString "raw") 378)].toArray) 0) ([].toArray))
noncomputable def o99v4 (P : PySem.Params) : PySem.Obj := (PySem.Obj.mk (PySem.Value.type "dict") none (PySem.Data.dict ([(PySem.DictEntry.mk (PySem.PyData.keyHash P (PySem.Str.ofString "__module__")) (PySem.Value.str (PySem.Str.ofString "__module__") 298) (PySem.Value.str (PySem.Str.ofString "cpy313.tabnanny") 289)), (PySem.DictEntry.mk (PySem.PyData.keyHash P (PySem.Str.ofString "__firstlineno__")) (PySem.Value.str (PySem.Str.ofString "__firstlineno__") 302) (PySem.Value.int (6 : Int) 301)), (PySem.DictEntry.mk (PySem.PyData.keyHash P (PySem.Str.ofString "S")) (PySem.Value.str (PySem.Str.ofString "S") 306) (PySem.Value.str (PySem.Str.ofString " ") 304)), (PySem.DictEntry.mk (PySem.PyData.keyHash P (PySem.Str.ofString "T")) (PySem.Value.str (PySem.Str.ofString "T") 307) (PySem.Value.str (PySem.Str.ofString "\t") 305)), (PySem.DictEntry.mk (PySem.PyData.keyHash P (PySem.Str.ofString "__init__")) (PySem.Value.str (PySem.Str.ofString "__init__") 322) (PySem.Value.ref 55)), (PySem.DictEntry.mk (PySem.PyData.keyHash P (PySem.Str.ofString "longest_run_of_spaces")) (PySem.Value.str (PySem.Str.ofString "longest_run_of_spaces") 329) (PySem.Value.ref 62)), (PySem.DictEntry.mk (PySem.PyData.keyHash P (PySem.Str.ofString "indent_level")) (PySem.Value.str (PySem.Str.ofString "indent_level") 341) (PySem.Value.ref 69)), (PySem.DictEntry.mk (PySem.PyData.keyHash P (PySem.Str.ofString "equal")) (PySem.Value.str (PySem.Str.ofString "equal") 349) (PySem.Value.ref 76)), (PySem.DictEntry.mk (PySem.PyData.keyHash P (PySem.Str.ofString "not_equal_witness")) (PySem.Value.str (PySem.Str.ofString "not_equal_witness") 357) (PySem.Value.ref 83)), (PySem.DictEntry.mk (PySem.PyData.keyHash P (PySem.Str.ofString "less")) (PySem.Value.str (PySem.Str.ofString "less") 365) (PySem.Value.ref 90)), (PySem.DictEntry.mk (PySem.PyData.keyHash P (PySem.Str.ofString "not_less_witness")) (PySem.Value.str (PySem.Str.ofString "not_less_witness") 373) (PySem.Value.ref 97)), (PySem.DictEntry.mk (PySem.PyData.keyHash P (PySem.Str.ofString "__static_attributes__")) (PySem.Value.str (PySem.Str.ofString "__static_attributes__") 379) (PySem.Value.ref 98)), (PySem.DictEntry.mk (PySem.PyData.keyHash P (PySem.Str.ofString "__dict__")) (PySem.Value.str (PySem.Str.ofString "__dict__") 381) (PySem.Value.ref 101)), (PySem.DictEntry.mk (PySem.PyData.keyHash P (PySem.Str.ofString "__weakref__")) (PySem.Value.str (PySem.Str.ofString "__weakref__") 383) (PySem.Value.ref 102)), (PySem.DictEntry.mk (PySem.PyData.keyHash P (PySem.Str.ofString "__doc__")) (PySem.Value.str (PySem.Str.ofString "__doc__") 384) PySem.Value.none)].toArray) 4) ([].toArray))
noncomputable def o100v4 (P : PySem.Params) : PySem.Obj := (PySem.Obj.mk (PySem.Value.type "type") none (PySem.Data.cls (PySem.ClassData.mk (PySem.Str.ofString "Whitespace") [(PySem.Value.type "object")] [(PySem.Value.ref 100), (PySem.Value.type "object")] 99 (PySem.Str.ofString "Whitespace") Bool.true [] [] Bool.false none Bool.false)) ([none, none, (some (PySem.Value.str (PySem.Str.ofString "Whitespace") 291)), (some (PySem.Value.str (PySem.Str.ofString "Whitespace") 299)), (some (PySem.Value.builtin "object.__new__")), (some (PySem.Value.bool Bool.true))].toArray))
noncomputable def o101v4 (P : PySem.Params) : PySem.Obj := (PySem.Obj.mk (PySem.Value.type "getset_descriptor") none (PySem.Data.fields ([(PySem.Value.str (PySem.Str.ofString "__dict__") 380), (PySem.Value.ref 100), (PySem.Value.builtin "function.__dict__"), (PySem.Value.builtin "function.__dict__#set")].toArray)) ([].toArray))
noncomputable def o102v4 (P : PySem.Params) : PySem.Obj := (PySem.Obj.mk (PySem.Value.type "getset_descriptor") none (PySem.Data.fields ([(PySem.Value.str (PySem.Str.ofString "__weakref__") 382), (PySem.Value.ref 100), (PySem.Value.builtin "ExceptionGroup.__weakref__"), PySem.Value.none].toArray)) ([].toArray))
noncomputable def o103v4 (P : PySem.Params) : PySem.Obj := (PySem.Obj.mk (PySem.Value.type "super") none (PySem.Data.fields ([(PySem.Value.ref 100), (PySem.Value.ref 100), (PySem.Value.ref 100)].toArray)) ([].toArray))
noncomputable def o104v4 (P : PySem.Params) : PySem.Obj := (PySem.Obj.mk (PySem.Value.type "builtin_function_or_method") none (PySem.Data.fields ([(PySem.Value.builtin "object.__init_subclass__"), (PySem.Value.ref 100)].toArray)) ([].toArray))
noncomputable def o3v5 (P : PySem.Params) : PySem.Obj := (PySem.Obj.mk (PySem.Value.type "dict") none (PySem.Data.dict ([(PySem.DictEntry.mk (PySem.PyData.keyHash P (PySem.Str.ofString "__name__")) (PySem.Value.str (PySem.Str.ofString "__name__") 165) (PySem.Value.str (PySem.Str.ofString "cpy313.stringprep") 398)), (PySem.DictEntry.mk (PySem.PyData.keyHash P (PySem.Str.ofString "__doc__")) (PySem.Value.str (PySem.Str.ofString "__doc__") 166) PySem.Value.none), (PySem.DictEntry.mk (PySem.PyData.keyHash P (PySem.Str.ofString "__package__")) (PySem.Value.str (PySem.Str.ofString "__package__") 167) PySem.Value.none), (PySem.DictEntry.mk (PySem.PyData.keyHash P (PySem.Str.ofString "__loader__")) (PySem.Value.str (PySem.Str.ofString "__loader__") 168) (PySem.Value.builtin "__main__.__loader__#opaque")), (PySem.DictEntry.mk (PySem.PyData.keyHash P (PySem.Str.ofString "__spec__")) (PySem.Value.str (PySem.Str.ofString "__spec__") 169) PySem.Value.none), (PySem.DictEntry.mk (PySem.PyData.keyHash P (PySem.Str.ofString "__annotations__")) (PySem.Value.str (PySem.Str.ofString "__annotations__") 170) (PySem.Value.ref 6)), (PySem.DictEntry.mk (PySem.PyData.keyHash P (PySem.Str.ofString "__builtins__")) (PySem.Value.str (PySem.Str.ofString "__builtins__") 171) (PySem.Value.ref 4)), (PySem.DictEntry.mk (PySem.PyData.keyHash P (PySem.Str.ofString "__file__")) (PySem.Value.str (PySem.Str.ofString "__file__") 173) (PySem.Value.str (PySem.Str.ofString "/claim/cut.py") 172)), (PySem.DictEntry.mk (PySem.PyData.keyHash P (PySem.Str.ofString "__cached__")) (PySem.Value.str (PySem.Str.ofString "__cached__") 174) PySem.Value.none), (PySem.DictEntry.mk (PySem.PyData.keyHash P (PySem.Str.ofString "_sre")) (PySem.Value.str (PySem.Str.ofString "_sre") 275) (PySem.Value.ref 12)), (PySem.DictEntry.mk (PySem.PyData.keyHash P (PySem.Str.ofString "_wall")) (PySem.Value.str (PySem.Str.ofString "_wall") 288) (PySem.Value.ref 38)), (PySem.DictEntry.mk (PySem.PyData.keyHash P (PySem.Str.ofString "Whitespace")) (PySem.Value.str (PySem.Str.ofString "Whitespace") 386) (PySem.Value.ref 100)), (PySem.DictEntry.mk (PySem.PyData.keyHash P (PySem.Str.ofString "_parse_varint")) (PySem.Value.str (PySem.Str.ofString "_parse_varint") 397) (PySem.Value.ref 111))].toArray) 13) ([].toArray))
noncomputable def o29v5 (P : PySem.Params) : PySem.Obj := (PySem.Obj.mk PySem.Value.none none (PySem.Data.fields ([(PySem.Value.int (2 : Int) 0), (PySem.Value.int (0 : Int) 0), (PySem.Value.ref 37), (PySem.Value.int (6 : Int) 0), (PySem.Value.int (0 : Int) 0), (PySem.Value.ref 44), (PySem.Value.int (54 : Int) 0), (PySem.Value.int (0 : Int) 0), (PySem.Value.ref 110)].toArray)) ([].toArray))
noncomputable def o105v5 (P : PySem.Params) : PySem.Obj := (PySem.Obj.mk (PySem.Value.type "tuple") none (PySem.Data.seq ([].toArray) 0) ([].toArray))
noncomputable def o106v5 (P : PySem.Params) : PySem.Obj := (PySem.Obj.mk PySem.Value.none none (PySem.Data.fields ([].toArray)) ([].toArray))
noncomputable def o107v5 (P : PySem.Params) : PySem.Obj := (PySem.Obj.mk (PySem.Value.type "tuple") none (PySem.Data.seq ([(PySem.Value.str (PySem.Str.ofString "iterator") 392), (PySem.Value.str (PySem.Str.ofString "b") 393), (PySem.Value.str (PySem.Str.ofString "val") 394)].toArray) 0) ([].toArray))
noncomputable def o108v5 (P : PySem.Params) : PySem.Obj := (PySem.Obj.mk (PySem.Value.type "tuple") none (PySem.Data.seq ([].toArray) 0) ([].toArray))
noncomputable def o109v5 (P : PySem.Params) : PySem.Obj := ⟨PySem.Value.none, none, .func { name := (PySem.Str.ofString "_parse_varint"), qualname := (PySem.Str.ofString "_parse_varint"), params := pa5.1, body := .stmts bo5.1, scope := sc5.1, globals := 0, closure := [], defaults := PySem.Value.none, kwdefaults := PySem.Value.none, doc := PySem.Value.none, pyModule := PySem.Value.none, annotations := none, code := PySem.Value.none, closureTuple := PySem.Value.none, builtins := 0 }, ([].toArray)⟩
noncomputable def o110v5 (P : PySem.Params) : PySem.Obj := (PySem.Obj.mk (PySem.Value.type "code") none (PySem.Data.fields ([(PySem.Value.str (PySem.Str.ofString "_parse_varint") 389), (PySem.Value.str (PySem.Str.ofString "_parse_varint") 390), (PySem.Value.str (PySem.Str.ofString "/claim/cut.py") 391), (PySem.Value.int (54 : Int) 0), (PySem.Value.int (1 : Int) 0), (PySem.Value.int (0 : Int) 0), (PySem.Value.int (0 : Int) 0), (PySem.Value.int (3 : Int) 0), (PySem.Value.ref 105), (PySem.Value.bool Bool.true), (PySem.Value.int (276 : Int) 0), (PySem.Value.ref 106), PySem.Value.none, (PySem.Value.ref 107), (PySem.Value.ref 108), (PySem.Value.ref 109), (PySem.Value.int (395 : Int) 0), (PySem.Value.int (54 : Int) 0), (PySem.Value.str (PySem.Str.ofString "/claim/cut.py") 396)].toArray)) ([].toArray))
noncomputable def o111v5 (P : PySem.Params) : PySem.Obj := ⟨(PySem.Value.type "function"), none, .func { name := (PySem.Str.ofString "_parse_varint"), qualname := (PySem.Str.ofString "_parse_varint"), params := pa5.1, body := .stmts bo5.1, scope := sc5.1, globals := 3, closure := [], defaults := PySem.Value.none, kwdefaults := PySem.Value.none, doc := PySem.Value.none, pyModule := (PySem.Value.str (PySem.Str.ofString "cpy313.dis") 387), annotations := none, code := (PySem.Value.ref 110), closureTuple := PySem.Value.none, builtins := 0 }, ([].toArray)⟩
noncomputable def o3v6 (P : PySem.Params) : PySem.Obj := (PySem.Obj.mk (PySem.Value.type "dict") none (PySem.Data.dict ([(PySem.DictEntry.mk (PySem.PyData.keyHash P (PySem.Str.ofString "__name__")) (PySem.Value.str (PySem.Str.ofString "__name__") 165) (PySem.Value.str (PySem.Str.ofString "cpy313.stringprep") 398)), (PySem.DictEntry.mk (PySem.PyData.keyHash P (PySem.Str.ofString "__doc__")) (PySem.Value.str (PySem.Str.ofString "__doc__") 166) PySem.Value.none), (PySem.DictEntry.mk (PySem.PyData.keyHash P (PySem.Str.ofString "__package__")) (PySem.Value.str (PySem.Str.ofString "__package__") 167) PySem.Value.none), (PySem.DictEntry.mk (PySem.PyData.keyHash P (PySem.Str.ofString "__loader__")) (PySem.Value.str (PySem.Str.ofString "__loader__") 168) (PySem.Value.builtin "__main__.__loader__#opaque")), (PySem.DictEntry.mk (PySem.PyData.keyHash P (PySem.Str.ofString "__spec__")) (PySem.Value.str (PySem.Str.ofString "__spec__") 169) PySem.Value.none), (PySem.DictEntry.mk (PySem.PyData.keyHash P (PySem.Str.ofString "__annotations__")) (PySem.Value.str (PySem.Str.ofString "__annotations__") 170) (PySem.Value.ref 6)), (PySem.DictEntry.mk (PySem.PyData.keyHash P (PySem.Str.ofString "__builtins__")) (PySem.Value.str (PySem.Str.ofString "__builtins__") 171) (PySem.Value.ref 4)), (PySem.DictEntry.mk (PySem.PyData.keyHash P (PySem.Str.ofString "__file__")) (PySem.Value.str (PySem.Str.ofString "__file__") 173) (PySem.Value.str (PySem.Str.ofString "/claim/cut.py") 172)), (PySem.DictEntry.mk (PySem.PyData.keyHash P (PySem.Str.ofString "__cached__")) (PySem.Value.str (PySem.Str.ofString "__cached__") 174) PySem.Value.none), (PySem.DictEntry.mk (PySem.PyData.keyHash P (PySem.Str.ofString "_sre")) (PySem.Value.str (PySem.Str.ofString "_sre") 275) (PySem.Value.ref 12)), (PySem.DictEntry.mk (PySem.PyData.keyHash P (PySem.Str.ofString "_wall")) (PySem.Value.str (PySem.Str.ofString "_wall") 288) (PySem.Value.ref 38)), (PySem.DictEntry.mk (PySem.PyData.keyHash P (PySem.Str.ofString "Whitespace")) (PySem.Value.str (PySem.Str.ofString "Whitespace") 386) (PySem.Value.ref 100)), (PySem.DictEntry.mk (PySem.PyData.keyHash P (PySem.Str.ofString "_parse_varint")) (PySem.Value.str (PySem.Str.ofString "_parse_varint") 397) (PySem.Value.ref 111)), (PySem.DictEntry.mk (PySem.PyData.keyHash P (PySem.Str.ofString "b1_set")) (PySem.Value.str (PySem.Str.ofString "b1_set") 459) (PySem.Value.ref 119))].toArray) 14) ([].toArray))
noncomputable def o112v6 (P : PySem.Params) : PySem.Obj := (PySem.Obj.mk (PySem.Value.type "list") none (PySem.Data.seq ([(PySem.Value.int (173 : Int) 400), (PySem.Value.int (847 : Int) 401), (PySem.Value.int (6150 : Int) 402), (PySem.Value.int (6155 : Int) 403), (PySem.Value.int (6156 : Int) 404), (PySem.Value.int (6157 : Int) 405), (PySem.Value.int (8203 : Int) 406), (PySem.Value.int (8204 : Int) 407), (PySem.Value.int (8205 : Int) 408), (PySem.Value.int (8288 : Int) 409), (PySem.Value.int (65279 : Int) 410)].toArray) 0) ([].toArray))
noncomputable def o113v6 (P : PySem.Params) : PySem.Obj := (PySem.Obj.mk (PySem.Value.type "range") none (PySem.Data.fields ([(PySem.Value.int (65024 : Int) 411), (PySem.Value.int (65040 : Int) 412), (PySem.Value.int (1 : Int) 413)].toArray)) ([].toArray))
noncomputable def o114v6 (P : PySem.Params) : PySem.Obj := (PySem.Obj.mk (PySem.Value.type "list") none (PySem.Data.seq ([(PySem.Value.int (65024 : Int) 416), (PySem.Value.int (65025 : Int) 417), (PySem.Value.int (65026 : Int) 418), (PySem.Value.int (65027 : Int) 419), (PySem.Value.int (65028 : Int) 420), (PySem.Value.int (65029 : Int) 421), (PySem.Value.int (65030 : Int) 422), (PySem.Value.int (65031 : Int) 423), (PySem.Value.int (65032 : Int) 424), (PySem.Value.int (65033 : Int) 425), (PySem.Value.int (65034 : Int) 426), (PySem.Value.int (65035 : Int) 427), (PySem.Value.int (65036 : Int) 428), (PySem.Value.int (65037 : Int) 429), (PySem.Value.int (65038 : Int) 430), (PySem.Value.int (65039 : Int) 431)].toArray) 18) ([].toArray))
noncomputable def o115v6 (P : PySem.Params) : PySem.Obj := (PySem.Obj.mk (PySem.Value.type "range_iterator") none (PySem.Data.fields ([(PySem.Value.int (65040 : Int) 0), (PySem.Value.int (0 : Int) 0), (PySem.Value.int (1 : Int) 0)].toArray)) ([].toArray))
noncomputable def o116v6 (P : PySem.Params) : PySem.Obj := (PySem.Obj.mk (PySem.Value.type "tuple") none (PySem.Data.seq ([].toArray) 0) ([].toArray))
noncomputable def o117v6 (P : PySem.Params) : PySem.Obj := (PySem.Obj.mk (PySem.Value.type "StopIteration") none (PySem.Data.fields ([(PySem.Value.ref 116), PySem.Value.none, PySem.Value.none, PySem.Value.none, (PySem.Value.bool Bool.false), PySem.Value.none].toArray)) ([].toArray))
noncomputable def o118v6 (P : PySem.Params) : PySem.Obj := (PySem.Obj.mk (PySem.Value.type "list") none (PySem.Data.seq ([(PySem.Value.int (173 : Int) 400), (PySem.Value.int (847 : Int) 401), (PySem.Value.int (6150 : Int) 402), (PySem.Value.int (6155 : Int) 403), (PySem.Value.int (6156 : Int) 404), (PySem.Value.int (6157 : Int) 405), (PySem.Value.int (8203 : Int) 406), (PySem.Value.int (8204 : Int) 407), (PySem.Value.int (8205 : Int) 408), (PySem.Value.int (8288 : Int) 409), (PySem.Value.int (65279 : Int) 410), (PySem.Value.int (65024 : Int) 416), (PySem.Value.int (65025 : Int) 417), (PySem.Value.int (65026 : Int) 418), (PySem.Value.int (65027 : Int) 419), (PySem.Value.int (65028 : Int) 420), (PySem.Value.int (65029 : Int) 421), (PySem.Value.int (65030 : Int) 422), (PySem.Value.int (65031 : Int) 423), (PySem.Value.int (65032 : Int) 424), (PySem.Value.int (65033 : Int) 425), (PySem.Value.int (65034 : Int) 426), (PySem.Value.int (65035 : Int) 427), (PySem.Value.int (65036 : Int) 428), (PySem.Value.int (65037 : Int) 429), (PySem.Value.int (65038 : Int) 430), (PySem.Value.int (65039 : Int) 431)].toArray) 0) ([].toArray))
noncomputable def o119v6 (P : PySem.Params) : PySem.Obj := ⟨(PySem.Value.type "set"), none, .set ([((65024 : Int), (PySem.Value.int (65024 : Int) 416)), ((65025 : Int), (PySem.Value.int (65025 : Int) 417)), ((65026 : Int), (PySem.Value.int (65026 : Int) 418)), ((65027 : Int), (PySem.Value.int (65027 : Int) 419)), ((65028 : Int), (PySem.Value.int (65028 : Int) 420)), ((65029 : Int), (PySem.Value.int (65029 : Int) 421)), ((6150 : Int), (PySem.Value.int (6150 : Int) 402)), ((65030 : Int), (PySem.Value.int (65030 : Int) 422)), ((65031 : Int), (PySem.Value.int (65031 : Int) 423)), ((65032 : Int), (PySem.Value.int (65032 : Int) 424)), ((65033 : Int), (PySem.Value.int (65033 : Int) 425)), ((6155 : Int), (PySem.Value.int (6155 : Int) 403)), ((6156 : Int), (PySem.Value.int (6156 : Int) 404)), ((6157 : Int), (PySem.Value.int (6157 : Int) 405)), ((8203 : Int), (PySem.Value.int (8203 : Int) 406)), ((8204 : Int), (PySem.Value.int (8204 : Int) 407)), ((8205 : Int), (PySem.Value.int (8205 : Int) 408)), ((65034 : Int), (PySem.Value.int (65034 : Int) 426)), ((65035 : Int), (PySem.Value.int (65035 : Int) 427)), ((65036 : Int), (PySem.Value.int (65036 : Int) 428)), ((65037 : Int), (PySem.Value.int (65037 : Int) 429)), ((65038 : Int), (PySem.Value.int (65038 : Int) 430)), ((65039 : Int), (PySem.Value.int (65039 : Int) 431)), ((173 : Int), (PySem.Value.int (173 : Int) 400)), ((847 : Int), (PySem.Value.int (847 : Int) 401)), ((8288 : Int), (PySem.Value.int (8288 : Int) 409)), ((65279 : Int), (PySem.Value.int (65279 : Int) 410))].toArray) 29 ⟨127, ([0, 1, 2, 3, 4, 5, 6, 7, 8, 9, 10, 11, 12, 13, 14, 15, 16, 17, 18, 19, 20, 21, 22, 45, 79, 96, 127].toArray), ([].toArray), 0, !(P.followText "set-order"), 2, true⟩, ([].toArray)⟩
noncomputable def o120v6 (P : PySem.Params) : PySem.Obj := (PySem.Obj.mk (PySem.Value.type "list_iterator") none (PySem.Data.fields ([PySem.Value.none, (PySem.Value.int (27 : Int) 0)].toArray)) ([].toArray))
noncomputable def o121v6 (P : PySem.Params) : PySem.Obj := (PySem.Obj.mk (PySem.Value.type "tuple") none (PySem.Data.seq ([].toArray) 0) ([].toArray))
noncomputable def o122v6 (P : PySem.Params) : PySem.Obj := (PySem.Obj.mk (PySem.Value.type "StopIteration") none (PySem.Data.fields ([(PySem.Value.ref 121), PySem.Value.none, PySem.Value.none, PySem.Value.none, (PySem.Value.bool Bool.false), PySem.Value.none].toArray)) ([].toArray))
noncomputable def o3v7 (P : PySem.Params) : PySem.Obj := (PySem.Obj.mk (PySem.Value.type "dict") none (PySem.Data.dict ([(PySem.DictEntry.mk (PySem.PyData.keyHash P (PySem.Str.ofString "__name__")) (PySem.Value.str (PySem.Str.ofString "__name__") 165) (PySem.Value.str (PySem.Str.ofString "cpy313.wsgiref.headers") 467)), (PySem.DictEntry.mk (PySem.PyData.keyHash P (PySem.Str.ofString "__doc__")) (PySem.Value.str (PySem.Str.ofString "__doc__") 166) PySem.Value.none), (PySem.DictEntry.mk (PySem.PyData.keyHash P (PySem.Str.ofString "__package__")) (PySem.Value.str (PySem.Str.ofString "__package__") 167) PySem.Value.none), (PySem.DictEntry.mk (PySem.PyData.keyHash P (PySem.Str.ofString "__loader__")) (PySem.Value.str (PySem.Str.ofString "__loader__") 168) (PySem.Value.builtin "__main__.__loader__#opaque")), (PySem.DictEntry.mk (PySem.PyData.keyHash P (PySem.Str.ofString "__spec__")) (PySem.Value.str (PySem.Str.ofString "__spec__") 169) PySem.Value.none), (PySem.DictEntry.mk (PySem.PyData.keyHash P (PySem.Str.ofString "__annotations__")) (PySem.Value.str (PySem.Str.ofString "__annotations__") 170) (PySem.Value.ref 6)), (PySem.DictEntry.mk (PySem.PyData.keyHash P (PySem.Str.ofString "__builtins__")) (PySem.Value.str (PySem.Str.ofString "__builtins__") 171) (PySem.Value.ref 4)), (PySem.DictEntry.mk (PySem.PyData.keyHash P (PySem.Str.ofString "__file__")) (PySem.Value.str (PySem.Str.ofString "__file__") 173) (PySem.Value.str (PySem.Str.ofString "/claim/cut.py") 172)), (PySem.DictEntry.mk (PySem.PyData.keyHash P (PySem.Str.ofString "__cached__")) (PySem.Value.str (PySem.Str.ofString "__cached__") 174) PySem.Value.none), (PySem.DictEntry.mk (PySem.PyData.keyHash P (PySem.Str.ofString "_sre")) (PySem.Value.str (PySem.Str.ofString "_sre") 275) (PySem.Value.ref 12)), (PySem.DictEntry.mk (PySem.PyData.keyHash P (PySem.Str.ofString "_wall")) (PySem.Value.str (PySem.Str.ofString "_wall") 288) (PySem.Value.ref 38)), (PySem.DictEntry.mk (PySem.PyData.keyHash P (PySem.Str.ofString "Whitespace")) (PySem.Value.str (PySem.Str.ofString "Whitespace") 386) (PySem.Value.ref 100)), (PySem.DictEntry.mk (PySem.PyData.keyHash P (PySem.Str.ofString "_parse_varint")) (PySem.Value.str (PySem.Str.ofString "_parse_varint") 397) (PySem.Value.ref 111)), (PySem.DictEntry.mk (PySem.PyData.keyHash P (PySem.Str.ofString "b1_set")) (PySem.Value.str (PySem.Str.ofString "b1_set") 459) (PySem.Value.ref 119)), (PySem.DictEntry.mk (PySem.PyData.keyHash P (PySem.Str.ofString "in_table_b1")) (PySem.Value.str (PySem.Str.ofString "in_table_b1") 466) (PySem.Value.ref 129)), (PySem.DictEntry.mk (PySem.PyData.keyHash P (PySem.Str.ofString "_name_disallowed_re")) (PySem.Value.str (PySem.Str.ofString "_name_disallowed_re") 494) (PySem.Value.ref 134)), (PySem.DictEntry.mk (PySem.PyData.keyHash P (PySem.Str.ofString "_value_disallowed_re")) (PySem.Value.str (PySem.Str.ofString "_value_disallowed_re") 528) (PySem.Value.ref 139))].toArray) 17) ([].toArray))
noncomputable def o29v7 (P : PySem.Params) : PySem.Obj := (PySem.Obj.mk PySem.Value.none none (PySem.Data.fields ([(PySem.Value.int (2 : Int) 0), (PySem.Value.int (0 : Int) 0), (PySem.Value.ref 37), (PySem.Value.int (6 : Int) 0), (PySem.Value.int (0 : Int) 0), (PySem.Value.ref 44), (PySem.Value.int (54 : Int) 0), (PySem.Value.int (0 : Int) 0), (PySem.Value.ref 110), (PySem.Value.int (64 : Int) 0), (PySem.Value.int (0 : Int) 0), (PySem.Value.ref 128)].toArray)) ([].toArray))
noncomputable def o123v7 (P : PySem.Params) : PySem.Obj := (PySem.Obj.mk (PySem.Value.type "tuple") none (PySem.Data.seq ([].toArray) 0) ([].toArray))
noncomputable def o124v7 (P : PySem.Params) : PySem.Obj := (PySem.Obj.mk PySem.Value.none none (PySem.Data.fields ([].toArray)) ([].toArray))
noncomputable def o125v7 (P : PySem.Params) : PySem.Obj := (PySem.Obj.mk (PySem.Value.type "tuple") none (PySem.Data.seq ([(PySem.Value.str (PySem.Str.ofString "code") 463)].toArray) 0) ([].toArray))
noncomputable def o126v7 (P : PySem.Params) : PySem.Obj := (PySem.Obj.mk (PySem.Value.type "tuple") none (PySem.Data.seq ([].toArray) 0) ([].toArray))
noncomputable def o127v7 (P : PySem.Params) : PySem.Obj := ⟨PySem.Value.none, none, .func { name := (PySem.Str.ofString "in_table_b1"), qualname := (PySem.Str.ofString "in_table_b1"), params := pa8.1, body := .stmts bo8.1, scope := sc8.1, globals := 0, closure := [], defaults := PySem.Value.none, kwdefaults := PySem.Value.none, doc := PySem.Value.none, pyModule := PySem.Value.none, annotations := none, code := PySem.Value.none, closureTuple := PySem.Value.none, builtins := 0 }, ([].toArray)⟩
noncomputable def o128v7 (P : PySem.Params) : PySem.Obj := (PySem.Obj.mk (PySem.Value.type "code") none (PySem.Data.fields ([(PySem.Value.str (PySem.Str.ofString "in_table_b1") 460), (PySem.Value.str (PySem.Str.ofString "in_table_b1") 461), (PySem.Value.str (PySem.Str.ofString "/claim/cut.py") 462), (PySem.Value.int (64 : Int) 0), (PySem.Value.int (1 : Int) 0), (PySem.Value.int (0 : Int) 0), (PySem.Value.int (0 : Int) 0), (PySem.Value.int (3 : Int) 0), (PySem.Value.ref 123), (PySem.Value.bool Bool.true), (PySem.Value.int (276 : Int) 0), (PySem.Value.ref 124), PySem.Value.none, (PySem.Value.ref 125), (PySem.Value.ref 126), (PySem.Value.ref 127), (PySem.Value.int (464 : Int) 0), (PySem.Value.int (64 : Int) 0), (PySem.Value.str (PySem.Str.ofString "/claim/cut.py") 465)].toArray)) ([].toArray))
noncomputable def o129v7 (P : PySem.Params) : PySem.Obj := ⟨(PySem.Value.type "function"), none, .func { name := (PySem.Str.ofString "in_table_b1"), qualname := (PySem.Str.ofString "in_table_b1"), params := pa8.1, body := .stmts bo8.1, scope := sc8.1, globals := 3, closure := [], defaults := PySem.Value.none, kwdefaults := PySem.Value.none, doc := PySem.Value.none, pyModule := (PySem.Value.str (PySem.Str.ofString "cpy313.stringprep") 398), annotations := none, code := (PySem.Value.ref 128), closureTuple := PySem.Value.none, builtins := 0 }, ([].toArray)⟩
noncomputable def o130v7 (P : PySem.Params) : PySem.Obj := (PySem.Obj.mk (PySem.Value.type "list") none (PySem.Data.seq ([(PySem.Value.int (14 : Int) 472), (PySem.Value.int (10 : Int) 473), (PySem.Value.int (4 : Int) 474), (PySem.Value.int (1 : Int) 475), (PySem.Value.int (1 : Int) 476), (PySem.Value.int (22 : Int) 477), (PySem.Value.int (0 : Int) 478), (PySem.Value.int (31 : Int) 479), (PySem.Value.int (16 : Int) 480), (PySem.Value.int (127 : Int) 481), (PySem.Value.int (0 : Int) 482), (PySem.Value.int (13 : Int) 483), (PySem.Value.int (7 : Int) 484), (PySem.Value.int (22 : Int) 485), (PySem.Value.int (0 : Int) 486), (PySem.Value.int (31 : Int) 487), (PySem.Value.int (16 : Int) 488), (PySem.Value.int (127 : Int) 489), (PySem.Value.int (0 : Int) 490), (PySem.Value.int (1 : Int) 491)].toArray) 0) ([].toArray))
noncomputable def o131v7 (P : PySem.Params) : PySem.Obj := (PySem.Obj.mk (PySem.Value.type "dict") none (PySem.Data.dict ([].toArray) 0) ([].toArray))
noncomputable def o132v7 (P : PySem.Params) : PySem.Obj := (PySem.Obj.mk (PySem.Value.type "tuple") none (PySem.Data.seq ([PySem.Value.none].toArray) 0) ([].toArray))
noncomputable def o133v7 (P : PySem.Params) : PySem.Obj := (PySem.Obj.mk (PySem.Value.type "tuple") none (PySem.Data.seq ([(PySem.Value.int (14 : Int) 0), (PySem.Value.int (10 : Int) 0), (PySem.Value.int (4 : Int) 0), (PySem.Value.int (1 : Int) 0), (PySem.Value.int (1 : Int) 0), (PySem.Value.int (22 : Int) 0), (PySem.Value.int (0 : Int) 0), (PySem.Value.int (31 : Int) 0), (PySem.Value.int (16 : Int) 0), (PySem.Value.int (127 : Int) 0), (PySem.Value.int (0 : Int) 0), (PySem.Value.int (13 : Int) 0), (PySem.Value.int (7 : Int) 0), (PySem.Value.int (22 : Int) 0), (PySem.Value.int (0 : Int) 0), (PySem.Value.int (31 : Int) 0), (PySem.Value.int (16 : Int) 0), (PySem.Value.int (127 : Int) 0), (PySem.Value.int (0 : Int) 0), (PySem.Value.int (1 : Int) 0)].toArray) 0) ([].toArray))
noncomputable def o134v7 (P : PySem.Params) : PySem.Obj := (PySem.Obj.mk (PySem.Value.type "re.Pattern") none (PySem.Data.fields ([(PySem.Value.str (PySem.Str.ofString "[\\x00-\\x1F\\x7F]") 470), (PySem.Value.int (32 : Int) 493), (PySem.Value.int (0 : Int) 0), PySem.Value.none, PySem.Value.none, (PySem.Value.ref 133), (PySem.Value.int (0 : Int) 0)].toArray)) ([].toArray))
noncomputable def o135v7 (P : PySem.Params) : PySem.Obj := (PySem.Obj.mk (PySem.Value.type "list") none (PySem.Data.seq ([(PySem.Value.int (14 : Int) 498), (PySem.Value.int (14 : Int) 499), (PySem.Value.int (4 : Int) 500), (PySem.Value.int (1 : Int) 501), (PySem.Value.int (1 : Int) 502), (PySem.Value.int (9 : Int) 503), (PySem.Value.int (4294966783 : Int) 504), (PySem.Value.int (0 : Int) 505), (PySem.Value.int (0 : Int) 506), (PySem.Value.int (2147483648 : Int) 507), (PySem.Value.int (0 : Int) 508), (PySem.Value.int (0 : Int) 509), (PySem.Value.int (0 : Int) 510), (PySem.Value.int (0 : Int) 511), (PySem.Value.int (0 : Int) 512), (PySem.Value.int (13 : Int) 513), (PySem.Value.int (11 : Int) 514), (PySem.Value.int (9 : Int) 515), (PySem.Value.int (4294966783 : Int) 516), (PySem.Value.int (0 : Int) 517), (PySem.Value.int (0 : Int) 518), (PySem.Value.int (2147483648 : Int) 519), (PySem.Value.int (0 : Int) 520), (PySem.Value.int (0 : Int) 521), (PySem.Value.int (0 : Int) 522), (PySem.Value.int (0 : Int) 523), (PySem.Value.int (0 : Int) 524), (PySem.Value.int (1 : Int) 525)].toArray) 0) ([].toArray))
noncomputable def o136v7 (P : PySem.Params) : PySem.Obj := (PySem.Obj.mk (PySem.Value.type "dict") none (PySem.Data.dict ([].toArray) 0) ([].toArray))
noncomputable def o137v7 (P : PySem.Params) : PySem.Obj := (PySem.Obj.mk (PySem.Value.type "tuple") none (PySem.Data.seq ([PySem.Value.none].toArray) 0) ([].toArray))
noncomputable def o138v7 (P : PySem.Params) : PySem.Obj := (PySem.Obj.mk (PySem.Value.type "tuple") none (PySem.Data.seq ([(PySem.Value.int (14 : Int) 0), (PySem.Value.int (14 : Int) 0), (PySem.Value.int (4 : Int) 0), (PySem.Value.int (1 : Int) 0), (PySem.Value.int (1 : Int) 0), (PySem.Value.int (9 : Int) 0), (PySem.Value.int (4294966783 : Int) 0), (PySem.Value.int (0 : Int) 0), (PySem.Value.int (0 : Int) 0), (PySem.Value.int (2147483648 : Int) 0), (PySem.Value.int (0 : Int) 0), (PySem.Value.int (0 : Int) 0), (PySem.Value.int (0 : Int) 0), (PySem.Value.int (0 : Int) 0), (PySem.Value.int (0 : Int) 0), (PySem.Value.int (13 : Int) 0), (PySem.Value.int (11 : Int) 0), (PySem.Value.int (9 : Int) 0), (PySem.Value.int (4294966783 : Int) 0), (PySem.Value.int (0 : Int) 0), (PySem.Value.int (0 : Int) 0), (PySem.Value.int (2147483648 : Int) 0), (PySem.Value.int (0 : Int) 0), (PySem.Value.int (0 : Int) 0), (PySem.Value.int (0 : Int) 0), (PySem.Value.int (0 : Int) 0), (PySem.Value.int (0 : Int) 0), (PySem.Value.int (1 : Int) 0)].toArray) 0) ([].toArray))
noncomputable def o139v7 (P : PySem.Params) : PySem.Obj := (PySem.Obj.mk (PySem.Value.type "re.Pattern") none (PySem.Data.fields ([(PySem.Value.str (PySem.Str.ofString "[\\x00-\\x08\\x0A-\\x1F\\x7F]") 496), (PySem.Value.int (32 : Int) 527), (PySem.Value.int (0 : Int) 0), PySem.Value.none, PySem.Value.none, (PySem.Value.ref 138), (PySem.Value.int (0 : Int) 0)].toArray)) ([].toArray))
noncomputable def o3v8 (P : PySem.Params) : PySem.Obj := (PySem.Obj.mk (PySem.Value.type "dict") none (PySem.Data.dict ([(PySem.DictEntry.mk (PySem.PyData.keyHash P (PySem.Str.ofString "__name__")) (PySem.Value.str (PySem.Str.ofString "__name__") 165) (PySem.Value.str (PySem.Str.ofString "cpy313.wsgiref.headers") 467)), (PySem.DictEntry.mk (PySem.PyData.keyHash P (PySem.Str.ofString "__doc__")) (PySem.Value.str (PySem.Str.ofString "__doc__") 166) PySem.Value.none), (PySem.DictEntry.mk (PySem.PyData.keyHash P (PySem.Str.ofString "__package__")) (PySem.Value.str (PySem.Str.ofString "__package__") 167) PySem.Value.none), (PySem.DictEntry.mk (PySem.PyData.keyHash P (PySem.Str.ofString "__loader__")) (PySem.Value.str (PySem.Str.ofString "__loader__") 168) (PySem.Value.builtin "__main__.__loader__#opaque")), (PySem.DictEntry.mk (PySem.PyData.keyHash P (PySem.Str.ofString "__spec__")) (PySem.Value.str (PySem.Str.ofString "__spec__") 169) PySem.Value.none), (PySem.DictEntry.mk (PySem.PyData.keyHash P (PySem.Str.ofString "__annotations__")) (PySem.Value.str (PySem.Str.ofString "__annotations__") 170) (PySem.Value.ref 6)), (PySem.DictEntry.mk (PySem.PyData.keyHash P (PySem.Str.ofString "__builtins__")) (PySem.Value.str (PySem.Str.ofString "__builtins__") 171) (PySem.Value.ref 4)), (PySem.DictEntry.mk (PySem.PyData.keyHash P (PySem.Str.ofString "__file__")) (PySem.Value.str (PySem.Str.ofString "__file__") 173) (PySem.Value.str (PySem.Str.ofString "/claim/cut.py") 172)), (PySem.DictEntry.mk (PySem.PyData.keyHash P (PySem.Str.ofString "__cached__")) (PySem.Value.str (PySem.Str.ofString "__cached__") 174) PySem.Value.none), (PySem.DictEntry.mk (PySem.PyData.keyHash P (PySem.Str.ofString "_sre")) (PySem.Value.str (PySem.Str.ofString "_sre") 275) (PySem.Value.ref 12)), (PySem.DictEntry.mk (PySem.PyData.keyHash P (PySem.Str.ofString "_wall")) (PySem.Value.str (PySem.Str.ofString "_wall") 288) (PySem.Value.ref 38)), (PySem.DictEntry.mk (PySem.PyData.keyHash P (PySem.Str.ofString "Whitespace")) (PySem.Value.str (PySem.Str.ofString "Whitespace") 386) (PySem.Value.ref 100)), (PySem.DictEntry.mk (PySem.PyData.keyHash P (PySem.Str.ofString "_parse_varint")) (PySem.Value.str (PySem.Str.ofString "_parse_varint") 397) (PySem.Value.ref 111)), (PySem.DictEntry.mk (PySem.PyData.keyHash P (PySem.Str.ofString "b1_set")) (PySem.Value.str (PySem.Str.ofString "b1_set") 459) (PySem.Value.ref 119)), (PySem.DictEntry.mk (PySem.PyData.keyHash P (PySem.Str.ofString "in_table_b1")) (PySem.Value.str (PySem.Str.ofString "in_table_b1") 466) (PySem.Value.ref 129)), (PySem.DictEntry.mk (PySem.PyData.keyHash P (PySem.Str.ofString "_name_disallowed_re")) (PySem.Value.str (PySem.Str.ofString "_name_disallowed_re") 494) (PySem.Value.ref 134)), (PySem.DictEntry.mk (PySem.PyData.keyHash P (PySem.Str.ofString "_value_disallowed_re")) (PySem.Value.str (PySem.Str.ofString "_value_disallowed_re") 528) (PySem.Value.ref 139)), (PySem.DictEntry.mk (PySem.PyData.keyHash P (PySem.Str.ofString "Headers")) (PySem.Value.str (PySem.Str.ofString "Headers") 685) (PySem.Value.ref 262))].toArray) 18) ([].toArray))
noncomputable def o29v8 (P : PySem.Params) : PySem.Obj := (PySem.Obj.mk PySem.Value.none none (PySem.Data.fields ([(PySem.Value.int (2 : Int) 0), (PySem.Value.int (0 : Int) 0), (PySem.Value.ref 37), (PySem.Value.int (6 : Int) 0), (PySem.Value.int (0 : Int) 0), (PySem.Value.ref 44), (PySem.Value.int (54 : Int) 0), (PySem.Value.int (0 : Int) 0), (PySem.Value.ref 110), (PySem.Value.int (64 : Int) 0), (PySem.Value.int (0 : Int) 0), (PySem.Value.ref 128), (PySem.Value.int (69 : Int) 0), (PySem.Value.int (0 : Int) 0), (PySem.Value.ref 145)].toArray)) ([].toArray))
noncomputable def o140v8 (P : PySem.Params) : PySem.Obj := (PySem.Obj.mk (PySem.Value.type "tuple") none (PySem.Data.seq ([].toArray) 0) ([].toArray))
noncomputable def o141v8 (P : PySem.Params) : PySem.Obj := (PySem.Obj.mk (PySem.Value.type "builtin_function_or_method") none (PySem.Data.fields ([(PySem.Value.builtin "type.__prepare__"), (PySem.Value.type "type")].toArray)) ([].toArray))
noncomputable def o142v8 (P : PySem.Params) : PySem.Obj := (PySem.Obj.mk (PySem.Value.type "dict") none (PySem.Data.dict ([(PySem.DictEntry.mk (PySem.PyData.keyHash P (PySem.Str.ofString "__module__")) (PySem.Value.str (PySem.Str.ofString "__module__") 536) (PySem.Value.str (PySem.Str.ofString "cpy313.wsgiref.headers") 467)), (PySem.DictEntry.mk (PySem.PyData.keyHash P (PySem.Str.ofString "__qualname__")) (PySem.Value.str (PySem.Str.ofString "__qualname__") 538) (PySem.Value.str (PySem.Str.ofString "Headers") 537)), (PySem.DictEntry.mk (PySem.PyData.keyHash P (PySem.Str.ofString "__firstlineno__")) (PySem.Value.str (PySem.Str.ofString "__firstlineno__") 540) (PySem.Value.int (69 : Int) 539)), (PySem.DictEntry.mk (PySem.PyData.keyHash P (PySem.Str.ofString "__init__")) (PySem.Value.str (PySem.Str.ofString "__init__") 550) (PySem.Value.ref 154)), (PySem.DictEntry.mk (PySem.PyData.keyHash P (PySem.Str.ofString "_convert_string_type")) (PySem.Value.str (PySem.Str.ofString "_convert_string_type") 560) (PySem.Value.ref 161)), (PySem.DictEntry.mk (PySem.PyData.keyHash P (PySem.Str.ofString "__len__")) (PySem.Value.str (PySem.Str.ofString "__len__") 567) (PySem.Value.ref 168)), (PySem.DictEntry.mk (PySem.PyData.keyHash P (PySem.Str.ofString "__setitem__")) (PySem.Value.str (PySem.Str.ofString "__setitem__") 576) (PySem.Value.ref 175)), (PySem.DictEntry.mk (PySem.PyData.keyHash P (PySem.Str.ofString "__delitem__")) (PySem.Value.str (PySem.Str.ofString "__delitem__") 582) (PySem.Value.ref 180)), (PySem.DictEntry.mk (PySem.PyData.keyHash P (PySem.Str.ofString "__getitem__")) (PySem.Value.str (PySem.Str.ofString "__getitem__") 590) (PySem.Value.ref 187)), (PySem.DictEntry.mk (PySem.PyData.keyHash P (PySem.Str.ofString "__contains__")) (PySem.Value.str (PySem.Str.ofString "__contains__") 598) (PySem.Value.ref 194)), (PySem.DictEntry.mk (PySem.PyData.keyHash P (PySem.Str.ofString "get_all")) (PySem.Value.str (PySem.Str.ofString "get_all") 606) (PySem.Value.ref 201)), (PySem.DictEntry.mk (PySem.PyData.keyHash P (PySem.Str.ofString "get")) (PySem.Value.str (PySem.Str.ofString "get") 617) (PySem.Value.ref 209)), (PySem.DictEntry.mk (PySem.PyData.keyHash P (PySem.Str.ofString "keys")) (PySem.Value.str (PySem.Str.ofString "keys") 623) (PySem.Value.ref 214)), (PySem.DictEntry.mk (PySem.PyData.keyHash P (PySem.Str.ofString "values")) (PySem.Value.str (PySem.Str.ofString "values") 629) (PySem.Value.ref 219)), (PySem.DictEntry.mk (PySem.PyData.keyHash P (PySem.Str.ofString "items")) (PySem.Value.str (PySem.Str.ofString "items") 636) (PySem.Value.ref 226)), (PySem.DictEntry.mk (PySem.PyData.keyHash P (PySem.Str.ofString "__repr__")) (PySem.Value.str (PySem.Str.ofString "__repr__") 643) (PySem.Value.ref 233)), (PySem.DictEntry.mk (PySem.PyData.keyHash P (PySem.Str.ofString "__str__")) (PySem.Value.str (PySem.Str.ofString "__str__") 649) (PySem.Value.ref 238)), (PySem.DictEntry.mk (PySem.PyData.keyHash P (PySem.Str.ofString "__bytes__")) (PySem.Value.str (PySem.Str.ofString "__bytes__") 656) (PySem.Value.ref 245)), (PySem.DictEntry.mk (PySem.PyData.keyHash P (PySem.Str.ofString "setdefault")) (PySem.Value.str (PySem.Str.ofString "setdefault") 666) (PySem.Value.ref 252)), (PySem.DictEntry.mk (PySem.PyData.keyHash P (PySem.Str.ofString "add_header")) (PySem.Value.str (PySem.Str.ofString "add_header") 676) (PySem.Value.ref 259)), (PySem.DictEntry.mk (PySem.PyData.keyHash P (PySem.Str.ofString "__static_attributes__")) (PySem.Value.str (PySem.Str.ofString "__static_attributes__") 678) (PySem.Value.ref 260))].toArray) 21) ([].toArray))
noncomputable def o143v8 (P : PySem.Params) : PySem.Obj := (PySem.Obj.mk (PySem.Value.type "tuple") none (PySem.Data.seq ([].toArray) 0) ([].toArray))
noncomputable def o144v8 (P : PySem.Params) : PySem.Obj := (PySem.Obj.mk PySem.Value.none none (PySem.Data.fields ([(PySem.Value.int (71 : Int) 0), (PySem.Value.int (4 : Int) 0), (PySem.Value.ref 153), (PySem.Value.int (81 : Int) 0), (PySem.Value.int (4 : Int) 0), (PySem.Value.ref 160), (PySem.Value.int (89 : Int) 0), (PySem.Value.int (4 : Int) 0), (PySem.Value.ref 167), (PySem.Value.int (92 : Int) 0), (PySem.Value.int (4 : Int) 0), (PySem.Value.ref 174), (PySem.Value.int (96 : Int) 0), (PySem.Value.int (4 : Int) 0), (PySem.Value.ref 179), (PySem.Value.int (100 : Int) 0), (PySem.Value.int (4 : Int) 0), (PySem.Value.ref 186), (PySem.Value.int (103 : Int) 0), (PySem.Value.int (4 : Int) 0), (PySem.Value.ref 193), (PySem.Value.int (106 : Int) 0), (PySem.Value.int (4 : Int) 0), (PySem.Value.ref 200), (PySem.Value.int (109 : Int) 0), (PySem.Value.int (4 : Int) 0), (PySem.Value.ref 208), (PySem.Value.int (116 : Int) 0), (PySem.Value.int (4 : Int) 0), (PySem.Value.ref 213), (PySem.Value.int (119 : Int) 0), (PySem.Value.int (4 : Int) 0), (PySem.Value.ref 218), (PySem.Value.int (122 : Int) 0), (PySem.Value.int (4 : Int) 0), (PySem.Value.ref 225), (PySem.Value.int (125 : Int) 0), (PySem.Value.int (4 : Int) 0), (PySem.Value.ref 232), (PySem.Value.int (128 : Int) 0), (PySem.Value.int (4 : Int) 0), (PySem.Value.ref 237), (PySem.Value.int (131 : Int) 0), (PySem.Value.int (4 : Int) 0), (PySem.Value.ref 244), (PySem.Value.int (134 : Int) 0), (PySem.Value.int (4 : Int) 0), (PySem.Value.ref 251), (PySem.Value.int (142 : Int) 0), (PySem.Value.int (4 : Int) 0), (PySem.Value.ref 258)].toArray)) ([].toArray))
noncomputable def o145v8 (P : PySem.Params) : PySem.Obj := (PySem.Obj.mk (PySem.Value.type "code") none (PySem.Data.fields ([(PySem.Value.str (PySem.Str.ofString "Headers") 531), (PySem.Value.str (PySem.Str.ofString "Headers") 532), (PySem.Value.str (PySem.Str.ofString "/claim/cut.py") 533), (PySem.Value.int (69 : Int) 0), (PySem.Value.int (0 : Int) 0), (PySem.Value.int (0 : Int) 0), (PySem.Value.int (0 : Int) 0), (PySem.Value.int (0 : Int) 0), (PySem.Value.ref 143), (PySem.Value.bool Bool.false), (PySem.Value.int (276 : Int) 0), (PySem.Value.ref 144), PySem.Value.none, PySem.Value.none, PySem.Value.none, PySem.Value.none, (PySem.Value.int (534 : Int) 0), (PySem.Value.int (69 : Int) 0), (PySem.Value.str (PySem.Str.ofString "/claim/cut.py") 535)].toArray)) ([].toArray))
noncomputable def o146v8 (P : PySem.Params) : PySem.Obj := (PySem.Obj.mk (PySem.Value.type "frame") none PySem.Data.plain ([(some (PySem.Value.ref 145)), (some (PySem.Value.ref 3)), (some (PySem.Value.ref 142)), none, (some (PySem.Value.str (PySem.Str.ofString "cpy313.wsgiref.headers") 467)), none, (some (PySem.Value.ref 0))].toArray))
noncomputable def o147v8 (P : PySem.Params) : PySem.Obj := (PySem.Obj.mk (PySem.Value.type "tuple") none (PySem.Data.seq ([PySem.Value.none].toArray) 0) ([].toArray))
noncomputable def o148v8 (P : PySem.Params) : PySem.Obj := (PySem.Obj.mk (PySem.Value.type "tuple") none (PySem.Data.seq ([].toArray) 0) ([].toArray))
noncomputable def o149v8 (P : PySem.Params) : PySem.Obj := (PySem.Obj.mk PySem.Value.none none (PySem.Data.fields ([].toArray)) ([].toArray))
noncomputable def o150v8 (P : PySem.Params) : PySem.Obj := (PySem.Obj.mk (PySem.Value.type "tuple") none (PySem.Data.seq ([(PySem.Value.str (PySem.Str.ofString "self") 544), (PySem.Value.str (PySem.Str.ofString "headers") 545), (PySem.Value.str (PySem.Str.ofString "k") 546), (PySem.Value.str (PySem.Str.ofString "v") 547)].toArray) 0) ([].toArray))
noncomputable def o151v8 (P : PySem.Params) : PySem.Obj := (PySem.Obj.mk (PySem.Value.type "tuple") none (PySem.Data.seq ([].toArray) 0) ([].toArray))
noncomputable def o152v8 (P : PySem.Params) : PySem.Obj := ⟨PySem.Value.none, none, .func { name := (PySem.Str.ofString "__init__"), qualname := (PySem.Str.ofString "Headers.__init__"), params := pa12x0.1, body := .stmts bo12x0.1, scope := sc12x0.1, globals := 0, closure := [], defaults := PySem.Value.none, kwdefaults := PySem.Value.none, doc := PySem.Value.none, pyModule := PySem.Value.none, annotations := none, code := PySem.Value.none, closureTuple := PySem.Value.none, builtins := 0 }, ([].toArray)⟩
noncomputable def o153v8 (P : PySem.Params) : PySem.Obj := (PySem.Obj.mk (PySem.Value.type "code") none (PySem.Data.fields ([(PySem.Value.str (PySem.Str.ofString "__init__") 541), (PySem.Value.str (PySem.Str.ofString "Headers.__init__") 542), (PySem.Value.str (PySem.Str.ofString "/claim/cut.py") 543), (PySem.Value.int (71 : Int) 0), (PySem.Value.int (2 : Int) 0), (PySem.Value.int (0 : Int) 0), (PySem.Value.int (0 : Int) 0), (PySem.Value.int (3 : Int) 0), (PySem.Value.ref 148), (PySem.Value.bool Bool.true), (PySem.Value.int (276 : Int) 0), (PySem.Value.ref 149), PySem.Value.none, (PySem.Value.ref 150), (PySem.Value.ref 151), (PySem.Value.ref 152), (PySem.Value.int (548 : Int) 0), (PySem.Value.int (71 : Int) 0), (PySem.Value.str (PySem.Str.ofString "/claim/cut.py") 549)].toArray)) ([].toArray))
noncomputable def o154v8 (P : PySem.Params) : PySem.Obj := ⟨(PySem.Value.type "function"), none, .func { name := (PySem.Str.ofString "__init__"), qualname := (PySem.Str.ofString "Headers.__init__"), params := pa12x0.1, body := .stmts bo12x0.1, scope := sc12x0.1, globals := 3, closure := [], defaults := (PySem.Value.ref 147), kwdefaults := PySem.Value.none, doc := PySem.Value.none, pyModule := (PySem.Value.str (PySem.Str.ofString "cpy313.wsgiref.headers") 467), annotations := none, code := (PySem.Value.ref 153), closureTuple := PySem.Value.none, builtins := 0 }, ([].toArray)⟩
noncomputable def o155v8 (P : PySem.Params) : PySem.Obj := (PySem.Obj.mk (PySem.Value.type "tuple") none (PySem.Data.seq ([].toArray) 0) ([].toArray))
noncomputable def o156v8 (P : PySem.Params) : PySem.Obj := (PySem.Obj.mk PySem.Value.none none (PySem.Data.fields ([].toArray)) ([].toArray))
noncomputable def o157v8 (P : PySem.Params) : PySem.Obj := (PySem.Obj.mk (PySem.Value.type "tuple") none (PySem.Data.seq ([(PySem.Value.str (PySem.Str.ofString "self") 554), (PySem.Value.str (PySem.Str.ofString "value") 555), (PySem.Value.str (PySem.Str.ofString "name") 556), (PySem.Value.str (PySem.Str.ofString "regex") 557)].toArray) 0) ([].toArray))
noncomputable def o158v8 (P : PySem.Params) : PySem.Obj := (PySem.Obj.mk (PySem.Value.type "tuple") none (PySem.Data.seq ([].toArray) 0) ([].toArray))
noncomputable def o159v8 (P : PySem.Params) : PySem.Obj := ⟨PySem.Value.none, none, .func { name := (PySem.Str.ofString "_convert_string_type"), qualname := (PySem.Str.ofString "Headers._convert_string_type"), params := pa12x1.1, body := .stmts bo12x1.1, scope := sc12x1.1, globals := 0, closure := [], defaults := PySem.Value.none, kwdefaults := PySem.Value.none, doc := PySem.Value.none, pyModule := PySem.Value.none, annotations := none, code := PySem.Value.none, closureTuple := PySem.Value.none, builtins := 0 }, ([].toArray)⟩
noncomputable def o160v8 (P : PySem.Params) : PySem.Obj := (PySem.Obj.mk (PySem.Value.type "code") none (PySem.Data.fields ([(PySem.Value.str (PySem.Str.ofString "_convert_string_type") 551), (PySem.Value.str (PySem.Str.ofString "Headers._convert_string_type") 552), (PySem.Value.str (PySem.Str.ofString "/claim/cut.py") 553), (PySem.Value.int (81 : Int) 0), (PySem.Value.int (2 : Int) 0), (PySem.Value.int (0 : Int) 0), (PySem.Value.int (1 : Int) 0), (PySem.Value.int (3 : Int) 0), (PySem.Value.ref 155), (PySem.Value.bool Bool.true), (PySem.Value.int (276 : Int) 0), (PySem.Value.ref 156), PySem.Value.none, (PySem.Value.ref 157), (PySem.Value.ref 158), (PySem.Value.ref 159), (PySem.Value.int (558 : Int) 0), (PySem.Value.int (81 : Int) 0), (PySem.Value.str (PySem.Str.ofString "/claim/cut.py") 559)].toArray)) ([].toArray))
noncomputable def o161v8 (P : PySem.Params) : PySem.Obj := ⟨(PySem.Value.type "function"), none, .func { name := (PySem.Str.ofString "_convert_string_type"), qualname := (PySem.Str.ofString "Headers._convert_string_type"), params := pa12x1.1, body := .stmts bo12x1.1, scope := sc12x1.1, globals := 3, closure := [], defaults := PySem.Value.none, kwdefaults := PySem.Value.none, doc := PySem.Value.none, pyModule := (PySem.Value.str (PySem.Str.ofString "cpy313.wsgiref.headers") 467), annotations := none, code := (PySem.Value.ref 160), closureTuple := PySem.Value.none, builtins := 0 }, ([].toArray)⟩
noncomputable def o162v8 (P : PySem.Params) : PySem.Obj := (PySem.Obj.mk (PySem.Value.type "tuple") none (PySem.Data.seq ([].toArray) 0) ([].toArray))
noncomputable def o163v8 (P : PySem.Params) : PySem.Obj := (PySem.Obj.mk PySem.Value.none none (PySem.Data.fields ([].toArray)) ([].toArray))
noncomputable def o164v8 (P : PySem.Params) : PySem.Obj := (PySem.Obj.mk (PySem.Value.type "tuple") none (PySem.Data.seq ([(PySem.Value.str (PySem.Str.ofString "self") 564)].toArray) 0) ([].toArray))
noncomputable def o165v8 (P : PySem.Params) : PySem.Obj := (PySem.Obj.mk (PySem.Value.type "tuple") none (PySem.Data.seq ([].toArray) 0) ([].toArray))
noncomputable def o166v8 (P : PySem.Params) : PySem.Obj := ⟨PySem.Value.none, none, .func { name := (PySem.Str.ofString "__len__"), qualname := (PySem.Str.ofString "Headers.__len__"), params := pa12x2.1, body := .stmts bo12x2.1, scope := sc12x2.1, globals := 0, closure := [], defaults := PySem.Value.none, kwdefaults := PySem.Value.none, doc := PySem.Value.none, pyModule := PySem.Value.none, annotations := none, code := PySem.Value.none, closureTuple := PySem.Value.none, builtins := 0 }, ([].toArray)⟩
noncomputable def o167v8 (P : PySem.Params) : PySem.Obj := (PySem.Obj.mk (PySem.Value.type "code") none (PySem.Data.fields ([(PySem.Value.str (PySem.Str.ofString "__len__") 561), (PySem.Value.str (PySem.Str.ofString "Headers.__len__") 562), (PySem.Value.str (PySem.Str.ofString "/claim/cut.py") 563), (PySem.Value.int (89 : Int) 0), (PySem.Value.int (1 : Int) 0), (PySem.Value.int (0 : Int) 0), (PySem.Value.int (0 : Int) 0), (PySem.Value.int (3 : Int) 0), (PySem.Value.ref 162), (PySem.Value.bool Bool.true), (PySem.Value.int (276 : Int) 0), (PySem.Value.ref 163), PySem.Value.none, (PySem.Value.ref 164), (PySem.Value.ref 165), (PySem.Value.ref 166), (PySem.Value.int (565 : Int) 0), (PySem.Value.int (89 : Int) 0), (PySem.Value.str (PySem.Str.ofString "/claim/cut.py") 566)].toArray)) ([].toArray))
noncomputable def o168v8 (P : PySem.Params) : PySem.Obj := ⟨(PySem.Value.type "function"), none, .func { name := (PySem.Str.ofString "__len__"), qualname := (PySem.Str.ofString "Headers.__len__"), params := pa12x2.1, body := .stmts bo12x2.1, scope := sc12x2.1, globals := 3, closure := [], defaults := PySem.Value.none, kwdefaults := PySem.Value.none, doc := PySem.Value.none, pyModule := (PySem.Value.str (PySem.Str.ofString "cpy313.wsgiref.headers") 467), annotations := none, code := (PySem.Value.ref 167), closureTuple := PySem.Value.none, builtins := 0 }, ([].toArray)⟩
noncomputable def o169v8 (P : PySem.Params) : PySem.Obj := (PySem.Obj.mk (PySem.Value.type "tuple") none (PySem.Data.seq ([].toArray) 0) ([].toArray))
noncomputable def o170v8 (P : PySem.Params) : PySem.Obj := (PySem.Obj.mk PySem.Value.none none (PySem.Data.fields ([].toArray)) ([].toArray))
noncomputable def o171v8 (P : PySem.Params) : PySem.Obj := (PySem.Obj.mk (PySem.Value.type "tuple") none (PySem.Data.seq ([(PySem.Value.str (PySem.Str.ofString "self") 571), (PySem.Value.str (PySem.Str.ofString "name") 572), (PySem.Value.str (PySem.Str.ofString "val") 573)].toArray) 0) ([].toArray))
noncomputable def o172v8 (P : PySem.Params) : PySem.Obj := (PySem.Obj.mk (PySem.Value.type "tuple") none (PySem.Data.seq ([].toArray) 0) ([].toArray))
noncomputable def o173v8 (P : PySem.Params) : PySem.Obj := ⟨PySem.Value.none, none, .func { name := (PySem.Str.ofString "__setitem__"), qualname := (PySem.Str.ofString "Headers.__setitem__"), params := pa12x3.1, body := .stmts bo12x3.1, scope := sc12x3.1, globals := 0, closure := [], defaults := PySem.Value.none, kwdefaults := PySem.Value.none, doc := PySem.Value.none, pyModule := PySem.Value.none, annotations := none, code := PySem.Value.none, closureTuple := PySem.Value.none, builtins := 0 }, ([].toArray)⟩
noncomputable def o174v8 (P : PySem.Params) : PySem.Obj := (PySem.Obj.mk (PySem.Value.type "code") none (PySem.Data.fields ([(PySem.Value.str (PySem.Str.ofString "__setitem__") 568), (PySem.Value.str (PySem.Str.ofString "Headers.__setitem__") 569), (PySem.Value.str (PySem.Str.ofString "/claim/cut.py") 570), (PySem.Value.int (92 : Int) 0), (PySem.Value.int (3 : Int) 0), (PySem.Value.int (0 : Int) 0), (PySem.Value.int (0 : Int) 0), (PySem.Value.int (3 : Int) 0), (PySem.Value.ref 169), (PySem.Value.bool Bool.true), (PySem.Value.int (276 : Int) 0), (PySem.Value.ref 170), PySem.Value.none, (PySem.Value.ref 171), (PySem.Value.ref 172), (PySem.Value.ref 173), (PySem.Value.int (574 : Int) 0), (PySem.Value.int (92 : Int) 0), (PySem.Value.str (PySem.Str.ofString "/claim/cut.py") 575)].toArray)) ([].toArray))
noncomputable def o175v8 (P : PySem.Params) : PySem.Obj := ⟨(PySem.Value.type "function"), none, .func { name := (PySem.Str.ofString "__setitem__"), qualname := (PySem.Str.ofString "Headers.__setitem__"), params := pa12x3.1, body := .stmts bo12x3.1, scope := sc12x3.1, globals := 3, closure := [], defaults := PySem.Value.none, kwdefaults := PySem.Value.none, doc := PySem.Value.none, pyModule := (PySem.Value.str (PySem.Str.ofString "cpy313.wsgiref.headers") 467), annotations := none, code := (PySem.Value.ref 174), closureTuple := PySem.Value.none, builtins := 0 }, ([].toArray)⟩
noncomputable def o176v8 (P : PySem.Params) : PySem.Obj := (PySem.Obj.mk (PySem.Value.type "tuple") none (PySem.Data.seq ([].toArray) 0) ([].toArray))
noncomputable def o177v8 (P : PySem.Params) : PySem.Obj := (PySem.Obj.mk PySem.Value.none none (PySem.Data.fields ([].toArray)) ([].toArray))
noncomputable def o178v8 (P : PySem.Params) : PySem.Obj := ⟨PySem.Value.none, none, .func { name := (PySem.Str.ofString "__delitem__"), qualname := (PySem.Str.ofString "Headers.__delitem__"), params := pa12x4.1, body := .stmts bo12x4.1, scope := sc12x4.1, globals := 0, closure := [], defaults := PySem.Value.none, kwdefaults := PySem.Value.none, doc := PySem.Value.none, pyModule := PySem.Value.none, annotations := none, code := PySem.Value.none, closureTuple := PySem.Value.none, builtins := 0 }, ([].toArray)⟩
noncomputable def o179v8 (P : PySem.Params) : PySem.Obj := (PySem.Obj.mk (PySem.Value.type "code") none (PySem.Data.fields ([(PySem.Value.str (PySem.Str.ofString "__delitem__") 577), (PySem.Value.str (PySem.Str.ofString "Headers.__delitem__") 578), (PySem.Value.str (PySem.Str.ofString "/claim/cut.py") 579), (PySem.Value.int (96 : Int) 0), (PySem.Value.int (2 : Int) 0), (PySem.Value.int (0 : Int) 0), (PySem.Value.int (0 : Int) 0), (PySem.Value.int (3 : Int) 0), (PySem.Value.ref 176), (PySem.Value.bool Bool.true), (PySem.Value.int (276 : Int) 0), (PySem.Value.ref 177), PySem.Value.none, PySem.Value.none, PySem.Value.none, (PySem.Value.ref 178), (PySem.Value.int (580 : Int) 0), (PySem.Value.int (96 : Int) 0), (PySem.Value.str (PySem.Str.ofString "/claim/cut.py") 581)].toArray)) ([].toArray))
noncomputable def o180v8 (P : PySem.Params) : PySem.Obj := ⟨(PySem.Value.type "function"), none, .func { name := (PySem.Str.ofString "__delitem__"), qualname := (PySem.Str.ofString "Headers.__delitem__"), params := pa12x4.1, body := .stmts bo12x4.1, scope := sc12x4.1, globals := 3, closure := [], defaults := PySem.Value.none, kwdefaults := PySem.Value.none, doc := PySem.Value.none, pyModule := (PySem.Value.str (PySem.Str.ofString "cpy313.wsgiref.headers") 467), annotations := none, code := (PySem.Value.ref 179), closureTuple := PySem.Value.none, builtins := 0 }, ([].toArray)⟩
noncomputable def o181v8 (P : PySem.Params) : PySem.Obj := (PySem.Obj.mk (PySem.Value.type "tuple") none (PySem.Data.seq ([].toArray) 0) ([].toArray))
noncomputable def o182v8 (P : PySem.Params) : PySem.Obj := (PySem.Obj.mk PySem.Value.none none (PySem.Data.fields ([].toArray)) ([].toArray))
noncomputable def o183v8 (P : PySem.Params) : PySem.Obj := (PySem.Obj.mk (PySem.Value.type "tuple") none (PySem.Data.seq ([(PySem.Value.str (PySem.Str.ofString "self") 586), (PySem.Value.str (PySem.Str.ofString "name") 587)].toArray) 0) ([].toArray))
noncomputable def o184v8 (P : PySem.Params) : PySem.Obj := (PySem.Obj.mk (PySem.Value.type "tuple") none (PySem.Data.seq ([].toArray) 0) ([].toArray))
noncomputable def o185v8 (P : PySem.Params) : PySem.Obj := ⟨PySem.Value.none, none, .func { name := (PySem.Str.ofString "__getitem__"), qualname := (PySem.Str.ofString "Headers.__getitem__"), params := pa12x5.1, body := .stmts bo12x5.1, scope := sc12x5.1, globals := 0, closure := [], defaults := PySem.Value.none, kwdefaults := PySem.Value.none, doc := PySem.Value.none, pyModule := PySem.Value.none, annotations := none, code := PySem.Value.none, closureTuple := PySem.Value.none, builtins := 0 }, ([].toArray)⟩
noncomputable def o186v8 (P : PySem.Params) : PySem.Obj := (PySem.Obj.mk (PySem.Value.type "code") none (PySem.Data.fields ([(PySem.Value.str (PySem.Str.ofString "__getitem__") 583), (PySem.Value.str (PySem.Str.ofString "Headers.__getitem__") 584), (PySem.Value.str (PySem.Str.ofString "/claim/cut.py") 585), (PySem.Value.int (100 : Int) 0), (PySem.Value.int (2 : Int) 0), (PySem.Value.int (0 : Int) 0), (PySem.Value.int (0 : Int) 0), (PySem.Value.int (3 : Int) 0), (PySem.Value.ref 181), (PySem.Value.bool Bool.true), (PySem.Value.int (276 : Int) 0), (PySem.Value.ref 182), PySem.Value.none, (PySem.Value.ref 183), (PySem.Value.ref 184), (PySem.Value.ref 185), (PySem.Value.int (588 : Int) 0), (PySem.Value.int (100 : Int) 0), (PySem.Value.str (PySem.Str.ofString "/claim/cut.py") 589)].toArray)) ([].toArray))
noncomputable def o187v8 (P : PySem.Params) : PySem.Obj := ⟨(PySem.Value.type "function"), none, .func { name := (PySem.Str.ofString "__getitem__"), qualname := (PySem.Str.ofString "Headers.__getitem__"), params := pa12x5.1, body := .stmts bo12x5.1, scope := sc12x5.1, globals := 3, closure := [], defaults := PySem.Value.none, kwdefaults := PySem.Value.none, doc := PySem.Value.none, pyModule := (PySem.Value.str (PySem.Str.ofString "cpy313.wsgiref.headers") 467), annotations := none, code := (PySem.Value.ref 186), closureTuple := PySem.Value.none, builtins := 0 }, ([].toArray)⟩
noncomputable def o188v8 (P : PySem.Params) : PySem.Obj := (PySem.Obj.mk (PySem.Value.type "tuple") none (PySem.Data.seq ([].toArray) 0) ([].toArray))
noncomputable def o189v8 (P : PySem.Params) : PySem.Obj := (PySem.Obj.mk PySem.Value.none none (PySem.Data.fields ([].toArray)) ([].toArray))
noncomputable def o190v8 (P : PySem.Params) : PySem.Obj := (PySem.Obj.mk (PySem.Value.type "tuple") none (PySem.Data.seq ([(PySem.Value.str (PySem.Str.ofString "self") 594), (PySem.Value.str (PySem.Str.ofString "name") 595)].toArray) 0) ([].toArray))
noncomputable def o191v8 (P : PySem.Params) : PySem.Obj := (PySem.Obj.mk (PySem.Value.type "tuple") none (PySem.Data.seq ([].toArray) 0) ([].toArray))
noncomputable def o192v8 (P : PySem.Params) : PySem.Obj := ⟨PySem.Value.none, none, .func { name := (PySem.Str.ofString "__contains__"), qualname := (PySem.Str.ofString "Headers.__contains__"), params := pa12x6.1, body := .stmts bo12x6.1, scope := sc12x6.1, globals := 0, closure := [], defaults := PySem.Value.none, kwdefaults := PySem.Value.none, doc := PySem.Value.none, pyModule := PySem.Value.none, annotations := none, code := PySem.Value.none, closureTuple := PySem.Value.none, builtins := 0 }, ([].toArray)⟩
noncomputable def o193v8 (P : PySem.Params) : PySem.Obj := (PySem.Obj.mk (PySem.Value.type "code") none (PySem.Data.fields ([(PySem.Value.str (PySem.Str.ofString "__contains__") 591), (PySem.Value.str (PySem.Str.ofString "Headers.__contains__") 592), (PySem.Value.str (PySem.Str.ofString "/claim/cut.py") 593), (PySem.Value.int (103 : Int) 0), (PySem.Value.int (2 : Int) 0), (PySem.Value.int (0 : Int) 0), (PySem.Value.int (0 : Int) 0), (PySem.Value.int (3 : Int) 0), (PySem.Value.ref 188), (PySem.Value.bool Bool.true), (PySem.Value.int (276 : Int) 0), (PySem.Value.ref 189), PySem.Value.none, (PySem.Value.ref 190), (PySem.Value.ref 191), (PySem.Value.ref 192), (PySem.Value.int (596 : Int) 0), (PySem.Value.int (103 : Int) 0), (PySem.Value.str (PySem.Str.ofString "/claim/cut.py") 597)].toArray)) ([].toArray))
noncomputable def o194v8 (P : PySem.Params) : PySem.Obj := ⟨(PySem.Value.type "function"), none, .func { name := (PySem.Str.ofString "__contains__"), qualname := (PySem.Str.ofString "Headers.__contains__"), params := pa12x6.1, body := .stmts bo12x6.1, scope := sc12x6.1, globals := 3, closure := [], defaults := PySem.Value.none, kwdefaults := PySem.Value.none, doc := PySem.Value.none, pyModule := (PySem.Value.str (PySem.Str.ofString "cpy313.wsgiref.headers") 467), annotations := none, code := (PySem.Value.ref 193), closureTuple := PySem.Value.none, builtins := 0 }, ([].toArray)⟩
noncomputable def o195v8 (P : PySem.Params) : PySem.Obj := (PySem.Obj.mk (PySem.Value.type "tuple") none (PySem.Data.seq ([].toArray) 0) ([].toArray))
noncomputable def o196v8 (P : PySem.Params) : PySem.Obj := (PySem.Obj.mk PySem.Value.none none (PySem.Data.fields ([].toArray)) ([].toArray))
noncomputable def o197v8 (P : PySem.Params) : PySem.Obj := (PySem.Obj.mk (PySem.Value.type "tuple") none (PySem.Data.seq ([(PySem.Value.str (PySem.Str.ofString "self") 602), (PySem.Value.str (PySem.Str.ofString "name") 603)].toArray) 0) ([].toArray))
noncomputable def o198v8 (P : PySem.Params) : PySem.Obj := (PySem.Obj.mk (PySem.Value.type "tuple") none (PySem.Data.seq ([].toArray) 0) ([].toArray))
noncomputable def o199v8 (P : PySem.Params) : PySem.Obj := ⟨PySem.Value.none, none, .func { name := (PySem.Str.ofString "get_all"), qualname := (PySem.Str.ofString "Headers.get_all"), params := pa12x7.1, body := .stmts bo12x7.1, scope := sc12x7.1, globals := 0, closure := [], defaults := PySem.Value.none, kwdefaults := PySem.Value.none, doc := PySem.Value.none, pyModule := PySem.Value.none, annotations := none, code := PySem.Value.none, closureTuple := PySem.Value.none, builtins := 0 }, ([].toArray)⟩
noncomputable def o200v8 (P : PySem.Params) : PySem.Obj := (PySem.Obj.mk (PySem.Value.type "code") none (PySem.Data.fields ([(PySem.Value.str (PySem.Str.ofString "get_all") 599), (PySem.Value.str (PySem.Str.ofString "Headers.get_all") 600), (PySem.Value.str (PySem.Str.ofString "/claim/cut.py") 601), (PySem.Value.int (106 : Int) 0), (PySem.Value.int (2 : Int) 0), (PySem.Value.int (0 : Int) 0), (PySem.Value.int (0 : Int) 0), (PySem.Value.int (3 : Int) 0), (PySem.Value.ref 195), (PySem.Value.bool Bool.true), (PySem.Value.int (276 : Int) 0), (PySem.Value.ref 196), PySem.Value.none, (PySem.Value.ref 197), (PySem.Value.ref 198), (PySem.Value.ref 199), (PySem.Value.int (604 : Int) 0), (PySem.Value.int (106 : Int) 0), (PySem.Value.str (PySem.Str.ofString "/claim/cut.py") 605)].toArray)) ([].toArray))
noncomputable def o201v8 (P : PySem.Params) : PySem.Obj := ⟨(PySem.Value.type "function"), none, .func { name := (PySem.Str.ofString "get_all"), qualname := (PySem.Str.ofString "Headers.get_all"), params := pa12x7.1, body := .stmts bo12x7.1, scope := sc12x7.1, globals := 3, closure := [], defaults := PySem.Value.none, kwdefaults := PySem.Value.none, doc := PySem.Value.none, pyModule := (PySem.Value.str (PySem.Str.ofString "cpy313.wsgiref.headers") 467), annotations := none, code := (PySem.Value.ref 200), closureTuple := PySem.Value.none, builtins := 0 }, ([].toArray)⟩
noncomputable def o202v8 (P : PySem.Params) : PySem.Obj := (PySem.Obj.mk (PySem.Value.type "tuple") none (PySem.Data.seq ([PySem.Value.none].toArray) 0) ([].toArray))
noncomputable def o203v8 (P : PySem.Params) : PySem.Obj := (PySem.Obj.mk (PySem.Value.type "tuple") none (PySem.Data.seq ([].toArray) 0) ([].toArray))
noncomputable def o204v8 (P : PySem.Params) : PySem.Obj := (PySem.Obj.mk PySem.Value.none none (PySem.Data.fields ([].toArray)) ([].toArray))
noncomputable def o205v8 (P : PySem.Params) : PySem.Obj := (PySem.Obj.mk (PySem.Value.type "tuple") none (PySem.Data.seq ([(PySem.Value.str (PySem.Str.ofString "self") 610), (PySem.Value.str (PySem.Str.ofString "name") 611), (PySem.Value.str (PySem.Str.ofString "default") 612), (PySem.Value.str (PySem.Str.ofString "k") 613), (PySem.Value.str (PySem.Str.ofString "v") 614)].toArray) 0) ([].toArray))
noncomputable def o206v8 (P : PySem.Params) : PySem.Obj := (PySem.Obj.mk (PySem.Value.type "tuple") none (PySem.Data.seq ([].toArray) 0) ([].toArray))
noncomputable def o207v8 (P : PySem.Params) : PySem.Obj := ⟨PySem.Value.none, none, .func { name := (PySem.Str.ofString "get"), qualname := (PySem.Str.ofString "Headers.get"), params := pa12x8.1, body := .stmts bo12x8.1, scope := sc12x8.1, globals := 0, closure := [], defaults := PySem.Value.none, kwdefaults := PySem.Value.none, doc := PySem.Value.none, pyModule := PySem.Value.none, annotations := none, code := PySem.Value.none, closureTuple := PySem.Value.none, builtins := 0 }, ([].toArray)⟩
noncomputable def o208v8 (P : PySem.Params) : PySem.Obj := (PySem.Obj.mk (PySem.Value.type "code") none (PySem.Data.fields ([(PySem.Value.str (PySem.Str.ofString "get") 607), (PySem.Value.str (PySem.Str.ofString "Headers.get") 608), (PySem.Value.str (PySem.Str.ofString "/claim/cut.py") 609), (PySem.Value.int (109 : Int) 0), (PySem.Value.int (3 : Int) 0), (PySem.Value.int (0 : Int) 0), (PySem.Value.int (0 : Int) 0), (PySem.Value.int (3 : Int) 0), (PySem.Value.ref 203), (PySem.Value.bool Bool.true), (PySem.Value.int (276 : Int) 0), (PySem.Value.ref 204), PySem.Value.none, (PySem.Value.ref 205), (PySem.Value.ref 206), (PySem.Value.ref 207), (PySem.Value.int (615 : Int) 0), (PySem.Value.int (109 : Int) 0), (PySem.Value.str (PySem.Str.ofString "/claim/cut.py") 616)].toArray)) ([].toArray))
noncomputable def o209v8 (P : PySem.Params) : PySem.Obj := ⟨(PySem.Value.type "function"), none, .func { name := (PySem.Str.ofString "get"), qualname := (PySem.Str.ofString "Headers.get"), params := pa12x8.1, body := .stmts bo12x8.1, scope := sc12x8.1, globals := 3, closure := [], defaults := (PySem.Value.ref 202), kwdefaults := PySem.Value.none, doc := PySem.Value.none, pyModule := (PySem.Value.str (PySem.Str.ofString "cpy313.wsgiref.headers") 467), annotations := none, code := (PySem.Value.ref 208), closureTuple := PySem.Value.none, builtins := 0 }, ([].toArray)⟩
noncomputable def o210v8 (P : PySem.Params) : PySem.Obj := (PySem.Obj.mk (PySem.Value.type "tuple") none (PySem.Data.seq ([].toArray) 0) ([].toArray))
noncomputable def o211v8 (P : PySem.Params) : PySem.Obj := (PySem.Obj.mk PySem.Value.none none (PySem.Data.fields ([].toArray)) ([].toArray))
noncomputable def o212v8 (P : PySem.Params) : PySem.Obj := ⟨PySem.Value.none, none, .func { name := (PySem.Str.ofString "keys"), qualname := (PySem.Str.ofString "Headers.keys"), params := pa12x9.1, body := .stmts bo12x9.1, scope := sc12x9.1, globals := 0, closure := [], defaults := PySem.Value.none, kwdefaults := PySem.Value.none, doc := PySem.Value.none, pyModule := PySem.Value.none, annotations := none, code := PySem.Value.none, closureTuple := PySem.Value.none, builtins := 0 }, ([].toArray)⟩
noncomputable def o213v8 (P : PySem.Params) : PySem.Obj := (PySem.Obj.mk (PySem.Value.type "code") none (PySem.Data.fields ([(PySem.Value.str (PySem.Str.ofString "keys") 618), (PySem.Value.str (PySem.Str.ofString "Headers.keys") 619), (PySem.Value.str (PySem.Str.ofString "/claim/cut.py") 620), (PySem.Value.int (116 : Int) 0), (PySem.Value.int (1 : Int) 0), (PySem.Value.int (0 : Int) 0), (PySem.Value.int (0 : Int) 0), (PySem.Value.int (3 : Int) 0), (PySem.Value.ref 210), (PySem.Value.bool Bool.true), (PySem.Value.int (276 : Int) 0), (PySem.Value.ref 211), PySem.Value.none, PySem.Value.none, PySem.Value.none, (PySem.Value.ref 212), (PySem.Value.int (621 : Int) 0), (PySem.Value.int (116 : Int) 0), (PySem.Value.str (PySem.Str.ofString "/claim/cut.py") 622)].toArray)) ([].toArray))
noncomputable def o214v8 (P : PySem.Params) : PySem.Obj := ⟨(PySem.Value.type "function"), none, .func { name := (PySem.Str.ofString "keys"), qualname := (PySem.Str.ofString "Headers.keys"), params := pa12x9.1, body := .stmts bo12x9.1, scope := sc12x9.1, globals := 3, closure := [], defaults := PySem.Value.none, kwdefaults := PySem.Value.none, doc := PySem.Value.none, pyModule := (PySem.Value.str (PySem.Str.ofString "cpy313.wsgiref.headers") 467), annotations := none, code := (PySem.Value.ref 213), closureTuple := PySem.Value.none, builtins := 0 }, ([].toArray)⟩
noncomputable def o215v8 (P : PySem.Params) : PySem.Obj := (PySem.Obj.mk (PySem.Value.type "tuple") none (PySem.Data.seq ([].toArray) 0) ([].toArray))
noncomputable def o216v8 (P : PySem.Params) : PySem.Obj := (PySem.Obj.mk PySem.Value.none none (PySem.Data.fields ([].toArray)) ([].toArray))
noncomputable def o217v8 (P : PySem.Params) : PySem.Obj := ⟨PySem.Value.none, none, .func { name := (PySem.Str.ofString "values"), qualname := (PySem.Str.ofString "Headers.values"), params := pa12x10.1, body := .stmts bo12x10.1, scope := sc12x10.1, globals := 0, closure := [], defaults := PySem.Value.none, kwdefaults := PySem.Value.none, doc := PySem.Value.none, pyModule := PySem.Value.none, annotations := none, code := PySem.Value.none, closureTuple := PySem.Value.none, builtins := 0 }, ([].toArray)⟩
noncomputable def o218v8 (P : PySem.Params) : PySem.Obj := (PySem.Obj.mk (PySem.Value.type "code") none (PySem.Data.fields ([(PySem.Value.str (PySem.Str.ofString "values") 624), (PySem.Value.str (PySem.Str.ofString "Headers.values") 625), (PySem.Value.str (PySem.Str.ofString "/claim/cut.py") 626), (PySem.Value.int (119 : Int) 0), (PySem.Value.int (1 : Int) 0), (PySem.Value.int (0 : Int) 0), (PySem.Value.int (0 : Int) 0), (PySem.Value.int (3 : Int) 0), (PySem.Value.ref 215), (PySem.Value.bool Bool.true), (PySem.Value.int (276 : Int) 0), (PySem.Value.ref 216), PySem.Value.none, PySem.Value.none, PySem.Value.none, (PySem.Value.ref 217), (PySem.Value.int (627 : Int) 0), (PySem.Value.int (119 : Int) 0), (PySem.Value.str (PySem.Str.ofString "/claim/cut.py") 628)].toArray)) ([].toArray))
noncomputable def o219v8 (P : PySem.Params) : PySem.Obj := ⟨(PySem.Value.type "function"), none, .func { name := (PySem.Str.ofString "values"), qualname := (PySem.Str.ofString "Headers.values"), params := pa12x10.1, body := .stmts bo12x10.1, scope := sc12x10.1, globals := 3, closure := [], defaults := PySem.Value.none, kwdefaults := PySem.Value.none, doc := PySem.Value.none, pyModule := (PySem.Value.str (PySem.Str.ofString "cpy313.wsgiref.headers") 467), annotations := none, code := (PySem.Value.ref 218), closureTuple := PySem.Value.none, builtins := 0 }, ([].toArray)⟩
noncomputable def o220v8 (P : PySem.Params) : PySem.Obj := (PySem.Obj.mk (PySem.Value.type "tuple") none (PySem.Data.seq ([].toArray) 0) ([].toArray))
noncomputable def o221v8 (P : PySem.Params) : PySem.Obj := (PySem.Obj.mk PySem.Value.none none (PySem.Data.fields ([].toArray)) ([].toArray))
noncomputable def o222v8 (P : PySem.Params) : PySem.Obj := (PySem.Obj.mk (PySem.Value.type "tuple") none (PySem.Data.seq ([(PySem.Value.str (PySem.Str.ofString "self") 633)].toArray) 0) ([].toArray))
noncomputable def o223v8 (P : PySem.Params) : PySem.Obj := (PySem.Obj.mk (PySem.Value.type "tuple") none (PySem.Data.seq ([].toArray) 0) ([].toArray))
noncomputable def o224v8 (P : PySem.Params) : PySem.Obj := ⟨PySem.Value.none, none, .func { name := (PySem.Str.ofString "items"), qualname := (PySem.Str.ofString "Headers.items"), params := pa12x11.1, body := .stmts bo12x11.1, scope := sc12x11.1, globals := 0, closure := [], defaults := PySem.Value.none, kwdefaults := PySem.Value.none, doc := PySem.Value.none, pyModule := PySem.Value.none, annotations := none, code := PySem.Value.none, closureTuple := PySem.Value.none, builtins := 0 }, ([].toArray)⟩
noncomputable def o225v8 (P : PySem.Params) : PySem.Obj := (PySem.Obj.mk (PySem.Value.type "code") none (PySem.Data.fields ([(PySem.Value.str (PySem.Str.ofString "items") 630), (PySem.Value.str (PySem.Str.ofString "Headers.items") 631), (PySem.Value.str (PySem.Str.ofString "/claim/cut.py") 632), (PySem.Value.int (122 : Int) 0), (PySem.Value.int (1 : Int) 0), (PySem.Value.int (0 : Int) 0), (PySem.Value.int (0 : Int) 0), (PySem.Value.int (3 : Int) 0), (PySem.Value.ref 220), (PySem.Value.bool Bool.true), (PySem.Value.int (276 : Int) 0), (PySem.Value.ref 221), PySem.Value.none, (PySem.Value.ref 222), (PySem.Value.ref 223), (PySem.Value.ref 224), (PySem.Value.int (634 : Int) 0), (PySem.Value.int (122 : Int) 0), (PySem.Value.str (PySem.Str.ofString "/claim/cut.py") 635)].toArray)) ([].toArray))
noncomputable def o226v8 (P : PySem.Params) : PySem.Obj := ⟨(PySem.Value.type "function"), none, .func { name := (PySem.Str.ofString "items"), qualname := (PySem.Str.ofString "Headers.items"), params := pa12x11.1, body := .stmts bo12x11.1, scope := sc12x11.1, globals := 3, closure := [], defaults := PySem.Value.none, kwdefaults := PySem.Value.none, doc := PySem.Value.none, pyModule := (PySem.Value.str (PySem.Str.ofString "cpy313.wsgiref.headers") 467), annotations := none, code := (PySem.Value.ref 225), closureTuple := PySem.Value.none, builtins := 0 }, ([].toArray)⟩
noncomputable def o227v8 (P : PySem.Params) : PySem.Obj := (PySem.Obj.mk (PySem.Value.type "tuple") none (PySem.Data.seq ([].toArray) 0) ([].toArray))
noncomputable def o228v8 (P : PySem.Params) : PySem.Obj := (PySem.Obj.mk PySem.Value.none none (PySem.Data.fields ([].toArray)) ([].toArray))
noncomputable def o229v8 (P : PySem.Params) : PySem.Obj := (PySem.Obj.mk (PySem.Value.type "tuple") none (PySem.Data.seq ([(PySem.Value.str (PySem.Str.ofString "self") 640)].toArray) 0) ([].toArray))
noncomputable def o230v8 (P : PySem.Params) : PySem.Obj := (PySem.Obj.mk (PySem.Value.type "tuple") none (PySem.Data.seq ([].toArray) 0) ([].toArray))
noncomputable def o231v8 (P : PySem.Params) : PySem.Obj := ⟨PySem.Value.none, none, .func { name := (PySem.Str.ofString "__repr__"), qualname := (PySem.Str.ofString "Headers.__repr__"), params := pa12x12.1, body := .stmts bo12x12.1, scope := sc12x12.1, globals := 0, closure := [], defaults := PySem.Value.none, kwdefaults := PySem.Value.none, doc := PySem.Value.none, pyModule := PySem.Value.none, annotations := none, code := PySem.Value.none, closureTuple := PySem.Value.none, builtins := 0 }, ([].toArray)⟩
noncomputable def o232v8 (P : PySem.Params) : PySem.Obj := (PySem.Obj.mk (PySem.Value.type "code") none (PySem.Data.fields ([(PySem.Value.str (PySem.Str.ofString "__repr__") 637), (PySem.Value.str (PySem.Str.ofString "Headers.__repr__") 638), (PySem.Value.str (PySem.Str.ofString "/claim/cut.py") 639), (PySem.Value.int (125 : Int) 0), (PySem.Value.int (1 : Int) 0), (PySem.Value.int (0 : Int) 0), (PySem.Value.int (0 : Int) 0), (PySem.Value.int (3 : Int) 0), (PySem.Value.ref 227), (PySem.Value.bool Bool.true), (PySem.Value.int (276 : Int) 0), (PySem.Value.ref 228), PySem.Value.none, (PySem.Value.ref 229), (PySem.Value.ref 230), (PySem.Value.ref 231), (PySem.Value.int (641 : Int) 0), (PySem.Value.int (125 : Int) 0), (PySem.Value.str (PySem.Str.ofString "/claim/cut.py") 642)].toArray)) ([].toArray))
noncomputable def o233v8 (P : PySem.Params) : PySem.Obj := ⟨(PySem.Value.type "function"), none, .func { name := (PySem.Str.ofString "__repr__"), qualname := (PySem.Str.ofString "Headers.__repr__"), params := pa12x12.1, body := .stmts bo12x12.1, scope := sc12x12.1, globals := 3, closure := [], defaults := PySem.Value.none, kwdefaults := PySem.Value.none, doc := PySem.Value.none, pyModule := (PySem.Value.str (PySem.Str.ofString "cpy313.wsgiref.headers") 467), annotations := none, code := (PySem.Value.ref 232), closureTuple := PySem.Value.none, builtins := 0 }, ([].toArray)⟩
noncomputable def o234v8 (P : PySem.Params) : PySem.Obj := (PySem.Obj.mk (PySem.Value.type "tuple") none (PySem.Data.seq ([].toArray) 0) ([].toArray))
noncomputable def o235v8 (P : PySem.Params) : PySem.Obj := (PySem.Obj.mk PySem.Value.none none (PySem.Data.fields ([].toArray)) ([].toArray))
noncomputable def o236v8 (P : PySem.Params) : PySem.Obj := ⟨PySem.Value.none, none, .func { name := (PySem.Str.ofString "__str__"), qualname := (PySem.Str.ofString "Headers.__str__"), params := pa12x13.1, body := .stmts bo12x13.1, scope := sc12x13.1, globals := 0, closure := [], defaults := PySem.Value.none, kwdefaults := PySem.Value.none, doc := PySem.Value.none, pyModule := PySem.Value.none, annotations := none, code := PySem.Value.none, closureTuple := PySem.Value.none, builtins := 0 }, ([].toArray)⟩
noncomputable def o237v8 (P : PySem.Params) : PySem.Obj := (PySem.Obj.mk (PySem.Value.type "code") none (PySem.Data.fields ([(PySem.Value.str (PySem.Str.ofString "__str__") 644), (PySem.Value.str (PySem.Str.ofString "Headers.__str__") 645), (PySem.Value.str (PySem.Str.ofString "/claim/cut.py") 646), (PySem.Value.int (128 : Int) 0), (PySem.Value.int (1 : Int) 0), (PySem.Value.int (0 : Int) 0), (PySem.Value.int (0 : Int) 0), (PySem.Value.int (3 : Int) 0), (PySem.Value.ref 234), (PySem.Value.bool Bool.true), (PySem.Value.int (276 : Int) 0), (PySem.Value.ref 235), PySem.Value.none, PySem.Value.none, PySem.Value.none, (PySem.Value.ref 236), (PySem.Value.int (647 : Int) 0), (PySem.Value.int (128 : Int) 0), (PySem.Value.str (PySem.Str.ofString "/claim/cut.py") 648)].toArray)) ([].toArray))
noncomputable def o238v8 (P : PySem.Params) : PySem.Obj := ⟨(PySem.Value.type "function"), none, .func { name := (PySem.Str.ofString "__str__"), qualname := (PySem.Str.ofString "Headers.__str__"), params := pa12x13.1, body := .stmts bo12x13.1, scope := sc12x13.1, globals := 3, closure := [], defaults := PySem.Value.none, kwdefaults := PySem.Value.none, doc := PySem.Value.none, pyModule := (PySem.Value.str (PySem.Str.ofString "cpy313.wsgiref.headers") 467), annotations := none, code := (PySem.Value.ref 237), closureTuple := PySem.Value.none, builtins := 0 }, ([].toArray)⟩
noncomputable def o239v8 (P : PySem.Params) : PySem.Obj := (PySem.Obj.mk (PySem.Value.type "tuple") none (PySem.Data.seq ([].toArray) 0) ([].toArray))
noncomputable def o240v8 (P : PySem.Params) : PySem.Obj := (PySem.Obj.mk PySem.Value.none none (PySem.Data.fields ([].toArray)) ([].toArray))
noncomputable def o241v8 (P : PySem.Params) : PySem.Obj := (PySem.Obj.mk (PySem.Value.type "tuple") none (PySem.Data.seq ([(PySem.Value.str (PySem.Str.ofString "self") 653)].toArray) 0) ([].toArray))
noncomputable def o242v8 (P : PySem.Params) : PySem.Obj := (PySem.Obj.mk (PySem.Value.type "tuple") none (PySem.Data.seq ([].toArray) 0) ([].toArray))
noncomputable def o243v8 (P : PySem.Params) : PySem.Obj := ⟨PySem.Value.none, none, .func { name := (PySem.Str.ofString "__bytes__"), qualname := (PySem.Str.ofString "Headers.__bytes__"), params := pa12x14.1, body := .stmts bo12x14.1, scope := sc12x14.1, globals := 0, closure := [], defaults := PySem.Value.none, kwdefaults := PySem.Value.none, doc := PySem.Value.none, pyModule := PySem.Value.none, annotations := none, code := PySem.Value.none, closureTuple := PySem.Value.none, builtins := 0 }, ([].toArray)⟩
noncomputable def o244v8 (P : PySem.Params) : PySem.Obj := (PySem.Obj.mk (PySem.Value.type "code") none (PySem.Data.fields ([(PySem.Value.str (PySem.Str.ofString "__bytes__") 650), (PySem.Value.str (PySem.Str.ofString "Headers.__bytes__") 651), (PySem.Value.str (PySem.Str.ofString "/claim/cut.py") 652), (PySem.Value.int (131 : Int) 0), (PySem.Value.int (1 : Int) 0), (PySem.Value.int (0 : Int) 0), (PySem.Value.int (0 : Int) 0), (PySem.Value.int (3 : Int) 0), (PySem.Value.ref 239), (PySem.Value.bool Bool.true), (PySem.Value.int (276 : Int) 0), (PySem.Value.ref 240), PySem.Value.none, (PySem.Value.ref 241), (PySem.Value.ref 242), (PySem.Value.ref 243), (PySem.Value.int (654 : Int) 0), (PySem.Value.int (131 : Int) 0), (PySem.Value.str (PySem.Str.ofString "/claim/cut.py") 655)].toArray)) ([].toArray))
noncomputable def o245v8 (P : PySem.Params) : PySem.Obj := ⟨(PySem.Value.type "function"), none, .func { name := (PySem.Str.ofString "__bytes__"), qualname := (PySem.Str.ofString "Headers.__bytes__"), params := pa12x14.1, body := .stmts bo12x14.1, scope := sc12x14.1, globals := 3, closure := [], defaults := PySem.Value.none, kwdefaults := PySem.Value.none, doc := PySem.Value.none, pyModule := (PySem.Value.str (PySem.Str.ofString "cpy313.wsgiref.headers") 467), annotations := none, code := (PySem.Value.ref 244), closureTuple := PySem.Value.none, builtins := 0 }, ([].toArray)⟩
noncomputable def o246v8 (P : PySem.Params) : PySem.Obj := (PySem.Obj.mk (PySem.Value.type "tuple") none (PySem.Data.seq ([].toArray) 0) ([].toArray))
noncomputable def o247v8 (P : PySem.Params) : PySem.Obj := (PySem.Obj.mk PySem.Value.none none (PySem.Data.fields ([].toArray)) ([].toArray))
noncomputable def o248v8 (P : PySem.Params) : PySem.Obj := (PySem.Obj.mk (PySem.Value.type "tuple") none (PySem.Data.seq ([(PySem.Value.str (PySem.Str.ofString "self") 660), (PySem.Value.str (PySem.Str.ofString "name") 661), (PySem.Value.str (PySem.Str.ofString "value") 662), (PySem.Value.str (PySem.Str.ofString "result") 663)].toArray) 0) ([].toArray))
noncomputable def o249v8 (P : PySem.Params) : PySem.Obj := (PySem.Obj.mk (PySem.Value.type "tuple") none (PySem.Data.seq ([].toArray) 0) ([].toArray))
noncomputable def o250v8 (P : PySem.Params) : PySem.Obj := ⟨PySem.Value.none, none, .func { name := (PySem.Str.ofString "setdefault"), qualname := (PySem.Str.ofString "Headers.setdefault"), params := pa12x15.1, body := .stmts bo12x15.1, scope := sc12x15.1, globals := 0, closure := [], defaults := PySem.Value.none, kwdefaults := PySem.Value.none, doc := PySem.Value.none, pyModule := PySem.Value.none, annotations := none, code := PySem.Value.none, closureTuple := PySem.Value.none, builtins := 0 }, ([].toArray)⟩
noncomputable def o251v8 (P : PySem.Params) : PySem.Obj := (PySem.Obj.mk (PySem.Value.type "code") none (PySem.Data.fields ([(PySem.Value.str (PySem.Str.ofString "setdefault") 657), (PySem.Value.str (PySem.Str.ofString "Headers.setdefault") 658), (PySem.Value.str (PySem.Str.ofString "/claim/cut.py") 659), (PySem.Value.int (134 : Int) 0), (PySem.Value.int (3 : Int) 0), (PySem.Value.int (0 : Int) 0), (PySem.Value.int (0 : Int) 0), (PySem.Value.int (3 : Int) 0), (PySem.Value.ref 246), (PySem.Value.bool Bool.true), (PySem.Value.int (276 : Int) 0), (PySem.Value.ref 247), PySem.Value.none, (PySem.Value.ref 248), (PySem.Value.ref 249), (PySem.Value.ref 250), (PySem.Value.int (664 : Int) 0), (PySem.Value.int (134 : Int) 0), (PySem.Value.str (PySem.Str.ofString "/claim/cut.py") 665)].toArray)) ([].toArray))
noncomputable def o252v8 (P : PySem.Params) : PySem.Obj := ⟨(PySem.Value.type "function"), none, .func { name := (PySem.Str.ofString "setdefault"), qualname := (PySem.Str.ofString "Headers.setdefault"), params := pa12x15.1, body := .stmts bo12x15.1, scope := sc12x15.1, globals := 3, closure := [], defaults := PySem.Value.none, kwdefaults := PySem.Value.none, doc := PySem.Value.none, pyModule := (PySem.Value.str (PySem.Str.ofString "cpy313.wsgiref.headers") 467), annotations := none, code := (PySem.Value.ref 251), closureTuple := PySem.Value.none, builtins := 0 }, ([].toArray)⟩
noncomputable def o253v8 (P : PySem.Params) : PySem.Obj := (PySem.Obj.mk (PySem.Value.type "tuple") none (PySem.Data.seq ([].toArray) 0) ([].toArray))
noncomputable def o254v8 (P : PySem.Params) : PySem.Obj := (PySem.Obj.mk PySem.Value.none none (PySem.Data.fields ([].toArray)) ([].toArray))
noncomputable def o255v8 (P : PySem.Params) : PySem.Obj := (PySem.Obj.mk (PySem.Value.type "tuple") none (PySem.Data.seq ([(PySem.Value.str (PySem.Str.ofString "self") 670), (PySem.Value.str (PySem.Str.ofString "_name") 671), (PySem.Value.str (PySem.Str.ofString "_value") 672), (PySem.Value.str (PySem.Str.ofString "_params") 673)].toArray) 0) ([].toArray))
noncomputable def o256v8 (P : PySem.Params) : PySem.Obj := (PySem.Obj.mk (PySem.Value.type "tuple") none (PySem.Data.seq ([].toArray) 0) ([].toArray))
noncomputable def o257v8 (P : PySem.Params) : PySem.Obj := ⟨PySem.Value.none, none, .func { name := (PySem.Str.ofString "add_header"), qualname := (PySem.Str.ofString "Headers.add_header"), params := pa12x16.1, body := .stmts bo12x16.1, scope := sc12x16.1, globals := 0, closure := [], defaults := PySem.Value.none, kwdefaults := PySem.Value.none, doc := PySem.Value.none, pyModule := PySem.Value.none, annotations := none, code := PySem.Value.none, closureTuple := PySem.Value.none, builtins := 0 }, ([].toArray)⟩
noncomputable def o258v8 (P : PySem.Params) : PySem.Obj := (PySem.Obj.mk (PySem.Value.type "code") none (PySem.Data.fields ([(PySem.Value.str (PySem.Str.ofString "add_header") 667), (PySem.Value.str (PySem.Str.ofString "Headers.add_header") 668), (PySem.Value.str (PySem.Str.ofString "/claim/cut.py") 669), (PySem.Value.int (142 : Int) 0), (PySem.Value.int (3 : Int) 0), (PySem.Value.int (0 : Int) 0), (PySem.Value.int (0 : Int) 0), (PySem.Value.int (11 : Int) 0), (PySem.Value.ref 253), (PySem.Value.bool Bool.true), (PySem.Value.int (276 : Int) 0), (PySem.Value.ref 254), PySem.Value.none, (PySem.Value.ref 255), (PySem.Value.ref 256), (PySem.Value.ref 257), (PySem.Value.int (674 : Int) 0), (PySem.Value.int (142 : Int) 0), (PySem.Value.str (PySem.Str.ofString "/claim/cut.py") 675)].toArray)) ([].toArray))
noncomputable def o259v8 (P : PySem.Params) : PySem.Obj := ⟨(PySem.Value.type "function"), none, .func { name := (PySem.Str.ofString "add_header"), qualname := (PySem.Str.ofString "Headers.add_header"), params := pa12x16.1, body := .stmts bo12x16.1, scope := sc12x16.1, globals := 3, closure := [], defaults := PySem.Value.none, kwdefaults := PySem.Value.none, doc := PySem.Value.none, pyModule := (PySem.Value.str (PySem.Str.ofString "cpy313.wsgiref.headers") 467), annotations := none, code := (PySem.Value.ref 258), closureTuple := PySem.Value.none, builtins := 0 }, ([].toArray)⟩
noncomputable def o260v8 (P : PySem.Params) : PySem.Obj := (PySem.Obj.mk (PySem.Value.type "tuple") none (PySem.Data.seq ([(PySem.Value.str (PySem.Str.ofString "_headers") 677)].toArray) 0) ([].toArray))
noncomputable def o261v8 (P : PySem.Params) : PySem.Obj := (PySem.Obj.mk (PySem.Value.type "dict") none (PySem.Data.dict ([(PySem.DictEntry.mk (PySem.PyData.keyHash P (PySem.Str.ofString "__module__")) (PySem.Value.str (PySem.Str.ofString "__module__") 536) (PySem.Value.str (PySem.Str.ofString "cpy313.wsgiref.headers") 467)), (PySem.DictEntry.mk (PySem.PyData.keyHash P (PySem.Str.ofString "__firstlineno__")) (PySem.Value.str (PySem.Str.ofString "__firstlineno__") 540) (PySem.Value.int (69 : Int) 539)), (PySem.DictEntry.mk (PySem.PyData.keyHash P (PySem.Str.ofString "__init__")) (PySem.Value.str (PySem.Str.ofString "__init__") 550) (PySem.Value.ref 154)), (PySem.DictEntry.mk (PySem.PyData.keyHash P (PySem.Str.ofString "_convert_string_type")) (PySem.Value.str (PySem.Str.ofString "_convert_string_type") 560) (PySem.Value.ref 161)), (PySem.DictEntry.mk (PySem.PyData.keyHash P (PySem.Str.ofString "__len__")) (PySem.Value.str (PySem.Str.ofString "__len__") 567) (PySem.Value.ref 168)), (PySem.DictEntry.mk (PySem.PyData.keyHash P (PySem.Str.ofString "__setitem__")) (PySem.Value.str (PySem.Str.ofString "__setitem__") 576) (PySem.Value.ref 175)), (PySem.DictEntry.mk (PySem.PyData.keyHash P (PySem.Str.ofString "__delitem__")) (PySem.Value.str (PySem.Str.ofString "__delitem__") 582) (PySem.Value.ref 180)), (PySem.DictEntry.mk (PySem.PyData.keyHash P (PySem.Str.ofString "__getitem__")) (PySem.Value.str (PySem.Str.ofString "__getitem__") 590) (PySem.Value.ref 187)), (PySem.DictEntry.mk (PySem.PyData.keyHash P (PySem.Str.ofString "__contains__")) (PySem.Value.str (PySem.Str.ofString "__contains__") 598) (PySem.Value.ref 194)), (PySem.DictEntry.mk (PySem.PyData.keyHash P (PySem.Str.ofString "get_all")) (PySem.Value.str (PySem.Str.ofString "get_all") 606) (PySem.Value.ref 201)), (PySem.DictEntry.mk (PySem.PyData.keyHash P (PySem.Str.ofString "get")) (PySem.Value.str (PySem.Str.ofString "get") 617) (PySem.Value.ref 209)), (PySem.DictEntry.mk (PySem.PyData.keyHash P (PySem.Str.ofString "keys")) (PySem.Value.str (PySem.Str.ofString "keys") 623) (PySem.Value.ref 214)), (PySem.DictEntry.mk (PySem.PyData.keyHash P (PySem.Str.ofString "values")) (PySem.Value.str (PySem.Str.ofString "values") 629) (PySem.Value.ref 219)), (PySem.DictEntry.mk (PySem.PyData.keyHash P (PySem.Str.ofString "items")) (PySem.Value.str (PySem.Str.ofString "items") 636) (PySem.Value.ref 226)), (PySem.DictEntry.mk (PySem.PyData.keyHash P (PySem.Str.ofString "__repr__")) (PySem.Value.str (PySem.Str.ofString "__repr__") 643) (PySem.Value.ref 233)), (PySem.DictEntry.mk (PySem.PyData.keyHash P (PySem.Str.ofString "__str__")) (PySem.Value.str (PySem.Str.ofString "__str__") 649) (PySem.Value.ref 238)), (PySem.DictEntry.mk (PySem.PyData.keyHash P (PySem.Str.ofString "__bytes__")) (PySem.Value.str (PySem.Str.ofString "__bytes__") 656) (PySem.Value.ref 245)), (PySem.DictEntry.mk (PySem.PyData.keyHash P (PySem.Str.ofString "setdefault")) (PySem.Value.str (PySem.Str.ofString "setdefault") 666) (PySem.Value.ref 252)), (PySem.DictEntry.mk (PySem.PyData.keyHash P (PySem.Str.ofString "add_header")) (PySem.Value.str (PySem.Str.ofString "add_header") 676) (PySem.Value.ref 259)), (PySem.DictEntry.mk (PySem.PyData.keyHash P (PySem.Str.ofString "__static_attributes__")) (PySem.Value.str (PySem.Str.ofString "__static_attributes__") 678) (PySem.Value.ref 260)), (PySem.DictEntry.mk (PySem.PyData.keyHash P (PySem.Str.ofString "__dict__")) (PySem.Value.str (PySem.Str.ofString "__dict__") 680) (PySem.Value.ref 263)), (PySem.DictEntry.mk (PySem.PyData.keyHash P (PySem.Str.ofString "__weakref__")) (PySem.Value.str (PySem.Str.ofString "__weakref__") 682) (PySem.Value.ref 264)), (PySem.DictEntry.mk (PySem.PyData.keyHash P (PySem.Str.ofString "__doc__")) (PySem.Value.str (PySem.Str.ofString "__doc__") 683) PySem.Value.none)].toArray) 4) ([].toArray))
noncomputable def o262v8 (P : PySem.Params) : PySem.Obj := (PySem.Obj.mk (PySem.Value.type "type") none (PySem.Data.cls (PySem.ClassData.mk (PySem.Str.ofString "Headers") [(PySem.Value.type "object")] [(PySem.Value.ref 262), (PySem.Value.type "object")] 261 (PySem.Str.ofString "Headers") Bool.true [] [] Bool.false none Bool.false)) ([none, none, (some (PySem.Value.str (PySem.Str.ofString "Headers") 529)), (some (PySem.Value.str (PySem.Str.ofString "Headers") 537)), (some (PySem.Value.builtin "object.__new__")), (some (PySem.Value.bool Bool.true))].toArray))
noncomputable def o263v8 (P : PySem.Params) : PySem.Obj := (PySem.Obj.mk (PySem.Value.type "getset_descriptor") none (PySem.Data.fields ([(PySem.Value.str (PySem.Str.ofString "__dict__") 679), (PySem.Value.ref 262), (PySem.Value.builtin "function.__dict__"), (PySem.Value.builtin "function.__dict__#set")].toArray)) ([].toArray))
noncomputable def o264v8 (P : PySem.Params) : PySem.Obj := (PySem.Obj.mk (PySem.Value.type "getset_descriptor") none (PySem.Data.fields ([(PySem.Value.str (PySem.Str.ofString "__weakref__") 681), (PySem.Value.ref 262), (PySem.Value.builtin "ExceptionGroup.__weakref__"), PySem.Value.none].toArray)) ([].toArray))
noncomputable def o265v8 (P : PySem.Params) : PySem.Obj := (PySem.Obj.mk (PySem.Value.type "super") none (PySem.Data.fields ([(PySem.Value.ref 262), (PySem.Value.ref 262), (PySem.Value.ref 262)].toArray)) ([].toArray))
noncomputable def o266v8 (P : PySem.Params) : PySem.Obj := (PySem.Obj.mk (PySem.Value.type "builtin_function_or_method") none (PySem.Data.fields ([(PySem.Value.builtin "object.__init_subclass__"), (PySem.Value.ref 262)].toArray)) ([].toArray))
noncomputable def o3v9 (P : PySem.Params) : PySem.Obj := (PySem.Obj.mk (PySem.Value.type "dict") none (PySem.Data.dict ([(PySem.DictEntry.mk (PySem.PyData.keyHash P (PySem.Str.ofString "__name__")) (PySem.Value.str (PySem.Str.ofString "__name__") 165) (PySem.Value.str (PySem.Str.ofString "law_sn0066_02") 686)), (PySem.DictEntry.mk (PySem.PyData.keyHash P (PySem.Str.ofString "__doc__")) (PySem.Value.str (PySem.Str.ofString "__doc__") 166) PySem.Value.none), (PySem.DictEntry.mk (PySem.PyData.keyHash P (PySem.Str.ofString "__package__")) (PySem.Value.str (PySem.Str.ofString "__package__") 167) PySem.Value.none), (PySem.DictEntry.mk (PySem.PyData.keyHash P (PySem.Str.ofString "__loader__")) (PySem.Value.str (PySem.Str.ofString "__loader__") 168) (PySem.Value.builtin "__main__.__loader__#opaque")), (PySem.DictEntry.mk (PySem.PyData.keyHash P (PySem.Str.ofString "__spec__")) (PySem.Value.str (PySem.Str.ofString "__spec__") 169) PySem.Value.none), (PySem.DictEntry.mk (PySem.PyData.keyHash P (PySem.Str.ofString "__annotations__")) (PySem.Value.str (PySem.Str.ofString "__annotations__") 170) (PySem.Value.ref 6)), (PySem.DictEntry.mk (PySem.PyData.keyHash P (PySem.Str.ofString "__builtins__")) (PySem.Value.str (PySem.Str.ofString "__builtins__") 171) (PySem.Value.ref 4)), (PySem.DictEntry.mk (PySem.PyData.keyHash P (PySem.Str.ofString "__file__")) (PySem.Value.str (PySem.Str.ofString "__file__") 173) (PySem.Value.str (PySem.Str.ofString "/claim/cut.py") 172)), (PySem.DictEntry.mk (PySem.PyData.keyHash P (PySem.Str.ofString "__cached__")) (PySem.Value.str (PySem.Str.ofString "__cached__") 174) PySem.Value.none), (PySem.DictEntry.mk (PySem.PyData.keyHash P (PySem.Str.ofString "_sre")) (PySem.Value.str (PySem.Str.ofString "_sre") 275) (PySem.Value.ref 12)), (PySem.DictEntry.mk (PySem.PyData.keyHash P (PySem.Str.ofString "_wall")) (PySem.Value.str (PySem.Str.ofString "_wall") 288) (PySem.Value.ref 38)), (PySem.DictEntry.mk (PySem.PyData.keyHash P (PySem.Str.ofString "Whitespace")) (PySem.Value.str (PySem.Str.ofString "Whitespace") 386) (PySem.Value.ref 100)), (PySem.DictEntry.mk (PySem.PyData.keyHash P (PySem.Str.ofString "_parse_varint")) (PySem.Value.str (PySem.Str.ofString "_parse_varint") 397) (PySem.Value.ref 111)), (PySem.DictEntry.mk (PySem.PyData.keyHash P (PySem.Str.ofString "b1_set")) (PySem.Value.str (PySem.Str.ofString "b1_set") 459) (PySem.Value.ref 119)), (PySem.DictEntry.mk (PySem.PyData.keyHash P (PySem.Str.ofString "in_table_b1")) (PySem.Value.str (PySem.Str.ofString "in_table_b1") 466) (PySem.Value.ref 129)), (PySem.DictEntry.mk (PySem.PyData.keyHash P (PySem.Str.ofString "_name_disallowed_re")) (PySem.Value.str (PySem.Str.ofString "_name_disallowed_re") 494) (PySem.Value.ref 134)), (PySem.DictEntry.mk (PySem.PyData.keyHash P (PySem.Str.ofString "_value_disallowed_re")) (PySem.Value.str (PySem.Str.ofString "_value_disallowed_re") 528) (PySem.Value.ref 139)), (PySem.DictEntry.mk (PySem.PyData.keyHash P (PySem.Str.ofString "Headers")) (PySem.Value.str (PySem.Str.ofString "Headers") 685) (PySem.Value.ref 262)), (PySem.DictEntry.mk (PySem.PyData.keyHash P (PySem.Str.ofString "_law_read")) (PySem.Value.str (PySem.Str.ofString "_law_read") 696) (PySem.Value.ref 273)), (PySem.DictEntry.mk (PySem.PyData.keyHash P (PySem.Str.ofString "_law_unseen")) (PySem.Value.str (PySem.Str.ofString "_law_unseen") 704) (PySem.Value.ref 280)), (PySem.DictEntry.mk (PySem.PyData.keyHash P (PySem.Str.ofString "_law_beside")) (PySem.Value.str (PySem.Str.ofString "_law_beside") 711) (PySem.Value.ref 287)), (PySem.DictEntry.mk (PySem.PyData.keyHash P (PySem.Str.ofString "_law_clean")) (PySem.Value.str (PySem.Str.ofString "_law_clean") 721) (PySem.Value.ref 294)), (PySem.DictEntry.mk (PySem.PyData.keyHash P (PySem.Str.ofString "_law_draw")) (PySem.Value.str (PySem.Str.ofString "_law_draw") 727) (PySem.Value.ref 299)), (PySem.DictEntry.mk (PySem.PyData.keyHash P (PySem.Str.ofString "_law_moves")) (PySem.Value.str (PySem.Str.ofString "_law_moves") 733) (PySem.Value.ref 304)), (PySem.DictEntry.mk (PySem.PyData.keyHash P (PySem.Str.ofString "_law_octets")) (PySem.Value.str (PySem.Str.ofString "_law_octets") 739) (PySem.Value.ref 309)), (PySem.DictEntry.mk (PySem.PyData.keyHash P (PySem.Str.ofString "_law_type")) (PySem.Value.str (PySem.Str.ofString "_law_type") 751) (PySem.Value.ref 316)), (PySem.DictEntry.mk (PySem.PyData.keyHash P (PySem.Str.ofString "law")) (PySem.Value.str (PySem.Str.ofString "law") 757) (PySem.Value.ref 321))].toArray) 27) ([].toArray))
noncomputable def o29v9 (P : PySem.Params) : PySem.Obj := (PySem.Obj.mk PySem.Value.none none (PySem.Data.fields ([(PySem.Value.int (2 : Int) 0), (PySem.Value.int (0 : Int) 0), (PySem.Value.ref 37), (PySem.Value.int (6 : Int) 0), (PySem.Value.int (0 : Int) 0), (PySem.Value.ref 44), (PySem.Value.int (54 : Int) 0), (PySem.Value.int (0 : Int) 0), (PySem.Value.ref 110), (PySem.Value.int (64 : Int) 0), (PySem.Value.int (0 : Int) 0), (PySem.Value.ref 128), (PySem.Value.int (69 : Int) 0), (PySem.Value.int (0 : Int) 0), (PySem.Value.ref 145), (PySem.Value.int (145 : Int) 0), (PySem.Value.int (0 : Int) 0), (PySem.Value.ref 272), (PySem.Value.int (153 : Int) 0), (PySem.Value.int (0 : Int) 0), (PySem.Value.ref 279), (PySem.Value.int (158 : Int) 0), (PySem.Value.int (0 : Int) 0), (PySem.Value.ref 286), (PySem.Value.int (160 : Int) 0), (PySem.Value.int (0 : Int) 0), (PySem.Value.ref 293), (PySem.Value.int (166 : Int) 0), (PySem.Value.int (0 : Int) 0), (PySem.Value.ref 298), (PySem.Value.int (169 : Int) 0), (PySem.Value.int (0 : Int) 0), (PySem.Value.ref 303), (PySem.Value.int (174 : Int) 0), (PySem.Value.int (0 : Int) 0), (PySem.Value.ref 308), (PySem.Value.int (181 : Int) 0), (PySem.Value.int (0 : Int) 0), (PySem.Value.ref 315), (PySem.Value.int (188 : Int) 0), (PySem.Value.int (0 : Int) 0), (PySem.Value.ref 320)].toArray)) ([].toArray))
noncomputable def o267v9 (P : PySem.Params) : PySem.Obj := (PySem.Obj.mk (PySem.Value.type "tuple") none (PySem.Data.seq ([].toArray) 0) ([].toArray))
noncomputable def o268v9 (P : PySem.Params) : PySem.Obj := (PySem.Obj.mk PySem.Value.none none (PySem.Data.fields ([].toArray)) ([].toArray))
noncomputable def o269v9 (P : PySem.Params) : PySem.Obj := (PySem.Obj.mk (PySem.Value.type "tuple") none (PySem.Data.seq ([(PySem.Value.str (PySem.Str.ofString "octets") 691), (PySem.Value.str (PySem.Str.ofString "walker") 692), (PySem.Value.str (PySem.Str.ofString "numbers") 693)].toArray) 0) ([].toArray))
noncomputable def o270v9 (P : PySem.Params) : PySem.Obj := (PySem.Obj.mk (PySem.Value.type "tuple") none (PySem.Data.seq ([].toArray) 0) ([].toArray))
noncomputable def o271v9 (P : PySem.Params) : PySem.Obj := ⟨PySem.Value.none, none, .func { name := (PySem.Str.ofString "_law_read"), qualname := (PySem.Str.ofString "_law_read"), params := pa14.1, body := .stmts bo14.1, scope := sc14.1, globals := 0, closure := [], defaults := PySem.Value.none, kwdefaults := PySem.Value.none, doc := PySem.Value.none, pyModule := PySem.Value.none, annotations := none, code := PySem.Value.none, closureTuple := PySem.Value.none, builtins := 0 }, ([].toArray)⟩
noncomputable def o272v9 (P : PySem.Params) : PySem.Obj := (PySem.Obj.mk (PySem.Value.type "code") none (PySem.Data.fields ([(PySem.Value.str (PySem.Str.ofString "_law_read") 688), (PySem.Value.str (PySem.Str.ofString "_law_read") 689), (PySem.Value.str (PySem.Str.ofString "/claim/cut.py") 690), (PySem.Value.int (145 : Int) 0), (PySem.Value.int (1 : Int) 0), (PySem.Value.int (0 : Int) 0), (PySem.Value.int (0 : Int) 0), (PySem.Value.int (3 : Int) 0), (PySem.Value.ref 267), (PySem.Value.bool Bool.true), (PySem.Value.int (276 : Int) 0), (PySem.Value.ref 268), PySem.Value.none, (PySem.Value.ref 269), (PySem.Value.ref 270), (PySem.Value.ref 271), (PySem.Value.int (694 : Int) 0), (PySem.Value.int (145 : Int) 0), (PySem.Value.str (PySem.Str.ofString "/claim/cut.py") 695)].toArray)) ([].toArray))
noncomputable def o273v9 (P : PySem.Params) : PySem.Obj := ⟨(PySem.Value.type "function"), none, .func { name := (PySem.Str.ofString "_law_read"), qualname := (PySem.Str.ofString "_law_read"), params := pa14.1, body := .stmts bo14.1, scope := sc14.1, globals := 3, closure := [], defaults := PySem.Value.none, kwdefaults := PySem.Value.none, doc := PySem.Value.none, pyModule := (PySem.Value.str (PySem.Str.ofString "law_sn0066_02") 686), annotations := none, code := (PySem.Value.ref 272), closureTuple := PySem.Value.none, builtins := 0 }, ([].toArray)⟩
noncomputable def o274v9 (P : PySem.Params) : PySem.Obj := (PySem.Obj.mk (PySem.Value.type "tuple") none (PySem.Data.seq ([].toArray) 0) ([].toArray))
noncomputable def o275v9 (P : PySem.Params) : PySem.Obj := (PySem.Obj.mk PySem.Value.none none (PySem.Data.fields ([].toArray)) ([].toArray))
noncomputable def o276v9 (P : PySem.Params) : PySem.Obj := (PySem.Obj.mk (PySem.Value.type "tuple") none (PySem.Data.seq ([(PySem.Value.str (PySem.Str.ofString "number") 700), (PySem.Value.str (PySem.Str.ofString "k") 701)].toArray) 0) ([].toArray))
noncomputable def o277v9 (P : PySem.Params) : PySem.Obj := (PySem.Obj.mk (PySem.Value.type "tuple") none (PySem.Data.seq ([].toArray) 0) ([].toArray))
noncomputable def o278v9 (P : PySem.Params) : PySem.Obj := ⟨PySem.Value.none, none, .func { name := (PySem.Str.ofString "_law_unseen"), qualname := (PySem.Str.ofString "_law_unseen"), params := pa15.1, body := .stmts bo15.1, scope := sc15.1, globals := 0, closure := [], defaults := PySem.Value.none, kwdefaults := PySem.Value.none, doc := PySem.Value.none, pyModule := PySem.Value.none, annotations := none, code := PySem.Value.none, closureTuple := PySem.Value.none, builtins := 0 }, ([].toArray)⟩
noncomputable def o279v9 (P : PySem.Params) : PySem.Obj := (PySem.Obj.mk (PySem.Value.type "code") none (PySem.Data.fields ([(PySem.Value.str (PySem.Str.ofString "_law_unseen") 697), (PySem.Value.str (PySem.Str.ofString "_law_unseen") 698), (PySem.Value.str (PySem.Str.ofString "/claim/cut.py") 699), (PySem.Value.int (153 : Int) 0), (PySem.Value.int (1 : Int) 0), (PySem.Value.int (0 : Int) 0), (PySem.Value.int (0 : Int) 0), (PySem.Value.int (3 : Int) 0), (PySem.Value.ref 274), (PySem.Value.bool Bool.true), (PySem.Value.int (276 : Int) 0), (PySem.Value.ref 275), PySem.Value.none, (PySem.Value.ref 276), (PySem.Value.ref 277), (PySem.Value.ref 278), (PySem.Value.int (702 : Int) 0), (PySem.Value.int (153 : Int) 0), (PySem.Value.str (PySem.Str.ofString "/claim/cut.py") 703)].toArray)) ([].toArray))
noncomputable def o280v9 (P : PySem.Params) : PySem.Obj := ⟨(PySem.Value.type "function"), none, .func { name := (PySem.Str.ofString "_law_unseen"), qualname := (PySem.Str.ofString "_law_unseen"), params := pa15.1, body := .stmts bo15.1, scope := sc15.1, globals := 3, closure := [], defaults := PySem.Value.none, kwdefaults := PySem.Value.none, doc := PySem.Value.none, pyModule := (PySem.Value.str (PySem.Str.ofString "law_sn0066_02") 686), annotations := none, code := (PySem.Value.ref 279), closureTuple := PySem.Value.none, builtins := 0 }, ([].toArray)⟩
noncomputable def o281v9 (P : PySem.Params) : PySem.Obj := (PySem.Obj.mk (PySem.Value.type "tuple") none (PySem.Data.seq ([].toArray) 0) ([].toArray))
noncomputable def o282v9 (P : PySem.Params) : PySem.Obj := (PySem.Obj.mk PySem.Value.none none (PySem.Data.fields ([].toArray)) ([].toArray))
noncomputable def o283v9 (P : PySem.Params) : PySem.Obj := (PySem.Obj.mk (PySem.Value.type "tuple") none (PySem.Data.seq ([(PySem.Value.str (PySem.Str.ofString "number") 708)].toArray) 0) ([].toArray))
noncomputable def o284v9 (P : PySem.Params) : PySem.Obj := (PySem.Obj.mk (PySem.Value.type "tuple") none (PySem.Data.seq ([].toArray) 0) ([].toArray))
noncomputable def o285v9 (P : PySem.Params) : PySem.Obj := ⟨PySem.Value.none, none, .func { name := (PySem.Str.ofString "_law_beside"), qualname := (PySem.Str.ofString "_law_beside"), params := pa16.1, body := .stmts bo16.1, scope := sc16.1, globals := 0, closure := [], defaults := PySem.Value.none, kwdefaults := PySem.Value.none, doc := PySem.Value.none, pyModule := PySem.Value.none, annotations := none, code := PySem.Value.none, closureTuple := PySem.Value.none, builtins := 0 }, ([].toArray)⟩
noncomputable def o286v9 (P : PySem.Params) : PySem.Obj := (PySem.Obj.mk (PySem.Value.type "code") none (PySem.Data.fields ([(PySem.Value.str (PySem.Str.ofString "_law_beside") 705), (PySem.Value.str (PySem.Str.ofString "_law_beside") 706), (PySem.Value.str (PySem.Str.ofString "/claim/cut.py") 707), (PySem.Value.int (158 : Int) 0), (PySem.Value.int (1 : Int) 0), (PySem.Value.int (0 : Int) 0), (PySem.Value.int (0 : Int) 0), (PySem.Value.int (3 : Int) 0), (PySem.Value.ref 281), (PySem.Value.bool Bool.true), (PySem.Value.int (276 : Int) 0), (PySem.Value.ref 282), PySem.Value.none, (PySem.Value.ref 283), (PySem.Value.ref 284), (PySem.Value.ref 285), (PySem.Value.int (709 : Int) 0), (PySem.Value.int (158 : Int) 0), (PySem.Value.str (PySem.Str.ofString "/claim/cut.py") 710)].toArray)) ([].toArray))
noncomputable def o287v9 (P : PySem.Params) : PySem.Obj := ⟨(PySem.Value.type "function"), none, .func { name := (PySem.Str.ofString "_law_beside"), qualname := (PySem.Str.ofString "_law_beside"), params := pa16.1, body := .stmts bo16.1, scope := sc16.1, globals := 3, closure := [], defaults := PySem.Value.none, kwdefaults := PySem.Value.none, doc := PySem.Value.none, pyModule := (PySem.Value.str (PySem.Str.ofString "law_sn0066_02") 686), annotations := none, code := (PySem.Value.ref 286), closureTuple := PySem.Value.none, builtins := 0 }, ([].toArray)⟩
noncomputable def o288v9 (P : PySem.Params) : PySem.Obj := (PySem.Obj.mk (PySem.Value.type "tuple") none (PySem.Data.seq ([].toArray) 0) ([].toArray))
noncomputable def o289v9 (P : PySem.Params) : PySem.Obj := (PySem.Obj.mk PySem.Value.none none (PySem.Data.fields ([].toArray)) ([].toArray))
noncomputable def o290v9 (P : PySem.Params) : PySem.Obj := (PySem.Obj.mk (PySem.Value.type "tuple") none (PySem.Data.seq ([(PySem.Value.str (PySem.Str.ofString "text") 715), (PySem.Value.str (PySem.Str.ofString "left") 716), (PySem.Value.str (PySem.Str.ofString "sign") 717), (PySem.Value.str (PySem.Str.ofString "told") 718)].toArray) 0) ([].toArray))
noncomputable def o291v9 (P : PySem.Params) : PySem.Obj := (PySem.Obj.mk (PySem.Value.type "tuple") none (PySem.Data.seq ([].toArray) 0) ([].toArray))
noncomputable def o292v9 (P : PySem.Params) : PySem.Obj := ⟨PySem.Value.none, none, .func { name := (PySem.Str.ofString "_law_clean"), qualname := (PySem.Str.ofString "_law_clean"), params := pa17.1, body := .stmts bo17.1, scope := sc17.1, globals := 0, closure := [], defaults := PySem.Value.none, kwdefaults := PySem.Value.none, doc := PySem.Value.none, pyModule := PySem.Value.none, annotations := none, code := PySem.Value.none, closureTuple := PySem.Value.none, builtins := 0 }, ([].toArray)⟩
noncomputable def o293v9 (P : PySem.Params) : PySem.Obj := (PySem.Obj.mk (PySem.Value.type "code") none (PySem.Data.fields ([(PySem.Value.str (PySem.Str.ofString "_law_clean") 712), (PySem.Value.str (PySem.Str.ofString "_law_clean") 713), (PySem.Value.str (PySem.Str.ofString "/claim/cut.py") 714), (PySem.Value.int (160 : Int) 0), (PySem.Value.int (1 : Int) 0), (PySem.Value.int (0 : Int) 0), (PySem.Value.int (0 : Int) 0), (PySem.Value.int (3 : Int) 0), (PySem.Value.ref 288), (PySem.Value.bool Bool.true), (PySem.Value.int (276 : Int) 0), (PySem.Value.ref 289), PySem.Value.none, (PySem.Value.ref 290), (PySem.Value.ref 291), (PySem.Value.ref 292), (PySem.Value.int (719 : Int) 0), (PySem.Value.int (160 : Int) 0), (PySem.Value.str (PySem.Str.ofString "/claim/cut.py") 720)].toArray)) ([].toArray))
noncomputable def o294v9 (P : PySem.Params) : PySem.Obj := ⟨(PySem.Value.type "function"), none, .func { name := (PySem.Str.ofString "_law_clean"), qualname := (PySem.Str.ofString "_law_clean"), params := pa17.1, body := .stmts bo17.1, scope := sc17.1, globals := 3, closure := [], defaults := PySem.Value.none, kwdefaults := PySem.Value.none, doc := PySem.Value.none, pyModule := (PySem.Value.str (PySem.Str.ofString "law_sn0066_02") 686), annotations := none, code := (PySem.Value.ref 293), closureTuple := PySem.Value.none, builtins := 0 }, ([].toArray)⟩
noncomputable def o295v9 (P : PySem.Params) : PySem.Obj := (PySem.Obj.mk (PySem.Value.type "tuple") none (PySem.Data.seq ([].toArray) 0) ([].toArray))
noncomputable def o296v9 (P : PySem.Params) : PySem.Obj := (PySem.Obj.mk PySem.Value.none none (PySem.Data.fields ([].toArray)) ([].toArray))
noncomputable def o297v9 (P : PySem.Params) : PySem.Obj := ⟨PySem.Value.none, none, .func { name := (PySem.Str.ofString "_law_draw"), qualname := (PySem.Str.ofString "_law_draw"), params := pa18.1, body := .stmts bo18.1, scope := sc18.1, globals := 0, closure := [], defaults := PySem.Value.none, kwdefaults := PySem.Value.none, doc := PySem.Value.none, pyModule := PySem.Value.none, annotations := none, code := PySem.Value.none, closureTuple := PySem.Value.none, builtins := 0 }, ([].toArray)⟩
noncomputable def o298v9 (P : PySem.Params) : PySem.Obj := (PySem.Obj.mk (PySem.Value.type "code") none (PySem.Data.fields ([(PySem.Value.str (PySem.Str.ofString "_law_draw") 722), (PySem.Value.str (PySem.Str.ofString "_law_draw") 723), (PySem.Value.str (PySem.Str.ofString "/claim/cut.py") 724), (PySem.Value.int (166 : Int) 0), (PySem.Value.int (1 : Int) 0), (PySem.Value.int (0 : Int) 0), (PySem.Value.int (0 : Int) 0), (PySem.Value.int (3 : Int) 0), (PySem.Value.ref 295), (PySem.Value.bool Bool.true), (PySem.Value.int (276 : Int) 0), (PySem.Value.ref 296), PySem.Value.none, PySem.Value.none, PySem.Value.none, (PySem.Value.ref 297), (PySem.Value.int (725 : Int) 0), (PySem.Value.int (166 : Int) 0), (PySem.Value.str (PySem.Str.ofString "/claim/cut.py") 726)].toArray)) ([].toArray))
noncomputable def o299v9 (P : PySem.Params) : PySem.Obj := ⟨(PySem.Value.type "function"), none, .func { name := (PySem.Str.ofString "_law_draw"), qualname := (PySem.Str.ofString "_law_draw"), params := pa18.1, body := .stmts bo18.1, scope := sc18.1, globals := 3, closure := [], defaults := PySem.Value.none, kwdefaults := PySem.Value.none, doc := PySem.Value.none, pyModule := (PySem.Value.str (PySem.Str.ofString "law_sn0066_02") 686), annotations := none, code := (PySem.Value.ref 298), closureTuple := PySem.Value.none, builtins := 0 }, ([].toArray)⟩
noncomputable def o300v9 (P : PySem.Params) : PySem.Obj := (PySem.Obj.mk (PySem.Value.type "tuple") none (PySem.Data.seq ([].toArray) 0) ([].toArray))
noncomputable def o301v9 (P : PySem.Params) : PySem.Obj := (PySem.Obj.mk PySem.Value.none none (PySem.Data.fields ([].toArray)) ([].toArray))
noncomputable def o302v9 (P : PySem.Params) : PySem.Obj := ⟨PySem.Value.none, none, .func { name := (PySem.Str.ofString "_law_moves"), qualname := (PySem.Str.ofString "_law_moves"), params := pa19.1, body := .stmts bo19.1, scope := sc19.1, globals := 0, closure := [], defaults := PySem.Value.none, kwdefaults := PySem.Value.none, doc := PySem.Value.none, pyModule := PySem.Value.none, annotations := none, code := PySem.Value.none, closureTuple := PySem.Value.none, builtins := 0 }, ([].toArray)⟩
noncomputable def o303v9 (P : PySem.Params) : PySem.Obj := (PySem.Obj.mk (PySem.Value.type "code") none (PySem.Data.fields ([(PySem.Value.str (PySem.Str.ofString "_law_moves") 728), (PySem.Value.str (PySem.Str.ofString "_law_moves") 729), (PySem.Value.str (PySem.Str.ofString "/claim/cut.py") 730), (PySem.Value.int (169 : Int) 0), (PySem.Value.int (3 : Int) 0), (PySem.Value.int (0 : Int) 0), (PySem.Value.int (0 : Int) 0), (PySem.Value.int (3 : Int) 0), (PySem.Value.ref 300), (PySem.Value.bool Bool.true), (PySem.Value.int (276 : Int) 0), (PySem.Value.ref 301), PySem.Value.none, PySem.Value.none, PySem.Value.none, (PySem.Value.ref 302), (PySem.Value.int (731 : Int) 0), (PySem.Value.int (169 : Int) 0), (PySem.Value.str (PySem.Str.ofString "/claim/cut.py") 732)].toArray)) ([].toArray))
noncomputable def o304v9 (P : PySem.Params) : PySem.Obj := ⟨(PySem.Value.type "function"), none, .func { name := (PySem.Str.ofString "_law_moves"), qualname := (PySem.Str.ofString "_law_moves"), params := pa19.1, body := .stmts bo19.1, scope := sc19.1, globals := 3, closure := [], defaults := PySem.Value.none, kwdefaults := PySem.Value.none, doc := PySem.Value.none, pyModule := (PySem.Value.str (PySem.Str.ofString "law_sn0066_02") 686), annotations := none, code := (PySem.Value.ref 303), closureTuple := PySem.Value.none, builtins := 0 }, ([].toArray)⟩
noncomputable def o305v9 (P : PySem.Params) : PySem.Obj := (PySem.Obj.mk (PySem.Value.type "tuple") none (PySem.Data.seq ([].toArray) 0) ([].toArray))
noncomputable def o306v9 (P : PySem.Params) : PySem.Obj := (PySem.Obj.mk PySem.Value.none none (PySem.Data.fields ([].toArray)) ([].toArray))
noncomputable def o307v9 (P : PySem.Params) : PySem.Obj := ⟨PySem.Value.none, none, .func { name := (PySem.Str.ofString "_law_octets"), qualname := (PySem.Str.ofString "_law_octets"), params := pa20.1, body := .stmts bo20.1, scope := sc20.1, globals := 0, closure := [], defaults := PySem.Value.none, kwdefaults := PySem.Value.none, doc := PySem.Value.none, pyModule := PySem.Value.none, annotations := none, code := PySem.Value.none, closureTuple := PySem.Value.none, builtins := 0 }, ([].toArray)⟩
noncomputable def o308v9 (P : PySem.Params) : PySem.Obj := (PySem.Obj.mk (PySem.Value.type "code") none (PySem.Data.fields ([(PySem.Value.str (PySem.Str.ofString "_law_octets") 734), (PySem.Value.str (PySem.Str.ofString "_law_octets") 735), (PySem.Value.str (PySem.Str.ofString "/claim/cut.py") 736), (PySem.Value.int (174 : Int) 0), (PySem.Value.int (1 : Int) 0), (PySem.Value.int (0 : Int) 0), (PySem.Value.int (0 : Int) 0), (PySem.Value.int (3 : Int) 0), (PySem.Value.ref 305), (PySem.Value.bool Bool.true), (PySem.Value.int (276 : Int) 0), (PySem.Value.ref 306), PySem.Value.none, PySem.Value.none, PySem.Value.none, (PySem.Value.ref 307), (PySem.Value.int (737 : Int) 0), (PySem.Value.int (174 : Int) 0), (PySem.Value.str (PySem.Str.ofString "/claim/cut.py") 738)].toArray)) ([].toArray))
noncomputable def o309v9 (P : PySem.Params) : PySem.Obj := ⟨(PySem.Value.type "function"), none, .func { name := (PySem.Str.ofString "_law_octets"), qualname := (PySem.Str.ofString "_law_octets"), params := pa20.1, body := .stmts bo20.1, scope := sc20.1, globals := 3, closure := [], defaults := PySem.Value.none, kwdefaults := PySem.Value.none, doc := PySem.Value.none, pyModule := (PySem.Value.str (PySem.Str.ofString "law_sn0066_02") 686), annotations := none, code := (PySem.Value.ref 308), closureTuple := PySem.Value.none, builtins := 0 }, ([].toArray)⟩
noncomputable def o310v9 (P : PySem.Params) : PySem.Obj := (PySem.Obj.mk (PySem.Value.type "tuple") none (PySem.Data.seq ([].toArray) 0) ([].toArray))
noncomputable def o311v9 (P : PySem.Params) : PySem.Obj := (PySem.Obj.mk PySem.Value.none none (PySem.Data.fields ([].toArray)) ([].toArray))
noncomputable def o312v9 (P : PySem.Params) : PySem.Obj := (PySem.Obj.mk (PySem.Value.type "tuple") none (PySem.Data.seq ([(PySem.Value.str (PySem.Str.ofString "piles") 743), (PySem.Value.str (PySem.Str.ofString "blanks") 744), (PySem.Value.str (PySem.Str.ofString "seed") 745), (PySem.Value.str (PySem.Str.ofString "text") 746), (PySem.Value.str (PySem.Str.ofString "pile") 747), (PySem.Value.str (PySem.Str.ofString "cut") 748)].toArray) 0) ([].toArray))
noncomputable def o313v9 (P : PySem.Params) : PySem.Obj := (PySem.Obj.mk (PySem.Value.type "tuple") none (PySem.Data.seq ([].toArray) 0) ([].toArray))
noncomputable def o314v9 (P : PySem.Params) : PySem.Obj := ⟨PySem.Value.none, none, .func { name := (PySem.Str.ofString "_law_type"), qualname := (PySem.Str.ofString "_law_type"), params := pa21.1, body := .stmts bo21.1, scope := sc21.1, globals := 0, closure := [], defaults := PySem.Value.none, kwdefaults := PySem.Value.none, doc := PySem.Value.none, pyModule := PySem.Value.none, annotations := none, code := PySem.Value.none, closureTuple := PySem.Value.none, builtins := 0 }, ([].toArray)⟩
noncomputable def o315v9 (P : PySem.Params) : PySem.Obj := (PySem.Obj.mk (PySem.Value.type "code") none (PySem.Data.fields ([(PySem.Value.str (PySem.Str.ofString "_law_type") 740), (PySem.Value.str (PySem.Str.ofString "_law_type") 741), (PySem.Value.str (PySem.Str.ofString "/claim/cut.py") 742), (PySem.Value.int (181 : Int) 0), (PySem.Value.int (3 : Int) 0), (PySem.Value.int (0 : Int) 0), (PySem.Value.int (0 : Int) 0), (PySem.Value.int (3 : Int) 0), (PySem.Value.ref 310), (PySem.Value.bool Bool.true), (PySem.Value.int (276 : Int) 0), (PySem.Value.ref 311), PySem.Value.none, (PySem.Value.ref 312), (PySem.Value.ref 313), (PySem.Value.ref 314), (PySem.Value.int (749 : Int) 0), (PySem.Value.int (181 : Int) 0), (PySem.Value.str (PySem.Str.ofString "/claim/cut.py") 750)].toArray)) ([].toArray))
noncomputable def o316v9 (P : PySem.Params) : PySem.Obj := ⟨(PySem.Value.type "function"), none, .func { name := (PySem.Str.ofString "_law_type"), qualname := (PySem.Str.ofString "_law_type"), params := pa21.1, body := .stmts bo21.1, scope := sc21.1, globals := 3, closure := [], defaults := PySem.Value.none, kwdefaults := PySem.Value.none, doc := PySem.Value.none, pyModule := (PySem.Value.str (PySem.Str.ofString "law_sn0066_02") 686), annotations := none, code := (PySem.Value.ref 315), closureTuple := PySem.Value.none, builtins := 0 }, ([].toArray)⟩
noncomputable def o317v9 (P : PySem.Params) : PySem.Obj := (PySem.Obj.mk (PySem.Value.type "tuple") none (PySem.Data.seq ([].toArray) 0) ([].toArray))
noncomputable def o318v9 (P : PySem.Params) : PySem.Obj := (PySem.Obj.mk PySem.Value.none none (PySem.Data.fields ([].toArray)) ([].toArray))
noncomputable def o319v9 (P : PySem.Params) : PySem.Obj := ⟨PySem.Value.none, none, .func { name := (PySem.Str.ofString "law"), qualname := (PySem.Str.ofString "law"), params := pa22.1, body := .stmts bo22.1, scope := sc22.1, globals := 0, closure := [], defaults := PySem.Value.none, kwdefaults := PySem.Value.none, doc := PySem.Value.none, pyModule := PySem.Value.none, annotations := none, code := PySem.Value.none, closureTuple := PySem.Value.none, builtins := 0 }, ([].toArray)⟩
noncomputable def o320v9 (P : PySem.Params) : PySem.Obj := (PySem.Obj.mk (PySem.Value.type "code") none (PySem.Data.fields ([(PySem.Value.str (PySem.Str.ofString "law") 752), (PySem.Value.str (PySem.Str.ofString "law") 753), (PySem.Value.str (PySem.Str.ofString "/claim/cut.py") 754), (PySem.Value.int (188 : Int) 0), (PySem.Value.int (1 : Int) 0), (PySem.Value.int (0 : Int) 0), (PySem.Value.int (0 : Int) 0), (PySem.Value.int (3 : Int) 0), (PySem.Value.ref 317), (PySem.Value.bool Bool.true), (PySem.Value.int (276 : Int) 0), (PySem.Value.ref 318), PySem.Value.none, PySem.Value.none, PySem.Value.none, (PySem.Value.ref 319), (PySem.Value.int (755 : Int) 0), (PySem.Value.int (188 : Int) 0), (PySem.Value.str (PySem.Str.ofString "/claim/cut.py") 756)].toArray)) ([].toArray))
noncomputable def o321v9 (P : PySem.Params) : PySem.Obj := ⟨(PySem.Value.type "function"), none, .func { name := (PySem.Str.ofString "law"), qualname := (PySem.Str.ofString "law"), params := pa22.1, body := .stmts bo22.1, scope := sc22.1, globals := 3, closure := [], defaults := PySem.Value.none, kwdefaults := PySem.Value.none, doc := PySem.Value.none, pyModule := (PySem.Value.str (PySem.Str.ofString "law_sn0066_02") 686), annotations := none, code := (PySem.Value.ref 320), closureTuple := PySem.Value.none, builtins := 0 }, ([].toArray)⟩
noncomputable abbrev n := PySem.W.BT.node
noncomputable abbrev l := PySem.W.BT.nil
noncomputable def H0 (P : PySem.Params) : PySem.Heap := ⟨[o0v0 P, o1v0 P, o2v0 P, o3v0 P, o4v0 P, o5v0 P, o6v0 P, o7v0 P, o8v0 P, o9v0 P, o10v0 P, o11v0 P, o12v0 P, o13v0 P, o14v0 P, o15v0 P, o16v0 P, o17v0 P, o18v0 P, o19v0 P, o20v0 P, o21v0 P, o22v0 P, o23v0 P, o24v0 P, o25v0 P, o26v0 P, o27v0 P].toArray, {}⟩
noncomputable def Ha (P : PySem.Params) : PySem.Heap := ⟨[o0v0 P, o1v0 P, o2v0 P, o3v0 P, o4v0 P, o5v0 P, o6v0 P, o7v0 P, o8v0 P, o9v0 P, o10v0 P, o11v0 P, o12v0 P, o13v0 P, o14v0 P, o15v0 P, o16v0 P, o17v0 P, o18v0 P, o19v0 P, o20v0 P, o21v0 P, o22v0 P, o23v0 P, o24v0 P, o25v0 P, o26v0 P, o27v0 P, o28v1 P, o29v1 P, o30v1 P, o31v1 P].toArray, {}⟩
noncomputable def H1 (P : PySem.Params) : PySem.Heap := ⟨[o0v0 P, o1v0 P, o2v0 P, o3v9 P, o4v0 P, o5v0 P, o6v0 P, o7v0 P, o8v0 P, o9v0 P, o10v0 P, o11v0 P, o12v0 P, o13v0 P, o14v0 P, o15v0 P, o16v0 P, o17v0 P, o18v0 P, o19v0 P, o20v0 P, o21v0 P, o22v0 P, o23v0 P, o24v0 P, o25v0 P, o26v0 P, o27v0 P, o28v1 P, o29v9 P, o30v1 P, o31v1 P, o32v3 P, o33v3 P, o34v3 P, o35v3 P, o36v3 P, o37v3 P, o38v3 P, o39v4 P, o40v4 P, o41v4 P, o42v4 P, o43v4 P, o44v4 P, o45v4 P, o46v4 P, o47v4 P, o48v4 P, o49v4 P, o50v4 P, o51v4 P, o52v4 P, o53v4 P, o54v4 P, o55v4 P, o56v4 P, o57v4 P, o58v4 P, o59v4 P, o60v4 P, o61v4 P, o62v4 P, o63v4 P, o64v4 P, o65v4 P, o66v4 P, o67v4 P, o68v4 P, o69v4 P, o70v4 P, o71v4 P, o72v4 P, o73v4 P, o74v4 P, o75v4 P, o76v4 P, o77v4 P, o78v4 P, o79v4 P, o80v4 P, o81v4 P, o82v4 P, o83v4 P, o84v4 P, o85v4 P, o86v4 P, o87v4 P, o88v4 P, o89v4 P, o90v4 P, o91v4 P, o92v4 P, o93v4 P, o94v4 P, o95v4 P, o96v4 P, o97v4 P, o98v4 P, o99v4 P, o100v4 P, o101v4 P, o102v4 P, o103v4 P, o104v4 P, o105v5 P, o106v5 P, o107v5 P, o108v5 P, o109v5 P, o110v5 P, o111v5 P, o112v6 P, o113v6 P, o114v6 P, o115v6 P, o116v6 P, o117v6 P, o118v6 P, o119v6 P, o120v6 P, o121v6 P, o122v6 P, o123v7 P, o124v7 P, o125v7 P, o126v7 P, o127v7 P, o128v7 P, o129v7 P, o130v7 P, o131v7 P, o132v7 P, o133v7 P, o134v7 P, o135v7 P, o136v7 P, o137v7 P, o138v7 P, o139v7 P, o140v8 P, o141v8 P, o142v8 P, o143v8 P, o144v8 P, o145v8 P, o146v8 P, o147v8 P, o148v8 P, o149v8 P, o150v8 P, o151v8 P, o152v8 P, o153v8 P, o154v8 P, o155v8 P, o156v8 P, o157v8 P, o158v8 P, o159v8 P, o160v8 P, o161v8 P, o162v8 P, o163v8 P, o164v8 P, o165v8 P, o166v8 P, o167v8 P, o168v8 P, o169v8 P, o170v8 P, o171v8 P, o172v8 P, o173v8 P, o174v8 P, o175v8 P, o176v8 P, o177v8 P, o178v8 P, o179v8 P, o180v8 P, o181v8 P, o182v8 P, o183v8 P, o184v8 P, o185v8 P, o186v8 P, o187v8 P, o188v8 P, o189v8 P, o190v8 P, o191v8 P, o192v8 P, o193v8 P, o194v8 P, o195v8 P, o196v8 P, o197v8 P, o198v8 P, o199v8 P, o200v8 P, o201v8 P, o202v8 P, o203v8 P, o204v8 P, o205v8 P, o206v8 P, o207v8 P, o208v8 P, o209v8 P, o210v8 P, o211v8 P, o212v8 P, o213v8 P, o214v8 P, o215v8 P, o216v8 P, o217v8 P, o218v8 P, o219v8 P, o220v8 P, o221v8 P, o222v8 P, o223v8 P, o224v8 P, o225v8 P, o226v8 P, o227v8 P, o228v8 P, o229v8 P, o230v8 P, o231v8 P, o232v8 P, o233v8 P, o234v8 P, o235v8 P, o236v8 P, o237v8 P, o238v8 P, o239v8 P, o240v8 P, o241v8 P, o242v8 P, o243v8 P, o244v8 P, o245v8 P, o246v8 P, o247v8 P, o248v8 P, o249v8 P, o250v8 P, o251v8 P, o252v8 P, o253v8 P, o254v8 P, o255v8 P, o256v8 P, o257v8 P, o258v8 P, o259v8 P, o260v8 P, o261v8 P, o262v8 P, o263v8 P, o264v8 P, o265v8 P, o266v8 P, o267v9 P, o268v9 P, o269v9 P, o270v9 P, o271v9 P, o272v9 P, o273v9 P, o274v9 P, o275v9 P, o276v9 P, o277v9 P, o278v9 P, o279v9 P, o280v9 P, o281v9 P, o282v9 P, o283v9 P, o284v9 P, o285v9 P, o286v9 P, o287v9 P, o288v9 P, o289v9 P, o290v9 P, o291v9 P, o292v9 P, o293v9 P, o294v9 P, o295v9 P, o296v9 P, o297v9 P, o298v9 P, o299v9 P, o300v9 P, o301v9 P, o302v9 P, o303v9 P, o304v9 P, o305v9 P, o306v9 P, o307v9 P, o308v9 P, o309v9 P, o310v9 P, o311v9 P, o312v9 P, o313v9 P, o314v9 P, o315v9 P, o316v9 P, o317v9 P, o318v9 P, o319v9 P, o320v9 P, o321v9 P].toArray, {}⟩
noncomputable def tr0 (P : PySem.Params) : PySem.W.BT := (n (o0v0 P) (n (o1v0 P) (n (o3v0 P) (n (o7v0 P) (n (o15v0 P) (n (o31v1 P) l l) l) (n (o23v0 P) l l)) (n (o11v0 P) (n (o19v0 P) l l) (n (o27v0 P) l l))) (n (o5v0 P) (n (o9v0 P) (n (o17v0 P) l l) (n (o25v0 P) l l)) (n (o13v0 P) (n (o21v0 P) l l) (n (o29v1 P) l l)))) (n (o2v0 P) (n (o4v0 P) (n (o8v0 P) (n (o16v0 P) l l) (n (o24v0 P) l l)) (n (o12v0 P) (n (o20v0 P) l l) (n (o28v1 P) l l))) (n (o6v0 P) (n (o10v0 P) (n (o18v0 P) l l) (n (o26v0 P) l l)) (n (o14v0 P) (n (o22v0 P) l l) (n (o30v1 P) l l)))))
noncomputable def tr1 (P : PySem.Params) : PySem.W.BT := (n (o0v0 P) (n (o1v0 P) (n (o3v3 P) (n (o7v0 P) (n (o15v0 P) (n (o31v1 P) l l) l) (n (o23v0 P) l l)) (n (o11v0 P) (n (o19v0 P) (n (o35v3 P) l l) l) (n (o27v0 P) l l))) (n (o5v0 P) (n (o9v0 P) (n (o17v0 P) (n (o33v3 P) l l) l) (n (o25v0 P) l l)) (n (o13v0 P) (n (o21v0 P) (n (o37v3 P) l l) l) (n (o29v3 P) l l)))) (n (o2v0 P) (n (o4v0 P) (n (o8v0 P) (n (o16v0 P) (n (o32v3 P) l l) l) (n (o24v0 P) l l)) (n (o12v0 P) (n (o20v0 P) (n (o36v3 P) l l) l) (n (o28v1 P) l l))) (n (o6v0 P) (n (o10v0 P) (n (o18v0 P) (n (o34v3 P) l l) l) (n (o26v0 P) l l)) (n (o14v0 P) (n (o22v0 P) (n (o38v3 P) l l) l) (n (o30v1 P) l l)))))
noncomputable def tr2 (P : PySem.Params) : PySem.W.BT := (n (o0v0 P) (n (o1v0 P) (n (o3v4 P) (n (o7v0 P) (n (o15v0 P) (n (o31v1 P) (n (o63v4 P) l l) (n (o95v4 P) l l)) (n (o47v4 P) (n (o79v4 P) l l) l)) (n (o23v0 P) (n (o39v4 P) (n (o71v4 P) l l) (n (o103v4 P) l l)) (n (o55v4 P) (n (o87v4 P) l l) l))) (n (o11v0 P) (n (o19v0 P) (n (o35v3 P) (n (o67v4 P) l l) (n (o99v4 P) l l)) (n (o51v4 P) (n (o83v4 P) l l) l)) (n (o27v0 P) (n (o43v4 P) (n (o75v4 P) l l) l) (n (o59v4 P) (n (o91v4 P) l l) l)))) (n (o5v0 P) (n (o9v0 P) (n (o17v0 P) (n (o33v3 P) (n (o65v4 P) l l) (n (o97v4 P) l l)) (n (o49v4 P) (n (o81v4 P) l l) l)) (n (o25v0 P) (n (o41v4 P) (n (o73v4 P) l l) l) (n (o57v4 P) (n (o89v4 P) l l) l))) (n (o13v0 P) (n (o21v0 P) (n (o37v3 P) (n (o69v4 P) l l) (n (o101v4 P) l l)) (n (o53v4 P) (n (o85v4 P) l l) l)) (n (o29v4 P) (n (o45v4 P) (n (o77v4 P) l l) l) (n (o61v4 P) (n (o93v4 P) l l) l))))) (n (o2v0 P) (n (o4v0 P) (n (o8v0 P) (n (o16v0 P) (n (o32v3 P) (n (o64v4 P) l l) (n (o96v4 P) l l)) (n (o48v4 P) (n (o80v4 P) l l) l)) (n (o24v0 P) (n (o40v4 P) (n (o72v4 P) l l) (n (o104v4 P) l l)) (n (o56v4 P) (n (o88v4 P) l l) l))) (n (o12v0 P) (n (o20v0 P) (n (o36v3 P) (n (o68v4 P) l l) (n (o100v4 P) l l)) (n (o52v4 P) (n (o84v4 P) l l) l)) (n (o28v1 P) (n (o44v4 P) (n (o76v4 P) l l) l) (n (o60v4 P) (n (o92v4 P) l l) l)))) (n (o6v0 P) (n (o10v0 P) (n (o18v0 P) (n (o34v3 P) (n (o66v4 P) l l) (n (o98v4 P) l l)) (n (o50v4 P) (n (o82v4 P) l l) l)) (n (o26v0 P) (n (o42v4 P) (n (o74v4 P) l l) l) (n (o58v4 P) (n (o90v4 P) l l) l))) (n (o14v0 P) (n (o22v0 P) (n (o38v3 P) (n (o70v4 P) l l) (n (o102v4 P) l l)) (n (o54v4 P) (n (o86v4 P) l l) l)) (n (o30v1 P) (n (o46v4 P) (n (o78v4 P) l l) l) (n (o62v4 P) (n (o94v4 P) l l) l))))))
noncomputable def tr3 (P : PySem.Params) : PySem.W.BT := (n (o0v0 P) (n (o1v0 P) (n (o3v5 P) (n (o7v0 P) (n (o15v0 P) (n (o31v1 P) (n (o63v4 P) l l) (n (o95v4 P) l l)) (n (o47v4 P) (n (o79v4 P) l l) (n (o111v5 P) l l))) (n (o23v0 P) (n (o39v4 P) (n (o71v4 P) l l) (n (o103v4 P) l l)) (n (o55v4 P) (n (o87v4 P) l l) l))) (n (o11v0 P) (n (o19v0 P) (n (o35v3 P) (n (o67v4 P) l l) (n (o99v4 P) l l)) (n (o51v4 P) (n (o83v4 P) l l) l)) (n (o27v0 P) (n (o43v4 P) (n (o75v4 P) l l) (n (o107v5 P) l l)) (n (o59v4 P) (n (o91v4 P) l l) l)))) (n (o5v0 P) (n (o9v0 P) (n (o17v0 P) (n (o33v3 P) (n (o65v4 P) l l) (n (o97v4 P) l l)) (n (o49v4 P) (n (o81v4 P) l l) l)) (n (o25v0 P) (n (o41v4 P) (n (o73v4 P) l l) (n (o105v5 P) l l)) (n (o57v4 P) (n (o89v4 P) l l) l))) (n (o13v0 P) (n (o21v0 P) (n (o37v3 P) (n (o69v4 P) l l) (n (o101v4 P) l l)) (n (o53v4 P) (n (o85v4 P) l l) l)) (n (o29v5 P) (n (o45v4 P) (n (o77v4 P) l l) (n (o109v5 P) l l)) (n (o61v4 P) (n (o93v4 P) l l) l))))) (n (o2v0 P) (n (o4v0 P) (n (o8v0 P) (n (o16v0 P) (n (o32v3 P) (n (o64v4 P) l l) (n (o96v4 P) l l)) (n (o48v4 P) (n (o80v4 P) l l) l)) (n (o24v0 P) (n (o40v4 P) (n (o72v4 P) l l) (n (o104v4 P) l l)) (n (o56v4 P) (n (o88v4 P) l l) l))) (n (o12v0 P) (n (o20v0 P) (n (o36v3 P) (n (o68v4 P) l l) (n (o100v4 P) l l)) (n (o52v4 P) (n (o84v4 P) l l) l)) (n (o28v1 P) (n (o44v4 P) (n (o76v4 P) l l) (n (o108v5 P) l l)) (n (o60v4 P) (n (o92v4 P) l l) l)))) (n (o6v0 P) (n (o10v0 P) (n (o18v0 P) (n (o34v3 P) (n (o66v4 P) l l) (n (o98v4 P) l l)) (n (o50v4 P) (n (o82v4 P) l l) l)) (n (o26v0 P) (n (o42v4 P) (n (o74v4 P) l l) (n (o106v5 P) l l)) (n (o58v4 P) (n (o90v4 P) l l) l))) (n (o14v0 P) (n (o22v0 P) (n (o38v3 P) (n (o70v4 P) l l) (n (o102v4 P) l l)) (n (o54v4 P) (n (o86v4 P) l l) l)) (n (o30v1 P) (n (o46v4 P) (n (o78v4 P) l l) (n (o110v5 P) l l)) (n (o62v4 P) (n (o94v4 P) l l) l))))))
noncomputable def tr4 (P : PySem.Params) : PySem.W.BT := (n (o0v0 P) (n (o1v0 P) (n (o3v6 P) (n (o7v0 P) (n (o15v0 P) (n (o31v1 P) (n (o63v4 P) l l) (n (o95v4 P) l l)) (n (o47v4 P) (n (o79v4 P) l l) (n (o111v5 P) l l))) (n (o23v0 P) (n (o39v4 P) (n (o71v4 P) l l) (n (o103v4 P) l l)) (n (o55v4 P) (n (o87v4 P) l l) (n (o119v6 P) l l)))) (n (o11v0 P) (n (o19v0 P) (n (o35v3 P) (n (o67v4 P) l l) (n (o99v4 P) l l)) (n (o51v4 P) (n (o83v4 P) l l) (n (o115v6 P) l l))) (n (o27v0 P) (n (o43v4 P) (n (o75v4 P) l l) (n (o107v5 P) l l)) (n (o59v4 P) (n (o91v4 P) l l) l)))) (n (o5v0 P) (n (o9v0 P) (n (o17v0 P) (n (o33v3 P) (n (o65v4 P) l l) (n (o97v4 P) l l)) (n (o49v4 P) (n (o81v4 P) l l) (n (o113v6 P) l l))) (n (o25v0 P) (n (o41v4 P) (n (o73v4 P) l l) (n (o105v5 P) l l)) (n (o57v4 P) (n (o89v4 P) l l) (n (o121v6 P) l l)))) (n (o13v0 P) (n (o21v0 P) (n (o37v3 P) (n (o69v4 P) l l) (n (o101v4 P) l l)) (n (o53v4 P) (n (o85v4 P) l l) (n (o117v6 P) l l))) (n (o29v5 P) (n (o45v4 P) (n (o77v4 P) l l) (n (o109v5 P) l l)) (n (o61v4 P) (n (o93v4 P) l l) l))))) (n (o2v0 P) (n (o4v0 P) (n (o8v0 P) (n (o16v0 P) (n (o32v3 P) (n (o64v4 P) l l) (n (o96v4 P) l l)) (n (o48v4 P) (n (o80v4 P) l l) (n (o112v6 P) l l))) (n (o24v0 P) (n (o40v4 P) (n (o72v4 P) l l) (n (o104v4 P) l l)) (n (o56v4 P) (n (o88v4 P) l l) (n (o120v6 P) l l)))) (n (o12v0 P) (n (o20v0 P) (n (o36v3 P) (n (o68v4 P) l l) (n (o100v4 P) l l)) (n (o52v4 P) (n (o84v4 P) l l) (n (o116v6 P) l l))) (n (o28v1 P) (n (o44v4 P) (n (o76v4 P) l l) (n (o108v5 P) l l)) (n (o60v4 P) (n (o92v4 P) l l) l)))) (n (o6v0 P) (n (o10v0 P) (n (o18v0 P) (n (o34v3 P) (n (o66v4 P) l l) (n (o98v4 P) l l)) (n (o50v4 P) (n (o82v4 P) l l) (n (o114v6 P) l l))) (n (o26v0 P) (n (o42v4 P) (n (o74v4 P) l l) (n (o106v5 P) l l)) (n (o58v4 P) (n (o90v4 P) l l) (n (o122v6 P) l l)))) (n (o14v0 P) (n (o22v0 P) (n (o38v3 P) (n (o70v4 P) l l) (n (o102v4 P) l l)) (n (o54v4 P) (n (o86v4 P) l l) (n (o118v6 P) l l))) (n (o30v1 P) (n (o46v4 P) (n (o78v4 P) l l) (n (o110v5 P) l l)) (n (o62v4 P) (n (o94v4 P) l l) l))))))
noncomputable def tr5 (P : PySem.Params) : PySem.W.BT := (n (o0v0 P) (n (o1v0 P) (n (o3v7 P) (n (o7v0 P) (n (o15v0 P) (n (o31v1 P) (n (o63v4 P) (n (o127v7 P) l l) l) (n (o95v4 P) l l)) (n (o47v4 P) (n (o79v4 P) l l) (n (o111v5 P) l l))) (n (o23v0 P) (n (o39v4 P) (n (o71v4 P) (n (o135v7 P) l l) l) (n (o103v4 P) l l)) (n (o55v4 P) (n (o87v4 P) l l) (n (o119v6 P) l l)))) (n (o11v0 P) (n (o19v0 P) (n (o35v3 P) (n (o67v4 P) (n (o131v7 P) l l) l) (n (o99v4 P) l l)) (n (o51v4 P) (n (o83v4 P) l l) (n (o115v6 P) l l))) (n (o27v0 P) (n (o43v4 P) (n (o75v4 P) (n (o139v7 P) l l) l) (n (o107v5 P) l l)) (n (o59v4 P) (n (o91v4 P) l l) (n (o123v7 P) l l))))) (n (o5v0 P) (n (o9v0 P) (n (o17v0 P) (n (o33v3 P) (n (o65v4 P) (n (o129v7 P) l l) l) (n (o97v4 P) l l)) (n (o49v4 P) (n (o81v4 P) l l) (n (o113v6 P) l l))) (n (o25v0 P) (n (o41v4 P) (n (o73v4 P) (n (o137v7 P) l l) l) (n (o105v5 P) l l)) (n (o57v4 P) (n (o89v4 P) l l) (n (o121v6 P) l l)))) (n (o13v0 P) (n (o21v0 P) (n (o37v3 P) (n (o69v4 P) (n (o133v7 P) l l) l) (n (o101v4 P) l l)) (n (o53v4 P) (n (o85v4 P) l l) (n (o117v6 P) l l))) (n (o29v7 P) (n (o45v4 P) (n (o77v4 P) l l) (n (o109v5 P) l l)) (n (o61v4 P) (n (o93v4 P) l l) (n (o125v7 P) l l)))))) (n (o2v0 P) (n (o4v0 P) (n (o8v0 P) (n (o16v0 P) (n (o32v3 P) (n (o64v4 P) (n (o128v7 P) l l) l) (n (o96v4 P) l l)) (n (o48v4 P) (n (o80v4 P) l l) (n (o112v6 P) l l))) (n (o24v0 P) (n (o40v4 P) (n (o72v4 P) (n (o136v7 P) l l) l) (n (o104v4 P) l l)) (n (o56v4 P) (n (o88v4 P) l l) (n (o120v6 P) l l)))) (n (o12v0 P) (n (o20v0 P) (n (o36v3 P) (n (o68v4 P) (n (o132v7 P) l l) l) (n (o100v4 P) l l)) (n (o52v4 P) (n (o84v4 P) l l) (n (o116v6 P) l l))) (n (o28v1 P) (n (o44v4 P) (n (o76v4 P) l l) (n (o108v5 P) l l)) (n (o60v4 P) (n (o92v4 P) l l) (n (o124v7 P) l l))))) (n (o6v0 P) (n (o10v0 P) (n (o18v0 P) (n (o34v3 P) (n (o66v4 P) (n (o130v7 P) l l) l) (n (o98v4 P) l l)) (n (o50v4 P) (n (o82v4 P) l l) (n (o114v6 P) l l))) (n (o26v0 P) (n (o42v4 P) (n (o74v4 P) (n (o138v7 P) l l) l) (n (o106v5 P) l l)) (n (o58v4 P) (n (o90v4 P) l l) (n (o122v6 P) l l)))) (n (o14v0 P) (n (o22v0 P) (n (o38v3 P) (n (o70v4 P) (n (o134v7 P) l l) l) (n (o102v4 P) l l)) (n (o54v4 P) (n (o86v4 P) l l) (n (o118v6 P) l l))) (n (o30v1 P) (n (o46v4 P) (n (o78v4 P) l l) (n (o110v5 P) l l)) (n (o62v4 P) (n (o94v4 P) l l) (n (o126v7 P) l l)))))))
noncomputable def tr6 (P : PySem.Params) : PySem.W.BT := (n (o0v0 P) (n (o1v0 P) (n (o3v8 P) (n (o7v0 P) (n (o15v0 P) (n (o31v1 P) (n (o63v4 P) (n (o127v7 P) (n (o255v8 P) l l) l) (n (o191v8 P) l l)) (n (o95v4 P) (n (o159v8 P) l l) (n (o223v8 P) l l))) (n (o47v4 P) (n (o79v4 P) (n (o143v8 P) l l) (n (o207v8 P) l l)) (n (o111v5 P) (n (o175v8 P) l l) (n (o239v8 P) l l)))) (n (o23v0 P) (n (o39v4 P) (n (o71v4 P) (n (o135v7 P) (n (o263v8 P) l l) l) (n (o199v8 P) l l)) (n (o103v4 P) (n (o167v8 P) l l) (n (o231v8 P) l l))) (n (o55v4 P) (n (o87v4 P) (n (o151v8 P) l l) (n (o215v8 P) l l)) (n (o119v6 P) (n (o183v8 P) l l) (n (o247v8 P) l l))))) (n (o11v0 P) (n (o19v0 P) (n (o35v3 P) (n (o67v4 P) (n (o131v7 P) (n (o259v8 P) l l) l) (n (o195v8 P) l l)) (n (o99v4 P) (n (o163v8 P) l l) (n (o227v8 P) l l))) (n (o51v4 P) (n (o83v4 P) (n (o147v8 P) l l) (n (o211v8 P) l l)) (n (o115v6 P) (n (o179v8 P) l l) (n (o243v8 P) l l)))) (n (o27v0 P) (n (o43v4 P) (n (o75v4 P) (n (o139v7 P) l l) (n (o203v8 P) l l)) (n (o107v5 P) (n (o171v8 P) l l) (n (o235v8 P) l l))) (n (o59v4 P) (n (o91v4 P) (n (o155v8 P) l l) (n (o219v8 P) l l)) (n (o123v7 P) (n (o187v8 P) l l) (n (o251v8 P) l l)))))) (n (o5v0 P) (n (o9v0 P) (n (o17v0 P) (n (o33v3 P) (n (o65v4 P) (n (o129v7 P) (n (o257v8 P) l l) l) (n (o193v8 P) l l)) (n (o97v4 P) (n (o161v8 P) l l) (n (o225v8 P) l l))) (n (o49v4 P) (n (o81v4 P) (n (o145v8 P) l l) (n (o209v8 P) l l)) (n (o113v6 P) (n (o177v8 P) l l) (n (o241v8 P) l l)))) (n (o25v0 P) (n (o41v4 P) (n (o73v4 P) (n (o137v7 P) (n (o265v8 P) l l) l) (n (o201v8 P) l l)) (n (o105v5 P) (n (o169v8 P) l l) (n (o233v8 P) l l))) (n (o57v4 P) (n (o89v4 P) (n (o153v8 P) l l) (n (o217v8 P) l l)) (n (o121v6 P) (n (o185v8 P) l l) (n (o249v8 P) l l))))) (n (o13v0 P) (n (o21v0 P) (n (o37v3 P) (n (o69v4 P) (n (o133v7 P) (n (o261v8 P) l l) l) (n (o197v8 P) l l)) (n (o101v4 P) (n (o165v8 P) l l) (n (o229v8 P) l l))) (n (o53v4 P) (n (o85v4 P) (n (o149v8 P) l l) (n (o213v8 P) l l)) (n (o117v6 P) (n (o181v8 P) l l) (n (o245v8 P) l l)))) (n (o29v8 P) (n (o45v4 P) (n (o77v4 P) (n (o141v8 P) l l) (n (o205v8 P) l l)) (n (o109v5 P) (n (o173v8 P) l l) (n (o237v8 P) l l))) (n (o61v4 P) (n (o93v4 P) (n (o157v8 P) l l) (n (o221v8 P) l l)) (n (o125v7 P) (n (o189v8 P) l l) (n (o253v8 P) l l))))))) (n (o2v0 P) (n (o4v0 P) (n (o8v0 P) (n (o16v0 P) (n (o32v3 P) (n (o64v4 P) (n (o128v7 P) (n (o256v8 P) l l) l) (n (o192v8 P) l l)) (n (o96v4 P) (n (o160v8 P) l l) (n (o224v8 P) l l))) (n (o48v4 P) (n (o80v4 P) (n (o144v8 P) l l) (n (o208v8 P) l l)) (n (o112v6 P) (n (o176v8 P) l l) (n (o240v8 P) l l)))) (n (o24v0 P) (n (o40v4 P) (n (o72v4 P) (n (o136v7 P) (n (o264v8 P) l l) l) (n (o200v8 P) l l)) (n (o104v4 P) (n (o168v8 P) l l) (n (o232v8 P) l l))) (n (o56v4 P) (n (o88v4 P) (n (o152v8 P) l l) (n (o216v8 P) l l)) (n (o120v6 P) (n (o184v8 P) l l) (n (o248v8 P) l l))))) (n (o12v0 P) (n (o20v0 P) (n (o36v3 P) (n (o68v4 P) (n (o132v7 P) (n (o260v8 P) l l) l) (n (o196v8 P) l l)) (n (o100v4 P) (n (o164v8 P) l l) (n (o228v8 P) l l))) (n (o52v4 P) (n (o84v4 P) (n (o148v8 P) l l) (n (o212v8 P) l l)) (n (o116v6 P) (n (o180v8 P) l l) (n (o244v8 P) l l)))) (n (o28v1 P) (n (o44v4 P) (n (o76v4 P) (n (o140v8 P) l l) (n (o204v8 P) l l)) (n (o108v5 P) (n (o172v8 P) l l) (n (o236v8 P) l l))) (n (o60v4 P) (n (o92v4 P) (n (o156v8 P) l l) (n (o220v8 P) l l)) (n (o124v7 P) (n (o188v8 P) l l) (n (o252v8 P) l l)))))) (n (o6v0 P) (n (o10v0 P) (n (o18v0 P) (n (o34v3 P) (n (o66v4 P) (n (o130v7 P) (n (o258v8 P) l l) l) (n (o194v8 P) l l)) (n (o98v4 P) (n (o162v8 P) l l) (n (o226v8 P) l l))) (n (o50v4 P) (n (o82v4 P) (n (o146v8 P) l l) (n (o210v8 P) l l)) (n (o114v6 P) (n (o178v8 P) l l) (n (o242v8 P) l l)))) (n (o26v0 P) (n (o42v4 P) (n (o74v4 P) (n (o138v7 P) (n (o266v8 P) l l) l) (n (o202v8 P) l l)) (n (o106v5 P) (n (o170v8 P) l l) (n (o234v8 P) l l))) (n (o58v4 P) (n (o90v4 P) (n (o154v8 P) l l) (n (o218v8 P) l l)) (n (o122v6 P) (n (o186v8 P) l l) (n (o250v8 P) l l))))) (n (o14v0 P) (n (o22v0 P) (n (o38v3 P) (n (o70v4 P) (n (o134v7 P) (n (o262v8 P) l l) l) (n (o198v8 P) l l)) (n (o102v4 P) (n (o166v8 P) l l) (n (o230v8 P) l l))) (n (o54v4 P) (n (o86v4 P) (n (o150v8 P) l l) (n (o214v8 P) l l)) (n (o118v6 P) (n (o182v8 P) l l) (n (o246v8 P) l l)))) (n (o30v1 P) (n (o46v4 P) (n (o78v4 P) (n (o142v8 P) l l) (n (o206v8 P) l l)) (n (o110v5 P) (n (o174v8 P) l l) (n (o238v8 P) l l))) (n (o62v4 P) (n (o94v4 P) (n (o158v8 P) l l) (n (o222v8 P) l l)) (n (o126v7 P) (n (o190v8 P) l l) (n (o254v8 P) l l))))))))
noncomputable def tr7 (P : PySem.Params) : PySem.W.BT := (n (o0v0 P) (n (o1v0 P) (n (o3v9 P) (n (o7v0 P) (n (o15v0 P) (n (o31v1 P) (n (o63v4 P) (n (o127v7 P) (n (o255v8 P) l l) l) (n (o191v8 P) (n (o319v9 P) l l) l)) (n (o95v4 P) (n (o159v8 P) (n (o287v9 P) l l) l) (n (o223v8 P) l l))) (n (o47v4 P) (n (o79v4 P) (n (o143v8 P) (n (o271v9 P) l l) l) (n (o207v8 P) l l)) (n (o111v5 P) (n (o175v8 P) (n (o303v9 P) l l) l) (n (o239v8 P) l l)))) (n (o23v0 P) (n (o39v4 P) (n (o71v4 P) (n (o135v7 P) (n (o263v8 P) l l) l) (n (o199v8 P) l l)) (n (o103v4 P) (n (o167v8 P) (n (o295v9 P) l l) l) (n (o231v8 P) l l))) (n (o55v4 P) (n (o87v4 P) (n (o151v8 P) (n (o279v9 P) l l) l) (n (o215v8 P) l l)) (n (o119v6 P) (n (o183v8 P) (n (o311v9 P) l l) l) (n (o247v8 P) l l))))) (n (o11v0 P) (n (o19v0 P) (n (o35v3 P) (n (o67v4 P) (n (o131v7 P) (n (o259v8 P) l l) l) (n (o195v8 P) l l)) (n (o99v4 P) (n (o163v8 P) (n (o291v9 P) l l) l) (n (o227v8 P) l l))) (n (o51v4 P) (n (o83v4 P) (n (o147v8 P) (n (o275v9 P) l l) l) (n (o211v8 P) l l)) (n (o115v6 P) (n (o179v8 P) (n (o307v9 P) l l) l) (n (o243v8 P) l l)))) (n (o27v0 P) (n (o43v4 P) (n (o75v4 P) (n (o139v7 P) (n (o267v9 P) l l) l) (n (o203v8 P) l l)) (n (o107v5 P) (n (o171v8 P) (n (o299v9 P) l l) l) (n (o235v8 P) l l))) (n (o59v4 P) (n (o91v4 P) (n (o155v8 P) (n (o283v9 P) l l) l) (n (o219v8 P) l l)) (n (o123v7 P) (n (o187v8 P) (n (o315v9 P) l l) l) (n (o251v8 P) l l)))))) (n (o5v0 P) (n (o9v0 P) (n (o17v0 P) (n (o33v3 P) (n (o65v4 P) (n (o129v7 P) (n (o257v8 P) l l) l) (n (o193v8 P) (n (o321v9 P) l l) l)) (n (o97v4 P) (n (o161v8 P) (n (o289v9 P) l l) l) (n (o225v8 P) l l))) (n (o49v4 P) (n (o81v4 P) (n (o145v8 P) (n (o273v9 P) l l) l) (n (o209v8 P) l l)) (n (o113v6 P) (n (o177v8 P) (n (o305v9 P) l l) l) (n (o241v8 P) l l)))) (n (o25v0 P) (n (o41v4 P) (n (o73v4 P) (n (o137v7 P) (n (o265v8 P) l l) l) (n (o201v8 P) l l)) (n (o105v5 P) (n (o169v8 P) (n (o297v9 P) l l) l) (n (o233v8 P) l l))) (n (o57v4 P) (n (o89v4 P) (n (o153v8 P) (n (o281v9 P) l l) l) (n (o217v8 P) l l)) (n (o121v6 P) (n (o185v8 P) (n (o313v9 P) l l) l) (n (o249v8 P) l l))))) (n (o13v0 P) (n (o21v0 P) (n (o37v3 P) (n (o69v4 P) (n (o133v7 P) (n (o261v8 P) l l) l) (n (o197v8 P) l l)) (n (o101v4 P) (n (o165v8 P) (n (o293v9 P) l l) l) (n (o229v8 P) l l))) (n (o53v4 P) (n (o85v4 P) (n (o149v8 P) (n (o277v9 P) l l) l) (n (o213v8 P) l l)) (n (o117v6 P) (n (o181v8 P) (n (o309v9 P) l l) l) (n (o245v8 P) l l)))) (n (o29v9 P) (n (o45v4 P) (n (o77v4 P) (n (o141v8 P) (n (o269v9 P) l l) l) (n (o205v8 P) l l)) (n (o109v5 P) (n (o173v8 P) (n (o301v9 P) l l) l) (n (o237v8 P) l l))) (n (o61v4 P) (n (o93v4 P) (n (o157v8 P) (n (o285v9 P) l l) l) (n (o221v8 P) l l)) (n (o125v7 P) (n (o189v8 P) (n (o317v9 P) l l) l) (n (o253v8 P) l l))))))) (n (o2v0 P) (n (o4v0 P) (n (o8v0 P) (n (o16v0 P) (n (o32v3 P) (n (o64v4 P) (n (o128v7 P) (n (o256v8 P) l l) l) (n (o192v8 P) (n (o320v9 P) l l) l)) (n (o96v4 P) (n (o160v8 P) (n (o288v9 P) l l) l) (n (o224v8 P) l l))) (n (o48v4 P) (n (o80v4 P) (n (o144v8 P) (n (o272v9 P) l l) l) (n (o208v8 P) l l)) (n (o112v6 P) (n (o176v8 P) (n (o304v9 P) l l) l) (n (o240v8 P) l l)))) (n (o24v0 P) (n (o40v4 P) (n (o72v4 P) (n (o136v7 P) (n (o264v8 P) l l) l) (n (o200v8 P) l l)) (n (o104v4 P) (n (o168v8 P) (n (o296v9 P) l l) l) (n (o232v8 P) l l))) (n (o56v4 P) (n (o88v4 P) (n (o152v8 P) (n (o280v9 P) l l) l) (n (o216v8 P) l l)) (n (o120v6 P) (n (o184v8 P) (n (o312v9 P) l l) l) (n (o248v8 P) l l))))) (n (o12v0 P) (n (o20v0 P) (n (o36v3 P) (n (o68v4 P) (n (o132v7 P) (n (o260v8 P) l l) l) (n (o196v8 P) l l)) (n (o100v4 P) (n (o164v8 P) (n (o292v9 P) l l) l) (n (o228v8 P) l l))) (n (o52v4 P) (n (o84v4 P) (n (o148v8 P) (n (o276v9 P) l l) l) (n (o212v8 P) l l)) (n (o116v6 P) (n (o180v8 P) (n (o308v9 P) l l) l) (n (o244v8 P) l l)))) (n (o28v1 P) (n (o44v4 P) (n (o76v4 P) (n (o140v8 P) (n (o268v9 P) l l) l) (n (o204v8 P) l l)) (n (o108v5 P) (n (o172v8 P) (n (o300v9 P) l l) l) (n (o236v8 P) l l))) (n (o60v4 P) (n (o92v4 P) (n (o156v8 P) (n (o284v9 P) l l) l) (n (o220v8 P) l l)) (n (o124v7 P) (n (o188v8 P) (n (o316v9 P) l l) l) (n (o252v8 P) l l)))))) (n (o6v0 P) (n (o10v0 P) (n (o18v0 P) (n (o34v3 P) (n (o66v4 P) (n (o130v7 P) (n (o258v8 P) l l) l) (n (o194v8 P) l l)) (n (o98v4 P) (n (o162v8 P) (n (o290v9 P) l l) l) (n (o226v8 P) l l))) (n (o50v4 P) (n (o82v4 P) (n (o146v8 P) (n (o274v9 P) l l) l) (n (o210v8 P) l l)) (n (o114v6 P) (n (o178v8 P) (n (o306v9 P) l l) l) (n (o242v8 P) l l)))) (n (o26v0 P) (n (o42v4 P) (n (o74v4 P) (n (o138v7 P) (n (o266v8 P) l l) l) (n (o202v8 P) l l)) (n (o106v5 P) (n (o170v8 P) (n (o298v9 P) l l) l) (n (o234v8 P) l l))) (n (o58v4 P) (n (o90v4 P) (n (o154v8 P) (n (o282v9 P) l l) l) (n (o218v8 P) l l)) (n (o122v6 P) (n (o186v8 P) (n (o314v9 P) l l) l) (n (o250v8 P) l l))))) (n (o14v0 P) (n (o22v0 P) (n (o38v3 P) (n (o70v4 P) (n (o134v7 P) (n (o262v8 P) l l) l) (n (o198v8 P) l l)) (n (o102v4 P) (n (o166v8 P) (n (o294v9 P) l l) l) (n (o230v8 P) l l))) (n (o54v4 P) (n (o86v4 P) (n (o150v8 P) (n (o278v9 P) l l) l) (n (o214v8 P) l l)) (n (o118v6 P) (n (o182v8 P) (n (o310v9 P) l l) l) (n (o246v8 P) l l)))) (n (o30v1 P) (n (o46v4 P) (n (o78v4 P) (n (o142v8 P) (n (o270v9 P) l l) l) (n (o206v8 P) l l)) (n (o110v5 P) (n (o174v8 P) (n (o302v9 P) l l) l) (n (o238v8 P) l l))) (n (o62v4 P) (n (o94v4 P) (n (o158v8 P) (n (o286v9 P) l l) l) (n (o222v8 P) l l)) (n (o126v7 P) (n (o190v8 P) (n (o318v9 P) l l) l) (n (o254v8 P) l l))))))))
noncomputable abbrev m0 : Nat := 28
noncomputable abbrev ann : Option PySem.Value := (some (PySem.Value.ref 6))
noncomputable def benv : PySem.Env := { scope := pw.main.scope, locals := mainNs, globals := mainNs, cells := [], code := (PySem.Value.ref 30), frame := some 31 }
noncomputable def cE : PySem.Code := .body (behindTheImports pw) benv
noncomputable abbrev fpos : PySem.Pos := ⟨0, 0, 0, 0⟩
theorem c_pre (w : World) : (fun os => topGo treeTable pw w m0 ann 12 ⟨H0 w.params, #[], ⟨0, 0, 0, 0⟩, 276, os⟩ (topStub pw)) = fun os => some (⟨Ha w.params, #[], ⟨0, 0, 0, 0⟩, 282, os⟩, ⟨denote treeTable cE, cE, ⟨0, 0, 0, 0⟩, [topFrame fpos]⟩) := by
  rw [PySem.W.Fast.te15667345088766844465, PySem.W.Fast.te11892475500146522536, PySem.W.Fast.te14364793385576792824]; kernel_rfl
theorem c_block (w : World) : (fun os => segRun treeTable pw w m0 ann 1 1 ⟨Ha w.params, #[], ⟨0, 0, 0, 0⟩, 282, os⟩ (blockOf (behindTheImports pw) benv cE ⟨0, 0, 0, 0⟩ [topFrame fpos])) = fun os => some (Flow.next, (⟨tr0 w.params, 32, {}, #[], ⟨0, 0, 0, 0⟩, 282, os⟩ : SharedT).abs, cE, ⟨0, 0, 0, 0⟩) := by
  rw [PySem.W.Fast.te14374325043358763698, PySem.W.Fast.te14364793385576792824]; kernel_rfl
noncomputable def st0 : List PySem.Stmt := ((behindTheImports pw).drop 0).take 2
theorem c_0 (w : World) : (fun os => segRunT treeTable pw w m0 ann 1 39 (⟨tr0 w.params, 32, {}, #[], ⟨0, 0, 0, 0⟩, 282, os⟩ : SharedT) (piecesOf st0 benv cE ⟨0, 0, 0, 0⟩ [topFrame fpos])) = fun os => some (Flow.next, (⟨tr1 w.params, 39, {}, #[], ⟨0, 0, 0, 0⟩, 291, os⟩ : SharedT), cE, ⟨5, 0, 5, 8⟩) := by
  rw [PySem.W.Fast.te10110043849684766642, PySem.W.Fast.te14364793385576792824]; kernel_rfl
noncomputable def st1 : List PySem.Stmt := ((behindTheImports pw).drop 2).take 1
theorem c_1f (w : World) : (fun os => segRunT treeTable pw (w.withFollow "special-get-raises" false) m0 ann 1 489 (⟨tr1 (w.withFollow "special-get-raises" false).params, 39, {}, #[], ⟨0, 0, 0, 0⟩, 291, os⟩ : SharedT) (piecesOf st1 benv cE ⟨5, 0, 5, 8⟩ [topFrame fpos])) = fun os => some (Flow.next, (⟨tr2 (w.withFollow "special-get-raises" false).params, 105, {}, #[], ⟨0, 0, 0, 0⟩, 387, os⟩ : SharedT), cE, ⟨6, 0, 52, 16⟩) := by
  rw [PySem.W.Fast.te10110043849684766642, PySem.W.Fast.te14364793385576792824]; kernel_rfl
theorem c_1t (w : World) : (fun os => segRunT treeTable pw (w.withFollow "special-get-raises" true) m0 ann 1 489 (⟨tr1 (w.withFollow "special-get-raises" true).params, 39, {}, #[], ⟨0, 0, 0, 0⟩, 291, os⟩ : SharedT) (piecesOf st1 benv cE ⟨5, 0, 5, 8⟩ [topFrame fpos])) = fun os => some (Flow.next, (⟨tr2 (w.withFollow "special-get-raises" true).params, 105, {}, #[], ⟨0, 0, 0, 0⟩, 387, os⟩ : SharedT), cE, ⟨6, 0, 52, 16⟩) := by
  rw [PySem.W.Fast.te10110043849684766642, PySem.W.Fast.te14364793385576792824]; kernel_rfl
theorem c_1 (w : World) : (fun os => segRunT treeTable pw w m0 ann 1 489 (⟨tr1 w.params, 39, {}, #[], ⟨0, 0, 0, 0⟩, 291, os⟩ : SharedT) (piecesOf st1 benv cE ⟨5, 0, 5, 8⟩ [topFrame fpos])) = fun os => some (Flow.next, (⟨tr2 w.params, 105, {}, #[], ⟨0, 0, 0, 0⟩, 387, os⟩ : SharedT), cE, ⟨6, 0, 52, 16⟩) := (byRow2 "special-get-raises" (P := fun w => (fun os => segRunT treeTable pw w m0 ann 1 489 (⟨tr1 w.params, 39, {}, #[], ⟨0, 0, 0, 0⟩, 291, os⟩ : SharedT) (piecesOf st1 benv cE ⟨5, 0, 5, 8⟩ [topFrame fpos])) = fun os => some (Flow.next, (⟨tr2 w.params, 105, {}, #[], ⟨0, 0, 0, 0⟩, 387, os⟩ : SharedT), cE, ⟨6, 0, 52, 16⟩)) (fun w => c_1f w) (fun w => c_1t w)) w
noncomputable def st2 : List PySem.Stmt := ((behindTheImports pw).drop 3).take 3
theorem c_2 (w : World) : (fun os => segRunT treeTable pw w m0 ann 1 50 (⟨tr2 w.params, 105, {}, #[], ⟨0, 0, 0, 0⟩, 387, os⟩ : SharedT) (piecesOf st2 benv cE ⟨6, 0, 52, 16⟩ [topFrame fpos])) = fun os => some (Flow.next, (⟨tr3 w.params, 112, {}, #[], ⟨0, 0, 0, 0⟩, 400, os⟩ : SharedT), cE, ⟨62, 0, 62, 8⟩) := by
  rw [PySem.W.Fast.te10110043849684766642, PySem.W.Fast.te14364793385576792824]; kernel_rfl
noncomputable def st3 : List PySem.Stmt := ((behindTheImports pw).drop 6).take 1
theorem c_3ff (w : World) : (fun os => segRunT treeTable pw ((w.withFollow "special-get-raises" false).withFollow "set-order" false) m0 ann 1 999 (⟨tr3 ((w.withFollow "special-get-raises" false).withFollow "set-order" false).params, 112, {}, #[], ⟨0, 0, 0, 0⟩, 400, os⟩ : SharedT) (piecesOf st3 benv cE ⟨62, 0, 62, 8⟩ [topFrame fpos])) = fun os => some (Flow.next, (⟨tr4 ((w.withFollow "special-get-raises" false).withFollow "set-order" false).params, 123, {}, #[], ⟨0, 0, 0, 0⟩, 460, os⟩ : SharedT), cE, ⟨63, 0, 63, 6⟩) := by
  rw [PySem.W.Fast.te10110043849684766642, PySem.W.Fast.te14364793385576792824]; kernel_rfl
theorem c_3ft (w : World) : (fun os => segRunT treeTable pw ((w.withFollow "special-get-raises" false).withFollow "set-order" true) m0 ann 1 999 (⟨tr3 ((w.withFollow "special-get-raises" false).withFollow "set-order" true).params, 112, {}, #[], ⟨0, 0, 0, 0⟩, 400, os⟩ : SharedT) (piecesOf st3 benv cE ⟨62, 0, 62, 8⟩ [topFrame fpos])) = fun os => some (Flow.next, (⟨tr4 ((w.withFollow "special-get-raises" false).withFollow "set-order" true).params, 123, {}, #[], ⟨0, 0, 0, 0⟩, 460, os⟩ : SharedT), cE, ⟨63, 0, 63, 6⟩) := by
  rw [PySem.W.Fast.te10110043849684766642, PySem.W.Fast.te14364793385576792824]; kernel_rfl
theorem c_3tf (w : World) : (fun os => segRunT treeTable pw ((w.withFollow "special-get-raises" true).withFollow "set-order" false) m0 ann 1 999 (⟨tr3 ((w.withFollow "special-get-raises" true).withFollow "set-order" false).params, 112, {}, #[], ⟨0, 0, 0, 0⟩, 400, os⟩ : SharedT) (piecesOf st3 benv cE ⟨62, 0, 62, 8⟩ [topFrame fpos])) = fun os => some (Flow.next, (⟨tr4 ((w.withFollow "special-get-raises" true).withFollow "set-order" false).params, 123, {}, #[], ⟨0, 0, 0, 0⟩, 460, os⟩ : SharedT), cE, ⟨63, 0, 63, 6⟩) := by
  rw [PySem.W.Fast.te10110043849684766642, PySem.W.Fast.te14364793385576792824]; kernel_rfl
theorem c_3tt (w : World) : (fun os => segRunT treeTable pw ((w.withFollow "special-get-raises" true).withFollow "set-order" true) m0 ann 1 999 (⟨tr3 ((w.withFollow "special-get-raises" true).withFollow "set-order" true).params, 112, {}, #[], ⟨0, 0, 0, 0⟩, 400, os⟩ : SharedT) (piecesOf st3 benv cE ⟨62, 0, 62, 8⟩ [topFrame fpos])) = fun os => some (Flow.next, (⟨tr4 ((w.withFollow "special-get-raises" true).withFollow "set-order" true).params, 123, {}, #[], ⟨0, 0, 0, 0⟩, 460, os⟩ : SharedT), cE, ⟨63, 0, 63, 6⟩) := by
  rw [PySem.W.Fast.te10110043849684766642, PySem.W.Fast.te14364793385576792824]; kernel_rfl
theorem c_3 (w : World) : (fun os => segRunT treeTable pw w m0 ann 1 999 (⟨tr3 w.params, 112, {}, #[], ⟨0, 0, 0, 0⟩, 400, os⟩ : SharedT) (piecesOf st3 benv cE ⟨62, 0, 62, 8⟩ [topFrame fpos])) = fun os => some (Flow.next, (⟨tr4 w.params, 123, {}, #[], ⟨0, 0, 0, 0⟩, 460, os⟩ : SharedT), cE, ⟨63, 0, 63, 6⟩) := (byRow2 "set-order" (P := fun w => (fun os => segRunT treeTable pw w m0 ann 1 999 (⟨tr3 w.params, 112, {}, #[], ⟨0, 0, 0, 0⟩, 400, os⟩ : SharedT) (piecesOf st3 benv cE ⟨62, 0, 62, 8⟩ [topFrame fpos])) = fun os => some (Flow.next, (⟨tr4 w.params, 123, {}, #[], ⟨0, 0, 0, 0⟩, 460, os⟩ : SharedT), cE, ⟨63, 0, 63, 6⟩)) (byRow2 "special-get-raises" (P := fun w => (fun os => segRunT treeTable pw (w.withFollow "set-order" false) m0 ann 1 999 (⟨tr3 (w.withFollow "set-order" false).params, 112, {}, #[], ⟨0, 0, 0, 0⟩, 400, os⟩ : SharedT) (piecesOf st3 benv cE ⟨62, 0, 62, 8⟩ [topFrame fpos])) = fun os => some (Flow.next, (⟨tr4 (w.withFollow "set-order" false).params, 123, {}, #[], ⟨0, 0, 0, 0⟩, 460, os⟩ : SharedT), cE, ⟨63, 0, 63, 6⟩)) (fun w => c_3ff w) (fun w => c_3tf w)) (byRow2 "special-get-raises" (P := fun w => (fun os => segRunT treeTable pw (w.withFollow "set-order" true) m0 ann 1 999 (⟨tr3 (w.withFollow "set-order" true).params, 112, {}, #[], ⟨0, 0, 0, 0⟩, 400, os⟩ : SharedT) (piecesOf st3 benv cE ⟨62, 0, 62, 8⟩ [topFrame fpos])) = fun os => some (Flow.next, (⟨tr4 (w.withFollow "set-order" true).params, 123, {}, #[], ⟨0, 0, 0, 0⟩, 460, os⟩ : SharedT), cE, ⟨63, 0, 63, 6⟩)) (fun w => c_3ft w) (fun w => c_3tt w))) w
noncomputable def st4 : List PySem.Stmt := ((behindTheImports pw).drop 7).take 4
theorem c_4 (w : World) : (fun os => segRunT treeTable pw w m0 ann 1 185 (⟨tr4 w.params, 123, {}, #[], ⟨0, 0, 0, 0⟩, 460, os⟩ : SharedT) (piecesOf st4 benv cE ⟨63, 0, 63, 6⟩ [topFrame fpos])) = fun os => some (Flow.next, (⟨tr5 w.params, 140, {}, #[], ⟨0, 0, 0, 0⟩, 529, os⟩ : SharedT), cE, ⟨68, 0, 68, 20⟩) := by
  rw [PySem.W.Fast.te10110043849684766642, PySem.W.Fast.te14364793385576792824]; kernel_rfl
noncomputable def st5 : List PySem.Stmt := ((behindTheImports pw).drop 11).take 1
theorem c_5 (w : World) : (fun os => segRunT treeTable pw w m0 ann 1 729 (⟨tr5 w.params, 140, {}, #[], ⟨0, 0, 0, 0⟩, 529, os⟩ : SharedT) (piecesOf st5 benv cE ⟨68, 0, 68, 20⟩ [topFrame fpos])) = fun os => some (Flow.next, (⟨tr6 w.params, 267, {}, #[], ⟨0, 0, 0, 0⟩, 686, os⟩ : SharedT), cE, ⟨69, 0, 143, 16⟩) := by
  rw [PySem.W.Fast.te10110043849684766642, PySem.W.Fast.te14364793385576792824]; kernel_rfl
noncomputable def st6 : List PySem.Stmt := ((behindTheImports pw).drop 12).take 10
theorem c_6 (w : World) : (fun os => segRunT treeTable pw w m0 ann 1 270 (⟨tr6 w.params, 267, {}, #[], ⟨0, 0, 0, 0⟩, 686, os⟩ : SharedT) (piecesOf st6 benv cE ⟨69, 0, 143, 16⟩ [topFrame fpos])) = fun os => some (Flow.next, (⟨tr7 w.params, 322, {}, #[], ⟨0, 0, 0, 0⟩, 758, os⟩ : SharedT), cE, ⟨188, 0, 221, 88⟩) := by
  rw [PySem.W.Fast.te10110043849684766642, PySem.W.Fast.te14364793385576792824]; kernel_rfl
theorem c_fin (w : World) : (fun os => topRun treeTable pw w m0 ann 2 (⟨tr7 w.params, 322, {}, #[], ⟨0, 0, 0, 0⟩, 758, os⟩ : SharedT).abs ⟨doneF .next, cE, ⟨188, 0, 221, 88⟩, [topFrame fpos]⟩) = fun os => some ⟨H1 w.params, #[], ⟨0, 0, 0, 0⟩, 758, os⟩ := by
  rw [PySem.W.Fast.te14082659384304107361, PySem.W.Fast.te14364793385576792824]; kernel_rfl
noncomputable abbrev MM : Nat := 12 + (1 + (39 + (489 + (50 + (999 + (185 + (729 + (270 + 2))))))))
theorem body_eq : behindTheImports pw = st0 ++ (st1 ++ (st2 ++ (st3 ++ (st4 ++ (st5 ++ (st6 ++ [])))))) := by kernel_rfl
theorem c_run (w : World) (os : OsState) : topRun treeTable pw w m0 ann MM ⟨H0 w.params, #[], ⟨0, 0, 0, 0⟩, 276, os⟩ (topStub pw) = some ⟨H1 w.params, #[], ⟨0, 0, 0, 0⟩, 758, os⟩ := by
  refine go_top (congrFun (c_pre w) os) ?_
  refine piece_block (congrFun (c_block w) os) ?_
  rw [body_eq]
  refine piece_app (segRun_of (congrFun (c_0 w) os)) ?_
  refine piece_app (segRun_of (congrFun (c_1 w) os)) ?_
  refine piece_app (segRun_of (congrFun (c_2 w) os)) ?_
  refine piece_app (segRun_of (congrFun (c_3 w) os)) ?_
  refine piece_app (segRun_of (congrFun (c_4 w) os)) ?_
  refine piece_app (segRun_of (congrFun (c_5 w) os)) ?_
  refine piece_app (segRun_of (congrFun (c_6 w) os)) ?_
  exact piece_nil (congrFun (c_fin w) os)
noncomputable abbrev NN : Nat := 5634
noncomputable abbrev keepL : List Nat := [0, 1, 3, 5, 7, 8, 10, 11, 12, 14, 15, 16, 17, 18, 19, 20, 21, 22]
noncomputable abbrev looseL : List PySem.Str := [(PySem.Str.ofString "Whitespace"), (PySem.Str.ofString "b1_set"), (PySem.Str.ofString "_name_disallowed_re"), (PySem.Str.ofString "_value_disallowed_re")]
theorem c_open (w : World) : (fencedOpening treeTable pw w NN).map (fun s => (s.heap, s.gens, s.drawn, s.toks)) = some (H0 w.params, (#[] : Array GenState), (⟨0, 0, 0, 0⟩ : Drawn), (276 : Nat)) := by kernel_rfl
theorem c_size (w : World) : ((H0 w.params).isNs mainGlobals && (#[] : Array GenState).size == 0, (H0 w.params).objs.size, (H0 w.params).nsMap mainGlobals "__annotations__") = (true, m0, ann) := by kernel_rfl
noncomputable abbrev fk : Nat := 758
noncomputable def kx (P : PySem.Params) : Frag := ((nat_lit 2), o2v0 P) :: ((nat_lit 3), o3v9 P) :: ((nat_lit 32), o32v3 P) :: ((nat_lit 34), o34v3 P) :: ((nat_lit 35), o35v3 P) :: ((nat_lit 37), o37v3 P) :: ((nat_lit 38), o38v3 P) :: ((nat_lit 49), o49v4 P) :: ((nat_lit 51), o51v4 P) :: ((nat_lit 52), o52v4 P) :: ((nat_lit 54), o54v4 P) :: ((nat_lit 55), o55v4 P) :: ((nat_lit 56), o56v4 P) :: ((nat_lit 58), o58v4 P) :: ((nat_lit 59), o59v4 P) :: ((nat_lit 61), o61v4 P) :: ((nat_lit 62), o62v4 P) :: ((nat_lit 63), o63v4 P) :: ((nat_lit 65), o65v4 P) :: ((nat_lit 66), o66v4 P) :: ((nat_lit 68), o68v4 P) :: ((nat_lit 69), o69v4 P) :: ((nat_lit 70), o70v4 P) :: ((nat_lit 72), o72v4 P) :: ((nat_lit 73), o73v4 P) :: ((nat_lit 75), o75v4 P) :: ((nat_lit 76), o76v4 P) :: ((nat_lit 77), o77v4 P) :: ((nat_lit 79), o79v4 P) :: ((nat_lit 80), o80v4 P) :: ((nat_lit 82), o82v4 P) :: ((nat_lit 83), o83v4 P) :: ((nat_lit 84), o84v4 P) :: ((nat_lit 86), o86v4 P) :: ((nat_lit 87), o87v4 P) :: ((nat_lit 89), o89v4 P) :: ((nat_lit 90), o90v4 P) :: ((nat_lit 91), o91v4 P) :: ((nat_lit 93), o93v4 P) :: ((nat_lit 94), o94v4 P) :: ((nat_lit 96), o96v4 P) :: ((nat_lit 97), o97v4 P) :: ((nat_lit 98), o98v4 P) :: ((nat_lit 99), o99v4 P) :: ((nat_lit 100), o100v4 P) :: ((nat_lit 101), o101v4 P) :: ((nat_lit 102), o102v4 P) :: ((nat_lit 105), o105v5 P) :: ((nat_lit 107), o107v5 P) :: ((nat_lit 108), o108v5 P) :: ((nat_lit 110), o110v5 P) :: ((nat_lit 111), o111v5 P) :: ((nat_lit 119), o119v6 P) :: ((nat_lit 123), o123v7 P) :: ((nat_lit 125), o125v7 P) :: ((nat_lit 126), o126v7 P) :: ((nat_lit 128), o128v7 P) :: ((nat_lit 129), o129v7 P) :: ((nat_lit 133), o133v7 P) :: ((nat_lit 134), o134v7 P) :: ((nat_lit 138), o138v7 P) :: ((nat_lit 139), o139v7 P) :: ((nat_lit 147), o147v8 P) :: ((nat_lit 148), o148v8 P) :: ((nat_lit 150), o150v8 P) :: ((nat_lit 151), o151v8 P) :: ((nat_lit 153), o153v8 P) :: ((nat_lit 154), o154v8 P) :: ((nat_lit 155), o155v8 P) :: ((nat_lit 157), o157v8 P) :: ((nat_lit 158), o158v8 P) :: ((nat_lit 160), o160v8 P) :: ((nat_lit 161), o161v8 P) :: ((nat_lit 162), o162v8 P) :: ((nat_lit 164), o164v8 P) :: ((nat_lit 165), o165v8 P) :: ((nat_lit 167), o167v8 P) :: ((nat_lit 168), o168v8 P) :: ((nat_lit 169), o169v8 P) :: ((nat_lit 171), o171v8 P) :: ((nat_lit 172), o172v8 P) :: ((nat_lit 174), o174v8 P) :: ((nat_lit 175), o175v8 P) :: ((nat_lit 176), o176v8 P) :: ((nat_lit 179), o179v8 P) :: ((nat_lit 180), o180v8 P) :: ((nat_lit 181), o181v8 P) :: ((nat_lit 183), o183v8 P) :: ((nat_lit 184), o184v8 P) :: ((nat_lit 186), o186v8 P) :: ((nat_lit 187), o187v8 P) :: ((nat_lit 188), o188v8 P) :: ((nat_lit 190), o190v8 P) :: ((nat_lit 191), o191v8 P) :: ((nat_lit 193), o193v8 P) :: ((nat_lit 194), o194v8 P) :: ((nat_lit 195), o195v8 P) :: ((nat_lit 197), o197v8 P) :: ((nat_lit 198), o198v8 P) :: ((nat_lit 200), o200v8 P) :: ((nat_lit 201), o201v8 P) :: ((nat_lit 202), o202v8 P) :: ((nat_lit 203), o203v8 P) :: ((nat_lit 205), o205v8 P) :: ((nat_lit 206), o206v8 P) :: ((nat_lit 208), o208v8 P) :: ((nat_lit 209), o209v8 P) :: ((nat_lit 210), o210v8 P) :: ((nat_lit 213), o213v8 P) :: ((nat_lit 214), o214v8 P) :: ((nat_lit 215), o215v8 P) :: ((nat_lit 218), o218v8 P) :: ((nat_lit 219), o219v8 P) :: ((nat_lit 220), o220v8 P) :: ((nat_lit 222), o222v8 P) :: ((nat_lit 223), o223v8 P) :: ((nat_lit 225), o225v8 P) :: ((nat_lit 226), o226v8 P) :: ((nat_lit 227), o227v8 P) :: ((nat_lit 229), o229v8 P) :: ((nat_lit 230), o230v8 P) :: ((nat_lit 232), o232v8 P) :: ((nat_lit 233), o233v8 P) :: ((nat_lit 234), o234v8 P) :: ((nat_lit 237), o237v8 P) :: ((nat_lit 238), o238v8 P) :: ((nat_lit 239), o239v8 P) :: ((nat_lit 241), o241v8 P) :: ((nat_lit 242), o242v8 P) :: ((nat_lit 244), o244v8 P) :: ((nat_lit 245), o245v8 P) :: ((nat_lit 246), o246v8 P) :: ((nat_lit 248), o248v8 P) :: ((nat_lit 249), o249v8 P) :: ((nat_lit 251), o251v8 P) :: ((nat_lit 252), o252v8 P) :: ((nat_lit 253), o253v8 P) :: ((nat_lit 255), o255v8 P) :: ((nat_lit 256), o256v8 P) :: ((nat_lit 258), o258v8 P) :: ((nat_lit 259), o259v8 P) :: ((nat_lit 260), o260v8 P) :: ((nat_lit 261), o261v8 P) :: ((nat_lit 262), o262v8 P) :: ((nat_lit 263), o263v8 P) :: ((nat_lit 264), o264v8 P) :: ((nat_lit 267), o267v9 P) :: ((nat_lit 269), o269v9 P) :: ((nat_lit 270), o270v9 P) :: ((nat_lit 272), o272v9 P) :: ((nat_lit 273), o273v9 P) :: ((nat_lit 274), o274v9 P) :: ((nat_lit 276), o276v9 P) :: ((nat_lit 277), o277v9 P) :: ((nat_lit 279), o279v9 P) :: ((nat_lit 280), o280v9 P) :: ((nat_lit 281), o281v9 P) :: ((nat_lit 283), o283v9 P) :: ((nat_lit 284), o284v9 P) :: ((nat_lit 286), o286v9 P) :: ((nat_lit 287), o287v9 P) :: ((nat_lit 288), o288v9 P) :: ((nat_lit 290), o290v9 P) :: ((nat_lit 291), o291v9 P) :: ((nat_lit 293), o293v9 P) :: ((nat_lit 294), o294v9 P) :: ((nat_lit 295), o295v9 P) :: ((nat_lit 298), o298v9 P) :: ((nat_lit 299), o299v9 P) :: ((nat_lit 300), o300v9 P) :: ((nat_lit 303), o303v9 P) :: ((nat_lit 304), o304v9 P) :: ((nat_lit 305), o305v9 P) :: ((nat_lit 308), o308v9 P) :: ((nat_lit 309), o309v9 P) :: ((nat_lit 310), o310v9 P) :: ((nat_lit 312), o312v9 P) :: ((nat_lit 313), o313v9 P) :: ((nat_lit 315), o315v9 P) :: ((nat_lit 316), o316v9 P) :: ((nat_lit 317), o317v9 P) :: ((nat_lit 320), o320v9 P) :: ((nat_lit 321), o321v9 P) :: []
noncomputable abbrev kas : List Addr := (nat_lit 2) :: (nat_lit 3) :: (nat_lit 32) :: (nat_lit 34) :: (nat_lit 35) :: (nat_lit 37) :: (nat_lit 38) :: (nat_lit 49) :: (nat_lit 51) :: (nat_lit 52) :: (nat_lit 54) :: (nat_lit 55) :: (nat_lit 56) :: (nat_lit 58) :: (nat_lit 59) :: (nat_lit 61) :: (nat_lit 62) :: (nat_lit 63) :: (nat_lit 65) :: (nat_lit 66) :: (nat_lit 68) :: (nat_lit 69) :: (nat_lit 70) :: (nat_lit 72) :: (nat_lit 73) :: (nat_lit 75) :: (nat_lit 76) :: (nat_lit 77) :: (nat_lit 79) :: (nat_lit 80) :: (nat_lit 82) :: (nat_lit 83) :: (nat_lit 84) :: (nat_lit 86) :: (nat_lit 87) :: (nat_lit 89) :: (nat_lit 90) :: (nat_lit 91) :: (nat_lit 93) :: (nat_lit 94) :: (nat_lit 96) :: (nat_lit 97) :: (nat_lit 98) :: (nat_lit 99) :: (nat_lit 100) :: (nat_lit 101) :: (nat_lit 102) :: (nat_lit 105) :: (nat_lit 107) :: (nat_lit 108) :: (nat_lit 110) :: (nat_lit 111) :: (nat_lit 119) :: (nat_lit 123) :: (nat_lit 125) :: (nat_lit 126) :: (nat_lit 128) :: (nat_lit 129) :: (nat_lit 133) :: (nat_lit 134) :: (nat_lit 138) :: (nat_lit 139) :: (nat_lit 147) :: (nat_lit 148) :: (nat_lit 150) :: (nat_lit 151) :: (nat_lit 153) :: (nat_lit 154) :: (nat_lit 155) :: (nat_lit 157) :: (nat_lit 158) :: (nat_lit 160) :: (nat_lit 161) :: (nat_lit 162) :: (nat_lit 164) :: (nat_lit 165) :: (nat_lit 167) :: (nat_lit 168) :: (nat_lit 169) :: (nat_lit 171) :: (nat_lit 172) :: (nat_lit 174) :: (nat_lit 175) :: (nat_lit 176) :: (nat_lit 179) :: (nat_lit 180) :: (nat_lit 181) :: (nat_lit 183) :: (nat_lit 184) :: (nat_lit 186) :: (nat_lit 187) :: (nat_lit 188) :: (nat_lit 190) :: (nat_lit 191) :: (nat_lit 193) :: (nat_lit 194) :: (nat_lit 195) :: (nat_lit 197) :: (nat_lit 198) :: (nat_lit 200) :: (nat_lit 201) :: (nat_lit 202) :: (nat_lit 203) :: (nat_lit 205) :: (nat_lit 206) :: (nat_lit 208) :: (nat_lit 209) :: (nat_lit 210) :: (nat_lit 213) :: (nat_lit 214) :: (nat_lit 215) :: (nat_lit 218) :: (nat_lit 219) :: (nat_lit 220) :: (nat_lit 222) :: (nat_lit 223) :: (nat_lit 225) :: (nat_lit 226) :: (nat_lit 227) :: (nat_lit 229) :: (nat_lit 230) :: (nat_lit 232) :: (nat_lit 233) :: (nat_lit 234) :: (nat_lit 237) :: (nat_lit 238) :: (nat_lit 239) :: (nat_lit 241) :: (nat_lit 242) :: (nat_lit 244) :: (nat_lit 245) :: (nat_lit 246) :: (nat_lit 248) :: (nat_lit 249) :: (nat_lit 251) :: (nat_lit 252) :: (nat_lit 253) :: (nat_lit 255) :: (nat_lit 256) :: (nat_lit 258) :: (nat_lit 259) :: (nat_lit 260) :: (nat_lit 261) :: (nat_lit 262) :: (nat_lit 263) :: (nat_lit 264) :: (nat_lit 267) :: (nat_lit 269) :: (nat_lit 270) :: (nat_lit 272) :: (nat_lit 273) :: (nat_lit 274) :: (nat_lit 276) :: (nat_lit 277) :: (nat_lit 279) :: (nat_lit 280) :: (nat_lit 281) :: (nat_lit 283) :: (nat_lit 284) :: (nat_lit 286) :: (nat_lit 287) :: (nat_lit 288) :: (nat_lit 290) :: (nat_lit 291) :: (nat_lit 293) :: (nat_lit 294) :: (nat_lit 295) :: (nat_lit 298) :: (nat_lit 299) :: (nat_lit 300) :: (nat_lit 303) :: (nat_lit 304) :: (nat_lit 305) :: (nat_lit 308) :: (nat_lit 309) :: (nat_lit 310) :: (nat_lit 312) :: (nat_lit 313) :: (nat_lit 315) :: (nat_lit 316) :: (nat_lit 317) :: (nat_lit 320) :: (nat_lit 321) :: []
theorem kpf : ∀ P, kas = (kx P).map (·.1) := fun P => by kernel_rfl
noncomputable abbrev HK : Hook := kHook kx kas kpf
noncomputable def qv : PySem.Program := PySem.W.view pw keepL
noncomputable abbrev Xt : Shared → Bool := fun s => xlAt qv [] s && recOk (PySem.Challenge.rw_sn0066_02.row.toRowW.records) s
theorem c_l1 (w : World) : (fun os : OsState => (staticsOk (importedModules pw.main.body) (H0 w.params) (H1 w.params) && namesBound pw (H1 w.params) && gensDone ⟨H1 w.params, #[], ⟨0, 0, 0, 0⟩, 758, os⟩ && laidKept (H0 w.params) (H1 w.params))) = fun _ => true := by kernel_rfl
theorem c_l2 (w : World) : (fun os : OsState => openSeen qv looseL (importedModules pw.main.body) Xt true ⟨H1 w.params, #[], ⟨0, 0, 0, 0⟩, 758, os⟩) = fun _ => openGood qv looseL := by
  rw [PySem.W.Fast.te4187177175401517315]; kernel_rfl
theorem c_l3 (w : World) : (fun os : OsState => Hook.obs HK ⟨H1 w.params, #[], ⟨0, 0, 0, 0⟩, 758, os⟩) = fun _ => Hook.val HK w := by kernel_rfl
theorem left : LeftO pw qv looseL Xt (Hook.obs HK) (Hook.val HK) NN :=
  LeftO.of_pieces (H₀ := H0) (H₁ := H1) c_open c_size c_run (by kernel_rfl) fun w => funext fun os => looks_pair (congrFun (c_l1 w) os) (looks_pair (congrFun (c_l2 w) os) (congrFun (c_l3 w) os))
end Mine

end

section
open PySem PySem.W PyProof.Rows
namespace Mine
theorem fill0 : PySem.Challenge.rw_sn0066_02 = PySem.Challenge.rw_sn0066_02 → kx = kx → True := by
  k_fill
  intros; trivial

/-- what the caller wants of the answer (a structure: no bare "for all" may stand among the walk's facts) -/
structure CRet (h₀ : Heap) (L : Addr) (m : Str → Option Value) (news : List (Addr × Obj)) (s : Shared) (R : Value → Prop) (Q : Value → Shared → Prop) : Prop where
  out : ∀ r h' tk', Fr h₀ L h' m → News h₀ L h' news → R r → Q r { s with heap := h', toks := tk' }
/-- a def's answer, for all frames around it; nothing of what it makes is told -/
noncomputable def Calls (w : World) (nd : Nat) (f : Addr) (vs : List Value) (news : List (Addr × Obj)) (R : Value → Prop) : Prop :=
  ∀ (p : Program) (loose : List Str) (mean : ExcName → Option Value) (mg mb : Str → Option Value) (dp un : Nat) (gd : Option (List Code)) (cn : Str) (cs : Scope) (a : Addr) (ccd : Value) (cl : List (Str × Addr)) (outer : List Env) (A₀ : Around) (base h₀ : Heap) (L : Addr) (m : Str → Option Value) (s : Shared) (Q E : Value → Shared → Prop),
    Below A₀ base outer h₀ → Fr h₀ L s.heap m → (kx w.params).In h₀ → News h₀ L s.heap news → Top p loose mean mg mb h₀ → cs.kind = .function → dp + nd < recursionLimit → un + 10 * nd < cLine →
    CRet h₀ L m news s R Q →
    wpAny (model pw w) (ktrTop dp un gd cn cs L a ccd cl outer) (call (.ref f) vs) Q E s

theorem Calls.use {w : World} {nd : Nat} {f : Addr} {vs : List Value} {news : List (Addr × Obj)} {R : Value → Prop} (C : Calls w nd f vs news R)
    {p : Program} {loose : List Str} {mean : ExcName → Option Value} {mg mb : Str → Option Value} {dp un : Nat} {gd : Option (List Code)} {cn : Str} {cs : Scope} {a : Addr} {ccd : Value} {cl : List (Str × Addr)} {outer : List Env} {A₀ : Around} {base h₀ : Heap} {L : Addr} {m : Str → Option Value} {s : Shared} {Q E : Value → Shared → Prop}
    (B : Below A₀ base outer h₀) (F : Fr h₀ L s.heap m) (X : (kx w.params).In h₀) (N : News h₀ L s.heap news) (T : Top p loose mean mg mb h₀) (hk : cs.kind = .function) (hd : dp + nd < recursionLimit) (hu : un + 10 * nd < cLine)
    (ret : ∀ r h' tk', Fr h₀ L h' m → News h₀ L h' news → R r → Q r { s with heap := h', toks := tk' }) :
    wpAny (model pw w) (ktrTop dp un gd cn cs L a ccd cl outer) (call (.ref f) vs) Q E s := C _ _ _ _ _ _ _ _ _ _ _ _ _ _ _ _ _ _ _ _ _ _ B F X N T hk hd hu ⟨ret⟩

theorem getD_lt {l : List Int} {b : Int} (h0 : 0 ≤ b) (h : ∀ x ∈ l, 0 ≤ x ∧ x ≤ b) (n : Nat) : 0 ≤ l.getD n 0 ∧ l.getD n 0 ≤ b := by
  rw [List.getD_eq_getElem?_getD]
  cases e : l[n]? with
  | none => exact ⟨Int.le_refl 0, h0⟩
  | some x => exact h x (List.mem_of_getElem? e)
/-- the ledger without what the call made -/
theorem drop_cons {h₀ h : Heap} {L : Addr} {p : Addr × Obj} {news : List (Addr × Obj)} (N : News h₀ L h (p :: news)) : News h₀ L h news := fun q hq => N q (.tail _ hq)

noncomputable def besideL : List Int := [172, 174, 846, 848, 6149, 6151, 6154, 6158, 8202, 8206, 8287, 8289, 65023, 65040, 65278, 65280]
noncomputable def besideC (k : Int) : Nat := (besideL.getD (k.fmod 16).toNat 0).toNat
noncomputable def unseenL : List Int := [173, 847, 6150, 6155, 6156, 6157, 8203, 8204, 8205, 8288, 65279]
noncomputable def unseenC (k : Int) : Nat := if k.fmod 27 < 16 then (65024 + k.fmod 27).toNat else (unseenL.getD (k.fmod 27 - 16).toNat 0).toNat

theorem c_beside (w : World) (k : Int) (t : Tok) (news : List (Addr × Obj)) : Calls w 2 287 [.int k t] news (fun r => ∃ t, r = .str ⟨#[besideC k]⟩ t) := by
  unfold Calls
  intro p loose mean mg mb dp un gd cn cs a ccd cl outer A₀ base h₀ L m s Q E B F X N T hk hd hu hret
  refine wpAny_call ?_
  k_dflt cell_enter
  k_steps
  have hb := getD_lt (b := 65280) (by decide) (show ∀ x ∈ besideL, 0 ≤ x ∧ x ≤ 65280 by decide) (k.fmod 16).toNat
  refine chr_of_range hb.1 (Int.le_trans hb.2 (by decide)) ?_
  k_steps
  exact hret.out _ _ _ (by k_asm) (drop_cons (by k_asm)) ⟨_, rfl⟩

theorem c_unseen (w : World) (k : Int) (t : Tok) (news : List (Addr × Obj)) : Calls w 2 280 [.int k t] news (fun r => ∃ t, r = .str ⟨#[unseenC k]⟩ t) := by
  unfold Calls
  intro p loose mean mg mb dp un gd cn cs a ccd cl outer A₀ base h₀ L m s Q E B F X N T hk hd hu hret
  have hm : 0 ≤ k.fmod 27 ∧ k.fmod 27 < 27 := ⟨Int.fmod_nonneg_of_pos _ (by decide), Int.fmod_lt_of_pos _ (by decide)⟩
  refine wpAny_call ?_
  k_dflt cell_enter
  k_steps
  · (with_reducible rename k.fmod 27 < 16 => ha)
    exact hret.out _ _ _ (by k_asm) (by k_asm) ⟨_, by rw [unseenC, if_pos ha]⟩
  · (with_reducible rename ¬ k.fmod 27 < 16 => ha)
    have hb := getD_lt (b := 65280) (by decide) (show ∀ x ∈ unseenL, 0 ≤ x ∧ x ≤ 65280 by decide) (k.fmod 27 - 16).toNat
    refine chr_of_range hb.1 (Int.le_trans hb.2 (by decide)) ?_
    k_steps
    exact hret.out _ _ _ (by k_asm) (drop_cons (by k_asm)) ⟨_, by rw [unseenC, if_neg ha]; rfl⟩

noncomputable def b1L : List Int := [65024, 65025, 65026, 65027, 65028, 65029, 6150, 65030, 65031, 65032, 65033, 6155, 6156, 6157, 8203, 8204, 8205, 65034, 65035, 65036, 65037, 65038, 65039, 173, 847, 8288, 65279]
noncomputable def setEs : Obj → Array (Int × Value)
  | ⟨_, _, .set es _ _, _⟩ => es
  | _ => #[]
theorem setEs_eq (P : Params) : (setEs (o119v6 P)).toList.map (fun e => (e.1, match e.2 with | .int i _ => i | _ => 0)) = b1L.map fun i => (i, i) := by kernel_rfl
theorem setEs_ints (P : Params) : (setEs (o119v6 P)).toList.all (fun e => match e.2 with | .int i _ => e.1 == i && hashInt i == i | _ => false) = true := by kernel_rfl
theorem b1_setOf {w : World} {h : Heap} (X : (kx w.params).In h) : h.SetOf (intKind pw w) 119 (fun k => decide (k ∈ b1L)) 27 := by
  have hl : (kx w.params).lookup 119 = some (o119v6 w.params) := by kernel_rfl
  have hall := List.all_eq_true.mp (setEs_ints w.params)
  have hmap := setEs_eq w.params
  have hmem : ∀ k : Int, k ∈ b1L ↔ ∃ e ∈ (setEs (o119v6 w.params)).toList, Value.isInt k e.2 = true := by
    intro k
    have e1 : b1L = (setEs (o119v6 w.params)).toList.map (fun e => match e.2 with | .int i _ => i | _ => 0) := by
      have := congrArg (List.map Prod.snd) hmap
      simpa [List.map_map, Function.comp_def] using this.symm
    rw [e1, List.mem_map]
    constructor
    · rintro ⟨e, he, hk⟩
      have := hall e he
      refine ⟨e, he, ?_⟩
      cases hv : e.2 with
      | int i t => rw [hv] at hk; simp only at hk; subst hk; simp [Value.isInt]
      | _ => rw [hv] at this; simp at this
    · rintro ⟨e, he, hk⟩
      refine ⟨e, he, ?_⟩
      obtain ⟨t, ht⟩ := Value.isInt_shape hk
      rw [ht]
  refine ⟨_, setEs (o119v6 w.params), 29, _, X _ _ hl, ⟨rfl, rfl, rfl⟩, rfl, ?_, ?_, by rw [show (setEs (o119v6 w.params)).size = 27 from by kernel_rfl]; decide, by kernel_rfl, by kernel_rfl⟩
  · intro e he
    have := hall e he
    cases hv : e.2 with
    | int i t =>
      rw [hv] at this
      simp only [Bool.and_eq_true, beq_iff_eq] at this
      exact ⟨⟨i, by simp [intKind, Value.isInt], this.1.trans this.2.symm⟩, rfl⟩
    | _ => rw [hv] at this; simp at this
  · intro k
    rw [decide_eq_true_iff]
    exact hmem k

theorem c_table (w : World) (c : Nat) (t : Tok) (news : List (Addr × Obj)) : Calls w 2 129 [.str ⟨#[c]⟩ t] news (fun r => r = .bool (decide ((c : Int) ∈ b1L))) := by
  unfold Calls
  intro p loose mean mg mb dp un gd cn cs a ccd cl outer A₀ base h₀ L m s Q E B F X N T hk hd hu hret
  refine wpAny_call ?_
  k_dflt cell_enter
  k_steps
  refine wpAny_inSet_of (knd := intKind pw w) (k := (c : Int)) (by simp [intKind, Value.isInt]) rfl (b1_setOf (Frag.In.keeps (K := kx w.params) (by k_asm) (Fr.keep (by k_asm)))) ?_
  k_steps
  exact hret.out _ _ _ (by k_asm) (by k_asm) rfl

noncomputable def keepsC (i : Int) : Bool := !decide (i ∈ b1L)
noncomputable def cleanS (l : List Int) : Str := KStt.txt (l.filter keepsC)
theorem cleanS_snoc_keep (l : List Int) (n : Nat) (h : keepsC n = true) : cleanS (l ++ [(n : Int)]) = cleanS l ++ ⟨#[n]⟩ := by
  unfold cleanS
  rw [List.filter_append, List.filter_cons, if_pos h, List.filter_nil, KStt.txt_snoc]
theorem cleanS_snoc_drop (l : List Int) (n : Nat) (h : keepsC n = false) : cleanS (l ++ [(n : Int)]) = cleanS l := by
  unfold cleanS
  rw [List.filter_append, List.filter_cons, if_neg (by rw [h]; decide), List.filter_nil, List.append_nil]

local macro_rules | `(tactic| walk_at "call ref") => `(tactic| (k_here; (with_reducible show wpAny _ _ (call (Value.ref _) _) _ _ _); k_dflt (refine' Calls.use (c_table _ _ _ _) ?k1 ?k2 ?k3 ?k4 ?k5 ?kK ?kd ?ku ?kR; (case k1 => k_asm); (case k2 => k_asm); (case k3 => k_asm); (case k4 => k_asm); (case k5 => k_asm); (case kK => first | exact rfl | assumption); (case kd => ktr_room); (case ku => ktr_units)); intro r9 h9 tk9 F9 N9 hr9; (first | (obtain ⟨t9, hr9⟩ := hr9; subst hr9) | subst hr9); (try dsimp only); (try k_fold)))

theorem clean_start : Str.ofString "" = cleanS [] ∧ (Str.ofString "").length ≤ ([] : List Int).length := ⟨by decide +kernel, by decide +kernel⟩
theorem clean_keep {l : Str} {pre : List Int} {n : Nat} (h : l = cleanS pre) (hl : l.length ≤ pre.length) (a : (decide ((n : Int) ∈ b1L) == false) = true) : l ++ ⟨#[n]⟩ = cleanS (pre ++ [(n : Int)]) ∧ (l ++ ⟨#[n]⟩ : Str).length ≤ (pre ++ [(n : Int)]).length := by
  refine ⟨?_, ?_⟩
  · rw [h, cleanS_snoc_keep]
    unfold keepsC; simpa using a
  · simp only [Str.length_append, List.length_append, List.length_cons, List.length_nil]
    have : Str.length ⟨#[n]⟩ = 1 := rfl
    omega
theorem clean_drop {l : Str} {pre : List Int} {n : Nat} (h : l = cleanS pre) (hl : l.length ≤ pre.length) (a : (decide ((n : Int) ∈ b1L) == true) = true) : l ++ Str.ofString "" = cleanS (pre ++ [(n : Int)]) ∧ (l ++ Str.ofString "" : Str).length ≤ (pre ++ [(n : Int)]).length := by
  have e : l ++ Str.ofString "" = l := by
    rw [show Str.ofString "" = Str.empty from by decide +kernel]; exact Str.append_empty l
  rw [e]
  refine ⟨?_, ?_⟩
  · rw [h, cleanS_snoc_drop]
    unfold keepsC; simpa using a
  · simp only [List.length_append, List.length_cons, List.length_nil]; omega
theorem clean_no {n : Nat} {P : Prop} (a : (decide ((n : Int) ∈ b1L) == false) = false) (b : (decide ((n : Int) ∈ b1L) == true) = false) : P := by
  cases h : decide ((n : Int) ∈ b1L) <;> simp_all

theorem c_clean (w : World) (c : Str) (t : Tok) (news : List (Addr × Obj)) (hc : c.length < 1000) : Calls w 4 294 [.str c t] news (fun r => ∃ t, r = .str (cleanS (KStt.codes c)) t) := by
  unfold Calls
  intro p loose mean mg mb dp un gd cn cs a ccd cl outer A₀ base h₀ L m s Q E B F X N T hk hd hu hret
  k_with "pyIter str" => k_state (fun pre (left : Str) => left = cleanS pre ∧ left.length ≤ pre.length) "left"
  k_with "state" => first | exact clean_start | exact clean_keep (by assumption) (by assumption) (by assumption) | exact clean_drop (by assumption) (by assumption) (by assumption) | exact clean_no (by assumption) (by assumption)
  refine wpAny_call ?_
  k_dflt cell_enter
  k_steps
  · (with_reducible rename _ = cleanS (KStt.codes c) => he)
    exact hret.out _ _ _ (by k_asm) (by k_asm) ⟨_, by rw [he]⟩
end Mine

end

section
open PySem PySem.W PyProof.Rows
namespace Mine
/-- digits of six bits behind the first, the lowest first -/
noncomputable def tlD : Nat → Int → List Int
  | 0, _ => []
  | k + 1, n => if 0 < n then (n.fmod 64 + 64) :: tlD k (n.fdiv 64) else []
noncomputable def octD (n : Int) : List Int := n.fmod 64 :: tlD 20 (n.fdiv 64)

noncomputable def OctP (c n : Int) (ds : List Int) : Prop := ∃ k, n < 64 ^ k ∧ ds ++ tlD k n = octD c ∧ ds.length + k = 21 ∧ (∀ d ∈ ds, 0 ≤ d ∧ d < 128)
theorem KswEnd_stop {σ : Type} {h₀ : Heap} {L : Addr} {s : Shared} {Led : σ → List (Addr × Obj)} {ps : σ → List (Str × Value)} {Facts : σ → Prop} {stored : List Str} {m₀ : Str → Option Value} {P : σ → Prop} {μ : σ → Nat} {c : σ} {s' : Shared}
  (h : KswEnd h₀ L s Led ps Facts stored m₀ P μ c s') : KswEnd h₀ L s Led ps Facts stored m₀ P μ c s' := h
noncomputable def octCh (e : Int) : Str := ⟨#[(if e = 45 then e else e + 128).toNat]⟩
noncomputable def octS (c : Int) : Str := Txt.join (Str.ofString "") ((octD c).reverse.map octCh)
theorem KCtEl_stop {news : List (Addr × Obj)} {r : PySem.Str} {y : Value} {news' : List (Addr × Obj)} (h : KCtEl news r y news') : KCtEl news r y news' := h
theorem CompSrc_stop {prog : Program} {w : World} {A : Around} {h₀ : Heap} {L : Addr} {m : Str → Option Value} {env : Env} {elt : Expr} {x : Str} {scope : Scope} {cl : List (Str × Addr)} {Fin : Shared → List Value → List (Addr × Obj) → Prop} {xv : Value} {s₁ : Shared}
  (h : LCg.CompSrc prog w A h₀ L m env elt x scope cl Fin xv s₁) : LCg.CompSrc prog w A h₀ L m env elt x scope cl Fin xv s₁ := h
theorem oct_start {c : Int} (h0 : 0 ≤ c) (h1 : c < 1152921504606846976) : [c.fmod 64].length ≤ 21 ∧ 0 ≤ c.fdiv 64 ∧ OctP c (c.fdiv 64) [c.fmod 64] := by
  have e1 : c.fmod 64 = c % 64 := Int.fmod_eq_emod_of_nonneg _ (by decide)
  have e2 : c.fdiv 64 = c / 64 := Int.fdiv_eq_ediv_of_nonneg _ (by decide)
  refine ⟨by simp, by rw [e2]; omega, 20, ?_, rfl, rfl, ?_⟩
  · rw [e2]
    have : c / 64 ≤ c := by omega
    have : (1152921504606846976 : Int) ≤ 64 ^ 20 := by decide
    omega
  · intro d hd
    rw [List.mem_singleton.mp hd, e1]
    omega
theorem oct_turn {c n : Int} {ds : List Int} (hl : ds.length ≤ 21) (h0 : 0 ≤ n) (h : OctP c n ds) (a : 0 < n) : (ds ++ [n.fmod 64 + 64]).length ≤ 21 ∧ 0 ≤ n.fdiv 64 ∧ OctP c (n.fdiv 64) (ds ++ [n.fmod 64 + 64]) := by
  have e1 : n.fmod 64 = n % 64 := Int.fmod_eq_emod_of_nonneg _ (by decide)
  have e2 : n.fdiv 64 = n / 64 := Int.fdiv_eq_ediv_of_nonneg _ (by decide)
  obtain ⟨k, hk, he, hlen, hb⟩ := h
  cases k with
  | zero => exfalso; rw [Int.pow_zero] at hk; omega
  | succ k =>
    refine ⟨by simp; omega, by rw [e2]; omega, k, ?_, ?_, by simp; omega, ?_⟩
    · rw [e2]
      rw [Int.pow_succ] at hk
      omega
    · rw [← he, List.append_assoc]
      congr 1
      show _ = (if 0 < n then (n.fmod 64 + 64) :: tlD k (n.fdiv 64) else [])
      rw [if_pos a]; rfl
    · intro d hd
      rcases List.mem_append.mp hd with q | q
      · exact hb d q
      · rw [List.mem_singleton.mp q, e1]; omega
theorem oct_end {c n : Int} {ds : List Int} (h : OctP c n ds) (a : ¬ 0 < n) : ds = octD c ∧ ∀ d ∈ ds, 0 ≤ d ∧ d < 128 := by
  obtain ⟨k, hk, he, hlen, hb⟩ := h
  refine ⟨?_, hb⟩
  cases k with
  | zero => simpa [tlD] using he
  | succ k =>
    have e : tlD (k + 1) n = [] := by
      show (if 0 < n then (n.fmod 64 + 64) :: tlD k (n.fdiv 64) else []) = []
      rw [if_neg a]
    rw [e] at he; simpa using he

theorem c_octets (w : World) (c : Int) (t : Tok) (news : List (Addr × Obj)) (hc : 0 ≤ c) (hc2 : c < 1152921504606846976) : Calls w 3 309 [.int c t] news (fun r => ∃ t, r = .str (octS c) t) := by
  unfold Calls
  intro p loose mean mg mb dp un gd cn cs a ccd cl outer A₀ base h₀ L m s Q E B F X N T hk hd hu hret
  refine wpAny_call ?_
  k_dflt cell_enter
  (repeat (fail_if_success (with_reducible show wpAny _ _ (exec (Stmt.While _ _ _ _) _) _ _ _)); first | walk1 | (dsimp only; walk1))
  (with_reducible rename Fr _ _ _ _ => lF)
  (with_reducible rename News _ _ _ _ => lN)
  refine ksw_while (σ := Int × Tok × List Value × List Int × Nat) (fun st => (_, W.listOf st.2.2.1.toArray st.2.2.2.2) :: news) (fun st => [(Str.ofString "number", .int st.1 st.2.1)]) (fun st => IntsAre st.2.2.1 st.2.2.2.1) [] (fun st => st.2.2.2.1.length ≤ 21 ∧ 0 ≤ st.1 ∧ OctP c st.1 st.2.2.2.1) (fun st => st.1.toNat) (c.fdiv 64, _, [Value.int (c.fmod 64) _], [c.fmod 64], 0)
    lF lN (.cons _ _ .nil) (List.forall_mem_cons.mpr ⟨rfl, List.forall_mem_nil _⟩) (oct_start hc hc2) ?turn (by exact PySem.PassesOwn.leaving)
  case turn =>
    clear lF lN
    rintro ⟨n, tn, vs, ds, ep⟩ u h9 tk9 hI ⟨hl9, h09, hP⟩ F9 N9
    dsimp only at hI hl9 h09 hP F9 N9 ⊢
    k_fold
    repeat' (first | (k_unfold; (try dsimp only)) | (k_end; wrow_close) | ((fail_if_success (with_reducible refine KswEnd_stop ?_)); (fail_if_success (with_reducible show wpAny _ _ (eval (Expr.ListComp _ _ _ _) _) _ _ _)); walk1) | ((fail_if_success (with_reducible show wpAny _ _ (eval (Expr.ListComp _ _ _ _) _) _ _ _)); dsimp only; walk1) | (leave1; walk_say "STEP leave1"; (try dsimp only)) | fail "no step")
    · (with_reducible rename News _ _ _ _ => nE)
      (with_reducible rename Fr _ _ _ _ => nF)
      (with_reducible rename 0 < n => hn0)
      simp only [List.push_toArray] at nE
      exact ksw_end (n.fdiv 64, _, vs ++ [Value.int (n.fmod 64 + 64) _], ds ++ [n.fmod 64 + 64], ep + 1) nF nE (fun _ hp => hp) (IntsAre.append hI (.cons _ _ .nil)) (List.forall_mem_cons.mpr ⟨by with_unfolding_all rfl, List.forall_mem_nil _⟩) (by intro z h2 h3; simp only [List.forall_mem_cons, List.not_mem_nil, false_implies, implies_true, and_true, ne_eq] at h2; simp [h2, kstB]) (oct_turn hl9 h09 hP hn0)
        (by show (n.fdiv 64).toNat < n.toNat; rw [Int.fdiv_eq_ediv_of_nonneg _ (by decide)]; omega)
    · (with_reducible rename ¬ 0 < n => hnn)
      obtain ⟨hds, hdb⟩ := oct_end hP hnn
      k_dflt (refine LCg.ListComp_U (F₀ := by k_asm) (by with_unfolding_all rfl) (by decide) (by rfl) (by decide) (by rfl) ?_)
      (repeat (fail_if_success (with_reducible refine CompSrc_stop ?_)); first | walk1 | (dsimp only; walk1))
      (with_reducible rename IntsAre _ ds.reverse => hIr)
      have hsz := hIr.length
      rw [List.length_reverse] at hsz
      k_dflt (refine LCg.CompSrc.ledger (by rfl) (by k_asm) (by k_asm) (by k_mem) (by rw [PySem.sizeLine_eq, List.size_toArray]; omega) ?_)
      intro gg
      refine kct_list octCh hIr ?turn ?fin
      case turn =>
        intro k' t' I' oI' C' oC' D' m' ys' h' tk' E' hk' hC' hx' F' N' off' ne' hMark'
        have off2 := off'
        simp only [LCg.Off3] at off'
        have hkb := hdb _ (List.mem_reverse.mp hk')
        repeat' (first | (k_unfold; (try dsimp only)) | (k_end; wrow_close) | ((fail_if_success (with_reducible refine KCtEl_stop ?_)); walk1) | ((fail_if_success (with_reducible refine KCtEl_stop ?_)); dsimp only; walk1) | (leave1; walk_say "STEP leave1"; (try dsimp only)) | fail "no step")
        · (with_reducible rename k' = 45 => hka)
          (with_reducible rename News _ _ _ _ => nE)
          (with_reducible rename Fr _ _ _ _ => fE)
          exact LCg.CompEnd.intro fE nE _ (fun _ hp => hp) off2 (Or.inr ⟨_, List.Mem.head _, rfl, _, rfl⟩) ⟨rfl, _, by rw [octCh, if_pos hka]⟩
        · (with_reducible rename ¬ k' = 45 => hka)
          (with_reducible rename News _ _ _ _ => nE)
          (with_reducible rename Fr _ _ _ _ => fE)
          exact LCg.CompEnd.intro fE nE _ (fun _ hp => hp) off2 (Or.inr ⟨_, List.Mem.head _, rfl, _, rfl⟩) ⟨rfl, _, by rw [octCh, if_neg hka]⟩
      case fin =>
        intro ys hy hyl
        walk1
        k_steps
        exact hret.out _ _ _ (by k_asm) (drop_cons (drop_cons (drop_cons (by k_asm)))) ⟨_, by rw [hds]; rfl⟩
end Mine

end

section
open PySem PySem.W PyProof.Rows
namespace Mine
local macro_rules | `(tactic| walk_at "call ref") => `(tactic| (k_here; (with_reducible show wpAny _ _ (call (Value.ref _) _) _ _ _); k_dflt (first | refine Calls.use (c_unseen _ _ _ _) (by k_asm) (by k_asm) (by k_asm) (by k_asm) (by k_asm) (by first | exact rfl | assumption) (by ktr_room) (by ktr_units) ?_ | refine Calls.use (c_beside _ _ _ _) (by k_asm) (by k_asm) (by k_asm) (by k_asm) (by k_asm) (by first | exact rfl | assumption) (by ktr_room) (by ktr_units) ?_); intro r9 h9 tk9 F9 N9 hr9; (first | (obtain ⟨t9, hr9⟩ := hr9; subst hr9) | subst hr9); (try dsimp only); (try k_fold)))

theorem cut_fact (k i : Int) (hi : 0 ≤ i) : 0 ≤ k.fmod (i + 1) ∧ k.fmod (i + 1) ≤ i :=
  ⟨Int.fmod_nonneg_of_pos _ (by omega), by have := Int.fmod_lt_of_pos k (show (0 : Int) < i + 1 by omega); omega⟩
noncomputable def pileS (t : Str) (p k : Int) : Str := t ++ Txt.mul (Str.ofString " ") (k.fmod (p + 1)) ++ ⟨#[unseenC k]⟩ ++ Txt.mul (Str.ofString " ") (p - k.fmod (p + 1)) ++ Str.ofString "\t"
noncomputable def typeS (i j b k : Int) : Str := pileS (pileS (Str.ofString "") i k) j (k.fdiv 3 + 11) ++ Txt.mul (Str.ofString " ") b ++ ⟨#[besideC ((k.fdiv 3 + 11).fdiv 3 + 11)]⟩
theorem c_type (w : World) (l : Addr) (i j b k : Int) (t1 t2 t3 t4 : Tok) (n : Nat) (news : List (Addr × Obj)) (hi : 0 ≤ i ∧ i ≤ 4)  (hj : 0 ≤ j ∧ j ≤ 4) (hb : 0 ≤ b ∧ b ≤ 2) (hk0 : 0 ≤ k) : Calls w 4 316 [.ref l, .int b t3, .int k t4] ((l, W.listOf #[.int i t1, .int j t2] n) :: news) (fun r => ∃ t, r = .str (typeS i j b k) t) := by
  unfold Calls
  intro p loose mean mg mb dp un gd cn cs a ccd cl outer A₀ base h₀ L m s Q E B F X N T hk hd hu hret
  have hc1 := cut_fact k i hi.1
  have hc2 := cut_fact (k.fdiv 3 + 11) j hj.1
  refine wpAny_call ?_
  k_dflt cell_enter
  k_steps
  exact hret.out _ _ _ (by k_asm) (by k_asm) ⟨_, rfl⟩
end Mine

end

section
open PySem PySem.W PyProof.Rows
namespace Mine
/-- item by item -/
inductive All2 {α β : Type} (R : α → β → Prop) : List α → List β → Prop
  | nil : All2 R [] []
  | cons {a : α} {b : β} {as : List α} {bs : List β} (h : R a b) (t : All2 R as bs) : All2 R (a :: as) (b :: bs)
theorem All2.imp {α β : Type} {R R' : α → β → Prop} (f : ∀ a b, R a b → R' a b) : ∀ {as : List α} {bs : List β}, All2 R as bs → All2 R' as bs
  | _, _, .nil => .nil
  | _, _, .cons h t => .cons (f _ _ h) (t.imp f)
theorem All2.snoc {α β : Type} {R : α → β → Prop} {a : α} {b : β} (h : R a b) : ∀ {as : List α} {bs : List β}, All2 R as bs → All2 R (as ++ [a]) (bs ++ [b])
  | _, _, .nil => .cons h .nil
  | _, _, .cons h' t => .cons h' (t.snoc h)
theorem All2.length {α β : Type} {R : α → β → Prop} : ∀ {as : List α} {bs : List β}, All2 R as bs → as.length = bs.length
  | _, _, .nil => rfl
  | _, _, .cons _ t => congrArg (· + 1) t.length
section
variable {prog : Program} {w : World} {A : Around} {h₀ : Heap} {L : Addr} {m : Str → Option Value} {env : Env} {elt : PySem.Expr} {x : Str} {scope : Scope} {cl : List (Str × Addr)} {s : Shared} {S : List (Addr × Obj) → Prop} {P : Nat → Value → Prop} {Fin : List Value → List (Addr × Obj) → Prop}
/-- a comprehension over ints whose element may make objects: they go to the ledger's tail -/
theorem kmp_rest {n : Nat} {ks : List Int} (pre tl₀ : List (Addr × Obj)) (R : List (Addr × Obj) → Int → Value → Prop) (hR : ∀ k y tl tl', R tl k y → (∀ p ∈ tl, p ∈ tl') → R tl' k y)
    (hks : ks.length = n) (hP : ∀ i v, i < n → P i v → ∃ k t, ks[i]? = some k ∧ v = .int k t) (hS : S (pre ++ tl₀))
    (turn : ∀ k t I oI C oC D m₂ ys tl h tk (E' : Value → Shared → Prop), k ∈ ks → LCg.NsObj oC m₂ → m₂ x = some (.int k t) → Fr h₀ L h m → News h₀ L h ((I, oI) :: (C, oC) :: (D, LCg.lst ys) :: (pre ++ tl)) → LCg.Off3 I C D (pre ++ tl) → ((@Ne Nat I C) ∧ (@Ne Nat I D) ∧ (@Ne Nat C D)) → S (pre ++ tl) →
      wpAny (model prog w) A (eval elt (compEnvC scope cl C env)) (LCg.CompEnd h₀ L m { s with heap := h, toks := tk } I oI C oC D (LCg.lst ys) S (fun y news' => ∃ tl', news' = pre ++ tl' ∧ (∀ p ∈ tl, p ∈ tl') ∧ R tl' k y)) E' { s with heap := h, toks := tk })
    (fin : ∀ ys tl, (∀ p ∈ tl₀, p ∈ tl) → All2 (R tl) ks ys → Fin ys (pre ++ tl)) : LCg.CompRest prog w A h₀ L m env elt x scope cl s S P Fin n 0 [] (pre ++ tl₀) := by
  have key : ∀ (j i : Nat) (ys : List Value) (tl : List (Addr × Obj)), i + j = n → (∀ p ∈ tl₀, p ∈ tl) → All2 (R tl) (ks.take i) ys → S (pre ++ tl) → LCg.CompRest prog w A h₀ L m env elt x scope cl s S P Fin j i ys (pre ++ tl) := by
    intro j
    induction j with
    | zero =>
      intro i ys tl hi ht hy _
      have e : i = ks.length := by omega
      subst e
      rw [List.take_length] at hy
      exact LCg.CompRest.zero (fin ys tl ht hy)
    | succ j ih =>
      intro i ys tl hi ht hy hS'
      refine LCg.CompRest.succ ?_
      intro v I oI C oC D m₂ h tk E' hv hC hx F N off ne
      obtain ⟨k, t, hk, hv'⟩ := hP i v (by omega) hv
      rw [hv'] at hx
      refine wpAny_mono (turn k t I oI C oC D m₂ ys tl h tk E' (List.mem_of_getElem? hk) hC hx F N off ne hS') (fun y s₂ hq => ?_) fun _ _ e => e
      obtain ⟨h', tk', nw, e, F', N', off', hS2, tl', hn, hm, hr⟩ := hq
      subst hn
      refine ⟨h', tk', pre ++ tl', e, F', N', off', hS2, ?_⟩
      refine ih (i + 1) _ tl' (by omega) (fun p hp => hm p (ht p hp)) ?_ hS2
      rw [List.take_add_one, hk]
      exact All2.snoc hr (hy.imp fun a b h => hR _ _ _ _ h hm)
  exact key n 0 [] tl₀ (by omega) (fun _ h => h) (by rw [List.take_zero]; exact .nil) hS
end
section
variable {prog : Program} {w : World} {A : Around} {E : Value → Shared → Prop} {s : Shared} {h₀ : Heap} {L l it : Addr} {m : Str → Option Value} {news : List (Addr × Obj)} {g : Obj → List (Addr × Obj)} {io lo : Obj} {vs : List Value} {i : Nat} {x : Value}
/-- an iterator over the list at l, at place i -/
noncomputable def liObj (l : Addr) (i : Nat) : Obj := { cls := .type "list_iterator", data := .fields #[.ref l, .int i 0] }
theorem li_iter {Q : Value → Shared → Prop} (F : Fr h₀ L s.heap m) (N : News h₀ L s.heap news) (hl : s.heap.IsList l vs.toArray)
    (h : ∀ (I : Addr) h', Fr h₀ L h' m → News h₀ L h' ((I, liObj l 0) :: news) → (∀ p ∈ news, p.1 < I) → Q (.ref I) { s with heap := h' }) :
    wpAny (model prog w) A (call (.builtin "iter") [.ref l]) Q E s := by
  refine Calls.call_function_entry (by decide +kernel) (by decide +kernel) kdk_entry_iter (kdk_args_iter _) ?_
  unfold Builtin.«iter»
  refine wpAny_bind (m := someArgs "iter" 1 2 _) (wpAny_of_eq (a := [Value.ref l]) (by first | rfl | kernel_rfl!) ?_)
  show wpAny _ _ (pyIter (.ref l) >>= _) _ _ _
  refine wpAny_bind (wpAny_pyIter_list hl ?_)
  exact wpAny_pure ⟨_, rfl, h _ _ (F.push _) (News.push F N _ rfl) (fun q hq => Heap.lt_size (N q hq).1)⟩
theorem li_special {items : Array Value} {Q : Option Value → Shared → Prop} (hit : s.heap.IsListIter it l i) (hl : s.heap.IsList l items) (hx : items[i]? = some x)
    (hQ : ∀ h', Heap.SameBut it s.heap h' → h'.get? it = (s.heap.get? it).map (Obj.mapFields (·.setIfInBounds 1 (rawInt ((i : Int) + 1)))) → Q (some x) { s with heap := h' }) :
    wpAny (model prog w) A (callSpecial? (.ref it) (Str.ofString "__next__")) Q E s := by
  obtain ⟨o, ho, hc, hd⟩ := id hit
  obtain ⟨ol, hol, _, nl, hdl⟩ := hl
  refine wpAny_callSpecial?_slot (name := Str.ofString "__next__") hit.typeIs slot_listiter_next
    (wpAny_call_entry slot_listiter_next hit.typeIs entry_listiter_next ?_ (args_listiter_next _))
  show wpAny _ _ (field (.ref it) 0 >>= _) _ _ s
  refine wpAny_bind (wpAny_field ho hd (x := .ref l) rfl ?_)
  show wpAny _ _ (if (Value.ref l == Value.none) = true then _ else _) _ _ s
  rw [if_neg (show ¬ ((Value.ref l == Value.none) = true) from Bool.false_ne_true)]
  show wpAny _ _ (field (.ref it) 1 >>= _) _ _ s
  refine wpAny_bind (wpAny_field ho hd (x := .int i 0) rfl ?_)
  show wpAny _ _ (seqItems? (.ref l) >>= _) _ _ s
  refine wpAny_bind (wpAny_seqItems hol hdl ?_)
  simp only [Int.toNat_natCast, hx]
  refine wpAny_bind (wpAny_setField ho hd (by simp) (wpAny_pure ⟨x, rfl, hQ _ (Heap.SameBut.update ..) ?_⟩))
  rw [ho]
  exact Heap.get?_update_self _ ho (Obj.isFreed_of_fields (Obj.data_mapFields hd _))
theorem liObj_next (l : Addr) (i : Nat) : Obj.mapFields (·.setIfInBounds 1 (rawInt ((i : Int) + 1))) (liObj l i) = liObj l (i + 1) := by
  simp [liObj, Obj.mapFields, rawInt]
theorem li_next {Q : Value → Shared → Prop} (F : Fr h₀ L s.heap m) (N : News h₀ L s.heap news) (U : UpdF it (liObj l i) news g) (hl : s.heap.IsList l vs.toArray) (hx : vs[i]? = some x)
    (h : ∀ h', Fr h₀ L h' m → News h₀ L h' (g (liObj l (i + 1))) → Q x { s with heap := h' }) :
    wpAny (model prog w) A (call (.builtin "next") [.ref it]) Q E s := by
  obtain ⟨pre, post, hn, hg, a, b⟩ := U.split
  have hmem : (it, liObj l i) ∈ news := by rw [hn]; exact List.mem_append_right _ (.head _)
  have hm := N (it, liObj l i) hmem
  have hit : s.heap.IsListIter it l i := ⟨_, hm.1, rfl, rfl⟩
  refine Calls.call_function_entry (by decide +kernel) (by decide +kernel) kdk_entry_next (kdk_args_next _) ?_
  unfold Builtin.«next»
  refine wpAny_bind (m := someArgs "next" 1 2 _) (wpAny_of_eq (a := [Value.ref it]) (by first | rfl | kernel_rfl!) ?_)
  dsimp only
  refine wpAny_bind (wpAny_specialOf (name := Str.ofString "__next__") hit.typeIs slot_listiter_next.lookup ?_)
  refine wpAny_ite_split (fun hab => absurd hab (by decide)) (fun _ => ?_)
  refine wpAny_bind (li_special hit hl (by simpa using hx) fun h' hs hi' => ?_)
  have ho' : h'.get? it = some (liObj l (i + 1)) := by rw [hi', hm.1, Option.map_some, liObj_next]
  exact wpAny_pure ⟨_, rfl, h h' (F.change hs hm.2.1 hm.2.2) (hg _ ▸ (show News h₀ L s.heap (pre ++ (it, liObj l i) :: post) from hn ▸ N).setIn a b hs ho')⟩
/-- an iterator that is through -/
noncomputable def liEnd (i : Nat) : Obj := { cls := .type "list_iterator", data := .fields #[.none, .int i 0] }
theorem liObj_end (l : Addr) (i : Nat) : Obj.mapFields (·.setIfInBounds 0 .none) (liObj l i) = liEnd i := by
  simp [liObj, liEnd, Obj.mapFields]
theorem li_stop {Q : Value → Shared → Prop} (hh : A.handled = none) (F : Fr h₀ L s.heap m) (N : News h₀ L s.heap news) (U : UpdF it (liObj l i) news g) (hl : s.heap.IsList l vs.toArray) (hx : vs[i]? = none)
    (h : ∀ h₁ h' e, Fr h₀ L h₁ m → News h₀ L h₁ (g (liEnd i)) → Heap.MadeExc h₁ h' e "StopIteration" [] → E (.ref e) { s with heap := h' }) :
    wpAny (model prog w) A (call (.builtin "next") [.ref it]) Q E s := by
  obtain ⟨pre, post, hn, hg, a, b⟩ := U.split
  have hmem : (it, liObj l i) ∈ news := by rw [hn]; exact List.mem_append_right _ (.head _)
  have hm := N (it, liObj l i) hmem
  have hit : s.heap.IsListIter it l i := ⟨_, hm.1, rfl, rfl⟩
  refine Calls.call_function_entry (by decide +kernel) (by decide +kernel) kdk_entry_next (kdk_args_next _) ?_
  unfold Builtin.«next»
  refine wpAny_bind (m := someArgs "next" 1 2 _) (wpAny_of_eq (a := [Value.ref it]) (by first | rfl | kernel_rfl!) ?_)
  dsimp only
  refine wpAny_bind (wpAny_specialOf (name := Str.ofString "__next__") hit.typeIs slot_listiter_next.lookup ?_)
  refine wpAny_ite_split (fun hab => absurd hab (by decide)) (fun _ => ?_)
  refine wpAny_bind ?_
  obtain ⟨o, ho, hc, hd⟩ := id hit
  obtain ⟨ol, hol, _, nl, hdl⟩ := hl
  refine wpAny_callSpecial?_slot (name := Str.ofString "__next__") hit.typeIs slot_listiter_next
    (wpAny_call_entry slot_listiter_next hit.typeIs entry_listiter_next ?_ (args_listiter_next _))
  show wpAny _ _ (field (.ref it) 0 >>= _) _ _ s
  refine wpAny_bind (wpAny_field ho hd (x := .ref l) rfl ?_)
  show wpAny _ _ (if (Value.ref l == Value.none) = true then _ else _) _ _ s
  rw [if_neg (show ¬ ((Value.ref l == Value.none) = true) from Bool.false_ne_true)]
  show wpAny _ _ (field (.ref it) 1 >>= _) _ _ s
  refine wpAny_bind (wpAny_field ho hd (x := .int i 0) rfl ?_)
  show wpAny _ _ (seqItems? (.ref l) >>= _) _ _ s
  refine wpAny_bind (wpAny_seqItems hol hdl ?_)
  have hx' : vs.toArray[i]? = none := by simpa using hx
  simp only [Int.toNat_natCast, hx']
  refine wpAny_bind (wpAny_rule (wpAny_bind (wpAny_setField ho hd (by simp) ?_)))
  have hs : Heap.SameBut it s.heap (s.heap.update it (Obj.mapFields (·.setIfInBounds 0 .none))) := Heap.SameBut.update ..
  have ho' : (s.heap.update it (Obj.mapFields (·.setIfInBounds 0 .none))).get? it = some (liEnd i) := by
    rw [← liObj_end l i]
    have e : o = liObj l i := Option.some.inj (ho.symm.trans hm.1)
    rw [← e]
    exact Heap.get?_update_self _ ho (Obj.isFreed_of_fields (Obj.data_mapFields hd _))
  show wpAny _ _ (newExc (.type "StopIteration") [] >>= _) _ _ _
  refine wpAny_bind ?_
  simp only [newExc, newTuple]
  refine wpAny_bind (wpAny_newObj_type ?_ (by size_fits))
  refine wpAny_bind (m := firstArgMember _ _) (wpAny_of_eq (a := Value.none) (by first | rfl | (simp only [firstArgMember]; rfl)) ?_)
  refine wpAny_newObj_type ?_ (by size_fits)
  simp only [raiseNew]
  refine wpAny_bind (wpAny_handled ?_)
  first | rw [show A.in1.handled = none from hh] | rw [hh]
  refine wpAny_bind (wpAny_pure (wpAny_throw ?_))
  refine h (s.heap.update it (Obj.mapFields (·.setIfInBounds 0 .none))) _ _ (F.change hs hm.2.1 hm.2.2) (hg _ ▸ (show News h₀ L s.heap (pre ++ (it, liObj l i) :: post) from hn ▸ N).setIn a b hs ho') ⟨fun b o hb => Heap.get?_push_of_some _ (Heap.get?_push_of_some _ hb), Heap.get?_none_of_le (by simp), (s.heap.update it (Obj.mapFields (·.setIfInBounds 0 .none))).objs.size, ?_, Heap.get?_none_of_le (Nat.le_refl _), ?_⟩
  · exact Heap.get?_push_size _ rfl
  · exact Heap.get?_push_of_some _ (Heap.get?_push_size _ rfl)
end
end Mine

end

section

open PySem PySem.W PyProof.Rows
namespace Mine
/-- what the caller wants of an answer that leaves another ledger -/
structure NRet (h₀ : Heap) (L : Addr) (m : Str → Option Value) (s : Shared) (R : Value → List (Addr × Obj) → Prop) (Q : Value → Shared → Prop) : Prop where
  out : ∀ r h' tk' news', Fr h₀ L h' m → News h₀ L h' news' → R r news' → Q r { s with heap := h', toks := tk' }
/-- a def's answer with the ledger that it leaves -/
noncomputable def CallsN (w : World) (nd : Nat) (f : Addr) (vs : List Value) (news : List (Addr × Obj)) (R : Value → List (Addr × Obj) → Prop) : Prop :=
  ∀ (p : Program) (loose : List Str) (mean : ExcName → Option Value) (mg mb : Str → Option Value) (dp un : Nat) (gd : Option (List Code)) (cn : Str) (cs : Scope) (a : Addr) (ccd : Value) (cl : List (Str × Addr)) (outer : List Env) (A₀ : Around) (base h₀ : Heap) (L : Addr) (m : Str → Option Value) (s : Shared) (Q E : Value → Shared → Prop),
    Below A₀ base outer h₀ → Fr h₀ L s.heap m → (kx w.params).In h₀ → News h₀ L s.heap news → Top p loose mean mg mb h₀ → cs.kind = .function → dp + nd < recursionLimit → un + 10 * nd < cLine →
    NRet h₀ L m s R Q →
    wpAny (model pw w) (ktrTop dp un gd cn cs L a ccd cl outer) (call (.ref f) vs) Q E s
theorem CallsN.use {w : World} {nd : Nat} {f : Addr} {vs : List Value} {news : List (Addr × Obj)} {R : Value → List (Addr × Obj) → Prop} (C : CallsN w nd f vs news R)
    {p : Program} {loose : List Str} {mean : ExcName → Option Value} {mg mb : Str → Option Value} {dp un : Nat} {gd : Option (List Code)} {cn : Str} {cs : Scope} {a : Addr} {ccd : Value} {cl : List (Str × Addr)} {outer : List Env} {A₀ : Around} {base h₀ : Heap} {L : Addr} {m : Str → Option Value} {s : Shared} {Q E : Value → Shared → Prop}
    (B : Below A₀ base outer h₀) (F : Fr h₀ L s.heap m) (X : (kx w.params).In h₀) (N : News h₀ L s.heap news) (T : Top p loose mean mg mb h₀) (hk : cs.kind = .function) (hd : dp + nd < recursionLimit) (hu : un + 10 * nd < cLine)
    (ret : ∀ r h' tk' news', Fr h₀ L h' m → News h₀ L h' news' → R r news' → Q r { s with heap := h', toks := tk' }) :
    wpAny (model pw w) (ktrTop dp un gd cn cs L a ccd cl outer) (call (.ref f) vs) Q E s := C _ _ _ _ _ _ _ _ _ _ _ _ _ _ _ _ _ _ _ _ _ _ B F X N T hk hd hu ⟨ret⟩

/-- the turns of the reader: from place i, the last octet b, the value so far -/
noncomputable def vTail : Nat → List Int → Nat → Int → Int → Option (Int × Nat)
  | 0, _, _, _, _ => none
  | f + 1, ns, i, b, val => if Builtin.bitAnd b 64 = 0 then some (val, i) else match ns[i]? with
    | none => none
    | some b' => vTail f ns (i + 1) b' (Builtin.bitOr (val * 2 ^ 6) (Builtin.bitAnd b' 63))
theorem vTail_stop {f : Nat} {ns : List Int} {i : Nat} {b val v : Int} {i' : Nat} (h : vTail f ns i b val = some (v, i')) (a : Builtin.bitAnd b 64 = 0) : val = v ∧ i = i' := by
  cases f with
  | zero => simp [vTail] at h
  | succ f => rw [vTail, if_pos a] at h; simpa using h
theorem vTail_go {f : Nat} {ns : List Int} {i : Nat} {b val v : Int} {i' : Nat} (h : vTail f ns i b val = some (v, i')) (a : ¬ Builtin.bitAnd b 64 = 0) : ∃ f' b', f = f' + 1 ∧ ns[i]? = some b' ∧ vTail f' ns (i + 1) b' (Builtin.bitOr (val * 2 ^ 6) (Builtin.bitAnd b' 63)) = some (v, i') := by
  cases f with
  | zero => simp [vTail] at h
  | succ f =>
    rw [vTail, if_neg a] at h
    cases e : ns[i]? with
    | none => rw [e] at h; simp at h
    | some b' => rw [e] at h; exact ⟨f, b', rfl, rfl, h⟩
theorem or_le {val b : Int} {k : Nat} (h0 : 0 ≤ val) (h1 : val < 64 ^ k) : 0 ≤ Builtin.bitOr (val * 2 ^ 6) (Builtin.bitAnd b 63) ∧ Builtin.bitOr (val * 2 ^ 6) (Builtin.bitAnd b 63) < 64 ^ (k + 1) := by
  have hb := bitAnd_range b (y := 63) (by decide)
  have hb2 := bitAnd_range (val * 2 ^ 6) (y := Builtin.bitAnd b 63) hb.1
  have e : (2 : Int) ^ 6 = 64 := by decide
  have e2 : (64 : Int) ^ (k + 1) = 64 ^ k * 64 := Int.pow_succ ..
  rw [bitOr_and, e2]
  rw [e] at hb2 ⊢
  omega
theorem val_fits {val : Int} {k : Nat} (h0 : 0 ≤ val) (h : val < 64 ^ (11 - (k + 1))) : val.natAbs < 2 ^ 64 := by
  have h2 : (64 : Int) ^ (11 - (k + 1)) ≤ 64 ^ 10 := by
    have : (64 : Nat) ^ (11 - (k + 1)) ≤ 64 ^ 10 := Nat.pow_le_pow_right (by decide) (by omega)
    exact_mod_cast this
  have h3 : (64 : Int) ^ 10 = 1152921504606846976 := by decide
  omega
theorem c_parse (w : World) (it l : Addr) (vs : List Value) (ns : List Int) (hI : IntsAre vs ns) (i : Nat) (n : Nat) (b : Int) (hx : ns[i]? = some b) (v : Int) (i' : Nat) (hv0 : vTail 10 ns (i + 1) b (Builtin.bitAnd b 63) = some (v, i')) (x : Addr × Obj) (hx1 : x.1 ≠ it) (hne : l ≠ it) (news : List (Addr × Obj)) (hn : ∀ p ∈ news, p.1 ≠ it) :
    CallsN w 3 111 [.ref it] (x :: (it, liObj l i) :: (l, W.listOf vs.toArray n) :: news) (fun r news' => (∃ t, r = .int v t) ∧ news' = x :: (it, liObj l i') :: (l, W.listOf vs.toArray n) :: news) := by
  unfold CallsN
  intro p loose mean mg mb dp un gd cn cs a ccd cl outer A₀ base h₀ L m s Q E B F X N T hk hd hu hret
  refine wpAny_call ?_
  k_dflt cell_enter
  (repeat (fail_if_success (with_reducible show wpAny _ _ (call (Value.builtin "next") _) _ _ _)); first | walk1 | (dsimp only; walk1))
  (with_reducible rename Fr _ _ _ _ => lF)
  (with_reducible rename News _ _ _ _ => lN)
  obtain ⟨tv, hv⟩ := hI.get _ _ hx
  refine li_next lF lN (.tail hx1 (.head (List.forall_mem_cons.mpr ⟨hne, hn⟩))) ⟨_, (lN _ (.tail _ (.tail _ (.head _)))).1, rfl, _, rfl⟩ hv ?_
  intro h9 F9 N9
  clear lF lN
  (try dsimp only)
  (try k_fold)
  (repeat (fail_if_success (with_reducible show wpAny _ _ (exec (Stmt.While _ _ _ _) _) _ _ _)); first | (k_unfold; (try dsimp only)) | walk1 | (dsimp only; walk1))
  (with_reducible rename Fr _ _ _ _ => lF)
  (with_reducible rename News _ _ _ _ => lN)
  refine ksw_while (σ := Int × Tok × Int × Tok × Nat × Nat) (fun st => x :: (it, liObj l st.2.2.2.2.1) :: (l, W.listOf vs.toArray n) :: news) (fun st => [(Str.ofString "b", .int st.1 st.2.1), (Str.ofString "val", .int st.2.2.1 st.2.2.2.1)]) (fun _ => True) [] (fun st => vTail st.2.2.2.2.2 ns st.2.2.2.2.1 st.1 st.2.2.1 = some (v, i') ∧ 0 ≤ st.2.2.1 ∧ st.2.2.1 < 64 ^ (11 - st.2.2.2.2.2) ∧ st.2.2.2.2.2 ≤ 10) (fun st => st.2.2.2.2.2) (b, _, Builtin.bitAnd b 63, _, i + 1, 10)
    lF lN trivial (List.forall_mem_cons.mpr ⟨rfl, List.forall_mem_cons.mpr ⟨rfl, List.forall_mem_nil _⟩⟩) ⟨hv0, (bitAnd_range b (by decide)).1, Int.lt_of_le_of_lt (bitAnd_range b (by decide)).2 (show (63 : Int) < 64 ^ (11 - 10) by decide), Nat.le_refl _⟩ ?turn (by exact PySem.PassesOwn.leaving)
  case turn =>
    clear lF lN
    rintro ⟨b', tb', val, tv', j, f'⟩ u h9 tk9 - ⟨hvt, hv1, hv2, hf10⟩ F9 N9
    dsimp only at hvt hv1 hv2 hf10 F9 N9 ⊢
    k_fold
    repeat' (first | (k_unfold; (try dsimp only)) | (k_end; wrow_close) | ((fail_if_success (with_reducible refine KswEnd_stop ?_)); (fail_if_success (with_reducible show wpAny _ _ (inplaceOp Operator.LShift _ _) _ _ _)); walk1) | ((fail_if_success (with_reducible show wpAny _ _ (inplaceOp Operator.LShift _ _) _ _ _)); dsimp only; walk1) | (leave1; walk_say "STEP leave1"; (try dsimp only)) | fail "no step")
    · (with_reducible rename _ ≠ (0 : Int) => ha)
      obtain ⟨f'', b'', rfl, hb'', hvt'⟩ := vTail_go hvt ha
      obtain ⟨tb'', hv''⟩ := hI.get _ _ hb''
      have hbn := or_le (b := b'') hv1 hv2
      rw [show 11 - (f'' + 1) + 1 = 11 - f'' from by omega] at hbn
      dsimp only
      refine ilshift_int_small (by decide) (by decide) (val_fits hv1 hv2) ?_
      (repeat (fail_if_success (with_reducible show wpAny _ _ (call (Value.builtin "next") _) _ _ _)); first | walk1 | (dsimp only; walk1))
      (with_reducible rename Fr _ _ _ _ => lF)
      (with_reducible rename News _ _ _ _ => lN)
      refine li_next lF lN (.tail hx1 (.head (List.forall_mem_cons.mpr ⟨hne, hn⟩))) ⟨_, (lN _ (.tail _ (.tail _ (.head _)))).1, rfl, _, rfl⟩ hv'' ?_
      intro h9 F9 N9
      clear lF lN
      (try dsimp only)
      (try k_fold)
      repeat' (first | (k_unfold; (try dsimp only)) | (k_end; wrow_close) | ((fail_if_success (with_reducible refine KswEnd_stop ?_)); walk1) | (dsimp only; walk1) | (leave1; walk_say "STEP leave1"; (try dsimp only)) | fail "no step")
      (with_reducible rename News _ _ _ _ => nE)
      (with_reducible rename Fr _ _ _ _ => nF)
      exact ksw_end (b'', _, _, _, j + 1, f'') nF nE (fun _ hp => hp) trivial (List.forall_mem_cons.mpr ⟨by with_unfolding_all rfl, List.forall_mem_cons.mpr ⟨by with_unfolding_all rfl, List.forall_mem_nil _⟩⟩) (by intro z h2 h3; simp only [List.forall_mem_cons, List.not_mem_nil, false_implies, implies_true, and_true, ne_eq] at h2; simp [h2, kstB]) ⟨hvt', hbn.1, hbn.2, Nat.le_of_succ_le hf10⟩ (by show f'' < f'' + 1; omega)
    · (with_reducible rename _ = (0 : Int) => ha)
      obtain ⟨e1, e2⟩ := vTail_stop hvt ha
      subst e1; subst e2
      exact hret.out _ _ _ _ (by k_asm) (by k_asm) ⟨⟨_, rfl⟩, rfl⟩
end Mine

end

section
open PySem PySem.W PyProof.Rows
namespace Mine
section
variable {prog : Program} {w : World} {A₀ A : Around} {s : Shared} {base h₀ : Heap} {L : Addr} {m : Str → Option Value} {env : Env} {news : List (Addr × Obj)} {K : Frag} {p : Program} {loose : List Str} {mean : ExcName → Option Value} {mg mb : Str → Option Value}
    {R : Result → Shared → Prop} {name qual : Str} {params : Arguments} {body : List Stmt} {scope : Scope} {dV kV doc pm cdv ct oc : Value} {an od : Option Addr} {osl : Array (Option Value)} {f : Addr} {args : Args} {binds : List (Str × Value)}
/-- the ledger's objects are none of the ground's -/
theorem ledger_apart (N : News h₀ L s.heap news) {b : Addr} {o : Obj} (e : h₀.get? b = some o) : b ∉ news.map (·.1) := by
  intro hm
  obtain ⟨q, hq, hb⟩ := List.mem_map.mp hm
  have h1 := (N q hq).2.2
  rw [hb, e] at h1
  exact nomatch h1
/-- a def that catches, entered from the outermost frame, whatever cells that frame has: the ground may turn below it -/
theorem enter_tryE (B : Below A₀ base [] h₀) (F : Fr h₀ L s.heap m) (X₀ : K.In h₀) (N : News h₀ L s.heap news) (T : Top p loose mean mg mb h₀) (hA : A.frames = some [env]) (hf : env.frame = some L) (hke : env.scope.kind = .function)
    (ho : K.lookup f = some ⟨oc, od, .func (fnOf name qual params body scope dV kV doc pm an cdv ct), osl⟩) (hcd : codeIn K cdv qual = true) (hroom : A.depth < recursionLimit)
    (hbind : BindsTo s (fnOf name qual params body scope dV kV doc pm an cdv ct) args binds) (hloc : ∀ y ∈ binds, scope.names.lookup y.1 = some .local)
    (h : ∀ g L' h₁, Fr h₀ L g m → Fr g L' h₁ (fun y => binds.reverse.lookup y) → News g L' h₁ news → Below A base [env] g → K.In g → Top p loose mean mg mb g → KtsDicts ([env].filterMap (·.frame)) g →
      wpAny (model prog w) (A.deeper (envOf qual scope L' f cdv)) (execs body (envOf qual scope L' f cdv))
        (fun fl s' => LeaveS0 ([env].filterMap (·.frame)) h₀ L m g R (match fl with | .ret v => v | _ => .none) s')
        (fun e s' => wpAny (model prog w) (A.deeper (envOf qual scope L' f cdv)) (leaving (envOf qual scope L' f cdv) e) (fun _ s'' => R (.error e) s'') (fun e' s'' => R (.error e') s'') s')
        { s with heap := h₁, toks := s.toks + binds.length })
    (hco : scope.isCoroutine = false) (hgen : scope.isGenerator = false) (hk : scope.kind = .function)
    (hcell : ∀ x ∈ scope.names, x.2 ≠ .cell) : codeAny (model prog w) A (.call (.ref f) args) R s := by
  have X := X₀.keeps F.keep
  have hfs : [env].filterMap (·.frame) = [L] := by simp [hf]
  refine codeAny_call_def (fd := fnOf name qual params body scope dV kV doc pm an cdv ct) (body := body) (binds := binds) hroom (X _ _ ho) rfl (T.nolimit.keeps F.keep) (codeRec_of X hcd) rfl hbind hcell hloc (fun h₁ hns hk₁ => ?_) hco hgen hk
  obtain ⟨oL, es, ep, hL, hLd, hLk, hLf⟩ := F.ns
  have hnL₀ : h₀.get? L = none := kts_self F
  have hnL : L ∉ news.map (·.1) := fun hm => by
    obtain ⟨q, hq, hb⟩ := List.mem_map.mp hm
    exact (N q hq).2.1 hb
  have hgL := hideAll_get (news.map (·.1)) hL hnL
  have st : h₀.StaysIn (hideAll s.heap (news.map (·.1))) := fun b o e => hideAll_get _ (F.keep b o e) (ledger_apart N e)
  have hbL : base.get? L = none := by
    cases hq : base.get? L with
    | none => rfl
    | some o => have z := B.stays L o hq; rw [hnL₀] at z; exact nomatch z
  have B₂ : Below A base [env] (hideAll s.heap (news.map (·.1))) :=
    ⟨hA, fun b o e => st b o (B.stays b o e), ⟨by rw [hke]; decide, ⟨L, oL, hf, hbL, hgL, fun vs e => by rw [hLd] at e; exact nomatch e⟩, trivial⟩⟩
  have FG : Fr h₀ L (hideAll s.heap (news.map (·.1))) m := ⟨⟨oL, es, ep, hgL, hLd, hLk, hLf⟩, st, F.above⟩
  refine wpAny_mono (h _ s.heap.objs.size h₁ FG ⟨hns, fun b o e => hk₁ b o (of_hideAll _ e), Nat.le_of_eq (hideAll_size _ _)⟩
    (fun q hq => ⟨hk₁ _ _ (N q hq).1, Nat.ne_of_lt (Heap.lt_size (N q hq).1), hideAll_none _ (List.mem_map_of_mem hq)⟩) B₂ (X₀.keeps st) (T.keeps st) (fun b hb => by
      rw [hfs] at hb
      obtain rfl := List.mem_singleton.mp hb
      exact ⟨oL, es, ep, hgL, hLd⟩)) (fun fl s' hl => ?_) fun _ _ y => y
  obtain ⟨g', L', m', news', T', F', N', k⟩ := hl
  obtain ⟨sl, hs⟩ := T'.up hgL
  refine k ⟨⟨_, es, ep, F'.keep _ _ hs, hLd, hLk, hLf⟩, fun b o e => F'.keep b o (T'.other b o (st b o e) fun q => ?_), F.above⟩ fun q hq => ⟨(N' q hq).1, fun z => ?_, ?_⟩
  · rw [hfs] at q
    obtain rfl := List.mem_singleton.mp q
    rw [hnL₀] at e
    exact nomatch e
  · have y := (N' q hq).2.2
    rw [z, hs] at y
    exact nomatch y
  · cases z : h₀.get? q.1 with
    | none => rfl
    | some o =>
      obtain ⟨sl', hs'⟩ := T'.up (st _ _ z)
      have y := (N' q hq).2.2
      rw [hs'] at y
      exact nomatch y
end
end Mine

end

section
open PySem PySem.W PyProof.Rows
namespace Mine
/-- a def's answer, called from the outermost frame -/
noncomputable def CallsT (w : World) (nd : Nat) (f : Addr) (vs : List Value) (news : List (Addr × Obj)) (R : Value → List (Addr × Obj) → Prop) : Prop :=
  ∀ (p : Program) (loose : List Str) (mean : ExcName → Option Value) (mg mb : Str → Option Value) (dp un : Nat) (gd : Option (List Code)) (cn : Str) (cs : Scope) (a : Addr) (ccd : Value) (cl : List (Str × Addr)) (A₀ : Around) (h₀ : Heap) (L : Addr) (m : Str → Option Value) (s : Shared) (Q E : Value → Shared → Prop),
    Below A₀ h₀ [] h₀ → Fr h₀ L s.heap m → (kx w.params).In h₀ → News h₀ L s.heap news → Top p loose mean mg mb h₀ → cs.kind = .function → dp + nd < recursionLimit → un + 10 * nd < cLine →
    NRet h₀ L m s R Q →
    wpAny (model pw w) (ktrTop dp un gd cn cs L a ccd cl []) (call (.ref f) vs) Q E s
local macro_rules | `(tactic| walk_at "call builtin:iter") => `(tactic| (k_here; (with_reducible show wpAny _ _ (call (Value.builtin "iter") [Value.ref _]) _ _ _); (with_reducible rename Fr _ _ _ _ => lF); (with_reducible rename News _ _ _ _ => lN); (refine li_iter lF lN (vs := _) ⟨_, (lN _ (.head _)).1, rfl, _, rfl⟩ ?_); clear lF lN; intro I h9 F9 N9 lI; (try dsimp only); (try k_fold)))
theorem lt_names {I W l : Addr} {news : List (Addr × Obj)} (_h : I < W ∧ l < W ∧ AllLt W news) {P : Prop} (k : ∀ I' W' : Addr, I' = I → W' = W → P) : P := k I W rfl rfl
theorem c_read (w : World) (l : Addr) (vs : List Value) (ns : List Int) (hI : IntsAre vs ns) (b : Int) (hx : ns[0]? = some b) (v : Int) (hv0 : vTail 10 ns 1 b (Builtin.bitAnd b 63) = some (v, ns.length)) (n : Nat) (news : List (Addr × Obj))  :
    CallsT w 8 273 [.ref l] ((l, W.listOf vs.toArray n) :: news) (fun r news' => ∃ a t k, r = .ref a ∧ news' = (a, W.listOf #[.int v t] k) :: news) := by
  unfold CallsT
  intro p loose mean mg mb dp un gd cn cs a ccd cl A₀ h₀ L m s Q E B F X N T hk hd hu hret
  refine wpAny_call ?_
  k_dflt (refine' enter_tryE ?k1 ?k2 ?k3 ?k4 ?k5 ?kA ?kF ?kK ?k6 ?k7 ?k8 ?k9 ?kB ?_ ?c2 ?c3 ?c4 ?c5; (case kA => exact rfl); (case kF => exact rfl); (case kK => assumption); (case k1 => k_asm); (case k2 => k_asm); (case k3 => k_asm); (case k4 => k_asm); (case k5 => k_asm); (case k6 => k_is); (case k7 => k_is); (case k8 => ktr_room); (case k9 => exact BindsTo.of_eq rfl); (case c5 => decide); (case kB => exact locs rfl); (case c2 => exact rfl); (case c3 => exact rfl); (case c4 => exact rfl); k_whole; intro g' L' h' FG' F' N' B' X' T' D'; (try dsimp only); (try k_lift B'); (try k_fold))
  (repeat (fail_if_success (with_reducible show wpAny _ _ (exec (Stmt.While _ _ _ _) _) _ _ _)); first | (k_unfold; (try dsimp only)) | walk1 | (dsimp only; walk1))
  (with_reducible rename Fr _ _ _ _ => lF)
  (with_reducible rename News _ _ _ _ => lN)
  rename (∀ p : Addr × Obj, p ∈ (l, W.listOf vs.toArray n) :: news → p.1 < _) => lI
  (with_reducible rename _ ∧ _ ∧ AllLt _ _ => lW)
  refine lt_names lW ?_
  rintro I1 W1 rfl rfl
  have hlI : ∀ q ∈ news, q.1 ≠ I1 := fun q hq => Nat.ne_of_lt (lI q (.tail _ hq))
  have hlI2 : l ≠ I1 := Nat.ne_of_lt (lI _ (.head _))
  have hlW : W1 ≠ I1 := (Nat.ne_of_lt lW.1).symm
  refine ksw_while (σ := Option (Tok × Nat)) (fun st => match st with
      | none => (W1, W.listOf #[] 0) :: (I1, liObj l 0) :: (l, W.listOf vs.toArray n) :: news
      | some st => (W1, W.listOf #[.int v st.1] st.2) :: (I1, liObj l ns.length) :: (l, W.listOf vs.toArray n) :: news) (fun st => []) (fun _ => True) [] (fun _ => True) (fun st => match st with | none => 1 | some _ => 0) none
    lF lN trivial (List.forall_mem_nil _) trivial ?turn (by passes_own)
  case turn =>
    clear lF lN
    rintro (_ | ⟨t1, k1⟩) u h9 tk9 - - F9 N9
    · dsimp only at F9 N9 ⊢
      k_fold
      (repeat (fail_if_success (with_reducible show wpAny _ _ (call (Value.ref _) _) _ _ _)); first | (k_unfold; (try dsimp only)) | walk1 | (dsimp only; walk1))
      refine CallsN.use (c_parse w I1 l vs ns hI 0 n b hx v ns.length hv0 (W1, W.listOf (#[] : Array Value) 0) hlW hlI2 news hlI) (by k_asm) (by k_asm) (by k_asm) (by k_asm) (by k_asm) (by first | exact rfl | assumption) (by ktr_room) (by ktr_units) ?_
      rintro r9 h9 tk9 nw9 F9 N9 ⟨⟨t9, rfl⟩, rfl⟩
      (try dsimp only)
      (try k_fold)
      repeat' (first | (k_unfold; (try dsimp only)) | (k_end; wrow_close) | ((fail_if_success (with_reducible refine KswEnd_stop ?_)); walk1) | (dsimp only; walk1) | (leave1; walk_say "STEP leave1"; (try dsimp only)) | fail "no step")
      (with_reducible rename News _ _ _ _ => nE)
      (with_reducible rename Fr _ _ _ _ => nF)
      exact ksw_end (some (t9, _)) nF nE (fun _ hp => hp) trivial (List.forall_mem_nil _) (by intro z h2 h3; simp [kstB]) trivial (by show 0 < 1; omega)
    · dsimp only at F9 N9 ⊢
      k_fold
      (repeat (fail_if_success (with_reducible show wpAny _ _ (call (Value.ref _) _) _ _ _)); first | (k_unfold; (try dsimp only)) | walk1 | (dsimp only; walk1))
      refine wpAny_call ?_
      k_dflt (refine' code_defS ?k1 ?k2 ?k3 ?k4 ?k5 ?XB ?TB ?D ?T0 ?kA ?k6 ?k7 ?k8 ?k9 ?kB ?_ ?cK ?c2 ?c3 ?c4 ?c5; (case kA => exact rfl); (case k2 => k_asm); (case k1 => k_asm); (case XB => assumption); (case TB => assumption); (case D => assumption); (case T0 => first | assumption | exact KtsTurn.refl); (case k3 => k_asm); (case k4 => k_asm); (case k5 => k_asm); (case k6 => k_is); (case k7 => k_is); (case k8 => ktr_room); (case k9 => exact BindsTo.of_eq rfl); (case kB => exact locs rfl); (case cK => exact rfl); (case c2 => exact rfl); (case c3 => exact rfl); (case c4 => exact rfl); (case c5 => decide); k_whole; intro g2 L2 h2 FG2 F2 N2 B2 X2 T2 D2; (try dsimp only); (try k_lift B2); (try k_fold))
      (repeat (fail_if_success (with_reducible show wpAny _ _ (call (Value.builtin "next") _) _ _ _)); first | walk1 | (dsimp only; walk1))
      (with_reducible rename Fr _ _ _ _ => lF)
      (with_reducible rename News _ _ _ _ => lN)
      refine li_stop rfl lF lN (.tail hlW (.head (List.forall_mem_cons.mpr ⟨hlI2, hlI⟩))) ⟨_, (lN _ (.tail _ (.tail _ (.head _)))).1, rfl, _, rfl⟩ (List.getElem?_eq_none (Nat.le_of_eq hI.length)) ?_
      intro h1 h9 e9 F9 N9 M9
      clear lF lN
      (try dsimp only)
      (try k_fold)
      (repeat (first | (k_unfold; (try dsimp only)) | walk1 | (dsimp only; walk1)))
      (with_reducible rename News h₀ L _ _ => nE)
      exact hret.out _ _ _ _ (by k_asm) (fun q hq => nE q (by
        rcases List.mem_cons.mp hq with rfl | hq
        · exact .head _
        · exact .tail _ (.tail _ (.tail _ hq)))) ⟨_, _, _, rfl, rfl⟩
end Mine

end

section
open PySem PySem.W PyProof.Rows
namespace Mine
section
variable {prog : Program} {w : World} {A : Around} {E : Value → Shared → Prop} {s : Shared} {env : Env} {h₀ : Heap} {x : Str} {body : List Stmt} {Q : Flow → Shared → Prop}
/-- a loop over a text's signs whose state's objects may be others behind each turn -/
theorem gl_text {σ : Type} {xt : Str} {tx : Tok} {m₀ : Str → Option Value} (Led : σ → List (Addr × Obj)) (ps : σ → List (Str × Value)) (Facts : σ → Prop) (stored : List Str) (P : List Int → σ → Prop) (c₀ : σ)
    (hh : A.handled = none) (F : Fr h₀ env.locals s.heap m₀) (N : News h₀ env.locals s.heap (Led c₀)) (hf : Facts c₀) (hk : ∀ p ∈ ps c₀, m₀ p.1 = some p.2) (hp : P [] c₀)
    (turn : ∀ (c : σ) (pre post : List Int) (n : Nat) t (u : Str → Option Value) h tk own, KStt.codes xt = pre ++ (n : Int) :: post → OwnOff own ((Led c).map (·.1)) → Facts c → P pre c →
      Fr h₀ env.locals h (fun y => if y = x then some (.str ⟨#[n]⟩ t) else kstB (fun z => if stored.contains z then u z else m₀ z) (ps c) y) → News h₀ env.locals h (Led c ++ own) →
      wpAny (model prog w) A (execs body env) (InvPostG h₀ env.locals (KstS Led ps Facts x stored m₀ P (pre ++ [(n : Int)])) own { s with heap := h, toks := tk } Q) E { s with heap := h, toks := tk })
    (done : ∀ (c : σ) (u : Str → Option Value) h tk, Facts c → P (KStt.codes xt) c → Fr h₀ env.locals h (fun y => if y = x then u y else kstB (fun z => if stored.contains z then u z else m₀ z) (ps c) y) → News h₀ env.locals h (Led c) → Q .next { s with heap := h, toks := tk }) :
    wpAny (model prog w) A (pyIter (.str xt tx)) (fun it s₂ => LoopAtV prog w A h₀ env x body Q E it s₂) E s := by
  have main : ∀ (o : Obj) (St : Nat → Heap → Prop), Walks prog w A s.heap.objs.size [s.heap.objs.size] [s.heap.objs.size] xt.cps.size (SignAt xt) St → (∀ i h, St i h → ∃ o, h.get? s.heap.objs.size = some o) → St 0 (s.heap.push o) →
      LoopAtV prog w A h₀ env x body Q E (.ref s.heap.objs.size) { s with heap := s.heap.push o } := by
    intro o St W hob hst
    refine kdr_loop (fun i m nx => KstS Led ps Facts x stored m₀ P ((KStt.codes xt).take i) m nx) W (fun _ h => h) (fun _ h => h) (fun i h hs b hb => by rw [List.mem_singleton.mp hb]; exact hob i h hs) ?_ ?_ ?_ hst (F.push _) (fun p hp => ⟨Heap.get?_push_of_some _ (N p hp).1, (N p hp).2⟩) ⟨c₀, rfl, hf, hk, fun _ _ _ _ => rfl, by simpa using hp⟩ ?_ ?_
    · intro hm
      exact absurd F.ns.lt ((List.mem_singleton.mp hm) ▸ Nat.lt_irrefl _)
    · intro b' hb
      rw [List.mem_singleton.mp hb]
      exact next_is_new F
    · intro p hp hI
      exact absurd (Heap.lt_size (N p hp).1) ((List.mem_singleton.mp hI) ▸ Nat.lt_irrefl _)
    · rintro i v m₁ nx h tk own hi ⟨n, u, hn, rfl⟩ hoff ⟨c, rfl, hf', h1, h2, hp'⟩ F₁ N₁
      have hn' := KStt.code_at hn
      have hs : (KStt.codes xt).take (i + 1) = (KStt.codes xt).take i ++ [(n : Int)] := by simp [List.take_add_one, hn']
      have e : KStt.codes xt = (KStt.codes xt).take i ++ (n : Int) :: (KStt.codes xt).drop (i + 1) := by
        have ht := List.take_append_drop (i + 1) (KStt.codes xt)
        rw [hs, List.append_assoc] at ht
        exact ht.symm
      rw [hs]
      exact turn c _ _ n u m₁ h tk own e hoff hf' hp' (kst_fr h1 h2 F₁) N₁
    · rintro m₁ nx h tk ⟨c, rfl, hf', h1, h2, hp'⟩ F₁ N₁
      have hl : xt.cps.size = (KStt.codes xt).length := (KStt.codes_length xt).symm
      rw [hl, List.take_length] at hp'
      exact done c m₁ h tk hf' hp' (kst_frOut h1 h2 F₁) N₁
  cases ha : xt.cps.all (· < 128)
  · exact wpAny_pyIter_wide ha (main _ _ (Walks.strWide hh _ xt tx) (fun i h hs => ⟨_, hs.choose_spec.1⟩) ⟨_, Heap.get?_push_size _ rfl, rfl, rfl⟩)
  · exact wpAny_pyIter_ascii ha (main _ _ (Walks.strAscii hh _ xt tx) (fun i h hs => ⟨_, hs.choose_spec.1⟩) ⟨_, Heap.get?_push_size _ rfl, rfl, rfl⟩)
end
/-- a turn's end -/
theorem gl_end {σ : Type} {Led : σ → List (Addr × Obj)} {ps : σ → List (Str × Value)} {Facts : σ → Prop} {x : Str} {stored : List Str} {m₀ : Str → Option Value} {P : List Int → σ → Prop} {pre : List Int} {h₀ : Heap} (c : σ) {L : Addr} {m' : Str → Option Value} {own news' : List (Addr × Obj)} {s₁ : Shared} {h' : Heap} {tk : Nat}
    (F : Fr h₀ L h' m') (N : News h₀ L h' news') (hn : ∀ p ∈ Led c, p ∈ news') (ho : ∀ p ∈ own, p ∈ news') (hw : OwnOff own ((Led c).map (·.1)))
    (hk : ∀ p ∈ ps c, m' p.1 = some p.2) (hr : ∀ z, z ≠ x → (∀ p ∈ ps c, z ≠ p.1) → stored.contains z = false → m' z = m₀ z) (hf : Facts c) (hp : P pre c) :
    InvEndG h₀ L (KstS Led ps Facts x stored m₀ P pre) own s₁ { s₁ with heap := h', toks := tk } :=
  ⟨h', tk, m', news', Led c, rfl, F, N, hn, ho, hw, c, rfl, hf, hk, hr, hp⟩
/-- no entry of the list lies at d -/
noncomputable def Off (d : Addr) (l : List (Addr × Obj)) : Prop := ∀ p ∈ l, p.1 ≠ d
theorem Off.out {d : Addr} {l : List (Addr × Obj)} (h : Off d l) : ∀ p ∈ l, p.1 ≠ d := h
theorem Off.app {d : Addr} {l r : List (Addr × Obj)} (h : Off d l) (k : Off d r) : Off d (l ++ r) := fun p hp => (List.mem_append.mp hp).elim (h p) (k p)
/-- a loop's state where the target may be anything: behind i items -/
noncomputable def TlS {σ : Type} (Led : σ → List (Addr × Obj)) (ps : σ → List (Str × Value)) (Facts : σ → Prop) (stored : List Str) (m₀ : Str → Option Value) (P : Nat → σ → Prop) (i : Nat) (m : Str → Option Value) (nx : List (Addr × Obj)) : Prop :=
  ∃ c : σ, nx = Led c ∧ Facts c ∧ (∀ p ∈ ps c, m p.1 = some p.2) ∧ (∀ z, (∀ p ∈ ps c, z ≠ p.1) → stored.contains z = false → m z = m₀ z) ∧ P i c
section
variable {prog : Program} {w : World} {A : Around} {E : Value → Shared → Prop} {s : Shared} {env : Env} {h₀ : Heap} {target : PySem.Expr} {body : List Stmt} {Q : Flow → Shared → Prop}
theorem unrPostW_imp {L : Addr} {s₁ : Shared} {its : List (Addr × Obj)} {r r' : (Str → Option Value) → List (Addr × Obj) → Prop} (f : ∀ m n, (∀ p ∈ n, ∀ q ∈ its, p.1 ≠ q.1) → r m n → r' m n) {fl : Flow} {s₂ : Shared} (h : UnrPostW h₀ L s₁ its r Q fl s₂) : UnrPostW h₀ L s₁ its r' Q fl s₂ := by
  cases fl with
  | ret v => exact h
  | brk => exact h
  | next => obtain ⟨h', tk, m', n', e, F, N, o, x⟩ := h; exact ⟨h', tk, m', n', e, F, N, o, f _ _ o x⟩
  | cont => obtain ⟨h', tk, m', n', e, F, N, o, x⟩ := h; exact ⟨h', tk, m', n', e, F, N, o, f _ _ o x⟩
theorem tl_list {σ : Type} {l : Addr} {vs : List Value} {nn : Nat} {m₀ : Str → Option Value} (Led : σ → List (Addr × Obj)) (ps : σ → List (Str × Value)) (Facts : σ → Prop) (stored : List Str) (P : Nat → σ → Prop) (c₀ : σ)
    (hh : A.handled = none) (F : Fr h₀ env.locals s.heap m₀) (N : News h₀ env.locals s.heap (Led c₀)) (hl : ∀ c, Facts c → (l, W.listOf vs.toArray nn) ∈ Led c) (hf : Facts c₀) (hk : ∀ p ∈ ps c₀, m₀ p.1 = some p.2) (hp : P 0 c₀)
    (turn : ∀ (c : σ) (i : Nat) (v : Value) (u : Str → Option Value) h tk I o, vs[i]? = some v → Off I (Led c) → Facts c → P i c →
      Fr h₀ env.locals h (kstB (fun z => if stored.contains z then u z else m₀ z) (ps c)) → News h₀ env.locals h ((I, o) :: Led c) →
      wpAny (model prog w) A (assign target env v) (fun _ s₂ => wpAny (model prog w) A (execs body env) (UnrPostW h₀ env.locals { s with heap := h, toks := tk } [(I, o)] (TlS Led ps Facts stored m₀ P (i + 1)) Q) E s₂) E { s with heap := h, toks := tk })
    (done : ∀ (c : σ) (u : Str → Option Value) h tk, Facts c → P vs.length c → Fr h₀ env.locals h (kstB (fun z => if stored.contains z then u z else m₀ z) (ps c)) → News h₀ env.locals h (Led c) → Q .next { s with heap := h, toks := tk }) :
    wpAny (model prog w) A (pyIter (.ref l)) (fun it s₂ => TurnsAt prog w A h₀ env target body Q E it s₂) E s := by
  refine iter_listTurns hh F N (hl _ hf) rfl rfl ?_
  intro I hI0
  have key : ∀ (r : List Value) (i : Nat), i ≤ vs.length → vs.drop i = r → ∀ m nx, Off I nx → TlS Led ps Facts stored m₀ P i m nx → ItemsRest prog w A E h₀ env target body Q s [(I, "list_iterator")] [(l, W.listOf vs.toArray nn)] (r.map .val) m nx := by
    intro r
    induction r with
    | nil =>
      rintro i hi hr m nx hoff ⟨c, rfl, hf', h1, h2, hp'⟩
      have hi' : i = vs.length := by
        have := List.drop_eq_nil_iff.mp hr
        omega
      subst hi'
      refine ItemsRest.zero fun h tk F₁ N₁ => ?_
      exact done c m h tk hf' hp' (ksw_fr h1 h2 F₁) N₁
    | cons v r ih =>
      rintro i hi hr m nx hoff ⟨c, rfl, hf', h1, h2, hp'⟩
      have hlt : i < vs.length := by
        by_cases e : i < vs.length
        · exact e
        · rw [List.drop_eq_nil_of_le (by omega)] at hr
          exact nomatch hr
      have hv : vs[i]? = some v := by
        have := congrArg List.head? hr
        rw [List.head?_drop] at this
        simpa using this
      have hr' : vs.drop (i + 1) = r := by
        rw [← List.tail_drop, hr]
        rfl
      refine ItemsRest.val fun h tk F₁ o _ N₁ => ?_
      refine wpAny_mono (turn c i v m h tk I o hv hoff hf' hp' (ksw_fr h1 h2 F₁) N₁) (fun _ s₂ hq => wpAny_mono hq (fun fl s₃ hq' => unrPostW_imp (fun m' n' ho x => ⟨?_, ih (i + 1) hlt hr' m' n' (fun p hp => ho p hp _ (.head _)) x⟩) hq') fun _ _ e => e) fun _ _ e => e
      obtain ⟨c', rfl, hf'', _⟩ := x
      exact ⟨hl _ hf'', trivial⟩
  exact key vs 0 (Nat.zero_le _) rfl m₀ _ (fun p hp => Nat.ne_of_lt (hI0 p hp)) ⟨c₀, rfl, hf, hk, fun _ _ _ => rfl, hp⟩
end
section
variable {prog : Program} {w : World} {A : Around} {E : Value → Shared → Prop} {s : Shared} {env : Env} {h₀ : Heap} {body : List Stmt} {Q : Flow → Shared → Prop}
theorem tl_range {σ : Type} {x : Str} {px : Pos} {r : Addr} {a b : Int} {t₀ u₀ v₀ : Tok} {n : Nat} {m₀ : Str → Option Value} (Led : σ → List (Addr × Obj)) (ps : σ → List (Str × Value)) (Facts : σ → Prop) (stored : List Str) (P : Nat → σ → Prop) (c₀ : σ)
    (hh : A.handled = none) (hr : IsRange s.heap r a b 1 t₀ u₀ v₀) (hsmall : Builtin.Range.small a b 1 = true) (hn : Builtin.Range.rangeSize a b 1 = (n : Int)) (F : Fr h₀ env.locals s.heap m₀) (N : News h₀ env.locals s.heap (Led c₀)) (hf : Facts c₀) (hk : ∀ p ∈ ps c₀, m₀ p.1 = some p.2) (hp : P 0 c₀)
    (turn : ∀ (c : σ) (i : Nat) (t : Tok) (u : Str → Option Value) h tk I o, i < n → Off I (Led c) → Facts c → P i c →
      Fr h₀ env.locals h (kstB (fun z => if stored.contains z then u z else m₀ z) (ps c)) → News h₀ env.locals h ((I, o) :: Led c) →
      wpAny (model prog w) A (assign (.Name x px) env (.int (a + (i : Int)) t)) (fun _ s₂ => wpAny (model prog w) A (execs body env) (UnrPostW h₀ env.locals { s with heap := h, toks := tk } [(I, o)] (TlS Led ps Facts stored m₀ P (i + 1)) Q) E s₂) E { s with heap := h, toks := tk })
    (done : ∀ (c : σ) (u : Str → Option Value) h tk, Facts c → P n c → Fr h₀ env.locals h (kstB (fun z => if stored.contains z then u z else m₀ z) (ps c)) → News h₀ env.locals h (Led c) → Q .next { s with heap := h, toks := tk }) :
    wpAny (model prog w) A (pyIter (.ref r)) (fun it s₂ => TurnsAt prog w A h₀ env (.Name x px) body Q E it s₂) E s := by
  refine wpAny_pyIter_range hr hsmall ?_
  have W : Walks prog w A s.heap.objs.size [s.heap.objs.size] [s.heap.objs.size] n (fun i v => i < n ∧ ∃ t, v = .int (a + i * 1) t)
      (fun i h => IsRangeIter h s.heap.objs.size (a + (i : Nat) * 1) ((n : Int) - (i : Nat)) 1) := (Walks.range hh _ a 1 n).bound
  have key : ∀ (j i : Nat), i + j = n → ∀ m nx, Off s.heap.objs.size nx → TlS Led ps Facts stored m₀ P i m nx → ItemsRest prog w A E h₀ env (.Name x px) body Q s [(s.heap.objs.size, "range_iterator")] [] (((List.range n).drop i).map fun (k : Nat) => Itm.tok fun t => .int (a + (k : Int)) t) m nx := by
    intro j
    induction j with
    | zero =>
      rintro i hi m nx hoff ⟨c, rfl, hf', h1, h2, hp'⟩
      have hi' : i = n := by omega
      subst hi'
      rw [List.drop_eq_nil_of_le (by simp)]
      refine ItemsRest.zero fun h tk F₁ N₁ => ?_
      exact done c m h tk hf' hp' (ksw_fr h1 h2 F₁) N₁
    | succ j ih =>
      rintro i hi m nx hoff ⟨c, rfl, hf', h1, h2, hp'⟩
      have hlt : i < n := by omega
      rw [List.drop_eq_getElem_cons (by simpa using hlt), List.map_cons, List.getElem_range]
      refine ItemsRest.tok fun t h tk F₁ o _ N₁ => ?_
      refine wpAny_mono (turn c i t m h tk _ o hlt hoff hf' hp' (ksw_fr h1 h2 F₁) N₁) (fun _ s₂ hq => wpAny_mono hq (fun fl s₃ hq' => unrPostW_imp (fun m' n' ho x => ⟨trivial, ih (i + 1) (by omega) m' n' (fun p hp => ho p hp _ (.head _)) x⟩) hq') fun _ _ e => e) fun _ _ e => e
  refine ktu_core (tk0 := s.toks) (keep := []) (KTurns.ofWalks W fun i v s Q E _ q => wpAny_of_eq (a := ()) rfl q) (by simp) (fun i v h hp => ?_) (fun i h st => ?_) (fun b hb => ?_) (fun b hb => by simpa using hb) (fun b hb => .inl (by simpa using hb)) ?_ (fun p hp hI => ?_) ?_ (F.push _) (fun p hp => ⟨Heap.get?_push_of_some _ (N p hp).1, (N p hp).2⟩) trivial
    (key n 0 (by omega) m₀ _ (fun p hp => Nat.ne_of_lt (Heap.lt_size (N p hp).1)) ⟨c₀, rfl, hf, hk, fun _ _ _ => rfl, hp⟩)
  · obtain ⟨hi, t, rfl⟩ := hp
    refine ⟨.tok fun t => .int (a + (i : Int)) t, ?_, t, by rw [Int.mul_one]⟩
    simp [List.getElem?_map, List.getElem?_range hi]
  · exact ⟨[(s.heap.objs.size, _)], ⟨⟨rfl, rfl⟩, trivial⟩, fun p hp => by rw [List.mem_singleton.mp hp]; exact st⟩
  · have hb' : b = s.heap.objs.size := by simpa using hb
    rw [hb']
    exact ⟨List.mem_cons_self .., next_is_new F⟩
  · intro hI
    have e : env.locals = s.heap.objs.size := by simpa using hI
    exact absurd F.ns.lt (e ▸ Nat.lt_irrefl _)
  · have e : p.1 = s.heap.objs.size := by simpa using hI
    exact absurd (Heap.lt_size (N p hp).1) (e ▸ Nat.lt_irrefl _)
  · show IsRangeIter _ _ _ _ _
    rw [hn]
    simpa using Heap.get?_push_size _ rfl
end
theorem UnrEndW_stop {h₀ : Heap} {L : Addr} {s₁ : Shared} {its : List (Addr × Obj)} {rest : (Str → Option Value) → List (Addr × Obj) → Prop} {s₂ : Shared} (h : UnrEndW h₀ L s₁ its rest s₂) : UnrEndW h₀ L s₁ its rest s₂ := h
/-- a turn's end there -/
theorem tl_end {σ : Type} {Led : σ → List (Addr × Obj)} {ps : σ → List (Str × Value)} {Facts : σ → Prop} {stored : List Str} {m₀ : Str → Option Value} {P : Nat → σ → Prop} {i : Nat} {h₀ : Heap} (c : σ) {L : Addr} {m' : Str → Option Value} {its news' : List (Addr × Obj)} {s₁ : Shared} {h' : Heap} {tk : Nat}
    (F : Fr h₀ L h' m') (N : News h₀ L h' news') (hn : ∀ p ∈ its ++ Led c, p ∈ news') (hw : ∀ q ∈ its, Off q.1 (Led c))
    (hk : ∀ p ∈ ps c, m' p.1 = some p.2) (hr : ∀ z, (∀ p ∈ ps c, z ≠ p.1) → stored.contains z = false → m' z = m₀ z) (hf : Facts c) (hp : P i c) :
    UnrEndW h₀ L s₁ its (TlS Led ps Facts stored m₀ P i) { s₁ with heap := h', toks := tk } :=
  ⟨h', tk, m', Led c, rfl, F, fun p hp => N p (hn p hp), fun p hp q hq => hw q hq p hp, c, rfl, hf, hk, hr, hp⟩
section
variable {prog : Program} {w : World} {A : Around} {E : Value → Shared → Prop} {s : Shared} {h₀ : Heap} {L : Addr} {m : Str → Option Value} {news : List (Addr × Obj)}
theorem li_add {D1 D2 : Addr} {ys ys2 : List Value} {n n2 : Nat} {Q : Value → Shared → Prop} (F : Fr h₀ L s.heap m) (N : News h₀ L s.heap news) (h1 : (D1, W.listOf ys.toArray n) ∈ news) (h2 : (D2, W.listOf ys2.toArray n2) ∈ news) (hsz : ys.length + ys2.length ≤ sizeLine)
    (h : ∀ D h', Fr h₀ L h' m → News h₀ L h' ((D, W.listOf (ys ++ ys2).toArray 0) :: news) → (∀ p ∈ news, p.1 < D) → Q (.ref D) { s with heap := h' }) :
    wpAny (model prog w) A (binaryOp .Add (.ref D1) (.ref D2)) Q E s := by
  have ho := (N _ h1).1
  have ho2 := (N _ h2).1
  refine concat_meets ⟨_, ho, rfl⟩ ⟨_, ho2, rfl⟩ noFill_list_add seq_list_add PySem.F.slot_list_add PySem.F.entry_list_add (PySem.F.args_list_add_2 _ _) (list_addW D1 D2 ys.toArray ys2.toArray n n2 none none #[] #[] (by simpa using hsz)) ⟨ho, ho2, ?_⟩
  refine h _ _ (F.push _) ?_ (fun q hq => Heap.lt_size (N q hq).1)
  have e : ys.toArray ++ ys2.toArray = (ys ++ ys2).toArray := by simp
  rw [e]
  exact News.push F N _ rfl
end
section
variable {prog : Program} {w : World} {A : Around} {h₀ : Heap} {L : Addr} {m : Str → Option Value} {env : Env} {elt : PySem.Expr} {x : Str} {scope : Scope} {cl : List (Str × Addr)} {s : Shared} {S : List (Addr × Obj) → Prop} {P : Nat → Value → Prop} {Fin : List Value → List (Addr × Obj) → Prop}
/-- a comprehension over ints whose element may make objects: they go to the ledger's tail -/
theorem kmp_restV {n : Nat} {ks : List Int} (pre tl₀ : List (Addr × Obj)) (V : List (Addr × Obj) → Prop) (R : List (Addr × Obj) → Int → Value → Prop) (hR : ∀ k y tl tl', R tl k y → (∀ p ∈ tl, p ∈ tl') → R tl' k y)
    (hks : ks.length = n) (hP : ∀ i v, i < n → P i v → ∃ k t, ks[i]? = some k ∧ v = .int k t) (hS : S (pre ++ tl₀)) (hV : V tl₀)
    (turn : ∀ k t I oI C oC D m₂ ys tl h tk (E' : Value → Shared → Prop), k ∈ ks → LCg.NsObj oC m₂ → m₂ x = some (.int k t) → Fr h₀ L h m → News h₀ L h ((I, oI) :: (C, oC) :: (D, LCg.lst ys) :: (pre ++ tl)) → LCg.Off3 I C D (pre ++ tl) → ((@Ne Nat I C) ∧ (@Ne Nat I D) ∧ (@Ne Nat C D)) → S (pre ++ tl) → V tl →
      wpAny (model prog w) A (eval elt (compEnvC scope cl C env)) (LCg.CompEnd h₀ L m { s with heap := h, toks := tk } I oI C oC D (LCg.lst ys) S (fun y news' => ∃ tl', news' = pre ++ tl' ∧ (∀ p ∈ tl, p ∈ tl') ∧ V tl' ∧ R tl' k y)) E' { s with heap := h, toks := tk })
    (fin : ∀ ys tl, (∀ p ∈ tl₀, p ∈ tl) → V tl → All2 (R tl) ks ys → Fin ys (pre ++ tl)) : LCg.CompRest prog w A h₀ L m env elt x scope cl s S P Fin n 0 [] (pre ++ tl₀) := by
  have key : ∀ (j i : Nat) (ys : List Value) (tl : List (Addr × Obj)), i + j = n → (∀ p ∈ tl₀, p ∈ tl) → All2 (R tl) (ks.take i) ys → S (pre ++ tl) → V tl → LCg.CompRest prog w A h₀ L m env elt x scope cl s S P Fin j i ys (pre ++ tl) := by
    intro j
    induction j with
    | zero =>
      intro i ys tl hi ht hy _ hv
      have e : i = ks.length := by omega
      subst e
      rw [List.take_length] at hy
      exact LCg.CompRest.zero (fin ys tl ht hv hy)
    | succ j ih =>
      intro i ys tl hi ht hy hS' hvt
      refine LCg.CompRest.succ ?_
      intro v I oI C oC D m₂ h tk E' hv hC hx F N off ne
      obtain ⟨k, t, hk, hv'⟩ := hP i v (by omega) hv
      rw [hv'] at hx
      refine wpAny_mono (turn k t I oI C oC D m₂ ys tl h tk E' (List.mem_of_getElem? hk) hC hx F N off ne hS' hvt) (fun y s₂ hq => ?_) fun _ _ e => e
      obtain ⟨h', tk', nw, e, F', N', off', hS2, tl', hn, hm, hvt', hr⟩ := hq
      subst hn
      refine ⟨h', tk', pre ++ tl', e, F', N', off', hS2, ?_⟩
      refine ih (i + 1) _ tl' (by omega) (fun p hp => hm p (ht p hp)) ?_ hS2 hvt'
      rw [List.take_add_one, hk]
      exact All2.snoc hr (hy.imp fun a b h => hR _ _ _ _ h hm)
  exact key n 0 [] tl₀ (by omega) (fun _ h => h) (by rw [List.take_zero]; exact .nil) hS hV
end
end Mine

end

section
open PySem PySem.W PyProof.Rows
namespace Mine
/-- what Whitespace's loop counts: the runs by length, the present run, all signs, the tabs -/
structure Ws where
  cnt : List Int
  b : Int
  n : Int
  nt : Int
noncomputable def Ws.grow (c : List Int) (b : Int) : List Int := if (c.length : Int) ≤ b then c ++ (List.replicate (b - c.length + 1).toNat [0]).flatten else c
noncomputable def Ws.put (c : List Int) (b : Int) : List Int := (Ws.grow c b).set b.toNat ((Ws.grow c b).getD b.toNat 0 + 1)
noncomputable def wsRun : List Int → Ws → Ws
  | [], st => st
  | c :: r, st => if c = 32 then wsRun r ⟨st.cnt, st.b + 1, st.n + 1, st.nt⟩
    else if c = 9 then wsRun r ⟨Ws.put st.cnt st.b, 0, st.n + 1, st.nt + 1⟩ else st
noncomputable def ws0 : Ws := ⟨[], 0, 0, 0⟩
structure WSt where
  l : Addr
  vs : List Value
  w : Ws
  ep : Nat
  tb : Tok
  tn : Tok
  tt : Tok
  kd : Tok
structure WsP (pre : List Int) (w : Ws) : Prop where
  run : ∀ post, wsRun (pre ++ post) ws0 = wsRun post w
  low : 0 ≤ w.b
  up : w.b ≤ pre.length
  len : w.cnt.length ≤ pre.length
theorem InvEndG_stop {h₀ : Heap} {L : Addr} {J : (Str → Option Value) → List (Addr × Obj) → Prop} {own : List (Addr × Obj)} {s₁ s₂ : Shared} (h : InvEndG h₀ L J own s₁ s₂) : InvEndG h₀ L J own s₁ s₂ := h
theorem pre_lt {c : Str} {pre post : List Int} {n : Int} (h : KStt.codes c = pre ++ n :: post) (hc : c.length < 1000) : pre.length < 1000 := by
  have := congrArg List.length h
  rw [KStt.codes_length] at this
  have e : c.length = c.cps.size := rfl
  rw [List.length_append, List.length_cons] at this
  omega
theorem off_of_lt {d : Addr} {l : List (Addr × Obj)} (h : AllLt d l) : Off d l := by
  induction l with
  | nil => exact fun p hp => nomatch hp
  | cons q r ih =>
    intro p hp
    rcases List.mem_cons.mp hp with rfl | hp
    · exact Nat.ne_of_lt h.1
    · exact ih h.2 p hp
theorem off_own {own : List (Addr × Obj)} {adr : List Addr} {d : Addr} (h : OwnOff own adr) (hd : d ∈ adr) : Off d own := fun p hp => h p hp d hd
structure WsF (x d : Addr) (news : List (Addr × Obj)) (st : WSt) : Prop where
  fI : IntsAre st.vs st.w.cnt
  fX : @Ne Nat x st.l
  fD : @Ne Nat d st.l
  fO : Off st.l news
theorem news_ne {h₀ h : Heap} {L : Addr} {news : List (Addr × Obj)} (N : News h₀ L h news) {p q : Addr × Obj} (hp : p ∈ news) (hq : q ∈ news) (hne : p.2 ≠ q.2) : @Ne Nat p.1 q.1 := fun e => by
  have h1 := (N p hp).1
  have h2 := (N q hq).1
  have e' : p.1 = q.1 := e
  rw [e', h2] at h1
  exact hne (Option.some.inj h1).symm
theorem drop_second {h₀ h : Heap} {L : Addr} {p q : Addr × Obj} {news : List (Addr × Obj)} (N : News h₀ L h (p :: q :: news)) : News h₀ L h (p :: news) := fun r hr => N r (by
  rcases List.mem_cons.mp hr with rfl | hr
  · exact .head _
  · exact .tail _ (.tail _ hr))
theorem sign_is {n k : Nat} {t : Str} (ht : t = ⟨#[k]⟩) (a : ((⟨#[n]⟩ : Str) == t) = true) : (n : Int) = k := by
  have e := eq_of_beq a
  rw [ht] at e
  have := congrArg Str.cps e
  simp at this
  rw [this]
theorem sign_not {n k : Nat} {t : Str} (ht : t = ⟨#[k]⟩) (a : ((⟨#[n]⟩ : Str) == t) = false) : (n : Int) ≠ k := by
  intro e
  have e' : n = k := by omega
  rw [ht, e'] at a
  simp at a
theorem sp_is : Str.ofString " " = ⟨#[32]⟩ := by decide +kernel
theorem tab_is : Str.ofString "\t" = ⟨#[9]⟩ := by decide +kernel
theorem wsP_space {pre : List Int} {w : Ws} {ch : Int} (h : WsP pre w) (e : ch = 32) : WsP (pre ++ [ch]) ⟨w.cnt, w.b + 1, w.n + 1, w.nt⟩ := by
  subst e
  refine ⟨fun post => ?_, by have := h.low; show 0 ≤ w.b + 1; omega, ?_, ?_⟩
  · rw [List.append_assoc, h.run]
    show wsRun (32 :: post) w = _
    rw [wsRun, if_pos rfl]
  · have := h.up; simp only [List.length_append, List.length_cons, List.length_nil]; show w.b + 1 ≤ _; omega
  · have := h.len; simp only [List.length_append, List.length_cons, List.length_nil]; omega
theorem wsP_tab {pre : List Int} {w : Ws} {ch : Int} (h : WsP pre w) (e : ch = 9) : WsP (pre ++ [ch]) ⟨Ws.put w.cnt w.b, 0, w.n + 1, w.nt + 1⟩ := by
  subst e
  refine ⟨fun post => ?_, Int.le_refl 0, Int.natCast_nonneg _, ?_⟩
  · rw [List.append_assoc, h.run]
    show wsRun (9 :: post) w = _
    rw [wsRun, if_neg (by decide), if_pos rfl]
  · have h1 := h.len
    have h2 := h.up
    have h3 := h.low
    simp only [List.length_append, List.length_cons, List.length_nil]
    unfold Ws.put Ws.grow
    rw [List.length_set]
    split
    · simp only [List.length_append, List.length_flatten, List.map_replicate, List.length_cons, List.length_nil, List.sum_replicate_nat]; omega
    · omega
theorem wsP_stop {pre post codes : List Int} {w : Ws} {ch : Int} (h : WsP pre w) (hc : codes = pre ++ ch :: post) (a : ch ≠ 32) (b : ch ≠ 9) : wsRun codes ws0 = w := by
  rw [hc, h.run, wsRun, if_neg a, if_neg b]
theorem wsP_done {codes : List Int} {w : Ws} (h : WsP codes w) : wsRun codes ws0 = w := by
  have := h.run []
  rw [List.append_nil] at this
  exact this
theorem led_sub {a b c : Addr × Obj} {news own : List (Addr × Obj)} : ∀ p ∈ a :: b :: c :: news, p ∈ a :: b :: c :: (news ++ own) := by
  intro p hp
  rcases List.mem_cons.mp hp with rfl | hp
  · exact .head _
  rcases List.mem_cons.mp hp with rfl | hp
  · exact .tail _ (.head _)
  rcases List.mem_cons.mp hp with rfl | hp
  · exact .tail _ (.tail _ (.head _))
  · exact .tail _ (.tail _ (.tail _ (List.mem_append_left _ hp)))
theorem own_sub {a b c : Addr × Obj} {news own : List (Addr × Obj)} : ∀ p ∈ own, p ∈ a :: b :: c :: (news ++ own) := fun _ hp => .tail _ (.tail _ (.tail _ (List.mem_append_right _ hp)))
local macro_rules | `(tactic| k_all) => `(tactic| exact Off.out (by with_reducible assumption))
/-- an instance's own dict, as __init__ leaves it -/
noncomputable def whiteD (w : World) (c : Str) (t : Tok) (n nt : Int) (tn tt : Tok) (k0 k1 k2 k3 k4 : Tok) (a : Addr) (v : Value) : Obj :=
  dictOf [{ hash := PyData.keyHash w.params (Str.ofString "raw"), key := .str (Str.ofString "raw") k0, val := .str c t },
    { hash := PyData.keyHash w.params (Str.ofString "n"), key := .str (Str.ofString "n") k1, val := .int n tn },
    { hash := PyData.keyHash w.params (Str.ofString "nt"), key := .str (Str.ofString "nt") k2, val := .int nt tt },
    { hash := PyData.keyHash w.params (Str.ofString "norm"), key := .str (Str.ofString "norm") k3, val := .ref a },
    { hash := PyData.keyHash w.params (Str.ofString "is_simple"), key := .str (Str.ofString "is_simple") k4, val := v }] 5
/-- an instance in the ledger: itself, its dict, its norm, the norm's counts -/
noncomputable def WhiteL (w : World) (c : Str) (t : Tok) (x d tn tc : Addr) (st : Ws) (vs : List Value) (led : List (Addr × Obj)) : Prop :=
  ∃ t1 t2 t3 k0 k1 k2 k3 k4 v, led = [(x, instObj 100 d), (d, whiteD w c t st.n st.nt t1 t2 k0 k1 k2 k3 k4 tn v), (tn, { cls := .type "tuple", data := .seq #[.ref tc, .int st.b t3] }), (tc, { cls := .type "tuple", data := .seq vs.toArray })]
theorem own_head {own rest : List (Addr × Obj)} {p q : Addr × Obj} (h : OwnOff own ((p :: rest).map (·.1))) (k : Off q.1 own) : OwnOff own ((q :: rest).map (·.1)) := by
  intro a ha b hb
  rcases List.mem_cons.mp hb with rfl | hb
  · exact k a ha
  · exact h a ha b (.tail _ hb)
theorem off_right {d : Addr} {l r : List (Addr × Obj)} (h : Off d (l ++ r)) : Off d r := fun p hp => h p (List.mem_append_right _ hp)
theorem off_left {d : Addr} {l r : List (Addr × Obj)} (h : Off d (l ++ r)) : Off d l := fun p hp => h p (List.mem_append_left _ hp)
theorem led_sub3 {a e f g b c : Addr × Obj} {news own : List (Addr × Obj)} : ∀ p ∈ a :: b :: c :: news, p ∈ a :: e :: f :: g :: b :: c :: (news ++ own) := by
  intro p hp
  rcases List.mem_cons.mp hp with rfl | hp
  · exact .head _
  rcases List.mem_cons.mp hp with rfl | hp
  · exact .tail _ (.tail _ (.tail _ (.tail _ (.head _))))
  rcases List.mem_cons.mp hp with rfl | hp
  · exact .tail _ (.tail _ (.tail _ (.tail _ (.tail _ (.head _)))))
  · exact .tail _ (.tail _ (.tail _ (.tail _ (.tail _ (.tail _ (List.mem_append_left _ hp))))))
theorem own_sub3 {a e f g b c : Addr × Obj} {news own : List (Addr × Obj)} : ∀ p ∈ own, p ∈ a :: e :: f :: g :: b :: c :: (news ++ own) := fun _ hp => .tail _ (.tail _ (.tail _ (.tail _ (.tail _ (.tail _ (List.mem_append_right _ hp))))))
theorem white_led {h₀ h : Heap} {L : Addr} {n c l x d : Addr × Obj} {news : List (Addr × Obj)} (N : News h₀ L h (n :: c :: l :: x :: d :: news)) : News h₀ L h ([x, d, n, c] ++ news) := by
  intro p hp
  refine N p ?_
  rcases List.mem_append.mp hp with hp | hp
  · rcases List.mem_cons.mp hp with rfl | hp
    · exact .tail _ (.tail _ (.tail _ (.head _)))
    rcases List.mem_cons.mp hp with rfl | hp
    · exact .tail _ (.tail _ (.tail _ (.tail _ (.head _))))
    rcases List.mem_cons.mp hp with rfl | hp
    · exact .head _
    obtain rfl := List.mem_singleton.mp hp
    exact .tail _ (.head _)
  · exact .tail _ (.tail _ (.tail _ (.tail _ (.tail _ hp))))
theorem drop_own5 {h₀ h : Heap} {L : Addr} {n c l x d : Addr × Obj} {news own : List (Addr × Obj)} (N : News h₀ L h (n :: c :: l :: x :: d :: (news ++ own))) : News h₀ L h (n :: c :: l :: x :: d :: news) := by
  intro p hp
  refine N p ?_
  have e : n :: c :: l :: x :: d :: (news ++ own) = (n :: c :: l :: x :: d :: news) ++ own := rfl
  rw [e]
  exact List.mem_append_left _ hp
noncomputable def WhiteR (w : World) (c : Str) (t : Tok) (news : List (Addr × Obj)) (r : Value) (news' : List (Addr × Obj)) : Prop :=
  ∃ x d tn tc vs led, r = .ref x ∧ IntsAre vs (wsRun (KStt.codes c) ws0).cnt ∧ WhiteL w c t x d tn tc (wsRun (KStt.codes c) ws0) vs led ∧ news' = led ++ news
theorem white_out {w : World} {c : Str} {t : Tok} {news : List (Addr × Obj)} {h₀ h' : Heap} {L : Addr} {m : Str → Option Value} {s : Shared} {Q : Value → Shared → Prop} {tk : Nat} {st : Ws} {tn tc x d : Addr} {lx : Addr × Obj} {vs : List Value} {t1 t2 t3 k0 k1 k2 k3 k4 : Tok} {v : Value}
    (hret : NRet h₀ L m s (WhiteR w c t news) Q) (F : Fr h₀ L h' m)
    (N : News h₀ L h' ((tn, { cls := .type "tuple", data := .seq #[.ref tc, .int st.b t3] }) :: (tc, { cls := .type "tuple", data := .seq vs.toArray }) :: lx :: (x, instObj 100 d) :: (d, whiteD w c t st.n st.nt t1 t2 k0 k1 k2 k3 k4 tn v) :: news))
    (hw : wsRun (KStt.codes c) ws0 = st) (hI : IntsAre vs st.cnt) : Q (.ref x) { s with heap := h', toks := tk } := by
  subst hw
  exact hret.out _ _ _ _ F (white_led N) ⟨x, d, tn, tc, vs, _, rfl, hI, ⟨t1, t2, t3, k0, k1, k2, k3, k4, v, rfl⟩, rfl⟩
theorem c_white (w : World) (c : Str) (t : Tok) (news : List (Addr × Obj)) (hc : c.length < 1000) :
    CallsN w 4 100 [.str c t] news (WhiteR w c t news) := by
  unfold CallsN
  intro p loose mean mg mb dp un gd cn cs a ccd cl outer A₀ base h₀ L m s Q E B F X N T hk hd hu hret
  k_dflt (refine' call_cls ?k1 ?k2 ?k3 ?k4 ?k5 ?k6 ?_; (case k1 => k_asm); (case k2 => k_asm); (case k3 => k_asm); (case k4 => k_is); (case k5 => k_is); (case k6 => k_is); k_whole; intro x' d' h' F' N' l1 l2; (try k_lt l1); (try k_lt2 l2); (try k_sweep))
  k_dflt cell_enter
  (repeat (fail_if_success (with_reducible show wpAny _ _ (pyIter (Value.str _ _)) _ _ _)); first | (k_unfold; (try dsimp only)) | walk1 | (dsimp only; walk1))
  (with_reducible rename Fr _ _ _ _ => lF)
  (with_reducible rename News _ _ _ _ => lN)
  have lM := drop_second lN
  refine gl_text (σ := WSt) (fun st => (st.l, W.listOf st.vs.toArray st.ep) :: (x', instObj 100 d') :: (d', dictOf [{ hash := PyData.keyHash w.params (Str.ofString "raw"), key := Value.str (Str.ofString "raw") st.kd, val := Value.str c t }] 1) :: news)
    (fun st => [(Str.ofString "nt", .int st.w.nt st.tt), (Str.ofString "n", .int st.w.n st.tn), (Str.ofString "b", .int st.w.b st.tb), (Str.ofString "count", .ref st.l)]) (WsF x' d' news) [] (fun pre st => WsP pre st.w) ⟨_, [], ws0, 0, _, _, _, _⟩
    (by rfl) lF lM ⟨.nil, ?x0, ?d0, ?o0⟩ (List.forall_mem_cons.mpr ⟨rfl, List.forall_mem_cons.mpr ⟨rfl, List.forall_mem_cons.mpr ⟨rfl, List.forall_mem_cons.mpr ⟨rfl, List.forall_mem_nil _⟩⟩⟩⟩) (WsP.mk (w := ws0) (fun _ => rfl) (Int.le_refl 0) (Int.le_refl 0) (Nat.le_refl 0)) ?turn ?done
  case x0 => (with_reducible rename _ ∧ _ ∧ _ ∧ AllLt _ _ => lA); exact Nat.ne_of_lt lA.2.1
  case d0 => (with_reducible rename _ ∧ _ ∧ _ ∧ AllLt _ _ => lA); exact Nat.ne_of_lt lA.2.2.1
  case o0 => (with_reducible rename _ ∧ _ ∧ _ ∧ AllLt _ _ => lA); exact off_of_lt lA.2.2.2
  have hod : Off d' news := fun q hq => Nat.ne_of_lt (l1 q hq)
  have hox : Off x' news := fun q hq => Nat.ne_of_lt (Nat.lt_trans (l1 q hq) l2)
  clear l1
  case turn =>
    clear lF lN lM
    rintro ⟨l9, vs9, ⟨cnt9, b9, n9, nt9⟩, ep9, tb9, tn9, tt9, kd9⟩ pre post ch tch u h9 tk9 own hcs hOff ⟨hI9, hx9, hd9, ho9⟩ hP9 F9 N9
    dsimp only at hOff hI9 hx9 hd9 ho9 hP9 F9 N9 ⊢
    k_fold
    have hlo := hP9.low
    have hup := hP9.up
    have hln := hP9.len
    dsimp only at hlo hup hln
    simp only [List.cons_append] at N9
    have hvl := hI9.length
    have hoo1 : Off l9 (news ++ own) := ho9.app (off_own hOff (.head _))
    have hoo2 : Off x' (news ++ own) := hox.app (off_own hOff (.tail _ (.head _)))
    have hoo3 : Off d' (news ++ own) := hod.app (off_own hOff (.tail _ (.tail _ (.head _))))
    clear hox hod
    have hpl : pre.length < 1000 := pre_lt hcs hc
    have hcl : cnt9.length < 1000 := Nat.lt_of_le_of_lt hln hpl
    repeat' (first | (k_unfold; (try dsimp only)) | (k_end; wrow_close) | ((fail_if_success (with_reducible refine InvEndG_stop ?_)); walk1) | ((fail_if_success (with_reducible refine InvEndG_stop ?_)); dsimp only; walk1) | (leave1; walk_say "STEP leave1"; (try dsimp only)) | fail "no step")
    · (with_reducible rename (_ == Str.ofString " ") = true => ha)
      (with_reducible rename News _ _ _ _ => nE)
      (with_reducible rename Fr _ _ _ _ => nF)
      exact gl_end (⟨l9, vs9, ⟨cnt9, b9 + 1, n9 + 1, nt9⟩, ep9, _, _, tt9, kd9⟩ : WSt) nF nE led_sub own_sub hOff (List.forall_mem_cons.mpr ⟨by with_unfolding_all rfl, List.forall_mem_cons.mpr ⟨by with_unfolding_all rfl, List.forall_mem_cons.mpr ⟨by with_unfolding_all rfl, List.forall_mem_cons.mpr ⟨by with_unfolding_all rfl, List.forall_mem_nil _⟩⟩⟩⟩)
        (by intro z h1 h2 h3; simp only [List.forall_mem_cons, List.not_mem_nil, false_implies, implies_true, and_true, ne_eq] at h2; simp [h1, h2, kstB]) ⟨hI9, hx9, hd9, ho9⟩ (wsP_space hP9 (sign_is sp_is ha))
    · (with_reducible rename (_ == Str.ofString "\t") = true => ha)
      (with_reducible rename _ ≤ b9 => hb)
      (with_reducible rename News _ _ _ _ => nE)
      (with_reducible rename Fr _ _ _ _ => nF)
      (with_reducible rename _ ∧ _ ∧ _ ∧ _ ∧ _ ∧ AllLt _ _ => lA)
      (with_reducible rename IntsAre (List.set _ _ _) _ => hJ)
      have hP' := wsP_tab hP9 (sign_is tab_is ha)
      unfold Ws.put Ws.grow at hP'
      rw [if_pos hb] at hP'
      have hO := off_of_lt lA.2.2.2.2.2
      exact gl_end (⟨_, _, ⟨_, 0, n9 + 1, nt9 + 1⟩, 0, _, _, _, kd9⟩ : WSt) nF nE led_sub3 own_sub3 (own_head hOff (off_right hO)) (List.forall_mem_cons.mpr ⟨by with_unfolding_all rfl, List.forall_mem_cons.mpr ⟨by with_unfolding_all rfl, List.forall_mem_cons.mpr ⟨by with_unfolding_all rfl, List.forall_mem_cons.mpr ⟨by with_unfolding_all rfl, List.forall_mem_nil _⟩⟩⟩⟩)
        (by intro z h1 h2 h3; simp only [List.forall_mem_cons, List.not_mem_nil, false_implies, implies_true, and_true, ne_eq] at h2; simp [h1, h2, kstB]) ⟨hJ, Nat.ne_of_lt lA.2.2.2.1, Nat.ne_of_lt lA.2.2.2.2.1, off_left hO⟩ hP'
    · (with_reducible rename (_ == Str.ofString "\t") = true => ha)
      (with_reducible rename ¬ _ ≤ b9 => hb)
      (with_reducible rename News _ _ _ _ => nE)
      (with_reducible rename Fr _ _ _ _ => nF)
      have hP' := wsP_tab hP9 (sign_is tab_is ha)
      unfold Ws.put Ws.grow at hP'
      rw [if_neg hb] at hP'
      exact gl_end (⟨l9, _, ⟨_, 0, n9 + 1, nt9 + 1⟩, ep9, _, _, _, kd9⟩ : WSt) nF nE led_sub own_sub hOff (List.forall_mem_cons.mpr ⟨by with_unfolding_all rfl, List.forall_mem_cons.mpr ⟨by with_unfolding_all rfl, List.forall_mem_cons.mpr ⟨by with_unfolding_all rfl, List.forall_mem_cons.mpr ⟨by with_unfolding_all rfl, List.forall_mem_nil _⟩⟩⟩⟩)
        (by intro z h1 h2 h3; simp only [List.forall_mem_cons, List.not_mem_nil, false_implies, implies_true, and_true, ne_eq] at h2; simp [h1, h2, kstB]) ⟨ints_set hI9 _, hx9, hd9, ho9⟩ hP'
    · (with_reducible rename News _ _ _ (_ :: _ :: _ :: _) => lN)
      have hDd := news_ne lN (.tail _ (.head _)) (.tail _ (.tail _ (.tail _ (.tail _ (.head _))))) (fun e => by have := congrArg Obj.cls e; simp at this)
      dsimp only at hDd
      (repeat (first | (k_unfold; (try dsimp only)) | walk1 | (dsimp only; walk1)))
      (with_reducible rename (_ == Str.ofString " ") = false => hs)
      (with_reducible rename (_ == Str.ofString "\t") = false => ht)
      have hw := wsP_stop hP9 hcs (sign_not sp_is hs) (sign_not tab_is ht)
      (with_reducible rename News h₀ L _ _ => nE)
      (with_reducible rename Fr h₀ L _ _ => nF)
      exact white_out (st := ⟨cnt9, b9, n9, nt9⟩) hret nF (drop_own5 nE) hw hI9
  case done =>
    clear lF lN lM
    rintro ⟨l9, vs9, ⟨cnt9, b9, n9, nt9⟩, ep9, tb9, tn9, tt9, kd9⟩ u h9 tk9 ⟨hI9, hx9, hd9, ho9⟩ hP9 F9 N9
    dsimp only at hI9 hx9 hd9 ho9 hP9 F9 N9 ⊢
    (try k_fold)
    have hlo := hP9.low
    have hup := hP9.up
    have hln := hP9.len
    dsimp only at hlo hup hln
    have hvl := hI9.length
    have hpl : (KStt.codes c).length < 1000 := by rw [KStt.codes_length]; exact hc
    have hcl : cnt9.length < 1000 := Nat.lt_of_le_of_lt hln hpl
    (repeat (first | (k_unfold; (try dsimp only)) | walk1 | (dsimp only; walk1)))
    (with_reducible rename News _ _ _ (_ :: _ :: _ :: _) => lN)
    have hDd := news_ne lN (.tail _ (.head _)) (.tail _ (.tail _ (.tail _ (.tail _ (.head _))))) (fun e => by have := congrArg Obj.cls e; simp at this)
    dsimp only at hDd
    (repeat (first | (k_unfold; (try dsimp only)) | walk1 | (dsimp only; walk1)))
    have hw := wsP_done hP9
    (with_reducible rename News h₀ L _ _ => nE)
    (with_reducible rename Fr h₀ L _ _ => nF)
    exact white_out (st := ⟨cnt9, b9, n9, nt9⟩) hret nF nE hw hI9
end Mine

end

section
open PySem PySem.W PyProof.Rows
namespace Mine
theorem tup_at {h₀ h : Heap} {L tc : Addr} {vs : List Value} {news : List (Addr × Obj)} (N : News h₀ L h news) (hm : (tc, { cls := .type "tuple", data := .seq vs.toArray }) ∈ news) : IsTup h tc vs.toArray := ⟨_, (N _ hm).1, rfl, _, rfl⟩
noncomputable def ilS (z : Int) (cnt : List Int) (pre : List Int) : Int := (pre.map fun i => i.fdiv z * cnt.getD i.toNat 0).sum
theorem ilS_snoc (z : Int) (cnt pre : List Int) (i : Int) : ilS z cnt (pre ++ [i]) = ilS z cnt pre + i.fdiv z * cnt.getD i.toNat 0 := by
  simp [ilS]
local macro_rules | `(tactic| walk_at "call builtin:len") => `(tactic| (k_here; (with_reducible show wpAny _ _ (call (Value.builtin "len") [Value.ref _]) _ _ _); (with_reducible rename News _ _ _ _ => lN); (refine len_tuple (tup_at lN (by k_mem)) (by rw [List.size_toArray]; omega) ?_); (try simp only [List.size_toArray]); (try dsimp only); (try k_fold)))
theorem InvEndN_stop {h₀ : Heap} {L : Addr} {J : (Str → Option Value) → List (Addr × Obj) → Prop} {own : List (Addr × Obj)} {adr : List Addr} {s₁ s₂ : Shared} (h : InvEndN h₀ L J own adr s₁ s₂) : InvEndN h₀ L J own adr s₁ s₂ := h
theorem cnt_getD {cnt : List Int} (hc : ∀ e ∈ cnt, 0 ≤ e ∧ e ≤ 1000) (n : Nat) : 0 ≤ cnt.getD n 0 ∧ cnt.getD n 0 ≤ 1000 := by
  rw [List.getD_eq_getElem?_getD]
  cases e : cnt[n]? with
  | none => exact ⟨Int.le_refl 0, by decide⟩
  | some y => exact hc y (List.mem_of_getElem? e)
noncomputable def indentV (z : Int) (st : Ws) : Int := st.b + z * (ilS z st.cnt (rangeKs z (st.cnt.length - z).toNat) + st.nt)
theorem c_indent (w : World) (x d tn tc : Addr) (c : Str) (t : Tok) (st : Ws) (vs : List Value) (z : Int) (tz : Tok) (led news : List (Addr × Obj)) (hW : WhiteL w c t x d tn tc st vs led) (hI : IntsAre vs st.cnt) (hz : 1 ≤ z ∧ z ≤ 4) (hl : st.cnt.length < 1000) (hc : ∀ e ∈ st.cnt, 0 ≤ e ∧ e ≤ 1000) :
    CallsN w 4 69 [.ref x, .int z tz] (led ++ news) (fun r news' => (∃ t, r = .int (indentV z st) t) ∧ news' = led ++ news) := by
  unfold CallsN
  intro p loose mean mg mb dp un gd cn cs a ccd cl outer A₀ base h₀ L m s Q E B F X N T hk hd hu hret
  obtain ⟨t1, t2, t3, k0, k1, k2, k3, k4, v, rfl⟩ := hW
  unfold whiteD at N
  simp only [List.cons_append, List.nil_append] at N
  refine wpAny_call ?_
  k_dflt cell_enter
  have hvl := hI.length
  (repeat (fail_if_success (with_reducible show wpAny _ _ (pyIter _) _ _ _)); first | (k_unfold; (try dsimp only)) | walk1 | (dsimp only; walk1))
  (with_reducible rename Fr _ _ _ _ => lF)
  (with_reducible rename News _ _ _ _ => lN)
  (with_reducible rename IsRange _ _ _ _ _ _ _ _ => lR)
  refine kst_range (σ := Int × Tok) (n := (st.cnt.length - z).toNat) (fun _ => _) (fun st => [(Str.ofString "il", .int st.1 st.2)]) (fun _ => True) [] (fun pre il => il.1 = ilS z st.cnt pre ∧ 0 ≤ il.1 ∧ il.1 ≤ 1000000 * pre.length) (0, _)
    (by rfl) lR ?sm ?sz lF lN trivial (List.forall_mem_cons.mpr ⟨rfl, List.forall_mem_nil _⟩) ⟨rfl, Int.le_refl 0, Int.le_refl 0⟩ ?turn ?done
  case sm => exact small_one (by omega) (by omega) (by omega) (by omega)
  case sz => exact rangeSize_nat _ _
  case turn =>
    clear lF lN lR
    rintro ⟨il, ti⟩ pre k tk1 u h9 tk9 own hk9 hpl hOff - ⟨hil, hil0, hil1⟩ F9 N9
    dsimp only at hil hil0 hil1 F9 N9 ⊢
    (try k_fold)
    have hkl : k < st.cnt.length := by omega
    have hk0 : 1 ≤ k := by omega
    have hd0 : 0 ≤ k.fdiv z ∧ k.fdiv z ≤ 1000 := by
      rw [Int.fdiv_eq_ediv_of_nonneg _ (by omega)]
      exact ⟨Int.ediv_nonneg (by omega) (by omega), Int.le_trans (Int.ediv_le_self _ (by omega)) (by omega)⟩
    have hc0 := cnt_getD hc k.toNat
    have hm0 := Int.mul_nonneg hd0.1 hc0.1
    have hm1 : k.fdiv z * st.cnt.getD k.toNat 0 ≤ 1000 * 1000 := Int.mul_le_mul hd0.2 hc0.2 hc0.1 (by decide)
    (repeat (fail_if_success (with_reducible show wpAny _ _ (subscriptTail _ _ _ _) _ _ _)); first | (k_unfold; (try dsimp only)) | walk1 | (dsimp only; walk1))
    (with_reducible rename News _ _ _ _ => lN)
    (with_reducible rename IntsAre vs st.cnt => lI)
    refine item_tuple_ints (tup_at lN (.tail _ (.tail _ (.tail _ (.head _))))) lI (by omega) hkl (by omega) ?_
    intro t9
    (try dsimp only)
    repeat' (first | (k_unfold; (try dsimp only)) | (k_end; wrow_close) | ((fail_if_success (with_reducible refine InvEndN_stop ?_)); walk1) | ((fail_if_success (with_reducible refine InvEndN_stop ?_)); dsimp only; walk1) | (leave1; walk_say "STEP leave1"; (try dsimp only)) | fail "no step")
    (with_reducible rename News _ _ _ _ => nE)
    (with_reducible rename Fr _ _ _ _ => nF)
    refine ⟨_, _, _, _, _, rfl, nF, nE, fun p hp => List.mem_append_left _ hp, fun p hp => List.mem_append_right _ hp, rfl, (il + k.fdiv z * st.cnt.getD k.toNat 0, _), rfl, trivial, List.forall_mem_cons.mpr ⟨by with_unfolding_all rfl, List.forall_mem_nil _⟩, ?_, ?_⟩
    · intro z h1 h2 h3; simp only [List.forall_mem_cons, List.not_mem_nil, false_implies, implies_true, and_true, ne_eq] at h2; simp [h1, h2, kstB]
    · refine ⟨by rw [ilS_snoc, ← hil], by dsimp only; omega, ?_⟩
      dsimp only
      rw [List.length_append, List.length_cons, List.length_nil]
      omega
  case done =>
    clear lF lN lR
    rintro ⟨il, ti⟩ u h9 tk9 - ⟨hil, hil0, hil1⟩ F9 N9
    dsimp only at hil hil0 hil1 F9 N9 ⊢
    (try k_fold)
    have hrl : (rangeKs z (st.cnt.length - z).toNat).length ≤ 1000 := by rw [rangeKs_length]; omega
    (repeat (first | (k_unfold; (try dsimp only)) | walk1 | (dsimp only; walk1)))
    exact hret.out _ _ _ _ (by k_asm) (by k_asm) ⟨⟨_, by rw [hil]; rfl⟩, rfl⟩
end Mine

end

section
open PySem PySem.W PyProof.Rows
namespace Mine
noncomputable def codeN : Array Nat := #[14, 10, 4, 1, 1, 22, 0, 31, 16, 127, 0, 13, 7, 22, 0, 31, 16, 127, 0, 1]
noncomputable def codeV : Array Nat := #[14, 14, 4, 1, 1, 9, 4294966783, 0, 0, 2147483648, 0, 0, 0, 0, 0, 13, 11, 9, 4294966783, 0, 0, 2147483648, 0, 0, 0, 0, 0, 1]
/-- the code's first set takes none of these signs -/
noncomputable def NoneIn (code : Array Nat) (ok : Nat → Prop) : Prop := ∀ c, ok c → ∀ seen, ∃ seen', Sre.inSet code c code.size 5 true seen = .ok (false, seen')
noncomputable def okN (c : Nat) : Prop := 32 ≤ c ∧ c ≠ 127
noncomputable def okV (c : Nat) : Prop := c = 9 ∨ okN c
theorem noneN : NoneIn codeN okN := by
  intro c h seen
  have h1 : ¬ c ≤ 31 := by have := h.1; omega
  have h2 : (c == 127) = false := by simpa using h.2
  refine ⟨((seen.add 22).add 16).add 0, ?_⟩
  show Sre.inSet codeN c 20 5 true seen = _
  rw [Sre.inSet]
  show (if (decide (0 ≤ c) && decide (c ≤ 31)) = true then _ else Sre.inSet codeN c 19 8 true _) = _
  rw [if_neg (by simp [h1]), Sre.inSet]
  show (if (c == 127) = true then _ else Sre.inSet codeN c 18 10 true _) = _
  rw [if_neg (by simp [h2]), Sre.inSet]
  rfl
theorem bitsV (k : Nat) (hk : k < 256) (h : okV k) : (codeV.getD (5 + (1 + k / 32)) 0).testBit (k % 32) = false := by
  have : ∀ k : Fin 256, (k.1 = 9 ∨ (32 ≤ k.1 ∧ k.1 ≠ 127)) → (codeV.getD (5 + (1 + k.1 / 32)) 0).testBit (k.1 % 32) = false := by decide +kernel
  exact this ⟨k, hk⟩ h
theorem noneV : NoneIn codeV okV := by
  intro c h seen
  refine ⟨(seen.add 9).add 0, ?_⟩
  show Sre.inSet codeV c 28 5 true seen = _
  rw [Sre.inSet]
  show (if (decide (c < 256) && (codeV.getD (5 + (1 + c / 32)) 0).testBit (c % 32)) = true then _ else Sre.inSet codeV c 27 14 true _) = _
  rw [if_neg (by
    intro e
    rw [Bool.and_eq_true, decide_eq_true_eq] at e
    rw [bitsV c e.1 h] at e
    exact nomatch e.2), Sre.inSet]
  rfl
theorem admitted_none {m : Sre.M} {ok : Nat → Prop} (h : NoneIn m.code ok) (hl : ∀ s, s < m.lim → ok (m.text.getD s 0)) : ∀ fuel s seen, ∃ seen', Sre.M.admitted m fuel s seen = .ok (none, seen')
  | 0, _, seen => ⟨seen, by rw [Sre.M.admitted]⟩
  | fuel + 1, s, seen => by
    rw [Sre.M.admitted]
    by_cases hs : s ≥ m.lim
    · exact ⟨seen, by rw [if_pos hs]⟩
    · rw [if_neg hs]
      obtain ⟨seen', e⟩ := h _ (hl s (by omega)) seen
      rw [e]
      exact admitted_none h hl fuel (s + 1) seen'
theorem attempt_none {m : Sre.M} {ok : Nat → Prop} (hf : m.hasFirstSet = true) (h : NoneIn m.code ok) (hl : ∀ s, s < m.lim → ok (m.text.getD s 0)) (ha : m.frames = []) (ho : m.outcome = none) (s : Nat) (first : Bool) :
    (m.attemptFrom s first).answer = some false ∧ (m.attemptFrom s first).frames = [] ∧ (m.attemptFrom s first).outcome = none := by
  unfold Sre.M.attemptFrom
  rw [if_neg (by rw [hf]; decide)]
  obtain ⟨seen', e⟩ := admitted_none h hl (m.lim + 1 - s) s m.seen
  rw [e]
  exact ⟨rfl, ha, ho⟩
/-- a search over signs of which none is taken -/
theorem search_none {code text : Array Nat} {ok : Nat → Prop} (hc : code = codeN ∨ code = codeV) (h : NoneIn code ok) (ht : ∀ c ∈ text, ok c) :
    (Sre.forSearch code text 0 0 text.size false).answer = some false ∧ (Sre.forSearch code text 0 0 text.size false).frames = [] ∧ (Sre.forSearch code text 0 0 text.size false).outcome = none := by
  unfold Sre.forSearch
  dsimp only
  split
  · exact ⟨rfl, rfl, rfl⟩
  · refine attempt_none (ok := ok) (by rcases hc with rfl | rfl <;> rfl) h ?_ rfl rfl _ _
    intro s hs
    have hs' : s < text.size := hs
    show ok (text.getD s 0)
    have e : text.getD s 0 = text[s] := by simp [Array.getD, hs']
    rw [e]
    exact ht _ (Array.getElem_mem hs')
theorem run_none {m : Sre.M} (h : m.answer = some false ∧ m.frames = [] ∧ m.outcome = none) : (m.runFor 4).outcome = some .failed := by
  obtain ⟨h1, h2, h3⟩ := h
  have e : m.step = { m with outcome := some .failed } := by
    unfold Sre.M.step
    rw [if_neg (by rw [h3]; decide), h1, h2]
    rfl
  rw [Sre.M.runFor, if_neg (by rw [h3]; decide), e]
  rfl
section
open PySem.Builtin PySem.Builtin.Re
variable {prog : Program} {w : World} {A : Around} {E : Value → Shared → Prop} {s : Shared}
theorem slot_re_search : Slot "re.Pattern" "search" "re.Pattern.search" :=
  .of (owner := "re.Pattern") (n := "search") (by rw [typeLookup_type, builtinLookup_eq_fast]; kernel_rfl) (by decide +kernel) (by decide +kernel) (by decide +kernel)
    (by first | exact .inl (by decide +kernel) | exact .inr (by decide +kernel)) (by rw [isSubtype_type]; kernel_rfl)
theorem entry_re_search : entryFor table "re.Pattern.search" = some Builtin.«re.Pattern.search» := by first | exact entryFor_of_fast (by kernel_rfl) | exact entryFor_of_tree (by kernel_rfl)
theorem args_re_search (a b : Value) : argsOk "re.Pattern.search" ⟨[a, b], []⟩ := by unfold argsOk; kernel_rfl
theorem plainAttrs_re : PlainAttrs "re.Pattern" :=
  ⟨⟨"object.__getattribute__", by rw [typeLookup_type, builtinLookup_eq_fast]; kernel_rfl, by decide +kernel⟩, by rw [typeLookup_type, builtinLookup_eq_fast]; kernel_rfl⟩
theorem type_re_search : typeOf (.builtin "re.Pattern.search") = pure (.type "method_descriptor") := by show builtinType _ = _; rw [builtinType_eq_fast]; kernel_rfl
theorem get_search {P : Addr} {oP : Obj} {pl : Sem Bool} {Q : Value × List Value → Shared → Prop} (hP : s.heap.get? P = some oP) (hPc : oP.cls = .type "re.Pattern") (hPd : oP.dict = none) (h : Q (.builtin "re.Pattern.search", [.ref P]) s) :
    wpAny (model prog w) A (getMethod (.ref P) "search" pl) Q E s :=
  getMethod_builtin ⟨oP, hP, hPc⟩ plainAttrs_re slot_re_search type_re_search (fun a e => by cases e; exact ⟨oP, hP, hPd⟩) h
theorem rules_pass {p : Nat → Bool} {nm : Nat → String} {Q : PUnit → Shared → Prop} (l : List Nat) (h : Q ⟨⟩ s) :
    wpAny (model prog w) A (forIn l PUnit.unit fun i _ => do
      if p i then rule (nm i)
      pure (ForInStep.yield PUnit.unit)) Q E s := by
  refine wpAny_forIn_list _ (fun _ _ s' => s' = s) Q ?_ ?_ l _ rfl
  · rintro x rest b s' rfl
    cases hp : p x
    · simp only [Bool.false_eq_true, if_false]
      first | exact wpAny_pure rfl | exact wpAny_bind (wpAny_pure (wpAny_pure rfl))
    · simp only [if_true]
      exact wpAny_bind (wpAny_rule (wpAny_pure rfl))
  · rintro b s' rfl
    exact h
theorem runToEnd_none {m : Sre.M} {Q : Option Sre.M → Shared → Prop} (hm : m.answer = some false ∧ m.frames = [] ∧ m.outcome = none) (h : Q none s) : wpAny (model prog w) A (reRunToEnd m) Q E s := by
  have ho := run_none hm
  unfold reRunToEnd
  refine wpAny_bind ?_
  rw [show (2 ^ 64 : Nat) = 18446744073709551615 + 1 from rfl, reDrive]
  rw [show reTurnSteps = 4 from rfl, if_pos (by rw [ho]; rfl)]
  refine wpAny_pure ?_
  refine wpAny_bind ?_
  refine rules_pass _ ?_
  rw [ho]
  exact wpAny_pure h
theorem call_search {P C : Addr} {v : Str} {t : Tok} {code : Array Nat} {ok : Nat → Prop} {oP oC : Obj} {fs items : Array Value} {n : Nat} {Q : Value → Shared → Prop} (hP : s.heap.get? P = some oP) (hPc : oP.cls = .type "re.Pattern") (hPd : oP.data = .fields fs)
    (h2 : fs.getD 2 .none = .int 0 0) (h5 : fs.getD 5 .none = .ref C) (h6 : fs.getD 6 .none = .int 0 0) (hC : s.heap.get? C = some oC) (hCd : oC.data = .seq items n) (hCi : (items.map reRawOf).map (·.toNat) = code)
    (hc : code = codeN ∨ code = codeV) (hno : NoneIn code ok) (hv : ∀ c ∈ v.cps, ok c) (hl : v.cps.size < 2 ^ 63) (h : Q .none s) :
    wpAny (model prog w) A (call (.builtin "re.Pattern.search") [.ref P, .str v t]) Q E s := by
  refine wpAny_call_entry slot_re_search ⟨oP, hP, hPc⟩ entry_re_search ?_ (args_re_search _ _)
  unfold Builtin.«re.Pattern.search»
  refine wpAny_bind ?_
  unfold reTarget
  dsimp only
  refine wpAny_bind (wpAny_of_eq (a := [some (.str v t), none, none]) (by first | rfl | kernel_rfl!) ?_)
  dsimp only
  refine wpAny_bind (wpAny_pure ?_)
  refine wpAny_bind (wpAny_pure ?_)
  refine wpAny_bind (wpAny_fieldsOf hP hPd ?_)
  refine wpAny_bind ?_
  unfold reTextOf
  refine wpAny_bind (wpAny_pure ?_)
  dsimp only
  refine wpAny_pure ?_
  dsimp only
  rw [h6, h5, h2]
  rw [if_neg (by decide), if_neg (by decide)]
  refine wpAny_bind ?_
  unfold reNoCollectionInside
  rw [if_neg (by decide)]
  refine wpAny_pure ?_
  refine wpAny_bind ?_
  unfold reRawItems
  refine wpAny_bind (wpAny_seqItems hC hCd ?_)
  refine wpAny_pure ?_
  dsimp only [Option.getD_some]
  refine wpAny_pure ?_
  dsimp only
  have e1 : min (2 ^ 63 - 1 : Int).toNat v.cps.size = v.cps.size := by
    have : (2 ^ 63 - 1 : Int).toNat = 9223372036854775807 := by decide
    omega
  have e2 : min (Int.toNat 0) v.cps.size = 0 := Nat.zero_min _
  rw [hCi, e1, e2, show reRawNat (.int 0 0) = 0 from rfl]
  unfold reAnswer
  refine wpAny_bind (runToEnd_none (search_none hc hno hv) ?_)
  exact wpAny_pure ⟨_, rfl, h⟩
end
end Mine

end

section
open PySem PySem.W PyProof.Rows
namespace Mine
theorem headers_search_N {w : World} {A : Around} {E : Value → Shared → Prop} {s : Shared} {v : Str} {t : Tok} {Q : Value → Shared → Prop} (X : (kx w.params).In s.heap) (hv : ∀ c ∈ v.cps, okN c) (hl : v.cps.size < 2 ^ 63) (h : Q .none s) :
    wpAny (model pw w) A (call (.builtin "re.Pattern.search") [.ref 134, .str v t]) Q E s :=
  call_search (X 134 (o134v7 w.params) (by kernel_rfl)) rfl rfl rfl rfl rfl (X 133 (o133v7 w.params) (by kernel_rfl)) rfl (code := codeN) (by decide +kernel) (.inl rfl) noneN hv hl h
theorem headers_search_V {w : World} {A : Around} {E : Value → Shared → Prop} {s : Shared} {v : Str} {t : Tok} {Q : Value → Shared → Prop} (X : (kx w.params).In s.heap) (hv : ∀ c ∈ v.cps, okV c) (hl : v.cps.size < 2 ^ 63) (h : Q .none s) :
    wpAny (model pw w) A (call (.builtin "re.Pattern.search") [.ref 139, .str v t]) Q E s :=
  call_search (X 139 (o139v7 w.params) (by kernel_rfl)) rfl rfl rfl rfl rfl (X 138 (o138v7 w.params) (by kernel_rfl)) rfl (code := codeV) (by decide +kernel) (.inr rfl) noneV hv hl h
theorem headers_get_N {w : World} {A : Around} {E : Value → Shared → Prop} {s : Shared} {pl : Sem Bool} {Q : Value × List Value → Shared → Prop} (X : (kx w.params).In s.heap) (h : Q (.builtin "re.Pattern.search", [.ref 134]) s) :
    wpAny (model pw w) A (getMethod (.ref 134) (Str.ofString "search") pl) Q E s := get_search (X 134 (o134v7 w.params) (by kernel_rfl)) rfl rfl h
theorem headers_get_V {w : World} {A : Around} {E : Value → Shared → Prop} {s : Shared} {pl : Sem Bool} {Q : Value × List Value → Shared → Prop} (X : (kx w.params).In s.heap) (h : Q (.builtin "re.Pattern.search", [.ref 139]) s) :
    wpAny (model pw w) A (getMethod (.ref 139) (Str.ofString "search") pl) Q E s := get_search (X 139 (o139v7 w.params) (by kernel_rfl)) rfl rfl h
structure OkN (v : Str) : Prop where
  all : ∀ c ∈ v.cps, okN c
  len : v.cps.size < 1000
structure OkV (v : Str) : Prop where
  all : ∀ c ∈ v.cps, okV c
  len : v.cps.size < 1000
local macro_rules | `(tactic| walk_at "enterD") => `(tactic| (refine' code_def ?k1 ?k2 ?k3 ?k4 ?k5 ?kA ?kF ?kK ?k6 ?k7 ?k8 ?k9 ?kB ?_ ?c2 ?c3 ?c4 ?c5; (case kA => exact rfl); (case kF => exact rfl); (case kK => first | exact rfl | assumption); (case k1 => k_asm); (case k2 => k_asm); (case k3 => k_asm); (case k4 => k_asm); (case k5 => k_asm); (case k6 => k_is); (case k7 => k_is); (case k8 => ktr_room); (case k9 => first | exact BindsTo.of_eq rfl | exact binds_K (by k_in) rfl (by k_is) rfl rfl rfl); (case c5 => decide); (case kB => exact locs rfl); (case c2 => exact rfl); (case c3 => exact rfl); (case c4 => exact rfl); k_whole; intro g' L' h' FG' F' N' B' X' T'; (try dsimp only); (try k_lift B'); (try k_fold)))
local macro_rules | `(tactic| walk_at "call ref") => `(tactic| (k_here; refine wpAny_call ?_; k_dflt walk_at "enterD"))
local macro_rules | `(tactic| walk_at "call builtin:re.Pattern.search") => `(tactic| (k_here; (with_reducible rename Fr _ _ _ _ => lF); k_dflt (first | (refine headers_search_N (Frag.In.keeps (K := kx _) (by k_asm) (Fr.keep lF)) (OkN.all (by assumption)) (Nat.lt_trans (OkN.len (by assumption)) (by decide)) ?_) | (refine headers_search_V (Frag.In.keeps (K := kx _) (by k_asm) (Fr.keep lF)) (OkV.all (by assumption)) (Nat.lt_trans (OkV.len (by assumption)) (by decide)) ?_))))
theorem OkN.low {v : Str} (h : OkN v) : v.length ≤ 5592405 := by
  have := h.len
  have e : v.length = v.cps.size := rfl
  omega
local macro_rules | `(tactic| walk_at "call builtin:str.lower") => `(tactic| (k_here; (try dsimp only); (with_reducible show wpAny _ _ (call (Value.builtin "str.lower") [Value.str _ _]) _ _ _); (refine SCL.lower (OkN.low (by with_reducible assumption)) ?_); intro _; (try dsimp only)))
local macro_rules | `(tactic| walk_at "getMethod ref") => `(tactic| (k_here; (with_reducible rename Fr _ _ _ _ => lF); k_dflt (first | (refine headers_get_N (Frag.In.keeps (K := kx _) (by k_asm) (Fr.keep lF)) ?_) | (refine headers_get_V (Frag.In.keeps (K := kx _) (by k_asm) (Fr.keep lF)) ?_)); (try dsimp only)))
/-- a header in the ledger -/
structure HdrAt (news : List (Addr × Obj)) (v : Value) (h : Str × Str) : Prop where
  at_ : ∃ a tk tv, v = .ref a ∧ (a, { cls := .type "tuple", data := .seq #[.str h.1 tk, .str h.2 tv] }) ∈ news
  ok : OkN h.1
noncomputable def hget (hs : List (Str × Str)) (m : Str) : Option Str := (hs.find? fun h => Txt.lower h.1 == m).map (·.2)
structure HgP (hs : List (Str × Str)) (m : Str) (i : Nat) : Prop where
  out : hget hs m = hget (hs.drop i) m
theorem News.dup {h₀ h : Heap} {L : Addr} {p : Addr × Obj} {news : List (Addr × Obj)} (N : News h₀ L h news) (hp : p ∈ news) : News h₀ L h (p :: news) := fun q hq => by
  rcases List.mem_cons.mp hq with rfl | hq
  · exact N _ hp
  · exact N _ hq
theorem All2.get {α β : Type} {R : α → β → Prop} : ∀ {as : List α} {bs : List β}, All2 R as bs → ∀ {i : Nat} {a : α}, as[i]? = some a → ∃ b, bs[i]? = some b ∧ R a b
  | _, _, .nil, i, a, h => by simp at h
  | _, _, .cons h t, 0, a, e => by simp at e; subst e; exact ⟨_, rfl, h⟩
  | _, _, .cons h t, i + 1, a, e => by simpa using t.get (i := i) (by simpa using e)
theorem hgP_next {hs : List (Str × Str)} {m : Str} {i : Nat} {h : Str × Str} (p : HgP hs m i) (hi : hs[i]? = some h) (hne : (Txt.lower h.1 == m) = false) : HgP hs m (i + 1) := by
  refine ⟨p.out.trans ?_⟩
  have e : hs.drop i = h :: hs.drop (i + 1) := by
    have := List.getElem?_eq_some_iff.mp hi
    obtain ⟨hl, he⟩ := this
    rw [← he]
    exact List.drop_eq_getElem_cons hl
  rw [e, hget, List.find?_cons_of_neg (by simp [hne])]
  rfl
theorem hgP_hit {hs : List (Str × Str)} {m : Str} {i : Nat} {h : Str × Str} (p : HgP hs m i) (hi : hs[i]? = some h) (he : (Txt.lower h.1 == m) = true) : hget hs m = some h.2 := by
  rw [p.out]
  have e : hs.drop i = h :: hs.drop (i + 1) := by
    obtain ⟨hl, he⟩ := List.getElem?_eq_some_iff.mp hi
    rw [← he]
    exact List.drop_eq_getElem_cons hl
  rw [e, hget, List.find?_cons_of_pos (by simpa using he)]
  rfl
theorem hgP_end {hs : List (Str × Str)} {m : Str} (p : HgP hs m hs.length) : hget hs m = none := by
  rw [p.out, List.drop_length]
  rfl
noncomputable def hgR (hs : List (Str × Str)) (m : Str) (r : Value) : Prop := match hget hs m with
  | some v => ∃ t, r = .str v t
  | none => r = .none
theorem c_get (w : World) (x d l : Addr) (n : Str) (t1 k0 : Tok) (vs : List Value) (hs : List (Str × Str)) (ep : Nat) (news : List (Addr × Obj)) (hn : OkN n) (hn' : OkN (Txt.lower n)) (hh : All2 (HdrAt news) vs hs) :
    CallsN w 4 209 [.ref x, .str n t1] ((x, instObj 262 d) :: (d, dictOf [{ hash := PyData.keyHash w.params (Str.ofString "_headers"), key := .str (Str.ofString "_headers") k0, val := .ref l }] 1) :: (l, W.listOf vs.toArray ep) :: news)
      (fun r news' => hgR hs (Txt.lower n) r ∧ news' = ((x, instObj 262 d) :: (d, dictOf [{ hash := PyData.keyHash w.params (Str.ofString "_headers"), key := .str (Str.ofString "_headers") k0, val := .ref l }] 1) :: (l, W.listOf vs.toArray ep) :: news)) := by
  unfold CallsN
  intro p loose mean mg mb dp un gd cn cs a ccd cl outer A₀ base h₀ L m s Q E B F X N T hk hd hu hret
  refine wpAny_call ?_
  k_dflt walk_at "enterD"
  (repeat (fail_if_success (with_reducible show wpAny _ _ (exec (Stmt.For _ _ _ _ _) _) _ _ _)); first | (k_unfold; (try dsimp only)) | walk1 | (dsimp only; walk1))
  (with_reducible rename Fr _ _ _ _ => lF)
  k_dflt (refine For_turns lF ?_)
  (repeat (fail_if_success (with_reducible show wpAny _ _ (pyIter _) _ _ _)); first | (k_unfold; (try dsimp only)) | walk1 | (dsimp only; walk1))
  (with_reducible rename Fr _ _ _ _ => lF)
  (with_reducible rename News _ _ _ _ => lN)
  refine tl_list (σ := Unit) (vs := vs) (fun _ => _) (fun _ => []) (fun _ => True) [Str.ofString "k", Str.ofString "v"] (fun i _ => HgP hs (Txt.lower n) i) () (by rfl) lF lN (fun _ _ => .tail _ (.tail _ (.head _))) trivial (List.forall_mem_nil _) ⟨rfl⟩ ?turn ?done
  case turn =>
    clear lF lN
    rintro _ i v u h9 tk9 I9 o9 hv hoc - hP F9 N9
    have hoc2 := hoc
    obtain ⟨b, hb, ⟨ah, tkh, tvh, rfl, hmem⟩, hok⟩ := hh.get hv
    have N8 := News.dup N9 (.tail _ (.tail _ (.tail _ (.tail _ hmem))))
    clear N9
    dsimp only at F9 N8 ⊢
    (try k_fold)
    repeat' (first | (k_unfold; (try dsimp only)) | (k_end; wrow_close) | ((fail_if_success (with_reducible refine UnrEndW_stop ?_)); walk1) | ((fail_if_success (with_reducible refine UnrEndW_stop ?_)); dsimp only; walk1) | (leave1; walk_say "STEP leave1"; (try dsimp only)) | fail "no step")
    · (with_reducible rename (_ == Txt.lower n) = true => ha)
      (with_reducible rename News h₀ L _ _ => nE)
      exact hret.out _ _ _ _ (by k_asm) (fun q hq => nE q (.tail _ (.tail _ hq))) ⟨by unfold hgR; rw [hgP_hit hP hb ha]; exact ⟨_, rfl⟩, rfl⟩
    · (with_reducible rename (_ == Txt.lower n) = false => ha)
      (with_reducible rename News _ _ _ _ => nE)
      (with_reducible rename Fr _ _ _ _ => nF)
      exact tl_end () nF nE (fun q hq => .tail _ hq) (List.forall_mem_singleton.mpr hoc) (List.forall_mem_nil _)
        (by intro z h1 h2; simp only [List.contains_cons, List.contains_nil, Bool.or_false, Bool.or_eq_false_iff, beq_eq_false_iff_ne, ne_eq] at h2; simp [h2, kstB]) trivial (hgP_next hP hb ha)
  case done =>
    clear lF lN
    rintro _ u h9 tk9 - hP F9 N9
    dsimp only at F9 N9 ⊢
    (try k_fold)
    (repeat (first | (k_unfold; (try dsimp only)) | walk1 | (dsimp only; walk1)))
    have hlen := hh.length
    rw [hlen] at hP
    exact hret.out _ _ _ _ (by k_asm) (by k_asm) ⟨by unfold hgR; rw [hgP_end hP], rfl⟩
end Mine

end

section
open PySem PySem.W PyProof.Rows
namespace Mine
noncomputable def hdrD (w : World) (l : Addr) (k0 : Tok) : Obj := dictOf [{ hash := PyData.keyHash w.params (Str.ofString "_headers"), key := .str (Str.ofString "_headers") k0, val := .ref l }] 1
noncomputable def hdrL (w : World) (x d l : Addr) (k0 : Tok) (vs : List Value) (ep : Nat) : List (Addr × Obj) := [(x, instObj 262 d), (d, hdrD w l k0), (l, W.listOf vs.toArray ep)]
local macro_rules | `(tactic| walk_at "enterD") => `(tactic| (refine' code_def ?k1 ?k2 ?k3 ?k4 ?k5 ?kA ?kF ?kK ?k6 ?k7 ?k8 ?k9 ?kB ?_ ?c2 ?c3 ?c4 ?c5; (case kA => exact rfl); (case kF => exact rfl); (case kK => first | exact rfl | assumption); (case k1 => k_asm); (case k2 => k_asm); (case k3 => k_asm); (case k4 => k_asm); (case k5 => k_asm); (case k6 => k_is); (case k7 => k_is); (case k8 => ktr_room); (case k9 => first | exact BindsTo.of_eq rfl | exact binds_K (by k_in) rfl (by k_is) rfl rfl rfl); (case c5 => decide); (case kB => exact locs rfl); (case c2 => exact rfl); (case c3 => exact rfl); (case c4 => exact rfl); k_whole; intro g' L' h' FG' F' N' B' X' T'; (try dsimp only); (try k_lift B'); (try k_fold)))
local macro_rules | `(tactic| walk_at "call ref") => `(tactic| (k_here; refine wpAny_call ?_; k_dflt walk_at "enterD"))
local macro_rules | `(tactic| k_all) => `(tactic| exact Off.out (by with_reducible assumption))
local macro_rules | `(tactic| walk_at "call builtin:re.Pattern.search") => `(tactic| (k_here; (with_reducible rename Fr _ _ _ _ => lF); k_dflt (first | (refine headers_search_N (Frag.In.keeps (K := kx _) (by k_asm) (Fr.keep lF)) (OkN.all (by assumption)) (Nat.lt_trans (OkN.len (by assumption)) (by decide)) ?_) | (refine headers_search_V (Frag.In.keeps (K := kx _) (by k_asm) (Fr.keep lF)) (OkV.all (by assumption)) (Nat.lt_trans (OkV.len (by assumption)) (by decide)) ?_))))
local macro_rules | `(tactic| walk_at "getMethod ref") => `(tactic| (k_here; (with_reducible rename Fr _ _ _ _ => lF); k_dflt (first | (refine headers_get_N (Frag.In.keeps (K := kx _) (by k_asm) (Fr.keep lF)) ?_) | (refine headers_get_V (Frag.In.keeps (K := kx _) (by k_asm) (Fr.keep lF)) ?_)); (try dsimp only)))
theorem hdr_led {h₀ h : Heap} {L : Addr} {a x d l : Addr × Obj} {news : List (Addr × Obj)} (N : News h₀ L h (a :: x :: d :: l :: news)) : News h₀ L h ([x, d, l] ++ a :: news) := by
  intro p hp
  refine N p ?_
  rcases List.mem_append.mp hp with hp | hp
  · rcases List.mem_cons.mp hp with rfl | hp
    · exact .tail _ (.head _)
    rcases List.mem_cons.mp hp with rfl | hp
    · exact .tail _ (.tail _ (.head _))
    obtain rfl := List.mem_singleton.mp hp
    exact .tail _ (.tail _ (.tail _ (.head _)))
  · rcases List.mem_cons.mp hp with rfl | hp
    · exact .head _
    · exact .tail _ (.tail _ (.tail _ (.tail _ hp)))
theorem c_setdef (w : World) (x d l : Addr) (n c : Str) (t1 t2 k0 : Tok) (vs : List Value) (hs : List (Str × Str)) (ep : Nat) (news : List (Addr × Obj)) (hn : OkN n) (hn' : OkN (Txt.lower n)) (hc : OkV c) (hh : All2 (HdrAt news) vs hs) (hxl : @Ne Nat x l) (hdl : @Ne Nat d l) (hol : Off l news) (hvl : vs.length ≤ 100) :
    CallsN w 6 252 [.ref x, .str n t1, .str c t2] (hdrL w x d l k0 vs ep ++ news) (fun r news' => (∃ v, hget hs (Txt.lower n) = some v ∧ (∃ t, r = .str v t) ∧ news' = hdrL w x d l k0 vs ep ++ news) ∨ (hget hs (Txt.lower n) = none ∧ ∃ a t t' t'', @Ne Nat a l ∧ r = .str c t ∧ news' = hdrL w x d l k0 (vs ++ [.ref a]) (ep + 1) ++ ((a, { cls := .type "tuple", data := .seq #[.str n t', .str c t''] }) :: news))) := by
  unfold CallsN
  intro p loose mean mg mb dp un gd cn cs a ccd cl outer A₀ base h₀ L m s Q E B F X N T hk hd hu hret
  unfold hdrL hdrD at N
  simp only [List.cons_append, List.nil_append] at N
  refine wpAny_call ?_
  k_dflt walk_at "enterD"
  (repeat (fail_if_success (with_reducible show wpAny _ _ (call (Value.ref 209) _) _ _ _)); first | (k_unfold; (try dsimp only)) | walk1 | (dsimp only; walk1))
  k_dflt (refine CallsN.use (c_get w x d l n t1 k0 vs hs ep news hn hn' hh) (by k_asm) (by k_asm) (by k_asm) (by k_asm) (by k_asm) (by first | exact rfl | assumption) (by ktr_room) (by ktr_units) ?_)
  rintro r9 h9 tk9 nw9 F9 N9 ⟨hr9, rfl⟩
  (try dsimp only)
  (try k_fold)
  unfold hgR at hr9
  cases hg : hget hs (Txt.lower n) with
  | some v =>
    rw [hg] at hr9
    obtain ⟨t9, rfl⟩ := hr9
    (repeat (first | (k_unfold; (try dsimp only)) | walk1 | (dsimp only; walk1)))
    exact hret.out _ _ _ _ (by k_asm) (by k_asm) (.inl ⟨v, hg, ⟨_, rfl⟩, rfl⟩)
  | none =>
    rw [hg] at hr9
    obtain rfl : r9 = .none := hr9
    (repeat (first | (k_unfold; (try dsimp only)) | walk1 | (dsimp only; walk1)))
    (with_reducible rename News h₀ L _ _ => nE)
    simp only [List.push_toArray] at nE
    have hne := news_ne nE (.head _) (.tail _ (.tail _ (.tail _ (.head _)))) (fun e => by have := congrArg Obj.cls e; simp at this)
    exact hret.out _ _ _ _ (by k_asm) (hdr_led nE) (.inr ⟨hg, _, _, _, _, hne, rfl, rfl⟩)
end Mine

end

section
open PySem PySem.W PyProof.Rows
namespace Mine
/-- what a turn of a comprehension's clause does: take, assign, act -/
noncomputable def GcTurn (e : PySem.Expr) (d : Nat) (p : Pos) (target : PySem.Expr) (it acc : Value) (env : Env) (act : Sem Fin → Sem Fin) : Prop :=
  compTurn e d it acc env = (standAt p >>= fun _ => pyNext it >>= fun r => match r with
      | none => pure (.done .next)
      | some v => letOwnedTupleGo target it v >>= fun _ => assign target env v >>= fun _ => act (again (.compLoop e d it acc env)))
theorem fr_wr {h₀ h h' : Heap} {L : Addr} {m : Str → Option Value} {wr : List Addr} (F : Fr h₀ L h m) (k : ∀ b o, b ∉ wr → h.get? b = some o → h'.get? b = some o) (hL : L ∉ wr) (hw : ∀ b ∈ wr, h₀.get? b = none) : Fr h₀ L h' m := by
  obtain ⟨o, es, ep, e, r⟩ := F.ns
  refine ⟨⟨o, es, ep, k _ _ hL e, r⟩, fun b ob q => k _ _ (fun hb => ?_) (F.keep b ob q), F.above⟩
  rw [hw b hb] at q
  exact nomatch q
theorem news_wr {h₀ h h' : Heap} {L : Addr} {nx : List (Addr × Obj)} {wr : List Addr} (N : News h₀ L h nx) (k : ∀ b o, b ∉ wr → h.get? b = some o → h'.get? b = some o) (ha : ∀ p ∈ nx, p.1 ∉ wr) : News h₀ L h' nx := fun p hp => ⟨k _ _ (ha p hp) (N p hp).1, (N p hp).2⟩
section
variable {prog : Program} {w : World} {A : Around} {E : Value → Shared → Prop} {s : Shared} {h₀ : Heap} {L : Addr} {m : Str → Option Value}
/-- where a turn of a comprehension's clause must end -/
noncomputable def GcEnd (h₀ : Heap) (L : Addr) (m : Str → Option Value) (ws : List (Addr × String)) (keep its : List (Addr × Obj)) (K : List (Addr × Obj) → Prop) (s₁ s₂ : Shared) : Prop :=
  ∃ h' tk nx, s₂ = { s₁ with heap := h', toks := tk } ∧ Fr h₀ L h' m ∧ News h₀ L h' (its ++ nx) ∧ (∀ p ∈ nx, p.1 ∉ ws.map (·.1)) ∧ SubL keep nx ∧ K nx
/-- the act, whatever follows it -/
noncomputable def GcAct (prog : Program) (w : World) (A : Around) (act : Sem Fin → Sem Fin) (T : Shared → Prop) (E : Value → Shared → Prop) (s : Shared) : Prop :=
  ∀ (k : Sem Fin) (Q : Fin → Shared → Prop), (∀ s', T s' → wpAny (model prog w) A k Q E s') → wpAny (model prog w) A (act k) Q E s
theorem gc_loop {elt : PySem.Expr} {gens : List Comprehension} {scope : Scope} {pos p : Pos} {d : Nat} {target : PySem.Expr} {I : Addr} {acc : Value} {cenv : Env} {act : Sem Fin → Sem Fin} {R : Result → Shared → Prop} {fp wr : List Addr} {n : Nat} {P Md : Nat → Value → Heap → Prop} {St : Nat → Heap → Prop}
    (hT : GcTurn (.ListComp elt gens scope pos) d p target (.ref I) acc cenv act) (W : KTurns prog w A target I fp wr n P Md St) (ws : List (Addr × String)) (keep : List (Addr × Obj))
    (hobj : ∀ i h, St i h → ∃ its, Objs ws its ∧ ∀ q ∈ its, h.get? q.1 = some q.2) (hws : ∀ b ∈ ws.map (·.1), h₀.get? b = none ∧ b ≠ L) (hwr : ∀ b ∈ wr, b ∈ ws.map (·.1)) (hfp : ∀ b ∈ fp, b ∈ ws.map (·.1) ∨ ∃ o, (b, o) ∈ keep)
    (K : Nat → List (Addr × Obj) → Prop) {nx₀ : List (Addr × Obj)} (hst : St 0 s.heap) (F : Fr h₀ L s.heap m) (N : News h₀ L s.heap nx₀) (hap : ∀ q ∈ nx₀, q.1 ∉ ws.map (·.1)) (hkp : SubL keep nx₀) (hK : K 0 nx₀)
    (turn : ∀ i v nx its h tk, i < n → P i v h → K i nx → Objs ws its → (∀ q ∈ nx, q.1 ∉ ws.map (·.1)) → SubL keep nx → Fr h₀ L h m → News h₀ L h (its ++ nx) →
      wpAny (model prog w) A (assign target cenv v) (fun _ s₂ => GcAct prog w A act (GcEnd h₀ L m ws keep its (K (i + 1)) { s with heap := h, toks := tk }) (notedBy (model prog w) A cenv fun e s' => R (.error e) s') s₂) (notedBy (model prog w) A cenv fun e s' => R (.error e) s') { s with heap := h, toks := tk })
    (done : ∀ h tk nx, K n nx → Fr h₀ L h m → News h₀ L h nx → (∀ q ∈ nx, q.1 ∉ ws.map (·.1)) → R (.ok .next) { s with heap := h, toks := tk }) :
    codeAny (model prog w) A (.compLoop (.ListComp elt gens scope pos) d (.ref I) acc cenv) R s := by
  have hLw : L ∉ wr := fun h => (hws _ (hwr _ h)).2 rfl
  have hw0 : ∀ b ∈ wr, h₀.get? b = none := fun b hb => (hws _ (hwr _ hb)).1
  refine codeAny_loop rfl (fun k s' => ∃ i h' tk nx, s' = { s with heap := h', toks := tk } ∧ i ≤ n ∧ k = n + 1 - i ∧ St i h' ∧ Fr h₀ L h' m ∧ News h₀ L h' nx ∧ (∀ q ∈ nx, q.1 ∉ ws.map (·.1)) ∧ SubL keep nx ∧ K i nx) ?_ (n + 1)
    ⟨0, s.heap, s.toks, nx₀, rfl, Nat.zero_le _, rfl, hst, F, N, hap, hkp, hK⟩
  rintro k s' ⟨i, h', tk, nx, rfl, hi, rfl, st, F', N', ap, hk, hKi⟩
  show wpAny _ A ((compTurn (.ListComp elt gens scope pos) d (.ref I) acc cenv).onRaise (fun x => do noteFrame x cenv; theTreesLotGoes x)) _ _ _
  refine wpAny_noted ?_
  rw [hT]
  refine wpAny_bind (wpAny_standAt (wpAny_bind ?_))
  by_cases hlt : i < n
  · refine W.item i _ _ _ hlt st fun v h₂ tk₂ hMd hk₂ => ?_
    dsimp only
    refine wpAny_bind (W.go i v _ _ _ hMd fun h₃ hP st₃ hk₃ => ?_)
    obtain ⟨its, hits, hval⟩ := hobj (i + 1) h₃ st₃
    have ap' : ∀ q ∈ nx, q.1 ∉ wr := fun q hq h => ap q hq (hwr _ h)
    have F₃ : Fr h₀ L h₃ m := fr_wr (fr_wr F' hk₂ hLw hw0) hk₃ hLw hw0
    have Nx₃ : News h₀ L h₃ nx := news_wr (news_wr N' hk₂ ap') hk₃ ap'
    have N₃ : News h₀ L h₃ (its ++ nx) := fun q hq => by
      rcases List.mem_append.mp hq with hq | hq
      · have hb : q.1 ∈ ws.map (·.1) := by rw [← hits.map]; exact List.mem_map.mpr ⟨q, hq, rfl⟩
        exact ⟨hval q hq, (hws _ hb).2, (hws _ hb).1⟩
      · exact Nx₃ q hq
    refine wpAny_bind (wpAny_mono (turn i v nx its h₃ tk₂ hlt hP hKi hits ap hk F₃ N₃) (fun _ s₂ h => h _ _ fun s₃ hE => ?_) fun _ _ e => e)
    obtain ⟨h₄, tk₄, nx₄, rfl, F₄, N₄, ap₄, hk₄, hK₄⟩ := hE
    have st₄ : St (i + 1) h₄ := W.frame _ _ _ st₃ fun b hb o e => by
      rcases hfp b hb with h1 | ⟨o', h1⟩
      · have h2 : b ∈ its.map (·.1) := by rw [hits.map]; exact h1
        obtain ⟨q, hq, rfl⟩ := List.mem_map.mp h2
        have e1 := hval q hq
        rw [e] at e1
        rw [Option.some.inj e1]
        exact (N₄ q (List.mem_append_left _ hq)).1
      · have e1 := (Nx₃ _ (hk.mem _ h1)).1
        rw [e] at e1
        rw [Option.some.inj e1]
        exact (N₄ _ (List.mem_append_right _ (hk₄.mem _ h1))).1
    exact wpAny_pure ⟨rfl, n + 1 - (i + 1), by omega, i + 1, h₄, tk₄, nx₄, rfl, hlt, rfl, st₄, F₄, fun q hq => N₄ q (List.mem_append_right _ hq), ap₄, hk₄, hK₄⟩
  · obtain rfl : i = n := Nat.le_antisymm hi (Nat.not_lt.mp hlt)
    refine W.done _ _ _ st fun h₂ tk₂ hk₂ => ?_
    exact wpAny_pure (done h₂ tk₂ nx hKi (fr_wr F' hk₂ hLw hw0) (news_wr N' hk₂ fun q hq h => ap q hq (hwr _ h)) ap)
end
theorem gt_one (elt target iter : PySem.Expr) (scope : Scope) (pos : Pos) (it acc : Value) (env : Env) :
    GcTurn (.ListComp elt [⟨target, iter, [], 0⟩] scope pos) 0 iter.pos target it acc env (fun k => (eval elt env >>= fun x => call (.builtin "list.append") [acc, x] >>= fun _ => pure ()) >>= fun _ => k) := compTurn_list1 elt target iter scope pos it acc env
theorem gt_out (elt t1 i1 t2 i2 : PySem.Expr) (scope : Scope) (pos : Pos) (it acc : Value) (env : Env) :
    GcTurn (.ListComp elt [⟨t1, i1, [], 0⟩, ⟨t2, i2, [], 0⟩] scope pos) 0 i1.pos t1 it acc env (fun k => eval i2 env >>= fun x => standAt i2.pos >>= fun _ => foldedSetIterable i2 env x >>= fun x => holding [x] (pyIter x) >>= fun it2 => runOwn (.compStart (.ListComp elt [⟨t1, i1, [], 0⟩, ⟨t2, i2, [], 0⟩] scope pos) 1 it2 acc env) env >>= fun _ => k) := by rfl
theorem gt_in (elt t1 i1 t2 i2 : PySem.Expr) (scope : Scope) (pos : Pos) (it acc : Value) (env : Env) :
    GcTurn (.ListComp elt [⟨t1, i1, [], 0⟩, ⟨t2, i2, [], 0⟩] scope pos) 1 i2.pos t2 it acc env (fun k => (eval elt env >>= fun x => call (.builtin "list.append") [acc, x] >>= fun _ => pure ()) >>= fun _ => k) := by rfl
end Mine

end

section
open PySem PySem.W PyProof.Rows
namespace Mine
section
variable {prog : Program} {w : World} {A : Around} {E : Value → Shared → Prop} {s : Shared}
theorem tn_item {it l : Addr} {i : Nat} {items : Array Value} {x : Value} {Q : Value → Shared → Prop} (hit : s.heap.IsTupleIter it l i) (hl : s.heap.IsTuple l items) (hx : items[i]? = some x)
    (hQ : ∀ h', h'.IsTupleIter it l (i + 1) → Heap.SameBut it s.heap h' → Q x { s with heap := h' }) : wpAny (model prog w) A (Builtin.SmallTypes.nextOf (.ref it)) Q E s := by
  obtain ⟨o, ho, hc, hd⟩ := id hit
  obtain ⟨ol, hol, _, nl, hdl⟩ := hl
  unfold Builtin.SmallTypes.nextOf
  refine wpAny_bind (wpAny_callSpecial?_slot (name := Str.ofString "__next__") hit.typeIs F.slot_tuple_iterator_next
    (wpAny_call_entry F.slot_tuple_iterator_next hit.typeIs F.entry_tuple_iterator_next ?_ (F.args_tuple_iterator_next_1 _)))
  show wpAny _ _ (field (.ref it) 0 >>= _) _ _ s
  refine wpAny_bind (wpAny_field ho hd (x := .ref l) rfl ?_)
  show wpAny _ _ (if (Value.ref l == Value.none) = true then _ else _) _ _ s
  rw [if_neg (show ¬ ((Value.ref l == Value.none) = true) from Bool.false_ne_true)]
  show wpAny _ _ (field (.ref it) 1 >>= _) _ _ s
  refine wpAny_bind (wpAny_field ho hd (x := .int i 0) rfl ?_)
  show wpAny _ _ (seqItems? (.ref l) >>= _) _ _ s
  refine wpAny_bind (wpAny_seqItems hol hdl ?_)
  simp only [Int.toNat_natCast, hx]
  refine wpAny_bind (wpAny_setField ho hd (by simp) (wpAny_pure ⟨_, rfl, wpAny_pure (hQ _ ?_ (Heap.SameBut.update ..))⟩))
  exact ⟨_, Heap.get?_update_self _ ho (Obj.isFreed_of_fields (Obj.data_mapFields hd _)), (Obj.cls_mapFields ..).trans hc, by
    rw [Obj.data_mapFields hd]; simp [rawInt]⟩
theorem tn_end {it l : Addr} {i : Nat} {items : Array Value} {Q : Value → Shared → Prop} (hh : A.handled = none) (hit : s.heap.IsTupleIter it l i) (hl : s.heap.IsTuple l items) (hx : items[i]? = none)
    (hE : ∀ h' e, Heap.ExtBut it s.heap h' → (∃ o, h'.get? e = some o ∧ o.cls = .type "StopIteration") → E (.ref e) { s with heap := h' }) : wpAny (model prog w) A (Builtin.SmallTypes.nextOf (.ref it)) Q E s := by
  obtain ⟨o, ho, hc, hd⟩ := id hit
  obtain ⟨ol, hol, _, nl, hdl⟩ := hl
  unfold Builtin.SmallTypes.nextOf
  refine wpAny_bind (wpAny_callSpecial?_slot (name := Str.ofString "__next__") hit.typeIs F.slot_tuple_iterator_next
    (wpAny_call_entry F.slot_tuple_iterator_next hit.typeIs F.entry_tuple_iterator_next ?_ (F.args_tuple_iterator_next_1 _)))
  show wpAny _ _ (field (.ref it) 0 >>= _) _ _ s
  refine wpAny_bind (wpAny_field ho hd (x := .ref l) rfl ?_)
  show wpAny _ _ (if (Value.ref l == Value.none) = true then _ else _) _ _ s
  rw [if_neg (show ¬ ((Value.ref l == Value.none) = true) from Bool.false_ne_true)]
  show wpAny _ _ (field (.ref it) 1 >>= _) _ _ s
  refine wpAny_bind (wpAny_field ho hd (x := .int i 0) rfl ?_)
  show wpAny _ _ (seqItems? (.ref l) >>= _) _ _ s
  refine wpAny_bind (wpAny_seqItems hol hdl ?_)
  simp only [Int.toNat_natCast, hx]
  refine wpAny_bind (wpAny_rule (wpAny_bind (wpAny_setField ho hd (by simp) ?_)))
  show wpAny _ _ (newExc (.type "StopIteration") [] >>= _) _ _ _
  refine wpAny_bind ?_
  simp only [newExc, newTuple]
  refine wpAny_bind (wpAny_newObj_type ?_ (by size_fits))
  refine wpAny_bind (m := firstArgMember _ _) (wpAny_of_eq (a := Value.none) (by first | rfl | (simp only [firstArgMember]; rfl)) ?_)
  refine wpAny_newObj_type ?_ (by size_fits)
  simp only [raiseNew]
  refine wpAny_bind (wpAny_handled ?_)
  first | rw [show A.in1.handled = none from hh] | rw [hh]
  refine wpAny_bind (wpAny_pure (wpAny_throw ?_))
  exact hE _ _ (((Heap.SameBut.update ..).extBut.push _).push _) ⟨_, Heap.get?_push_size _ rfl, rfl⟩
end
theorem draws_tuple {prog : Program} {w : World} {A : Around} (hh : A.handled = none) (it l : Addr) (hne : l ≠ it) (items : Array Value) :
    Draws prog w A it [it, l] items.size (fun i v => items[i]? = some v) (fun i h => h.IsTupleIter it l i ∧ h.IsTuple l items) where
  live := fun _ _ st => let ⟨o, ho, _⟩ := st.1; ⟨o, ho⟩
  frame := fun _ _ _ st hk => ⟨st.1.at fun o e => hk it (by simp) o e, st.2.at fun o e => hk l (by simp) o e⟩
  item := fun i s Q E hi st hQ => by
    refine tn_item st.1 st.2 (x := items[i]) (by simp [hi]) fun h' hit' hs' => ?_
    exact hQ _ h' s.toks (by simp [hi]) ⟨hit', st.2.extBut hs'.extBut hne⟩ hs'
  done := fun s Q E st hE => tn_end hh st.1 st.2 (by simp) hE
open AutoSeq1 (wpAny_loadPart') in
theorem enum_newT (l : Addr) (items : Array Value) (n : Nat) (dct : Option Addr) (sl : Array (Option Value)) :
    Meets (Builtin.«enumerate.__new__» ⟨[.type "enumerate", .ref l], []⟩) (fun _ R s => s.heap.get? l = some { cls := .type "tuple", dict := dct, data := .seq items n, slots := sl } ∧
      R (.ok (.ret (.ref (s.heap.push { cls := .type "tuple_iterator", data := .fields #[.ref l, .int 0 0] }).objs.size)))
        { s with heap := (s.heap.push { cls := .type "tuple_iterator", data := .fields #[.ref l, .int 0 0] }).push { cls := .type "enumerate", data := .fields #[.none, .bool false, .ref s.heap.objs.size, rawInt 0, .none, .none] } }) :=
  .of_wp fun prog w A R s h => by
    obtain ⟨hp, g, d, tk, os⟩ := s; obtain ⟨hl, h⟩ := h
    have hsub := sub_enumerate
    have hL : Heap.IsTuple (Shared.heap ⟨hp, g, d, tk, os⟩) l items := ⟨_, hl, rfl, n, rfl⟩
    wp_walk using wpAny_loadPart' hl
    refine wpAny_stack_any fun st => wpAny_pure ?_
    split
    · rename_i c _ _ _ _ _
      cases (c == Value.type "enumerate")
      · wp_walk using wpAny_loadPart' hl, wpAny_pyIter_tuple hL
        exact ⟨_, rfl, h⟩
      · wp_walk using wpAny_loadPart' hl, wpAny_pyIter_tuple hL
        exact ⟨_, rfl, h⟩
    · wp_walk using wpAny_loadPart' hl, wpAny_pyIter_tuple hL
      exact ⟨_, rfl, h⟩
theorem call_enumT {prog : Program} {w : World} {A : Around} {E : Value → Shared → Prop} {s : Shared} {l : Addr} {items : Array Value} {Q : Value → Shared → Prop} (hL : s.heap.IsTuple l items)
    (h : ∀ h', IsEnum h' (s.heap.objs.size + 1) s.heap.objs.size 0 .none → h'.IsTupleIter s.heap.objs.size l 0 → h'.objs.size = s.heap.objs.size + 2 →
      (∀ b o, s.heap.get? b = some o → h'.get? b = some o) → Q (.ref (s.heap.objs.size + 1)) { s with heap := h' }) :
    wpAny (model prog w) A (call (.type "enumerate") [.ref l]) Q E s := by
  obtain ⟨⟨c, dct, dt, sl⟩, hl, hc, n, hd⟩ := hL
  replace hc : c = .type "tuple" := hc
  replace hd : dt = .seq items n := hd
  subst hc hd
  refine callType_new F.called_enumerate (by decide) (F.typeCall_enumerate_1 _) (F.newCall_enumerate_1 _) (fun obj => F.args_object_init_2 obj _) F.entry_enumerate_new
    (enum_newT l items n dct sl) ⟨hl, ?_⟩
  have hz : (s.heap.push { cls := .type "tuple_iterator", data := .fields #[.ref l, .int 0 0] }).objs.size = s.heap.objs.size + 1 := Heap.size_push ..
  show _ ∧ _
  rw [hz]
  have he : IsEnum ((s.heap.push { cls := .type "tuple_iterator", data := .fields #[.ref l, .int 0 0] }).push
      { cls := .type "enumerate", data := .fields #[.none, .bool false, .ref s.heap.objs.size, rawInt 0, .none, .none] }) (s.heap.objs.size + 1) s.heap.objs.size 0 .none := by
    have := Heap.get?_push_size (s.heap.push { cls := .type "tuple_iterator", data := .fields #[.ref l, .int 0 0] })
      (o := { cls := .type "enumerate", data := .fields #[.none, .bool false, .ref s.heap.objs.size, rawInt 0, .none, .none] }) rfl
    rw [hz] at this; exact this
  refine ⟨⟨_, he, rfl⟩, h _ he ⟨_, Heap.get?_push_of_some _ (Heap.get?_push_size _ rfl), rfl, rfl⟩ (by rw [Heap.size_push, hz]) fun b o x => Heap.get?_push_of_some _ (Heap.get?_push_of_some _ x)⟩
end Mine

end

section
open PySem PySem.W PyProof.Rows
namespace Mine
section
variable {prog : Program} {w : World} {A : Around} {E : Value → Shared → Prop} {s : Shared} {h₀ : Heap} {L : Addr} {m : Str → Option Value} {env : Env}
theorem gc_comp {elt target iter : PySem.Expr} {rest : List Comprehension} {scope : Scope} {cl : List (Str × Addr)} {pos : Pos} {Q : Value → Shared → Prop}
    (hclos : closureFor scope env = pure cl) (hcell : ∀ y ∈ scope.names, y.2 ≠ .cell) (hkind : scope.kind = .function) (hnames : ∀ y ∈ scope.names, y.2 = .local → scope.names.lookup y.1 = some .local)
    (h : wpAny (model prog w) A (eval iter env) (fun xv s₁ => wpAny (model prog w) A (pyIter xv) (fun it s₂ => ∃ I news, it = .ref I ∧ Fr h₀ L s₂.heap m ∧ News h₀ L s₂.heap news ∧
      (∀ h tk (Q : Value → Shared → Prop) (E : Value → Shared → Prop), (∀ b o, s₂.heap.get? b = some o → h.get? b = some o) → Q (.ref I) { s₂ with heap := h, toks := tk } → wpAny (model prog w) A (pyIter (.ref I)) Q E { s₂ with heap := h, toks := tk }) ∧
      ∀ D C oC mC h₁ tk, D = s₂.heap.objs.size → C = D + 1 → (∀ b o, s₂.heap.get? b = some o → h₁.get? b = some o) → LCg.NsObj oC mC → Fr h₀ L h₁ m → News h₀ L h₁ ((C, oC) :: (D, LCg.lst []) :: news) →
        codeAny (model prog w) A (.compLoop (.ListComp elt (⟨target, iter, [], 0⟩ :: rest) scope pos) 0 (.ref I) (.ref D) (compEnvC scope cl C env)) (compPost (model prog w) A E none Q (.ref D) C) { s₂ with heap := h₁, toks := tk }) E s₁) E s)
    (hs : ∀ x, foldedSetIterable iter env x = pure x := by intro _; rfl) :
    wpAny (model prog w) A (eval (.ListComp elt (⟨target, iter, [], 0⟩ :: rest) scope pos) env) Q E s := by
  rw [eval_ListComp]
  refine wpAny_comprehension_free (use := none) rfl hs hclos hkind hnames (wpAny_mono h (fun xv s₁ h₁ => wpAny_mono h₁ (fun it s₂ h₂ => ?_) fun _ _ e => e) fun _ _ e => e)
  obtain ⟨I, news, rfl, F, N, self, R⟩ := h₂
  refine wpAny_newObj_type (wpAny_newFunctionEnv hcell (by intro y hy; simp at hy) (fun h₁ hns₁ hsb₁ => ?_) hkind)
  dsimp only at hns₁ hsb₁ ⊢
  generalize hH2 : s₂.heap.push { cls := .type "list", dict := none, data := .seq ([] : List Value).toArray } = H2 at hns₁ hsb₁ ⊢
  have hC : H2.objs.size = s₂.heap.objs.size + 1 := by rw [← hH2, Heap.size_push]
  have hDC : s₂.heap.objs.size ≠ H2.objs.size := by rw [hC]; exact Nat.ne_of_lt (Nat.lt_succ_self _)
  have old : ∀ b o, s₂.heap.get? b = some o → h₁.get? b = some o := fun b o e => hsb₁.extBut b o (by rw [hC]; exact Nat.ne_of_lt (Nat.lt_succ_of_lt (Heap.lt_size e))) (Heap.get?_push_of_some _ (hH2 ▸ Heap.get?_push_of_some _ e))
  have hacc : h₁.get? s₂.heap.objs.size = some (LCg.lst []) := hsb₁.extBut _ _ hDC (Heap.get?_push_of_some _ (hH2 ▸ Heap.get?_push_size _ rfl))
  have fresh₀ : ∀ a, s₂.heap.objs.size ≤ a → h₀.get? a = none := fun a ha => by
    cases e : h₀.get? a with
    | none => rfl
    | some o' => exact absurd (Heap.lt_size (F.keep a o' e)) (Nat.not_lt.mpr ha)
  have hLlt : L < s₂.heap.objs.size := F.ns.lt
  obtain ⟨oC, heC, hoC⟩ := LCg.ns_obj hns₁
  have N₁ : News h₀ L h₁ ((H2.objs.size, oC) :: (s₂.heap.objs.size, LCg.lst []) :: news) := fun p hp => by
    rcases List.mem_cons.mp hp with rfl | hp
    · exact ⟨heC, by rw [hC]; exact Nat.ne_of_gt (Nat.lt_succ_of_lt hLlt), fresh₀ _ (by rw [hC]; exact Nat.le_succ _)⟩
    rcases List.mem_cons.mp hp with rfl | hp
    · exact ⟨hacc, Nat.ne_of_gt hLlt, fresh₀ _ (Nat.le_refl _)⟩
    · exact ⟨old _ _ (N p hp).1, (N p hp).2⟩
  have loop := fun tk => R s₂.heap.objs.size H2.objs.size oC _ h₁ tk rfl hC old hoC (F.keeps old) N₁
  exact codeAny_compStart_list (loop _) (self h₁ _ _ _ old (loop _))
theorem gc_fin {C D : Addr} {oC : Obj} {mC : Str → Option Value} {ys : List Value} {nx : List (Addr × Obj)} {Q : Value → Shared → Prop} {h : Heap} {tk : Nat} (F : Fr h₀ L h m) (N : News h₀ L h ((C, oC) :: (D, LCg.lst ys) :: nx)) (hC : LCg.NsObj oC mC) (off : Off C ((D, LCg.lst ys) :: nx))
    (k : ∀ h', Fr h₀ L h' m → News h₀ L h' ((D, LCg.lst ys) :: nx) → Q (.ref D) { s with heap := h', toks := tk }) : compPost (model prog w) A E none Q (.ref D) C (.ok .next) { s with heap := h, toks := tk } := by
  have z := N (C, oC) (.head _)
  exact ⟨mC, hC.ns z.1, fun h' hs => k h' (F.change hs z.2.1 z.2.2) fun p hp => ⟨hs.extBut _ _ (off p hp) (N p (.tail _ hp)).1, (N p (.tail _ hp)).2⟩⟩
theorem gc_assign1 {x : Str} {px : Pos} {v : Value} {scope : Scope} {cl : List (Str × Addr)} {C : Addr} {oC : Obj} {mC : Str → Option Value} {pre post : List (Addr × Obj)} {Q : Unit → Shared → Prop} (hkind : scope.kind = .function) (hx : scope.names.lookup x = some .local) (F : Fr h₀ L s.heap m) (N : News h₀ L s.heap (pre ++ (C, oC) :: post)) (hC : LCg.NsObj oC mC) (h1 : Off C pre) (h2 : Off C post)
    (k : ∀ h' tk oC', LCg.NsObj oC' (fun y => if y = x then some v else mC y) → Fr h₀ L h' m → News h₀ L h' (pre ++ (C, oC') :: post) → Q () { s with heap := h', toks := tk }) :
    wpAny (model prog w) A (assign (.Name x px) (compEnvC scope cl C env) v) Q E s := by
  have z := N (C, oC) (List.mem_append_right _ (.head _))
  refine wpAny_assign_Name (wpAny_storeName_local (lookup_relabel_local hx) (hC.ns z.1) (fun h' hn hs => ?_) (by simp [compEnvC, relabel, hkind]))
  obtain ⟨oC', ho', hC'⟩ := LCg.ns_obj hn
  exact k h' _ oC' hC' (F.change hs z.2.1 z.2.2) (N.setIn h1 h2 hs ho')
theorem gc_assign2 {x x₂ : Str} {px px₂ tp : Pos} {kk : Nat} {t : Addr} {v₁ v₂ : Value} {scope : Scope} {cl : List (Str × Addr)} {C : Addr} {oC : Obj} {mC : Str → Option Value} {pre post : List (Addr × Obj)} {Q : Unit → Shared → Prop} (hh : A.handled = none) (hkind : scope.kind = .function) (hx : scope.names.lookup x = some .local) (hx₂ : scope.names.lookup x₂ = some .local)
    (ht : IsTup s.heap t #[v₁, v₂]) (F : Fr h₀ L s.heap m) (N : News h₀ L s.heap (pre ++ (C, oC) :: post)) (hC : LCg.NsObj oC mC) (h1 : Off C pre) (h2 : Off C post)
    (k : ∀ h' tk oC', LCg.NsObj oC' (fun y => if y = x₂ then some v₂ else if y = x then some v₁ else mC y) → Fr h₀ L h' m → News h₀ L h' (pre ++ (C, oC') :: post) → Q () { s with heap := h', toks := tk }) :
    wpAny (model prog w) A (assign (.Tuple [.Name x px, .Name x₂ px₂] kk tp) (compEnvC scope cl C env) (.ref t)) Q E s := by
  refine assign_Tuple_tuple hh ht rfl rfl fun h₅ he => ?_
  have he' : ∀ b o, s.heap.get? b = some o → h₅.get? b = some o := fun b o e => he b o (Nat.ne_of_lt (Heap.lt_size e)) e
  have F₅ := F.keeps he'
  have N₅ : News h₀ L h₅ (pre ++ (C, oC) :: post) := fun p hp => ⟨he' _ _ (N p hp).1, (N p hp).2⟩
  refine assignInOrder_cons (gc_assign1 (s := { s with heap := h₅ }) hkind hx F₅ N₅ hC h1 h2 fun h₆ tk₆ o₆ hC₆ F₆ N₆ => ?_)
  refine assignInOrder_cons (gc_assign1 (s := { s with heap := h₆, toks := tk₆ }) hkind hx₂ F₆ N₆ hC₆ h1 h2 fun h₇ tk₇ o₇ hC₇ F₇ N₇ => ?_)
  exact assignInOrder_nil (k h₇ tk₇ o₇ hC₇ F₇ N₇)
theorem gc_emit {elt : PySem.Expr} {cenv : Env} {D : Addr} {T : Shared → Prop} {E' : Value → Shared → Prop} (h : wpAny (model prog w) A (eval elt cenv) (fun y s₄ => wpAny (model prog w) A (call (.builtin "list.append") [.ref D, y]) (fun _ s₅ => T s₅) E' s₄) E' s) :
    GcAct prog w A (fun k => (eval elt cenv >>= fun x => call (.builtin "list.append") [.ref D, x] >>= fun _ => pure ()) >>= fun _ => k) T E' s := fun _ _ hk =>
  wpAny_bind (wpAny_bind (wpAny_mono h (fun _ _ h₄ => wpAny_bind (wpAny_mono h₄ (fun _ _ h₅ => wpAny_pure (hk _ h₅)) fun _ _ e => e)) fun _ _ e => e))
theorem gc_append {D : Addr} {ys : List Value} {y : Value} {pre post : List (Addr × Obj)} {Q : Value → Shared → Prop} (F : Fr h₀ L s.heap m) (N : News h₀ L s.heap (pre ++ (D, LCg.lst ys) :: post)) (h1 : Off D pre) (h2 : Off D post) (hsz : ys.length ≤ sizeLine)
    (k : ∀ h', Fr h₀ L h' m → News h₀ L h' (pre ++ (D, LCg.lst (ys ++ [y])) :: post) → Q .none { s with heap := h' }) : wpAny (model prog w) A (call (.builtin "list.append") [.ref D, y]) Q E s := by
  have z := N (D, LCg.lst ys) (List.mem_append_right _ (.head _))
  refine append_at (hsz := by rw [List.size_toArray]; exact hsz) z.1 fun h' hs hD => ?_
  exact k h' (F.change hs z.2.1 z.2.2) (N.setIn h1 h2 hs (hD.trans (congrArg some (LCg.lst_snoc ys y))))
end
/-- y is a tuple of these two ints, in the ledger -/
noncomputable def PairIn (tl : List (Addr × Obj)) (y : Value) (p : Int × Int) : Prop := ∃ a t1 t2, y = .ref a ∧ (a, ({ cls := .type "tuple", data := .seq #[.int p.1 t1, .int p.2 t2] } : Obj)) ∈ tl
theorem PairIn.mono {tl tl' : List (Addr × Obj)} {y : Value} {p : Int × Int} (h : PairIn tl y p) (k : ∀ q ∈ tl, q ∈ tl') : PairIn tl' y p := by
  obtain ⟨a, t1, t2, e, hm⟩ := h
  exact ⟨a, t1, t2, e, k _ hm⟩
noncomputable def rowN (i : Nat) : Nat → List (Int × Int)
  | 0 => []
  | j + 1 => rowN i j ++ [(0 + (i : Int), 0 + (j : Int))]
noncomputable def nestN (n2 : Nat) : Nat → List (Int × Int)
  | 0 => []
  | i + 1 => nestN n2 i ++ rowN i n2
section
variable {prog : Program} {w : World} {A : Around} {E : Value → Shared → Prop} {s : Shared} {h₀ : Heap} {L : Addr} {m : Str → Option Value} {env : Env}
theorem gc_start1 {elt t1 i1 t2 i2 : PySem.Expr} {scope : Scope} {pos : Pos} {it acc : Value} {R : Result → Shared → Prop}
    (h0 : codeAny (model prog w) A (.compLoop (.ListComp elt [⟨t1, i1, [], 0⟩, ⟨t2, i2, [], 0⟩] scope pos) 1 it acc env) R s)
    (h : wpAny (model prog w) A (pyIter it) (fun it' s' => codeAny (model prog w) A (.compLoop (.ListComp elt [⟨t1, i1, [], 0⟩, ⟨t2, i2, [], 0⟩] scope pos) 1 it' acc env) R s') (notedBy (model prog w) A env fun x s' => R (.error x) s') s) :
    codeAny (model prog w) A (.compStart (.ListComp elt [⟨t1, i1, [], 0⟩, ⟨t2, i2, [], 0⟩] scope pos) 1 it acc env) R s := by
  refine codeAny_of_tree ?_
  show wpAny _ _ ((compStart (.ListComp elt [⟨t1, i1, [], 0⟩, ⟨t2, i2, [], 0⟩] scope pos) 1 it acc env).onRaise (fun x => do noteFrame x env; standAt theWindowsPlace)) _ _ s
  refine wpAny_notedAt ?_
  unfold compStart
  show wpAny _ _ (ask >>= _) _ _ s
  refine wpAny_bind (wpAny_askSetting (wpAny_ite ?_))
  split
  · first
      | exact wpAny_bind (wpAny_pure (wpAny_pure (And.intro rfl h0)))
      | exact wpAny_pure (And.intro rfl h0)
  · first
      | exact wpAny_bind (wpAny_rule (wpAny_bind (wpAny_standAt (wpAny_bind (wpAny_mono h (fun it' s' h' => wpAny_pure (And.intro rfl h')) fun _ _ x => x)))))
      | (refine wpAny_bind (wpAny_rule ?_); show wpAny _ _ (standAt i2.pos >>= _) _ _ s; exact wpAny_bind (wpAny_standAt (wpAny_bind (wpAny_mono h (fun it' s' h' => wpAny_pure (And.intro rfl h')) fun _ _ x => x))))
theorem gc_range {elt : PySem.Expr} {gens : List Comprehension} {scope : Scope} {pos p : Pos} {d : Nat} {x : Str} {px : Pos} {I : Addr} {acc : Value} {cenv : Env} {act : Sem Fin → Sem Fin} {R : Result → Shared → Prop} {a : Int} {n : Nat} (hh : A.handled = none)
    (hT : GcTurn (.ListComp elt gens scope pos) d p (.Name x px) (.ref I) acc cenv act) (h0 : h₀.get? I = none) (hL : I ≠ L)
    (K : Nat → List (Addr × Obj) → Prop) {nx₀ : List (Addr × Obj)} (hst : IsRangeIter s.heap I a (n : Int) 1) (F : Fr h₀ L s.heap m) (N : News h₀ L s.heap nx₀) (hap : Off I nx₀) (hK : K 0 nx₀)
    (turn : ∀ i t nx o h tk, i < n → K i nx → Off I nx → Fr h₀ L h m → News h₀ L h ((I, o) :: nx) →
      wpAny (model prog w) A (assign (.Name x px) cenv (.int (a + (i : Int)) t)) (fun _ s₂ => GcAct prog w A act (GcEnd h₀ L m [(I, "range_iterator")] [] [(I, o)] (K (i + 1)) { s with heap := h, toks := tk }) (notedBy (model prog w) A cenv fun e s' => R (.error e) s') s₂) (notedBy (model prog w) A cenv fun e s' => R (.error e) s') { s with heap := h, toks := tk })
    (done : ∀ h tk nx, K n nx → Fr h₀ L h m → News h₀ L h nx → Off I nx → R (.ok .next) { s with heap := h, toks := tk }) :
    codeAny (model prog w) A (.compLoop (.ListComp elt gens scope pos) d (.ref I) acc cenv) R s := by
  have W : Walks prog w A I [I] [I] n (fun i v => i < n ∧ ∃ t, v = .int (a + i * 1) t) (fun i h => IsRangeIter h I (a + (i : Nat) * 1) ((n : Int) - (i : Nat)) 1) := (Walks.range hh _ a 1 n).bound
  have one : ∀ {nx : List (Addr × Obj)}, Off I nx → ∀ q ∈ nx, q.1 ∉ [(I, "range_iterator")].map (·.1) := fun h q hq hm => h q hq (by simpa using hm)
  have eno : ∀ {nx : List (Addr × Obj)}, (∀ q ∈ nx, q.1 ∉ [(I, "range_iterator")].map (·.1)) → Off I nx := fun h q hq e => h q hq (by simp [e])
  refine gc_loop hT (KTurns.ofWalks W fun i v s Q E _ q => wpAny_of_eq (a := ()) rfl q) [(I, "range_iterator")] [] (fun i h st => ⟨[(I, _)], ⟨⟨rfl, rfl⟩, trivial⟩, fun q hq => by rw [List.mem_singleton.mp hq]; exact st⟩)
    (fun b hb => (show b = I by simpa using hb) ▸ ⟨h0, hL⟩) (fun b hb => by simpa using hb) (fun b hb => .inl (by simpa using hb)) K (by show IsRangeIter _ _ _ _ _; simpa using hst) F N (one hap) trivial hK ?_ ?_
  · rintro i v nx its h tk hi ⟨-, t, rfl⟩ hKi hits ap - F' N'
    obtain ⟨q, rfl⟩ : ∃ q, its = [q] := by
      cases its with
      | nil => exact hits.elim
      | cons q r =>
        cases r with
        | nil => exact ⟨q, rfl⟩
        | cons _ _ => exact hits.2.elim
    have e1 : q.1 = I := hits.1.1
    obtain ⟨qa, qo⟩ := q
    obtain rfl : qa = I := e1
    rw [Int.mul_one]
    exact turn i t nx qo h tk hi hKi (eno ap) F' N'
  · intro h tk nx hKn F' N' ap
    exact done h tk nx hKn F' N' (eno ap)
end
end Mine

end

section
open PySem PySem.W PyProof.Rows
namespace Mine
theorem rowN_len (i : Nat) : ∀ j, (rowN i j).length = j
  | 0 => rfl
  | j + 1 => by rw [rowN, List.length_append, rowN_len i j]; rfl
theorem nestN_len (n2 : Nat) : ∀ i, (nestN n2 i).length = i * n2
  | 0 => by rw [nestN, Nat.zero_mul]; rfl
  | i + 1 => by rw [nestN, List.length_append, nestN_len n2 i, rowN_len, Nat.succ_mul]
theorem Off.cons {d : Addr} {p : Addr × Obj} {l : List (Addr × Obj)} (h : p.1 ≠ d) (k : Off d l) : Off d (p :: l) := fun q hq => by
  rcases List.mem_cons.mp hq with rfl | hq
  · exact h
  · exact k q hq
theorem Off.tail {d : Addr} {p : Addr × Obj} {l : List (Addr × Obj)} (h : Off d (p :: l)) : Off d l := fun q hq => h q (.tail _ hq)
theorem off_nil {d : Addr} : Off d [] := fun _ h => nomatch h
section
variable (prog : Program) (w : World) (A : Around) (h₀ : Heap) (L : Addr) (m : Str → Option Value) (s : Shared)
/-- the second clause's range, evaluated -/
noncomputable def NestIt (n2 : Nat) (led : List (Addr × Obj)) (xv : Value) (s' : Shared) : Prop :=
  ∃ h' tk' r t u v b, s' = { s with heap := h', toks := tk' } ∧ xv = .ref r ∧ IsRange h' r 0 b 1 t u v ∧ Builtin.Range.small 0 b 1 = true ∧ Builtin.Range.rangeSize 0 b 1 = (n2 : Int) ∧ Fr h₀ L h' m ∧ News h₀ L h' led
/-- the element, a new tuple -/
noncomputable def NestEl (k1 k2 : Int) (I2 I1 C D : Addr) (led : List (Addr × Obj)) (y : Value) (s' : Shared) : Prop :=
  ∃ h' tk' T t t', s' = { s with heap := h', toks := tk' } ∧ y = .ref T ∧ Fr h₀ L h' m ∧ News h₀ L h' ((T, { cls := .type "tuple", data := .seq #[.int k1 t, .int k2 t'] }) :: led) ∧ T ≠ I2 ∧ T ≠ I1 ∧ T ≠ C ∧ T ≠ D
end
section
variable {prog : Program} {w : World} {A : Around} {E : Value → Shared → Prop} {s : Shared} {h₀ : Heap} {L : Addr} {m : Str → Option Value} {env : Env}
theorem gc_nest {elt i1 i2 : PySem.Expr} {x1 x2 : Str} {p1 p2 : Pos} {scope : Scope} {cl : List (Str × Addr)} {pos : Pos} {Q : Value → Shared → Prop} {pre : List (Addr × Obj)} {n1 n2 : Nat} (hh : A.handled = none)
    (hclos : closureFor scope env = pure cl) (hcell : ∀ y ∈ scope.names, y.2 ≠ .cell) (hkind : scope.kind = .function) (hnames : ∀ y ∈ scope.names, y.2 = .local → scope.names.lookup y.1 = some .local) (hx1 : scope.names.lookup x1 = some .local) (hx2 : scope.names.lookup x2 = some .local) (hxx : x1 ≠ x2) (hz : n1 * n2 ≤ 10000)
    (h : wpAny (model prog w) A (eval i1 env) (NestIt h₀ L m s n1 pre) E s)
    (hs1 : ∀ x, foldedSetIterable i1 env x = pure x) (hs2 : ∀ C x, foldedSetIterable i2 (compEnvC scope cl C env) x = pure x)
    (it2 : ∀ k1 t1 C oC mC D ys tl I1 o1 h tk (E' : Value → Shared → Prop), LCg.NsObj oC mC → mC x1 = some (.int k1 t1) → Fr h₀ L h m → News h₀ L h ((I1, o1) :: (C, oC) :: (D, LCg.lst ys) :: (pre ++ tl)) →
      wpAny (model prog w) A (eval i2 (compEnvC scope cl C env)) (NestIt h₀ L m s n2 ((I1, o1) :: (C, oC) :: (D, LCg.lst ys) :: (pre ++ tl))) E' { s with heap := h, toks := tk })
    (el : ∀ k1 t1 k2 t2 C oC mC D ys tl I1 o1 I2 o2 h tk (E' : Value → Shared → Prop), LCg.NsObj oC mC → mC x1 = some (.int k1 t1) → mC x2 = some (.int k2 t2) → Fr h₀ L h m → News h₀ L h ((I2, o2) :: (I1, o1) :: (C, oC) :: (D, LCg.lst ys) :: (pre ++ tl)) →
      wpAny (model prog w) A (eval elt (compEnvC scope cl C env)) (NestEl h₀ L m s k1 k2 I2 I1 C D ((I2, o2) :: (I1, o1) :: (C, oC) :: (D, LCg.lst ys) :: (pre ++ tl))) E' { s with heap := h, toks := tk })
    (fin : ∀ D ys tl h tk, All2 (PairIn tl) ys (nestN n2 n1) → Fr h₀ L h m → News h₀ L h ((D, LCg.lst ys) :: (pre ++ tl)) → Q (.ref D) { s with heap := h, toks := tk }) :
    wpAny (model prog w) A (eval (.ListComp elt [⟨.Name x1 p1, i1, [], 0⟩, ⟨.Name x2 p2, i2, [], 0⟩] scope pos) env) Q E s := by
  refine gc_comp (h₀ := h₀) (L := L) (m := m) hclos hcell hkind hnames (wpAny_mono h (fun xv s₁ h₁ => ?_) fun _ _ e => e) hs1
  obtain ⟨ha, ta, r, t, u, v, b, rfl, rfl, hr, hsm, hn, F, N⟩ := h₁
  refine wpAny_pyIter_range hr hsm ?_
  have hLlt : L < ha.objs.size := F.ns.lt
  have hp : ∀ q ∈ pre, q.1 < ha.objs.size := fun q hq => Heap.lt_size (N q hq).1
  have fr0 : ∀ a, ha.objs.size ≤ a → h₀.get? a = none := fun a hle => by
    cases e : h₀.get? a with
    | none => rfl
    | some o' => exact absurd (Heap.lt_size (F.keep a o' e)) (Nat.not_lt.mpr hle)
  have up : ∀ (o : Obj) b ob, ha.get? b = some ob → (ha.push o).get? b = some ob := fun o b ob e => Heap.get?_push_of_some _ e
  have hit0 : IsRangeIter (ha.push { cls := .type "range_iterator", data := .fields #[rawInt 0, rawInt (Builtin.Range.rangeSize 0 b 1), rawInt 1] }) ha.objs.size 0 (n1 : Int) 1 := by
    rw [hn]; exact Heap.get?_push_size _ rfl
  refine ⟨ha.objs.size, pre, rfl, F.keeps (up _), fun q hq => ⟨up _ _ _ (N q hq).1, (N q hq).2⟩, fun h tk Q' E' old q => wpAny_pyIter_rangeiter (x := 0) (left := (n1 : Int)) (step := 1) (old _ _ hit0) q, ?_⟩
  intro D C oC mC h₁ tk hD hC old hoC F₁ N₁
  have hD : D = ha.objs.size + 1 := hD.trans (Heap.size_push ..)
  have hDlt : ha.objs.size < D := by omega
  have hClt : D < C := by omega
  refine gc_range hh (gt_out elt (.Name x1 p1) i1 (.Name x2 p2) i2 scope pos _ _ _) (fr0 _ (Nat.le_refl _)) (Nat.ne_of_gt hLlt)
    (fun i nx => ∃ oC mC ys tl, nx = (C, oC) :: (D, LCg.lst ys) :: (pre ++ tl) ∧ LCg.NsObj oC mC ∧ All2 (PairIn tl) ys (nestN n2 i) ∧ Off C ((D, LCg.lst ys) :: (pre ++ tl)) ∧ Off D (pre ++ tl)) (old _ _ hit0) F₁ N₁ ?ap
    ⟨oC, mC, [], [], by rw [List.append_nil], hoC, .nil, Off.cons (Nat.ne_of_lt hClt) fun q hq => Nat.ne_of_lt (Nat.lt_trans (hp q (by simpa using hq)) (Nat.lt_trans hDlt hClt)), fun q hq => Nat.ne_of_lt (Nat.lt_trans (hp q (by simpa using hq)) hDlt)⟩ ?turn ?done
  case ap => exact Off.cons (Nat.ne_of_gt (Nat.lt_trans hDlt hClt)) (Off.cons (Nat.ne_of_gt hDlt) fun q hq => Nat.ne_of_lt (hp q hq))
  case done =>
    rintro h tk nx ⟨oC, mC, ys, tl, rfl, hoC, hA, oCo, oDo⟩ F' N' -
    exact gc_fin F' N' hoC oCo fun h' F'' N'' => fin D ys tl h' tk hA F'' N''
  case turn =>
    rintro i t nx o h tk hi ⟨oC, mC, ys, tl, rfl, hoC, hA, oCo, oDo⟩ hoI F' N'
    have hIC : ha.objs.size ≠ C := Nat.ne_of_lt (Nat.lt_trans hDlt hClt)
    refine gc_assign1 (s := { s with heap := h, toks := tk }) (pre := [(ha.objs.size, o)]) hkind hx1 F' N' hoC (Off.cons hIC off_nil) oCo fun h₂ tk₂ oC₂ hC₂ F₂ N₂ => ?_
    intro k Qk hk
    refine wpAny_bind (wpAny_mono (it2 (0 + (i : Int)) t C oC₂ _ D ys tl ha.objs.size o h₂ tk₂ _ hC₂ (by simp) F₂ N₂) (fun xv s₃ h₃ => ?_) fun _ _ e => e)
    obtain ⟨h₃, tk₃, r2, t2', u2, v2, b2, rfl, rfl, hr2, hsm2, hn2, F₃, N₃⟩ := h₃
    refine wpAny_bind (wpAny_standAt ?_)
    refine wpAny_bind (wpAny_of_eq (hs2 C _) ?_)
    refine wpAny_bind (wpAny_holding (wpAny_pyIter_range hr2 hsm2 ?_))
    have hit2 : IsRangeIter (h₃.push { cls := .type "range_iterator", data := .fields #[rawInt 0, rawInt (Builtin.Range.rangeSize 0 b2 1), rawInt 1] }) h₃.objs.size 0 (n2 : Int) 1 := by
      rw [hn2]; exact Heap.get?_push_size _ rfl
    have lt3 : ∀ q ∈ (ha.objs.size, o) :: (C, oC₂) :: (D, LCg.lst ys) :: (pre ++ tl), q.1 < h₃.objs.size := fun q hq => Heap.lt_size (N₃ q hq).1
    have F₄ : Fr h₀ L (h₃.push { cls := .type "range_iterator", data := .fields #[rawInt 0, rawInt (Builtin.Range.rangeSize 0 b2 1), rawInt 1] }) m := F₃.push _
    have N₄ : News h₀ L (h₃.push { cls := .type "range_iterator", data := .fields #[rawInt 0, rawInt (Builtin.Range.rangeSize 0 b2 1), rawInt 1] }) ((ha.objs.size, o) :: (C, oC₂) :: (D, LCg.lst ys) :: (pre ++ tl)) := fun q hq => ⟨Heap.get?_push_of_some _ (N₃ q hq).1, (N₃ q hq).2⟩
    have hI20 : h₀.get? h₃.objs.size = none := next_is_new F₃
    have hI2L : h₃.objs.size ≠ L := Nat.ne_of_gt F₃.ns.lt
    refine wpAny_bind (wpAny_runOwn ?_)
    have loop : codeAny (model prog w) A (.compLoop (.ListComp elt [⟨.Name x1 p1, i1, [], 0⟩, ⟨.Name x2 p2, i2, [], 0⟩] scope pos) 1 (.ref h₃.objs.size) (.ref D) (compEnvC scope cl C env))
        (fun r s' => match r with
          | .ok f => wpAny (model prog w) A k Qk (notedBy (model prog w) A (compEnvC scope cl C env) fun e s' => compPost (model prog w) A E none Q (.ref D) C (.error e) s') s'
          | .error e => cameBackBy (model prog w) A (compEnvC scope cl C env) (notedBy (model prog w) A (compEnvC scope cl C env) fun e s' => compPost (model prog w) A E none Q (.ref D) C (.error e) s') e s')
        { s with heap := h₃.push { cls := .type "range_iterator", data := .fields #[rawInt 0, rawInt (Builtin.Range.rangeSize 0 b2 1), rawInt 1] }, toks := tk₃ } := by
      refine gc_range (s := { s with heap := h₃.push { cls := .type "range_iterator", data := .fields #[rawInt 0, rawInt (Builtin.Range.rangeSize 0 b2 1), rawInt 1] }, toks := tk₃ }) hh (gt_in elt (.Name x1 p1) i1 (.Name x2 p2) i2 scope pos _ _ _) hI20 hI2L
        (fun j nx => ∃ oC mC ys tl, nx = (ha.objs.size, o) :: (C, oC) :: (D, LCg.lst ys) :: (pre ++ tl) ∧ LCg.NsObj oC mC ∧ mC x1 = some (.int (0 + (i : Int)) t) ∧ All2 (PairIn tl) ys (nestN n2 i ++ rowN i j) ∧ Off C ((D, LCg.lst ys) :: (pre ++ tl)) ∧ Off D (pre ++ tl) ∧ Off ha.objs.size ((C, oC) :: (D, LCg.lst ys) :: (pre ++ tl)))
        hit2 F₄ N₄ (fun q hq => Nat.ne_of_lt (lt3 q hq)) ⟨oC₂, _, ys, tl, rfl, hC₂, by simp, by rw [rowN, List.append_nil]; exact hA, oCo, oDo, Off.cons (Ne.symm hIC) hoI.tail⟩ ?turn2 ?done2
      case done2 =>
        rintro h' tk' nx ⟨oC, mC, ys, tl, rfl, hoC, hx, hA, oCo, oDo, oIo⟩ F' N' -
        exact hk _ ⟨h', tk', _, rfl, F', N', fun q hq hm => oIo q hq (by simpa using hm), trivial, oC, mC, ys, tl, rfl, hoC, hA, oCo, oDo⟩
      case turn2 =>
        rintro j t2 nx o2 h' tk' hj ⟨oC, mC, ys, tl, rfl, hoC, hx, hA, oCo, oDo, oIo⟩ hoI2 F' N'
        have hI2C : h₃.objs.size ≠ C := Ne.symm (hoI2 _ (.tail _ (.head _)))
        have hI2D : h₃.objs.size ≠ D := Ne.symm (hoI2 _ (.tail _ (.tail _ (.head _))))
        have hID : ha.objs.size ≠ D := Nat.ne_of_lt hDlt
        refine gc_assign1 (s := { s with heap := h', toks := tk' }) (pre := [(h₃.objs.size, o2), (ha.objs.size, o)]) hkind hx2 F' N' hoC (Off.cons hI2C (Off.cons hIC off_nil)) oCo fun h₅ tk₅ oC₅ hC₅ F₅ N₅ => ?_
        refine gc_emit (wpAny_mono (el (0 + (i : Int)) t (0 + (j : Int)) t2 C oC₅ _ D ys tl ha.objs.size o h₃.objs.size o2 h₅ tk₅ _ hC₅ (by simp [hxx, hx]) (by simp) F₅ N₅) (fun y s₆ h₆ => ?_) fun _ _ e => e)
        obtain ⟨h₆, tk₆, T, ta', tb', rfl, rfl, F₆, N₆, nT2, nT1, nTC, nTD⟩ := h₆
        have hys : ys.length ≤ sizeLine := by
          rw [hA.length, List.length_append, nestN_len, rowN_len, PySem.sizeLine_eq]
          have h1 : i * n2 + n2 ≤ n1 * n2 := by rw [← Nat.succ_mul]; exact Nat.mul_le_mul_right _ hi
          omega
        refine gc_append (s := { s with heap := h₆, toks := tk₆ }) (pre := [(T, _), (h₃.objs.size, o2), (ha.objs.size, o), (C, oC₅)]) (post := pre ++ tl) F₆ N₆ (Off.cons nTD (Off.cons hI2D (Off.cons hID (Off.cons (Nat.ne_of_gt hClt) off_nil)))) oDo hys fun h₇ F₇ N₇ => ?_
        refine ⟨h₇, tk₆, (ha.objs.size, o) :: (C, oC₅) :: (D, LCg.lst (ys ++ [.ref T])) :: (pre ++ (tl ++ [(T, { cls := .type "tuple", data := .seq #[.int (0 + (i : Int)) ta', .int (0 + (j : Int)) tb'] })])), rfl, F₇, ?_, ?_, trivial, oC₅, _, ys ++ [.ref T], tl ++ [(T, { cls := .type "tuple", data := .seq #[.int (0 + (i : Int)) ta', .int (0 + (j : Int)) tb'] })], rfl, hC₅, by simp [hxx, hx], ?_, ?_, ?_, ?_⟩
        · intro q hq
          refine N₇ q ?_
          rcases List.mem_cons.mp hq with rfl | hq
          · exact .tail _ (.head _)
          rcases List.mem_cons.mp hq with rfl | hq
          · exact .tail _ (.tail _ (.head _))
          rcases List.mem_cons.mp hq with rfl | hq
          · exact .tail _ (.tail _ (.tail _ (.head _)))
          rcases List.mem_cons.mp hq with rfl | hq
          · exact .tail _ (.tail _ (.tail _ (.tail _ (.head _))))
          rcases List.mem_append.mp hq with hq | hq
          · exact .tail _ (.tail _ (.tail _ (.tail _ (.tail _ (List.mem_append_left _ hq)))))
          rcases List.mem_append.mp hq with hq | hq
          · exact .tail _ (.tail _ (.tail _ (.tail _ (.tail _ (List.mem_append_right _ hq)))))
          · rw [List.mem_singleton.mp hq]; exact .head _
        · intro q hq hm
          have e : q.1 = h₃.objs.size := by simpa using hm
          rcases List.mem_cons.mp hq with rfl | hq
          · exact hoI2 _ (.head _) e
          rcases List.mem_cons.mp hq with rfl | hq
          · exact hI2C e.symm
          rcases List.mem_cons.mp hq with rfl | hq
          · exact hI2D e.symm
          rw [← List.append_assoc] at hq
          rcases List.mem_append.mp hq with hq | hq
          · exact hoI2 _ (.tail _ (.tail _ (.tail _ hq))) e
          · rw [List.mem_singleton.mp hq] at e; exact nT2 e
        · rw [rowN, ← List.append_assoc]
          exact (hA.imp fun a b h => h.mono fun q hq => List.mem_append_left _ hq).snoc ⟨T, ta', tb', rfl, by simp⟩
        · refine Off.cons (Nat.ne_of_lt hClt) ?_
          rw [← List.append_assoc]
          exact Off.app oCo.tail (Off.cons nTC off_nil)
        · rw [← List.append_assoc]
          exact Off.app oDo (Off.cons nTD off_nil)
        · refine Off.cons (Ne.symm hIC) (Off.cons (Ne.symm hID) ?_)
          rw [← List.append_assoc]
          exact Off.app oIo.tail.tail (Off.cons nT1 off_nil)
    exact gc_start1 loop (wpAny_pyIter_rangeiter (x := 0) (left := (n2 : Int)) (step := 1) hit2 loop)
end
end Mine

end

section
open PySem PySem.W PyProof.Rows
namespace Mine
/-- apart from all these -/
noncomputable def Offs (ws : List (Addr × String)) (l : List (Addr × Obj)) : Prop := ∀ q ∈ l, q.1 ∉ ws.map (·.1)
theorem Offs.app {ws : List (Addr × String)} {l r : List (Addr × Obj)} (h : Offs ws l) (k : Offs ws r) : Offs ws (l ++ r) := fun q hq => (List.mem_append.mp hq).elim (h q) (k q)
theorem subL_left {k : List (Addr × Obj)} : ∀ {l : List (Addr × Obj)}, SubL k l → ∀ {l' : List (Addr × Obj)}, (∀ q ∈ l, q ∈ l') → SubL k l' := by
  induction k with
  | nil => exact fun _ _ _ => trivial
  | cons q r ih => exact fun h _ s => ⟨s _ h.1, ih h.2 s⟩
section
variable {prog : Program} {w : World} {A : Around} {E : Value → Shared → Prop} {s : Shared} {h₀ : Heap} {L : Addr} {m : Str → Option Value} {env : Env}
/-- what an element leaves: a value, the ledger's tail grown -/
noncomputable def GpEl (h₀ : Heap) (L : Addr) (m : Str → Option Value) (s : Shared) (ws : List (Addr × String)) (its : List (Addr × Obj)) (C : Addr) (oC : Obj) (D : Addr) (oD : Obj) (pre tl : List (Addr × Obj)) (R : List (Addr × Obj) → Value → Prop) (y : Value) (s' : Shared) : Prop :=
  ∃ h' tk' tn, s' = { s with heap := h', toks := tk' } ∧ Fr h₀ L h' m ∧ News h₀ L h' (its ++ (C, oC) :: (D, oD) :: (pre ++ (tl ++ tn))) ∧ Offs ws tn ∧ Off C tn ∧ Off D tn ∧ R (tl ++ tn) y
/-- a comprehension of one clause, its target a pair -/
theorem gc_pair {elt iter : PySem.Expr} {x1 x2 : Str} {p1 p2 tp : Pos} {kk : Nat} {scope : Scope} {cl : List (Str × Addr)} {pos : Pos} {Q : Value → Shared → Prop} (hh : A.handled = none)
    (hclos : closureFor scope env = pure cl) (hcell : ∀ y ∈ scope.names, y.2 ≠ .cell) (hkind : scope.kind = .function) (hnames : ∀ y ∈ scope.names, y.2 = .local → scope.names.lookup y.1 = some .local) (hx1 : scope.names.lookup x1 = some .local) (hx2 : scope.names.lookup x2 = some .local) (hxx : x1 ≠ x2)
    (h : wpAny (model prog w) A (eval iter env) (fun xv s₁ => wpAny (model prog w) A (pyIter xv) (fun it s₂ => ∃ (I : Addr) (fp wr : List Addr) (n : Nat) (P Md : Nat → Value → Heap → Prop) (St : Nat → Heap → Prop) (ws : List (Addr × String)) (keep pre : List (Addr × Obj)) (h₂ : Heap) (tk₂ : Nat) (PP : Nat → Value → Value → Prop) (R : List (Addr × Obj) → Nat → Value → Prop),
      it = .ref I ∧ s₂ = { s with heap := h₂, toks := tk₂ } ∧ KTurns prog w A (.Tuple [.Name x1 p1, .Name x2 p2] kk tp) I fp wr n P Md St ∧ St 0 h₂ ∧ Fr h₀ L h₂ m ∧ News h₀ L h₂ pre ∧
      (∀ i h, St i h → ∃ its, Objs ws its ∧ ∀ q ∈ its, h.get? q.1 = some q.2) ∧ (∀ b ∈ ws.map (·.1), h₀.get? b = none ∧ b ≠ L ∧ b < h₂.objs.size) ∧ (∀ b ∈ wr, b ∈ ws.map (·.1)) ∧ (∀ b ∈ fp, b ∈ ws.map (·.1) ∨ ∃ o, (b, o) ∈ keep) ∧ Offs ws pre ∧ SubL keep pre ∧
      (∀ h tk (Q : Value → Shared → Prop) (E : Value → Shared → Prop), (∀ b o, h₂.get? b = some o → h.get? b = some o) → Q (.ref I) { s with heap := h, toks := tk } → wpAny (model prog w) A (pyIter (.ref I)) Q E { s with heap := h, toks := tk }) ∧
      (∀ i v h, i < n → P i v h → News h₀ L h pre → ∃ T v1 v2, v = .ref T ∧ IsTup h T #[v1, v2] ∧ PP i v1 v2) ∧ n ≤ 10000 ∧ (∀ tl tl' i y, R tl i y → (∀ q ∈ tl, q ∈ tl') → R tl' i y) ∧
      (∀ i v1 v2 C oC mC D ys tl its h tk (E' : Value → Shared → Prop), i < n → PP i v1 v2 → LCg.NsObj oC mC → mC x1 = some v1 → mC x2 = some v2 → Objs ws its → Fr h₀ L h m → News h₀ L h (its ++ (C, oC) :: (D, LCg.lst ys) :: (pre ++ tl)) →
        wpAny (model prog w) A (eval elt (compEnvC scope cl C env)) (GpEl h₀ L m s ws its C oC D (LCg.lst ys) pre tl (fun tl' y => R tl' i y)) E' { s with heap := h, toks := tk }) ∧
      (∀ D ys tl h tk, All2 (fun i y => R tl i y) (List.range n) ys → Fr h₀ L h m → News h₀ L h ((D, LCg.lst ys) :: (pre ++ tl)) → Q (.ref D) { s with heap := h, toks := tk })) E s₁) E s)
    (hs1 : ∀ x, foldedSetIterable iter env x = pure x) :
    wpAny (model prog w) A (eval (.ListComp elt [⟨.Tuple [.Name x1 p1, .Name x2 p2] kk tp, iter, [], 0⟩] scope pos) env) Q E s := by
  refine gc_comp (h₀ := h₀) (L := L) (m := m) hclos hcell hkind hnames (wpAny_mono h (fun xv s₁ h₁ => wpAny_mono h₁ (fun it s₂ h₂ => ?_) fun _ _ e => e) fun _ _ e => e) hs1
  obtain ⟨I, fp, wr, n, P, Md, St, ws, keep, pre, hb, tkb, PP, R, rfl, rfl, W, hst, F, N, hobj, hws, hwr, hfp, hap, hkp, self, hpair, hn, hR, el, fin⟩ := h₂
  refine ⟨I, pre, rfl, F, N, self, ?_⟩
  intro D C oC mC h₁ tk hD hC old hoC F₁ N₁
  have hD : D = hb.objs.size := hD
  have hClt : D < C := by omega
  have hwlt : ∀ b ∈ ws.map (·.1), b ≠ D ∧ b ≠ C := fun b hb' => by
    have h1 : b < D := by rw [hD]; exact (hws b hb').2.2
    exact ⟨Nat.ne_of_lt h1, Nat.ne_of_lt (Nat.lt_trans h1 hClt)⟩
  have offC : ∀ o : Obj, ∀ ws' : List (Addr × Obj), Offs ws ws' → Offs ws ((C, o) :: ws') := fun o ws' k q hq hm => by
    rcases List.mem_cons.mp hq with rfl | hq
    · exact (hwlt _ hm).2 rfl
    · exact k q hq hm
  have offD : ∀ o : Obj, ∀ ws' : List (Addr × Obj), Offs ws ws' → Offs ws ((D, o) :: ws') := fun o ws' k q hq hm => by
    rcases List.mem_cons.mp hq with rfl | hq
    · exact (hwlt _ hm).1 rfl
    · exact k q hq hm
  have hplt : ∀ q ∈ pre, q.1 < D := fun q hq => by rw [hD]; exact Heap.lt_size (N q hq).1
  refine gc_loop (s := { s with heap := h₁, toks := tk }) (gt_one elt _ iter scope pos _ _ _) W ws keep hobj (fun b hb' => ⟨(hws b hb').1, (hws b hb').2.1⟩) hwr hfp
    (fun i nx => ∃ oC mC ys tl, nx = (C, oC) :: (D, LCg.lst ys) :: (pre ++ tl) ∧ LCg.NsObj oC mC ∧ All2 (fun i y => R tl i y) (List.range i) ys ∧ Off C ((D, LCg.lst ys) :: (pre ++ tl)) ∧ Off D (pre ++ tl) ∧ Offs ws (pre ++ tl))
    (W.frame _ _ _ hst fun b _ o e => old b o e) F₁ N₁ (offC _ _ (offD _ _ hap)) (subL_left hkp fun q hq => .tail _ (.tail _ hq))
    ⟨oC, mC, [], [], by rw [List.append_nil], hoC, .nil, Off.cons (Nat.ne_of_lt hClt) fun q hq => Nat.ne_of_lt (Nat.lt_trans (hplt q (by simpa using hq)) hClt), fun q hq => Nat.ne_of_lt (hplt q (by simpa using hq)), by rw [List.append_nil]; exact hap⟩ ?turn ?done
  case done =>
    rintro h' tk' nx ⟨oC, mC, ys, tl, rfl, hoC, hA, oCo, oDo, -⟩ F' N' -
    exact gc_fin F' N' hoC oCo fun h'' F'' N'' => fin D ys tl h'' tk' hA F'' N''
  case turn =>
    rintro i v nx its h' tk' hi hP ⟨oC, mC, ys, tl, rfl, hoC, hA, oCo, oDo, oWo⟩ hits ap - F' N'
    obtain ⟨T, v1, v2, rfl, hT, hPP⟩ := hpair i v h' hi hP (fun q hq => N' q (List.mem_append_right _ (.tail _ (.tail _ (List.mem_append_left _ hq)))))
    have hitsC : Off C its := fun q hq => (hwlt q.1 (by rw [← hits.map]; exact List.mem_map.mpr ⟨q, hq, rfl⟩)).2
    have hitsD : Off D its := fun q hq => (hwlt q.1 (by rw [← hits.map]; exact List.mem_map.mpr ⟨q, hq, rfl⟩)).1
    refine gc_assign2 (s := { s with heap := h', toks := tk' }) (pre := its) hh hkind hx1 hx2 hT F' N' hoC hitsC oCo fun h₅ tk₅ oC₅ hC₅ F₅ N₅ => ?_
    refine gc_emit (wpAny_mono (el i v1 v2 C oC₅ _ D ys tl its h₅ tk₅ _ hi hPP hC₅ (by simp [hxx]) (by simp) hits F₅ N₅) (fun y s₆ h₆ => ?_) fun _ _ e => e)
    obtain ⟨h₆, tk₆, tn, rfl, F₆, N₆, oWn, oCn, oDn, hRn⟩ := h₆
    have hys : ys.length ≤ sizeLine := by
      have e := hA.length
      rw [List.length_range] at e
      rw [PySem.sizeLine_eq]
      omega
    refine gc_append (s := { s with heap := h₆, toks := tk₆ }) (pre := its ++ [(C, oC₅)]) (post := pre ++ (tl ++ tn)) F₆ (by rw [List.append_assoc]; exact N₆) (Off.app hitsD (Off.cons (Nat.ne_of_gt hClt) off_nil)) (by rw [← List.append_assoc]; exact Off.app oDo oDn) hys fun h₇ F₇ N₇ => ?_
    refine ⟨h₇, tk₆, (C, oC₅) :: (D, LCg.lst (ys ++ [y])) :: (pre ++ (tl ++ tn)), rfl, F₇, by rw [List.append_assoc] at N₇; exact N₇, ?_, subL_left hkp (fun q hq => .tail _ (.tail _ (List.mem_append_left _ hq))), oC₅, _, ys ++ [y], tl ++ tn, rfl, hC₅, ?_, ?_, ?_, ?_⟩
    · exact offC _ _ (offD _ _ (by rw [← List.append_assoc]; exact Offs.app oWo oWn))
    · rw [List.range_succ]
      exact (hA.imp fun a b h => hR _ _ _ _ h fun q hq => List.mem_append_left _ hq).snoc hRn
    · refine Off.cons (Nat.ne_of_lt hClt) ?_
      rw [← List.append_assoc]
      exact Off.app oCo.tail oCn
    · rw [← List.append_assoc]; exact Off.app oDo oDn
    · rw [← List.append_assoc]; exact Offs.app oWo oWn
end
section
variable {prog : Program} {w : World} {A : Around} {E : Value → Shared → Prop} {s : Shared} {h₀ : Heap} {L : Addr} {m : Str → Option Value} {env : Env}
/-- the source of a pair's comprehension, bundled -/
noncomputable def GpSrc (prog : Program) (w : World) (A : Around) (h₀ : Heap) (L : Addr) (m : Str → Option Value) (env : Env) (s : Shared) (elt : PySem.Expr) (x1 x2 : Str) (p1 p2 tp : Pos) (kk : Nat) (scope : Scope) (cl : List (Str × Addr)) (Q : Value → Shared → Prop) (it : Value) (s₂ : Shared) : Prop :=
  ∃ (I : Addr) (fp wr : List Addr) (n : Nat) (P Md : Nat → Value → Heap → Prop) (St : Nat → Heap → Prop) (ws : List (Addr × String)) (keep pre : List (Addr × Obj)) (h₂ : Heap) (tk₂ : Nat) (PP : Nat → Value → Value → Prop) (R : List (Addr × Obj) → Nat → Value → Prop),
      it = .ref I ∧ s₂ = { s with heap := h₂, toks := tk₂ } ∧ KTurns prog w A (.Tuple [.Name x1 p1, .Name x2 p2] kk tp) I fp wr n P Md St ∧ St 0 h₂ ∧ Fr h₀ L h₂ m ∧ News h₀ L h₂ pre ∧
      (∀ i h, St i h → ∃ its, Objs ws its ∧ ∀ q ∈ its, h.get? q.1 = some q.2) ∧ (∀ b ∈ ws.map (·.1), h₀.get? b = none ∧ b ≠ L ∧ b < h₂.objs.size) ∧ (∀ b ∈ wr, b ∈ ws.map (·.1)) ∧ (∀ b ∈ fp, b ∈ ws.map (·.1) ∨ ∃ o, (b, o) ∈ keep) ∧ Offs ws pre ∧ SubL keep pre ∧
      (∀ h tk (Q : Value → Shared → Prop) (E : Value → Shared → Prop), (∀ b o, h₂.get? b = some o → h.get? b = some o) → Q (.ref I) { s with heap := h, toks := tk } → wpAny (model prog w) A (pyIter (.ref I)) Q E { s with heap := h, toks := tk }) ∧
      (∀ i v h, i < n → P i v h → News h₀ L h pre → ∃ T v1 v2, v = .ref T ∧ IsTup h T #[v1, v2] ∧ PP i v1 v2) ∧ n ≤ 10000 ∧ (∀ tl tl' i y, R tl i y → (∀ q ∈ tl, q ∈ tl') → R tl' i y) ∧
      (∀ i v1 v2 C oC mC D ys tl its h tk (E' : Value → Shared → Prop), i < n → PP i v1 v2 → LCg.NsObj oC mC → mC x1 = some v1 → mC x2 = some v2 → Objs ws its → Fr h₀ L h m → News h₀ L h (its ++ (C, oC) :: (D, LCg.lst ys) :: (pre ++ tl)) →
        wpAny (model prog w) A (eval elt (compEnvC scope cl C env)) (GpEl h₀ L m s ws its C oC D (LCg.lst ys) pre tl (fun tl' y => R tl' i y)) E' { s with heap := h, toks := tk }) ∧
      (∀ D ys tl h tk, All2 (fun i y => R tl i y) (List.range n) ys → Fr h₀ L h m → News h₀ L h ((D, LCg.lst ys) :: (pre ++ tl)) → Q (.ref D) { s with heap := h, toks := tk })
theorem gc_pairS {elt iter : PySem.Expr} {x1 x2 : Str} {p1 p2 tp : Pos} {kk : Nat} {scope : Scope} {cl : List (Str × Addr)} {pos : Pos} {Q : Value → Shared → Prop} (hh : A.handled = none)
    (hclos : closureFor scope env = pure cl) (hcell : ∀ y ∈ scope.names, y.2 ≠ .cell) (hkind : scope.kind = .function) (hnames : ∀ y ∈ scope.names, y.2 = .local → scope.names.lookup y.1 = some .local) (hx1 : scope.names.lookup x1 = some .local) (hx2 : scope.names.lookup x2 = some .local) (hxx : x1 ≠ x2) (hs1 : ∀ x, foldedSetIterable iter env x = pure x)
    (h : wpAny (model prog w) A (eval iter env) (fun xv s₁ => wpAny (model prog w) A (pyIter xv) (GpSrc prog w A h₀ L m env s elt x1 x2 p1 p2 tp kk scope cl Q) E s₁) E s) :
    wpAny (model prog w) A (eval (.ListComp elt [⟨.Tuple [.Name x1 p1, .Name x2 p2] kk tp, iter, [], 0⟩] scope pos) env) Q E s :=
  gc_pair hh hclos hcell hkind hnames hx1 hx2 hxx h hs1
theorem gp_list {elt : PySem.Expr} {x1 x2 : Str} {p1 p2 tp : Pos} {kk : Nat} {scope : Scope} {cl : List (Str × Addr)} {Q : Value → Shared → Prop} {l : Addr} {vs : List Value} {nn : Nat} {pre : List (Addr × Obj)} {h₁ : Heap} {tk₁ : Nat} (PP : Nat → Value → Value → Prop) (R : List (Addr × Obj) → Nat → Value → Prop)
    (hh : A.handled = none) (F : Fr h₀ L h₁ m) (N : News h₀ L h₁ pre) (hl : (l, W.listOf vs.toArray nn) ∈ pre) (hn : vs.length ≤ 10000)
    (hp : ∀ i v, vs[i]? = some v → ∃ T v1 v2, v = .ref T ∧ (T, ({ cls := .type "tuple", data := .seq #[v1, v2] } : Obj)) ∈ pre ∧ PP i v1 v2) (hR : ∀ tl tl' i y, R tl i y → (∀ q ∈ tl, q ∈ tl') → R tl' i y)
    (el : ∀ i v1 v2 I o C oC mC D ys tl h tk (E' : Value → Shared → Prop), i < vs.length → PP i v1 v2 → LCg.NsObj oC mC → mC x1 = some v1 → mC x2 = some v2 → Fr h₀ L h m → News h₀ L h ((I, o) :: (C, oC) :: (D, LCg.lst ys) :: (pre ++ tl)) →
        wpAny (model prog w) A (eval elt (compEnvC scope cl C env)) (GpEl h₀ L m s [(I, "list_iterator")] [(I, o)] C oC D (LCg.lst ys) pre tl (fun tl' y => R tl' i y)) E' { s with heap := h, toks := tk })
    (fin : ∀ D ys tl h tk, All2 (fun i y => R tl i y) (List.range vs.length) ys → Fr h₀ L h m → News h₀ L h ((D, LCg.lst ys) :: (pre ++ tl)) → Q (.ref D) { s with heap := h, toks := tk }) :
    wpAny (model prog w) A (pyIter (.ref l)) (GpSrc prog w A h₀ L m env s elt x1 x2 p1 p2 tp kk scope cl Q) E { s with heap := h₁, toks := tk₁ } := by
  have hol := (N _ hl).1
  have hls : h₁.IsList l vs.toArray := ⟨_, hol, rfl, nn, rfl⟩
  have hlt : l < h₁.objs.size := Heap.lt_size hol
  have hne : l ≠ h₁.objs.size := Nat.ne_of_lt hlt
  refine wpAny_pyIter_list (s := { s with heap := h₁, toks := tk₁ }) hls ?_
  have WW := KTurns.ofWalks (target := .Tuple [.Name x1 p1, .Name x2 p2] kk tp) (Walks.list (prog := prog) (w := w) hh h₁.objs.size l hne vs.toArray) fun i v s Q E st q => letGo_listiter st.1 q
  rw [List.size_toArray] at WW
  refine ⟨h₁.objs.size, _, _, vs.length, _, _, _, [(h₁.objs.size, "list_iterator")], [(l, W.listOf vs.toArray nn)], pre, _, _, PP, R, rfl, rfl, WW, ⟨⟨_, Heap.get?_push_size _ rfl, rfl, rfl⟩, hls.push _⟩, F.push _, fun q hq => ⟨Heap.get?_push_of_some _ (N q hq).1, (N q hq).2⟩, ?_, ?_, ?_, ?_, ?_, ⟨hl, trivial⟩, ?_, ?_, hn, hR, ?_, fin⟩
  · intro i h st
    obtain ⟨o, ho, hc, _⟩ := st.1
    exact ⟨[(h₁.objs.size, o)], ⟨⟨rfl, hc⟩, trivial⟩, fun q hq => by rw [List.mem_singleton.mp hq]; exact ho⟩
  · intro b hb
    have e : b = h₁.objs.size := by simpa using hb
    subst e
    exact ⟨next_is_new F, Nat.ne_of_gt F.ns.lt, by show _ < (h₁.push _).objs.size; rw [Heap.size_push]; exact Nat.lt_succ_self _⟩
  · intro b hb; simpa using hb
  · intro b hb
    have e : b = h₁.objs.size ∨ b = l := by simpa using hb
    rcases e with e | e
    · exact .inl (by simp [e])
    · exact .inr ⟨_, by rw [e]; exact .head _⟩
  · intro q hq hm
    have e : q.1 = h₁.objs.size := by simpa using hm
    exact absurd (Heap.lt_size (N q hq).1) (e ▸ Nat.lt_irrefl _)
  · intro h tk Q' E' old q
    exact wpAny_pyIter_listiter (l := l) (i := 0) ⟨_, old _ _ (Heap.get?_push_size _ rfl), rfl, rfl⟩ q
  · intro i v h hi hP N'
    obtain ⟨T, v1, v2, e, hm, hpp⟩ := hp i v (by simpa using hP)
    exact ⟨T, v1, v2, e, ⟨_, (N' _ hm).1, rfl, _, rfl⟩, hpp⟩
  · intro i v1 v2 C oC mC D ys tl its h tk E' hi hPP hC hx1 hx2 hits F' N'
    cases its with
    | nil => exact hits.elim
    | cons q r =>
      cases r with
      | cons _ _ => exact hits.2.elim
      | nil =>
        obtain ⟨qa, qo⟩ := q
        obtain rfl : qa = h₁.objs.size := hits.1.1
        exact el i v1 v2 _ qo C oC mC D ys tl h tk E' hi hPP hC hx1 hx2 F' N'
theorem gp_enumT {elt : PySem.Expr} {x1 x2 : Str} {p1 p2 tp : Pos} {kk : Nat} {scope : Scope} {cl : List (Str × Addr)} {Q : Value → Shared → Prop} {l : Addr} {vs : List Value} {pre : List (Addr × Obj)} {h₁ : Heap} {tk₁ : Nat} (R : List (Addr × Obj) → Nat → Value → Prop)
    (hh : A.handled = none) (F : Fr h₀ L h₁ m) (N : News h₀ L h₁ pre) (hl : (l, ({ cls := .type "tuple", data := .seq vs.toArray } : Obj)) ∈ pre) (hn : vs.length ≤ 10000) (hR : ∀ tl tl' i y, R tl i y → (∀ q ∈ tl, q ∈ tl') → R tl' i y)
    (el : ∀ i t v I o I' o' C oC mC D ys tl h tk (E' : Value → Shared → Prop), i < vs.length → vs[i]? = some v → LCg.NsObj oC mC → mC x1 = some (.int i t) → mC x2 = some v → Fr h₀ L h m → News h₀ L h ((I, o) :: (I', o') :: (C, oC) :: (D, LCg.lst ys) :: (pre ++ tl)) →
        wpAny (model prog w) A (eval elt (compEnvC scope cl C env)) (GpEl h₀ L m s [(I, "enumerate"), (I', "tuple_iterator")] [(I, o), (I', o')] C oC D (LCg.lst ys) pre tl (fun tl' y => R tl' i y)) E' { s with heap := h, toks := tk })
    (fin : ∀ D ys tl h tk, All2 (fun i y => R tl i y) (List.range vs.length) ys → Fr h₀ L h m → News h₀ L h ((D, LCg.lst ys) :: (pre ++ tl)) → Q (.ref D) { s with heap := h, toks := tk }) :
    wpAny (model prog w) A (call (.type "enumerate") [.ref l]) (fun xv s₁ => wpAny (model prog w) A (pyIter xv) (GpSrc prog w A h₀ L m env s elt x1 x2 p1 p2 tp kk scope cl Q) E s₁) E { s with heap := h₁, toks := tk₁ } := by
  have hol := (N _ hl).1
  have hls : h₁.IsTuple l vs.toArray := ⟨_, hol, rfl, _, rfl⟩
  have hlt : l < h₁.objs.size := Heap.lt_size hol
  refine call_enumT (s := { s with heap := h₁, toks := tk₁ }) hls fun h' hE hI hsz hk => ?_
  refine wpAny_pyIter_enum hE ?_
  have WW := KTurns.ofWalksU (elts := [.Name x1 p1, .Name x2 p2]) (k := kk) (pos := tp) (WalksT.enumerateD (draws_tuple (prog := prog) (w := w) (A := A.in1) hh h₁.objs.size l (Nat.ne_of_lt hlt) vs.toArray) (h₁.objs.size + 1) (Nat.succ_ne_self _) (by
    intro hm
    have e : h₁.objs.size + 1 = h₁.objs.size ∨ h₁.objs.size + 1 = l := by simpa using hm
    rcases e with e | e
    · exact Nat.succ_ne_self _ e
    · exact absurd (e ▸ hlt) (Nat.not_lt.mpr (Nat.le_succ _))) (by simp)).toU
  rw [List.size_toArray] at WW
  have fr0 : ∀ a, h₁.objs.size ≤ a → h₀.get? a = none := fun a hle => by
    cases e : h₀.get? a with
    | none => rfl
    | some o' => exact absurd (Heap.lt_size (F.keep a o' e)) (Nat.not_lt.mpr hle)
  have hLs := F.ns.lt
  refine ⟨h₁.objs.size + 1, _, _, vs.length, _, _, _, [(h₁.objs.size + 1, "enumerate"), (h₁.objs.size, "tuple_iterator")], [(l, { cls := .type "tuple", data := .seq vs.toArray })], pre, h', _, fun i v1 v2 => (∃ t, v1 = .int i t) ∧ vs[i]? = some v2, R, rfl, rfl, WW, ⟨⟨_, hE⟩, hI, hls.at fun o e => hk _ _ e⟩, F.keeps hk, fun q hq => ⟨hk _ _ (N q hq).1, (N q hq).2⟩, ?_, ?_, ?_, ?_, ?_, ⟨hl, trivial⟩, ?_, ?_, hn, hR, ?_, fin⟩
  · rintro i h ⟨⟨old, he⟩, ⟨oi, hoi, hic, _⟩, _⟩
    have he' : ∃ oe : Obj, h.get? (h₁.objs.size + 1) = some oe ∧ oe.cls = .type "enumerate" := ⟨_, he, rfl⟩
    obtain ⟨oe, h1, h2⟩ := he'
    refine ⟨[(h₁.objs.size + 1, oe), (h₁.objs.size, oi)], ⟨⟨rfl, h2⟩, ⟨rfl, hic⟩, trivial⟩, fun q hq => ?_⟩
    rcases List.mem_cons.mp hq with rfl | hq
    · exact h1
    · rw [List.mem_singleton.mp hq]; exact hoi
  · intro b hb
    have e : b = h₁.objs.size + 1 ∨ b = h₁.objs.size := by simpa using hb
    rcases e with rfl | rfl
    · exact ⟨fr0 _ (Nat.le_succ _), Nat.ne_of_gt (Nat.lt_succ_of_lt hLs), by rw [hsz]; exact Nat.lt_succ_self _⟩
    · exact ⟨fr0 _ (Nat.le_refl _), Nat.ne_of_gt hLs, by rw [hsz]; exact Nat.lt_succ_of_lt (Nat.lt_succ_self _)⟩
  · intro b hb; simpa using hb
  · intro b hb
    have e : b = h₁.objs.size + 1 ∨ b = h₁.objs.size ∨ b = l := by simpa using hb
    rcases e with e | e | e
    · exact .inl (by simp [e])
    · exact .inl (by simp [e])
    · exact .inr ⟨_, by rw [e]; exact .head _⟩
  · intro q hq hm
    have hlq := Heap.lt_size (N q hq).1
    have e : q.1 = h₁.objs.size + 1 ∨ q.1 = h₁.objs.size := by simpa using hm
    rcases e with e | e
    · exact absurd (e ▸ hlq) (Nat.not_lt.mpr (Nat.le_succ _))
    · exact absurd (e ▸ hlq) (Nat.lt_irrefl _)
  · intro h tk Q' E' old q
    exact wpAny_pyIter_enum (old _ _ hE) q
  · rintro i v h hi ⟨T, vals, rfl, ⟨t, x, hx, rfl⟩, hT⟩ -
    exact ⟨T, _, _, rfl, hT, ⟨t, rfl⟩, by simpa using hx⟩
  · rintro i v1 v2 C oC mC D ys tl its h tk E' hi ⟨⟨t, rfl⟩, hv⟩ hC hx1 hx2 hits F' N'
    cases its with
    | nil => exact hits.elim
    | cons q r =>
      cases r with
      | nil => exact hits.2.elim
      | cons q2 r2 =>
        cases r2 with
        | cons _ _ => exact hits.2.2.elim
        | nil =>
          obtain ⟨qa, qo⟩ := q
          obtain ⟨qb, qp⟩ := q2
          obtain rfl : qa = h₁.objs.size + 1 := hits.1.1
          obtain rfl : qb = h₁.objs.size := hits.2.1.1
          exact el i t v2 _ qo _ qp C oC mC D ys tl h tk E' hi hv hC hx1 hx2 F' N'
end
end Mine

end

section
open PySem PySem.W PyProof.Rows
namespace Mine
theorem ascii_st {I : Addr} {ty : String} {xt : Str} {tx : Tok} {h₀ : Heap} {L : Addr} : ∀ i (h h' : Heap) (o : Obj) (nw : List (Addr × Obj)), h.IsStrIter I ty xt tx i → h.get? I = some o → h'.get? I = some o → (∀ b o, h₀.get? b = some o → h'.get? b = some o) → News h₀ L h' nw → True → h'.IsStrIter I ty xt tx i :=
  fun i h h' o nw st e e' _ _ _ => by
    obtain ⟨o', q, r⟩ := st
    rw [e] at q
    obtain rfl := Option.some.inj q
    exact ⟨_, e', r⟩
section
variable {prog : Program} {w : World} {A : Around} {E : Value → Shared → Prop} {s : Shared} {h₀ : Heap} {L : Addr} {m : Str → Option Value} {env : Env}
theorem lc_text {elt iter : PySem.Expr} {x : Str} {px : Pos} {scope : Scope} {cl : List (Str × Addr)} {pos : Pos} {Q : Value → Shared → Prop} (hh : A.handled = none) (R : Nat → Value → Prop)
    (hclos : closureFor scope env = pure cl) (hcell : ∀ y ∈ scope.names, y.2 ≠ .cell) (hkind : scope.kind = .function) (hnames : ∀ y ∈ scope.names, y.2 = .local → scope.names.lookup y.1 = some .local) (hx : scope.names.lookup x = some .local) (hs : ∀ x, foldedSetIterable iter env x = pure x)
    (h : wpAny (model prog w) A (eval iter env) (fun xv s₁ => ∃ xt tx pre h₁ tk₁, xv = .str xt tx ∧ s₁ = { s with heap := h₁, toks := tk₁ } ∧ Fr h₀ L h₁ m ∧ News h₀ L h₁ pre ∧ xt.cps.size ≤ 10000 ∧
      (∀ c u I oI C oC D mC ys h tk (E' : Value → Shared → Prop), c ∈ xt.cps → LCg.NsObj oC mC → mC x = some (.str ⟨#[c]⟩ u) → Fr h₀ L h m → News h₀ L h ((I, oI) :: (C, oC) :: (D, LCg.lst ys) :: pre) → LCg.Off3 I C D pre →
        wpAny (model prog w) A (eval elt (compEnvC scope cl C env)) (LCg.CompEnd h₀ L m { s with heap := h, toks := tk } I oI C oC D (LCg.lst ys) (fun _ => True) (fun y news' => news' = pre ∧ R c y)) E' { s with heap := h, toks := tk }) ∧
      (∀ D ys h tk, All2 R xt.cps.toList ys → Fr h₀ L h m → News h₀ L h ((D, LCg.lst ys) :: pre) → Q (.ref D) { s with heap := h, toks := tk })) E s) :
    wpAny (model prog w) A (eval (.ListComp elt [⟨.Name x px, iter, [], 0⟩] scope pos) env) Q E s := by
  rw [eval_ListComp]
  refine wpAny_comprehension_free (use := none) rfl hs hclos hkind hnames (wpAny_mono h (fun xv s₁ h₁ => ?_) fun _ _ e => e)
  obtain ⟨xt, tx, pre, h₁, tk₁, rfl, rfl, F, N, hsz, turn, fin⟩ := h₁
  have rest : ∀ gg, LCg.CompRest prog w A h₀ L m env elt x scope cl { s with heap := gg, toks := tk₁ } (fun _ => True) (SignAt xt) (LCg.FinE h₀ L m { s with heap := gg, toks := tk₁ } Q) xt.cps.size 0 [] pre := by
    intro gg
    have key : ∀ (j i : Nat) (ys : List Value), i + j = xt.cps.size → All2 R (xt.cps.toList.take i) ys → LCg.CompRest prog w A h₀ L m env elt x scope cl { s with heap := gg, toks := tk₁ } (fun _ => True) (SignAt xt) (LCg.FinE h₀ L m { s with heap := gg, toks := tk₁ } Q) j i ys pre := by
      intro j
      induction j with
      | zero =>
        intro i ys hi hy
        have e : i = xt.cps.toList.length := by rw [Array.length_toList]; omega
        rw [e, List.take_length] at hy
        refine LCg.CompRest.zero ?_
        intro D h tk F' N' _
        exact fin D ys h tk hy F' N'
      | succ j ih =>
        intro i ys hi hy
        refine LCg.CompRest.succ ?_
        rintro v I oI C oC D mC h tk E' ⟨c, u, hc, rfl⟩ hC hx' F' N' off ne
        refine wpAny_mono (turn c u I oI C oC D mC ys h tk E' (Array.mem_of_getElem? hc) hC hx' F' N' off) (fun y s₂ hq => ?_) fun _ _ e => e
        obtain ⟨h', tk', nw, e, F'', N'', off', -, hn, hr⟩ := hq
        subst hn
        refine ⟨h', tk', _, e, F'', N'', off', trivial, ?_⟩
        refine ih (i + 1) _ (by omega) ?_
        have hc' : xt.cps.toList[i]? = some c := by simpa using hc
        rw [List.take_add_one, hc']
        exact All2.snoc hr hy
    exact key xt.cps.size 0 [] (by omega) (by rw [List.take_zero]; exact .nil)
  have main : ∀ (o : Obj) (St : Nat → Heap → Prop) (W : Walks prog w A h₁.objs.size [h₁.objs.size] [h₁.objs.size] xt.cps.size (SignAt xt) St), (∀ i h, St i h → ∃ o, h.get? h₁.objs.size = some o) → (∀ i h h' o nw, St i h → h.get? h₁.objs.size = some o → h'.get? h₁.objs.size = some o → (∀ b o, h₀.get? b = some o → h'.get? b = some o) → News h₀ L h' nw → True → St i h') → St 0 (h₁.push o) →
      wpAny (model prog w) A (newList []) (fun acc s₃ => wpAny (model prog w) A (newFunctionEnv scope env.globals cl [] env.qual none .none (some env)) (fun cenv s₄ =>
        codeAny (model prog w) A (.compStart (.ListComp elt [⟨.Name x px, iter, [], 0⟩] scope pos) 0 (.ref h₁.objs.size) acc { cenv with scope := relabel scope env }) (compPost (model prog w) A E none Q acc cenv.locals) s₄) E s₃) E { s with heap := h₁.push o, toks := tk₁ } := by
    intro o St W hIo hSt hst
    refine LCg.block_U W (by rw [PySem.sizeLine_eq]; omega) hIo hSt hcell hkind hx hst (fun b hb => ?_)
      (F.push _) (fun q hq => ⟨Heap.get?_push_of_some _ (N q hq).1, (N q hq).2⟩) (Nat.ne_of_lt F.ns.lt) (next_is_new F) (fun p hp => Nat.ne_of_lt (Heap.lt_size (N p hp).1)) trivial (rest _) ?_
    · rw [List.mem_singleton.mp hb]
      show h₁.objs.size < (h₁.push _).objs.size
      rw [Heap.size_push]; exact Nat.lt_succ_self _
    · intro D C h tk m' ys news' F' N' o1 hn hC₀ hD₀ hCL hDL hCD offC fin'
      refine ⟨m', hn, fun h'' hs'' => fin' D h'' tk (F'.change hs'' hCL hC₀) (fun p hp => ?_) o1⟩
      refine ⟨hs''.extBut _ _ ?_ (N' p hp).1, (N' p hp).2⟩
      rcases List.mem_cons.mp hp with rfl | hp
      · exact Ne.symm hCD
      · exact offC p hp
  cases ha : xt.cps.all (· < 128)
  · exact wpAny_pyIter_wide ha (main _ _ (Walks.strWide hh _ xt tx) (fun i h hs => ⟨_, hs.choose_spec.1⟩) ascii_st ⟨_, Heap.get?_push_size _ rfl, rfl, rfl⟩)
  · exact wpAny_pyIter_ascii ha (main _ _ (Walks.strAscii hh _ xt tx) (fun i h hs => ⟨_, hs.choose_spec.1⟩) ascii_st ⟨_, Heap.get?_push_size _ rfl, rfl, rfl⟩)
end
end Mine

end

section
open PySem PySem.W PyProof.Rows
namespace Mine
theorem news_nil {h₀ h : Heap} {L : Addr} {l : List (Addr × Obj)} (N : News h₀ L h l) : News h₀ L h (l ++ []) := by rw [List.append_nil]; exact N
theorem CompEnd_stop {h₀ : Heap} {L : Addr} {m : Str → Option Value} {s₁ : Shared} {I : Addr} {oI : Obj} {C : Addr} {oC : Obj} {D : Addr} {oD : Obj} {S : List (Addr × Obj) → Prop} {rest : Value → List (Addr × Obj) → Prop} {y : Value} {s₂ : Shared} (h : LCg.CompEnd h₀ L m s₁ I oI C oC D oD S rest y s₂) : LCg.CompEnd h₀ L m s₁ I oI C oC D oD S rest y s₂ := h
theorem off3_snoc {I C D : Addr} {l : List (Addr × Obj)} {p : Addr × Obj} (h : LCg.Off3 I C D l) (k : (@Ne Nat p.1 I) ∧ (@Ne Nat p.1 C) ∧ (@Ne Nat p.1 D)) : LCg.Off3 I C D (l ++ [p]) := by
  induction l with
  | nil => exact ⟨k, trivial⟩
  | cons q r ih => exact ⟨h.1, ih h.2⟩
theorem comp_sub {T I C D : Addr × Obj} {pre tl : List (Addr × Obj)} {all : List (Addr × Obj)} (h : ∀ p ∈ T :: I :: C :: D :: (pre ++ tl), p ∈ all) : ∀ p ∈ I :: C :: D :: (pre ++ (tl ++ [T])), p ∈ all := by
  intro p hp
  refine h p ?_
  rcases List.mem_cons.mp hp with rfl | hp
  · exact .tail _ (.head _)
  rcases List.mem_cons.mp hp with rfl | hp
  · exact .tail _ (.tail _ (.head _))
  rcases List.mem_cons.mp hp with rfl | hp
  · exact .tail _ (.tail _ (.tail _ (.head _)))
  rcases List.mem_append.mp hp with hp | hp
  · exact .tail _ (.tail _ (.tail _ (.tail _ (List.mem_append_left _ hp))))
  rcases List.mem_append.mp hp with hp | hp
  · exact .tail _ (.tail _ (.tail _ (.tail _ (List.mem_append_right _ hp))))
  · obtain rfl := List.mem_singleton.mp hp
    exact .head _
theorem off3_snoc2 {I C D : Addr} {pre tl : List (Addr × Obj)} {p : Addr × Obj} (h : LCg.Off3 I C D (pre ++ tl)) (k : (@Ne Nat p.1 I) ∧ (@Ne Nat p.1 C) ∧ (@Ne Nat p.1 D)) : LCg.Off3 I C D (pre ++ (tl ++ [p])) := by
  rw [← List.append_assoc]
  exact off3_snoc h k
theorem snoc_sub {tl : List (Addr × Obj)} {T : Addr × Obj} : ∀ p ∈ tl, p ∈ tl ++ [T] := fun _ hp => List.mem_append_left _ hp
theorem snoc_mem {tl : List (Addr × Obj)} {T : Addr × Obj} : T ∈ tl ++ [T] := List.mem_append_right _ (.head _)
theorem off_snoc {d : Addr} {tl : List (Addr × Obj)} {T : Addr × Obj} (h : Off d tl) (k : @Ne Nat T.1 d) : Off d (tl ++ [T]) := fun p hp => (List.mem_append.mp hp).elim (h p) fun q => by rw [List.mem_singleton.mp q]; exact k
local macro_rules | `(tactic| walk_at "pairEnd") => `(tactic| ((with_reducible rename News _ _ _ _ => nE); (with_reducible rename Fr _ _ _ _ => fE); (with_reducible rename _ < _ ∧ _ < _ ∧ _ < _ ∧ _ => lA); (with_reducible rename LCg.Off3 _ _ _ _ => oE); refine LCg.CompEnd.intro fE nE _ (comp_sub (fun _ h => h)) (off3_snoc2 oE ⟨(Nat.ne_of_lt lA.1).symm, (Nat.ne_of_lt lA.2.1).symm, (Nat.ne_of_lt lA.2.2.1).symm⟩) trivial ⟨_, rfl, snoc_sub, ?_, ⟨_, _, _, rfl, snoc_mem⟩⟩))
theorem rangeKs_at {a : Int} {n i : Nat} {v : Value} (hi : i < n) (h : ∃ t, v = .int (a + (i : Int)) t) : ∃ k t, (rangeKs a n)[i]? = some k ∧ v = .int k t := by
  obtain ⟨t, e⟩ := h
  exact ⟨_, t, by simp [rangeKs, List.getElem?_map, List.getElem?_range hi], e⟩
noncomputable def mvBase (i j : Int) : List (Int × Int) := (rangeKs 0 (i - 0).toNat).map (fun k => (k, j)) ++ (rangeKs 0 (j - 0).toNat).map (fun k => (i, k))
noncomputable def mvK (i j z k : Int) : List (Int × Int) := (rangeKs 1 ((if z - 1 - k < j then z - 1 - k else j) + 1 - 1).toNat).map fun m => (i - k, j - m)
noncomputable def mvN (i j z : Int) : Nat → List (Int × Int)
  | 0 => mvBase i j
  | n + 1 => mvN i j z n ++ mvK i j z (1 + (n : Int))
noncomputable def movesL (i j z : Int) : List (Int × Int) := mvN i j z (i + 1 - 1).toNat
structure MvS where
  vs : List Value
  ep : Nat
  ok : Obj
  kv : Option Value
  o2 : Obj
  o3 : Obj
  tl : List (Addr × Obj)
structure MvF (D3 K3 : Addr) (i j : Int) (t1 t2 : Tok) (rest : List (Addr × Obj)) (st : MvS) : Prop where
  fK : st.ok.data = .cell st.kv
  fJ : st.o2.data = .cell (some (.int j t2))
  fI : st.o3.data = .cell (some (.int i t1))
  fO : Off D3 (rest ++ st.tl)
  fO2 : Off K3 (rest ++ st.tl)
structure MvP (i j z : Int) (rest : List (Addr × Obj)) (n : Nat) (st : MvS) : Prop where
  all : All2 (PairIn (rest ++ st.tl)) st.vs (mvN i j z n)
  len : st.vs.length ≤ 8 + 4 * n
theorem All2.map {α β γ : Type} {R : α → β → Prop} {R' : β → γ → Prop} (f : α → γ) (h : ∀ a b, R a b → R' b (f a)) : ∀ {as : List α} {bs : List β}, All2 R as bs → All2 R' bs (as.map f)
  | _, _, .nil => .nil
  | _, _, .cons x t => .cons (h _ _ x) (t.map f h)
theorem All2.app {α β : Type} {R : α → β → Prop} : ∀ {as as' : List α} {bs bs' : List β}, All2 R as bs → All2 R as' bs' → All2 R (as ++ as') (bs ++ bs')
  | _, _, _, _, .nil, k => k
  | _, _, _, _, .cons x t, k => .cons x (t.app k)
theorem news_nil5 {h₀ h : Heap} {L : Addr} {a b c d : Addr × Obj} {l : List (Addr × Obj)} (N : News h₀ L h (a :: b :: c :: d :: l)) : News h₀ L h (a :: b :: c :: d :: (l ++ [])) := by rw [List.append_nil]; exact N
theorem min_le4 {j x z : Int} (hj : 0 ≤ j ∧ j ≤ 4) (_hz : 1 ≤ z ∧ z ≤ 4) : min j x ≤ 4 := by omega
theorem mv_sub {d4 i9 d3 c1 c2 c3 : Addr × Obj} {nw tl3 tl4 : List (Addr × Obj)} : ∀ p ∈ [i9] ++ (d3 :: c1 :: c2 :: c3 :: (nw ++ (tl3 ++ tl4))), p ∈ [d4, i9] ++ d3 :: c1 :: c2 :: c3 :: (nw ++ tl3 ++ tl4) := by
  intro p hp
  rw [← List.append_assoc] at hp
  exact .tail _ hp
theorem mv_off {I : Addr} {d3 c1 c2 c3 c1' : Addr × Obj} {nw tl3 tl4 : List (Addr × Obj)} (h : Off I (d3 :: c1 :: c2 :: c3 :: (nw ++ tl3))) (k : Off I tl4) {d3' : Addr × Obj} (e1 : d3'.1 = d3.1 := by rfl) (e2 : c1'.1 = c1.1 := by rfl) : Off I (d3' :: c1' :: c2 :: c3 :: (nw ++ (tl3 ++ tl4))) := by
  intro p hp
  rcases List.mem_cons.mp hp with rfl | hp
  · rw [e1]; exact h _ (.head _)
  rcases List.mem_cons.mp hp with rfl | hp
  · rw [e2]; exact h _ (.tail _ (.head _))
  rcases List.mem_cons.mp hp with rfl | hp
  · exact h _ (.tail _ (.tail _ (.head _)))
  rcases List.mem_cons.mp hp with rfl | hp
  · exact h _ (.tail _ (.tail _ (.tail _ (.head _))))
  rw [← List.append_assoc] at hp
  rcases List.mem_append.mp hp with hp | hp
  · exact h _ (.tail _ (.tail _ (.tail _ (.tail _ hp))))
  · exact k _ hp
theorem mv_led {h₀ h : Heap} {L : Addr} {d3 c1 c2 c3 : Addr × Obj} {news tl tl2 tl3 : List (Addr × Obj)} (N : News h₀ L h (d3 :: c1 :: c2 :: c3 :: (news ++ tl ++ tl2 ++ tl3))) : News h₀ L h (d3 :: (news ++ (tl ++ tl2 ++ tl3))) := fun p hp => N p (by
  rcases List.mem_cons.mp hp with rfl | hp
  · exact .head _
  · simp only [List.append_assoc] at hp ⊢
    exact .tail _ (.tail _ (.tail _ (.tail _ hp))))
theorem mv_base {i j z : Int} {nw : List (Addr × Obj)} {ys ys2 : List Value} (h : All2 (fun k y => PairIn nw y (k, j)) (rangeKs 0 (i - 0).toNat) ys) (h2 : All2 (fun k y => PairIn nw y (i, k)) (rangeKs 0 (j - 0).toNat) ys2) : All2 (PairIn nw) (ys ++ ys2) (mvN i j z 0) :=
  All2.app (h.map (fun k => (k, j)) fun _ _ x => x) (h2.map (fun k => (i, k)) fun _ _ x => x)
local macro_rules | `(tactic| k_all) => `(tactic| exact Off.out (by with_reducible assumption))
theorem drop23 {h₀ h : Heap} {L : Addr} {a b c : Addr × Obj} {news : List (Addr × Obj)} (N : News h₀ L h (a :: b :: c :: news)) : News h₀ L h (a :: news) := fun r hr => N r (by
  rcases List.mem_cons.mp hr with rfl | hr
  · exact .head _
  · exact .tail _ (.tail _ (.tail _ hr)))
theorem c_moves (w : World) (i j z : Int) (t1 t2 t3 : Tok) (hi : 0 ≤ i ∧ i ≤ 4)  (hj : 0 ≤ j ∧ j ≤ 4) (hz : 1 ≤ z ∧ z ≤ 4) (news : List (Addr × Obj))  : CallsN w 6 304 [.int i t1, .int j t2, .int z t3] news (fun r news' => ∃ a vs ep tl, r = .ref a ∧ All2 (PairIn (news ++ tl)) vs (movesL i j z) ∧ news' = (a, W.listOf vs.toArray ep) :: (news ++ tl)) := by
  unfold CallsN
  intro p loose mean mg mb dp un gd cn cs a ccd cl outer A₀ base h₀ L m s Q E B F X N T hk hd hu hret
  refine wpAny_call ?_
  k_dflt (refine' code_defC ?k1 ?k2 ?k3 ?k4 ?k5 ?kA ?kF ?kK ?k6 ?k7 ?k8 ?k9 ?kB ?kD ?_ ?c2 ?c3 ?c4; (case kA => exact rfl); (case kF => exact rfl); (case kK => assumption); (case k1 => k_asm); (case k2 => k_asm); (case k3 => k_asm); (case k4 => k_asm); (case k5 => k_asm); (case k6 => k_is); (case k7 => k_is); (case k8 => ktr_room); (case k9 => exact BindsTo.of_eq rfl); (case kB => exact rfl); (case kD => decide +kernel); (case c2 => exact rfl); (case c3 => exact rfl); (case c4 => exact rfl); k_whole; intro g' L' h' tk' cells' FG' F' N' Y' B' X' T' l1; k_cells Y'; (try simp only [List.cons_append, List.nil_append] at N'); (try dsimp only); (try k_fold))
  (repeat (fail_if_success (with_reducible show wpAny _ _ (eval (Expr.ListComp _ _ _ _) _) _ _ _)); first | (k_unfold; (try dsimp only)) | walk1 | (dsimp only; walk1))
  k_dflt (refine LCg.ListComp_U (F₀ := by k_asm) (by with_unfolding_all rfl) (by decide) (by rfl) (by decide) (by rfl) ?_)
  (repeat (fail_if_success (with_reducible refine CompSrc_stop ?_)); first | walk1 | (dsimp only; walk1))
  (with_reducible rename Fr _ _ _ _ => lF)
  (with_reducible rename News _ _ _ _ => lN)
  (with_reducible rename IsRange _ _ _ _ _ _ _ _ => lR)
  have lM := news_nil lN
  k_dflt (refine LCg.CompSrc.range (by rfl) lF lM lR (small_one (by omega) (by omega) (by omega) (by omega)) (rangeSize_nat _ _) (by rw [PySem.sizeLine_eq]; omega) ?_)
  intro gg
  refine kmp_restV _ [] (Off (L' + 1 + 1 + 1)) (fun tl k y => PairIn tl y (k, j)) (fun _ _ _ _ h k => h.mono k) (rangeKs_length _ _) (fun i v hi h => rangeKs_at hi h) trivial off_nil ?turn ?fin
  case turn =>
    intro k' t' I' oI' C' oC' D' m' ys' tl' h' tk' E' hk' hC' hx' F' N' off' ne' _ hV'
    have off2 := off'
    dsimp only [List.cons_append] at N'
    repeat' (first | (k_unfold; (try dsimp only)) | (k_end; wrow_close) | ((fail_if_success (with_reducible refine CompEnd_stop ?_)); walk1) | ((fail_if_success (with_reducible refine CompEnd_stop ?_)); dsimp only; walk1) | (leave1; walk_say "STEP leave1"; (try dsimp only)) | fail "no step")
    k_dflt walk_at "pairEnd"
    exact off_snoc hV' (by (with_reducible rename _ < _ ∧ _ < _ ∧ _ < _ ∧ _ => lA); show @Ne Nat _ _; dsimp only; omega)
  case fin =>
    clear lF lN lM lR
    rintro ys tl htl hV1 hy D1 h1 tk1 F1 N1 -
    (try dsimp only [List.cons_append] at N1)
    (try k_fold)
    (repeat (fail_if_success (with_reducible show wpAny _ _ (eval (Expr.ListComp _ _ _ _) _) _ _ _)); first | (k_unfold; (try dsimp only)) | walk1 | (dsimp only; walk1))
    k_dflt (refine LCg.ListComp_U (F₀ := by k_asm) (by with_unfolding_all rfl) (by decide) (by rfl) (by decide) (by rfl) ?_)
    (repeat (fail_if_success (with_reducible refine CompSrc_stop ?_)); first | walk1 | (dsimp only; walk1))
    (with_reducible rename Fr _ _ _ _ => lF)
    (with_reducible rename News _ _ _ _ => lN)
    (with_reducible rename IsRange _ _ _ _ _ _ _ _ => lR)
    have lM := news_nil lN
    k_dflt (refine LCg.CompSrc.range (by rfl) lF lM lR (small_one (by omega) (by omega) (by omega) (by omega)) (rangeSize_nat _ _) (by rw [PySem.sizeLine_eq]; omega) ?_)
    intro gg
    refine kmp_restV _ [] (Off (L' + 1 + 1 + 1)) (fun tl k y => PairIn tl y (i, k)) (fun _ _ _ _ h k => h.mono k) (rangeKs_length _ _) (fun i v hi h => rangeKs_at hi h) trivial off_nil ?turn ?fin
    case turn =>
      intro k' t' I' oI' C' oC' D' m' ys' tl' h' tk' E' hk' hC' hx' F' N' off' ne' _ hV'
      have off2 := off'
      dsimp only [List.cons_append] at N'
      repeat' (first | (k_unfold; (try dsimp only)) | (k_end; wrow_close) | ((fail_if_success (with_reducible refine CompEnd_stop ?_)); walk1) | ((fail_if_success (with_reducible refine CompEnd_stop ?_)); dsimp only; walk1) | (leave1; walk_say "STEP leave1"; (try dsimp only)) | fail "no step")
      k_dflt walk_at "pairEnd"
      exact off_snoc hV' (by (with_reducible rename _ < _ ∧ _ < _ ∧ _ < _ ∧ _ => lA); show @Ne Nat _ _; dsimp only; omega)
    case fin =>
      clear lF lN lM lR
      rintro ys2 tl2 htl2 hV2 hy2 D2 h2 tk2 F2 N2 -
      (try dsimp only [List.cons_append] at N2)
      (try k_fold)
      (repeat (fail_if_success (with_reducible show wpAny _ _ (binaryOp Operator.Add (Value.ref _) (Value.ref _)) _ _ _)); first | (k_unfold; (try dsimp only)) | walk1 | (dsimp only; walk1))
      have hl1 := hy.length
      have hl2 := hy2.length
      rw [rangeKs_length] at hl1 hl2
      k_dflt (refine li_add F2 N2 (.tail _ (.head _)) (.head _) (by rw [PySem.sizeLine_eq]; omega) ?_)
      clear F2 N2
      intro D3 h3 F3 N3 l3
      (try dsimp only)
      (try k_fold)
      (repeat (fail_if_success (with_reducible show wpAny _ _ (exec (Stmt.For _ _ _ _ _) _) _ _ _)); first | (k_unfold; (try dsimp only)) | walk1 | (dsimp only; walk1))
      (with_reducible rename Fr _ _ _ _ => lF)
      k_dflt (refine For_turns lF ?_)
      (repeat (fail_if_success (with_reducible show wpAny _ _ (pyIter _) _ _ _)); first | (k_unfold; (try dsimp only)) | walk1 | (dsimp only; walk1))
      (with_reducible rename Fr _ _ _ _ => lF)
      (with_reducible rename News _ _ _ _ => lN)
      (with_reducible rename IsRange _ _ _ _ _ _ _ _ => lR)
      have lM := drop23 lN
      have hoff : Off D3 ((news ++ tl ++ tl2) ++ []) := fun q hq => Nat.ne_of_lt (l3 q (.tail _ (.tail _ (.tail _ (.tail _ (.tail _ (by rw [List.append_nil] at hq; exact hq)))))))
      have hoff2 : Off (L' + 1 + 1 + 1) ((news ++ tl ++ tl2) ++ []) := by
        rw [List.append_nil]
        exact Off.app (Off.app (fun q hq => Nat.ne_of_lt (Nat.lt_of_lt_of_le (l1 q hq) (Nat.le_add_right L' 3))) hV1) hV2
      have hD3 : L' + 1 + 1 + 1 < D3 := l3 _ (.tail _ (.tail _ (.head _)))
      have hA : All2 (PairIn ((news ++ tl ++ tl2) ++ [])) (ys ++ ys2) (mvN i j z 0) := by
        rw [List.append_nil]
        exact mv_base (hy.imp fun a b h => h.mono fun q hq => List.mem_append_left _ (List.mem_append_right _ hq)) (hy2.imp fun a b h => h.mono fun q hq => List.mem_append_right _ hq)
      have hB : (ys ++ ys2).length ≤ 8 + 4 * 0 := by rw [List.length_append]; omega
      refine tl_range (σ := MvS) (fun st => (D3, W.listOf st.vs.toArray st.ep) :: (L' + 1 + 1 + 1, st.ok) :: (L' + 1 + 1, st.o2) :: (L' + 1, st.o3) :: ((news ++ tl ++ tl2) ++ st.tl)) (fun _ => []) (MvF D3 (L' + 1 + 1 + 1) i j t1 t2 (news ++ tl ++ tl2)) [] (MvP i j z (news ++ tl ++ tl2)) ⟨ys ++ ys2, 0, _, _, _, _, []⟩ (by rfl) lR (small_one (by omega) (by omega) (by omega) (by omega)) (rangeSize_nat _ _) lF (news_nil5 lM) ⟨by assumption, by assumption, by assumption, hoff, hoff2⟩ (List.forall_mem_nil _) ⟨hA, hB⟩ ?turn ?done
      case turn =>
        clear lF lN lM lR
        rintro ⟨vs, ep, ok, kv, o2, o3, tl3⟩ n t u h9 tk9 I9 o9 hn hoI ⟨fK, fJ, fI, fO, fO2⟩ hP F9 N9
        dsimp only at hoI fK fJ fI fO fO2 F9 N9 ⊢
        (try k_fold)
        have hI1 : @Ne Nat D3 I9 := hoI _ (.head _)
        have hI2 : @Ne Nat (L' + 1 + 1 + 1) I9 := hoI _ (.tail _ (.head _))
        (repeat (fail_if_success (with_reducible show wpAny _ _ (storeName _ _ _) _ _ _)); first | (k_unfold; (try dsimp only)) | walk1 | (dsimp only; walk1))
        have hall : ∀ q ∈ (L' + 1 + 1, o2) :: (L' + 1, o3) :: (news ++ tl ++ tl2 ++ tl3), q.1 ≠ L' + 1 + 1 + 1 := List.forall_mem_cons.mpr ⟨Nat.ne_of_lt (Nat.lt_succ_self _), List.forall_mem_cons.mpr ⟨Nat.ne_of_lt (Nat.lt_succ_of_lt (Nat.lt_succ_self _)), fO2⟩⟩
        k_dflt (refine' storeX_C ?F ?N ?c (UpdF.tail (p := (I9, o9)) (Ne.symm hI2) (UpdF.tail (p := (D3, W.listOf vs.toArray ep)) (Nat.ne_of_lt hD3).symm (UpdF.head hall))) fK ?_ ?a ?b; (case a => rfl); (case b => rfl); (case F => k_asm); (case N => k_asm); (case c => rfl); k_whole)
        clear F9 N9
        intro h' o' F' N' d'
        (try dsimp only at N')
        (repeat (fail_if_success (with_reducible show wpAny _ _ (eval (Expr.ListComp _ _ _ _) _) _ _ _)); first | (k_unfold; (try dsimp only)) | walk1 | (dsimp only; walk1))
        k_dflt (refine LCg.ListComp_U (F₀ := by k_asm) (by with_unfolding_all rfl) (by decide) (by rfl) (by decide) (by rfl) ?_)
        (repeat (fail_if_success (with_reducible refine CompSrc_stop ?_)); first | walk1 | (dsimp only; walk1))
        (with_reducible rename Fr _ _ _ _ => lF)
        (with_reducible rename News _ _ _ _ => lN)
        (with_reducible rename IsRange _ _ _ _ _ _ _ _ => lR)
        have lM := news_nil lN
        have hmn := min_le4 (j := j) (x := z - 1 - (1 + (n : Int))) hj hz
        k_dflt (refine LCg.CompSrc.range (by rfl) lF lM lR (small_one (by omega) (by omega) (by omega) (by omega)) (rangeSize_nat _ _) (by rw [PySem.sizeLine_eq]; omega) ?_)
        intro gg
        refine kmp_restV _ [] (fun l => Off D3 l ∧ Off (L' + 1 + 1 + 1) l ∧ Off I9 l) (fun tl k y => PairIn tl y (i - (1 + (n : Int)), j - k)) (fun _ _ _ _ h k => h.mono k) (rangeKs_length _ _) (fun i v hi h => rangeKs_at hi h) trivial ⟨off_nil, off_nil, off_nil⟩ ?turn ?fin
        case turn =>
          intro k' t' I' oI' C' oC' D' m' ys' tl' h' tk' E' hk' hC' hx' F' N' off' ne' _ hV'
          have off2 := off'
          dsimp only [List.cons_append] at N'
          repeat' (first | (k_unfold; (try dsimp only)) | (k_end; wrow_close) | ((fail_if_success (with_reducible refine CompEnd_stop ?_)); walk1) | ((fail_if_success (with_reducible refine CompEnd_stop ?_)); dsimp only; walk1) | (leave1; walk_say "STEP leave1"; (try dsimp only)) | fail "no step")
          k_dflt walk_at "pairEnd"
          (with_reducible rename _ < _ ∧ _ < _ ∧ _ < _ ∧ _ => lA)
          exact ⟨off_snoc hV'.1 (by show @Ne Nat _ _; dsimp only; omega), off_snoc hV'.2.1 (by show @Ne Nat _ _; dsimp only; omega), off_snoc hV'.2.2 (by show @Ne Nat _ _; dsimp only; omega)⟩
        case fin =>
          clear lF lN lM lR
          rintro ys4 tl4 htl4 hV4 hy4 D4 h4 tk4 F4 N4 O4
          (try dsimp only [List.cons_append] at N4)
          (try k_fold)
          (repeat (fail_if_success (with_reducible show wpAny _ _ (call (Value.builtin "list.extend") _) _ _ _)); first | (k_unfold; (try dsimp only)) | walk1 | (dsimp only; walk1))
          k_unfold
          (try dsimp only)
          have hl4 := hy4.length
          rw [rangeKs_length] at hl4
          have hlv := hP.len
          have hap : ∀ q ∈ (L' + 1 + 1 + 1, o') :: (L' + 1 + 1, o2) :: (L' + 1, o3) :: (news ++ tl ++ tl2 ++ tl3 ++ tl4), q.1 ≠ D3 :=
            List.forall_mem_cons.mpr ⟨Nat.ne_of_lt hD3, List.forall_mem_cons.mpr ⟨Nat.ne_of_lt (Nat.lt_trans (Nat.lt_succ_self _) hD3), List.forall_mem_cons.mpr ⟨Nat.ne_of_lt (Nat.lt_trans (Nat.lt_trans (Nat.lt_succ_self _) (Nat.lt_succ_self _)) hD3), Off.app fO hV4.1⟩⟩⟩
          k_dflt (refine extend_in (own := [(D4, LCg.lst ys4), (I9, o9)]) (rest := (L' + 1 + 1 + 1, o') :: (L' + 1 + 1, o2) :: (L' + 1, o3) :: (news ++ tl ++ tl2 ++ tl3 ++ tl4)) (D := D3) (b := D4) (ys := vs) (its2 := ys4.toArray) (n := ep) F4 N4 (List.forall_mem_cons.mpr ⟨O4.2.1.symm, List.forall_mem_singleton.mpr hI1.symm⟩) hap (N4 _ (.head _)).1 ?_ (by rw [PySem.sizeLine_eq, List.size_toArray]; dsimp only at hlv; omega))
          clear F4 N4
          intro h5 n5 F5 N5
          (try dsimp only)
          (try k_fold)
          repeat' (first | (k_unfold; (try dsimp only)) | (k_end; wrow_close) | ((fail_if_success (with_reducible refine UnrEndW_stop ?_)); walk1) | ((fail_if_success (with_reducible refine UnrEndW_stop ?_)); dsimp only; walk1) | (leave1; walk_say "STEP leave1"; (try dsimp only)) | fail "no step")
          (with_reducible rename News _ _ _ _ => nE)
          (with_reducible rename Fr _ _ _ _ => nF)
          refine tl_end (⟨vs ++ ys4, n5, o', _, o2, o3, tl3 ++ tl4⟩ : MvS) nF nE (mv_sub) (List.forall_mem_singleton.mpr (mv_off hoI hV4.2.2)) (List.forall_mem_nil _) ?_ ⟨d', fJ, fI, by rw [← List.append_assoc]; exact Off.app fO hV4.1, by rw [← List.append_assoc]; exact Off.app fO2 hV4.2.1⟩ ?_
          · intro z h1 h2; simp [kstB]
          · refine ⟨?_, ?_⟩
            · dsimp only
              rw [← List.append_assoc]
              exact All2.app (hP.all.imp fun a b h => h.mono fun q hq => List.mem_append_left _ hq) (All2.map (R := fun k y => PairIn tl4 y (i - (1 + (n : Int)), j - k)) (R' := PairIn (news ++ tl ++ tl2 ++ tl3 ++ tl4)) (fun k => (i - (1 + (n : Int)), j - k)) (fun a b h => PairIn.mono h fun q hq => List.mem_append_right _ hq) hy4)
            · dsimp only at hlv ⊢
              rw [List.length_append]
              omega
      case done =>
        clear lF lN lM lR
        rintro ⟨vs, ep, ok, kv, o2, o3, tl3⟩ u h9 tk9 ⟨fK, fJ, fI, fO, fO2⟩ hP F9 N9
        dsimp only at fK fJ fI fO fO2 F9 N9 ⊢
        (try k_fold)
        (repeat (first | (k_unfold; (try dsimp only)) | walk1 | (dsimp only; walk1)))
        exact hret.out _ _ _ _ (by k_asm) (mv_led (by k_asm)) ⟨D3, vs, ep, tl ++ tl2 ++ tl3, rfl, hP.all.imp fun a b h => h.mono fun q hq => by simpa [List.append_assoc] using hq, rfl⟩
end Mine

end

section
open PySem PySem.W PyProof.Rows
namespace Mine
theorem filter_tt9 {α : Type} (l : List α) : l.filter (fun _ => true) = l := List.filter_eq_self.mpr fun _ _ => rfl
noncomputable def drawL (ns : List Int) : List Int := (((ns.take 6).filter fun _ => true).map fun a => a.fmod (10 ^ Int.toNat 6)) ++ [3, 2, 2, 5, 86, 40107].drop (((ns.take 6).length : Nat) : Int).toNat
theorem draw_len (ns : List Int) : (drawL ns).length = 6 := by
  unfold drawL
  rw [List.length_append, List.length_drop, List.length_map, filter_tt9, List.length_take]
  simp only [List.length_cons, List.length_nil, Int.toNat_natCast]
  omega
theorem draw_size (ns : List Int) : ((ns.take 6).filter fun _ => true).length + ([3, 2, 2, 5, 86, 40107].drop (((ns.take 6).length : Nat) : Int).toNat : List Int).length ≤ 16777216 := by
  rw [filter_tt9, List.length_take, List.length_drop]
  simp only [List.length_cons, List.length_nil]
  omega
theorem draw_range (ns : List Int) : ∀ x ∈ drawL ns, 0 ≤ x ∧ x < 1000000 := by
  intro x hx
  rcases List.mem_append.mp hx with h | h
  · obtain ⟨y, _, rfl⟩ := List.mem_map.mp h
    exact ⟨Int.fmod_nonneg_of_pos _ (by decide), Int.fmod_lt_of_pos _ (by decide)⟩
  · have := List.mem_of_mem_drop h
    simp only [List.mem_cons, List.not_mem_nil, or_false] at this
    rcases this with rfl | rfl | rfl | rfl | rfl | rfl <;> decide
theorem draw_led {h₀ h : Heap} {L : Addr} {a b c d e : Addr × Obj} {news : List (Addr × Obj)} (N : News h₀ L h (a :: b :: c :: d :: e :: news)) : News h₀ L h (a :: news) := fun r hr => N r (by
  rcases List.mem_cons.mp hr with rfl | hr
  · exact .head _
  · exact .tail _ (.tail _ (.tail _ (.tail _ (.tail _ hr)))))
theorem c_draw (w : World) (l : Addr) (vs : List Value) (ns : List Int) (hI : IntsAre vs ns) (hns : ns.length ≤ 63) (news : List (Addr × Obj)) 
   (p : Program) (loose : List Str) (mean : ExcName → Option Value) (mg mb : Str → Option Value) (dp un : Nat) (gd : Option (List Code)) (cn : Str) (cs : Scope) (a : Addr) (ccd : Value) (cl : List (Str × Addr)) (outer : List Env) (A₀ : Around) (base h₀ : Heap) (L : Addr) (m : Str → Option Value) (s : Shared) (Q E : Value → Shared → Prop)
   (hL : h₀.IsList l vs.toArray) (B : Below A₀ base outer h₀) (F : Fr h₀ L s.heap m) (X : (kx w.params).In h₀) (N : News h₀ L s.heap news) (T : Top p loose mean mg mb h₀) (hk : cs.kind = .function) (hd : dp + 4 < recursionLimit) (hu : un + 10 * 4 < cLine)
   (hret : NRet h₀ L m s (fun r news' => ∃ a vs' ep d, r = .ref a ∧ IntsAre vs' d ∧ d.length = 6 ∧ (∀ x ∈ d, 0 ≤ x ∧ x < 1000000) ∧ news' = (a, W.listOf vs'.toArray ep) :: news) Q) :
    wpAny (model pw w) (ktrTop dp un gd cn cs L a ccd cl outer) (call (.ref 299) [.ref l]) Q E s := by
  refine wpAny_call ?_
  k_dflt cell_enter
  (with_reducible rename Fr h₀ L _ m => FGx)
  have hLg := hL.at fun o e => FGx.keep _ _ e
  clear hL
  (repeat (fail_if_success (with_reducible show wpAny _ _ (subscriptTail (Expr.Name (Str.ofString "_") _) _ (Value.ref _) (Value.ref _)) _ _ _)); first | (k_unfold; (try dsimp only)) | walk1 | (dsimp only; walk1))
  (with_reducible rename Fr _ _ _ _ => lF)
  (with_reducible rename News _ _ _ _ => lN)
  have hlit : ∀ a b c d e f : Tok, IntsAre [.int 3 a, .int 2 b, .int 2 c, .int 5 d, .int 86 e, .int 40107 f] [3, 2, 2, 5, 86, 40107] := fun a b c d e f => .cons _ _ (.cons _ _ (.cons _ _ (.cons _ _ (.cons _ _ (.cons _ _ .nil)))))
  k_dflt (refine kmk_slice_ints (vs := [.int 3 _, .int 2 _, .int 2 _, .int 5 _, .int 86 _, .int 40107 _]) lF lN ⟨_, (lN _ (.head _)).1, rfl, _, rfl⟩ (.int _ _) .none (hlit _ _ _ _ _ _) (kmk_from (hlit _ _ _ _ _ _) (Int.natCast_nonneg _)) rfl ?_ (by with_unfolding_all rfl) (by intro r; with_unfolding_all rfl) (by rw [PySem.sizeLine_eq, List.size_toArray]; exact Nat.le_of_ble_eq_true rfl))
  clear lF lN
  intro D9 ws9 h9 F9 N9 l9 hI9 _ _
  (try dsimp only)
  (try k_fold)
  (repeat (fail_if_success (with_reducible show wpAny _ _ (binaryOp _ _ _) _ _ _)); first | (k_unfold; (try dsimp only)) | walk1 | (dsimp only; walk1))
  (with_reducible rename IntsAre _ (List.map _ _) => iX)
  have hl1 := iX.length
  have hl2 := hI9.length
  have hr := draw_range ns
  have hr2 := draw_len ns
  rw [List.length_map] at hl1
  k_dflt (refine li_add F9 N9 (.tail _ (.tail _ (.head _))) (.head _) (by rw [PySem.sizeLine_eq, hl1, hl2]; exact draw_size ns) ?_)
  clear F9 N9
  intro D8 h8 F8 N8 l8
  (try dsimp only)
  (try k_fold)
  (repeat (first | (k_unfold; (try dsimp only)) | walk1 | (dsimp only; walk1)))
  (with_reducible rename News h₀ L _ _ => nE)
  exact hret.out _ _ _ _ (by k_asm) (draw_led nE) ⟨D8, _, _, _, rfl, iX.append hI9, hr2, hr, rfl⟩
end Mine

end

section
open PySem PySem.W PyProof.Rows
namespace Mine
/-- what the law's caller wants -/
structure LawRet (Q : Flow → Shared → Prop) : Prop where
  out : ∀ s', Q (.ret (.bool true)) s'
theorem six_of {d : List Int} (h : d.length = 6) : ∃ a b c e f g, d = [a, b, c, e, f, g] := by
  match d, h with
  | [a, b, c, e, f, g], _ => exact ⟨a, b, c, e, f, g, rfl⟩
theorem get_b {d : List Int} (h : d.length = 6) (k : ∀ x ∈ d, 0 ≤ x ∧ x < 1000000) (n : Nat) (hn : n < 6) : 0 ≤ d.getD n 0 ∧ d.getD n 0 < 1000000 := by
  have hl : n < d.length := by omega
  rw [List.getD_eq_getElem?_getD, List.getElem?_eq_getElem hl]
  exact k _ (List.getElem_mem hl)
theorem fmod_b (a n : Int) (h : 0 < n) : 0 ≤ a.fmod n ∧ a.fmod n < n := ⟨Int.fmod_nonneg_of_pos _ h, Int.fmod_lt_of_pos _ h⟩
noncomputable def wholeV (z k : Int) : Int := (indentV z (wsRun (KStt.codes (Txt.mul (Str.ofString " ") k ++ Str.ofString "\t")) ws0)).fdiv z - 1
noncomputable def pileC (k : Int) : Str := Txt.mul (Str.ofString " ") k ++ Str.ofString "\t"
theorem wpile_all : ∀ k : Fin 5, (pileC (k.1 : Int)).length < 1000 ∧ (wsRun (KStt.codes (pileC (k.1 : Int))) ws0).cnt.length < 1000 ∧ ∀ e ∈ (wsRun (KStt.codes (pileC (k.1 : Int))) ws0).cnt, 0 ≤ e ∧ e ≤ 1000 := by decide +kernel
theorem wpile_at {k : Int} (h : 0 ≤ k ∧ k ≤ 4) : (pileC k).length < 1000 ∧ (wsRun (KStt.codes (pileC k)) ws0).cnt.length < 1000 ∧ ∀ e ∈ (wsRun (KStt.codes (pileC k)) ws0).cnt, 0 ≤ e ∧ e ≤ 1000 := by
  have e : k = ((⟨k.toNat, by omega⟩ : Fin 5).1 : Int) := by show k = (k.toNat : Int); omega
  rw [e]; exact wpile_all _
theorem wpile_len {k : Int} (h : 0 ≤ k ∧ k ≤ 4) : (Txt.mul (Str.ofString " ") k ++ Str.ofString "\t").length < 1000 := (wpile_at h).1
theorem wpile_cnt {k : Int} (h : 0 ≤ k ∧ k ≤ 4) : (wsRun (KStt.codes (Txt.mul (Str.ofString " ") k ++ Str.ofString "\t")) ws0).cnt.length < 1000 ∧ ∀ e ∈ (wsRun (KStt.codes (Txt.mul (Str.ofString " ") k ++ Str.ofString "\t")) ws0).cnt, 0 ≤ e ∧ e ≤ 1000 := (wpile_at h).2
theorem whole_ints {z : Int} : ∀ {ks : List Int} {ys : List Value}, All2 (fun k y => ∃ t, y = Value.int (wholeV z k) t) ks ys → IntsAre ys (ks.map (wholeV z))
  | _, _, .nil => .nil
  | _, _, .cons h t => by
    obtain ⟨u, rfl⟩ := h
    exact .cons _ _ (whole_ints t)
theorem drop_tl6 {h₀ h : Heap} {L : Addr} {a b c d e f : Addr × Obj} {tl : List (Addr × Obj)} (N : News h₀ L h (a :: b :: c :: d :: ([] ++ [e, f] ++ tl))) : News h₀ L h [a, b, c, d, e, f] := fun p hp => N p (by
  simp only [List.mem_cons, List.not_mem_nil, or_false] at hp
  rcases hp with rfl | rfl | rfl | rfl | rfl | rfl <;> simp)
noncomputable def lfStmt : PySem.Stmt := (bo22.val[9]?).getD (.Pass default)
noncomputable def lfBody : PySem.Stmt → List PySem.Stmt
  | .For _ _ b _ _ => b
  | _ => []
@[reducible] noncomputable def lfFor : { b : PySem.Stmt // lfStmt = b } := ⟨_, by (conv => lhs; whnf; try dsimp only)⟩
@[reducible] noncomputable def lfA : { b : List PySem.Stmt // lfBody lfStmt = b } := ⟨_, by (conv => lhs; whnf; try dsimp only)⟩
@[reducible] noncomputable def lfB : { b : List PySem.Stmt // (lfBody lfStmt).drop 4 = b } := ⟨_, by (conv => lhs; whnf; try dsimp only)⟩
@[reducible] noncomputable def lfC : { b : List PySem.Stmt // (lfBody lfStmt).drop 6 = b } := ⟨_, by (conv => lhs; whnf; try dsimp only)⟩
@[reducible] noncomputable def lfD : { b : List PySem.Stmt // (lfBody lfStmt).drop 10 = b } := ⟨_, by (conv => lhs; whnf; try dsimp only)⟩
@[reducible] noncomputable def lfE : { b : List PySem.Stmt // (lfBody lfStmt).drop 11 = b } := ⟨_, by (conv => lhs; whnf; try dsimp only)⟩
@[reducible] noncomputable def lfR : { b : List PySem.Stmt // bo22.val.drop 10 = b } := ⟨_, by (conv => lhs; whnf; try dsimp only)⟩
noncomputable abbrev lawEnv (L fa : Addr) (cdv : Value) : Env := envOfC (Str.ofString "law") sc22.val L fa cdv
noncomputable abbrev lawA (L fa : Addr) (cdv : Value) : Around := callerA.deeper (lawEnv L fa cdv)
/-- the frame holds these -/
structure Has (m : Str → Option Value) (ps : List (Str × Value)) : Prop where
  all : ∀ p ∈ ps, m p.1 = some p.2
/-- the frame is as before but for these -/
structure Agree (st : List Str) (m m' : Str → Option Value) : Prop where
  out : ∀ z, st.contains z = false → m' z = m z
theorem Has.nil {m : Str → Option Value} : Has m [] := ⟨List.forall_mem_nil _⟩
theorem Has.cons {m : Str → Option Value} {x : Str} {v : Value} {ps : List (Str × Value)} (h : m x = some v) (k : Has m ps) : Has m ((x, v) :: ps) := ⟨List.forall_mem_cons.mpr ⟨h, k.all⟩⟩
theorem Has.kst {m : Str → Option Value} {ps : List (Str × Value)} (h : Has m ps) (z : Str) : kstB m ps z = m z := kstB_eq h.all fun _ => rfl
theorem Has.fr {m : Str → Option Value} {ps : List (Str × Value)} (h : Has m ps) {h₀ g : Heap} {L : Addr} (F : Fr h₀ L g m) : Fr h₀ L g (kstB m ps) := by
  rw [show kstB m ps = m from funext h.kst]; exact F
theorem Has.app {m : Str → Option Value} {ps qs : List (Str × Value)} (h : Has m ps) (k : Has m qs) : Has m (ps ++ qs) := ⟨fun p hp => (List.mem_append.mp hp).elim (h.all p) (k.all p)⟩
theorem Has.agree {m m' : Str → Option Value} {st : List Str} {ps : List (Str × Value)} (h : Has m ps) (k : Agree st m m') (hd : ps.all (fun p => !st.contains p.1) = true) : Has m' ps := ⟨fun p hp => by
  have := List.all_eq_true.mp hd p hp
  rw [k.out p.1 (by simpa using this)]
  exact h.all p hp⟩
theorem Agree.trans {a b : List Str} {m m' m'' : Str → Option Value} (h : Agree a m m') (k : Agree b m' m'') : Agree (a ++ b) m m'' := ⟨fun z hz => by
  have : a.contains z = false ∧ b.contains z = false := by
    simp only [List.contains_eq_mem, List.mem_append, decide_eq_false_iff_not, not_or] at hz ⊢
    exact hz
  rw [k.out z this.2, h.out z this.1]⟩
/-- what follows a part of the turn -/
structure Nxt (w : World) (h₀ : Heap) (L fa : Addr) (cdv : Value) (rest : List PySem.Stmt) (s : Shared) (Q : Flow → Shared → Prop) (E : Value → Shared → Prop) (m : Str → Option Value) (st : List Str) (K : (Str → Option Value) → List (Addr × Obj) → Prop) : Prop where
  out : ∀ h' tk' m' news', Fr h₀ L h' m' → News h₀ L h' news' → Agree st m m' → K m' news' → wpAny (model pw w) (lawA L fa cdv) (execs rest (lawEnv L fa cdv)) Q E { s with heap := h', toks := tk' }
end Mine

end

section
open PySem PySem.W PyProof.Rows
namespace Mine
noncomputable def gv (z i j : Int) : Int := z * Builtin.bitXor (i.fdiv z) (j.fdiv z) + (i + j).fmod z
noncomputable def numV (z i j : Int) : Int := ((movesL i j z).map fun p => (16 : Int) ^ Int.toNat (gv z p.1 p.2)).sum
theorem fin5 {k : Int} (h : 0 ≤ k ∧ k ≤ 4) : ∃ f : Fin 5, k = (f.1 : Int) := ⟨⟨k.toNat, by omega⟩, by show k = (k.toNat : Int); omega⟩
theorem fin4 {k : Int} (h : 1 ≤ k ∧ k ≤ 4) : ∃ f : Fin 4, k = 1 + (f.1 : Int) := ⟨⟨(k - 1).toNat, by omega⟩, by show k = 1 + ((k - 1).toNat : Int); omega⟩
theorem gv_all : ∀ (z : Fin 4) (i j : Fin 5), 0 ≤ gv (1 + (z.1 : Int)) i.1 j.1 ∧ gv (1 + (z.1 : Int)) i.1 j.1 ≤ 7 := by decide +kernel
theorem gv_at {z i j : Int} (hz : 1 ≤ z ∧ z ≤ 4) (hi : 0 ≤ i ∧ i ≤ 4) (hj : 0 ≤ j ∧ j ≤ 4) : 0 ≤ gv z i j ∧ gv z i j ≤ 7 := by
  obtain ⟨a, rfl⟩ := fin4 hz; obtain ⟨b, rfl⟩ := fin5 hi; obtain ⟨c, rfl⟩ := fin5 hj
  exact gv_all a b c
theorem mv_all : ∀ (z : Fin 4) (i j : Fin 5), (movesL i.1 j.1 (1 + (z.1 : Int))).length ≤ 100 ∧ ∀ p ∈ movesL i.1 j.1 (1 + (z.1 : Int)), 0 ≤ p.1 ∧ p.1 ≤ i.1 ∧ 0 ≤ p.2 ∧ p.2 ≤ j.1 ∧ (p.1 < i.1 ∨ p.2 < j.1) := by decide +kernel
theorem mv_at {z i j : Int} (hz : 1 ≤ z ∧ z ≤ 4) (hi : 0 ≤ i ∧ i ≤ 4) (hj : 0 ≤ j ∧ j ≤ 4) : (movesL i j z).length ≤ 100 ∧ ∀ p ∈ movesL i j z, 0 ≤ p.1 ∧ p.1 ≤ i ∧ 0 ≤ p.2 ∧ p.2 ≤ j ∧ (p.1 < i ∨ p.2 < j) := by
  obtain ⟨a, rfl⟩ := fin4 hz; obtain ⟨b, rfl⟩ := fin5 hi; obtain ⟨c, rfl⟩ := fin5 hj
  exact mv_all a b c
theorem num_all : ∀ (z : Fin 4) (i j : Fin 5), 0 ≤ numV (1 + (z.1 : Int)) i.1 j.1 ∧ numV (1 + (z.1 : Int)) i.1 j.1 < 1152921504606846976 ∧ numV (1 + (z.1 : Int)) i.1 j.1 = numV (1 + (z.1 : Int)) j.1 i.1 ∧ gv (1 + (z.1 : Int)) i.1 j.1 = gv (1 + (z.1 : Int)) j.1 i.1 := by decide +kernel
theorem num_at {z i j : Int} (hz : 1 ≤ z ∧ z ≤ 4) (hi : 0 ≤ i ∧ i ≤ 4) (hj : 0 ≤ j ∧ j ≤ 4) : 0 ≤ numV z i j ∧ numV z i j < 1152921504606846976 ∧ numV z i j = numV z j i ∧ gv z i j = gv z j i := by
  obtain ⟨a, rfl⟩ := fin4 hz; obtain ⟨b, rfl⟩ := fin5 hi; obtain ⟨c, rfl⟩ := fin5 hj
  exact num_all a b c
/-- what the dict of values holds at a turn: all that a move leads to -/
structure WorthAt (z i j : Int) (kvs : List (Int × Value)) : Prop where
  all : ∀ a b : Int, 0 ≤ a → a ≤ i → 0 ≤ b → b ≤ j → (a < i ∨ b < j) → ∃ t, valueAt kvs (8 * a + b) = some (.int (gv z a b) t)
theorem get_all2 {α β : Type} {R : α → β → Prop} : ∀ {as : List α} {bs : List β}, All2 R as bs → ∀ {i : Nat} {b : β}, bs[i]? = some b → ∃ a, as[i]? = some a ∧ R a b
  | _, _, .nil, i, a, h => by simp at h
  | _, _, .cons h t, 0, a, e => by simp at e; subst e; exact ⟨_, rfl, h⟩
  | _, _, .cons h t, i + 1, a, e => by simpa using get_all2 t (i := i) (by simpa using e)
section
variable {prog : Program} {w : World} {A : Around} {E : Value → Shared → Prop} {s : Shared} {h₀ : Heap} {L : Addr} {m : Str → Option Value} {env : Env}
theorem gc_pairF {elt iter : PySem.Expr} {x1 x2 : Str} {p1 p2 tp : Pos} {kk : Nat} {scope : Scope} {cl : List (Str × Addr)} {pos : Pos} {Q : Value → Shared → Prop} (_F : Fr h₀ L s.heap m) (hh : A.handled = none)
    (hclos : closureFor scope env = pure cl) (hcell : ∀ y ∈ scope.names, y.2 ≠ .cell) (hkind : scope.kind = .function) (hnames : ∀ y ∈ scope.names, y.2 = .local → scope.names.lookup y.1 = some .local) (hx1 : scope.names.lookup x1 = some .local) (hx2 : scope.names.lookup x2 = some .local) (hxx : x1 ≠ x2) (hs1 : ∀ x, foldedSetIterable iter env x = pure x)
    (h : wpAny (model prog w) A (eval iter env) (fun xv s₁ => wpAny (model prog w) A (pyIter xv) (GpSrc prog w A h₀ L m env s elt x1 x2 p1 p2 tp kk scope cl Q) E s₁) E s) :
    wpAny (model prog w) A (eval (.ListComp elt [⟨.Tuple [.Name x1 p1, .Name x2 p2] kk tp, iter, [], 0⟩] scope pos) env) Q E s :=
  gc_pairS hh hclos hcell hkind hnames hx1 hx2 hxx hs1 h
end
theorem pair_at {L1 L2 : List (Addr × Obj)} {vs : List Value} {ps : List (Int × Int)} (h : All2 (PairIn L1) vs ps) (hs : ∀ q ∈ L1, q ∈ L2) : ∀ (i : Nat) (v : Value), vs[i]? = some v → ∃ (T : Addr) (v1 v2 : Value), v = Value.ref T ∧ (T, ({ cls := .type "tuple", data := .seq #[v1, v2] } : Obj)) ∈ L2 ∧ (∃ (p : Int × Int) (t1 t2 : Tok), ps[i]? = some p ∧ v1 = Value.int p.1 t1 ∧ v2 = Value.int p.2 t2) := by
  intro i v hv
  obtain ⟨p, hp, a, t1, t2, rfl, hm⟩ := h.get hv
  exact ⟨a, _, _, rfl, hs _ hm, p, t1, t2, hp, rfl, rfl⟩
theorem GpEl_stop {h₀ : Heap} {L : Addr} {m : Str → Option Value} {s : Shared} {ws : List (Addr × String)} {its : List (Addr × Obj)} {C : Addr} {oC : Obj} {D : Addr} {oD : Obj} {pre tl : List (Addr × Obj)} {R : List (Addr × Obj) → Value → Prop} {y : Value} {s' : Shared} (h : GpEl h₀ L m s ws its C oC D oD pre tl R y s') : GpEl h₀ L m s ws its C oC D oD pre tl R y s' := h
/-- an element that leaves no object -/
theorem gp_plain {h₀ : Heap} {L : Addr} {m : Str → Option Value} {s : Shared} {ws : List (Addr × String)} {its : List (Addr × Obj)} {C : Addr} {oC : Obj} {D : Addr} {oD : Obj} {pre tl nw : List (Addr × Obj)} {R : List (Addr × Obj) → Value → Prop} {y : Value} {h' : Heap} {tk' : Nat} (F : Fr h₀ L h' m) (N : News h₀ L h' nw) (hs : ∀ q ∈ its ++ (C, oC) :: (D, oD) :: (pre ++ tl), q ∈ nw) (hR : R tl y) : GpEl h₀ L m s ws its C oC D oD pre tl R y { s with heap := h', toks := tk' } :=
  have o : Offs ws [] := fun q hq => absurd hq List.not_mem_nil
  have r : R (tl ++ []) y := by rw [List.append_nil]; exact hR
  have n : News h₀ L h' (its ++ (C, oC) :: (D, oD) :: (pre ++ (tl ++ []))) := by rw [List.append_nil]; exact fun q hq => N q (hs q hq)
  ⟨h', tk', [], rfl, F, n, o, off_nil, off_nil, r⟩
theorem drop_A {h₀ h : Heap} {L : Addr} {a b : Addr × Obj} {led t1 t2 : List (Addr × Obj)} (N : News h₀ L h (a :: (b :: (led ++ t1) ++ t2))) : News h₀ L h (a :: led) := fun q hq => N q (by
  rcases List.mem_cons.mp hq with rfl | hq
  · exact .head _
  · exact .tail _ (List.mem_append_left _ (.tail _ (List.mem_append_left _ hq))))
/-- the powers that the moves add -/
noncomputable def PowAt (z i j : Int) (_ : List (Addr × Obj)) (k : Nat) (y : Value) : Prop := ∃ p t, (movesL i j z)[k]? = some p ∧ y = .int ((16 : Int) ^ Int.toNat (gv z p.1 p.2)) t
theorem pow_ints {z i j : Int} {tl : List (Addr × Obj)} {n : Nat} {ys : List Value} (h : All2 (fun k y => PowAt z i j tl k y) (List.range n) ys) (hn : n = (movesL i j z).length) : IntsAre ys ((movesL i j z).map fun p => (16 : Int) ^ Int.toNat (gv z p.1 p.2)) := by
  subst hn
  have key : ∀ (ps : List (Int × Int)) (k : Nat) (ys : List Value), (∀ r, ps[r]? = (movesL i j z)[k + r]?) → All2 (fun k y => PowAt z i j tl k y) ((List.range ps.length).map (k + ·)) ys → IntsAre ys (ps.map fun p => (16 : Int) ^ Int.toNat (gv z p.1 p.2)) := by
    intro ps
    induction ps with
    | nil =>
      intro k ys _ h
      cases h
      exact .nil
    | cons q r ih =>
      intro k ys hp h
      rw [List.length_cons, List.range_succ_eq_map, List.map_cons, List.map_map] at h
      cases h with
      | cons h1 h2 =>
        obtain ⟨p, t, hp1, rfl⟩ := h1
        have e := hp 0
        rw [hp1] at e
        obtain rfl : q = p := by simpa using e
        refine .cons _ _ (ih (k + 1) _ (fun r' => ?_) ?_)
        · have := hp (r' + 1)
          rw [List.getElem?_cons_succ] at this
          rw [this]; congr 1; omega
        · have e2 : (fun x => k + 1 + x) = (fun x => k + x) ∘ Nat.succ := by funext x; simp [Function.comp]; omega
          rw [e2]; exact h2
  exact key _ 0 ys (fun r => by rw [Nat.zero_add]) (by simpa using h)
end Mine

end

section
open PySem PySem.W PyProof.Rows
namespace Mine
/-- a text's signs -/
noncomputable def sg (x : Str) : List Nat := x.cps.toList
theorem sg_app (a b : Str) : sg (a ++ b) = sg a ++ sg b := by
  show (a.cps ++ b.cps).toList = _
  rw [Array.toList_append]; rfl
theorem sg_len (x : Str) : x.length = (sg x).length := by show x.cps.size = _; rw [sg, Array.length_toList]
theorem sg_inj {a b : Str} (h : sg a = sg b) : a = b := by
  cases a; cases b
  simp only [sg] at h
  congr 1
  exact Array.toList_inj.mp h
theorem sg_one (c : Nat) : sg ⟨#[c]⟩ = [c] := rfl
theorem sg_codes (x : Str) : KStt.codes x = (sg x).map fun (c : Nat) => (c : Int) := rfl
theorem sg_txt (l : List Nat) : KStt.txt (l.map fun (c : Nat) => (c : Int)) = ⟨l.toArray⟩ := by
  unfold KStt.txt
  rw [List.map_map]
  congr 2
  have : (Int.toNat ∘ fun (c : Nat) => (c : Int)) = id := by funext c; simp
  rw [this, List.map_id]
theorem sp_all : ∀ k : Fin 5, sg (Txt.mul (Str.ofString " ") (k.1 : Int)) = List.replicate k.1 32 := by decide +kernel
theorem sg_sp {k : Int} (h : 0 ≤ k ∧ k ≤ 4) : sg (Txt.mul (Str.ofString " ") k) = List.replicate k.toNat 32 := by
  obtain ⟨f, rfl⟩ := fin5 h
  rw [sp_all, Int.toNat_natCast]
theorem sg_tab : sg (Str.ofString "\t") = [9] := by decide +kernel
theorem sg_nil : sg (Str.ofString "") = [] := by decide +kernel
noncomputable def unsN : List Nat := [65024, 65025, 65026, 65027, 65028, 65029, 65030, 65031, 65032, 65033, 65034, 65035, 65036, 65037, 65038, 65039, 173, 847, 6150, 6155, 6156, 6157, 8203, 8204, 8205, 8288, 65279]
noncomputable def besN : List Nat := [172, 174, 846, 848, 6149, 6151, 6154, 6158, 8202, 8206, 8287, 8289, 65023, 65040, 65278, 65280]
theorem uns_all : ∀ f : Fin 27, (if (f.1 : Int) < 16 then (65024 + (f.1 : Int)).toNat else (unseenL.getD ((f.1 : Int) - 16).toNat 0).toNat) ∈ unsN := by decide +kernel
theorem uns_at (k : Int) : unseenC k ∈ unsN := by
  have h : 0 ≤ k.fmod 27 ∧ k.fmod 27 < 27 := ⟨Int.fmod_nonneg_of_pos _ (by decide), Int.fmod_lt_of_pos _ (by decide)⟩
  unfold unseenC
  generalize k.fmod 27 = r at h
  obtain ⟨f, rfl⟩ : ∃ f : Fin 27, r = (f.1 : Int) := ⟨⟨r.toNat, by omega⟩, by show r = (r.toNat : Int); omega⟩
  exact uns_all f
theorem bes_all : ∀ f : Fin 16, (besideL.getD ((f.1 : Int)).toNat 0).toNat ∈ besN := by decide +kernel
theorem bes_at (k : Int) : besideC k ∈ besN := by
  have h : 0 ≤ k.fmod 16 ∧ k.fmod 16 < 16 := ⟨Int.fmod_nonneg_of_pos _ (by decide), Int.fmod_lt_of_pos _ (by decide)⟩
  unfold besideC
  generalize k.fmod 16 = r at h
  obtain ⟨f, rfl⟩ : ∃ f : Fin 16, r = (f.1 : Int) := ⟨⟨r.toNat, by omega⟩, by show r = (r.toNat : Int); omega⟩
  exact bes_all f
/-- a typed text: cuts, signs, tabs, blanks, the sign beside -/
noncomputable def typeL (c1 r1 u1 c2 r2 u2 b bc : Nat) : List Nat := List.replicate c1 32 ++ u1 :: (List.replicate r1 32 ++ 9 :: (List.replicate c2 32 ++ u2 :: (List.replicate r2 32 ++ 9 :: (List.replicate b 32 ++ [bc]))))
noncomputable def plainL (i j b : Nat) : List Nat := List.replicate i 32 ++ 9 :: (List.replicate j 32 ++ 9 :: List.replicate b 32)
structure TypeOf (i j b : Nat) (x : Str) : Prop where
  form : ∃ c1 r1 u1 c2 r2 u2 bc, sg x = typeL c1 r1 u1 c2 r2 u2 b bc ∧ c1 + r1 = i ∧ c2 + r2 = j ∧ u1 ∈ unsN ∧ u2 ∈ unsN ∧ bc ∈ besN
theorem type_of {i j b : Int} (k : Int) (hi : 0 ≤ i ∧ i ≤ 4) (hj : 0 ≤ j ∧ j ≤ 4) (hb : 0 ≤ b ∧ b ≤ 2) : TypeOf i.toNat j.toNat b.toNat (typeS i j b k) := by
  have h1 := cut_fact k i hi.1
  have h2 := cut_fact (k.fdiv 3 + 11) j hj.1
  refine ⟨(k.fmod (i + 1)).toNat, (i - k.fmod (i + 1)).toNat, unseenC k, ((k.fdiv 3 + 11).fmod (j + 1)).toNat, (j - (k.fdiv 3 + 11).fmod (j + 1)).toNat, unseenC (k.fdiv 3 + 11), besideC ((k.fdiv 3 + 11).fdiv 3 + 11), ?_, ?_, ?_, uns_at k, uns_at (k.fdiv 3 + 11), bes_at ((k.fdiv 3 + 11).fdiv 3 + 11)⟩
  · unfold typeS pileS
    simp only [sg_app, sg_one, sg_nil, sg_tab]
    rw [sg_sp (by omega), sg_sp (by omega), sg_sp (by omega), sg_sp (by omega), sg_sp (by omega)]
    unfold typeL
    simp only [List.nil_append, List.append_assoc, List.cons_append]
  · omega
  · omega
/-- the octets of the positions' numbers -/
noncomputable def octOk (x : Str) : Bool := decide (x.length ≤ 21) && (sg x).all fun c => decide (32 ≤ c ∧ c ≠ 127) && keepsC (c : Int)
theorem oct_all : ∀ (z : Fin 4) (i j : Fin 5), octOk (octS (numV (1 + (z.1 : Int)) i.1 j.1)) = true := by decide +kernel
theorem oct_at {z i j : Int} (hz : 1 ≤ z ∧ z ≤ 4) (hi : 0 ≤ i ∧ i ≤ 4) (hj : 0 ≤ j ∧ j ≤ 4) : octOk (octS (numV z i j)) = true := by
  obtain ⟨a, rfl⟩ := fin4 hz; obtain ⟨b, rfl⟩ := fin5 hi; obtain ⟨c, rfl⟩ := fin5 hj
  exact oct_all a b c
theorem uns_facts : ∀ u ∈ unsN, (32 ≤ u ∧ u ≠ 127) ∧ keepsC (u : Int) = false := by decide +kernel
theorem bes_facts : ∀ u ∈ besN, (32 ≤ u ∧ u ≠ 127) ∧ keepsC (u : Int) = true ∧ u ≠ 32 ∧ u ≠ 9 := by decide +kernel
theorem keep_sp : keepsC ((32 : Nat) : Int) = true ∧ keepsC ((9 : Nat) : Int) = true := by decide +kernel
/-- a told text, cleaned -/
theorem clean_told {i j b : Nat} {x o : Str} (h : TypeOf i j b x) (ho : octOk o = true) : ∃ bc ∈ besN, sg (cleanS (KStt.codes (x ++ o))) = plainL i j b ++ bc :: sg o := by
  obtain ⟨c1, r1, u1, c2, r2, u2, bc, hx, rfl, rfl, h1, h2, hb⟩ := h
  refine ⟨bc, hb, ?_⟩
  have f1 := (uns_facts u1 h1).2
  have f2 := (uns_facts u2 h2).2
  have f3 := (bes_facts bc hb).2.1
  have hko : ((sg o).map fun (c : Nat) => (c : Int)).filter keepsC = (sg o).map fun (c : Nat) => (c : Int) := by
    refine List.filter_eq_self.mpr fun a ha => ?_
    obtain ⟨c, hc, rfl⟩ := List.mem_map.mp ha
    unfold octOk at ho
    rw [Bool.and_eq_true] at ho
    have := List.all_eq_true.mp ho.2 c hc
    rw [Bool.and_eq_true] at this
    exact this.2
  have hrep : ∀ n, ((List.replicate n 32).map fun (c : Nat) => (c : Int)).filter keepsC = (List.replicate n 32).map fun (c : Nat) => (c : Int) := fun n => by
    refine List.filter_eq_self.mpr fun a ha => ?_
    obtain ⟨c, hc, rfl⟩ := List.mem_map.mp ha
    rw [(List.mem_replicate.mp hc).2]; exact keep_sp.1
  unfold cleanS
  rw [sg_codes, sg_app, hx]
  unfold typeL plainL
  simp only [List.map_append, List.map_cons, List.map_nil, List.filter_append, List.filter_cons, List.filter_nil, f1, f2, f3, keep_sp.2, hko, hrep, if_true, List.append_assoc, List.cons_append, List.nil_append, Bool.false_eq_true, if_false]
  have e : (List.replicate c1 32).map (fun (c : Nat) => (c : Int)) ++ ((List.replicate r1 32).map (fun (c : Nat) => (c : Int)) ++ ((9 : Nat) : Int) :: ((List.replicate c2 32).map (fun (c : Nat) => (c : Int)) ++ ((List.replicate r2 32).map (fun (c : Nat) => (c : Int)) ++ ((9 : Nat) : Int) :: ((List.replicate b 32).map (fun (c : Nat) => (c : Int)) ++ (bc : Int) :: (sg o).map fun (c : Nat) => (c : Int)))))
      = (List.replicate (c1 + r1) 32 ++ 9 :: (List.replicate (c2 + r2) 32 ++ 9 :: (List.replicate b 32 ++ bc :: sg o))).map fun (c : Nat) => (c : Int) := by
    rw [← List.replicate_append_replicate, ← List.replicate_append_replicate]
    simp only [List.map_append, List.map_cons, List.append_assoc]
  rw [e, sg_txt]
  rfl
theorem wsRun_stop {l o : List Int} {c : Int} (h1 : c ≠ 32) (h2 : c ≠ 9) : ∀ st, wsRun (l ++ c :: o) st = wsRun l st := by
  induction l with
  | nil => intro st; rw [List.nil_append]; show (if c = 32 then _ else if c = 9 then _ else st) = st; rw [if_neg h1, if_neg h2]
  | cons a r ih =>
    intro st
    rw [List.cons_append, wsRun, wsRun]
    split
    · exact ih _
    · split
      · exact ih _
      · rfl
/-- what Whitespace counts of it -/
noncomputable def wsOf (i j b : Nat) : Ws := wsRun ((plainL i j b).map fun (c : Nat) => (c : Int)) ws0
theorem ws_told {i j b bc : Nat} {x o : Str} (hb : bc ∈ besN) (h : sg x = plainL i j b ++ bc :: sg o) : wsRun (KStt.codes x) ws0 = wsOf i j b := by
  have f := (bes_facts bc hb).2.2
  rw [sg_codes, h, List.map_append, List.map_cons, wsRun_stop (by omega) (by omega)]
  rfl
theorem plain_len (i j b : Nat) : (plainL i j b).length = i + j + b + 2 := by
  unfold plainL
  simp only [List.length_append, List.length_cons, List.length_replicate]
  omega
theorem type_len {i j b : Nat} {x : Str} (h : TypeOf i j b x) : x.length = i + j + b + 5 := by
  obtain ⟨c1, r1, u1, c2, r2, u2, bc, hx, rfl, rfl, -⟩ := h
  rw [sg_len, hx]
  unfold typeL
  simp only [List.length_append, List.length_cons, List.length_replicate, List.length_nil]
  omega
theorem oct_len {o : Str} (h : octOk o = true) : o.length ≤ 21 := by
  unfold octOk at h
  rw [Bool.and_eq_true] at h
  exact of_decide_eq_true h.1
theorem told_ok {i j b : Nat} {x o : Str} (h : TypeOf i j b x) (ho : octOk o = true) (hi : i ≤ 4) (hj : j ≤ 4) (hb : b ≤ 2) : OkV (x ++ o) := by
  have hl := type_len h
  have hlo := oct_len ho
  refine ⟨fun c hc => ?_, ?_⟩
  · have hc' : c ∈ sg (x ++ o) := by simpa [sg] using hc
    rw [sg_app] at hc'
    rcases List.mem_append.mp hc' with hc' | hc'
    · obtain ⟨c1, r1, u1, c2, r2, u2, bc, hx, -, -, h1, h2, h3⟩ := h
      have f1 := (uns_facts u1 h1).1
      have f2 := (uns_facts u2 h2).1
      have f3 := (bes_facts bc h3).1
      rw [hx] at hc'
      unfold typeL at hc'
      simp only [List.mem_append, List.mem_cons, List.not_mem_nil, or_false, List.mem_replicate] at hc'
      unfold okV okN
      omega
    · unfold octOk at ho
      rw [Bool.and_eq_true] at ho
      have := List.all_eq_true.mp ho.2 c hc'
      rw [Bool.and_eq_true] at this
      exact .inr (of_decide_eq_true (p := 32 ≤ c ∧ c ≠ 127) this.1)
  · show (x ++ o).length < 1000
    rw [Str.length_append]
    omega
end Mine

end

section
open PySem PySem.W PyProof.Rows
namespace Mine
/-- k's letter, as often as its piles are -/
noncomputable def pileG (cnt : List Int) (k : Nat) : Str := Txt.mul ⟨#[(97 + (k : Int)).toNat]⟩ (cnt.getD k 0)
noncomputable def pileT (cnt : List Int) : List Str := (List.range cnt.length).map (pileG cnt)
noncomputable def wordS (i j : Int) : Str := ⟨#[(97 + if j < i then j else i).toNat]⟩ ++ ⟨#[(97 + if j > i then j else i).toNat]⟩
structure CntOk (cnt : List Int) (wd : Str) : Prop where
  len : cnt.length ≤ 5
  all : ∀ e ∈ cnt, 0 ≤ e ∧ e ≤ 2
  join : Txt.join (Str.ofString "") (pileT cnt) = wd
  size : ((pileT cnt).map (·.length)).sum + (pileT cnt).length ≤ 1048576
theorem ws_all : ∀ (i j : Fin 5) (b : Fin 3), (wsOf i.1 j.1 b.1).b = (b.1 : Int) ∧ (wsOf i.1 j.1 b.1).n = (i.1 : Int) + j.1 + 2 + b.1 ∧ (wsOf i.1 j.1 b.1).nt = 2 ∧ (wsOf i.1 j.1 b.1).cnt.length ≤ 5 ∧ (∀ e ∈ (wsOf i.1 j.1 b.1).cnt, 0 ≤ e ∧ e ≤ 2) ∧ Txt.join (Str.ofString "") (pileT (wsOf i.1 j.1 b.1).cnt) = wordS i.1 j.1 ∧ wordS (i.1 : Int) j.1 = wordS (j.1 : Int) i.1 ∧ ((pileT (wsOf i.1 j.1 b.1).cnt).map (·.length)).sum + (pileT (wsOf i.1 j.1 b.1).cnt).length ≤ 1048576 := by decide +kernel
theorem fin3 {k : Int} (h : 0 ≤ k ∧ k ≤ 2) : ∃ f : Fin 3, k = (f.1 : Int) := ⟨⟨k.toNat, by omega⟩, by show k = (k.toNat : Int); omega⟩
theorem ws_at {i j b : Int} (hi : 0 ≤ i ∧ i ≤ 4) (hj : 0 ≤ j ∧ j ≤ 4) (hb : 0 ≤ b ∧ b ≤ 2) : ∃ cnt, wsOf i.toNat j.toNat b.toNat = ⟨cnt, b, i + j + 2 + b, 2⟩ ∧ CntOk cnt (wordS i j) ∧ wordS i j = wordS j i := by
  obtain ⟨f, rfl⟩ := fin5 hi; obtain ⟨g, rfl⟩ := fin5 hj; obtain ⟨e, rfl⟩ := fin3 hb
  have h := ws_all f g e
  refine ⟨(wsOf f.1 g.1 e.1).cnt, ?_, ⟨h.2.2.2.1, h.2.2.2.2.1, h.2.2.2.2.2.1, h.2.2.2.2.2.2.2⟩, h.2.2.2.2.2.2.1⟩
  simp only [Int.toNat_natCast]
  cases hw : wsOf f.1 g.1 e.1 with
  | mk c b n nt =>
    rw [hw] at h
    obtain ⟨h1, h2, h3, -⟩ := h
    simp only at h1 h2 h3
    rw [h1, h2, h3]
theorem whole_all : ∀ (z : Fin 4) (k : Fin 5), wholeV (1 + (z.1 : Int)) k.1 = (k.1 : Int).fdiv (1 + (z.1 : Int)) := by decide +kernel
theorem whole_at {z k : Int} (hz : 1 ≤ z ∧ z ≤ 4) (hk : 0 ≤ k ∧ k ≤ 4) : wholeV z k = k.fdiv z := by
  obtain ⟨a, rfl⟩ := fin4 hz; obtain ⟨c, rfl⟩ := fin5 hk
  exact whole_all a c
theorem ind_all : ∀ (z : Fin 4) (i j : Fin 5) (b : Fin 3), indentV (1 + (z.1 : Int)) (wsOf i.1 j.1 b.1) = (1 + (z.1 : Int)) * ((i.1 : Int).fdiv (1 + (z.1 : Int)) + (j.1 : Int).fdiv (1 + (z.1 : Int)) + 2) + b.1 := by decide +kernel
theorem ind_at {z i j b : Int} (hz : 1 ≤ z ∧ z ≤ 4) (hi : 0 ≤ i ∧ i ≤ 4) (hj : 0 ≤ j ∧ j ≤ 4) (hb : 0 ≤ b ∧ b ≤ 2) : indentV z (wsOf i.toNat j.toNat b.toNat) = z * (i.fdiv z + j.fdiv z + 2) + b := by
  obtain ⟨a, rfl⟩ := fin4 hz; obtain ⟨f, rfl⟩ := fin5 hi; obtain ⟨g, rfl⟩ := fin5 hj; obtain ⟨e, rfl⟩ := fin3 hb
  simpa using ind_all a f g e
/-- the octets, read: just the number -/
noncomputable def rdOk (N : Int) : List Int → Bool
  | [] => false
  | b :: r => decide (vTail 10 (b :: r) 1 b (Builtin.bitAnd b 63) = some (N, (b :: r).length))
theorem rd_all : ∀ (z : Fin 4) (i j : Fin 5), rdOk (numV (1 + (z.1 : Int)) i.1 j.1) (KStt.codes (octS (numV (1 + (z.1 : Int)) i.1 j.1))) = true := by decide +kernel
theorem rd_at {z i j : Int} (hz : 1 ≤ z ∧ z ≤ 4) (hi : 0 ≤ i ∧ i ≤ 4) (hj : 0 ≤ j ∧ j ≤ 4) : ∃ b, (KStt.codes (octS (numV z i j)))[0]? = some b ∧ vTail 10 (KStt.codes (octS (numV z i j))) 1 b (Builtin.bitAnd b 63) = some (numV z i j, (KStt.codes (octS (numV z i j))).length) := by
  obtain ⟨a, rfl⟩ := fin4 hz; obtain ⟨f, rfl⟩ := fin5 hi; obtain ⟨g, rfl⟩ := fin5 hj
  have h := rd_all a f g
  generalize KStt.codes (octS (numV (1 + (a.1 : Int)) f.1 g.1)) = l at h
  cases l with
  | nil => exact nomatch h
  | cons b r => exact ⟨b, rfl, of_decide_eq_true h⟩
theorem pow16 {v : Int} (h : 0 ≤ v ∧ v ≤ 7) (x : Int) : (16 : Int) ^ Int.toNat v ≠ 0 ∧ Builtin.divisionGoesByPylong x ((16 : Int) ^ Int.toNat v) = false := by
  obtain ⟨f, rfl⟩ : ∃ f : Fin 8, v = (f.1 : Int) := ⟨⟨v.toNat, by omega⟩, by show v = (v.toNat : Int); omega⟩
  have key : ∀ f : Fin 8, (16 : Int) ^ Int.toNat (f.1 : Int) ≠ 0 ∧ ((16 : Int) ^ Int.toNat (f.1 : Int)).natAbs.log2 < 9000 := by decide +kernel
  exact ⟨(key f).1, PyProof.noPylong_of_log2 (key f).2⟩
structure HasPO (w : World) (L fa : Addr) (cdv : Value) (E : Value → Shared → Prop) : Prop where
  po : PassesOwn (model pw w) (lawA L fa cdv) (lawEnv L fa cdv) E
theorem strs_range {g : Nat → Str} {n : Nat} {ys : List Value} (h : All2 (fun k y => ∃ t, y = Value.str (g k) t) (List.range n) ys) : StrsAre ys ((List.range n).map g) := by
  have key : ∀ (l : List Nat) (ys : List Value), All2 (fun k y => ∃ t, y = Value.str (g k) t) l ys → StrsAre ys (l.map g) := by
    intro l ys h
    induction h with
    | nil => exact .nil
    | cons h _ ih =>
      obtain ⟨t, rfl⟩ := h
      exact .cons _ _ ih
  exact key _ _ h
end Mine

end

section
open PySem PySem.W PyProof.Rows
namespace Mine
section
variable {prog : Program} {w : World} {A : Around} {E : Value → Shared → Prop} {s : Shared} {h₀ : Heap} {L : Addr} {m : Str → Option Value} {env : Env}
/-- what a text's comprehension wants of its source -/
noncomputable def LcSrc (prog : Program) (w : World) (A : Around) (h₀ : Heap) (L : Addr) (m : Str → Option Value) (env : Env) (s : Shared) (elt : PySem.Expr) (x : Str) (scope : Scope) (cl : List (Str × Addr)) (R : Nat → Value → Prop) (Q : Value → Shared → Prop) (xv : Value) (s₁ : Shared) : Prop :=
  ∃ xt tx pre h₁ tk₁, xv = .str xt tx ∧ s₁ = { s with heap := h₁, toks := tk₁ } ∧ Fr h₀ L h₁ m ∧ News h₀ L h₁ pre ∧ xt.cps.size ≤ 10000 ∧
      (∀ c u I oI C oC D mC ys h tk (E' : Value → Shared → Prop), c ∈ xt.cps → LCg.NsObj oC mC → mC x = some (.str ⟨#[c]⟩ u) → Fr h₀ L h m → News h₀ L h ((I, oI) :: (C, oC) :: (D, LCg.lst ys) :: pre) → LCg.Off3 I C D pre →
        wpAny (model prog w) A (eval elt (compEnvC scope cl C env)) (LCg.CompEnd h₀ L m { s with heap := h, toks := tk } I oI C oC D (LCg.lst ys) (fun _ => True) (fun y news' => news' = pre ∧ R c y)) E' { s with heap := h, toks := tk }) ∧
      (∀ D ys h tk, All2 R xt.cps.toList ys → Fr h₀ L h m → News h₀ L h ((D, LCg.lst ys) :: pre) → Q (.ref D) { s with heap := h, toks := tk })
theorem lc_textF {elt iter : PySem.Expr} {x : Str} {px : Pos} {scope : Scope} {cl : List (Str × Addr)} {pos : Pos} {Q : Value → Shared → Prop} (_F : Fr h₀ L s.heap m) (hh : A.handled = none) (R : Nat → Value → Prop)
    (hclos : closureFor scope env = pure cl) (hcell : ∀ y ∈ scope.names, y.2 ≠ .cell) (hkind : scope.kind = .function) (hnames : ∀ y ∈ scope.names, y.2 = .local → scope.names.lookup y.1 = some .local) (hx : scope.names.lookup x = some .local) (hs : ∀ x, foldedSetIterable iter env x = pure x)
    (h : wpAny (model prog w) A (eval iter env) (LcSrc prog w A h₀ L m env s elt x scope cl R Q) E s) :
    wpAny (model prog w) A (eval (.ListComp elt [⟨.Name x px, iter, [], 0⟩] scope pos) env) Q E s := lc_text hh R hclos hcell hkind hnames hx hs h
theorem LcSrc.intro {elt : PySem.Expr} {x : Str} {scope : Scope} {cl : List (Str × Addr)} {R : Nat → Value → Prop} {Q : Value → Shared → Prop} {xt : Str} {tx : Tok} {pre : List (Addr × Obj)} {h₁ : Heap} {tk₁ : Nat} (F : Fr h₀ L h₁ m) (N : News h₀ L h₁ pre) (hn : xt.cps.size ≤ 10000)
    (turn : ∀ c u I oI C oC D mC ys h tk (E' : Value → Shared → Prop), c ∈ xt.cps → LCg.NsObj oC mC → mC x = some (.str ⟨#[c]⟩ u) → Fr h₀ L h m → News h₀ L h ((I, oI) :: (C, oC) :: (D, LCg.lst ys) :: pre) → LCg.Off3 I C D pre →
        wpAny (model prog w) A (eval elt (compEnvC scope cl C env)) (LCg.CompEnd h₀ L m { s with heap := h, toks := tk } I oI C oC D (LCg.lst ys) (fun _ => True) (fun y news' => news' = pre ∧ R c y)) E' { s with heap := h, toks := tk })
    (fin : ∀ D ys h tk, All2 R xt.cps.toList ys → Fr h₀ L h m → News h₀ L h ((D, LCg.lst ys) :: pre) → Q (.ref D) { s with heap := h, toks := tk }) :
    LcSrc prog w A h₀ L m env s elt x scope cl R Q (.str xt tx) { s with heap := h₁, toks := tk₁ } := ⟨xt, tx, pre, h₁, tk₁, rfl, rfl, F, N, hn, turn, fin⟩
theorem LcSrc_stop {elt : PySem.Expr} {x : Str} {scope : Scope} {cl : List (Str × Addr)} {R : Nat → Value → Prop} {Q : Value → Shared → Prop} {xv : Value} {s₁ : Shared} (h : LcSrc prog w A h₀ L m env s elt x scope cl R Q xv s₁) : LcSrc prog w A h₀ L m env s elt x scope cl R Q xv s₁ := h
end
theorem ords_ints {l : List Nat} : ∀ {ys : List Value}, All2 (fun (c : Nat) (y : Value) => ∃ t, y = Value.int (c : Int) t) l ys → IntsAre ys (l.map fun (c : Nat) => (c : Int)) := by
  intro ys h
  induction h with
  | nil => exact .nil
  | cons h _ ih =>
    obtain ⟨t, rfl⟩ := h
    exact .cons _ _ ih
end Mine

end

section
open PySem PySem.W PyProof.Rows
namespace Mine
/-- a header of the table: the text of one position -/
structure HsOk (z b : Int) (h : Str × Str) : Prop where
  ex : ∃ i j k : Int, (0 ≤ i ∧ i ≤ 4) ∧ (0 ≤ j ∧ j ≤ 4) ∧ Txt.lower h.1 = wordS i j ∧ h.2 = typeS i j b k ++ octS (numV z i j)
theorem word_all : ∀ i j i' j' : Fin 5, wordS i.1 j.1 = wordS i'.1 j'.1 → (i' = i ∧ j' = j) ∨ (i' = j ∧ j' = i) := by decide +kernel
theorem word_inj {i j i' j' : Int} (hi : 0 ≤ i ∧ i ≤ 4) (hj : 0 ≤ j ∧ j ≤ 4) (hi' : 0 ≤ i' ∧ i' ≤ 4) (hj' : 0 ≤ j' ∧ j' ≤ 4) (h : wordS i j = wordS i' j') : (i' = i ∧ j' = j) ∨ (i' = j ∧ j' = i) := by
  obtain ⟨a, rfl⟩ := fin5 hi; obtain ⟨b, rfl⟩ := fin5 hj; obtain ⟨c, rfl⟩ := fin5 hi'; obtain ⟨d, rfl⟩ := fin5 hj'
  rcases word_all a b c d h with ⟨rfl, rfl⟩ | ⟨rfl, rfl⟩
  · exact .inl ⟨rfl, rfl⟩
  · exact .inr ⟨rfl, rfl⟩
theorem hget_some {hs : List (Str × Str)} {m v : Str} (h : hget hs m = some v) : ∃ p ∈ hs, Txt.lower p.1 = m ∧ p.2 = v := by
  unfold hget at h
  cases hf : hs.find? fun h => Txt.lower h.1 == m with
  | none => rw [hf] at h; exact nomatch h
  | some p =>
    rw [hf] at h
    have h1 := List.find?_some hf
    exact ⟨p, List.mem_of_find?_eq_some hf, by simpa using h1, by simpa using h⟩
theorem sg_slice {x : Str} {k : Nat} (h : k ≤ (sg x).length) : sg (Txt.slice x (some (k : Int)) none) = (sg x).drop k := by
  have hl : x.length = (sg x).length := sg_len x
  rw [slice_from_eq (b := x.length) (by omega) (by omega) rfl]
  show List.take _ _ = _
  rw [List.take_of_length_le]
  · rw [Int.toNat_natCast]; rfl
  · rw [List.length_drop]
    show (sg x).length - _ ≤ _
    omega
structure ToldOk (z b i j : Int) (told : Str) (cnt : List Int) : Prop where
  okv : OkV told
  len : told.length < 1000
  pln : (cleanS (KStt.codes told)).length < 1000
  ws : wsRun (KStt.codes (cleanS (KStt.codes told))) ws0 = ⟨cnt, b, i + j + 2 + b, 2⟩
  cok : CntOk cnt (wordS i j)
  ind : indentV z ⟨cnt, b, i + j + 2 + b, 2⟩ = z * (i.fdiv z + j.fdiv z + 2) + b
  slc : Txt.slice (cleanS (KStt.codes told)) (some (i + j + 2 + b + 1)) none = octS (numV z i j)
theorem told_one {z b i j k : Int} (hz : 1 ≤ z ∧ z ≤ 4) (hi : 0 ≤ i ∧ i ≤ 4) (hj : 0 ≤ j ∧ j ≤ 4) (hb : 0 ≤ b ∧ b ≤ 2) : ∃ cnt, ToldOk z b i j (typeS i j b k ++ octS (numV z i j)) cnt := by
  have ht := type_of k hi hj hb
  have ho := oct_at hz hi hj
  obtain ⟨bc, hbc, hcl⟩ := clean_told ht ho
  obtain ⟨cnt, hws, hc, -⟩ := ws_at hi hj hb
  have h1 := type_len ht
  have h2 := oct_len ho
  have h3 := plain_len i.toNat j.toNat b.toNat
  have h4 : (sg (octS (numV z i j))).length ≤ 21 := by rw [← sg_len]; exact h2
  have hlen : (typeS i j b k ++ octS (numV z i j) : Str).length < 1000 := by rw [Str.length_append]; omega
  have hpl : (sg (cleanS (KStt.codes (typeS i j b k ++ octS (numV z i j))))).length = i.toNat + j.toNat + b.toNat + 3 + (sg (octS (numV z i j))).length := by
    rw [hcl, List.length_append, h3, List.length_cons]; omega
  refine ⟨cnt, told_ok ht ho (by omega) (by omega) (by omega), hlen, by rw [sg_len, hpl]; omega, by rw [ws_told hbc hcl, hws], hc, by rw [← hws]; exact ind_at hz hi hj hb, ?_⟩
  have e : i + j + 2 + b + 1 = ((i.toNat + j.toNat + b.toNat + 3 : Nat) : Int) := by omega
  rw [e]
  refine sg_inj ?_
  rw [sg_slice (by rw [hpl]; omega), hcl]
  have e2 : i.toNat + j.toNat + b.toNat + 3 = (plainL i.toNat j.toNat b.toNat ++ [bc]).length := by rw [List.length_append, h3]; rfl
  rw [show plainL i.toNat j.toNat b.toNat ++ bc :: sg (octS (numV z i j)) = (plainL i.toNat j.toNat b.toNat ++ [bc]) ++ sg (octS (numV z i j)) by simp, e2, List.drop_left]
theorem told_swap {z b i j : Int} {told : Str} {cnt : List Int} (hz : 1 ≤ z ∧ z ≤ 4) (hi : 0 ≤ i ∧ i ≤ 4) (hj : 0 ≤ j ∧ j ≤ 4) (hb : 0 ≤ b ∧ b ≤ 2) (h : ToldOk z b j i told cnt) : ToldOk z b i j told cnt := by
  have e : j + i = i + j := Int.add_comm j i
  obtain ⟨c2, -, -, hw⟩ := ws_at hi hj hb
  have hn := (num_at hz hi hj).2.2.1
  obtain ⟨h1, h2, h3, h4, h5, h6, h7⟩ := h
  rw [e] at h4 h6 h7
  refine ⟨h1, h2, h3, h4, by rw [hw]; exact h5, ?_, by rw [hn]; exact h7⟩
  rw [h6, Int.add_comm (j.fdiv z)]
/-- the told text, whichever way round -/
theorem told_any {z b i j : Int} {hs : List (Str × Str)} {told : Str} (hz : 1 ≤ z ∧ z ≤ 4) (hi : 0 ≤ i ∧ i ≤ 4) (hj : 0 ≤ j ∧ j ≤ 4) (hb : 0 ≤ b ∧ b ≤ 2) (ha : ∀ h ∈ hs, HsOk z b h) (h : hget hs (wordS i j) = some told) : ∃ cnt, ToldOk z b i j told cnt := by
  obtain ⟨p, hp, hw, rfl⟩ := hget_some h
  obtain ⟨i', j', k, hi', hj', hl, ht⟩ := (ha p hp).ex
  rw [ht]
  rcases word_inj hi hj hi' hj' (hw.symm.trans hl) with ⟨rfl, rfl⟩ | ⟨rfl, rfl⟩
  · exact told_one hz hi hj hb
  · obtain ⟨cnt, hc⟩ := told_one (k := k) hz hi' hj' hb
    exact ⟨cnt, told_swap hz hi hj hb hc⟩
theorem nest_all : ∀ n1 n2 : Fin 6, ∀ k : Fin 25, k.1 < n1.1 * n2.1 → (nestN n2.1 n1.1)[k.1]? = some (((k.1 / n2.1 : Nat) : Int), ((k.1 % n2.1 : Nat) : Int)) := by decide +kernel
theorem nest_at {n1 n2 k : Nat} (h1 : n1 ≤ 5) (h2 : n2 ≤ 5) (hk : k < n1 * n2) : (nestN n2 n1)[k]? = some (((k / n2 : Nat) : Int), ((k % n2 : Nat) : Int)) := by
  have hk25 : k < 25 := Nat.lt_of_lt_of_le hk (Nat.mul_le_mul h1 h2)
  exact nest_all ⟨n1, by omega⟩ ⟨n2, by omega⟩ ⟨k, hk25⟩ hk
/-- what the dict of values holds behind k turns -/
structure WoP (z : Int) (n1 n2 k : Nat) (kvs : List (Int × Value)) : Prop where
  all : ∀ a b : Nat, a < n1 → b < n2 → a * n2 + b < k → ∃ t, valueAt kvs (8 * (a : Int) + b) = some (.int (gv z a b) t)
theorem WoP.at {z : Int} {n1 n2 k : Nat} {kvs : List (Int × Value)} (h : WoP z n1 n2 k kvs) (hk : k < n1 * n2) : WorthAt z ((k / n2 : Nat) : Int) ((k % n2 : Nat) : Int) kvs := by
  have hn2 : 0 < n2 := by
    rcases Nat.eq_zero_or_pos n2 with e | e
    · rw [e, Nat.mul_zero] at hk; omega
    · exact e
  have hd : k / n2 < n1 := Nat.div_lt_of_lt_mul (by rw [Nat.mul_comm]; exact hk)
  have hm : k % n2 < n2 := Nat.mod_lt _ hn2
  have he : n2 * (k / n2) + k % n2 = k := Nat.div_add_mod k n2
  refine ⟨fun a b a0 ai b0 bj hab => ?_⟩
  obtain ⟨a, rfl⟩ := Int.eq_ofNat_of_zero_le a0
  obtain ⟨b, rfl⟩ := Int.eq_ofNat_of_zero_le b0
  have ai' : a ≤ k / n2 := by omega
  have bj' : b ≤ k % n2 := by omega
  refine h.all a b (by omega) (by omega) ?_
  have e1 : n2 * a ≤ n2 * (k / n2) := Nat.mul_le_mul_left _ ai'
  rw [Nat.mul_comm a n2]
  rcases hab with hab | hab
  · have ha : a < k / n2 := by omega
    have e2 : n2 * (a + 1) ≤ n2 * (k / n2) := Nat.mul_le_mul_left _ ha
    rw [Nat.mul_add] at e2
    omega
  · omega
theorem valueAt_set (kvs : List (Int × Value)) (k k' : Int) (v : Value) : valueAt (stored kvs k v) k' = if k' = k then some v else valueAt kvs k' := by
  unfold stored
  split
  · rename_i ha
    unfold valueAt
    induction kvs with
    | nil => simp at ha
    | cons p r ih =>
      rw [List.map_cons, List.find?_cons, List.find?_cons]
      by_cases e : p.1 = k
      · rw [if_pos e]
        dsimp only
        by_cases e2 : k' = k
        · subst e2; simp [e]
        · have e3 : ¬ p.1 = k' := fun e' => e2 (e'.symm.trans e)
          rw [if_neg e2]
          simp only [decide_eq_false e3]
          by_cases ha2 : (r.any fun kv => decide (kv.1 = k)) = true
          · rw [ih ha2, if_neg e2]
          · have : r.map (fun kv => if kv.1 = k then (kv.1, v) else kv) = r := by
              conv => rhs; rw [← List.map_id r]
              refine List.map_congr_left fun q hq => ?_
              rw [if_neg]; rfl
              intro e4
              exact ha2 (List.any_eq_true.mpr ⟨q, hq, by simpa using e4⟩)
            rw [this]
      · rw [if_neg e]
        have ha2 : (r.any fun kv => decide (kv.1 = k)) = true := by
          rw [List.any_cons, decide_eq_false e, Bool.false_or] at ha
          exact ha
        by_cases e2 : p.1 = k'
        · have e3 : ¬ k' = k := fun e' => e (e2.trans e')
          rw [if_neg e3]
          simp only [decide_eq_true e2]
        · simp only [decide_eq_false e2]
          exact ih ha2
  · rename_i ha
    unfold valueAt
    rw [List.find?_append]
    by_cases e2 : k' = k
    · subst e2
      have : (kvs.find? fun kv => decide (kv.1 = k')) = none := by
        rw [List.find?_eq_none]
        intro q hq hc
        exact ha (List.any_eq_true.mpr ⟨q, hq, hc⟩)
      rw [this, if_pos rfl]
      simp
    · rw [if_neg e2]
      cases kvs.find? fun kv => decide (kv.1 = k') with
      | some q => rfl
      | none =>
        have : ¬ k = k' := fun e => e2 e.symm
        simp [this]
theorem stored_len (kvs : List (Int × Value)) (k : Int) (v : Value) : (stored kvs k v).length ≤ kvs.length + 1 := by
  unfold stored
  split
  · rw [List.length_map]; omega
  · rw [List.length_append]; exact Nat.le_refl _
theorem WoP.step {z : Int} {n1 n2 k : Nat} {kvs : List (Int × Value)} {t : Tok} (h : WoP z n1 n2 k kvs) (hn : n2 ≤ 5) : WoP z n1 n2 (k + 1) (stored kvs (8 * ((k / n2 : Nat) : Int) + ((k % n2 : Nat) : Int)) (.int (gv z ((k / n2 : Nat) : Int) ((k % n2 : Nat) : Int)) t)) := by
  refine ⟨fun a b ha hb hab => ?_⟩
  rw [valueAt_set]
  split
  · rename_i e
    have hm : k % n2 < n2 := Nat.mod_lt _ (by omega)
    obtain ⟨rfl, rfl⟩ : a = k / n2 ∧ b = k % n2 := by omega
    exact ⟨t, rfl⟩
  · rename_i e
    refine h.all a b ha hb ?_
    rcases Nat.lt_or_ge (a * n2 + b) k with hl | hl
    · exact hl
    · exfalso
      have e1 : a * n2 + b = k := by omega
      have e2 : k / n2 = a := by
        rw [← e1, Nat.mul_comm, Nat.mul_add_div (by omega), Nat.div_eq_of_lt hb, Nat.add_zero]
      have e3 : k % n2 = b := by
        rw [← e1, Nat.mul_comm, Nat.mul_add_mod, Nat.mod_eq_of_lt hb]
      rw [e2, e3] at e
      exact e rfl
theorem WoP.zero {z : Int} {n1 n2 : Nat} : WoP z n1 n2 0 [] := ⟨fun a b _ _ h => absurd h (Nat.not_lt_zero _)⟩
end Mine

end

section
open PySem PySem.W PyProof.Rows
namespace Mine
theorem p_A (w : World) (p : Program) (loose : List Str) (mean : ExcName → Option Value) (mg mb : Str → Option Value) (h₀ : Heap) (fa L : Addr) (cdv : Value) (s : Shared) (Q : Flow → Shared → Prop) (E : Value → Shared → Prop) (m : Str → Option Value)
    (ow om os oF oW : Obj) (x d lH lh lm D1 dW dF : Addr) (k0 tz tb ti tj ts tm0 tm1 : Tok) (vs vh yw : List Value) (dd : List Int) (ep eph : Nat) (z b i j sd m0 m1 : Int) (kvs : List (Int × Value)) (rest : List (Addr × Obj))
    (hz : 1 ≤ z ∧ z ≤ 4) (hb : 0 ≤ b ∧ b ≤ 2) (hi : 0 ≤ i ∧ i ≤ 4) (hj : 0 ≤ j ∧ j ≤ 4)
    (hId : IntsAre vh dd) (hdl : dd.length = 6) (hWd : Obj.IsDictOf (PySem.intKind pw w) oW kvs) (hWa : WorthAt z i j kvs)
    (d1 : ow.data = .cell (some (.ref dW))) (d2 : om.data = .cell (some (.ref lm))) (d3 : os.data = .cell (some (.int z tz)))
    (B : Below callerA h₀ [] h₀) (X : (kx w.params).In h₀) (T : Top p loose mean mg mb h₀)
    (F : Fr h₀ L s.heap m) (hm : Has m [(Str.ofString "i", .int i ti), (Str.ofString "j", .int j tj), (Str.ofString "seed", .int sd ts), (Str.ofString "have", .ref lh), (Str.ofString "blanks", .int b tb)])
    (N : News h₀ L s.heap ((x, instObj 262 d) :: (d, hdrD w lH k0) :: (lH, W.listOf vs.toArray ep) :: (dF, oF) :: (dW, oW) :: (D1, LCg.lst yw) :: (lm, W.listOf #[.int m0 tm0, .int m1 tm1] 0) :: (lh, W.listOf vh.toArray eph) :: (L + 1 + 1 + 1, ow) :: (L + 1 + 1, om) :: (L + 1, os) :: rest))
    (hk : Nxt w h₀ L fa cdv lfB.val s Q E m [Str.ofString "seed", Str.ofString "number", Str.ofString "text", Str.ofString "word"] (fun m' news' => news' = ((x, instObj 262 d) :: (d, hdrD w lH k0) :: (lH, W.listOf vs.toArray ep) :: (dF, oF) :: (dW, oW) :: (D1, LCg.lst yw) :: (lm, W.listOf #[.int m0 tm0, .int m1 tm1] 0) :: (lh, W.listOf vh.toArray eph) :: (L + 1 + 1 + 1, ow) :: (L + 1 + 1, om) :: (L + 1, os) :: rest) ∧ ∃ t1 t2 t3 t4, Has m' [(Str.ofString "seed", .int ((sd * 31 + dd.getD (Int.toNat 5) 0).fmod 1000003) t1), (Str.ofString "number", .int (numV z i j) t2), (Str.ofString "text", .str (typeS i j b ((sd * 31 + dd.getD (Int.toNat 5) 0).fmod 1000003) ++ octS (numV z i j)) t3), (Str.ofString "word", .str (⟨#[(97 + if j < i then j else i).toNat]⟩ ++ ⟨#[(97 + if j > i then j else i).toNat]⟩) t4)])) :
    wpAny (model pw w) (lawA L fa cdv) (execs lfA.val (lawEnv L fa cdv)) Q E s := by
  have FF := hm.fr F
  clear F
  (try dsimp only [lawA])
  (try k_fold)
  (repeat (fail_if_success (with_reducible show wpAny _ _ (eval (Expr.ListComp _ _ _ _) _) _ _ _)); first | (k_unfold; (try dsimp only)) | walk1 | (dsimp only; walk1))
  (with_reducible rename Fr _ _ _ _ => lF)
  (with_reducible rename News _ _ _ _ => lN)
  k_dflt (refine gc_pairF lF (by rfl) (by with_unfolding_all rfl) (by decide) (by rfl) (by decide) (by rfl) (by rfl) (by decide) (by intro _; rfl) ?_)
  (repeat (fail_if_success (with_reducible show wpAny _ _ (call (Value.ref _) _) _ _ _)); first | (k_unfold; (try dsimp only)) | walk1 | (dsimp only; walk1))
  k_dflt (refine CallsN.use (c_moves w i j z _ _ _ hi hj hz _) B (by k_asm) X (by k_asm) T (by rfl) (by ktr_room) (by ktr_units) ?_)
  rintro r9 h9 tk9 nw9 F9 N9 ⟨a9, vs9, ep9, tl9, rfl, hA9, rfl⟩
  clear lF lN
  (try dsimp only)
  (try k_fold)
  (repeat (fail_if_success (with_reducible show wpAny _ _ (pyIter _) _ _ _)); first | (k_unfold; (try dsimp only)) | walk1 | (dsimp only; walk1))
  have hml := hA9.length
  have hm9 := mv_at hz hi hj
  k_dflt (refine gp_list (fun k v1 v2 => ∃ p t1 t2, (movesL i j z)[k]? = some p ∧ v1 = .int p.1 t1 ∧ v2 = .int p.2 t2) (PowAt z i j) (by rfl) F9 N9 (.head _) (by omega) (pair_at hA9 fun q hq => .tail _ hq) (fun _ _ _ _ h _ => h) ?el ?fin)
  case el =>
    rintro k v1 v2 I9 o9 C9 oC9 mC9 D9 ys9 tl8 h8 tk8 E8 hk8 ⟨q8, t1, t2, hq8, rfl, rfl⟩ hC8 hx1 hx2 F8 N8
    clear F9 N9
    have hq9 := hm9.2 q8 (List.mem_of_getElem? hq8)
    obtain ⟨t3, hv8⟩ := hWa.all q8.1 q8.2 hq9.1 hq9.2.1 hq9.2.2.1 hq9.2.2.2.1 hq9.2.2.2.2
    (try dsimp only [List.cons_append] at N8)
    (try k_fold)
    (repeat (fail_if_success (with_reducible show wpAny _ _ (subscriptTail _ _ _ _) _ _ _)); first | (k_unfold; (try dsimp only)) | walk1 | (dsimp only; walk1))
    (with_reducible rename Fr _ _ _ _ => lF)
    (with_reducible rename News _ _ _ _ => lN)
    have hgv := gv_at hz (i := q8.1) (j := q8.2) (by omega) (by omega)
    k_dflt (refine kda_item (knd := PySem.intKind _ _) lN (by k_mem) hWd (intKind_is _ _ _ _) hv8 ?_)
    (try dsimp only)
    (try k_fold)
    repeat' (first | (k_unfold; (try dsimp only)) | (k_end; wrow_close) | ((fail_if_success (with_reducible refine GpEl_stop ?_)); walk1) | ((fail_if_success (with_reducible refine GpEl_stop ?_)); dsimp only; walk1) | (leave1; walk_say "STEP leave1"; (try dsimp only)) | fail "no step")
    (with_reducible rename Fr _ _ _ _ => fE)
    (with_reducible rename News _ _ _ _ => nE)
    exact gp_plain fE nE (fun q hq => hq) ⟨q8, _, hq8, rfl⟩
  case fin =>
    rintro D9 ys9 tl8 h8 tk8 hy8 F8 N8
    clear F9 N9
    have hIy := pow_ints hy8 hml
    clear hy8
    have N7 := drop_A N8
    clear N8
    have hsd := fmod_b (sd * 31 + dd.getD (Int.toNat 5) 0) 1000003 (by decide)
    have hnum := num_at hz hi hj
    (try dsimp only)
    (try k_fold)
    (repeat (fail_if_success (with_reducible show wpAny _ _ (call (Value.ref _) _) _ _ _)); first | (k_unfold; (try dsimp only)) | walk1 | (dsimp only; walk1))
    k_dflt (refine Calls.use (c_type w _ i j b _ _ _ _ _ _ _ hi hj hb hsd.1) B (by k_asm) X (by k_asm) T (by rfl) (by ktr_room) (by ktr_units) ?_)
    (with_reducible rename Fr _ _ _ _ => lF)
    (with_reducible rename News _ _ _ _ => lN)
    clear lF lN
    rintro r9 h9 tk9 F9 N9 ⟨t9, rfl⟩
    (try dsimp only)
    (try k_fold)
    (repeat (fail_if_success (with_reducible show wpAny _ _ (call (Value.ref _) _) _ _ _)); first | (k_unfold; (try dsimp only)) | walk1 | (dsimp only; walk1))
    k_dflt (refine Calls.use (c_octets w (numV z i j) _ _ hnum.1 hnum.2.1) B (by k_asm) X (by k_asm) T (by rfl) (by ktr_room) (by ktr_units) ?_)
    clear F9 N9
    rintro r9 h9 tk9 F9 N9 ⟨t8, rfl⟩
    (try dsimp only)
    (try k_fold)
    have hl1 := type_len (type_of ((sd * 31 + dd.getD (Int.toNat 5) 0).fmod 1000003) hi hj hb)
    have hl2 := oct_len (oct_at hz hi hj)
    (repeat (fail_if_success (with_reducible show wpAny _ _ (binaryOp Operator.Add (Value.str _ _) _) _ _ _)); first | (k_unfold; (try dsimp only)) | walk1 | (dsimp only; walk1))
    k_dflt (refine add_str ?_ (by rw [PySem.sizeLine_eq]; omega))
    intro t7 tk7
    (try dsimp only)
    (try k_fold)
    (repeat (fail_if_success (with_reducible show wpAny _ _ (execs (Stmt.Assign [Expr.Name (Str.ofString "told") _] _ _ :: _) _) _ _ _)); first | (k_unfold; (try dsimp only)) | walk1 | (dsimp only; walk1))
    (with_reducible rename Fr _ _ _ _ => fE)
    (with_reducible rename News _ _ _ _ => nE)
    exact hk.out _ _ _ _ fE (fun q hq => nE q (.tail _ (.tail _ hq))) ⟨by intro z hz; simp only [List.contains_cons, List.contains_nil, Bool.or_false, Bool.or_eq_false_iff, beq_eq_false_iff_ne, ne_eq] at hz; simp [hz]; exact hm.kst z⟩ ⟨rfl, _, _, _, _, Has.cons rfl (Has.cons rfl (Has.cons rfl (Has.cons rfl Has.nil)))⟩
end Mine

end

section
open PySem PySem.W PyProof.Rows
namespace Mine
noncomputable def nmOk (a b : Nat) (x y : Int) : Bool :=
  let n : Str := ⟨#[((a : Int) - 32 * x).toNat]⟩ ++ ⟨#[((b : Int) - 32 * y).toNat]⟩
  (sg n).all (fun c => decide (32 ≤ c ∧ c ≠ 127)) && decide (n.cps.size < 1000) && (sg (Txt.lower n)).all (fun c => decide (32 ≤ c ∧ c ≠ 127)) && decide ((Txt.lower n).cps.size < 1000) && decide (Txt.lower n = ⟨#[a]⟩ ++ ⟨#[b]⟩)
theorem nm_all : ∀ (a b : Fin 5) (x y : Fin 2), nmOk (97 + a.1) (97 + b.1) (x.1 : Int) (y.1 : Int) = true := by decide +kernel
theorem name_ok {a b : Nat} {x y : Int} (ha : 97 ≤ a ∧ a ≤ 101) (hb : 97 ≤ b ∧ b ≤ 101) (hx : 0 ≤ x ∧ x ≤ 1) (hy : 0 ≤ y ∧ y ≤ 1) : OkN (⟨#[((a : Int) - 32 * x).toNat]⟩ ++ ⟨#[((b : Int) - 32 * y).toNat]⟩) ∧ OkN (Txt.lower (⟨#[((a : Int) - 32 * x).toNat]⟩ ++ ⟨#[((b : Int) - 32 * y).toNat]⟩)) ∧ Txt.lower (⟨#[((a : Int) - 32 * x).toNat]⟩ ++ ⟨#[((b : Int) - 32 * y).toNat]⟩) = ⟨#[a]⟩ ++ ⟨#[b]⟩ := by
  obtain ⟨f, rfl⟩ : ∃ f : Fin 5, a = 97 + f.1 := ⟨⟨a - 97, by omega⟩, by show a = 97 + (a - 97); omega⟩
  obtain ⟨g, rfl⟩ : ∃ f : Fin 5, b = 97 + f.1 := ⟨⟨b - 97, by omega⟩, by show b = 97 + (b - 97); omega⟩
  obtain ⟨u, rfl⟩ : ∃ f : Fin 2, x = (f.1 : Int) := ⟨⟨x.toNat, by omega⟩, by show x = (x.toNat : Int); omega⟩
  obtain ⟨v, rfl⟩ : ∃ f : Fin 2, y = (f.1 : Int) := ⟨⟨y.toNat, by omega⟩, by show y = (y.toNat : Int); omega⟩
  have h := nm_all f g u v
  unfold nmOk at h
  simp only [Bool.and_eq_true, decide_eq_true_eq] at h
  obtain ⟨⟨⟨⟨h1, h2⟩, h3⟩, h4⟩, h5⟩ := h
  refine ⟨⟨fun c hc => ?_, h2⟩, ⟨fun c hc => ?_, h4⟩, h5⟩
  · exact of_decide_eq_true (p := 32 ≤ c ∧ c ≠ 127) (List.all_eq_true.mp h1 c (by simpa [sg] using hc))
  · exact of_decide_eq_true (p := 32 ≤ c ∧ c ≠ 127) (List.all_eq_true.mp h3 c (by simpa [sg] using hc))
theorem HdrAt.mono {l l' : List (Addr × Obj)} {v : Value} {h : Str × Str} (k : HdrAt l v h) (hs : ∀ q ∈ l, q ∈ l') : HdrAt l' v h := by
  obtain ⟨⟨a, tk, tv, e, hm⟩, ok⟩ := k
  exact ⟨⟨a, tk, tv, e, hs _ hm⟩, ok⟩
theorem look_hdr (hs : List (Str × Str)) (m : Str) : PySem.Spec.lookup (.str m) (hs.map fun h => (.str (Txt.lower h.1), .str h.2)) = (hget hs m).map PyData.str := by
  induction hs with
  | nil => rfl
  | cons h r ih =>
    unfold hget at ih ⊢
    rw [List.map_cons, List.find?_cons]
    by_cases e : Txt.lower h.1 = m
    · have e' : (Txt.lower h.1 == m) = true := by simpa using e
      rw [e']
      simp [PySem.Spec.lookup, PyProof.V.same_str, e]
    · have e' : (Txt.lower h.1 == m) = false := by simpa using e
      rw [e', ← ih]
      simp [PySem.Spec.lookup, PyProof.V.same_str, e]
theorem str_dict_cls {w : World} {o : Obj} {kvs : List (Str × Value)} (h : Obj.IsDictOf (PySem.strKind pw w) o kvs) : o.cls = .type "dict" := by
  obtain ⟨es, ep, he, hd, -⟩ := h
  exact he.1
theorem any_none {k : PyData} : ∀ {D : List (PyData × PyData)}, PySem.Spec.lookup k D = none → D.any (fun p => PySem.Spec.same p.1 k) = false
  | [], _ => rfl
  | (a, b) :: r, h => by
    unfold PySem.Spec.lookup at h
    split at h
    · exact nomatch h
    · rename_i hs
      rw [List.any_cons, any_none h]
      simpa using hs
theorem putD_none {m : Str} {v : PyData} {D : List (PyData × PyData)} (h : PySem.Spec.lookup (.str m) D = none) : PyProof.V.putD (.str m) v D = D ++ [(.str m, v)] := by
  unfold PyProof.V.putD
  rw [any_none h]
  rfl
theorem setdef_led {h₀ h : Heap} {L : Addr} {x d l a f : Addr × Obj} {post rest : List (Addr × Obj)} (N : News h₀ L h (x :: d :: l :: a :: f :: (post ++ rest))) : News h₀ L h (x :: d :: l :: f :: (post ++ a :: rest)) := fun q hq => N q (by
  simp only [List.mem_cons, List.mem_append] at hq ⊢
  rcases hq with h | h | h | h | h | h | h
  · exact .inl h
  · exact .inr (.inl h)
  · exact .inr (.inr (.inl h))
  · exact .inr (.inr (.inr (.inr (.inl h))))
  · exact .inr (.inr (.inr (.inr (.inr (.inl h)))))
  · exact .inr (.inr (.inr (.inl h)))
  · exact .inr (.inr (.inr (.inr (.inr (.inr h))))))
theorem p_B (w : World) (p : Program) (loose : List Str) (mean : ExcName → Option Value) (mg mb : Str → Option Value) (h₀ : Heap) (fa L : Addr) (cdv : Value) (s : Shared) (Q : Flow → Shared → Prop) (E : Value → Shared → Prop) (m : Str → Option Value)
    (oF : Obj) (x d lH dW dF : Addr) (k0 ts tt tw : Tok) (vs : List Value) (hs : List (Str × Str)) (fvs : List (Str × Value)) (ep : Nat) (sd : Int) (wa wb : Nat) (tx : Str) (post rest : List (Addr × Obj))
    (hsd : 0 ≤ sd) (hwa : 97 ≤ wa ∧ wa ≤ 101) (hwb : 97 ≤ wb ∧ wb ≤ 101) (htx : OkV tx) (hxl : @Ne Nat x lH) (hdl : @Ne Nat d lH) (hol : Off lH ((dF, oF) :: (post ++ rest))) (hxf : @Ne Nat x dF) (hdf : @Ne Nat d dF) (hlf : @Ne Nat lH dF) (hof : Off dF (post ++ rest)) (hvl : vs.length ≤ 100) (lo : (dF == sysModules) = false)
    (hFd : Obj.IsDictOf (PySem.strKind pw w) oF fvs) (hFf : PyProof.V.FlatPairs PyData.str fvs (hs.map fun h => (.str (Txt.lower h.1), .str h.2))) (hh : All2 (HdrAt rest) vs hs)
    (B : Below callerA h₀ [] h₀) (X : (kx w.params).In h₀) (T : Top p loose mean mg mb h₀)
    (F : Fr h₀ L s.heap m) (hm : Has m [(Str.ofString "seed", .int sd ts), (Str.ofString "text", .str tx tt), (Str.ofString "word", .str (⟨#[wa]⟩ ++ ⟨#[wb]⟩) tw), (Str.ofString "table", .ref x), (Str.ofString "first", .ref dF)])
    (N : News h₀ L s.heap ((x, instObj 262 d) :: (d, hdrD w lH k0) :: (lH, W.listOf vs.toArray ep) :: (dF, oF) :: (post ++ rest)))
    (hk : Nxt w h₀ L fa cdv lfC.val s Q E m [Str.ofString "told"] (fun m' news' => ∃ told tt' hs' vs' ep' oF' fvs' rest', Has m' [(Str.ofString "told", .str told tt')] ∧ news' = (x, instObj 262 d) :: (d, hdrD w lH k0) :: (lH, W.listOf vs'.toArray ep') :: (dF, oF') :: (post ++ rest') ∧ Obj.IsDictOf (PySem.strKind pw w) oF' fvs' ∧ PyProof.V.FlatPairs PyData.str fvs' (hs'.map fun h => (.str (Txt.lower h.1), .str h.2)) ∧ All2 (HdrAt rest') vs' hs' ∧
      ((hget hs (⟨#[wa]⟩ ++ ⟨#[wb]⟩) = some told ∧ hs' = hs ∧ rest' = rest) ∨ (hget hs (⟨#[wa]⟩ ++ ⟨#[wb]⟩) = none ∧ told = tx ∧ ∃ a o nm, hs' = hs ++ [(nm, tx)] ∧ rest' = (a, o) :: rest ∧ o.cls = .type "tuple" ∧ @Ne Nat a lH ∧ Txt.lower nm = ⟨#[wa]⟩ ++ ⟨#[wb]⟩)))) :
    wpAny (model pw w) (lawA L fa cdv) (execs lfB.val (lawEnv L fa cdv)) Q E s := by
  have FF := hm.fr F
  clear F
  (try dsimp only [lawA])
  (try k_fold)
  (repeat (fail_if_success (with_reducible show wpAny _ _ (call (Value.ref _) _) _ _ _)); first | (k_unfold; (try dsimp only)) | walk1 | (dsimp only; walk1))
  have e0 : Txt.item (⟨#[wa]⟩ ++ ⟨#[wb]⟩ : Str) 0 = ⟨#[wa]⟩ := item_zero_left wa [] _
  have e1 : Txt.item (⟨#[wa]⟩ ++ ⟨#[wb]⟩ : Str) 1 = ⟨#[wb]⟩ := by
    unfold Txt.item; rfl
  have s2 : 0 ≤ sd.fmod 2 ∧ sd.fmod 2 ≤ 1 := by have := fmod_b sd 2 (by decide); omega
  have s3 : 0 ≤ (sd.fdiv 2).fmod 2 ∧ (sd.fdiv 2).fmod 2 ≤ 1 := by have := fmod_b (sd.fdiv 2) 2 (by decide); omega
  k_dflt (refine chr_of_range (by rw [e0]; show 0 ≤ (wa : Int) - 32 * sd.fmod 2; omega) (by rw [e0]; show (wa : Int) - 32 * sd.fmod 2 ≤ 1114111; omega) ?_)
  rw [e0]
  (try dsimp only)
  (try k_fold)
  (repeat (fail_if_success (with_reducible show wpAny _ _ (call (Value.ref _) _) _ _ _)); first | (k_unfold; (try dsimp only)) | walk1 | (dsimp only; walk1))
  k_dflt (refine chr_of_range (by rw [e1]; show 0 ≤ (wb : Int) - 32 * (sd.fdiv 2).fmod 2; omega) (by rw [e1]; show (wb : Int) - 32 * (sd.fdiv 2).fmod 2 ≤ 1114111; omega) ?_)
  rw [e1]
  (try dsimp only)
  (try k_fold)
  (repeat (fail_if_success (with_reducible show wpAny _ _ (call (Value.ref _) _) _ _ _)); first | (k_unfold; (try dsimp only)) | walk1 | (dsimp only; walk1))
  k_dflt (refine CallsN.use (c_setdef w x d lH _ tx _ _ k0 vs hs ep ((dF, oF) :: (post ++ rest)) (name_ok hwa hwb s2 s3).1 (name_ok hwa hwb s2 s3).2.1 htx (hh.imp fun a b h => h.mono fun q hq => .tail _ (List.mem_append_right _ hq)) hxl hdl hol hvl) B (by k_asm) X (by k_asm) T (by rfl) (by ktr_room) (by ktr_units) ?_)
  have hsz : (hs.map fun h => ((PyData.str (Txt.lower h.1), PyData.str h.2) : PyData × PyData)).length ≤ sizeLine := by rw [List.length_map, ← hh.length, PySem.sizeLine_eq]; omega
  rintro r9 h9 tk9 nw9 F9 N9 (⟨v9, hg9, ⟨t9, rfl⟩, rfl⟩ | ⟨hg9, a9, t7, t8, t9, hne, rfl, rfl⟩)
  all_goals (try dsimp only)
  all_goals (try k_fold)
  all_goals rw [(name_ok hwa hwb s2 s3).2.2] at hg9
  · unfold hdrL at N9
    simp only [List.cons_append, List.nil_append] at N9
    have hlk := look_hdr hs (⟨#[wa]⟩ ++ ⟨#[wb]⟩)
    rw [hg9] at hlk
    simp only [Option.map] at hlk
    (repeat (fail_if_success (with_reducible show wpAny _ _ (call (Value.builtin "dict.setdefault") _) _ _ _)); first | (k_unfold; (try dsimp only)) | walk1 | (dsimp only; walk1))
    (with_reducible rename Fr _ _ _ _ => lF)
    (with_reducible rename News _ _ _ _ => lN)
    k_dflt (refine kt_setdefault_there (knd := PySem.strKind _ _) (enc := PyData.str) PyProof.V.same_str (strKind_is _ _ _ _) ⟨lo, fvs, kda_dict lN (.tail _ (.tail _ (.tail _ (.head _)))) hFd, hFf⟩ (PySem.F.args_dict_setdefault_3 _ _ _) hlk hsz ?_)
    intro v6 hv6
    obtain ⟨t6, rfl⟩ := hv6.str_inv
    clear hv6
    (try dsimp only)
    (try k_fold)
    repeat' (first | (k_unfold; (try dsimp only)) | ((with_reducible rename (_ != _) = true => hbad); exact absurd hbad (by simp)) | ((fail_if_success (with_reducible show wpAny _ _ (execs (Stmt.Assign [Expr.Name (Str.ofString "plain") _] _ _ :: _) _) _ _ _)); first | walk1 | (dsimp only; walk1)))
    (with_reducible rename Fr _ _ _ _ => fE)
    (with_reducible rename News _ _ _ _ => nE)
    exact hk.out _ _ _ _ fE nE ⟨by intro z hz; simp only [List.contains_cons, List.contains_nil, Bool.or_false, Bool.or_eq_false_iff, beq_eq_false_iff_ne, ne_eq] at hz; simp [hz, kstB]; exact hm.kst z⟩ ⟨v9, _, hs, vs, ep, oF, fvs, rest, Has.cons rfl Has.nil, rfl, hFd, hFf, hh, .inl ⟨hg9, rfl, rfl⟩⟩
  · unfold hdrL at N9
    simp only [List.cons_append, List.nil_append] at N9
    have hlk := look_hdr hs (⟨#[wa]⟩ ++ ⟨#[wb]⟩)
    rw [hg9] at hlk
    simp only [Option.map] at hlk
    (repeat (fail_if_success (with_reducible show wpAny _ _ (call (Value.builtin "dict.setdefault") _) _ _ _)); first | (k_unfold; (try dsimp only)) | walk1 | (dsimp only; walk1))
    (with_reducible rename Fr _ _ _ _ => lF)
    (with_reducible rename News _ _ _ _ => lN)
    have haf := news_ne lN (.tail _ (.tail _ (.tail _ (.head _)))) (.tail _ (.tail _ (.tail _ (.tail _ (.head _))))) (fun e => by have := congrArg Obj.cls e; dsimp only at this; rw [str_dict_cls hFd] at this; exact absurd this (by decide))
    k_dflt (refine kt_setdefault_madeIn (own := [_, _, _, _]) (knd := PySem.strKind _ _) (enc := PyData.str) (hsz := hsz) PyProof.V.same_str (strKind_is _ _ _ _) (PyProof.V.Flat.str _ _) lo (PySem.F.args_dict_setdefault_3 _ _ _) lF lN (Off.cons hxf (Off.cons hdf (Off.cons hlf (Off.cons haf off_nil)))) hof hFd hFf hlk ?_)
    clear lF lN
    intro h7 oF' F7 N7 hd7 hf7
    rw [putD_none hlk] at hf7
    (try dsimp only [List.cons_append, List.nil_append] at N7)
    (try dsimp only)
    (try k_fold)
    repeat' (first | (k_unfold; (try dsimp only)) | ((with_reducible rename (_ != _) = true => hbad); exact absurd hbad (by simp)) | ((fail_if_success (with_reducible show wpAny _ _ (execs (Stmt.Assign [Expr.Name (Str.ofString "plain") _] _ _ :: _) _) _ _ _)); first | walk1 | (dsimp only; walk1)))
    (with_reducible rename Fr _ _ _ _ => fE)
    (with_reducible rename News _ _ _ _ => nE)
    refine hk.out _ _ _ ((x, instObj 262 d) :: (d, hdrD w lH k0) :: (lH, W.listOf (vs ++ [Value.ref a9]).toArray (ep + 1)) :: (dF, oF') :: (post ++ (a9, _) :: rest)) fE (setdef_led nE) ⟨by intro z hz; simp only [List.contains_cons, List.contains_nil, Bool.or_false, Bool.or_eq_false_iff, beq_eq_false_iff_ne, ne_eq] at hz; simp [hz, kstB]; exact hm.kst z⟩ ⟨tx, _, hs ++ [_], _, _, oF', _, _, Has.cons rfl Has.nil, rfl, hd7, ?_, All2.snoc ⟨⟨a9, _, _, rfl, .head _⟩, (name_ok hwa hwb s2 s3).1⟩ (hh.imp fun a b h => h.mono fun q hq => .tail _ hq), .inr ⟨hg9, rfl, _, _, _, rfl, rfl, rfl, hne, (name_ok hwa hwb s2 s3).2.2⟩⟩
    rw [List.map_append, List.map_cons, List.map_nil]
    dsimp only
    rw [(name_ok hwa hwb s2 s3).2.2]
    exact hf7
end Mine

end

section
open PySem PySem.W PyProof.Rows
namespace Mine
theorem p_C (w : World) (p : Program) (loose : List Str) (mean : ExcName → Option Value) (mg mb : Str → Option Value) (h₀ : Heap) (fa L : Addr) (cdv : Value) (s : Shared) (Q : Flow → Shared → Prop) (E : Value → Shared → Prop) (m : Str → Option Value)
    (tt tw tb ti tj : Tok) (told : Str) (cnt : List Int) (i j b : Int) (ht : told.length < 1000) (news : List (Addr × Obj))
    (B : Below callerA h₀ [] h₀) (X : (kx w.params).In h₀) (T : Top p loose mean mg mb h₀)
    (hi : 0 ≤ i ∧ i ≤ 4) (hj : 0 ≤ j ∧ j ≤ 4) (hb : 0 ≤ b ∧ b ≤ 2)
    (hl : (cleanS (KStt.codes told)).length < 1000) (hw : wsRun (KStt.codes (cleanS (KStt.codes told))) ws0 = ⟨cnt, b, i + j + 2 + b, 2⟩) (hc : CntOk cnt (wordS i j))
    (F : Fr h₀ L s.heap m) (hm : Has m [(Str.ofString "told", .str told tt), (Str.ofString "i", .int i ti), (Str.ofString "j", .int j tj), (Str.ofString "word", .str (wordS i j) tw), (Str.ofString "blanks", .int b tb)])
    (N : News h₀ L s.heap news)
    (hk : Nxt w h₀ L fa cdv lfD.val s Q E m [Str.ofString "plain", Str.ofString "lead", Str.ofString "piles"] (fun m' news' => ∃ x1 dd1 tn1 tc1 vs1 led t1 t2, IntsAre vs1 cnt ∧ WhiteL w (cleanS (KStt.codes told)) t1 x1 dd1 tn1 tc1 ⟨cnt, b, i + j + 2 + b, 2⟩ vs1 led ∧ Has m' [(Str.ofString "lead", .ref x1), (Str.ofString "plain", .str (cleanS (KStt.codes told)) t2)] ∧ news' = led ++ news)) :
    wpAny (model pw w) (lawA L fa cdv) (execs lfC.val (lawEnv L fa cdv)) Q E s := by
  have FF := hm.fr F
  clear F
  (try dsimp only [lawA])
  (try k_fold)
  (repeat (fail_if_success (with_reducible show wpAny _ _ (call (Value.ref _) _) _ _ _)); first | (k_unfold; (try dsimp only)) | walk1 | (dsimp only; walk1))
  k_dflt (refine Calls.use (c_clean w told _ _ ht) B (by k_asm) X (by k_asm) T (by rfl) (by ktr_room) (by ktr_units) ?_)
  rintro r9 h9 tk9 F9 N9 ⟨t9, rfl⟩
  (try dsimp only)
  (try k_fold)
  (repeat (fail_if_success (with_reducible show wpAny _ _ (call (Value.ref _) _) _ _ _)); first | (k_unfold; (try dsimp only)) | walk1 | (dsimp only; walk1))
  k_dflt (refine CallsN.use (c_white w _ _ _ hl) B (by k_asm) X (by k_asm) T (by rfl) (by ktr_room) (by ktr_units) ?_)
  (with_reducible rename Fr _ _ _ _ => lF)
  (with_reducible rename News _ _ _ _ => lN)
  clear lF lN
  rintro r9 h9' tk9' nw9 F9' N9' ⟨x1, dd1, tn1, tc1, vs1, led1, rfl, hI1, hW, rfl⟩
  have hW2 := hW
  obtain ⟨u1, u2, u3, k0, k1, k2, k3, k4, v1, rfl⟩ := hW2
  rw [hw] at hI1 hW N9'
  unfold whiteD at N9'
  simp only [List.cons_append, List.nil_append] at N9'
  (try dsimp only)
  (try k_fold)
  (repeat (fail_if_success (with_reducible show wpAny _ _ (eval (Expr.ListComp _ _ _ _) _) _ _ _)); first | (k_unfold; (try dsimp only)) | walk1 | (dsimp only; walk1))
  (with_reducible rename Fr _ _ _ _ => lF)
  (with_reducible rename News _ _ _ _ => lN)
  k_dflt (refine gc_pairF lF (by rfl) (by with_unfolding_all rfl) (by decide) (by rfl) (by decide) (by rfl) (by rfl) (by decide) (by intro _; rfl) ?_)
  (repeat (fail_if_success (with_reducible show wpAny _ _ (call (Value.type "enumerate") _) _ _ _)); first | (k_unfold; (try dsimp only)) | walk1 | (dsimp only; walk1))
  have hvl := hI1.length
  have hcl := hc.len
  k_dflt (refine gp_enumT (fun _ k y => ∃ t, y = Value.str (pileG cnt k) t) (by rfl) lF lN (.tail _ (.tail _ (.tail _ (.head _)))) (by dsimp only at hvl; omega) (fun _ _ _ _ h _ => h) ?el ?fin)
  case el =>
    rintro k tk9 v9 I9 o9 I8 o8 C9 oC9 mC9 D9 ys9 tl8 h8 tk8 E8 hk8 hv8 hC8 hx1 hx2 F8 N8
    clear lF lN
    obtain ⟨c8, t8, rfl, hc8⟩ := IntsAre.at hI1 k v9 hv8
    dsimp only at hc8
    have hk5 : (k : Int) < 5 := by dsimp only at hvl; omega
    have hcb := hc.all c8 (List.mem_of_getElem? hc8)
    (try dsimp only [List.cons_append] at N8)
    (try k_fold)
    repeat' (first | (k_unfold; (try dsimp only)) | (k_end; wrow_close) | ((fail_if_success (with_reducible refine GpEl_stop ?_)); walk1) | ((fail_if_success (with_reducible refine GpEl_stop ?_)); dsimp only; walk1) | (leave1; walk_say "STEP leave1"; (try dsimp only)) | fail "no step")
    (try k_fold)
    k_dflt (refine SB.mul (mulOk_of 16 1048576 (by show 1 ≤ 16; decide) (by show c8 ≤ 1048576; omega) (by omega) (by decide) (by decide)) ?_)
    intro t7 tk7
    repeat' (first | (k_unfold; (try dsimp only)) | (k_end; wrow_close) | ((fail_if_success (with_reducible refine GpEl_stop ?_)); walk1) | ((fail_if_success (with_reducible refine GpEl_stop ?_)); dsimp only; walk1) | (leave1; walk_say "STEP leave1"; (try dsimp only)) | fail "no step")
    (with_reducible rename Fr _ _ _ _ => fE)
    (with_reducible rename News _ _ _ _ => nE)
    refine gp_plain fE nE ?_ ?_
    · exact fun q hq => hq
    · exact ⟨_, by unfold pileG; rw [List.getD_eq_getElem?_getD, hc8]; rfl⟩
  case fin =>
    rintro D9 ys9 tl8 h8 tk8 hy8 F8 N8
    clear lF lN
    dsimp only at hvl
    rw [hvl] at hy8
    have hS := strs_range hy8
    clear hy8
    (try dsimp only)
    (try k_fold)
    (repeat (fail_if_success (with_reducible show wpAny _ _ (call (Value.builtin "str.join") _) _ _ _)); first | (k_unfold; (try dsimp only)) | walk1 | (dsimp only; walk1))
    k_dflt (refine join_listW (D := D9) (items := ys9.toArray) (ys := pileT cnt) (News.isList (by k_asm) (.head _)) (by rw [List.toList_toArray]; exact hS) (by decide) hc.size ?_)
    rw [hc.join]
    intro t7 tk7
    (try dsimp only)
    (try k_fold)
    repeat' (first | (k_unfold; (try dsimp only)) | ((with_reducible rename (_ != _) = true => hbad); exact absurd hbad (by simp)) | ((with_reducible rename b ≠ b => hbad); exact absurd rfl hbad) | ((with_reducible rename i + j + 2 + b ≠ _ => hbad); exact absurd rfl hbad) | ((fail_if_success (with_reducible show wpAny _ _ (execs (Stmt.If (Expr.Compare (Expr.Call _ _ _ _) _ _ _) _ _ _ :: _) _) _ _ _)); first | walk1 | (dsimp only; walk1)))
    (with_reducible rename Fr _ _ _ _ => fE)
    (with_reducible rename News _ _ _ _ => nE)
    exact hk.out _ _ _ _ fE (fun q hq => nE q (.tail _ (List.mem_append_left _ hq))) ⟨by intro z hz; simp only [List.contains_cons, List.contains_nil, Bool.or_false, Bool.or_eq_false_iff, beq_eq_false_iff_ne, ne_eq] at hz; simp [hz]; exact hm.kst z⟩ ⟨x1, dd1, tn1, tc1, vs1, _, _, _, hI1, hW, Has.cons rfl (Has.cons rfl Has.nil), rfl⟩
end Mine

end

section
open PySem PySem.W PyProof.Rows
namespace Mine
theorem p_D (w : World) (p : Program) (loose : List Str) (mean : ExcName → Option Value) (mg mb : Str → Option Value) (h₀ : Heap) (fa L : Addr) (cdv : Value) (s : Shared) (Q : Flow → Shared → Prop) (E : Value → Shared → Prop) (m : Str → Option Value)
    (x1 dd1 tn1 tc1 : Addr) (tn t2 tp : Tok) (vs1 : List Value) (z i j : Int) (pl : Str) (wh : Ws) (led news : List (Addr × Obj))
    (hz : 1 ≤ z ∧ z ≤ 4) (hi : 0 ≤ i ∧ i ≤ 4) (hj : 0 ≤ j ∧ j ≤ 4) (hlen : pl.length < 1000) (hn0 : 0 ≤ wh.n ∧ wh.n ≤ 100) (hsl : Txt.slice pl (some (wh.n + 1)) none = octS (numV z i j))
    (hW : WhiteL w pl tp x1 dd1 tn1 tc1 wh vs1 led)
    (B : Below callerA h₀ [] h₀) (X : (kx w.params).In h₀) (T : Top p loose mean mg mb h₀)
    (F : Fr h₀ L s.heap m) (hm : Has m [(Str.ofString "number", .int (numV z i j) tn), (Str.ofString "lead", .ref x1), (Str.ofString "plain", .str pl t2)])
    (N : News h₀ L s.heap (led ++ news))
    (hk : Nxt w h₀ L fa cdv lfE.val s Q E m [] (fun m' news' => news' = led ++ news)) :
    wpAny (model pw w) (lawA L fa cdv) (execs lfD.val (lawEnv L fa cdv)) Q E s := by
  have FF := hm.fr F
  clear F
  obtain ⟨u1, u2, u3, k0, k1, k2, k3, k4, v1, rfl⟩ := hW
  unfold whiteD at N
  simp only [List.cons_append, List.nil_append] at N
  (try dsimp only [lawA])
  (try k_fold)
  (repeat (fail_if_success (with_reducible show wpAny _ _ (eval (Expr.ListComp _ _ _ _) _) _ _ _)); first | (k_unfold; (try dsimp only)) | walk1 | (dsimp only; walk1))
  (with_reducible rename Fr _ _ _ _ => lF)
  (with_reducible rename News _ _ _ _ => lN)
  k_dflt (refine lc_textF lF (by rfl) (fun c y => ∃ t, y = Value.int (c : Int) t) (by with_unfolding_all rfl) (by decide) (by rfl) (by decide) (by rfl) (by intro _; rfl) ?_)
  (try dsimp only)
  (try k_fold)
  (repeat ((fail_if_success (with_reducible refine LcSrc_stop ?_)); first | (k_unfold; (try dsimp only)) | walk1 | (dsimp only; walk1)))
  (with_reducible rename Fr _ _ _ _ => lF)
  (with_reducible rename News _ _ _ _ => lN)
  rw [hsl]
  k_dflt (refine LcSrc.intro lF lN (by have := oct_len (oct_at hz hi hj); show (octS (numV z i j)).length ≤ 10000; omega) ?turn ?fin)
  case turn =>
    intro c u I oI C oC D mC ys h8 tk8 E8 hc hC hx F8 N8 off8
    clear lF lN
    (try k_fold)
    repeat' (first | (k_unfold; (try dsimp only)) | (k_end; wrow_close) | ((fail_if_success (with_reducible refine CompEnd_stop ?_)); walk1) | ((fail_if_success (with_reducible refine CompEnd_stop ?_)); dsimp only; walk1) | (leave1; walk_say "STEP leave1"; (try dsimp only)) | fail "no step")
    exact LCg.CompEnd.intro F8 N8 _ (fun _ hp => hp) off8 trivial ⟨rfl, _, rfl⟩
  case fin =>
    intro D ys h8 tk8 hy8 F8 N8
    clear lF lN
    have hIo := ords_ints hy8
    clear hy8
    obtain ⟨b0, hb0, hvt⟩ := rd_at hz hi hj
    (try dsimp only)
    (try k_fold)
    (repeat (fail_if_success (with_reducible show wpAny _ _ (call (Value.ref _) _) _ _ _)); first | (k_unfold; (try dsimp only)) | walk1 | (dsimp only; walk1))
    k_dflt (refine (c_read w D ys _ hIo b0 hb0 _ hvt ys.length _) _ _ _ _ _ _ _ _ _ _ _ _ _ _ _ _ _ _ _ _ B F8 X N8 T (by rfl) (by ktr_room) (by ktr_units) ⟨?_⟩)
    clear F8 N8
    rintro r9 h9 tk9 nw9 F9 N9 ⟨a9, t9, k9, rfl, rfl⟩
    (try dsimp only)
    (try k_fold)
    repeat' (first | (k_unfold; (try dsimp only)) | ((fail_if_success (with_reducible show wpAny _ _ (execs (Stmt.Assign [Expr.Name (Str.ofString "value") _] _ _ :: _) _) _ _ _)); first | walk1 | (dsimp only; walk1)))
    (with_reducible rename Fr _ _ _ _ => fE)
    (with_reducible rename News _ _ _ _ => nE)
    exact hk.out _ _ _ _ fE (fun q hq => nE q (.tail _ (.tail _ hq))) ⟨fun z _ => hm.kst z⟩ rfl
end Mine

end

section
open PySem PySem.W PyProof.Rows
namespace Mine
/-- value's loop: the digits to the base 16 -/
theorem dig_all : ∀ (z : Fin 4) (i j : Fin 5) (v : Fin 8), (v.1 : Int) ≤ gv (1 + (z.1 : Int)) i.1 j.1 → (0 < ((numV (1 + (z.1 : Int)) i.1 j.1).fdiv ((16 : Int) ^ Int.toNat (v.1 : Int))).fmod 16 ↔ (v.1 : Int) < gv (1 + (z.1 : Int)) i.1 j.1) := by decide +kernel
theorem dig_at {z i j v : Int} (hz : 1 ≤ z ∧ z ≤ 4) (hi : 0 ≤ i ∧ i ≤ 4) (hj : 0 ≤ j ∧ j ≤ 4) (h0 : 0 ≤ v) (h1 : v ≤ gv z i j) (h7 : gv z i j ≤ 7) : 0 < ((numV z i j).fdiv ((16 : Int) ^ Int.toNat v)).fmod 16 ↔ v < gv z i j := by
  obtain ⟨a, rfl⟩ := fin4 hz; obtain ⟨b, rfl⟩ := fin5 hi; obtain ⟨c, rfl⟩ := fin5 hj
  obtain ⟨f, rfl⟩ : ∃ f : Fin 8, v = (f.1 : Int) := ⟨⟨v.toNat, by omega⟩, by show v = (v.toNat : Int); omega⟩
  exact dig_all a b c f h1
theorem updF_of {d : Addr} {o : Obj} {rest : List (Addr × Obj)} (h2 : Off d rest) : ∀ {own : List (Addr × Obj)}, Off d own → UpdF d o (own ++ (d, o) :: rest) (fun o' => own ++ (d, o') :: rest)
  | [], _ => UpdF.head h2
  | p :: r, h1 => UpdF.tail (p := p) (h1 p (.head _)) (updF_of h2 h1.tail)
theorem int_dict_cls {w : World} {o : Obj} {kvs : List (Int × Value)} (h : Obj.IsDictOf (PySem.intKind pw w) o kvs) : o.cls = .type "dict" ∧ (∃ es ep, o.data = .dict es ep) := by
  obtain ⟨es, ep, he, hd, -⟩ := h
  exact ⟨he.1, es, ep, hd⟩
theorem int_dict_key {w : World} {o : Obj} {kvs : List (Int × Value)} {e : DictEntry} {r : List DictEntry} {n : Nat} {x : Str} {t : Tok} (h : Obj.IsDictOf (PySem.intKind pw w) o kvs) (he : e.key = .str x t) : dictOf (e :: r) n ≠ o := by
  rintro rfl
  obtain ⟨es, ep, -, hd, -, hp, -⟩ := h
  have e1 : es.toList = e :: r := by
    have : (Data.dict (e :: r).toArray n) = Data.dict es ep := hd
    injection this with h1 h2
    rw [← h1]
  rw [e1] at hp
  cases hp with
  | cons h1 _ _ =>
    rw [he] at h1
    exact nomatch h1
theorem p_E (w : World) (p : Program) (loose : List Str) (mean : ExcName → Option Value) (mg mb : Str → Option Value) (h₀ : Heap) (fa L : Addr) (cdv : Value) (s : Shared) (Q : Flow → Shared → Prop) (E : Value → Shared → Prop) (m : Str → Option Value)
    (ow om os oW : Obj) (x1 dd1 tn1 tc1 D1 dW : Addr) (tz tb ti tj tn tl : Tok) (vs1 yw : List Value) (ys : List Int) (z b i j : Int) (kvs : List (Int × Value)) (pl : Str) (tp : Tok) (wh : Ws) (led post : List (Addr × Obj))
    (hz : 1 ≤ z ∧ z ≤ 4) (hb : 0 ≤ b ∧ b ≤ 2) (hi : 0 ≤ i ∧ i ≤ 4) (hj : 0 ≤ j ∧ j ≤ 4)
    (hWd : Obj.IsDictOf (PySem.intKind pw w) oW kvs) 
    (d1 : ow.data = .cell (some (.ref dW))) (d2 : ∃ v, om.data = .cell v) (hop : Off dW post) (hkl : kvs.length ≤ 100) (d3 : os.data = .cell (some (.int z tz)))
    (hIw : IntsAre yw ys) (hyi : i < (ys.length : Int)) (hyj : j < (ys.length : Int)) (hgi : ys.getD i.toNat 0 = i.fdiv z) (hgj : ys.getD j.toNat 0 = j.fdiv z) (hwn : wh.n = i + j + 2 + b) (hwt : wh.nt = 2) (hwi : indentV z wh = z * (i.fdiv z + j.fdiv z + 2) + b) (hwl : wh.cnt.length ≤ 5) (hwc : ∀ e ∈ wh.cnt, 0 ≤ e ∧ e ≤ 2)
    (hI1 : IntsAre vs1 wh.cnt) (hW : WhiteL w pl tp x1 dd1 tn1 tc1 wh vs1 led)
    (B : Below callerA h₀ [] h₀) (X : (kx w.params).In h₀) (T : Top p loose mean mg mb h₀)
    (F : Fr h₀ L s.heap m) (hm : Has m [(Str.ofString "number", .int (numV z i j) tn), (Str.ofString "lead", .ref x1), (Str.ofString "i", .int i ti), (Str.ofString "j", .int j tj), (Str.ofString "whole", .ref D1), (Str.ofString "blanks", .int b tb)])
    (N : News h₀ L s.heap (led ++ ((D1, LCg.lst yw) :: (L + 1 + 1 + 1, ow) :: (L + 1 + 1, om) :: (L + 1, os) :: (dW, oW) :: post)))
    (hE : HasPO w L fa cdv E)
    (hk : Nxt w h₀ L fa cdv [] s Q E m [Str.ofString "value"] (fun m' news' => ∃ oW' t, Obj.IsDictOf (PySem.intKind pw w) oW' (stored kvs (8 * i + j) (.int (gv z i j) t)) ∧ news' = (D1, LCg.lst yw) :: (L + 1 + 1 + 1, ow) :: (L + 1 + 1, om) :: (L + 1, os) :: (dW, oW') :: post)) :
    wpAny (model pw w) (lawA L fa cdv) (execs lfE.val (lawEnv L fa cdv)) Q E s := by
  have FF := hm.fr F
  clear F
  have hW2 := hW
  obtain ⟨u1, u2, u3, k0, k1, k2, k3, k4, v1, rfl⟩ := hW
  unfold whiteD at N
  simp only [List.cons_append, List.nil_append] at N
  (try dsimp only [lawA])
  (try k_fold)
  have hgv := gv_at hz hi hj
  (repeat (fail_if_success (with_reducible show wpAny _ _ (exec (Stmt.While _ _ _ _) _) _ _ _)); first | (k_unfold; (try dsimp only)) | walk1 | (dsimp only; walk1))
  (with_reducible rename Fr _ _ _ _ => lF)
  (with_reducible rename News _ _ _ _ => lN)
  refine ksw_while (σ := Int × Tok) (fun _ => _) (fun st => [(Str.ofString "value", .int st.1 st.2)]) (fun _ => True) [] (fun st => 0 ≤ st.1 ∧ st.1 ≤ gv z i j) (fun st => (gv z i j - st.1).toNat) (0, _)
    lF lN trivial (List.forall_mem_cons.mpr ⟨rfl, List.forall_mem_nil _⟩) ⟨Int.le_refl 0, hgv.1⟩ ?turn hE.po
  case turn =>
    clear lF lN
    rintro ⟨v, tv⟩ u h9 tk9 - ⟨hv0, hv1⟩ F9 N9
    dsimp only at hv0 hv1 F9 N9 ⊢
    (try k_fold)
    have hdg := dig_at hz hi hj hv0 hv1 hgv.2
    (repeat (fail_if_success (with_reducible show wpAny _ _ (binaryOp Operator.FloorDiv _ _) _ _ _)); first | (k_unfold; (try dsimp only)) | walk1 | (dsimp only; walk1))
    have hpw := pow16 (v := v) (by omega) (numV z i j)
    k_dflt (refine floordiv_int hpw.1 ?_ (Or.inl hpw.2))
    clear hpw
    generalize (numV z i j).fdiv ((16 : Int) ^ Int.toNat v) = q at hdg ⊢
    (try dsimp only)
    (try k_fold)
    repeat' (first | (k_unfold; (try dsimp only)) | (k_end; wrow_close) | ((fail_if_success (with_reducible refine KswEnd_stop ?_)); (fail_if_success (with_reducible show wpAny _ _ (call (Value.ref _) _) _ _ _)); walk1) | ((fail_if_success (with_reducible show wpAny _ _ (call (Value.ref _) _) _ _ _)); dsimp only; walk1) | (leave1; walk_say "STEP leave1"; (try dsimp only)) | fail "no step")
    · (with_reducible rename Fr _ _ _ _ => nF)
      (with_reducible rename News _ _ _ _ => nE)
      (with_reducible rename 0 < q.fmod 16 => hq0)
      exact ksw_end (v + 1, _) nF nE (fun _ hp => hp) trivial (List.forall_mem_cons.mpr ⟨by with_unfolding_all rfl, List.forall_mem_nil _⟩) (by intro z h2 h3; simp only [List.forall_mem_cons, List.not_mem_nil, false_implies, implies_true, and_true, ne_eq] at h2; simp [h2, kstB]) (by have := hdg.mp hq0; dsimp only; omega) (by have := hdg.mp hq0; dsimp only; omega)
    · (with_reducible rename v ≠ _ => hbad)
      (with_reducible rename ¬ 0 < q.fmod 16 => hq0)
      refine absurd ?_ hbad
      rw [hgi, hgj, hwn, hwt, show i + j + 2 + b - 2 - b = i + j by omega]
      have := fun h => hq0 (hdg.mpr h)
      show v = gv z i j
      omega
    · (with_reducible rename ¬ 0 < q.fmod 16 => hq0)
      have hve : v = gv z i j := by
        have := fun h => hq0 (hdg.mpr h)
        omega
      clear hdg
      (with_reducible rename Fr _ _ _ _ => lF)
      (with_reducible rename News _ _ _ _ => lN)
      k_dflt (refine CallsN.use (c_indent w x1 dd1 tn1 tc1 _ _ _ vs1 z _ _ _ hW2 hI1 (by omega) (by omega) (fun e he => by have := hwc e he; omega)) B lF X lN T (by rfl) (by ktr_room) (by ktr_units) ?_)
      clear lF lN
      rintro r8 h8 tk8 nw8 F8 N8 ⟨⟨t8, rfl⟩, rfl⟩
      unfold whiteD at N8
      simp only [List.cons_append, List.nil_append] at N8
      rw [hwi]
      (try dsimp only)
      (try k_fold)
      repeat' (first | (k_unfold; (try dsimp only)) | (k_end; wrow_close) | ((with_reducible rename z * _ + b ≠ _ => hbad); exact absurd (by rw [hgi, hgj]) hbad) | ((fail_if_success (with_reducible show wpAny _ _ (setItem _ _ _) _ _ _)); first | walk1 | (dsimp only; walk1)) | (leave1; walk_say "STEP leave1"; (try dsimp only)) | fail "no step")
      (with_reducible rename Fr _ _ _ _ => lF)
      (with_reducible rename News _ _ _ _ => lN)
      obtain ⟨hcls, es0, ep0, hdat⟩ := int_dict_cls hWd
      have o0 := news_ne lN (.head _) (.tail _ (.tail _ (.tail _ (.tail _ (.tail _ (.tail _ (.tail _ (.tail _ (.head _))))))))) (fun e => by have := congrArg Obj.cls e; dsimp only at this; rw [hcls] at this; exact nomatch this)
      have o1 := news_ne lN (.tail _ (.head _)) (.tail _ (.tail _ (.tail _ (.tail _ (.tail _ (.tail _ (.tail _ (.tail _ (.head _))))))))) (int_dict_key hWd rfl)
      have o2 := news_ne lN (.tail _ (.tail _ (.head _))) (.tail _ (.tail _ (.tail _ (.tail _ (.tail _ (.tail _ (.tail _ (.tail _ (.head _))))))))) (fun e => by have := congrArg Obj.cls e; dsimp only at this; rw [hcls] at this; exact absurd this (by decide))
      have o3 := news_ne lN (.tail _ (.tail _ (.tail _ (.head _)))) (.tail _ (.tail _ (.tail _ (.tail _ (.tail _ (.tail _ (.tail _ (.tail _ (.head _))))))))) (fun e => by have := congrArg Obj.cls e; dsimp only at this; rw [hcls] at this; exact absurd this (by decide))
      have o4 := news_ne lN (.tail _ (.tail _ (.tail _ (.tail _ (.head _))))) (.tail _ (.tail _ (.tail _ (.tail _ (.tail _ (.tail _ (.tail _ (.tail _ (.head _))))))))) (fun e => by have := congrArg Obj.cls e; dsimp only at this; rw [hcls] at this; exact absurd this (by decide))
      have o5 := news_ne lN (.tail _ (.tail _ (.tail _ (.tail _ (.tail _ (.head _)))))) (.tail _ (.tail _ (.tail _ (.tail _ (.tail _ (.tail _ (.tail _ (.tail _ (.head _))))))))) (fun e => by have := congrArg Obj.data e; dsimp only at this; rw [hdat, d1] at this; exact nomatch this)
      have o6 := news_ne lN (.tail _ (.tail _ (.tail _ (.tail _ (.tail _ (.tail _ (.head _))))))) (.tail _ (.tail _ (.tail _ (.tail _ (.tail _ (.tail _ (.tail _ (.tail _ (.head _))))))))) (fun e => by obtain ⟨v2, d2⟩ := d2; have := congrArg Obj.data e; dsimp only at this; rw [hdat, d2] at this; exact nomatch this)
      have o7 := news_ne lN (.tail _ (.tail _ (.tail _ (.tail _ (.tail _ (.tail _ (.tail _ (.head _)))))))) (.tail _ (.tail _ (.tail _ (.tail _ (.tail _ (.tail _ (.tail _ (.tail _ (.head _))))))))) (fun e => by have := congrArg Obj.data e; dsimp only at this; rw [hdat, d3] at this; exact nomatch this)
      subst hve
      k_dflt (refine kda_set (knd := PySem.intKind _ _) lF lN (updF_of (own := [_, _, _, _, _, _, _, _]) hop (Off.cons o0 (Off.cons o1 (Off.cons o2 (Off.cons o3 (Off.cons o4 (Off.cons o5 (Off.cons o6 (Off.cons o7 off_nil))))))))) hWd (intKind_is _ _ _ _) (by rw [PySem.sizeLine_eq]; omega) ?_)
      clear lF lN
      intro h7 oW' F7 N7 hd7
      (try dsimp only [List.cons_append, List.nil_append] at N7)
      (try dsimp only)
      (try k_fold)
      (repeat (fail_if_success (with_reducible show wpAny _ _ (execs [] _) _ _ _)); first | (k_unfold; (try dsimp only)) | walk1 | (dsimp only; walk1))
      exact hk.out _ _ _ _ F7 (fun q hq => N7 q (.tail _ (.tail _ (.tail _ (.tail _ hq))))) ⟨by intro z hz; simp only [List.contains_cons, List.contains_nil, Bool.or_false, Bool.or_eq_false_iff, beq_eq_false_iff_ne, ne_eq] at hz; simp [hz, kstB]; exact hm.kst z⟩ ⟨oW', _, hd7, rfl⟩
end Mine

end

section
open PySem PySem.W PyProof.Rows
namespace Mine
/-- a is none of these addresses -/
structure Away (a : Addr) (l : List Addr) : Prop where
  all : ∀ b ∈ l, @Ne Nat b a
theorem Away.off {a : Addr} {l : List (Addr × Obj)} (h : Away a (l.map (·.1))) : Off a l := fun q hq => h.all q.1 (List.mem_map.mpr ⟨q, hq, rfl⟩)
/-- what the law keeps from turn to turn -/
structure LpI (w : World) (z b : Int) (sd : Int) (oW oF : Obj) (kvs : List (Int × Value)) (fvs : List (Str × Value)) (vs : List Value) (hs : List (Str × Str)) (hl : List (Addr × Obj)) : Prop where
  sd0 : 0 ≤ sd
  wd : Obj.IsDictOf (PySem.intKind pw w) oW kvs
  fd : Obj.IsDictOf (PySem.strKind pw w) oF fvs
  ff : PyProof.V.FlatPairs PyData.str fvs (hs.map fun h => (.str (Txt.lower h.1), .str h.2))
  hh : All2 (HdrAt hl) vs hs
  ho : ∀ h ∈ hs, HsOk z b h
/-- what an addresses' owner is apart from -/
structure LpA (x d lH lh lm D1 dW dF L : Addr) (rest : List (Addr × Obj)) : Prop where
  aH : Away lH [x, d, dF, dW, D1, lm, lh, L + 1 + 1 + 1, L + 1 + 1, L + 1]
  aF : Away dF [x, d, lH, dW, D1, lm, lh, L + 1 + 1 + 1, L + 1 + 1, L + 1]
  aW : Away dW [x, d, lH, dF, lm, lh]
  rH : Off lH rest
  rF : Off dF rest
  rW : Off dW rest
theorem turn_led {h₀ h : Heap} {L : Addr} {led rest : List (Addr × Obj)} {x d l f v n m k a b c i : Addr × Obj} (N : News h₀ L h (led ++ (x :: d :: l :: f :: v :: n :: m :: k :: a :: b :: c :: i :: rest))) : News h₀ L h (led ++ (n :: a :: b :: c :: v :: (x :: d :: l :: f :: m :: k :: i :: rest))) := fun q hq => N q (by
  simp only [List.mem_append, List.mem_cons] at hq ⊢
  rcases hq with h | h | h | h | h | h | h | h | h | h | h | h | h | h <;> simp [h])
theorem turn_led2 {h₀ h : Heap} {L : Addr} {rest : List (Addr × Obj)} {x d l f v n m k a b c i : Addr × Obj} (N : News h₀ L h (n :: a :: b :: c :: v :: (x :: d :: l :: f :: m :: k :: i :: rest))) : News h₀ L h (x :: d :: l :: f :: v :: n :: m :: k :: a :: b :: c :: i :: rest) := fun q hq => N q (by
  simp only [List.mem_cons] at hq ⊢
  rcases hq with h | h | h | h | h | h | h | h | h | h | h | h | h <;> simp [h])
noncomputable def turnSt : List Str := [Str.ofString "seed", Str.ofString "number", Str.ofString "text", Str.ofString "word", Str.ofString "told", Str.ofString "plain", Str.ofString "lead", Str.ofString "piles", Str.ofString "value"]
theorem p_turn (w : World) (p : Program) (loose : List Str) (mean : ExcName → Option Value) (mg mb : Str → Option Value) (h₀ : Heap) (fa L : Addr) (cdv : Value) (s : Shared) (Q : Flow → Shared → Prop) (E : Value → Shared → Prop) (m : Str → Option Value)
    (ow om os oF oW o : Obj) (x d lH lh lm D1 dW dF I : Addr) (k0 tz tb ti tj ts tm0 tm1 : Tok) (vs vh yw : List Value) (ys dd : List Int) (ep eph : Nat) (z b i j sd m0 m1 : Int) (kvs : List (Int × Value)) (fvs : List (Str × Value)) (hs : List (Str × Str)) (rest : List (Addr × Obj))
    (hz : 1 ≤ z ∧ z ≤ 4) (hb : 0 ≤ b ∧ b ≤ 2) (hi : 0 ≤ i ∧ i ≤ 4) (hj : 0 ≤ j ∧ j ≤ 4)
    (hId : IntsAre vh dd) (hdl : dd.length = 6) (hWa : WorthAt z i j kvs)
    (hIw : IntsAre yw ys) (hyi : i < (ys.length : Int)) (hyj : j < (ys.length : Int)) (hgi : ys.getD i.toNat 0 = i.fdiv z) (hgj : ys.getD j.toNat 0 = j.fdiv z)
    (hI : LpI w z b sd oW oF kvs fvs vs hs rest) (hA : LpA x d lH lh lm D1 dW dF L rest) (hIa : Away I [lH, dF, dW]) (hIr : Away I (rest.map (·.1))) (hvl : vs.length ≤ 100) (hkl : kvs.length ≤ 100) (lo : (dF == sysModules) = false) (hoc : o.cls = .type "list_iterator")
    (d1 : ow.data = .cell (some (.ref dW))) (d2 : om.data = .cell (some (.ref lm))) (d3 : os.data = .cell (some (.int z tz)))
    (B : Below callerA h₀ [] h₀) (X : (kx w.params).In h₀) (T : Top p loose mean mg mb h₀) (hE : HasPO w L fa cdv E)
    (F : Fr h₀ L s.heap m) (hm : Has m [(Str.ofString "i", .int i ti), (Str.ofString "j", .int j tj), (Str.ofString "have", .ref lh), (Str.ofString "blanks", .int b tb), (Str.ofString "table", .ref x), (Str.ofString "first", .ref dF), (Str.ofString "whole", .ref D1)]) (hsm : Has m [(Str.ofString "seed", .int sd ts)])
    (N : News h₀ L s.heap ((x, instObj 262 d) :: (d, hdrD w lH k0) :: (lH, W.listOf vs.toArray ep) :: (dF, oF) :: (dW, oW) :: (D1, LCg.lst yw) :: (lm, W.listOf #[.int m0 tm0, .int m1 tm1] 0) :: (lh, W.listOf vh.toArray eph) :: (L + 1 + 1 + 1, ow) :: (L + 1 + 1, om) :: (L + 1, os) :: (I, o) :: rest))
    (hk : Nxt w h₀ L fa cdv [] s Q E m turnSt (fun m' news' => ∃ sd' ts' oW' oF' t fvs' vs' hs' ep' rest', Has m' [(Str.ofString "seed", .int sd' ts')] ∧ LpI w z b sd' oW' oF' (stored kvs (8 * i + j) (.int (gv z i j) t)) fvs' vs' hs' rest' ∧ LpA x d lH lh lm D1 dW dF L rest' ∧ vs'.length ≤ vs.length + 1 ∧ (∀ q ∈ rest, q ∈ rest') ∧ Away I (rest'.map (·.1)) ∧
      news' = (x, instObj 262 d) :: (d, hdrD w lH k0) :: (lH, W.listOf vs'.toArray ep') :: (dF, oF') :: (dW, oW') :: (D1, LCg.lst yw) :: (lm, W.listOf #[.int m0 tm0, .int m1 tm1] 0) :: (lh, W.listOf vh.toArray eph) :: (L + 1 + 1 + 1, ow) :: (L + 1 + 1, om) :: (L + 1, os) :: (I, o) :: rest')) :
    wpAny (model pw w) (lawA L fa cdv) (execs lfA.val (lawEnv L fa cdv)) Q E s := by
  have hm1 : Has m [(Str.ofString "i", .int i ti), (Str.ofString "j", .int j tj), (Str.ofString "seed", .int sd ts), (Str.ofString "have", .ref lh), (Str.ofString "blanks", .int b tb)] := ⟨fun q hq => by
    simp only [List.mem_cons, List.not_mem_nil, or_false] at hq
    rcases hq with rfl | rfl | rfl | rfl | rfl
    · exact hm.all _ (by simp)
    · exact hm.all _ (by simp)
    · exact hsm.all _ (by simp)
    · exact hm.all _ (by simp)
    · exact hm.all _ (by simp)⟩
  refine p_A w p loose mean mg mb h₀ fa L cdv s Q E m ow om os oF oW x d lH lh lm D1 dW dF k0 tz tb ti tj ts tm0 tm1 vs vh yw dd ep eph z b i j sd m0 m1 kvs ((I, o) :: rest) hz hb hi hj hId hdl hI.wd hWa d1 d2 d3 B X T F hm1 N ⟨?_⟩
  rintro h1 tk1 m1' _ F1 N1 A1 ⟨rfl, t1, t2, t3, t4, H1⟩
  have hsd := fmod_b (sd * 31 + dd.getD (Int.toNat 5) 0) 1000003 (by decide)
  generalize (sd * 31 + dd.getD (Int.toNat 5) 0).fmod 1000003 = sd1 at hsd H1
  have hm2 := hm.agree A1 (by rfl)
  have mB : Has m1' [(Str.ofString "seed", .int sd1 t1), (Str.ofString "text", .str (typeS i j b sd1 ++ octS (numV z i j)) t3), (Str.ofString "word", .str (wordS i j) t4), (Str.ofString "table", .ref x), (Str.ofString "first", .ref dF)] := ⟨fun q hq => by
    simp only [List.mem_cons, List.not_mem_nil, or_false] at hq
    rcases hq with rfl | rfl | rfl | rfl | rfl
    · exact H1.all _ (by simp)
    · exact H1.all _ (by simp)
    · exact H1.all _ (by simp [wordS])
    · exact hm2.all _ (by simp)
    · exact hm2.all _ (by simp)⟩
  obtain ⟨cnt0, hT0⟩ := told_one (k := sd1) hz hi hj hb
  have hWc := (int_dict_cls hI.wd).1
  have hwa : 97 ≤ (97 + if j < i then j else i).toNat ∧ (97 + if j < i then j else i).toNat ≤ 101 := by split <;> omega
  have hwb : 97 ≤ (97 + if j > i then j else i).toNat ∧ (97 + if j > i then j else i).toNat ≤ 101 := by split <;> omega
  refine p_B w p loose mean mg mb h₀ fa L cdv _ Q E m1' oF x d lH dW dF k0 t1 t3 t4 vs hs fvs ep sd1 _ _ _ [(dW, oW), (D1, LCg.lst yw), (lm, W.listOf #[.int m0 tm0, .int m1 tm1] 0), (lh, W.listOf vh.toArray eph), (L + 1 + 1 + 1, ow), (L + 1 + 1, om), (L + 1, os), (I, o)] rest hsd.1 hwa hwb hT0.okv
    (hA.aH.all _ (by simp)) (hA.aH.all _ (by simp)) (Off.cons (hA.aH.all _ (by simp)) (Off.app (Off.cons (hA.aH.all _ (by simp)) (Off.cons (hA.aH.all _ (by simp)) (Off.cons (hA.aH.all _ (by simp)) (Off.cons (hA.aH.all _ (by simp)) (Off.cons (hA.aH.all _ (by simp)) (Off.cons (hA.aH.all _ (by simp)) (Off.cons (hA.aH.all _ (by simp)) (Off.cons (Ne.symm (hIa.all _ (by simp))) off_nil)))))))) hA.rH))
    (hA.aF.all _ (by simp)) (hA.aF.all _ (by simp)) (hA.aF.all _ (by simp)) (Off.app (Off.cons (hA.aF.all _ (by simp)) (Off.cons (hA.aF.all _ (by simp)) (Off.cons (hA.aF.all _ (by simp)) (Off.cons (hA.aF.all _ (by simp)) (Off.cons (hA.aF.all _ (by simp)) (Off.cons (hA.aF.all _ (by simp)) (Off.cons (hA.aF.all _ (by simp)) (Off.cons (Ne.symm (hIa.all _ (by simp))) off_nil)))))))) hA.rF)
    hvl lo hI.fd hI.ff hI.hh B X T F1 mB N1 ⟨?_⟩
  clear N1
  rintro h2 tk2 m2' _ F2 N2 A2 ⟨told, tt', hs', vs', ep', oF', fvs', rest', H2, rfl, hfd', hff', hh', hcase⟩
  simp only [List.cons_append, List.nil_append] at N2
  have hFc := str_dict_cls hfd'
  have key : ∃ cnt, ToldOk z b i j told cnt ∧ (∀ h ∈ hs', HsOk z b h) ∧ LpA x d lH lh lm D1 dW dF L rest' ∧ vs'.length ≤ vs.length + 1 ∧ (∀ q ∈ rest, q ∈ rest') ∧ Away I (rest'.map (·.1)) := by
    have e1 := hI.hh.length
    have e2 := hh'.length
    rcases hcase with ⟨hg, rfl, rfl⟩ | ⟨hg, rfl, a, o', nm, rfl, rfl, hcl, hne, hlow⟩
    · obtain ⟨cnt, hc⟩ := told_any hz hi hj hb hI.ho hg
      exact ⟨cnt, hc, hI.ho, hA, by omega, fun _ h => h, hIr⟩
    · have a1 : @Ne Nat a dF := news_ne N2 (p := (a, o')) (q := (dF, oF')) (by simp) (by simp) (fun e => by have := congrArg Obj.cls e; dsimp only at this; rw [hFc, hcl] at this; exact absurd this (by decide))
      have a2 : @Ne Nat a dW := news_ne N2 (p := (a, o')) (q := (dW, oW)) (by simp) (by simp) (fun e => by have := congrArg Obj.cls e; dsimp only at this; rw [hWc, hcl] at this; exact absurd this (by decide))
      have a3 : @Ne Nat a I := news_ne N2 (p := (a, o')) (q := (I, o)) (by simp) (by simp) (fun e => by have := congrArg Obj.cls e; dsimp only at this; rw [hoc, hcl] at this; exact absurd this (by decide))
      refine ⟨cnt0, hT0, fun h hh0 => ?_, ⟨hA.aH, hA.aF, hA.aW, Off.cons hne hA.rH, Off.cons a1 hA.rF, Off.cons a2 hA.rW⟩, ?_, fun _ h => .tail _ h, ⟨List.forall_mem_cons.mpr ⟨a3, hIr.all⟩⟩⟩
      · rcases List.mem_append.mp hh0 with hh0 | hh0
        · exact hI.ho h hh0
        · rw [List.mem_singleton.mp hh0]
          exact ⟨i, j, sd1, hi, hj, hlow, rfl⟩
      · rw [e2, List.length_append, e1]; exact Nat.le_refl _
  clear hcase
  obtain ⟨cnt, hT, ho', hA', hvl', hsub, hIr'⟩ := key
  have G1 := H1.agree A2 (by rfl)
  have hm3 := hm2.agree A2 (by rfl)
  have mC : Has m2' [(Str.ofString "told", .str told tt'), (Str.ofString "i", .int i ti), (Str.ofString "j", .int j tj), (Str.ofString "word", .str (wordS i j) t4), (Str.ofString "blanks", .int b tb)] := ⟨fun q hq => by
    simp only [List.mem_cons, List.not_mem_nil, or_false] at hq
    rcases hq with rfl | rfl | rfl | rfl | rfl
    · exact H2.all _ (by simp)
    · exact hm3.all _ (by simp)
    · exact hm3.all _ (by simp)
    · exact G1.all _ (by simp [wordS])
    · exact hm3.all _ (by simp)⟩
  refine p_C w p loose mean mg mb h₀ fa L cdv _ Q E m2' tt' t4 tb ti tj told cnt i j b hT.len _ B X T hi hj hb hT.pln hT.ws hT.cok F2 mC N2 ⟨?_⟩
  rintro h3 tk3 m3' _ F3 N3 A3 ⟨x1, dd1, tn1, tc1, vs1, led, u1, u2, hI1, hW, H3, rfl⟩
  have G2 := G1.agree A3 (by rfl)
  have hm4 := hm3.agree A3 (by rfl)
  have mD : Has m3' [(Str.ofString "number", .int (numV z i j) t2), (Str.ofString "lead", .ref x1), (Str.ofString "plain", .str (cleanS (KStt.codes told)) u2)] := ⟨fun q hq => by
    simp only [List.mem_cons, List.not_mem_nil, or_false] at hq
    rcases hq with rfl | rfl | rfl
    · exact G2.all _ (by simp)
    · exact H3.all _ (by simp)
    · exact H3.all _ (by simp)⟩
  refine p_D w p loose mean mg mb h₀ fa L cdv _ Q E m3' x1 dd1 tn1 tc1 t2 u2 u1 vs1 z i j (cleanS (KStt.codes told)) ⟨cnt, b, i + j + 2 + b, 2⟩ led _ hz hi hj hT.pln (by dsimp only; omega) hT.slc hW B X T F3 mD N3 ⟨?_⟩
  rintro h4 tk4 m4' _ F4 N4 A4 rfl
  have G3 := G2.agree A4 (by rfl)
  have K3 := H3.agree A4 (by rfl)
  have hm5 := hm4.agree A4 (by rfl)
  have mE : Has m4' [(Str.ofString "number", .int (numV z i j) t2), (Str.ofString "lead", .ref x1), (Str.ofString "i", .int i ti), (Str.ofString "j", .int j tj), (Str.ofString "whole", .ref D1), (Str.ofString "blanks", .int b tb)] := ⟨fun q hq => by
    simp only [List.mem_cons, List.not_mem_nil, or_false] at hq
    rcases hq with rfl | rfl | rfl | rfl | rfl | rfl
    · exact G3.all _ (by simp)
    · exact K3.all _ (by simp)
    · exact hm5.all _ (by simp)
    · exact hm5.all _ (by simp)
    · exact hm5.all _ (by simp)
    · exact hm5.all _ (by simp)⟩
  have N5 : News h₀ L h4 (led ++ ((D1, LCg.lst yw) :: (L + 1 + 1 + 1, ow) :: (L + 1 + 1, om) :: (L + 1, os) :: (dW, oW) :: ((x, instObj 262 d) :: (d, hdrD w lH k0) :: (lH, W.listOf vs'.toArray ep') :: (dF, oF') :: (lm, W.listOf #[.int m0 tm0, .int m1 tm1] 0) :: (lh, W.listOf vh.toArray eph) :: (I, o) :: rest'))) := turn_led N4
  refine p_E w p loose mean mg mb h₀ fa L cdv _ Q E m4' ow om os oW x1 dd1 tn1 tc1 D1 dW tz tb ti tj t2 t2 vs1 yw ys z b i j kvs _ u1 ⟨cnt, b, i + j + 2 + b, 2⟩ led _ hz hb hi hj hI.wd d1 ⟨_, d2⟩
    (Off.cons (hA.aW.all _ (by simp)) (Off.cons (hA.aW.all _ (by simp)) (Off.cons (hA.aW.all _ (by simp)) (Off.cons (hA.aW.all _ (by simp)) (Off.cons (hA.aW.all _ (by simp)) (Off.cons (hA.aW.all _ (by simp)) (Off.cons (Ne.symm (hIa.all _ (by simp))) hA'.rW))))))) hkl d3 hIw hyi hyj hgi hgj rfl rfl hT.ind hT.cok.len hT.cok.all hI1 hW B X T F4 mE N5 hE ⟨?_⟩
  rintro h5 tk5 m5' _ F5 N6 A5 ⟨oW', t9, hwd', rfl⟩
  have H6 := G3.agree A5 (by rfl)
  refine hk.out h5 tk5 m5' _ F5 (turn_led2 N6) ((((A1.trans A2).trans A3).trans A4).trans A5) ⟨sd1, t1, oW', oF', t9, fvs', vs', hs', ep', rest', ⟨List.forall_mem_singleton.mpr (H6.all _ (by simp))⟩, ⟨hsd.1, hwd', hfd', hff', hh', ho'⟩, hA', hvl', hsub, hIr', rfl⟩
end Mine

end

section
open PySem PySem.W PyProof.Rows
namespace Mine
section
variable {prog : Program} {w : World} {A : Around} {E : Value → Shared → Prop} {s : Shared} {env : Env} {h₀ : Heap} {target : PySem.Expr} {body : List Stmt} {Q : Flow → Shared → Prop}
/-- tl_list with the iterator's class told -/
theorem tl_listC {σ : Type} {l : Addr} {vs : List Value} {nn : Nat} {m₀ : Str → Option Value} (Led : σ → List (Addr × Obj)) (ps : σ → List (Str × Value)) (Facts : σ → Prop) (stored : List Str) (P : Nat → σ → Prop) (c₀ : σ)
    (hh : A.handled = none) (F : Fr h₀ env.locals s.heap m₀) (N : News h₀ env.locals s.heap (Led c₀)) (hl : ∀ c, Facts c → (l, W.listOf vs.toArray nn) ∈ Led c) (hf : Facts c₀) (hk : ∀ p ∈ ps c₀, m₀ p.1 = some p.2) (hp : P 0 c₀)
    (turn : ∀ (c : σ) (i : Nat) (v : Value) (u : Str → Option Value) h tk I o, vs[i]? = some v → Off I (Led c) → o.cls = .type "list_iterator" → Facts c → P i c →
      Fr h₀ env.locals h (kstB (fun z => if stored.contains z then u z else m₀ z) (ps c)) → News h₀ env.locals h ((I, o) :: Led c) →
      wpAny (model prog w) A (assign target env v) (fun _ s₂ => wpAny (model prog w) A (execs body env) (UnrPostW h₀ env.locals { s with heap := h, toks := tk } [(I, o)] (TlS Led ps Facts stored m₀ P (i + 1)) Q) E s₂) E { s with heap := h, toks := tk })
    (done : ∀ (c : σ) (u : Str → Option Value) h tk, Facts c → P vs.length c → Fr h₀ env.locals h (kstB (fun z => if stored.contains z then u z else m₀ z) (ps c)) → News h₀ env.locals h (Led c) → Q .next { s with heap := h, toks := tk }) :
    wpAny (model prog w) A (pyIter (.ref l)) (fun it s₂ => TurnsAt prog w A h₀ env target body Q E it s₂) E s := by
  refine iter_listTurns hh F N (hl _ hf) rfl rfl ?_
  intro I hI0
  have key : ∀ (r : List Value) (i : Nat), i ≤ vs.length → vs.drop i = r → ∀ m nx, Off I nx → TlS Led ps Facts stored m₀ P i m nx → ItemsRest prog w A E h₀ env target body Q s [(I, "list_iterator")] [(l, W.listOf vs.toArray nn)] (r.map .val) m nx := by
    intro r
    induction r with
    | nil =>
      rintro i hi hr m nx hoff ⟨c, rfl, hf', h1, h2, hp'⟩
      have hi' : i = vs.length := by
        have := List.drop_eq_nil_iff.mp hr
        omega
      subst hi'
      refine ItemsRest.zero fun h tk F₁ N₁ => ?_
      exact done c m h tk hf' hp' (ksw_fr h1 h2 F₁) N₁
    | cons v r ih =>
      rintro i hi hr m nx hoff ⟨c, rfl, hf', h1, h2, hp'⟩
      have hlt : i < vs.length := by
        by_cases e : i < vs.length
        · exact e
        · rw [List.drop_eq_nil_of_le (by omega)] at hr
          exact nomatch hr
      have hv : vs[i]? = some v := by
        have := congrArg List.head? hr
        rw [List.head?_drop] at this
        simpa using this
      have hr' : vs.drop (i + 1) = r := by
        rw [← List.tail_drop, hr]
        rfl
      refine ItemsRest.val fun h tk F₁ o hoc N₁ => ?_
      refine wpAny_mono (turn c i v m h tk I o hv hoff hoc hf' hp' (ksw_fr h1 h2 F₁) N₁) (fun _ s₂ hq => wpAny_mono hq (fun fl s₃ hq' => unrPostW_imp (fun m' n' ho x => ⟨?_, ih (i + 1) hlt hr' m' n' (fun p hp => ho p hp _ (.head _)) x⟩) hq') fun _ _ e => e) fun _ _ e => e
      obtain ⟨c', rfl, hf'', _⟩ := x
      exact ⟨hl _ hf'', trivial⟩
  exact key vs 0 (Nat.zero_le _) rfl m₀ _ (fun p hp => Nat.ne_of_lt (hI0 p hp)) ⟨c₀, rfl, hf, hk, fun _ _ _ => rfl, hp⟩
theorem NestIt_stop {s : Shared} {L : Addr} {m : Str → Option Value} {n : Nat} {led : List (Addr × Obj)} {xv : Value} {s' : Shared} (h : NestIt h₀ L m s n led xv s') : NestIt h₀ L m s n led xv s' := h
theorem NestEl_stop {s : Shared} {L : Addr} {m : Str → Option Value} {k1 k2 : Int} {I2 I1 C D : Addr} {led : List (Addr × Obj)} {y : Value} {s' : Shared} (h : NestEl h₀ L m s k1 k2 I2 I1 C D led y s') : NestEl h₀ L m s k1 k2 I2 I1 C D led y s' := h
end
end Mine

end

section
open PySem PySem.W PyProof.Rows
namespace Mine
/-- what the piles' whole columns are -/
structure WhOk (z m0 m1 : Int) (ys : List Int) : Prop where
  at_ : ∀ k : Int, 0 ≤ k → (k ≤ m0 ∨ k ≤ m1) → k < (ys.length : Int) ∧ ys.getD k.toNat 0 = k.fdiv z
/-- what follows the loop -/
structure LpRet (w : World) (h₀ : Heap) (L : Addr) (x d lH dF : Addr) (k0 : Tok) (z b : Int) (s : Shared) (Q : Flow → Shared → Prop) : Prop where
  out : ∀ h' tk' m' oF' fvs' vs' hs' ep' rest', Fr h₀ L h' m' → Has m' [(Str.ofString "table", .ref x), (Str.ofString "first", .ref dF)] → News h₀ L h' ((x, instObj 262 d) :: (d, hdrD w lH k0) :: (lH, W.listOf vs'.toArray ep') :: (dF, oF') :: rest') → Obj.IsDictOf (PySem.strKind pw w) oF' fvs' →
    PyProof.V.FlatPairs PyData.str fvs' (hs'.map fun h => (.str (Txt.lower h.1), .str h.2)) → All2 (HdrAt rest') vs' hs' → vs'.length ≤ 25 → (∀ h ∈ hs', HsOk z b h) → Q .next { s with heap := h', toks := tk' }
structure LpS where
  sd : Int
  ts : Tok
  oW : Obj
  oF : Obj
  kvs : List (Int × Value)
  fvs : List (Str × Value)
  vs : List Value
  hs : List (Str × Str)
  ep : Nat
  rest : List (Addr × Obj)
theorem pick_tuples {tl : List (Addr × Obj)} : ∀ {ys : List Value} {ps : List (Int × Int)}, All2 (PairIn tl) ys ps → ∃ tl', (∀ q ∈ tl', q ∈ tl ∧ q.2.cls = .type "tuple") ∧ All2 (PairIn tl') ys ps
  | _, _, .nil => ⟨[], fun _ h => (nomatch h), .nil⟩
  | _, _, .cons h t => by
    obtain ⟨tl', h1, h2⟩ := pick_tuples t
    obtain ⟨a, t1, t2, e, hm⟩ := h
    refine ⟨_ :: tl', List.forall_mem_cons.mpr ⟨⟨hm, rfl⟩, h1⟩, .cons ⟨a, t1, t2, e, .head _⟩ (h2.imp fun a b h => h.mono fun q hq => .tail _ hq)⟩
theorem loop_led {h₀ h : Heap} {L : Addr} {D : Addr × Obj} {pre ptl0 ptl : List (Addr × Obj)} (N : News h₀ L h (D :: (pre ++ ptl0))) (hs : ∀ q ∈ ptl, q ∈ ptl0) : News h₀ L h (pre ++ D :: ptl) := fun q hq => N q (by
  rcases List.mem_append.mp hq with hq | hq
  · exact .tail _ (List.mem_append_left _ hq)
  rcases List.mem_cons.mp hq with rfl | hq
  · exact .head _
  · exact .tail _ (List.mem_append_right _ (hs q hq)))
/-- an object of another kind lies elsewhere -/
theorem off_cls {h₀ h : Heap} {L a : Addr} {oa : Obj} {news l : List (Addr × Obj)} (N : News h₀ L h news) (ha : (a, oa) ∈ news) (hl : ∀ q ∈ l, q ∈ news) (hc : ∀ q ∈ l, q.2 ≠ oa) : Off a l := fun q hq => news_ne N (p := q) (q := (a, oa)) (hl q hq) ha (hc q hq)
structure LpF (x d lH lh lm D1 dW dF L : Addr) (cons : List (Addr × Obj)) (st : LpS) : Prop where
  ap : LpA x d lH lh lm D1 dW dF L st.rest
  sub : ∀ q ∈ cons, q ∈ st.rest
noncomputable def loopSt : List Str := Str.ofString "i" :: Str.ofString "j" :: turnSt
theorem loop_sub2 {i x d l f v n m k a b c : Addr × Obj} {rest : List (Addr × Obj)} : ∀ p ∈ x :: d :: l :: f :: v :: n :: m :: k :: a :: b :: c :: i :: rest, p ∈ i :: x :: d :: l :: f :: v :: n :: m :: k :: a :: b :: c :: rest := by
  intro p hp
  simp only [List.mem_cons] at hp ⊢
  rcases hp with h | h | h | h | h | h | h | h | h | h | h | h | h <;> simp [h]
theorem nat_le {a : Nat} {m : Int} (h : a < (m + 1 - 0).toNat) : (0 : Int) ≤ (a : Int) ∧ (a : Int) ≤ m := by omega
theorem loop_names {z : Str} (h : loopSt.contains z = false) : ¬ z = Str.ofString "i" ∧ ¬ z = Str.ofString "j" ∧ turnSt.contains z = false := by
  unfold loopSt at h
  simp only [List.contains_cons, Bool.or_eq_false_iff, beq_eq_false_iff_ne, ne_eq] at h
  exact h
theorem loop_sub {i x d l f v n m k a b c : Addr × Obj} {rest : List (Addr × Obj)} : ∀ p ∈ [i] ++ (x :: d :: l :: f :: v :: n :: m :: k :: a :: b :: c :: rest), p ∈ x :: d :: l :: f :: v :: n :: m :: k :: a :: b :: c :: i :: rest := by
  intro p hp
  simp only [List.mem_append, List.mem_cons, List.not_mem_nil, or_false] at hp ⊢
  rcases hp with h | h | h | h | h | h | h | h | h | h | h | h | h <;> simp [h]
/-- what holds behind k turns -/
structure LpP (w : World) (z b : Int) (n1 n2 k : Nat) (st : LpS) : Prop where
  inv : LpI w z b st.sd st.oW st.oF st.kvs st.fvs st.vs st.hs st.rest
  wo : WoP z n1 n2 k st.kvs
  kl : st.kvs.length ≤ k
  vl : st.vs.length ≤ k
theorem c_loop (w : World) (p : Program) (loose : List Str) (mean : ExcName → Option Value) (mg mb : Str → Option Value) (h₀ : Heap) (fa L : Addr) (cdv : Value) (s : Shared) (Q : Flow → Shared → Prop) (E : Value → Shared → Prop) (m : Str → Option Value)
    (ow om os oF oW : Obj) (x d lH lh lm D1 dW dF : Addr) (k0 tz tb ts tm0 tm1 : Tok) (vh yw : List Value) (ys dd : List Int) (eph : Nat) (z b sd m0 m1 : Int)
    (hz : 1 ≤ z ∧ z ≤ 4) (hb : 0 ≤ b ∧ b ≤ 2) (hm0 : 0 ≤ m0 ∧ m0 ≤ 4) (hm1 : 0 ≤ m1 ∧ m1 ≤ 4)
    (hId : IntsAre vh dd) (hdl : dd.length = 6) (hIw : IntsAre yw ys) (hwh : WhOk z m0 m1 ys)
    (hI : LpI w z b sd oW oF [] [] [] [] []) (hA : LpA x d lH lh lm D1 dW dF L []) (lo : (dF == sysModules) = false)
    (d1 : ow.data = .cell (some (.ref dW))) (d2 : om.data = .cell (some (.ref lm))) (d3 : os.data = .cell (some (.int z tz)))
    (B : Below callerA h₀ [] h₀) (X : (kx w.params).In h₀) (T : Top p loose mean mg mb h₀) (hE : HasPO w L fa cdv E)
    (F : Fr h₀ L s.heap m) (hm : Has m [(Str.ofString "seed", .int sd ts), (Str.ofString "have", .ref lh), (Str.ofString "blanks", .int b tb), (Str.ofString "table", .ref x), (Str.ofString "first", .ref dF), (Str.ofString "whole", .ref D1)])
    (N : News h₀ L s.heap ((x, instObj 262 d) :: (d, hdrD w lH k0) :: (lH, W.listOf #[] 0) :: (dF, oF) :: (dW, oW) :: (D1, LCg.lst yw) :: (lm, W.listOf #[.int m0 tm0, .int m1 tm1] 0) :: (lh, W.listOf vh.toArray eph) :: (L + 1 + 1 + 1, ow) :: (L + 1 + 1, om) :: (L + 1, os) :: []))
    (hret : LpRet w h₀ L x d lH dF k0 z b s Q) :
    wpAny (model pw w) (lawA L fa cdv) (exec lfFor.val (lawEnv L fa cdv)) Q E s := by
  have FF := hm.fr F
  clear F
  (try dsimp only [lawA])
  (try k_fold)
  k_dflt (refine For_turns FF ?_ (by intro _; rfl) hE.po)
  (try dsimp only)
  (try k_fold)
  k_dflt (refine gc_nest (h₀ := h₀) (L := L) (m := kstB m [(Str.ofString "seed", .int sd ts), (Str.ofString "have", .ref lh), (Str.ofString "blanks", .int b tb), (Str.ofString "table", .ref x), (Str.ofString "first", .ref dF), (Str.ofString "whole", .ref D1)]) (n1 := (m0 + 1 - 0).toNat) (n2 := (m1 + 1 - 0).toNat) (pre := (x, instObj 262 d) :: (d, hdrD w lH k0) :: (lH, W.listOf #[] 0) :: (dF, oF) :: (dW, oW) :: (D1, LCg.lst yw) :: (lm, W.listOf #[.int m0 tm0, .int m1 tm1] 0) :: (lh, W.listOf vh.toArray eph) :: (L + 1 + 1 + 1, ow) :: (L + 1 + 1, om) :: (L + 1, os) :: []) (by rfl) (by with_unfolding_all rfl) (by decide) (by rfl) (by decide) (by rfl) (by rfl) (by decide) ?hz ?h (by intro _; rfl) (by intro _ _; rfl) ?it2 ?el ?fin)
  case hz =>
    have a1 : (m0 + 1 - 0).toNat ≤ 5 := by omega
    have a2 : (m1 + 1 - 0).toNat ≤ 5 := by omega
    exact Nat.le_trans (Nat.mul_le_mul a1 a2) (by decide)
  case h =>
    (repeat ((fail_if_success (with_reducible refine NestIt_stop ?_)); first | (k_unfold; (try dsimp only)) | walk1 | (dsimp only; walk1)))
    (with_reducible rename Fr _ _ _ _ => lF)
    (with_reducible rename News _ _ _ _ => lN)
    (with_reducible rename IsRange _ _ _ _ _ _ _ _ => lR)
    exact ⟨_, _, _, _, _, _, m0 + 1, rfl, rfl, lR, small_one (by omega) (by omega) (by omega) (by omega), rangeSize_nat _ _, lF, lN⟩
  case it2 =>
    intro k1 t1 C oC mC D ys1 tl I1 o1 h tk E' hC hx F1 N1
    clear FF N
    (try dsimp only [List.cons_append] at N1)
    (try k_fold)
    (repeat ((fail_if_success (with_reducible refine NestIt_stop ?_)); first | (k_unfold; (try dsimp only)) | walk1 | (dsimp only; walk1)))
    (with_reducible rename Fr _ _ _ _ => lF)
    (with_reducible rename News _ _ _ _ => lN)
    (with_reducible rename IsRange _ _ _ _ _ _ _ _ => lR)
    exact ⟨_, _, _, _, _, _, m1 + 1, rfl, rfl, lR, small_one (by omega) (by omega) (by omega) (by omega), rangeSize_nat _ _, lF, lN⟩
  case el =>
    intro k1 t1 k2 t2 C oC mC D ys1 tl I1 o1 I2 o2 h tk E' hC hx hx2 F1 N1
    clear FF N
    (try dsimp only [List.cons_append] at N1)
    (repeat ((fail_if_success (with_reducible refine NestEl_stop ?_)); first | (k_unfold; (try dsimp only)) | walk1 | (dsimp only; walk1)))
    (with_reducible rename Fr _ _ _ _ => lF)
    (with_reducible rename News _ _ _ _ => lN)
    (with_reducible rename _ < _ ∧ _ < _ ∧ _ < _ ∧ _ < _ ∧ _ => lA)
    exact ⟨_, _, _, _, _, rfl, rfl, lF, lN, (Nat.ne_of_lt lA.1).symm, (Nat.ne_of_lt lA.2.1).symm, (Nat.ne_of_lt lA.2.2.1).symm, (Nat.ne_of_lt lA.2.2.2.1).symm⟩
  case fin =>
    intro D ysP ptl0 h1 tk1 hP0 F1 N1
    clear FF N
    obtain ⟨ptl, hsub, hP⟩ := pick_tuples hP0
    have hPl := hP.length
    have hlen : ysP.length = (m0 + 1 - 0).toNat * (m1 + 1 - 0).toNat := by rw [hPl, nestN_len]
    have hn1 : (m0 + 1 - 0).toNat ≤ 5 := by omega
    have hn2 : (m1 + 1 - 0).toNat ≤ 5 := by omega
    have hpos : 0 < ysP.length := by rw [hlen]; exact Nat.mul_pos (by omega) (by omega)
    have N2 : News h₀ L h1 ((x, instObj 262 d) :: (d, hdrD w lH k0) :: (lH, W.listOf ([] : List Value).toArray 0) :: (dF, oF) :: (dW, oW) :: (D1, LCg.lst yw) :: (lm, W.listOf #[.int m0 tm0, .int m1 tm1] 0) :: (lh, W.listOf vh.toArray eph) :: (L + 1 + 1 + 1, ow) :: (L + 1 + 1, om) :: (L + 1, os) :: (D, LCg.lst ysP) :: ptl) := loop_led N1 (fun q hq => (hsub q hq).1)
    clear N1 hP0
    have hFc := str_dict_cls hI.fd
    have hWc := (int_dict_cls hI.wd).1
    have oH : Off lH ((D, LCg.lst ysP) :: ptl) := off_cls N2 (a := lH) (oa := W.listOf ([] : List Value).toArray 0) (by simp) (fun q hq => by simp only [List.mem_cons] at hq ⊢; simp [hq]) (fun q hq e => by
      rcases List.mem_cons.mp hq with rfl | hq
      · have := congrArg Obj.data e
        dsimp only at this
        injection this with e1 e2
        have e3 : ysP.length = 0 := e2
        omega
      · have := congrArg Obj.cls e
        rw [(hsub q hq).2] at this
        exact absurd this (by decide))
    have oF' : Off dF ((D, LCg.lst ysP) :: ptl) := off_cls N2 (a := dF) (oa := oF) (by simp) (fun q hq => by simp only [List.mem_cons] at hq ⊢; simp [hq]) (fun q hq e => by
      have := congrArg Obj.cls e
      rw [hFc] at this
      rcases List.mem_cons.mp hq with rfl | hq
      · exact absurd (show Value.type "list" = Value.type "dict" from this) (by decide)
      · rw [(hsub q hq).2] at this
        exact absurd this (by decide))
    have oW' : Off dW ((D, LCg.lst ysP) :: ptl) := off_cls N2 (a := dW) (oa := oW) (by simp) (fun q hq => by simp only [List.mem_cons] at hq ⊢; simp [hq]) (fun q hq e => by
      have := congrArg Obj.cls e
      rw [hWc] at this
      rcases List.mem_cons.mp hq with rfl | hq
      · exact absurd (show Value.type "list" = Value.type "dict" from this) (by decide)
      · rw [(hsub q hq).2] at this
        exact absurd this (by decide))
    (try k_unfold)
    (try dsimp only)
    (try k_fold)
    k_dflt (refine tl_listC (σ := LpS) (l := D) (vs := ysP) (nn := ysP.length) (fun st => (x, instObj 262 d) :: (d, hdrD w lH k0) :: (lH, W.listOf st.vs.toArray st.ep) :: (dF, st.oF) :: (dW, st.oW) :: (D1, LCg.lst yw) :: (lm, W.listOf #[.int m0 tm0, .int m1 tm1] 0) :: (lh, W.listOf vh.toArray eph) :: (L + 1 + 1 + 1, ow) :: (L + 1 + 1, om) :: (L + 1, os) :: st.rest) (fun st => [(Str.ofString "seed", .int st.sd st.ts)]) (LpF x d lH lh lm D1 dW dF L ((D, LCg.lst ysP) :: ptl)) loopSt (LpP w z b (m0 + 1 - 0).toNat (m1 + 1 - 0).toNat) ⟨sd, ts, oW, oF, [], [], [], [], 0, (D, LCg.lst ysP) :: ptl⟩ (by rfl) F1 N2 (fun c hc => .tail _ (.tail _ (.tail _ (.tail _ (.tail _ (.tail _ (.tail _ (.tail _ (.tail _ (.tail _ (.tail _ (hc.sub _ (.head _))))))))))))) ⟨⟨hA.aH, hA.aF, hA.aW, oH, oF', oW'⟩, fun _ h => h⟩ (List.forall_mem_cons.mpr ⟨rfl, List.forall_mem_nil _⟩) ⟨⟨hI.sd0, hI.wd, hI.fd, hI.ff, .nil, fun _ h => (nomatch h)⟩, WoP.zero, Nat.le_refl _, Nat.le_refl _⟩ ?turn ?done)
    case turn =>
      clear F1 N2 hI hA
      rintro ⟨sd, ts, oW, oF, kvs, fvs, vs, hs, ep, rest⟩ k v u h9 tk9 I9 o9 hv hoI hoc ⟨hA, hsubR⟩ ⟨hI, hwo, hkl, hvl⟩ F9 N9
      dsimp only at hoI hA hsubR hI hwo hkl hvl F9 N9 ⊢
      have hklt : k < ysP.length := (List.getElem?_eq_some_iff.mp hv).1
      obtain ⟨pr, hpr, Tp, t1, t2, rfl, hTm⟩ := hP.get hv
      have hpr2 := nest_at hn1 hn2 (k := k) (by rw [← hlen]; exact hklt)
      rw [hpr] at hpr2
      obtain rfl := Option.some.inj hpr2
      have N8 := News.dup N9 (.tail _ (.tail _ (.tail _ (.tail _ (.tail _ (.tail _ (.tail _ (.tail _ (.tail _ (.tail _ (.tail _ (.tail _ (hsubR _ (.tail _ hTm))))))))))))))
      clear N9
      (try k_fold)
      (repeat (fail_if_success (with_reducible show wpAny _ _ (execs _ _) _ _ _)); first | (k_unfold; (try dsimp only)) | walk1 | (dsimp only; walk1))
      (with_reducible rename Fr _ _ _ _ => lF)
      (with_reducible rename News _ _ _ _ => lN)
      have hkn : k < (m0 + 1 - 0).toNat * (m1 + 1 - 0).toNat := by rw [← hlen]; exact hklt
      have hn2p : 0 < (m1 + 1 - 0).toNat := by omega
      have hia : k / (m1 + 1 - 0).toNat < (m0 + 1 - 0).toNat := Nat.div_lt_of_lt_mul (by rw [Nat.mul_comm]; exact hkn)
      have hja : k % (m1 + 1 - 0).toNat < (m1 + 1 - 0).toNat := Nat.mod_lt _ hn2p
      have hWA := hwo.at hkn
      have fi := nat_le hia
      have fj := nat_le hja
      have wi := hwh.at_ ((k / (m1 + 1 - 0).toNat : Nat) : Int) fi.1 (.inl fi.2)
      have wj := hwh.at_ ((k % (m1 + 1 - 0).toNat : Nat) : Int) fj.1 (.inr fj.2)
      have hl25 : ysP.length ≤ 25 := by rw [hlen]; exact Nat.mul_le_mul hn1 hn2
      have hIr : Away I9 (rest.map (·.1)) := ⟨fun a ha => by
        obtain ⟨q, hq, rfl⟩ := List.mem_map.mp ha
        exact hoI q (.tail _ (.tail _ (.tail _ (.tail _ (.tail _ (.tail _ (.tail _ (.tail _ (.tail _ (.tail _ (.tail _ hq)))))))))))⟩
      have n0 := hoI _ (.head _)
      have n1 := hoI _ (.tail _ (.head _))
      have n2 := hoI _ (.tail _ (.tail _ (.head _)))
      have n3 := hoI _ (.tail _ (.tail _ (.tail _ (.head _))))
      have n4 := hoI _ (.tail _ (.tail _ (.tail _ (.tail _ (.head _)))))
      have n5 := hoI _ (.tail _ (.tail _ (.tail _ (.tail _ (.tail _ (.head _))))))
      have n6 := hoI _ (.tail _ (.tail _ (.tail _ (.tail _ (.tail _ (.tail _ (.head _)))))))
      have n7 := hoI _ (.tail _ (.tail _ (.tail _ (.tail _ (.tail _ (.tail _ (.tail _ (.head _))))))))
      have n8 := hoI _ (.tail _ (.tail _ (.tail _ (.tail _ (.tail _ (.tail _ (.tail _ (.tail _ (.head _)))))))))
      have n9 := hoI _ (.tail _ (.tail _ (.tail _ (.tail _ (.tail _ (.tail _ (.tail _ (.tail _ (.tail _ (.head _))))))))))
      have n10 := hoI _ (.tail _ (.tail _ (.tail _ (.tail _ (.tail _ (.tail _ (.tail _ (.tail _ (.tail _ (.tail _ (.head _)))))))))))
      k_dflt (refine p_turn w p loose mean mg mb h₀ fa L cdv _ _ _ _ ow om os oF oW o9 x d lH lh lm D1 dW dF I9 k0 tz tb t1 t2 ts tm0 tm1 vs vh yw ys dd ep eph z b ((k / (m1 + 1 - 0).toNat : Nat) : Int) ((k % (m1 + 1 - 0).toNat : Nat) : Int) sd m0 m1 kvs fvs hs rest hz hb ⟨fi.1, Int.le_trans fi.2 hm0.2⟩ ⟨fj.1, Int.le_trans fj.2 hm1.2⟩ hId hdl hWA hIw wi.1 wj.1 wi.2 wj.2 hI hA ⟨List.forall_mem_cons.mpr ⟨hoI _ (.tail _ (.tail _ (.head _))), List.forall_mem_cons.mpr ⟨hoI _ (.tail _ (.tail _ (.tail _ (.head _)))), List.forall_mem_cons.mpr ⟨hoI _ (.tail _ (.tail _ (.tail _ (.tail _ (.head _))))), List.forall_mem_nil _⟩⟩⟩⟩ hIr (Nat.le_trans hvl (Nat.le_trans (Nat.le_of_lt hklt) (Nat.le_trans hl25 (by decide)))) (Nat.le_trans hkl (Nat.le_trans (Nat.le_of_lt hklt) (Nat.le_trans hl25 (by decide)))) lo hoc d1 d2 d3 B X T hE lF (Has.cons rfl (Has.cons rfl (Has.cons rfl (Has.cons rfl (Has.cons rfl (Has.cons rfl (Has.cons rfl Has.nil))))))) (Has.cons rfl Has.nil) (fun q hq => lN q (.tail _ (loop_sub2 q hq))) ⟨?_⟩)
      clear lF lN
      rintro h5 tk5 m5 _ F5 N5 A5 ⟨sd', ts', oW', oF', t', fvs', vs', hs', ep', rest', HS', hI', hA', hvl', hsub', hIr', rfl⟩
      (try dsimp only)
      (try k_fold)
      repeat' (first | (k_unfold; (try dsimp only)) | (k_end; wrow_close) | ((fail_if_success (with_reducible refine UnrEndW_stop ?_)); walk1) | ((fail_if_success (with_reducible refine UnrEndW_stop ?_)); dsimp only; walk1) | (leave1; walk_say "STEP leave1"; (try dsimp only)) | fail "no step")
      refine tl_end (⟨sd', ts', oW', oF', _, fvs', vs', hs', ep', rest'⟩ : LpS) F5 N5 loop_sub (List.forall_mem_singleton.mpr (Off.cons n0 (Off.cons n1 (Off.cons n2 (Off.cons n3 (Off.cons n4 (Off.cons n5 (Off.cons n6 (Off.cons n7 (Off.cons n8 (Off.cons n9 (Off.cons n10 (hIr'.off))))))))))))) (List.forall_mem_singleton.mpr (HS'.all _ (by simp))) ?_ ⟨hA', fun q hq => hsub' q (hsubR q hq)⟩ ⟨hI', hwo.step hn2, ?_, ?_⟩
      · intro z h1 h2
        have h2' := loop_names h2
        rw [A5.out z h2'.2.2]
        show (if z = Str.ofString "j" then _ else if z = Str.ofString "i" then _ else _) = _
        rw [if_neg h2'.2.1, if_neg h2'.1]
        simp only [List.forall_mem_cons, List.not_mem_nil, false_implies, implies_true, and_true, ne_eq] at h1
        show (if z = Str.ofString "seed" then _ else if loopSt.contains z = true then _ else _) = _
        rw [if_neg h1, if_neg (by rw [h2]; decide)]
      · exact Nat.le_trans (stored_len _ _ _) (Nat.succ_le_succ hkl)
      · exact Nat.le_trans hvl' (Nat.succ_le_succ hvl)
    case done =>
      clear F1 N2 hI hA
      rintro ⟨sd, ts, oW, oF, kvs, fvs, vs, hs, ep, rest⟩ u h9 tk9 ⟨hA, hsubR⟩ ⟨hI, hwo, hkl, hvl⟩ F9 N9
      dsimp only at hA hsubR hI hwo hkl hvl F9 N9 ⊢
      have hl25 : ysP.length ≤ 25 := by rw [hlen]; exact Nat.mul_le_mul hn1 hn2
      exact hret.out _ _ _ _ _ _ _ _ _ F9 (Has.cons rfl (Has.cons rfl Has.nil)) (fun q hq => N9 q (by
        rcases List.mem_cons.mp hq with rfl | hq
        · exact .head _
        rcases List.mem_cons.mp hq with rfl | hq
        · exact .tail _ (.head _)
        rcases List.mem_cons.mp hq with rfl | hq
        · exact .tail _ (.tail _ (.head _))
        rcases List.mem_cons.mp hq with rfl | hq
        · exact .tail _ (.tail _ (.tail _ (.head _)))
        · exact .tail _ (.tail _ (.tail _ (.tail _ (.tail _ (.tail _ (.tail _ (.tail _ (.tail _ (.tail _ (.tail _ hq)))))))))))) hI.fd hI.ff hI.hh (Nat.le_trans hvl hl25) hI.ho
end Mine

end

section
open PySem PySem.W PyProof.Rows
namespace Mine
theorem slice_all (a : Array Value) : slicePick a none none none = a := slicePick_all a
/-- what the law's caller wants -/
structure LawEnd (h₀ : Heap) (L : Addr) (s : Shared) (Q : Flow → Shared → Prop) : Prop where
  out : ∀ h' tk' m', Fr h₀ L h' m' → Q (.ret (.bool true)) { s with heap := h', toks := tk' }
/-- the answer's texts are texts -/
structure RowsOk (hs : List (Str × Str)) : Prop where
  all : ∀ h ∈ hs, PyData.strOk (Txt.lower h.1) = true ∧ PyData.strOk h.2 = true
noncomputable def rowD (h : Str × Str) : Dat := .tuple [.str (Txt.lower h.1), .str h.2]
theorem rows_ok {hs : List (Str × Str)} (h : RowsOk hs) : ∀ d ∈ hs.map rowD, kqdOk 8 d = true := by
  intro d hd
  obtain ⟨p, hp, rfl⟩ := List.mem_map.mp hd
  have := h.all p hp
  simp [rowD, kqdOk, this.1, this.2]
theorem gp_obj {h₀ : Heap} {L : Addr} {m : Str → Option Value} {s : Shared} {ws : List (Addr × String)} {its : List (Addr × Obj)} {C : Addr} {oC : Obj} {D : Addr} {oD : Obj} {pre tl nw : List (Addr × Obj)} {T : Addr × Obj} {R : List (Addr × Obj) → Value → Prop} {y : Value} {h' : Heap} {tk' : Nat} (F : Fr h₀ L h' m) (N : News h₀ L h' nw) (hs : ∀ q ∈ its ++ (C, oC) :: (D, oD) :: (pre ++ (tl ++ [T])), q ∈ nw) (o : Offs ws [T]) (hC : @Ne Nat T.1 C) (hD : @Ne Nat T.1 D) (hR : R (tl ++ [T]) y) : GpEl h₀ L m s ws its C oC D oD pre tl R y { s with heap := h', toks := tk' } :=
  ⟨h', tk', [T], rfl, F, fun q hq => N q (hs q hq), o, Off.cons hC off_nil, Off.cons hD off_nil, hR⟩
theorem gp_sub {T c d : Addr × Obj} {its pre tl nw : List (Addr × Obj)} (h : ∀ q ∈ T :: (its ++ c :: d :: (pre ++ tl)), q ∈ nw) : ∀ q ∈ its ++ c :: d :: (pre ++ (tl ++ [T])), q ∈ nw := fun q hq => h q (by
  simp only [List.mem_append, List.mem_cons, List.not_mem_nil, or_false] at hq ⊢
  rcases hq with h | h | h | h | h | h <;> simp [h])
/-- a row of the answer: a header's small name and its text -/
structure RowAt (hs : List (Str × Str)) (tl : List (Addr × Obj)) (k : Nat) (y : Value) : Prop where
  ex : ∃ h a t1 t2, hs[k]? = some h ∧ y = .ref a ∧ (a, ({ cls := .type "tuple", data := .seq #[.str (Txt.lower h.1) t1, .str h.2 t2] } : Obj)) ∈ tl
theorem RowAt.mono {hs : List (Str × Str)} {tl tl' : List (Addr × Obj)} {k : Nat} {y : Value} (h : RowAt hs tl k y) (s : ∀ q ∈ tl, q ∈ tl') : RowAt hs tl' k y := by
  obtain ⟨p, a, t1, t2, e1, e2, e3⟩ := h.ex
  exact ⟨p, a, t1, t2, e1, e2, s _ e3⟩
theorem hdr_at {L1 L2 : List (Addr × Obj)} {vs : List Value} {hs : List (Str × Str)} (h : All2 (HdrAt L1) vs hs) (hsub : ∀ q ∈ L1, q ∈ L2) : ∀ (i : Nat) (v : Value), vs[i]? = some v → ∃ (T : Addr) (v1 v2 : Value), v = Value.ref T ∧ (T, ({ cls := .type "tuple", data := .seq #[v1, v2] } : Obj)) ∈ L2 ∧ (∃ h t1 t2, hs[i]? = some h ∧ v1 = Value.str h.1 t1 ∧ v2 = Value.str h.2 t2 ∧ OkN h.1) := by
  intro i v hv
  obtain ⟨b, hb, ⟨a, t1, t2, rfl, hm⟩, ok⟩ := h.get hv
  exact ⟨a, _, _, rfl, hsub _ hm, b, t1, t2, hb, rfl, rfl, ok⟩
theorem rows_data {hs : List (Str × Str)} {tl : List (Addr × Obj)} {n : Nat} {ys : List Value} (h : All2 (fun k y => RowAt hs tl k y) (List.range n) ys) (hn : n = hs.length) : DatAll tl ys (hs.map rowD) := by
  subst hn
  have key : ∀ (r : List (Str × Str)) (k : Nat) (ys : List Value), (∀ i, r[i]? = hs[k + i]?) → All2 (fun k y => RowAt hs tl k y) ((List.range r.length).map (k + ·)) ys → DatAll tl ys (r.map rowD) := by
    intro r
    induction r with
    | nil =>
      intro k ys _ h
      cases h
      exact .nil
    | cons q r ih =>
      intro k ys hp h
      rw [List.length_cons, List.range_succ_eq_map, List.map_cons, List.map_map] at h
      cases h with
      | cons h1 h2 =>
        obtain ⟨p, a, t1, t2, hp1, rfl, hm⟩ := h1.ex
        have e := hp 0
        rw [hp1] at e
        obtain rfl : q = p := by simpa using e
        refine .cons (.tuple (vs := [.str (Txt.lower q.1) t1, .str q.2 t2]) hm (.cons (.str _ _) (.cons (.str _ _) .nil))) (ih (k + 1) _ (fun r' => ?_) ?_)
        · have := hp (r' + 1)
          rw [List.getElem?_cons_succ] at this
          rw [this]; congr 1; omega
        · have e2 : (fun x => k + 1 + x) = (fun x => k + x) ∘ Nat.succ := by funext x; simp [Function.comp]; omega
          rw [e2]; exact h2
  exact key _ 0 ys (fun i => by rw [Nat.zero_add]) (by simpa using h)
theorem kdx_rows {lo : Addr} {news : List (Addr × Obj)} {C : List Value → List (Addr × Obj) → Prop} (hs : List (Str × Str)) {fvs : List (Str × Value)} (hF : PyProof.V.FlatPairs PyData.str fvs (hs.map fun h => (.str (Txt.lower h.1), .str h.2))) (vs : List Value) (tups : List (Addr × Obj)) (es : List Dat) (hD : DatAll tups vs es)
    (h : ∀ vs' tups', DatAll tups' vs' (es ++ hs.map rowD) → C vs' tups') : KdxOpen lo news (fvs.map fun p => (kyVal (PyData.str p.1), p.2)) vs tups C := by
  generalize hG : (hs.map fun h => ((PyData.str (Txt.lower h.1), PyData.str h.2) : PyData × PyData)) = D at hF
  induction hF generalizing hs vs tups es with
  | nil =>
    have e : hs = [] := List.map_eq_nil_iff.mp hG
    subst e
    exact KdxOpen.nil (h _ _ (by rw [List.map_nil, List.append_nil]; exact hD))
  | @cons k v d kvs D hv hr ih =>
    cases hs with
    | nil => exact nomatch hG
    | cons q r =>
      rw [List.map_cons] at hG
      injection hG with e1 e2
      injection e1 with e3 e4
      injection e3 with e3
      subst e4
      subst e3
      obtain ⟨t2, rfl⟩ := hv.str_inv
      refine KdxOpen.cons fun a t _ _ _ => ?_
      refine ih r _ _ (es ++ [rowD q]) ?_ (fun vs' tups' h' => h vs' tups' ?_) e2
      · exact DatAll.append (hD.mono fun p hp => .tail _ hp) (.cons (.tuple (vs := [.str (Txt.lower q.1) t, .str q.2 t2]) (.head _) (.cons (.str _ _) (.cons (.str _ _) .nil))) .nil)
      · rw [List.append_assoc] at h'; exact h'
local macro_rules | `(tactic| walk_at "call builtin:str.lower") => `(tactic| (k_here; (try dsimp only); (with_reducible show wpAny _ _ (call (Value.builtin "str.lower") [Value.str _ _]) _ _ _); (refine SCL.lower (OkN.low (by with_reducible assumption)) ?_); intro _; (try dsimp only)))
theorem wordok_all : ∀ i j : Fin 5, PyData.strOk (wordS i.1 j.1) = true := by decide +kernel
theorem octok_all : ∀ (z : Fin 4) (i j : Fin 5), PyData.strOk (octS (numV (1 + (z.1 : Int)) i.1 j.1)) = true := by decide +kernel
theorem unsok : ∀ u ∈ unsN, u < 1114112 := by decide +kernel
theorem besok : ∀ u ∈ besN, u < 1114112 := by decide +kernel
theorem strok_sg {x : Str} : PyData.strOk x = true ↔ ∀ c ∈ sg x, c < 1114112 := by
  unfold PyData.strOk sg
  rw [Array.all_eq_true_iff_forall_mem]
  simp
theorem rowsOk_of {z b : Int} {hs : List (Str × Str)} (hz : 1 ≤ z ∧ z ≤ 4) (hb : 0 ≤ b ∧ b ≤ 2) (h : ∀ p ∈ hs, HsOk z b p) : RowsOk hs := ⟨fun p hp => by
  obtain ⟨i, j, k, hi, hj, h1, h2⟩ := (h p hp).ex
  rw [h1, h2]
  have ht := type_of k hi hj hb
  obtain ⟨c1, r1, u1, c2, r2, u2, bc, hx, -, -, g1, g2, g3⟩ := ht
  obtain ⟨a, rfl⟩ := fin4 hz; obtain ⟨f, rfl⟩ := fin5 hi; obtain ⟨g, rfl⟩ := fin5 hj
  refine ⟨wordok_all f g, strok_sg.mpr fun c hc => ?_⟩
  rw [sg_app] at hc
  rcases List.mem_append.mp hc with hc | hc
  · rw [hx] at hc
    have f1 := unsok u1 g1
    have f2 := unsok u2 g2
    have f3 := besok bc g3
    unfold typeL at hc
    simp only [List.mem_append, List.mem_cons, List.not_mem_nil, or_false, List.mem_replicate] at hc
    omega
  · exact strok_sg.mp (octok_all a f g) c hc⟩
theorem rangeKs_getD {n k : Nat} (g : Int → Int) (h : k < n) : ((rangeKs 0 n).map g).getD k 0 = g (k : Int) := by
  rw [List.getD_eq_getElem?_getD]
  simp [rangeKs, List.getElem?_map, List.getElem?_range h]
theorem wh_ok {z m0 m1 M : Int} (hz : 1 ≤ z ∧ z ≤ 4) (h0 : m0 ≤ M) (h1 : m1 ≤ M) (hM : M ≤ 4) : WhOk z m0 m1 ((rangeKs 0 (M + 1 - 0).toNat).map (wholeV z)) := ⟨fun k hk h => by
  have hkM : k ≤ M := by omega
  have hl : ((rangeKs 0 (M + 1 - 0).toNat).map (wholeV z)).length = (M + 1 - 0).toNat := by rw [List.length_map, rangeKs_length]
  refine ⟨by rw [hl]; omega, ?_⟩
  rw [rangeKs_getD _ (by omega), Int.toNat_of_nonneg hk]
  exact whole_at hz ⟨hk, by omega⟩⟩
theorem law_led {h₀ h : Heap} {L : Addr} {x d l f v n m k a b c : Addr × Obj} (N : News h₀ L h (f :: v :: l :: x :: d :: n :: m :: k :: a :: b :: c :: [])) : News h₀ L h (x :: d :: l :: f :: v :: n :: m :: k :: a :: b :: c :: []) := fun q hq => N q (by
  simp only [List.mem_cons, List.not_mem_nil, or_false] at hq ⊢
  rcases hq with h | h | h | h | h | h | h | h | h | h | h <;> simp [h])
theorem p_R (w : World) (p : Program) (loose : List Str) (mean : ExcName → Option Value) (mg mb : Str → Option Value) (h₀ : Heap) (fa L : Addr) (cdv : Value) (s : Shared) (Q : Flow → Shared → Prop) (E : Value → Shared → Prop) (m : Str → Option Value)
    (oF : Obj) (x d lH dF : Addr) (k0 : Tok) (vs : List Value) (hs : List (Str × Str)) (fvs : List (Str × Value)) (ep : Nat) (rest : List (Addr × Obj))
    (hFd : Obj.IsDictOf (PySem.strKind pw w) oF fvs) (hFf : PyProof.V.FlatPairs PyData.str fvs (hs.map fun h => (.str (Txt.lower h.1), .str h.2))) (hh : All2 (HdrAt rest) vs hs) (hvl : vs.length ≤ 25) (lo : (dF == sysModules) = false) (hok : RowsOk hs)
    (B : Below callerA h₀ [] h₀) (X : (kx w.params).In h₀) (T : Top p loose mean mg mb h₀)
    (F : Fr h₀ L s.heap m) (hm : Has m [(Str.ofString "table", .ref x), (Str.ofString "first", .ref dF)])
    (N : News h₀ L s.heap ((x, instObj 262 d) :: (d, hdrD w lH k0) :: (lH, W.listOf vs.toArray ep) :: (dF, oF) :: rest))
    (hret : LawEnd h₀ L s Q) :
    wpAny (model pw w) (lawA L fa cdv) (execs lfR.val (lawEnv L fa cdv)) Q E s := by
  have FF := hm.fr F
  clear F
  (try dsimp only [lawA])
  (try k_fold)
  (repeat (fail_if_success (with_reducible show wpAny _ _ (eval (Expr.ListComp _ _ _ _) _) _ _ _)); first | (k_unfold; (try dsimp only)) | walk1 | (dsimp only; walk1))
  (with_reducible rename Fr _ _ _ _ => lF)
  (with_reducible rename News _ _ _ _ => lN)
  k_dflt (refine gc_pairF lF (by rfl) (by with_unfolding_all rfl) (by decide) (by rfl) (by decide) (by rfl) (by rfl) (by decide) (by intro _; rfl) ?_)
  unfold hdrD at lN
  (repeat (fail_if_success (with_reducible show wpAny _ _ (pyIter _) _ _ _)); first | (k_unfold; (try dsimp only)) | walk1 | (dsimp only; walk1))
  rw [slice_all] at *
  (with_reducible rename Fr h₀ L _ _ => kF)
  (with_reducible rename News h₀ L _ _ => kN)
  k_dflt (refine gp_list (nn := 0) (fun k v1 v2 => ∃ h t1 t2, hs[k]? = some h ∧ v1 = Value.str h.1 t1 ∧ v2 = Value.str h.2 t2 ∧ OkN h.1) (RowAt hs) (by rfl) kF kN (.head _) (by omega) (hdr_at hh (fun q hq => .tail _ (.tail _ (.tail _ (.tail _ (.tail _ hq)))))) (fun tl tl' i y h k => h.mono k) ?el ?fin)
  case el =>
    rintro k v1 v2 I9 o9 C9 oC9 mC9 D9 ys9 tl8 h8 tk8 E8 hk8 ⟨h9, t1, t2, hq8, rfl, rfl, hok⟩ hC8 hx1 hx2 F8 N8
    clear kF kN
    (try dsimp only [List.cons_append] at N8)
    (try k_fold)
    repeat' (first | (k_unfold; (try dsimp only)) | (k_end; wrow_close) | ((fail_if_success (with_reducible refine GpEl_stop ?_)); walk1) | ((fail_if_success (with_reducible refine GpEl_stop ?_)); dsimp only; walk1) | (leave1; walk_say "STEP leave1"; (try dsimp only)) | fail "no step")
    (with_reducible rename Fr h₀ _ _ _ => fE)
    (with_reducible rename News h₀ _ _ _ => nE)
    (with_reducible rename _ < _ ∧ _ < _ ∧ _ < _ ∧ _ => lA)
    (try k_unfold)
    refine gp_obj fE nE (gp_sub (fun q hq => hq)) ?_ (Nat.ne_of_lt lA.2.1).symm (Nat.ne_of_lt lA.2.2.1).symm ⟨h9, _, _, _, hq8, rfl, List.mem_append_right _ (.head _)⟩
    intro q hq hm
    rw [List.mem_singleton.mp hq] at hm
    have e := List.mem_singleton.mp hm
    exact absurd e (Nat.ne_of_lt lA.1).symm
  case fin =>
    rintro D9 ys9 tl8 h8 tk8 hy8 F8 N8
    clear kF kN
    simp only [List.cons_append] at N8
    (try dsimp only)
    (try k_fold)
    (repeat (fail_if_success (with_reducible show wpAny _ _ (call (Value.type "list") _) _ _ _)); first | (k_unfold; (try dsimp only)) | walk1 | (dsimp only; walk1))
    clear F8 N8
    (with_reducible rename Fr h₀ L _ _ => lF8)
    (with_reducible rename News h₀ L _ _ => lN8)
    have hDl := rows_data hy8 hh.length
    have hfl := hFf.length
    rw [List.length_map, ← hh.length] at hfl
    k_dflt (refine kdx_listN (knd := PySem.strKind _ _) (enc := PyData.str) (by rfl) lF8 lN8 (.head _) (.tail _ (.tail _ (.tail _ (.tail _ (.tail _ (.tail _ (.head _))))))) hFd (by omega) (fun _ _ h => Value.isStrOf_shape h) rfl ?_)
    intro B9 hB9
    refine kdx_rows hs hFf [] [] [] .nil ?_
    intro vs7 tups7 hD7 c7 h7 tk7 hlt7 F7 N7
    clear lF8 lN8
    simp only [List.nil_append] at hD7
    (try dsimp only)
    (try k_fold)
    (repeat (fail_if_success (with_reducible show wpAny _ _ (compareOp _ _ _) _ _ _)); first | (k_unfold; (try dsimp only)) | walk1 | (dsimp only; walk1))
    k_dflt (refine kqd_eq N7 (List.mem_append_right _ (.tail _ (.tail _ (.head _)))) rfl rfl hDl (fun q hq => List.mem_append_right _ (.tail _ (.tail _ (.tail _ (.tail _ (.tail _ (.tail _ (.tail _ (.tail _ (List.mem_append_right _ hq)))))))))) (List.mem_append_right _ (.head _)) rfl rfl hD7 (fun q hq => List.mem_append_left _ hq) (rows_ok hok) (rows_ok hok) (by units_room) ?_)
    simp only [decide_true]
    (try dsimp only)
    (try k_fold)
    (repeat (first | (k_unfold; (try dsimp only)) | walk1 | (dsimp only; walk1)))
    exact hret.out _ _ _ F7
end Mine

end

section
open PySem PySem.W PyProof.Rows
namespace Mine
theorem c_law (w : World) (p : Program) (loose : List Str) (mean : ExcName → Option Value) (mg mb : Str → Option Value) (h₀ : Heap) (l fa L : Addr) (cdv : Value) (vs : List Value) (ns : List Int) (s : Shared) (Q : Flow → Shared → Prop) (E : Value → Shared → Prop) (ow om os : Obj)
    (hL : h₀.IsList l vs.toArray) (hI : IntsAre vs ns) (hns : ns.length ≤ 63) (B : Below callerA h₀ [] h₀) (X : (kx w.params).In h₀) (T : Top p loose mean mg mb h₀)
    (F : Fr h₀ L s.heap (bindL (lawEnv L fa cdv).kindOf [(Str.ofString "script", .ref l)] fun _ => none)) (N : News h₀ L s.heap [(L + 1 + 1 + 1, ow), (L + 1 + 1, om), (L + 1, os)])
    (d1 : ow.data = .cell none) (d2 : om.data = .cell none) (d3 : os.data = .cell none) (hret : LawEnd h₀ L s Q) :
    wpAny (model pw w) (callerA.deeper (lawEnv L fa cdv)) (execs bo22.val (lawEnv L fa cdv)) Q (fun e s' => wpAny (model pw w) (callerA.deeper (lawEnv L fa cdv)) (leaving (lawEnv L fa cdv) e) (fun _ s'' => E e s'') (fun e' s'' => E e' s'') s') s := by
  (repeat (fail_if_success (with_reducible show wpAny _ _ (call (Value.ref _) _) _ _ _)); first | ((k_unfold; (try dsimp only))) | walk1 | (dsimp only; walk1))
  (with_reducible rename Fr _ _ _ _ => lF)
  (with_reducible rename News _ _ _ _ => lN)
  k_dflt (refine c_draw w l vs ns hI hns _ p loose mean mg mb _ _ _ _ _ _ _ _ [] callerA h₀ h₀ _ _ _ _ _ hL B lF X lN T (by rfl) (by ktr_room) (by ktr_units) ⟨?_⟩)
  clear lF lN
  rintro r9 h9 tk9 nw9 F9 N9 ⟨lh, vh, eph, d, rfl, hId, hdl, hdr, rfl⟩
  have hh3 := news_ne N9 (.head _) (.tail _ (.head _)) (fun e => by have := congrArg Obj.data e; rw [d1] at this; exact nomatch this)
  have hh2 := news_ne N9 (.head _) (.tail _ (.tail _ (.head _))) (fun e => by have := congrArg Obj.data e; rw [d2] at this; exact nomatch this)
  have hh1 := news_ne N9 (.head _) (.tail _ (.tail _ (.tail _ (.head _)))) (fun e => by have := congrArg Obj.data e; rw [d3] at this; exact nomatch this)
  dsimp only at hh1 hh2 hh3
  have hg := get_b hdl hdr
  have hg0 := hg (Int.toNat 0) (by decide)
  have hg1 := hg (Int.toNat 1) (by decide)
  have hg2 := hg (Int.toNat 2) (by decide)
  have hg3 := hg (Int.toNat 3) (by decide)
  have hg4 := hg (Int.toNat 4) (by decide)
  have hg5 := hg (Int.toNat 5) (by decide)
  clear hg hdr
  have hm0 := fmod_b (d.getD (Int.toNat 0) 0) 5 (by decide)
  have hm1 := fmod_b (d.getD (Int.toNat 1) 0) 5 (by decide)
  have hz0 := fmod_b (d.getD (Int.toNat 2) 0) 4 (by decide)
  have hb0 := fmod_b (d.getD (Int.toNat 3) 0) 3 (by decide)
  (try dsimp only at N9 ⊢)
  (try k_fold)
  (repeat (fail_if_success (with_reducible show wpAny _ _ (exec (Stmt.Assign _ (Expr.ListComp _ _ _ _) _) _) _ _ _)); first | (k_unfold; (try dsimp only)) | walk1 | (dsimp only; walk1))
  k_dflt (refine LCg.Assign_ListComp_U (F₀ := by k_asm) (by rfl) (by with_unfolding_all rfl) (by with_unfolding_all rfl) (by decide) (by rfl) (by decide) (by rfl) (by rfl) (by rfl) ?_)
  (repeat (fail_if_success (with_reducible refine CompSrc_stop ?_)); first | walk1 | (dsimp only; walk1))
  (with_reducible rename Fr _ _ _ _ => lF)
  (with_reducible rename News _ _ _ _ => lN)
  (with_reducible rename IsRange _ _ _ _ _ _ _ _ => lR)
  have lM := news_nil lN
  k_dflt (refine LCg.CompSrc.range (by rfl) lF lM lR (small_one (by omega) (by omega) (by omega) (by omega)) (rangeSize_nat _ _) (by rw [PySem.sizeLine_eq]; omega) ?_)
  intro gg
  refine kmp_restV _ [] (fun _ => True) (fun _ k y => ∃ t, y = .int (wholeV (1 + (d.getD (Int.toNat 2) 0).fmod 4) k) t) (fun _ _ _ _ h _ => h) (rangeKs_length _ _) (fun i v hi h => rangeKs_at hi h) trivial trivial ?turn ?fin
  case turn =>
    intro k' t' I' oI' C' oC' D' m' ys' tl' h' tk' E' hk' hC' hx' F' N' off' ne' _ hV'
    have off2 := off'
    have hkr := mem_rangeKs hk'
    have hk4 : 0 ≤ k' ∧ k' ≤ 4 := ⟨hkr.1, by omega⟩
    dsimp only [List.cons_append] at N'
    (repeat (fail_if_success (with_reducible show wpAny _ _ (call (Value.ref _) _) _ _ _)); first | (k_unfold; (try dsimp only)) | walk1 | (dsimp only; walk1))
    k_dflt (refine CallsN.use (c_white w _ _ _ (wpile_len hk4)) B (by k_asm) X (by k_asm) T (by rfl) (by ktr_room) (by ktr_units) ?_)
    rintro r9 h9' tk9' nw9 F9' N9' ⟨x1, dd1, tn1, tc1, vs1, led1, rfl, hI1, hW, rfl⟩
    have hW2 := hW
    obtain ⟨u1, u2, u3, k0, k1, k2, k3, k4, v1, rfl⟩ := hW2
    unfold whiteD at N9'
    simp only [List.cons_append, List.nil_append] at N9'
    (try dsimp only)
    (try k_fold)
    (repeat (fail_if_success (with_reducible show wpAny _ _ (call (Value.ref _) _) _ _ _)); first | (k_unfold; (try dsimp only)) | walk1 | (dsimp only; walk1))
    (with_reducible rename Fr _ _ _ _ => lF)
    (with_reducible rename News _ _ _ _ => lN)
    have hcnt := wpile_cnt hk4
    k_dflt (refine CallsN.use (c_indent w x1 dd1 tn1 tc1 _ _ _ vs1 (1 + (d.getD (Int.toNat 2) 0).fmod 4) _ _ _ hW hI1 (by omega) hcnt.1 hcnt.2) B lF X lN T (by rfl) (by ktr_room) (by ktr_units) ?_)
    clear lF lN
    rintro r8 h8 tk8 nw8 F8 N8 ⟨⟨t8, rfl⟩, rfl⟩
    unfold whiteD at N8
    simp only [List.cons_append, List.nil_append] at N8
    (try dsimp only)
    (try k_fold)
    repeat' (first | (k_unfold; (try dsimp only)) | (k_end; wrow_close) | ((fail_if_success (with_reducible refine CompEnd_stop ?_)); walk1) | ((fail_if_success (with_reducible refine CompEnd_stop ?_)); dsimp only; walk1) | (leave1; walk_say "STEP leave1"; (try dsimp only)) | fail "no step")
    (with_reducible rename News _ _ _ _ => nE)
    (with_reducible rename Fr _ _ _ _ => fE)
    exact LCg.CompEnd.intro fE nE _ (fun _ hp => .tail _ (.tail _ (.tail _ (.tail _ hp)))) off2 trivial ⟨tl', rfl, fun _ h => h, trivial, _, rfl⟩
  case fin =>
    clear lF lN lM lR
    rintro ys tl htl - hy D1 h1 tk1 F1 N1 o1
    (try dsimp only [List.cons_append] at N1)
    have hIw := whole_ints hy
    have N2 := drop_tl6 N1
    clear o1
    have hD3 := news_ne N2 (.head _) (.tail _ (.tail _ (.tail _ (.head _)))) (fun e => by have := congrArg Obj.data e; rw [d1] at this; exact nomatch this)
    dsimp only at hD3
    clear N1 hy
    (try k_fold)
    (repeat (fail_if_success (with_reducible show wpAny _ _ (exec (Stmt.For _ (Expr.ListComp _ _ _ _) _ _ _) _) _ _ _)); first | (k_unfold; (try dsimp only)) | walk1 | (dsimp only; walk1))
    have hz := hz0
    have hzz : 1 ≤ 1 + (d.getD (Int.toNat 2) 0).fmod 4 ∧ 1 + (d.getD (Int.toNat 2) 0).fmod 4 ≤ 4 := by omega
    have hbb : 0 ≤ (d.getD (Int.toNat 3) 0).fmod 3 ∧ (d.getD (Int.toNat 3) 0).fmod 3 ≤ 2 := by omega
    (with_reducible rename Fr h₀ L _ _ => lF)
    (with_reducible rename News h₀ L _ _ => lN)
    (with_reducible rename Obj.data _ = Data.cell (some (Value.int _ _)) => c3)
    (with_reducible rename Obj.data _ = Data.cell (some (Value.ref _)) => c1)
    revert c1
    (with_reducible rename Obj.data _ = Data.cell (some (Value.ref _)) => c2)
    intro c1
    k_dflt (refine c_loop w p loose mean mg mb h₀ fa L cdv _ _ _ _ _ _ _ _ _ _ _ _ _ _ _ _ _ _ _ _ _ _ _ vh ys _ d eph (1 + (d.getD (Int.toNat 2) 0).fmod 4) ((d.getD (Int.toNat 3) 0).fmod 3) (d.getD (Int.toNat 4) 0) ((d.getD (Int.toNat 0) 0).fmod 5) ((d.getD (Int.toNat 1) 0).fmod 5) hzz hbb (by omega) (by omega) hId hdl hIw (wh_ok hzz (by omega) (by omega) (by omega)) ⟨hg4.1, ?i1, ?i2, ?i3, .nil, fun _ h => (nomatch h)⟩ ⟨?a1, ?a2, ?a3, off_nil, off_nil, off_nil⟩ ?lo c1 c2 c3 B X T ⟨?po⟩ lF (Has.cons rfl (Has.cons rfl (Has.cons rfl (Has.cons rfl (Has.cons rfl (Has.cons rfl Has.nil)))))) (law_led lN) ⟨?ret⟩)
    clear lF lN
    case i1 => k_asm
    case i2 => k_asm
    case i3 => k_asm
    case a1 => exact ⟨List.forall_mem_cons.mpr ⟨by show @Ne Nat _ _; omega, List.forall_mem_cons.mpr ⟨by show @Ne Nat _ _; omega, List.forall_mem_cons.mpr ⟨by show @Ne Nat _ _; omega, List.forall_mem_cons.mpr ⟨by show @Ne Nat _ _; omega, List.forall_mem_cons.mpr ⟨by show @Ne Nat _ _; omega, List.forall_mem_cons.mpr ⟨by show @Ne Nat _ _; omega, List.forall_mem_cons.mpr ⟨by show @Ne Nat _ _; omega, List.forall_mem_cons.mpr ⟨by show @Ne Nat _ _; omega, List.forall_mem_cons.mpr ⟨by show @Ne Nat _ _; omega, List.forall_mem_cons.mpr ⟨by show @Ne Nat _ _; omega, List.forall_mem_nil _⟩⟩⟩⟩⟩⟩⟩⟩⟩⟩⟩
    case a2 => exact ⟨List.forall_mem_cons.mpr ⟨by show @Ne Nat _ _; omega, List.forall_mem_cons.mpr ⟨by show @Ne Nat _ _; omega, List.forall_mem_cons.mpr ⟨by show @Ne Nat _ _; omega, List.forall_mem_cons.mpr ⟨by show @Ne Nat _ _; omega, List.forall_mem_cons.mpr ⟨by show @Ne Nat _ _; omega, List.forall_mem_cons.mpr ⟨by show @Ne Nat _ _; omega, List.forall_mem_cons.mpr ⟨by show @Ne Nat _ _; omega, List.forall_mem_cons.mpr ⟨by show @Ne Nat _ _; omega, List.forall_mem_cons.mpr ⟨by show @Ne Nat _ _; omega, List.forall_mem_cons.mpr ⟨by show @Ne Nat _ _; omega, List.forall_mem_nil _⟩⟩⟩⟩⟩⟩⟩⟩⟩⟩⟩
    case a3 => exact ⟨List.forall_mem_cons.mpr ⟨by show @Ne Nat _ _; omega, List.forall_mem_cons.mpr ⟨by show @Ne Nat _ _; omega, List.forall_mem_cons.mpr ⟨by show @Ne Nat _ _; omega, List.forall_mem_cons.mpr ⟨by show @Ne Nat _ _; omega, List.forall_mem_cons.mpr ⟨by show @Ne Nat _ _; omega, List.forall_mem_cons.mpr ⟨by show @Ne Nat _ _; omega, List.forall_mem_nil _⟩⟩⟩⟩⟩⟩⟩
    case lo => k_asm
    case po => exact PySem.PassesOwn.leaving
    case ret =>
      intro h' tk' m' oF' fvs' vs' hs' ep' rest' F7 Hm7 N7 hd7 hf7 hh7 hl7 ho7
      (try k_unfold)
      (try dsimp only)
      exact p_R w p loose mean mg mb h₀ fa L cdv _ _ _ _ _ _ _ _ _ _ _ _ _ _ _ hd7 hf7 hh7 hl7 (by k_asm) (rowsOk_of hzz hbb ho7) B X T F7 Hm7 N7 ⟨fun h t m F => hret.out h t m F⟩
end Mine

end

open PySem PySem.W PyProof.Rows
theorem PySem.Challenge.cw_sn0066_02_holds : PySem.Challenge.rw_sn0066_02.Holds := by
  w_on; o_law
  refine holds_open (q := Mine.qv) (loose := Mine.looseL) (Xt := Mine.Xt) (XP := XL Mine.qv []) (Yf := Hook.obs (kHook Mine.kx Mine.kas Mine.kpf)) (Ya := Hook.val (kHook Mine.kx Mine.kas Mine.kpf)) (YP := Hook.says (kHook Mine.kx Mine.kas Mine.kpf)) (N := Mine.NN) Mine.left (Hook.of (kHook Mine.kx Mine.kas Mine.kpf)) (Hook.keeps (kHook Mine.kx Mine.kas Mine.kpf)) (fun s e => xl_of s (Bool.and_eq_true_iff.mp e).1) XL.keeps (by rfl) (by rfl) (by rfl) (fun s e => recFacts_of (Bool.and_eq_true_iff.mp e).2) (by rfl) (by assumption) (by decide +kernel) ⟨rfl, rfl, rfl, rfl, rfl, by decide +kernel⟩ ?hw ?hc
  case hw => w_witness2
  case hc =>
    rename_i said0; clear said0; w_strict (k_go0; ((with_reducible rename Heap.IsList _ _ _ => fL); (with_reducible rename IntsAre _ _ => fI); (with_reducible rename ¬ _ < _ => fC); (with_reducible rename Below _ _ _ _ => fB); (with_reducible rename Frag.In _ _ => fX); (with_reducible rename Top _ _ _ _ _ _ => fT); (with_reducible rename Fr _ _ _ _ => fF); (with_reducible rename News _ _ _ _ => fN); (with_reducible rename Obj.data _ = Data.cell (bindC _ _ _ (Str.ofString "worth")) => f1); (with_reducible rename Obj.data _ = Data.cell (bindC _ _ _ (Str.ofString "most")) => f2); (with_reducible rename Obj.data _ = Data.cell (bindC _ _ _ (Str.ofString "size")) => f3); k_dflt (refine Mine.c_law _ _ _ _ _ _ _ _ _ _ _ _ _ _ _ _ _ _ _ fL fI (by omega) fB fX fT fF fN f1 f2 f3 ⟨?_⟩)); intro h9 tk9 m9 F9; (try dsimp only); wrow_close)

