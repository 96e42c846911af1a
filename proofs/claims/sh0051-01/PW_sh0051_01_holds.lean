import PyProof.Rows.All
import Wide.All
import OpenK.AllK
import Wide.FinOn
import Lean
import PySem.Challenge.RW_sh0051_01
section
open PySem PySem.W PyProof.Rows
set_option Elab.async false
set_option maxRecDepth 100000
set_option linter.all false
namespace Sh51
open PySem.Challenge (pw_sh0051_01)
open PyData (keyHash)
noncomputable def stAt (p : Program) (i : Nat) : Stmt := p.main.body.getD i (.Pass ⟨0, 0, 0, 0⟩)
noncomputable def subAt : Stmt → Nat → Stmt
  | .ClassDef _ _ _ b _ _ _ _ _ _ _, j => b.getD j (.Pass ⟨0, 0, 0, 0⟩)
  | st, _ => st
noncomputable def fA : Stmt → Arguments
  | .FunctionDef _ a _ _ _ _ _ _ _ _ => a
  | _ => ⟨[], [], none, [], [], none, []⟩
noncomputable def fB : Stmt → List Stmt
  | .FunctionDef _ _ b _ _ _ _ _ _ _ => b
  | _ => []
noncomputable def fS : Stmt → Scope
  | .FunctionDef _ _ _ _ _ _ sc _ _ _ => sc
  | _ => ⟨.module, [], false, false, []⟩
noncomputable abbrev life : Life := {}
noncomputable abbrev dr : Drawn := ⟨0, 0, 0, 0⟩

noncomputable def st_1 : Stmt := by
  refine (?g : (x : Stmt) → (stAt pw_sh0051_01 1 = x) → Stmt) ?x ?h
  case g => exact fun x _ => x
  case h => (conv => lhs; whnf)
noncomputable def st_2 : Stmt := by
  refine (?g : (x : Stmt) → (stAt pw_sh0051_01 2 = x) → Stmt) ?x ?h
  case g => exact fun x _ => x
  case h => (conv => lhs; whnf)
noncomputable def st_3 : Stmt := by
  refine (?g : (x : Stmt) → (stAt pw_sh0051_01 3 = x) → Stmt) ?x ?h
  case g => exact fun x _ => x
  case h => (conv => lhs; whnf)
noncomputable def st_4 : Stmt := by
  refine (?g : (x : Stmt) → (stAt pw_sh0051_01 4 = x) → Stmt) ?x ?h
  case g => exact fun x _ => x
  case h => (conv => lhs; whnf)
noncomputable def st_5 : Stmt := by
  refine (?g : (x : Stmt) → (stAt pw_sh0051_01 5 = x) → Stmt) ?x ?h
  case g => exact fun x _ => x
  case h => (conv => lhs; whnf)
noncomputable def st_6 : Stmt := by
  refine (?g : (x : Stmt) → (stAt pw_sh0051_01 6 = x) → Stmt) ?x ?h
  case g => exact fun x _ => x
  case h => (conv => lhs; whnf)
noncomputable def st_7 : Stmt := by
  refine (?g : (x : Stmt) → (stAt pw_sh0051_01 7 = x) → Stmt) ?x ?h
  case g => exact fun x _ => x
  case h => (conv => lhs; whnf)
noncomputable def st_8 : Stmt := by
  refine (?g : (x : Stmt) → (stAt pw_sh0051_01 8 = x) → Stmt) ?x ?h
  case g => exact fun x _ => x
  case h => (conv => lhs; whnf)
noncomputable def st_9 : Stmt := by
  refine (?g : (x : Stmt) → (stAt pw_sh0051_01 9 = x) → Stmt) ?x ?h
  case g => exact fun x _ => x
  case h => (conv => lhs; whnf)
noncomputable def st_10 : Stmt := by
  refine (?g : (x : Stmt) → (stAt pw_sh0051_01 10 = x) → Stmt) ?x ?h
  case g => exact fun x _ => x
  case h => (conv => lhs; whnf)
noncomputable def st_11 : Stmt := by
  refine (?g : (x : Stmt) → (stAt pw_sh0051_01 11 = x) → Stmt) ?x ?h
  case g => exact fun x _ => x
  case h => (conv => lhs; whnf)
noncomputable def st_12 : Stmt := by
  refine (?g : (x : Stmt) → (stAt pw_sh0051_01 12 = x) → Stmt) ?x ?h
  case g => exact fun x _ => x
  case h => (conv => lhs; whnf)
noncomputable def st_13 : Stmt := by
  refine (?g : (x : Stmt) → (stAt pw_sh0051_01 13 = x) → Stmt) ?x ?h
  case g => exact fun x _ => x
  case h => (conv => lhs; whnf)
noncomputable def st_14 : Stmt := by
  refine (?g : (x : Stmt) → (stAt pw_sh0051_01 14 = x) → Stmt) ?x ?h
  case g => exact fun x _ => x
  case h => (conv => lhs; whnf)
noncomputable def st_15 : Stmt := by
  refine (?g : (x : Stmt) → (stAt pw_sh0051_01 15 = x) → Stmt) ?x ?h
  case g => exact fun x _ => x
  case h => (conv => lhs; whnf)
noncomputable def st_16 : Stmt := by
  refine (?g : (x : Stmt) → (stAt pw_sh0051_01 16 = x) → Stmt) ?x ?h
  case g => exact fun x _ => x
  case h => (conv => lhs; whnf)
noncomputable def st_17 : Stmt := by
  refine (?g : (x : Stmt) → (stAt pw_sh0051_01 17 = x) → Stmt) ?x ?h
  case g => exact fun x _ => x
  case h => (conv => lhs; whnf)
noncomputable def st_18 : Stmt := by
  refine (?g : (x : Stmt) → (stAt pw_sh0051_01 18 = x) → Stmt) ?x ?h
  case g => exact fun x _ => x
  case h => (conv => lhs; whnf)
noncomputable def st_19 : Stmt := by
  refine (?g : (x : Stmt) → (stAt pw_sh0051_01 19 = x) → Stmt) ?x ?h
  case g => exact fun x _ => x
  case h => (conv => lhs; whnf)
noncomputable def st_20 : Stmt := by
  refine (?g : (x : Stmt) → (stAt pw_sh0051_01 20 = x) → Stmt) ?x ?h
  case g => exact fun x _ => x
  case h => (conv => lhs; whnf)
noncomputable def st_21 : Stmt := by
  refine (?g : (x : Stmt) → (stAt pw_sh0051_01 21 = x) → Stmt) ?x ?h
  case g => exact fun x _ => x
  case h => (conv => lhs; whnf)
noncomputable def st_22 : Stmt := by
  refine (?g : (x : Stmt) → (stAt pw_sh0051_01 22 = x) → Stmt) ?x ?h
  case g => exact fun x _ => x
  case h => (conv => lhs; whnf)
noncomputable def st_23 : Stmt := by
  refine (?g : (x : Stmt) → (stAt pw_sh0051_01 23 = x) → Stmt) ?x ?h
  case g => exact fun x _ => x
  case h => (conv => lhs; whnf)
noncomputable def st_24 : Stmt := by
  refine (?g : (x : Stmt) → (stAt pw_sh0051_01 24 = x) → Stmt) ?x ?h
  case g => exact fun x _ => x
  case h => (conv => lhs; whnf)
noncomputable def st_25 : Stmt := by
  refine (?g : (x : Stmt) → (stAt pw_sh0051_01 25 = x) → Stmt) ?x ?h
  case g => exact fun x _ => x
  case h => (conv => lhs; whnf)
noncomputable def st_26 : Stmt := by
  refine (?g : (x : Stmt) → (stAt pw_sh0051_01 26 = x) → Stmt) ?x ?h
  case g => exact fun x _ => x
  case h => (conv => lhs; whnf)
noncomputable def st_27 : Stmt := by
  refine (?g : (x : Stmt) → (stAt pw_sh0051_01 27 = x) → Stmt) ?x ?h
  case g => exact fun x _ => x
  case h => (conv => lhs; whnf)
noncomputable def st_28 : Stmt := by
  refine (?g : (x : Stmt) → (stAt pw_sh0051_01 28 = x) → Stmt) ?x ?h
  case g => exact fun x _ => x
  case h => (conv => lhs; whnf)
noncomputable def st_29 : Stmt := by
  refine (?g : (x : Stmt) → (stAt pw_sh0051_01 29 = x) → Stmt) ?x ?h
  case g => exact fun x _ => x
  case h => (conv => lhs; whnf)
noncomputable def st_30 : Stmt := by
  refine (?g : (x : Stmt) → (stAt pw_sh0051_01 30 = x) → Stmt) ?x ?h
  case g => exact fun x _ => x
  case h => (conv => lhs; whnf)
noncomputable def st_31 : Stmt := by
  refine (?g : (x : Stmt) → (stAt pw_sh0051_01 31 = x) → Stmt) ?x ?h
  case g => exact fun x _ => x
  case h => (conv => lhs; whnf)
noncomputable def st_32 : Stmt := by
  refine (?g : (x : Stmt) → (stAt pw_sh0051_01 32 = x) → Stmt) ?x ?h
  case g => exact fun x _ => x
  case h => (conv => lhs; whnf)
noncomputable def st_33 : Stmt := by
  refine (?g : (x : Stmt) → (stAt pw_sh0051_01 33 = x) → Stmt) ?x ?h
  case g => exact fun x _ => x
  case h => (conv => lhs; whnf)
noncomputable def st_34 : Stmt := by
  refine (?g : (x : Stmt) → (stAt pw_sh0051_01 34 = x) → Stmt) ?x ?h
  case g => exact fun x _ => x
  case h => (conv => lhs; whnf)
noncomputable def st_35 : Stmt := by
  refine (?g : (x : Stmt) → (stAt pw_sh0051_01 35 = x) → Stmt) ?x ?h
  case g => exact fun x _ => x
  case h => (conv => lhs; whnf)
noncomputable def st_36 : Stmt := by
  refine (?g : (x : Stmt) → (stAt pw_sh0051_01 36 = x) → Stmt) ?x ?h
  case g => exact fun x _ => x
  case h => (conv => lhs; whnf)
noncomputable def st_37 : Stmt := by
  refine (?g : (x : Stmt) → (stAt pw_sh0051_01 37 = x) → Stmt) ?x ?h
  case g => exact fun x _ => x
  case h => (conv => lhs; whnf)
noncomputable def st_38 : Stmt := by
  refine (?g : (x : Stmt) → (stAt pw_sh0051_01 38 = x) → Stmt) ?x ?h
  case g => exact fun x _ => x
  case h => (conv => lhs; whnf)
noncomputable def st_39 : Stmt := by
  refine (?g : (x : Stmt) → (stAt pw_sh0051_01 39 = x) → Stmt) ?x ?h
  case g => exact fun x _ => x
  case h => (conv => lhs; whnf)
noncomputable def st_40 : Stmt := by
  refine (?g : (x : Stmt) → (stAt pw_sh0051_01 40 = x) → Stmt) ?x ?h
  case g => exact fun x _ => x
  case h => (conv => lhs; whnf)
noncomputable def st_41 : Stmt := by
  refine (?g : (x : Stmt) → (stAt pw_sh0051_01 41 = x) → Stmt) ?x ?h
  case g => exact fun x _ => x
  case h => (conv => lhs; whnf)
noncomputable def st_42 : Stmt := by
  refine (?g : (x : Stmt) → (stAt pw_sh0051_01 42 = x) → Stmt) ?x ?h
  case g => exact fun x _ => x
  case h => (conv => lhs; whnf)
noncomputable def st_43 : Stmt := by
  refine (?g : (x : Stmt) → (stAt pw_sh0051_01 43 = x) → Stmt) ?x ?h
  case g => exact fun x _ => x
  case h => (conv => lhs; whnf)
noncomputable def st_44 : Stmt := by
  refine (?g : (x : Stmt) → (stAt pw_sh0051_01 44 = x) → Stmt) ?x ?h
  case g => exact fun x _ => x
  case h => (conv => lhs; whnf)
noncomputable def st_45 : Stmt := by
  refine (?g : (x : Stmt) → (stAt pw_sh0051_01 45 = x) → Stmt) ?x ?h
  case g => exact fun x _ => x
  case h => (conv => lhs; whnf)
noncomputable def st_46 : Stmt := by
  refine (?g : (x : Stmt) → (stAt pw_sh0051_01 46 = x) → Stmt) ?x ?h
  case g => exact fun x _ => x
  case h => (conv => lhs; whnf)
noncomputable def st_47 : Stmt := by
  refine (?g : (x : Stmt) → (stAt pw_sh0051_01 47 = x) → Stmt) ?x ?h
  case g => exact fun x _ => x
  case h => (conv => lhs; whnf)
noncomputable def st_48 : Stmt := by
  refine (?g : (x : Stmt) → (stAt pw_sh0051_01 48 = x) → Stmt) ?x ?h
  case g => exact fun x _ => x
  case h => (conv => lhs; whnf)
noncomputable def st_49 : Stmt := by
  refine (?g : (x : Stmt) → (stAt pw_sh0051_01 49 = x) → Stmt) ?x ?h
  case g => exact fun x _ => x
  case h => (conv => lhs; whnf)
noncomputable def st_50 : Stmt := by
  refine (?g : (x : Stmt) → (stAt pw_sh0051_01 50 = x) → Stmt) ?x ?h
  case g => exact fun x _ => x
  case h => (conv => lhs; whnf)
noncomputable def st_51 : Stmt := by
  refine (?g : (x : Stmt) → (stAt pw_sh0051_01 51 = x) → Stmt) ?x ?h
  case g => exact fun x _ => x
  case h => (conv => lhs; whnf)
noncomputable def st_52 : Stmt := by
  refine (?g : (x : Stmt) → (stAt pw_sh0051_01 52 = x) → Stmt) ?x ?h
  case g => exact fun x _ => x
  case h => (conv => lhs; whnf)
noncomputable def st_53 : Stmt := by
  refine (?g : (x : Stmt) → (stAt pw_sh0051_01 53 = x) → Stmt) ?x ?h
  case g => exact fun x _ => x
  case h => (conv => lhs; whnf)
noncomputable def st_54 : Stmt := by
  refine (?g : (x : Stmt) → (stAt pw_sh0051_01 54 = x) → Stmt) ?x ?h
  case g => exact fun x _ => x
  case h => (conv => lhs; whnf)
noncomputable def st_55 : Stmt := by
  refine (?g : (x : Stmt) → (stAt pw_sh0051_01 55 = x) → Stmt) ?x ?h
  case g => exact fun x _ => x
  case h => (conv => lhs; whnf)
noncomputable def st_56 : Stmt := by
  refine (?g : (x : Stmt) → (stAt pw_sh0051_01 56 = x) → Stmt) ?x ?h
  case g => exact fun x _ => x
  case h => (conv => lhs; whnf)
noncomputable def st_57 : Stmt := by
  refine (?g : (x : Stmt) → (stAt pw_sh0051_01 57 = x) → Stmt) ?x ?h
  case g => exact fun x _ => x
  case h => (conv => lhs; whnf)
noncomputable def st_58 : Stmt := by
  refine (?g : (x : Stmt) → (stAt pw_sh0051_01 58 = x) → Stmt) ?x ?h
  case g => exact fun x _ => x
  case h => (conv => lhs; whnf)
noncomputable def st_59 : Stmt := by
  refine (?g : (x : Stmt) → (stAt pw_sh0051_01 59 = x) → Stmt) ?x ?h
  case g => exact fun x _ => x
  case h => (conv => lhs; whnf)
noncomputable def st_60 : Stmt := by
  refine (?g : (x : Stmt) → (stAt pw_sh0051_01 60 = x) → Stmt) ?x ?h
  case g => exact fun x _ => x
  case h => (conv => lhs; whnf)
noncomputable def st_61 : Stmt := by
  refine (?g : (x : Stmt) → (stAt pw_sh0051_01 61 = x) → Stmt) ?x ?h
  case g => exact fun x _ => x
  case h => (conv => lhs; whnf)
noncomputable def st_62 : Stmt := by
  refine (?g : (x : Stmt) → (stAt pw_sh0051_01 62 = x) → Stmt) ?x ?h
  case g => exact fun x _ => x
  case h => (conv => lhs; whnf)
noncomputable def st_63 : Stmt := by
  refine (?g : (x : Stmt) → (stAt pw_sh0051_01 63 = x) → Stmt) ?x ?h
  case g => exact fun x _ => x
  case h => (conv => lhs; whnf)
noncomputable def st_64 : Stmt := by
  refine (?g : (x : Stmt) → (stAt pw_sh0051_01 64 = x) → Stmt) ?x ?h
  case g => exact fun x _ => x
  case h => (conv => lhs; whnf)
noncomputable def st_65 : Stmt := by
  refine (?g : (x : Stmt) → (stAt pw_sh0051_01 65 = x) → Stmt) ?x ?h
  case g => exact fun x _ => x
  case h => (conv => lhs; whnf)
noncomputable def st_66 : Stmt := by
  refine (?g : (x : Stmt) → (stAt pw_sh0051_01 66 = x) → Stmt) ?x ?h
  case g => exact fun x _ => x
  case h => (conv => lhs; whnf)
noncomputable def st_67 : Stmt := by
  refine (?g : (x : Stmt) → (stAt pw_sh0051_01 67 = x) → Stmt) ?x ?h
  case g => exact fun x _ => x
  case h => (conv => lhs; whnf)
noncomputable def st_68 : Stmt := by
  refine (?g : (x : Stmt) → (stAt pw_sh0051_01 68 = x) → Stmt) ?x ?h
  case g => exact fun x _ => x
  case h => (conv => lhs; whnf)
noncomputable def st_69 : Stmt := by
  refine (?g : (x : Stmt) → (stAt pw_sh0051_01 69 = x) → Stmt) ?x ?h
  case g => exact fun x _ => x
  case h => (conv => lhs; whnf)
noncomputable def st_70 : Stmt := by
  refine (?g : (x : Stmt) → (stAt pw_sh0051_01 70 = x) → Stmt) ?x ?h
  case g => exact fun x _ => x
  case h => (conv => lhs; whnf)
noncomputable def st_71 : Stmt := by
  refine (?g : (x : Stmt) → (stAt pw_sh0051_01 71 = x) → Stmt) ?x ?h
  case g => exact fun x _ => x
  case h => (conv => lhs; whnf)
noncomputable def st_72 : Stmt := by
  refine (?g : (x : Stmt) → (stAt pw_sh0051_01 72 = x) → Stmt) ?x ?h
  case g => exact fun x _ => x
  case h => (conv => lhs; whnf)
noncomputable def st_73 : Stmt := by
  refine (?g : (x : Stmt) → (stAt pw_sh0051_01 73 = x) → Stmt) ?x ?h
  case g => exact fun x _ => x
  case h => (conv => lhs; whnf)
noncomputable def st_74 : Stmt := by
  refine (?g : (x : Stmt) → (stAt pw_sh0051_01 74 = x) → Stmt) ?x ?h
  case g => exact fun x _ => x
  case h => (conv => lhs; whnf)
noncomputable def sc_ : Scope := by
  refine (?g : (x : Scope) → (pw_sh0051_01.main.scope = x) → Scope) ?x ?h
  case g => exact fun x _ => x
  case h => (conv => lhs; whnf)
noncomputable def env_ : Env := { scope := sc_, locals := mainNs, globals := mainNs, cells := [], code := .ref 30, frame := some 31 }
noncomputable def st_0 : Stmt := by
  refine (?g : (x : Stmt) → (stAt pw_sh0051_01 0 = x) → Stmt) ?x ?h
  case g => exact fun x _ => x
  case h => (conv => lhs; whnf)
noncomputable def given_ : Given := by
  refine (?g : (x : Given) → (pw_sh0051_01.given = x) → Given) ?x ?h
  case g => exact fun x _ => x
  case h => (conv => lhs; whnf)
noncomputable def prog_ (b : List Stmt) : Program := { main := { body := b, scope := sc_, futureAnnotations := false, file := "/claim/cut.py", more := [] }, modules := [], parses := [], absent := [], harvested := [], given := given_ }
noncomputable def bd0 (r : List Stmt) : List Stmt := st_0 :: st_1 :: st_2 :: st_3 :: st_4 :: st_5 :: st_6 :: st_7 :: st_8 :: st_9 :: st_10 :: st_11 :: st_12 :: st_13 :: st_14 :: st_15 :: st_16 :: st_17 :: st_18 :: st_19 :: st_20 :: st_21 :: st_22 :: st_23 :: st_24 :: r
noncomputable def bd1 (r : List Stmt) : List Stmt := st_25 :: st_26 :: st_27 :: st_28 :: st_29 :: st_30 :: st_31 :: st_32 :: st_33 :: st_34 :: st_35 :: st_36 :: st_37 :: st_38 :: st_39 :: st_40 :: st_41 :: st_42 :: st_43 :: st_44 :: st_45 :: st_46 :: st_47 :: st_48 :: st_49 :: r
noncomputable def bd2 (r : List Stmt) : List Stmt := st_50 :: st_51 :: st_52 :: st_53 :: st_54 :: st_55 :: st_56 :: st_57 :: st_58 :: st_59 :: st_60 :: st_61 :: st_62 :: st_63 :: st_64 :: st_65 :: st_66 :: st_67 :: st_68 :: st_69 :: st_70 :: st_71 :: st_72 :: st_73 :: st_74 :: r
noncomputable def pwL : Program := prog_ (bd0 (bd1 (bd2 [])))
noncomputable def opL : Program := prog_ [st_0]
noncomputable def qL : Program := prog_ [st_0, st_74]

noncomputable def e0 (P : Params) (r : List DictEntry) : List DictEntry := ⟨keyHash P (.ofString "__name__"), (.str (.ofString "__name__") 1), (.str (.ofString "builtins") 160)⟩ :: ⟨keyHash P (.ofString "__doc__"), (.str (.ofString "__doc__") 2), (.builtin "builtins.__doc__:str#opaque")⟩ :: ⟨keyHash P (.ofString "__package__"), (.str (.ofString "__package__") 3), (.builtin "builtins.__package__:str#opaque")⟩ :: ⟨keyHash P (.ofString "__loader__"), (.str (.ofString "__loader__") 4), (.builtin "builtins.__loader__:shared#opaque")⟩ :: ⟨keyHash P (.ofString "__spec__"), (.str (.ofString "__spec__") 5), (.builtin "builtins.__spec__#opaque")⟩ :: ⟨keyHash P (.ofString "__build_class__"), (.str (.ofString "__build_class__") 6), (.builtin "__build_class__")⟩ :: ⟨keyHash P (.ofString "__import__"), (.str (.ofString "__import__") 7), (.builtin "__import__")⟩ :: ⟨keyHash P (.ofString "abs"), (.str (.ofString "abs") 8), (.builtin "abs")⟩ :: ⟨keyHash P (.ofString "all"), (.str (.ofString "all") 9), (.builtin "all")⟩ :: ⟨keyHash P (.ofString "any"), (.str (.ofString "any") 10), (.builtin "any")⟩ :: r
noncomputable def e1 (P : Params) (r : List DictEntry) : List DictEntry := ⟨keyHash P (.ofString "ascii"), (.str (.ofString "ascii") 11), (.builtin "ascii")⟩ :: ⟨keyHash P (.ofString "bin"), (.str (.ofString "bin") 12), (.builtin "bin")⟩ :: ⟨keyHash P (.ofString "breakpoint"), (.str (.ofString "breakpoint") 13), (.builtin "breakpoint")⟩ :: ⟨keyHash P (.ofString "callable"), (.str (.ofString "callable") 14), (.builtin "callable")⟩ :: ⟨keyHash P (.ofString "chr"), (.str (.ofString "chr") 15), (.builtin "chr")⟩ :: ⟨keyHash P (.ofString "compile"), (.str (.ofString "compile") 16), (.builtin "compile")⟩ :: ⟨keyHash P (.ofString "delattr"), (.str (.ofString "delattr") 17), (.builtin "delattr")⟩ :: ⟨keyHash P (.ofString "dir"), (.str (.ofString "dir") 18), (.builtin "dir")⟩ :: ⟨keyHash P (.ofString "divmod"), (.str (.ofString "divmod") 19), (.builtin "divmod")⟩ :: ⟨keyHash P (.ofString "eval"), (.str (.ofString "eval") 20), (.builtin "eval")⟩ :: r
noncomputable def e2 (P : Params) (r : List DictEntry) : List DictEntry := ⟨keyHash P (.ofString "exec"), (.str (.ofString "exec") 21), (.builtin "exec")⟩ :: ⟨keyHash P (.ofString "format"), (.str (.ofString "format") 22), (.builtin "format")⟩ :: ⟨keyHash P (.ofString "getattr"), (.str (.ofString "getattr") 23), (.builtin "getattr")⟩ :: ⟨keyHash P (.ofString "globals"), (.str (.ofString "globals") 24), (.builtin "globals")⟩ :: ⟨keyHash P (.ofString "hasattr"), (.str (.ofString "hasattr") 25), (.builtin "hasattr")⟩ :: ⟨keyHash P (.ofString "hash"), (.str (.ofString "hash") 26), (.builtin "hash")⟩ :: ⟨keyHash P (.ofString "hex"), (.str (.ofString "hex") 27), (.builtin "hex")⟩ :: ⟨keyHash P (.ofString "id"), (.str (.ofString "id") 28), (.builtin "id")⟩ :: ⟨keyHash P (.ofString "input"), (.str (.ofString "input") 29), (.builtin "input")⟩ :: ⟨keyHash P (.ofString "isinstance"), (.str (.ofString "isinstance") 30), (.builtin "isinstance")⟩ :: r
noncomputable def e3 (P : Params) (r : List DictEntry) : List DictEntry := ⟨keyHash P (.ofString "issubclass"), (.str (.ofString "issubclass") 31), (.builtin "issubclass")⟩ :: ⟨keyHash P (.ofString "iter"), (.str (.ofString "iter") 32), (.builtin "iter")⟩ :: ⟨keyHash P (.ofString "aiter"), (.str (.ofString "aiter") 33), (.builtin "aiter")⟩ :: ⟨keyHash P (.ofString "len"), (.str (.ofString "len") 34), (.builtin "len")⟩ :: ⟨keyHash P (.ofString "locals"), (.str (.ofString "locals") 35), (.builtin "locals")⟩ :: ⟨keyHash P (.ofString "max"), (.str (.ofString "max") 36), (.builtin "max")⟩ :: ⟨keyHash P (.ofString "min"), (.str (.ofString "min") 37), (.builtin "min")⟩ :: ⟨keyHash P (.ofString "next"), (.str (.ofString "next") 38), (.builtin "next")⟩ :: ⟨keyHash P (.ofString "anext"), (.str (.ofString "anext") 39), (.builtin "anext")⟩ :: ⟨keyHash P (.ofString "oct"), (.str (.ofString "oct") 40), (.builtin "oct")⟩ :: r
noncomputable def e4 (P : Params) (r : List DictEntry) : List DictEntry := ⟨keyHash P (.ofString "ord"), (.str (.ofString "ord") 41), (.builtin "ord")⟩ :: ⟨keyHash P (.ofString "pow"), (.str (.ofString "pow") 42), (.builtin "pow")⟩ :: ⟨keyHash P (.ofString "print"), (.str (.ofString "print") 43), (.builtin "print")⟩ :: ⟨keyHash P (.ofString "repr"), (.str (.ofString "repr") 44), (.builtin "repr")⟩ :: ⟨keyHash P (.ofString "round"), (.str (.ofString "round") 45), (.builtin "round")⟩ :: ⟨keyHash P (.ofString "setattr"), (.str (.ofString "setattr") 46), (.builtin "setattr")⟩ :: ⟨keyHash P (.ofString "sorted"), (.str (.ofString "sorted") 47), (.builtin "sorted")⟩ :: ⟨keyHash P (.ofString "sum"), (.str (.ofString "sum") 48), (.builtin "sum")⟩ :: ⟨keyHash P (.ofString "vars"), (.str (.ofString "vars") 49), (.builtin "vars")⟩ :: ⟨keyHash P (.ofString "None"), (.str (.ofString "None") 50), .none⟩ :: r
noncomputable def e5 (P : Params) (r : List DictEntry) : List DictEntry := ⟨keyHash P (.ofString "Ellipsis"), (.str (.ofString "Ellipsis") 51), .ellipsis⟩ :: ⟨keyHash P (.ofString "NotImplemented"), (.str (.ofString "NotImplemented") 52), .notImplemented⟩ :: ⟨keyHash P (.ofString "False"), (.str (.ofString "False") 53), (.bool false)⟩ :: ⟨keyHash P (.ofString "True"), (.str (.ofString "True") 54), (.bool true)⟩ :: ⟨keyHash P (.ofString "bool"), (.str (.ofString "bool") 55), (.type "bool")⟩ :: ⟨keyHash P (.ofString "memoryview"), (.str (.ofString "memoryview") 56), (.type "memoryview")⟩ :: ⟨keyHash P (.ofString "bytearray"), (.str (.ofString "bytearray") 57), (.type "bytearray")⟩ :: ⟨keyHash P (.ofString "bytes"), (.str (.ofString "bytes") 58), (.type "bytes")⟩ :: ⟨keyHash P (.ofString "classmethod"), (.str (.ofString "classmethod") 59), (.type "classmethod")⟩ :: ⟨keyHash P (.ofString "complex"), (.str (.ofString "complex") 60), (.type "complex")⟩ :: r
noncomputable def e6 (P : Params) (r : List DictEntry) : List DictEntry := ⟨keyHash P (.ofString "dict"), (.str (.ofString "dict") 61), (.type "dict")⟩ :: ⟨keyHash P (.ofString "enumerate"), (.str (.ofString "enumerate") 62), (.type "enumerate")⟩ :: ⟨keyHash P (.ofString "filter"), (.str (.ofString "filter") 63), (.type "filter")⟩ :: ⟨keyHash P (.ofString "float"), (.str (.ofString "float") 64), (.type "float")⟩ :: ⟨keyHash P (.ofString "frozenset"), (.str (.ofString "frozenset") 65), (.type "frozenset")⟩ :: ⟨keyHash P (.ofString "property"), (.str (.ofString "property") 66), (.type "property")⟩ :: ⟨keyHash P (.ofString "int"), (.str (.ofString "int") 67), (.type "int")⟩ :: ⟨keyHash P (.ofString "list"), (.str (.ofString "list") 68), (.type "list")⟩ :: ⟨keyHash P (.ofString "map"), (.str (.ofString "map") 69), (.type "map")⟩ :: ⟨keyHash P (.ofString "object"), (.str (.ofString "object") 70), (.type "object")⟩ :: r
noncomputable def e7 (P : Params) (r : List DictEntry) : List DictEntry := ⟨keyHash P (.ofString "range"), (.str (.ofString "range") 71), (.type "range")⟩ :: ⟨keyHash P (.ofString "reversed"), (.str (.ofString "reversed") 72), (.type "reversed")⟩ :: ⟨keyHash P (.ofString "set"), (.str (.ofString "set") 73), (.type "set")⟩ :: ⟨keyHash P (.ofString "slice"), (.str (.ofString "slice") 74), (.type "slice")⟩ :: ⟨keyHash P (.ofString "staticmethod"), (.str (.ofString "staticmethod") 75), (.type "staticmethod")⟩ :: ⟨keyHash P (.ofString "str"), (.str (.ofString "str") 76), (.type "str")⟩ :: ⟨keyHash P (.ofString "super"), (.str (.ofString "super") 77), (.type "super")⟩ :: ⟨keyHash P (.ofString "tuple"), (.str (.ofString "tuple") 78), (.type "tuple")⟩ :: ⟨keyHash P (.ofString "type"), (.str (.ofString "type") 79), (.type "type")⟩ :: ⟨keyHash P (.ofString "zip"), (.str (.ofString "zip") 80), (.type "zip")⟩ :: r
noncomputable def e8 (P : Params) (r : List DictEntry) : List DictEntry := ⟨keyHash P (.ofString "__debug__"), (.str (.ofString "__debug__") 81), (.bool true)⟩ :: ⟨keyHash P (.ofString "BaseException"), (.str (.ofString "BaseException") 82), (.type "BaseException")⟩ :: ⟨keyHash P (.ofString "BaseExceptionGroup"), (.str (.ofString "BaseExceptionGroup") 83), (.type "BaseExceptionGroup")⟩ :: ⟨keyHash P (.ofString "Exception"), (.str (.ofString "Exception") 84), (.type "Exception")⟩ :: ⟨keyHash P (.ofString "GeneratorExit"), (.str (.ofString "GeneratorExit") 85), (.type "GeneratorExit")⟩ :: ⟨keyHash P (.ofString "KeyboardInterrupt"), (.str (.ofString "KeyboardInterrupt") 86), (.type "KeyboardInterrupt")⟩ :: ⟨keyHash P (.ofString "SystemExit"), (.str (.ofString "SystemExit") 87), (.type "SystemExit")⟩ :: ⟨keyHash P (.ofString "ArithmeticError"), (.str (.ofString "ArithmeticError") 88), (.type "ArithmeticError")⟩ :: ⟨keyHash P (.ofString "AssertionError"), (.str (.ofString "AssertionError") 89), (.type "AssertionError")⟩ :: ⟨keyHash P (.ofString "AttributeError"), (.str (.ofString "AttributeError") 90), (.type "AttributeError")⟩ :: r
noncomputable def e9 (P : Params) (r : List DictEntry) : List DictEntry := ⟨keyHash P (.ofString "BufferError"), (.str (.ofString "BufferError") 91), (.type "BufferError")⟩ :: ⟨keyHash P (.ofString "EOFError"), (.str (.ofString "EOFError") 92), (.type "EOFError")⟩ :: ⟨keyHash P (.ofString "ImportError"), (.str (.ofString "ImportError") 93), (.type "ImportError")⟩ :: ⟨keyHash P (.ofString "LookupError"), (.str (.ofString "LookupError") 94), (.type "LookupError")⟩ :: ⟨keyHash P (.ofString "MemoryError"), (.str (.ofString "MemoryError") 95), (.type "MemoryError")⟩ :: ⟨keyHash P (.ofString "NameError"), (.str (.ofString "NameError") 96), (.type "NameError")⟩ :: ⟨keyHash P (.ofString "OSError"), (.str (.ofString "OSError") 97), (.type "OSError")⟩ :: ⟨keyHash P (.ofString "ReferenceError"), (.str (.ofString "ReferenceError") 98), (.type "ReferenceError")⟩ :: ⟨keyHash P (.ofString "RuntimeError"), (.str (.ofString "RuntimeError") 99), (.type "RuntimeError")⟩ :: ⟨keyHash P (.ofString "StopAsyncIteration"), (.str (.ofString "StopAsyncIteration") 100), (.type "StopAsyncIteration")⟩ :: r
noncomputable def e10 (P : Params) (r : List DictEntry) : List DictEntry := ⟨keyHash P (.ofString "StopIteration"), (.str (.ofString "StopIteration") 101), (.type "StopIteration")⟩ :: ⟨keyHash P (.ofString "SyntaxError"), (.str (.ofString "SyntaxError") 102), (.type "SyntaxError")⟩ :: ⟨keyHash P (.ofString "SystemError"), (.str (.ofString "SystemError") 103), (.type "SystemError")⟩ :: ⟨keyHash P (.ofString "TypeError"), (.str (.ofString "TypeError") 104), (.type "TypeError")⟩ :: ⟨keyHash P (.ofString "ValueError"), (.str (.ofString "ValueError") 105), (.type "ValueError")⟩ :: ⟨keyHash P (.ofString "Warning"), (.str (.ofString "Warning") 106), (.type "Warning")⟩ :: ⟨keyHash P (.ofString "FloatingPointError"), (.str (.ofString "FloatingPointError") 107), (.type "FloatingPointError")⟩ :: ⟨keyHash P (.ofString "OverflowError"), (.str (.ofString "OverflowError") 108), (.type "OverflowError")⟩ :: ⟨keyHash P (.ofString "ZeroDivisionError"), (.str (.ofString "ZeroDivisionError") 109), (.type "ZeroDivisionError")⟩ :: ⟨keyHash P (.ofString "BytesWarning"), (.str (.ofString "BytesWarning") 110), (.type "BytesWarning")⟩ :: r
noncomputable def e11 (P : Params) (r : List DictEntry) : List DictEntry := ⟨keyHash P (.ofString "DeprecationWarning"), (.str (.ofString "DeprecationWarning") 111), (.type "DeprecationWarning")⟩ :: ⟨keyHash P (.ofString "EncodingWarning"), (.str (.ofString "EncodingWarning") 112), (.type "EncodingWarning")⟩ :: ⟨keyHash P (.ofString "FutureWarning"), (.str (.ofString "FutureWarning") 113), (.type "FutureWarning")⟩ :: ⟨keyHash P (.ofString "ImportWarning"), (.str (.ofString "ImportWarning") 114), (.type "ImportWarning")⟩ :: ⟨keyHash P (.ofString "PendingDeprecationWarning"), (.str (.ofString "PendingDeprecationWarning") 115), (.type "PendingDeprecationWarning")⟩ :: ⟨keyHash P (.ofString "ResourceWarning"), (.str (.ofString "ResourceWarning") 116), (.type "ResourceWarning")⟩ :: ⟨keyHash P (.ofString "RuntimeWarning"), (.str (.ofString "RuntimeWarning") 117), (.type "RuntimeWarning")⟩ :: ⟨keyHash P (.ofString "SyntaxWarning"), (.str (.ofString "SyntaxWarning") 118), (.type "SyntaxWarning")⟩ :: ⟨keyHash P (.ofString "UnicodeWarning"), (.str (.ofString "UnicodeWarning") 119), (.type "UnicodeWarning")⟩ :: ⟨keyHash P (.ofString "UserWarning"), (.str (.ofString "UserWarning") 120), (.type "UserWarning")⟩ :: r
noncomputable def e12 (P : Params) (r : List DictEntry) : List DictEntry := ⟨keyHash P (.ofString "BlockingIOError"), (.str (.ofString "BlockingIOError") 121), (.type "BlockingIOError")⟩ :: ⟨keyHash P (.ofString "ChildProcessError"), (.str (.ofString "ChildProcessError") 122), (.type "ChildProcessError")⟩ :: ⟨keyHash P (.ofString "ConnectionError"), (.str (.ofString "ConnectionError") 123), (.type "ConnectionError")⟩ :: ⟨keyHash P (.ofString "FileExistsError"), (.str (.ofString "FileExistsError") 124), (.type "FileExistsError")⟩ :: ⟨keyHash P (.ofString "FileNotFoundError"), (.str (.ofString "FileNotFoundError") 125), (.type "FileNotFoundError")⟩ :: ⟨keyHash P (.ofString "InterruptedError"), (.str (.ofString "InterruptedError") 126), (.type "InterruptedError")⟩ :: ⟨keyHash P (.ofString "IsADirectoryError"), (.str (.ofString "IsADirectoryError") 127), (.type "IsADirectoryError")⟩ :: ⟨keyHash P (.ofString "NotADirectoryError"), (.str (.ofString "NotADirectoryError") 128), (.type "NotADirectoryError")⟩ :: ⟨keyHash P (.ofString "PermissionError"), (.str (.ofString "PermissionError") 129), (.type "PermissionError")⟩ :: ⟨keyHash P (.ofString "ProcessLookupError"), (.str (.ofString "ProcessLookupError") 130), (.type "ProcessLookupError")⟩ :: r
noncomputable def e13 (P : Params) (r : List DictEntry) : List DictEntry := ⟨keyHash P (.ofString "TimeoutError"), (.str (.ofString "TimeoutError") 131), (.type "TimeoutError")⟩ :: ⟨keyHash P (.ofString "IndentationError"), (.str (.ofString "IndentationError") 132), (.type "IndentationError")⟩ :: ⟨keyHash P (.ofString "_IncompleteInputError"), (.str (.ofString "_IncompleteInputError") 133), (.type "_IncompleteInputError")⟩ :: ⟨keyHash P (.ofString "IndexError"), (.str (.ofString "IndexError") 134), (.type "IndexError")⟩ :: ⟨keyHash P (.ofString "KeyError"), (.str (.ofString "KeyError") 135), (.type "KeyError")⟩ :: ⟨keyHash P (.ofString "ModuleNotFoundError"), (.str (.ofString "ModuleNotFoundError") 136), (.type "ModuleNotFoundError")⟩ :: ⟨keyHash P (.ofString "NotImplementedError"), (.str (.ofString "NotImplementedError") 137), (.type "NotImplementedError")⟩ :: ⟨keyHash P (.ofString "PythonFinalizationError"), (.str (.ofString "PythonFinalizationError") 138), (.type "PythonFinalizationError")⟩ :: ⟨keyHash P (.ofString "RecursionError"), (.str (.ofString "RecursionError") 139), (.type "RecursionError")⟩ :: ⟨keyHash P (.ofString "UnboundLocalError"), (.str (.ofString "UnboundLocalError") 140), (.type "UnboundLocalError")⟩ :: r
noncomputable def e14 (P : Params) (r : List DictEntry) : List DictEntry := ⟨keyHash P (.ofString "UnicodeError"), (.str (.ofString "UnicodeError") 141), (.type "UnicodeError")⟩ :: ⟨keyHash P (.ofString "BrokenPipeError"), (.str (.ofString "BrokenPipeError") 142), (.type "BrokenPipeError")⟩ :: ⟨keyHash P (.ofString "ConnectionAbortedError"), (.str (.ofString "ConnectionAbortedError") 143), (.type "ConnectionAbortedError")⟩ :: ⟨keyHash P (.ofString "ConnectionRefusedError"), (.str (.ofString "ConnectionRefusedError") 144), (.type "ConnectionRefusedError")⟩ :: ⟨keyHash P (.ofString "ConnectionResetError"), (.str (.ofString "ConnectionResetError") 145), (.type "ConnectionResetError")⟩ :: ⟨keyHash P (.ofString "TabError"), (.str (.ofString "TabError") 146), (.type "TabError")⟩ :: ⟨keyHash P (.ofString "UnicodeDecodeError"), (.str (.ofString "UnicodeDecodeError") 147), (.type "UnicodeDecodeError")⟩ :: ⟨keyHash P (.ofString "UnicodeEncodeError"), (.str (.ofString "UnicodeEncodeError") 148), (.type "UnicodeEncodeError")⟩ :: ⟨keyHash P (.ofString "UnicodeTranslateError"), (.str (.ofString "UnicodeTranslateError") 149), (.type "UnicodeTranslateError")⟩ :: ⟨keyHash P (.ofString "ExceptionGroup"), (.str (.ofString "ExceptionGroup") 150), (.type "ExceptionGroup")⟩ :: r
noncomputable def e15 (P : Params) (r : List DictEntry) : List DictEntry := ⟨keyHash P (.ofString "EnvironmentError"), (.str (.ofString "EnvironmentError") 151), (.type "OSError")⟩ :: ⟨keyHash P (.ofString "IOError"), (.str (.ofString "IOError") 152), (.type "OSError")⟩ :: ⟨keyHash P (.ofString "open"), (.str (.ofString "open") 153), (.builtin "open")⟩ :: ⟨keyHash P (.ofString "quit"), (.str (.ofString "quit") 154), (.builtin "builtins.quit#opaque")⟩ :: ⟨keyHash P (.ofString "exit"), (.str (.ofString "exit") 155), (.builtin "builtins.exit#opaque")⟩ :: ⟨keyHash P (.ofString "copyright"), (.str (.ofString "copyright") 156), (.builtin "builtins.copyright#opaque")⟩ :: ⟨keyHash P (.ofString "credits"), (.str (.ofString "credits") 157), (.builtin "builtins.credits#opaque")⟩ :: ⟨keyHash P (.ofString "license"), (.str (.ofString "license") 158), (.builtin "builtins.license#opaque")⟩ :: ⟨keyHash P (.ofString "help"), (.str (.ofString "help") 159), (.builtin "builtins.help#opaque")⟩ :: r
noncomputable def o0_e (P : Params) : Obj := ⟨(.type "dict"), none, (.dict (e0 P (e1 P (e2 P (e3 P (e4 P (e5 P (e6 P (e7 P (e8 P (e9 P (e10 P (e11 P (e12 P (e13 P (e14 P (e15 P [])))))))))))))))).toArray 159), #[]⟩
noncomputable def o1_e (P : Params) : Obj := ⟨(.type "dict"), none, (.dict #[⟨keyHash P (.ofString "builtins"), (.str (.ofString "builtins") 162), (.ref 4)⟩, ⟨keyHash P (.ofString "__main__"), (.str (.ofString "__main__") 163), (.ref 5)⟩, ⟨keyHash P (.ofString "_sre"), (.str (.ofString "_sre") 244), (.ref 12)⟩] 3), #[]⟩
noncomputable def o2_e (P : Params) : Obj := ⟨.none, none, (.dict #[⟨keyHash P (.ofString "\x69mport.loaded._sre"), (.str (.ofString "\x69mport.loaded._sre") 183), (.bool true)⟩, ⟨keyHash P (.ofString "class._frozen_importlib.BuiltinImporter"), (.str (.ofString "class._frozen_importlib.BuiltinImporter") 185), (.ref 14)⟩, ⟨keyHash P (.ofString "watched.\x69mport"), (.str (.ofString "watched.\x69mport") 206), (.ref 18)⟩, ⟨keyHash P (.ofString "class._frozen_importlib.ModuleSpec"), (.str (.ofString "class._frozen_importlib.ModuleSpec") 216), (.ref 22)⟩, ⟨keyHash P (.ofString "sys.modules.booked-epoch"), (.str (.ofString "sys.modules.booked-epoch") 245), (.int 3 0)⟩, ⟨keyHash P (.ofString "\x69mport.later-laid._sre"), (.str (.ofString "\x69mport.later-laid._sre") 270), (.bool true)⟩, ⟨keyHash P (.ofString "watched.library"), (.str (.ofString "watched.library") 272), (.ref 27)⟩, ⟨keyHash P (.ofString "watched.library-objects"), (.str (.ofString "watched.library-objects") 0), (.str (.ofString "\x0c") 0)⟩, ⟨keyHash P (.ofString "watched.library-deep._sre"), (.str (.ofString "watched.library-deep._sre") 273), (.str (.ofString "\x04\x00\x00\x0b\x04\x00\x00\x0b\x04\x00\x00\x03\x04\x00\x00\x0b\x08\x04dict\x02") 0)⟩] 9), #[]⟩
noncomputable def o3_e (P : Params) : Obj := ⟨(.type "dict"), none, (.dict #[⟨keyHash P (.ofString "__name__"), (.str (.ofString "__name__") 165), (.str (.ofString "__main__") 164)⟩, ⟨keyHash P (.ofString "__doc__"), (.str (.ofString "__doc__") 166), .none⟩, ⟨keyHash P (.ofString "__package__"), (.str (.ofString "__package__") 167), .none⟩, ⟨keyHash P (.ofString "__loader__"), (.str (.ofString "__loader__") 168), (.builtin "__main__.__loader__#opaque")⟩, ⟨keyHash P (.ofString "__spec__"), (.str (.ofString "__spec__") 169), .none⟩, ⟨keyHash P (.ofString "__annotations__"), (.str (.ofString "__annotations__") 170), (.ref 6)⟩, ⟨keyHash P (.ofString "__builtins__"), (.str (.ofString "__builtins__") 171), (.ref 4)⟩, ⟨keyHash P (.ofString "__file__"), (.str (.ofString "__file__") 173), (.str (.ofString "/claim/cut.py") 172)⟩, ⟨keyHash P (.ofString "__cached__"), (.str (.ofString "__cached__") 174), .none⟩, ⟨keyHash P (.ofString "_sre"), (.str (.ofString "_sre") 275), (.ref 12)⟩] 10), #[]⟩
noncomputable def o4_e (P : Params) : Obj := ⟨(.type "module"), (some 0), .plain, #[]⟩
noncomputable def o5_e (P : Params) : Obj := ⟨(.type "module"), (some 3), .plain, #[]⟩
noncomputable def o6_e (P : Params) : Obj := ⟨(.type "dict"), none, (.dict #[] 0), #[]⟩
noncomputable def o7_e (P : Params) : Obj := ⟨(.type "tuple"), none, (.seq #[] 0), #[]⟩
noncomputable def o8_e (P : Params) : Obj := ⟨.none, none, (.fields #[]), #[]⟩
noncomputable def o9_e (P : Params) : Obj := ⟨(.type "code"), none, (.fields #[(.str (.ofString "<module>") 176), (.str (.ofString "<module>") 177), (.str (.ofString "/claim/cut.py") 178), (.int 1 0), (.int 0 0), (.int 0 0), (.int 0 0), (.int 0 0), (.ref 7), (.bool false), (.int 175 0), (.ref 8), .none, .none, .none, .none, (.int 179 0), (.int 1 0), (.str (.ofString "/claim/cut.py") 180)]), #[]⟩
noncomputable def o10_e (P : Params) : Obj := ⟨(.type "frame"), none, .plain, #[(some (.ref 9)), (some (.ref 3)), (some (.ref 3)), none, (some (.str (.ofString "__main__") 164)), none, (some (.ref 0))]⟩
noncomputable def e16 (P : Params) (r : List DictEntry) : List DictEntry := ⟨keyHash P (.ofString "__name__"), (.str (.ofString "__name__") 247), (.str (.ofString "_sre") 246)⟩ :: ⟨keyHash P (.ofString "__doc__"), (.str (.ofString "__doc__") 248), .none⟩ :: ⟨keyHash P (.ofString "__package__"), (.str (.ofString "__package__") 250), (.str (.ofString "") 249)⟩ :: ⟨keyHash P (.ofString "__loader__"), (.str (.ofString "__loader__") 251), (.ref 14)⟩ :: ⟨keyHash P (.ofString "__spec__"), (.str (.ofString "__spec__") 252), (.ref 26)⟩ :: ⟨keyHash P (.ofString "compile"), (.str (.ofString "compile") 253), (.builtin "_sre.compile")⟩ :: ⟨keyHash P (.ofString "template"), (.str (.ofString "template") 254), (.builtin "_sre.template")⟩ :: ⟨keyHash P (.ofString "getcodesize"), (.str (.ofString "getcodesize") 255), (.builtin "_sre.getcodesize")⟩ :: ⟨keyHash P (.ofString "ascii_iscased"), (.str (.ofString "ascii_iscased") 256), (.builtin "_sre.ascii_iscased")⟩ :: ⟨keyHash P (.ofString "unicode_iscased"), (.str (.ofString "unicode_iscased") 257), (.builtin "_sre.unicode_iscased")⟩ :: r
noncomputable def e17 (P : Params) (r : List DictEntry) : List DictEntry := ⟨keyHash P (.ofString "ascii_tolower"), (.str (.ofString "ascii_tolower") 258), (.builtin "_sre.ascii_tolower")⟩ :: ⟨keyHash P (.ofString "unicode_tolower"), (.str (.ofString "unicode_tolower") 259), (.builtin "_sre.unicode_tolower")⟩ :: ⟨keyHash P (.ofString "MAGIC"), (.str (.ofString "MAGIC") 261), (.int 20230612 260)⟩ :: ⟨keyHash P (.ofString "CODESIZE"), (.str (.ofString "CODESIZE") 263), (.int 4 262)⟩ :: ⟨keyHash P (.ofString "MAXREPEAT"), (.str (.ofString "MAXREPEAT") 265), (.int 4294967295 264)⟩ :: ⟨keyHash P (.ofString "MAXGROUPS"), (.str (.ofString "MAXGROUPS") 267), (.int 1073741823 266)⟩ :: ⟨keyHash P (.ofString "copyright"), (.str (.ofString "copyright") 269), (.str (.ofString " SRE 2.2.2 Copyright (c) 1997-2002 by Secret Labs AB ") 268)⟩ :: r
noncomputable def o11_e (P : Params) : Obj := ⟨(.type "dict"), none, (.dict (e16 P (e17 P [])).toArray 17), #[]⟩
noncomputable def o12_e (P : Params) : Obj := ⟨(.type "module"), (some 11), .plain, #[]⟩
noncomputable def e18 (P : Params) (r : List DictEntry) : List DictEntry := ⟨keyHash P (.ofString "__module__"), (.str (.ofString "__module__") 189), (.str (.ofString "_frozen_importlib") 186)⟩ :: ⟨keyHash P (.ofString "__firstlineno__"), (.str (.ofString "__firstlineno__") 190), (.int 971 187)⟩ :: ⟨keyHash P (.ofString "__doc__"), (.str (.ofString "__doc__") 191), (.builtin "_frozen_importlib.BuiltinImporter.__doc__:str#opaque")⟩ :: ⟨keyHash P (.ofString "_ORIGIN"), (.str (.ofString "_ORIGIN") 192), (.str (.ofString "built-in") 188)⟩ :: ⟨keyHash P (.ofString "find_spec"), (.str (.ofString "find_spec") 193), (.builtin "_frozen_importlib.BuiltinImporter.find_spec#opaque")⟩ :: ⟨keyHash P (.ofString "create_module"), (.str (.ofString "create_module") 194), (.builtin "_frozen_importlib.BuiltinImporter.create_module#opaque")⟩ :: ⟨keyHash P (.ofString "exec_module"), (.str (.ofString "exec_module") 195), (.builtin "_frozen_importlib.BuiltinImporter.exec_module#opaque")⟩ :: ⟨keyHash P (.ofString "get_code"), (.str (.ofString "get_code") 196), (.builtin "_frozen_importlib.BuiltinImporter.get_code#opaque")⟩ :: ⟨keyHash P (.ofString "get_source"), (.str (.ofString "get_source") 197), (.builtin "_frozen_importlib.BuiltinImporter.get_source#opaque")⟩ :: ⟨keyHash P (.ofString "is_package"), (.str (.ofString "is_package") 198), (.builtin "_frozen_importlib.BuiltinImporter.is_package#opaque")⟩ :: r
noncomputable def e19 (P : Params) (r : List DictEntry) : List DictEntry := ⟨keyHash P (.ofString "load_module"), (.str (.ofString "load_module") 199), (.builtin "_frozen_importlib.BuiltinImporter.load_module#opaque")⟩ :: ⟨keyHash P (.ofString "__static_attributes__"), (.str (.ofString "__static_attributes__") 200), (.ref 15)⟩ :: ⟨keyHash P (.ofString "__dict__"), (.str (.ofString "__dict__") 202), (.ref 16)⟩ :: ⟨keyHash P (.ofString "__weakref__"), (.str (.ofString "__weakref__") 204), (.ref 17)⟩ :: r
noncomputable def o13_e (P : Params) : Obj := ⟨(.type "dict"), none, (.dict (e18 P (e19 P [])).toArray 14), #[]⟩
noncomputable def o14_e (P : Params) : Obj := ⟨(.type "type"), none, (.cls ⟨(.ofString "BuiltinImporter"), [(.type "object")], [(.ref 14), (.type "object")], 13, (.ofString "BuiltinImporter"), true, [], [], false, none, false⟩), #[]⟩
noncomputable def o15_e (P : Params) : Obj := ⟨(.type "tuple"), none, (.seq #[] 0), #[]⟩
noncomputable def o16_e (P : Params) : Obj := ⟨(.type "getset_descriptor"), none, (.fields #[(.str (.ofString "__dict__") 201), (.ref 14), (.builtin "function.__dict__"), (.builtin "function.__dict__#set")]), #[]⟩
noncomputable def o17_e (P : Params) : Obj := ⟨(.type "getset_descriptor"), none, (.fields #[(.str (.ofString "__weakref__") 203), (.ref 14), (.builtin "ExceptionGroup.__weakref__"), .none]), #[]⟩
noncomputable def o18_e (P : Params) : Obj := ⟨.none, none, (.seq #[(.int 13 0), (.str (.ofString "\x06\xbd\x0a__module__\x06\xba\x11_frozen_importlib\x06\xbe\x0f__firstlineno__\x04\xbb\x00\u03cb\x06\xbf\x07__doc__\x094_frozen_importlib.BuiltinImporter.__doc__:str#opaque\x06\xc0\x07_ORIGIN\x06\xbc\x08built-in\x06\xc1\x09find_spec\x092_frozen_importlib.BuiltinImporter.find_spec#opaque\x06\xc2\x0dcreate_module\x096_frozen_importlib.BuiltinImporter.create_module#opaque\x06\xc3\x0bexec_module\x094_frozen_importlib.BuiltinImporter.exec_module#opaque\x06\xc4\x08get_code\x091_frozen_importlib.BuiltinImporter.get_code#opaque\x06\xc5\x0aget_source\x093_frozen_importlib.BuiltinImporter.get_source#opaque\x06\xc6\x0ais_package\x093_frozen_importlib.BuiltinImporter.is_package#opaque\x06\xc7\x0bload_module\x094_frozen_importlib.BuiltinImporter.load_module#opaque\x06\xc8\x15__static_attributes__\x04\x00\x00\x0f\x06\xca\x08__dict__\x04\x00\x00\x10\x06\xcc\x0b__weakref__\x04\x00\x00\x11") 0), (.bool true), (.bool true), (.str (.ofString "") 205), (.int 21 0), (.str (.ofString "\x06\xe3\x0a__module__\x06\xd9\x11_frozen_importlib\x06\xe4\x0f__firstlineno__\x04\xda\x00\u0232\x06\xe5\x07__doc__\x09/_frozen_importlib.ModuleSpec.__doc__:str#opaque\x06\xe6\x08__init__\x09,_frozen_importlib.ModuleSpec.__init__#opaque\x06\xe7\x08__repr__\x09,_frozen_importlib.ModuleSpec.__repr__#opaque\x06\xe8\x06__eq__\x09*_frozen_importlib.ModuleSpec.__eq__#opaque\x06\xe9\x06cached\x09*_frozen_importlib.ModuleSpec.cached#opaque\x06\xea\x06parent\x09*_frozen_importlib.ModuleSpec.parent#opaque\x06\xeb\x0chas_location\x090_frozen_importlib.ModuleSpec.has_location#opaque\x06\xec\x15__static_attributes__\x04\x00\x00\x17\x06\xee\x08__dict__\x04\x00\x00\x18\x06\xf0\x0b__weakref__\x04\x00\x00\x19\x06\xf1\x08__hash__\x00") 0), (.bool true), (.bool true), (.str (.ofString "") 242)] 1), #[]⟩
noncomputable def o19_e (P : Params) : Obj := ⟨(.type "list"), none, (.seq #[] 0), #[]⟩
noncomputable def o20_e (P : Params) : Obj := ⟨(.type "dict"), none, (.dict #[⟨keyHash P (.ofString "name"), (.str (.ofString "name") 208), (.str (.ofString "_sre") 207)⟩, ⟨keyHash P (.ofString "loader"), (.str (.ofString "loader") 209), (.ref 14)⟩, ⟨keyHash P (.ofString "origin"), (.str (.ofString "origin") 210), (.str (.ofString "built-in") 184)⟩, ⟨keyHash P (.ofString "loader_state"), (.str (.ofString "loader_state") 211), .none⟩, ⟨keyHash P (.ofString "submodule_search_locations"), (.str (.ofString "submodule_search_locations") 212), .none⟩, ⟨keyHash P (.ofString "_uninitialized_submodules"), (.str (.ofString "_uninitialized_submodules") 213), (.ref 19)⟩, ⟨keyHash P (.ofString "_set_fileattr"), (.str (.ofString "_set_fileattr") 214), (.bool false)⟩, ⟨keyHash P (.ofString "_cached"), (.str (.ofString "_cached") 215), .none⟩, ⟨keyHash P (.ofString "_initializing"), (.str (.ofString "_initializing") 243), (.bool false)⟩] 9), #[]⟩
noncomputable def e20 (P : Params) (r : List DictEntry) : List DictEntry := ⟨keyHash P (.ofString "__module__"), (.str (.ofString "__module__") 227), (.str (.ofString "_frozen_importlib") 217)⟩ :: ⟨keyHash P (.ofString "__firstlineno__"), (.str (.ofString "__firstlineno__") 228), (.int 562 218)⟩ :: ⟨keyHash P (.ofString "__doc__"), (.str (.ofString "__doc__") 229), (.builtin "_frozen_importlib.ModuleSpec.__doc__:str#opaque")⟩ :: ⟨keyHash P (.ofString "__init__"), (.str (.ofString "__init__") 230), (.builtin "_frozen_importlib.ModuleSpec.__init__#opaque")⟩ :: ⟨keyHash P (.ofString "__repr__"), (.str (.ofString "__repr__") 231), (.builtin "_frozen_importlib.ModuleSpec.__repr__#opaque")⟩ :: ⟨keyHash P (.ofString "__eq__"), (.str (.ofString "__eq__") 232), (.builtin "_frozen_importlib.ModuleSpec.__eq__#opaque")⟩ :: ⟨keyHash P (.ofString "cached"), (.str (.ofString "cached") 233), (.builtin "_frozen_importlib.ModuleSpec.cached#opaque")⟩ :: ⟨keyHash P (.ofString "parent"), (.str (.ofString "parent") 234), (.builtin "_frozen_importlib.ModuleSpec.parent#opaque")⟩ :: ⟨keyHash P (.ofString "has_location"), (.str (.ofString "has_location") 235), (.builtin "_frozen_importlib.ModuleSpec.has_location#opaque")⟩ :: ⟨keyHash P (.ofString "__static_attributes__"), (.str (.ofString "__static_attributes__") 236), (.ref 23)⟩ :: r
noncomputable def e21 (P : Params) (r : List DictEntry) : List DictEntry := ⟨keyHash P (.ofString "__dict__"), (.str (.ofString "__dict__") 238), (.ref 24)⟩ :: ⟨keyHash P (.ofString "__weakref__"), (.str (.ofString "__weakref__") 240), (.ref 25)⟩ :: ⟨keyHash P (.ofString "__hash__"), (.str (.ofString "__hash__") 241), .none⟩ :: r
noncomputable def o21_e (P : Params) : Obj := ⟨(.type "dict"), none, (.dict (e20 P (e21 P [])).toArray 13), #[]⟩
noncomputable def o22_e (P : Params) : Obj := ⟨(.type "type"), none, (.cls ⟨(.ofString "ModuleSpec"), [(.type "object")], [(.ref 22), (.type "object")], 21, (.ofString "ModuleSpec"), true, [], [], false, none, false⟩), #[]⟩
noncomputable def o23_e (P : Params) : Obj := ⟨(.type "tuple"), none, (.seq #[(.str (.ofString "_cached") 219), (.str (.ofString "_set_fileattr") 220), (.str (.ofString "_uninitialized_submodules") 221), (.str (.ofString "loader") 222), (.str (.ofString "loader_state") 223), (.str (.ofString "name") 224), (.str (.ofString "origin") 225), (.str (.ofString "submodule_search_locations") 226)] 0), #[]⟩
noncomputable def o24_e (P : Params) : Obj := ⟨(.type "getset_descriptor"), none, (.fields #[(.str (.ofString "__dict__") 237), (.ref 22), (.builtin "function.__dict__"), (.builtin "function.__dict__#set")]), #[]⟩
noncomputable def o25_e (P : Params) : Obj := ⟨(.type "getset_descriptor"), none, (.fields #[(.str (.ofString "__weakref__") 239), (.ref 22), (.builtin "ExceptionGroup.__weakref__"), .none]), #[]⟩
noncomputable def o26_e (P : Params) : Obj := ⟨(.ref 22), (some 20), .plain, #[]⟩
noncomputable def o27_e (P : Params) : Obj := ⟨.none, none, (.seq #[(.int 11 0), (.str (.mk #[6, 247, 8, 95, 95, 110, 97, 109, 101, 95, 95, 6, 246, 4, 95, 115, 114, 101, 6, 248, 7, 95, 95, 100, 111, 99, 95, 95, 0, 6, 250, 11, 95, 95, 112, 97, 99, 107, 97, 103, 101, 95, 95, 6, 249, 0, 6, 251, 10, 95, 95, 108, 111, 97, 100, 101, 114, 95, 95, 4, 0, 0, 14, 6, 252, 8, 95, 95, 115, 112, 101, 99, 95, 95, 4, 0, 0, 26, 6, 253, 7, 99, 111, 109, 112, 105, 108, 101, 9, 12, 95, 115, 114, 101, 46, 99, 111, 109, 112, 105, 108, 101, 6, 254, 8, 116, 101, 109, 112, 108, 97, 116, 101, 9, 13, 95, 115, 114, 101, 46, 116, 101, 109, 112, 108, 97, 116, 101, 6, 255, 11, 103, 101, 116, 99, 111, 100, 101, 115, 105, 122, 101, 9, 16, 95, 115, 114, 101, 46, 103, 101, 116, 99, 111, 100, 101, 115, 105, 122, 101, 6, 256, 13, 97, 115, 99, 105, 105, 95, 105, 115, 99, 97, 115, 101, 100, 9, 18, 95, 115, 114, 101, 46, 97, 115, 99, 105, 105, 95, 105, 115, 99, 97, 115, 101, 100, 6, 257, 15, 117, 110, 105, 99, 111, 100, 101, 95, 105, 115, 99, 97, 115, 101, 100, 9, 20, 95, 115, 114, 101, 46, 117, 110, 105, 99, 111, 100, 101, 95, 105, 115, 99, 97, 115, 101, 100, 6, 258, 13, 97, 115, 99, 105, 105, 95, 116, 111, 108, 111, 119, 101, 114, 9, 18, 95, 115, 114, 101, 46, 97, 115, 99, 105, 105, 95, 116, 111, 108, 111, 119, 101, 114, 6, 259, 15, 117, 110, 105, 99, 111, 100, 101, 95, 116, 111, 108, 111, 119, 101, 114, 9, 20, 95, 115, 114, 101, 46, 117, 110, 105, 99, 111, 100, 101, 95, 116, 111, 108, 111, 119, 101, 114, 6, 261, 5, 77, 65, 71, 73, 67, 4, 260, 0, 20230612, 6, 263, 8, 67, 79, 68, 69, 83, 73, 90, 69, 4, 262, 0, 4, 6, 265, 9, 77, 65, 88, 82, 69, 80, 69, 65, 84, 4, 264, 0, 4294967295, 6, 267, 9, 77, 65, 88, 71, 82, 79, 85, 80, 83, 4, 266, 0, 1073741823, 6, 269, 9, 99, 111, 112, 121, 114, 105, 103, 104, 116, 6, 268, 53, 32, 83, 82, 69, 32, 50, 46, 50, 46, 50, 32, 67, 111, 112, 121, 114, 105, 103, 104, 116, 32, 40, 99, 41, 32, 49, 57, 57, 55, 45, 50, 48, 48, 50, 32, 98, 121, 32, 83, 101, 99, 114, 101, 116, 32, 76, 97, 98, 115, 32, 65, 66, 32]) 0), (.bool true), (.bool false), (.str (.ofString "_sre") 271)] 0), #[]⟩
noncomputable def H_e (P : Params) : Heap := ⟨#[o0_e P, o1_e P, o2_e P, o3_e P, o4_e P, o5_e P, o6_e P, o7_e P, o8_e P, o9_e P, o10_e P, o11_e P, o12_e P, o13_e P, o14_e P, o15_e P, o16_e P, o17_e P, o18_e P, o19_e P, o20_e P, o21_e P, o22_e P, o23_e P, o24_e P, o25_e P, o26_e P, o27_e P], life⟩
noncomputable def e22 (P : Params) (r : List DictEntry) : List DictEntry := ⟨keyHash P (.ofString "__name__"), (.str (.ofString "__name__") 247), (.str (.ofString "_sre") 246)⟩ :: ⟨keyHash P (.ofString "__doc__"), (.str (.ofString "__doc__") 248), .none⟩ :: ⟨keyHash P (.ofString "__package__"), (.str (.ofString "__package__") 250), (.str (.ofString "") 249)⟩ :: ⟨keyHash P (.ofString "__loader__"), (.str (.ofString "__loader__") 251), (.builtin "off-the-table:_sre.__loader__:shared#opaque")⟩ :: ⟨keyHash P (.ofString "__spec__"), (.str (.ofString "__spec__") 252), (.builtin "off-the-table:_sre.__spec__:shared#opaque")⟩ :: ⟨keyHash P (.ofString "compile"), (.str (.ofString "compile") 253), (.builtin "_sre.compile")⟩ :: ⟨keyHash P (.ofString "template"), (.str (.ofString "template") 254), (.builtin "off-the-table:_sre.template:shared#opaque")⟩ :: ⟨keyHash P (.ofString "getcodesize"), (.str (.ofString "getcodesize") 255), (.builtin "off-the-table:_sre.getcodesize:shared#opaque")⟩ :: ⟨keyHash P (.ofString "ascii_iscased"), (.str (.ofString "ascii_iscased") 256), (.builtin "off-the-table:_sre.ascii_iscased:shared#opaque")⟩ :: ⟨keyHash P (.ofString "unicode_iscased"), (.str (.ofString "unicode_iscased") 257), (.builtin "off-the-table:_sre.unicode_iscased:shared#opaque")⟩ :: r
noncomputable def e23 (P : Params) (r : List DictEntry) : List DictEntry := ⟨keyHash P (.ofString "ascii_tolower"), (.str (.ofString "ascii_tolower") 258), (.builtin "off-the-table:_sre.ascii_tolower:shared#opaque")⟩ :: ⟨keyHash P (.ofString "unicode_tolower"), (.str (.ofString "unicode_tolower") 259), (.builtin "off-the-table:_sre.unicode_tolower:shared#opaque")⟩ :: ⟨keyHash P (.ofString "MAGIC"), (.str (.ofString "MAGIC") 261), (.int 20230612 260)⟩ :: ⟨keyHash P (.ofString "CODESIZE"), (.str (.ofString "CODESIZE") 263), (.int 4 262)⟩ :: ⟨keyHash P (.ofString "MAXREPEAT"), (.str (.ofString "MAXREPEAT") 265), (.int 4294967295 264)⟩ :: ⟨keyHash P (.ofString "MAXGROUPS"), (.str (.ofString "MAXGROUPS") 267), (.int 1073741823 266)⟩ :: ⟨keyHash P (.ofString "copyright"), (.str (.ofString "copyright") 269), (.str (.ofString " SRE 2.2.2 Copyright (c) 1997-2002 by Secret Labs AB ") 268)⟩ :: r
noncomputable def o11_0 (P : Params) : Obj := ⟨(.type "dict"), none, (.dict (e22 P (e23 P [])).toArray 17), #[]⟩
noncomputable def H_0 (P : Params) : Heap := ⟨#[o0_e P, o1_e P, o2_e P, o3_e P, o4_e P, o5_e P, o6_e P, o7_e P, o8_e P, o9_e P, o10_e P, o11_0 P, o12_e P, o13_e P, o14_e P, o15_e P, o16_e P, o17_e P, o18_e P, o19_e P, o20_e P, o21_e P, o22_e P, o23_e P, o24_e P, o25_e P, o26_e P, o27_e P], life⟩
noncomputable def o28_a (P : Params) : Obj := ⟨(.type "tuple"), none, (.seq #[] 0), #[]⟩
noncomputable def o29_a (P : Params) : Obj := ⟨.none, none, (.fields #[]), #[]⟩
noncomputable def o30_a (P : Params) : Obj := ⟨(.type "code"), none, (.fields #[(.str (.ofString "<module>") 277), (.str (.ofString "<module>") 278), (.str (.ofString "/claim/cut.py") 279), (.int 1 0), (.int 0 0), (.int 0 0), (.int 0 0), (.int 0 0), (.ref 28), (.bool false), (.int 276 0), (.ref 29), .none, .none, .none, .none, (.int 280 0), (.int 1 0), (.str (.ofString "/claim/cut.py") 281)]), #[]⟩
noncomputable def o31_a (P : Params) : Obj := ⟨(.type "frame"), none, .plain, #[(some (.ref 30)), (some (.ref 3)), (some (.ref 3)), none, (some (.str (.ofString "__main__") 164)), none, (some (.ref 0))]⟩
noncomputable def H_a (P : Params) : Heap := ⟨#[o0_e P, o1_e P, o2_e P, o3_e P, o4_e P, o5_e P, o6_e P, o7_e P, o8_e P, o9_e P, o10_e P, o11_0 P, o12_e P, o13_e P, o14_e P, o15_e P, o16_e P, o17_e P, o18_e P, o19_e P, o20_e P, o21_e P, o22_e P, o23_e P, o24_e P, o25_e P, o26_e P, o27_e P, o28_a P, o29_a P, o30_a P, o31_a P], life⟩
noncomputable def u0 (P : Params) : BT := .node (o3_e P) (.node (o7_e P) (.node (o15_e P) (.node (o31_a P) .nil .nil) .nil) (.node (o23_e P) .nil .nil)) (.node (o11_0 P) (.node (o19_e P) .nil .nil) (.node (o27_e P) .nil .nil))
noncomputable def u1 (P : Params) : BT := .node (o5_e P) (.node (o9_e P) (.node (o17_e P) .nil .nil) (.node (o25_e P) .nil .nil)) (.node (o13_e P) (.node (o21_e P) .nil .nil) (.node (o29_a P) .nil .nil))
noncomputable def u2 (P : Params) : BT := .node (o1_e P) (u0 P) (u1 P)
noncomputable def u3 (P : Params) : BT := .node (o4_e P) (.node (o8_e P) (.node (o16_e P) .nil .nil) (.node (o24_e P) .nil .nil)) (.node (o12_e P) (.node (o20_e P) .nil .nil) (.node (o28_a P) .nil .nil))
noncomputable def u4 (P : Params) : BT := .node (o6_e P) (.node (o10_e P) (.node (o18_e P) .nil .nil) (.node (o26_e P) .nil .nil)) (.node (o14_e P) (.node (o22_e P) .nil .nil) (.node (o30_a P) .nil .nil))
noncomputable def u5 (P : Params) : BT := .node (o2_e P) (u3 P) (u4 P)
noncomputable def T_b (P : Params) : BT := (.node (o0_e P) (u2 P) (u5 P))
noncomputable def S_b (w : World) (os : OsState) : SharedT := ⟨T_b w.params, 32, life, #[], dr, 282, os⟩
noncomputable def e24 (P : Params) (r : List DictEntry) : List DictEntry := ⟨keyHash P (.ofString "__name__"), (.str (.ofString "__name__") 165), (.str (.ofString "cpy313.token") 289)⟩ :: ⟨keyHash P (.ofString "__doc__"), (.str (.ofString "__doc__") 166), .none⟩ :: ⟨keyHash P (.ofString "__package__"), (.str (.ofString "__package__") 167), .none⟩ :: ⟨keyHash P (.ofString "__loader__"), (.str (.ofString "__loader__") 168), (.builtin "__main__.__loader__#opaque")⟩ :: ⟨keyHash P (.ofString "__spec__"), (.str (.ofString "__spec__") 169), .none⟩ :: ⟨keyHash P (.ofString "__annotations__"), (.str (.ofString "__annotations__") 170), (.ref 6)⟩ :: ⟨keyHash P (.ofString "__builtins__"), (.str (.ofString "__builtins__") 171), (.ref 4)⟩ :: ⟨keyHash P (.ofString "__file__"), (.str (.ofString "__file__") 173), (.str (.ofString "/claim/cut.py") 172)⟩ :: ⟨keyHash P (.ofString "__cached__"), (.str (.ofString "__cached__") 174), .none⟩ :: ⟨keyHash P (.ofString "_sre"), (.str (.ofString "_sre") 275), (.ref 12)⟩ :: r
noncomputable def e25 (P : Params) (r : List DictEntry) : List DictEntry := ⟨keyHash P (.ofString "_wall"), (.str (.ofString "_wall") 288), (.ref 38)⟩ :: ⟨keyHash P (.ofString "ENDMARKER"), (.str (.ofString "ENDMARKER") 292), (.int 0 291)⟩ :: ⟨keyHash P (.ofString "LPAR"), (.str (.ofString "LPAR") 294), (.int 7 293)⟩ :: ⟨keyHash P (.ofString "RPAR"), (.str (.ofString "RPAR") 296), (.int 8 295)⟩ :: ⟨keyHash P (.ofString "LSQB"), (.str (.ofString "LSQB") 298), (.int 9 297)⟩ :: ⟨keyHash P (.ofString "RSQB"), (.str (.ofString "RSQB") 300), (.int 10 299)⟩ :: ⟨keyHash P (.ofString "COLON"), (.str (.ofString "COLON") 302), (.int 11 301)⟩ :: ⟨keyHash P (.ofString "COMMA"), (.str (.ofString "COMMA") 304), (.int 12 303)⟩ :: ⟨keyHash P (.ofString "SEMI"), (.str (.ofString "SEMI") 306), (.int 13 305)⟩ :: ⟨keyHash P (.ofString "PLUS"), (.str (.ofString "PLUS") 308), (.int 14 307)⟩ :: r
noncomputable def e26 (P : Params) (r : List DictEntry) : List DictEntry := ⟨keyHash P (.ofString "MINUS"), (.str (.ofString "MINUS") 310), (.int 15 309)⟩ :: ⟨keyHash P (.ofString "STAR"), (.str (.ofString "STAR") 312), (.int 16 311)⟩ :: ⟨keyHash P (.ofString "SLASH"), (.str (.ofString "SLASH") 314), (.int 17 313)⟩ :: ⟨keyHash P (.ofString "VBAR"), (.str (.ofString "VBAR") 316), (.int 18 315)⟩ :: ⟨keyHash P (.ofString "AMPER"), (.str (.ofString "AMPER") 318), (.int 19 317)⟩ :: ⟨keyHash P (.ofString "LESS"), (.str (.ofString "LESS") 320), (.int 20 319)⟩ :: ⟨keyHash P (.ofString "GREATER"), (.str (.ofString "GREATER") 322), (.int 21 321)⟩ :: ⟨keyHash P (.ofString "EQUAL"), (.str (.ofString "EQUAL") 324), (.int 22 323)⟩ :: ⟨keyHash P (.ofString "DOT"), (.str (.ofString "DOT") 326), (.int 23 325)⟩ :: ⟨keyHash P (.ofString "PERCENT"), (.str (.ofString "PERCENT") 328), (.int 24 327)⟩ :: r
noncomputable def e27 (P : Params) (r : List DictEntry) : List DictEntry := ⟨keyHash P (.ofString "LBRACE"), (.str (.ofString "LBRACE") 330), (.int 25 329)⟩ :: ⟨keyHash P (.ofString "RBRACE"), (.str (.ofString "RBRACE") 332), (.int 26 331)⟩ :: ⟨keyHash P (.ofString "EQEQUAL"), (.str (.ofString "EQEQUAL") 334), (.int 27 333)⟩ :: ⟨keyHash P (.ofString "NOTEQUAL"), (.str (.ofString "NOTEQUAL") 336), (.int 28 335)⟩ :: ⟨keyHash P (.ofString "LESSEQUAL"), (.str (.ofString "LESSEQUAL") 338), (.int 29 337)⟩ :: ⟨keyHash P (.ofString "GREATEREQUAL"), (.str (.ofString "GREATEREQUAL") 340), (.int 30 339)⟩ :: ⟨keyHash P (.ofString "TILDE"), (.str (.ofString "TILDE") 342), (.int 31 341)⟩ :: ⟨keyHash P (.ofString "CIRCUMFLEX"), (.str (.ofString "CIRCUMFLEX") 344), (.int 32 343)⟩ :: ⟨keyHash P (.ofString "LEFTSHIFT"), (.str (.ofString "LEFTSHIFT") 346), (.int 33 345)⟩ :: ⟨keyHash P (.ofString "RIGHTSHIFT"), (.str (.ofString "RIGHTSHIFT") 348), (.int 34 347)⟩ :: r
noncomputable def e28 (P : Params) (r : List DictEntry) : List DictEntry := ⟨keyHash P (.ofString "DOUBLESTAR"), (.str (.ofString "DOUBLESTAR") 350), (.int 35 349)⟩ :: ⟨keyHash P (.ofString "PLUSEQUAL"), (.str (.ofString "PLUSEQUAL") 352), (.int 36 351)⟩ :: ⟨keyHash P (.ofString "MINEQUAL"), (.str (.ofString "MINEQUAL") 354), (.int 37 353)⟩ :: ⟨keyHash P (.ofString "STAREQUAL"), (.str (.ofString "STAREQUAL") 356), (.int 38 355)⟩ :: ⟨keyHash P (.ofString "SLASHEQUAL"), (.str (.ofString "SLASHEQUAL") 358), (.int 39 357)⟩ :: ⟨keyHash P (.ofString "PERCENTEQUAL"), (.str (.ofString "PERCENTEQUAL") 360), (.int 40 359)⟩ :: ⟨keyHash P (.ofString "AMPEREQUAL"), (.str (.ofString "AMPEREQUAL") 362), (.int 41 361)⟩ :: ⟨keyHash P (.ofString "VBAREQUAL"), (.str (.ofString "VBAREQUAL") 364), (.int 42 363)⟩ :: ⟨keyHash P (.ofString "CIRCUMFLEXEQUAL"), (.str (.ofString "CIRCUMFLEXEQUAL") 366), (.int 43 365)⟩ :: ⟨keyHash P (.ofString "LEFTSHIFTEQUAL"), (.str (.ofString "LEFTSHIFTEQUAL") 368), (.int 44 367)⟩ :: r
noncomputable def e29 (P : Params) (r : List DictEntry) : List DictEntry := ⟨keyHash P (.ofString "RIGHTSHIFTEQUAL"), (.str (.ofString "RIGHTSHIFTEQUAL") 370), (.int 45 369)⟩ :: r
noncomputable def o3_0 (P : Params) : Obj := ⟨(.type "dict"), none, (.dict (e24 P (e25 P (e26 P (e27 P (e28 P (e29 P [])))))).toArray 51), #[]⟩
noncomputable def o29_0 (P : Params) : Obj := ⟨.none, none, (.fields #[(.int 2 0), (.int 0 0), (.ref 37)]), #[]⟩
noncomputable def o32_0 (P : Params) : Obj := ⟨(.type "tuple"), none, (.seq #[] 0), #[]⟩
noncomputable def o33_0 (P : Params) : Obj := ⟨.none, none, (.fields #[]), #[]⟩
noncomputable def o34_0 (P : Params) : Obj := ⟨(.type "tuple"), none, (.seq #[(.str (.ofString "k") 285)] 0), #[]⟩
noncomputable def o35_0 (P : Params) : Obj := ⟨(.type "tuple"), none, (.seq #[] 0), #[]⟩
noncomputable def o36_0 (P : Params) : Obj := ⟨.none, none, (.func ⟨(.ofString "_wall"), (.ofString "_wall"), (fA st_1), .stmts (fB st_1), (fS st_1), 0, [], .none, .none, .none, .none, none, .none, .none, 0⟩), #[]⟩
noncomputable def o37_0 (P : Params) : Obj := ⟨(.type "code"), none, (.fields #[(.str (.ofString "_wall") 282), (.str (.ofString "_wall") 283), (.str (.ofString "/claim/cut.py") 284), (.int 2 0), (.int 1 0), (.int 0 0), (.int 0 0), (.int 3 0), (.ref 32), (.bool true), (.int 276 0), (.ref 33), .none, (.ref 34), (.ref 35), (.ref 36), (.int 286 0), (.int 2 0), (.str (.ofString "/claim/cut.py") 287)]), #[]⟩
noncomputable def o38_0 (P : Params) : Obj := ⟨(.type "function"), none, (.func ⟨(.ofString "_wall"), (.ofString "_wall"), (fA st_1), .stmts (fB st_1), (fS st_1), 3, [], .none, .none, .none, (.str (.ofString "__main__") 164), none, (.ref 37), .none, 0⟩), #[]⟩
noncomputable def u6 (P : Params) : BT := .node (o3_0 P) (.node (o7_e P) (.node (o15_e P) (.node (o31_a P) .nil .nil) .nil) (.node (o23_e P) .nil .nil)) (.node (o11_0 P) (.node (o19_e P) (.node (o35_0 P) .nil .nil) .nil) (.node (o27_e P) .nil .nil))
noncomputable def u7 (P : Params) : BT := .node (o5_e P) (.node (o9_e P) (.node (o17_e P) (.node (o33_0 P) .nil .nil) .nil) (.node (o25_e P) .nil .nil)) (.node (o13_e P) (.node (o21_e P) (.node (o37_0 P) .nil .nil) .nil) (.node (o29_0 P) .nil .nil))
noncomputable def u8 (P : Params) : BT := .node (o1_e P) (u6 P) (u7 P)
noncomputable def u9 (P : Params) : BT := .node (o4_e P) (.node (o8_e P) (.node (o16_e P) (.node (o32_0 P) .nil .nil) .nil) (.node (o24_e P) .nil .nil)) (.node (o12_e P) (.node (o20_e P) (.node (o36_0 P) .nil .nil) .nil) (.node (o28_a P) .nil .nil))
noncomputable def u10 (P : Params) : BT := .node (o6_e P) (.node (o10_e P) (.node (o18_e P) (.node (o34_0 P) .nil .nil) .nil) (.node (o26_e P) .nil .nil)) (.node (o14_e P) (.node (o22_e P) (.node (o38_0 P) .nil .nil) .nil) (.node (o30_a P) .nil .nil))
noncomputable def u11 (P : Params) : BT := .node (o2_e P) (u9 P) (u10 P)
noncomputable def T_0 (P : Params) : BT := (.node (o0_e P) (u8 P) (u11 P))
noncomputable def S_0 (w : World) (os : OsState) : SharedT := ⟨T_0 w.params, 39, life, #[], dr, 371, os⟩
noncomputable def sts_0 : List Stmt := [st_1, st_2, st_3, st_4, st_5, st_6, st_7, st_8, st_9, st_10, st_11, st_12, st_13, st_14, st_15, st_16, st_17, st_18, st_19, st_20, st_21, st_22, st_23, st_24, st_25, st_26, st_27, st_28, st_29, st_30, st_31, st_32, st_33, st_34, st_35, st_36, st_37, st_38, st_39, st_40, st_41, st_42]
noncomputable def e30 (P : Params) (r : List DictEntry) : List DictEntry := ⟨keyHash P (.ofString "RIGHTSHIFTEQUAL"), (.str (.ofString "RIGHTSHIFTEQUAL") 370), (.int 45 369)⟩ :: ⟨keyHash P (.ofString "DOUBLESTAREQUAL"), (.str (.ofString "DOUBLESTAREQUAL") 372), (.int 46 371)⟩ :: ⟨keyHash P (.ofString "DOUBLESLASH"), (.str (.ofString "DOUBLESLASH") 374), (.int 47 373)⟩ :: ⟨keyHash P (.ofString "DOUBLESLASHEQUAL"), (.str (.ofString "DOUBLESLASHEQUAL") 376), (.int 48 375)⟩ :: ⟨keyHash P (.ofString "AT"), (.str (.ofString "AT") 378), (.int 49 377)⟩ :: ⟨keyHash P (.ofString "ATEQUAL"), (.str (.ofString "ATEQUAL") 380), (.int 50 379)⟩ :: ⟨keyHash P (.ofString "RARROW"), (.str (.ofString "RARROW") 382), (.int 51 381)⟩ :: ⟨keyHash P (.ofString "ELLIPSIS"), (.str (.ofString "ELLIPSIS") 384), (.int 52 383)⟩ :: ⟨keyHash P (.ofString "COLONEQUAL"), (.str (.ofString "COLONEQUAL") 386), (.int 53 385)⟩ :: ⟨keyHash P (.ofString "EXCLAMATION"), (.str (.ofString "EXCLAMATION") 388), (.int 54 387)⟩ :: r
noncomputable def o3_1 (P : Params) : Obj := ⟨(.type "dict"), none, (.dict (e24 P (e25 P (e26 P (e27 P (e28 P (e30 P [])))))).toArray 60), #[]⟩
noncomputable def u12 (P : Params) : BT := .node (o3_1 P) (.node (o7_e P) (.node (o15_e P) (.node (o31_a P) .nil .nil) .nil) (.node (o23_e P) .nil .nil)) (.node (o11_0 P) (.node (o19_e P) (.node (o35_0 P) .nil .nil) .nil) (.node (o27_e P) .nil .nil))
noncomputable def u13 (P : Params) : BT := .node (o1_e P) (u12 P) (u7 P)
noncomputable def T_1 (P : Params) : BT := (.node (o0_e P) (u13 P) (u11 P))
noncomputable def S_1 (w : World) (os : OsState) : SharedT := ⟨T_1 w.params, 39, life, #[], dr, 389, os⟩
noncomputable def sts_1 : List Stmt := [st_43, st_44, st_45, st_46, st_47, st_48, st_49, st_50, st_51]
noncomputable def e31 (P : Params) (r : List DictEntry) : List DictEntry := ⟨keyHash P (.ofString "EXACT_TOKEN_TYPES"), (.str (.ofString "EXACT_TOKEN_TYPES") 485), (.ref 39)⟩ :: r
noncomputable def o3_2 (P : Params) : Obj := ⟨(.type "dict"), none, (.dict (e24 P (e25 P (e26 P (e27 P (e28 P (e30 P (e31 P []))))))).toArray 61), #[]⟩
noncomputable def e32 (P : Params) (r : List DictEntry) : List DictEntry := ⟨keyHash P (.ofString "!"), (.str (.ofString "!") 389), (.int 54 387)⟩ :: ⟨keyHash P (.ofString "!="), (.str (.ofString "!=") 391), (.int 28 335)⟩ :: ⟨keyHash P (.ofString "%"), (.str (.ofString "%") 393), (.int 24 327)⟩ :: ⟨keyHash P (.ofString "%="), (.str (.ofString "%=") 395), (.int 40 359)⟩ :: ⟨keyHash P (.ofString "&"), (.str (.ofString "&") 397), (.int 19 317)⟩ :: ⟨keyHash P (.ofString "&="), (.str (.ofString "&=") 399), (.int 41 361)⟩ :: ⟨keyHash P (.ofString "("), (.str (.ofString "(") 401), (.int 7 293)⟩ :: ⟨keyHash P (.ofString ")"), (.str (.ofString ")") 403), (.int 8 295)⟩ :: ⟨keyHash P (.ofString "*"), (.str (.ofString "*") 405), (.int 16 311)⟩ :: ⟨keyHash P (.ofString "**"), (.str (.ofString "**") 407), (.int 35 349)⟩ :: r
noncomputable def e33 (P : Params) (r : List DictEntry) : List DictEntry := ⟨keyHash P (.ofString "**="), (.str (.ofString "**=") 409), (.int 46 371)⟩ :: ⟨keyHash P (.ofString "*="), (.str (.ofString "*=") 411), (.int 38 355)⟩ :: ⟨keyHash P (.ofString "+"), (.str (.ofString "+") 413), (.int 14 307)⟩ :: ⟨keyHash P (.ofString "+="), (.str (.ofString "+=") 415), (.int 36 351)⟩ :: ⟨keyHash P (.ofString ","), (.str (.ofString ",") 417), (.int 12 303)⟩ :: ⟨keyHash P (.ofString "-"), (.str (.ofString "-") 419), (.int 15 309)⟩ :: ⟨keyHash P (.ofString "-="), (.str (.ofString "-=") 421), (.int 37 353)⟩ :: ⟨keyHash P (.ofString "->"), (.str (.ofString "->") 423), (.int 51 381)⟩ :: ⟨keyHash P (.ofString "."), (.str (.ofString ".") 425), (.int 23 325)⟩ :: ⟨keyHash P (.ofString "..."), (.str (.ofString "...") 427), (.int 52 383)⟩ :: r
noncomputable def e34 (P : Params) (r : List DictEntry) : List DictEntry := ⟨keyHash P (.ofString "/"), (.str (.ofString "/") 429), (.int 17 313)⟩ :: ⟨keyHash P (.ofString "//"), (.str (.ofString "//") 431), (.int 47 373)⟩ :: ⟨keyHash P (.ofString "//="), (.str (.ofString "//=") 433), (.int 48 375)⟩ :: ⟨keyHash P (.ofString "/="), (.str (.ofString "/=") 435), (.int 39 357)⟩ :: ⟨keyHash P (.ofString ":"), (.str (.ofString ":") 437), (.int 11 301)⟩ :: ⟨keyHash P (.ofString ":="), (.str (.ofString ":=") 439), (.int 53 385)⟩ :: ⟨keyHash P (.ofString ";"), (.str (.ofString ";") 441), (.int 13 305)⟩ :: ⟨keyHash P (.ofString "<"), (.str (.ofString "<") 443), (.int 20 319)⟩ :: ⟨keyHash P (.ofString "<<"), (.str (.ofString "<<") 445), (.int 33 345)⟩ :: ⟨keyHash P (.ofString "<<="), (.str (.ofString "<<=") 447), (.int 44 367)⟩ :: r
noncomputable def e35 (P : Params) (r : List DictEntry) : List DictEntry := ⟨keyHash P (.ofString "<="), (.str (.ofString "<=") 449), (.int 29 337)⟩ :: ⟨keyHash P (.ofString "="), (.str (.ofString "=") 451), (.int 22 323)⟩ :: ⟨keyHash P (.ofString "=="), (.str (.ofString "==") 453), (.int 27 333)⟩ :: ⟨keyHash P (.ofString ">"), (.str (.ofString ">") 455), (.int 21 321)⟩ :: ⟨keyHash P (.ofString ">="), (.str (.ofString ">=") 457), (.int 30 339)⟩ :: ⟨keyHash P (.ofString ">>"), (.str (.ofString ">>") 458), (.int 34 347)⟩ :: ⟨keyHash P (.ofString ">>="), (.str (.ofString ">>=") 459), (.int 45 369)⟩ :: ⟨keyHash P (.ofString "@"), (.str (.ofString "@") 460), (.int 49 377)⟩ :: ⟨keyHash P (.ofString "@="), (.str (.ofString "@=") 461), (.int 50 379)⟩ :: ⟨keyHash P (.ofString "["), (.str (.ofString "[") 462), (.int 9 297)⟩ :: r
noncomputable def e36 (P : Params) (r : List DictEntry) : List DictEntry := ⟨keyHash P (.ofString "]"), (.str (.ofString "]") 463), (.int 10 299)⟩ :: ⟨keyHash P (.ofString "^"), (.str (.ofString "^") 464), (.int 32 343)⟩ :: ⟨keyHash P (.ofString "^="), (.str (.ofString "^=") 465), (.int 43 365)⟩ :: ⟨keyHash P (.ofString "{"), (.str (.ofString "{") 466), (.int 25 329)⟩ :: ⟨keyHash P (.ofString "|"), (.str (.ofString "|") 467), (.int 18 315)⟩ :: ⟨keyHash P (.ofString "|="), (.str (.ofString "|=") 468), (.int 42 363)⟩ :: ⟨keyHash P (.ofString "}"), (.str (.ofString "}") 469), (.int 26 331)⟩ :: ⟨keyHash P (.ofString "~"), (.str (.ofString "~") 470), (.int 31 341)⟩ :: r
noncomputable def o39_2 (P : Params) : Obj := ⟨(.type "dict"), none, (.dict (e32 P (e33 P (e34 P (e35 P (e36 P []))))).toArray 48), #[]⟩
noncomputable def e37 (P : Params) (r : List DictEntry) : List DictEntry := ⟨keyHash P (.ofString "->"), (.str (.ofString "->") 423), (.int 51 381)⟩ :: ⟨keyHash P (.ofString "."), (.str (.ofString ".") 425), (.int 23 325)⟩ :: ⟨keyHash P (.ofString "..."), (.str (.ofString "...") 427), (.int 52 383)⟩ :: ⟨keyHash P (.ofString "/"), (.str (.ofString "/") 429), (.int 17 313)⟩ :: ⟨keyHash P (.ofString "//"), (.str (.ofString "//") 431), (.int 47 373)⟩ :: ⟨keyHash P (.ofString "//="), (.str (.ofString "//=") 433), (.int 48 375)⟩ :: ⟨keyHash P (.ofString "/="), (.str (.ofString "/=") 435), (.int 39 357)⟩ :: ⟨keyHash P (.ofString ":"), (.str (.ofString ":") 437), (.int 11 301)⟩ :: ⟨keyHash P (.ofString ":="), (.str (.ofString ":=") 439), (.int 53 385)⟩ :: ⟨keyHash P (.ofString ";"), (.str (.ofString ";") 441), (.int 13 305)⟩ :: r
noncomputable def e38 (P : Params) (r : List DictEntry) : List DictEntry := ⟨keyHash P (.ofString "<"), (.str (.ofString "<") 443), (.int 20 319)⟩ :: ⟨keyHash P (.ofString "<<"), (.str (.ofString "<<") 445), (.int 33 345)⟩ :: ⟨keyHash P (.ofString "<<="), (.str (.ofString "<<=") 447), (.int 44 367)⟩ :: ⟨keyHash P (.ofString "<="), (.str (.ofString "<=") 449), (.int 29 337)⟩ :: ⟨keyHash P (.ofString "="), (.str (.ofString "=") 451), (.int 22 323)⟩ :: ⟨keyHash P (.ofString "=="), (.str (.ofString "==") 453), (.int 27 333)⟩ :: ⟨keyHash P (.ofString ">"), (.str (.ofString ">") 455), (.int 21 321)⟩ :: r
noncomputable def o40_2 (P : Params) : Obj := ⟨(.type "dict"), none, (.dict (e37 P (e38 P [])).toArray 17), #[]⟩
noncomputable def e39 (P : Params) (r : List DictEntry) : List DictEntry := ⟨keyHash P (.ofString ">="), (.str (.ofString ">=") 457), (.int 30 339)⟩ :: ⟨keyHash P (.ofString ">>"), (.str (.ofString ">>") 458), (.int 34 347)⟩ :: ⟨keyHash P (.ofString ">>="), (.str (.ofString ">>=") 459), (.int 45 369)⟩ :: ⟨keyHash P (.ofString "@"), (.str (.ofString "@") 460), (.int 49 377)⟩ :: ⟨keyHash P (.ofString "@="), (.str (.ofString "@=") 461), (.int 50 379)⟩ :: ⟨keyHash P (.ofString "["), (.str (.ofString "[") 462), (.int 9 297)⟩ :: ⟨keyHash P (.ofString "]"), (.str (.ofString "]") 463), (.int 10 299)⟩ :: ⟨keyHash P (.ofString "^"), (.str (.ofString "^") 464), (.int 32 343)⟩ :: ⟨keyHash P (.ofString "^="), (.str (.ofString "^=") 465), (.int 43 365)⟩ :: ⟨keyHash P (.ofString "{"), (.str (.ofString "{") 466), (.int 25 329)⟩ :: r
noncomputable def e40 (P : Params) (r : List DictEntry) : List DictEntry := ⟨keyHash P (.ofString "|"), (.str (.ofString "|") 467), (.int 18 315)⟩ :: ⟨keyHash P (.ofString "|="), (.str (.ofString "|=") 468), (.int 42 363)⟩ :: ⟨keyHash P (.ofString "}"), (.str (.ofString "}") 469), (.int 26 331)⟩ :: ⟨keyHash P (.ofString "~"), (.str (.ofString "~") 470), (.int 31 341)⟩ :: r
noncomputable def o41_2 (P : Params) : Obj := ⟨(.type "dict"), none, (.dict (e39 P (e40 P [])).toArray 14), #[]⟩
noncomputable def u14 (P : Params) : BT := .node (o3_2 P) (.node (o7_e P) (.node (o15_e P) (.node (o31_a P) .nil .nil) .nil) (.node (o23_e P) (.node (o39_2 P) .nil .nil) .nil)) (.node (o11_0 P) (.node (o19_e P) (.node (o35_0 P) .nil .nil) .nil) (.node (o27_e P) .nil .nil))
noncomputable def u15 (P : Params) : BT := .node (o5_e P) (.node (o9_e P) (.node (o17_e P) (.node (o33_0 P) .nil .nil) .nil) (.node (o25_e P) (.node (o41_2 P) .nil .nil) .nil)) (.node (o13_e P) (.node (o21_e P) (.node (o37_0 P) .nil .nil) .nil) (.node (o29_0 P) .nil .nil))
noncomputable def u16 (P : Params) : BT := .node (o4_e P) (.node (o8_e P) (.node (o16_e P) (.node (o32_0 P) .nil .nil) .nil) (.node (o24_e P) (.node (o40_2 P) .nil .nil) .nil)) (.node (o12_e P) (.node (o20_e P) (.node (o36_0 P) .nil .nil) .nil) (.node (o28_a P) .nil .nil))
noncomputable def u17 (P : Params) : BT := .node (o2_e P) (u16 P) (u10 P)
noncomputable def T_2 (P : Params) : BT := (.node (o0_e P) (.node (o1_e P) (u14 P) (u15 P)) (u17 P))
noncomputable def S_2 (w : World) (os : OsState) : SharedT := ⟨T_2 w.params, 42, life, #[], dr, 486, os⟩
noncomputable def sts_2 : List Stmt := [st_52]
noncomputable def e41 (P : Params) (r : List DictEntry) : List DictEntry := ⟨keyHash P (.ofString "__name__"), (.str (.ofString "__name__") 165), (.str (.ofString "cpy313.stringprep") 562)⟩ :: ⟨keyHash P (.ofString "__doc__"), (.str (.ofString "__doc__") 166), .none⟩ :: ⟨keyHash P (.ofString "__package__"), (.str (.ofString "__package__") 167), .none⟩ :: ⟨keyHash P (.ofString "__loader__"), (.str (.ofString "__loader__") 168), (.builtin "__main__.__loader__#opaque")⟩ :: ⟨keyHash P (.ofString "__spec__"), (.str (.ofString "__spec__") 169), .none⟩ :: ⟨keyHash P (.ofString "__annotations__"), (.str (.ofString "__annotations__") 170), (.ref 6)⟩ :: ⟨keyHash P (.ofString "__builtins__"), (.str (.ofString "__builtins__") 171), (.ref 4)⟩ :: ⟨keyHash P (.ofString "__file__"), (.str (.ofString "__file__") 173), (.str (.ofString "/claim/cut.py") 172)⟩ :: ⟨keyHash P (.ofString "__cached__"), (.str (.ofString "__cached__") 174), .none⟩ :: ⟨keyHash P (.ofString "_sre"), (.str (.ofString "_sre") 275), (.ref 12)⟩ :: r
noncomputable def e42 (P : Params) (r : List DictEntry) : List DictEntry := ⟨keyHash P (.ofString "EXACT_TOKEN_TYPES"), (.str (.ofString "EXACT_TOKEN_TYPES") 485), (.ref 39)⟩ :: ⟨keyHash P (.ofString "ISEOF"), (.str (.ofString "ISEOF") 492), (.ref 48)⟩ :: ⟨keyHash P (.ofString "_twin_re_1"), (.str (.ofString "_twin_re_1") 510), (.ref 53)⟩ :: ⟨keyHash P (.ofString "_twin_re_2"), (.str (.ofString "_twin_re_2") 552), (.ref 58)⟩ :: ⟨keyHash P (.ofString "CRLF"), (.str (.ofString "CRLF") 554), (.str (.ofString "\x0d\x0a") 553)⟩ :: ⟨keyHash P (.ofString "quotedata"), (.str (.ofString "quotedata") 561), (.ref 65)⟩ :: r
noncomputable def o3_3 (P : Params) : Obj := ⟨(.type "dict"), none, (.dict (e41 P (e25 P (e26 P (e27 P (e28 P (e30 P (e42 P []))))))).toArray 66), #[]⟩
noncomputable def o29_3 (P : Params) : Obj := ⟨.none, none, (.fields #[(.int 2 0), (.int 0 0), (.ref 37), (.int 56 0), (.int 0 0), (.ref 47), (.int 62 0), (.int 0 0), (.ref 64)]), #[]⟩
noncomputable def o42_3 (P : Params) : Obj := ⟨(.type "tuple"), none, (.seq #[] 0), #[]⟩
noncomputable def o43_3 (P : Params) : Obj := ⟨.none, none, (.fields #[]), #[]⟩
noncomputable def o44_3 (P : Params) : Obj := ⟨(.type "tuple"), none, (.seq #[(.str (.ofString "x") 489)] 0), #[]⟩
noncomputable def o45_3 (P : Params) : Obj := ⟨(.type "tuple"), none, (.seq #[] 0), #[]⟩
noncomputable def o46_3 (P : Params) : Obj := ⟨.none, none, (.func ⟨(.ofString "ISEOF"), (.ofString "ISEOF"), (fA st_53), .stmts (fB st_53), (fS st_53), 0, [], .none, .none, .none, .none, none, .none, .none, 0⟩), #[]⟩
noncomputable def o47_3 (P : Params) : Obj := ⟨(.type "code"), none, (.fields #[(.str (.ofString "ISEOF") 486), (.str (.ofString "ISEOF") 487), (.str (.ofString "/claim/cut.py") 488), (.int 56 0), (.int 1 0), (.int 0 0), (.int 0 0), (.int 3 0), (.ref 42), (.bool true), (.int 276 0), (.ref 43), .none, (.ref 44), (.ref 45), (.ref 46), (.int 490 0), (.int 56 0), (.str (.ofString "/claim/cut.py") 491)]), #[]⟩
noncomputable def o48_3 (P : Params) : Obj := ⟨(.type "function"), none, (.func ⟨(.ofString "ISEOF"), (.ofString "ISEOF"), (fA st_53), .stmts (fB st_53), (fS st_53), 3, [], .none, .none, .none, (.str (.ofString "cpy313.token") 289), none, (.ref 47), .none, 0⟩), #[]⟩
noncomputable def o49_3 (P : Params) : Obj := ⟨(.type "list"), none, (.seq #[(.int 14 498), (.int 4 499), (.int 0 500), (.int 1 501), (.int 1 502), (.int 6 503), (.int 1 504), (.int 16 505), (.int 46 506), (.int 1 507)] 0), #[]⟩
noncomputable def o50_3 (P : Params) : Obj := ⟨(.type "dict"), none, (.dict #[] 0), #[]⟩
noncomputable def o51_3 (P : Params) : Obj := ⟨(.type "tuple"), none, (.seq #[.none] 0), #[]⟩
noncomputable def o52_3 (P : Params) : Obj := ⟨(.type "tuple"), none, (.seq #[(.int 14 0), (.int 4 0), (.int 0 0), (.int 1 0), (.int 1 0), (.int 6 0), (.int 1 0), (.int 16 0), (.int 46 0), (.int 1 0)] 0), #[]⟩
noncomputable def o53_3 (P : Params) : Obj := ⟨(.type "re.Pattern"), none, (.fields #[(.str (.ofString "(?m)^\\.") 496), (.int 40 509), (.int 0 0), .none, .none, (.ref 52), (.int 0 0)]), #[]⟩
noncomputable def o54_3 (P : Params) : Obj := ⟨(.type "list"), none, (.seq #[(.int 14 514), (.int 9 515), (.int 4 516), (.int 1 517), (.int 2 518), (.int 16 519), (.int 10 520), (.int 16 521), (.int 13 522), (.int 0 523), (.int 7 524), (.int 7 525), (.int 16 526), (.int 13 527), (.int 16 528), (.int 10 529), (.int 15 530), (.int 18 531), (.int 5 532), (.int 16 533), (.int 10 534), (.int 15 535), (.int 13 536), (.int 11 537), (.int 16 538), (.int 13 539), (.int 5 540), (.int 5 541), (.int 0 542), (.int 16 543), (.int 10 544), (.int 1 545), (.int 15 546), (.int 2 547), (.int 0 548), (.int 1 549)] 0), #[]⟩
noncomputable def o55_3 (P : Params) : Obj := ⟨(.type "dict"), none, (.dict #[] 0), #[]⟩
noncomputable def o56_3 (P : Params) : Obj := ⟨(.type "tuple"), none, (.seq #[.none] 0), #[]⟩
noncomputable def o57_3 (P : Params) : Obj := ⟨(.type "tuple"), none, (.seq #[(.int 14 0), (.int 9 0), (.int 4 0), (.int 1 0), (.int 2 0), (.int 16 0), (.int 10 0), (.int 16 0), (.int 13 0), (.int 0 0), (.int 7 0), (.int 7 0), (.int 16 0), (.int 13 0), (.int 16 0), (.int 10 0), (.int 15 0), (.int 18 0), (.int 5 0), (.int 16 0), (.int 10 0), (.int 15 0), (.int 13 0), (.int 11 0), (.int 16 0), (.int 13 0), (.int 5 0), (.int 5 0), (.int 0 0), (.int 16 0), (.int 10 0), (.int 1 0), (.int 15 0), (.int 2 0), (.int 0 0), (.int 1 0)] 0), #[]⟩
noncomputable def o58_3 (P : Params) : Obj := ⟨(.type "re.Pattern"), none, (.fields #[(.str (.ofString "(?:\\r\\n|\\n|\\r(?!\\n))") 512), (.int 32 551), (.int 0 0), .none, .none, (.ref 57), (.int 0 0)]), #[]⟩
noncomputable def o59_3 (P : Params) : Obj := ⟨(.type "tuple"), none, (.seq #[] 0), #[]⟩
noncomputable def o60_3 (P : Params) : Obj := ⟨.none, none, (.fields #[]), #[]⟩
noncomputable def o61_3 (P : Params) : Obj := ⟨(.type "tuple"), none, (.seq #[(.str (.ofString "data") 558)] 0), #[]⟩
noncomputable def o62_3 (P : Params) : Obj := ⟨(.type "tuple"), none, (.seq #[] 0), #[]⟩
noncomputable def o63_3 (P : Params) : Obj := ⟨.none, none, (.func ⟨(.ofString "quotedata"), (.ofString "quotedata"), (fA st_58), .stmts (fB st_58), (fS st_58), 0, [], .none, .none, .none, .none, none, .none, .none, 0⟩), #[]⟩
noncomputable def o64_3 (P : Params) : Obj := ⟨(.type "code"), none, (.fields #[(.str (.ofString "quotedata") 555), (.str (.ofString "quotedata") 556), (.str (.ofString "/claim/cut.py") 557), (.int 62 0), (.int 1 0), (.int 0 0), (.int 0 0), (.int 3 0), (.ref 59), (.bool true), (.int 276 0), (.ref 60), .none, (.ref 61), (.ref 62), (.ref 63), (.int 559 0), (.int 62 0), (.str (.ofString "/claim/cut.py") 560)]), #[]⟩
noncomputable def o65_3 (P : Params) : Obj := ⟨(.type "function"), none, (.func ⟨(.ofString "quotedata"), (.ofString "quotedata"), (fA st_58), .stmts (fB st_58), (fS st_58), 3, [], .none, .none, .none, (.str (.ofString "cpy313.smtplib") 493), none, (.ref 64), .none, 0⟩), #[]⟩
noncomputable def u18 (P : Params) : BT := .node (o7_e P) (.node (o15_e P) (.node (o31_a P) (.node (o63_3 P) .nil .nil) .nil) (.node (o47_3 P) .nil .nil)) (.node (o23_e P) (.node (o39_2 P) .nil .nil) (.node (o55_3 P) .nil .nil))
noncomputable def u19 (P : Params) : BT := .node (o11_0 P) (.node (o19_e P) (.node (o35_0 P) .nil .nil) (.node (o51_3 P) .nil .nil)) (.node (o27_e P) (.node (o43_3 P) .nil .nil) (.node (o59_3 P) .nil .nil))
noncomputable def u20 (P : Params) : BT := .node (o3_3 P) (u18 P) (u19 P)
noncomputable def u21 (P : Params) : BT := .node (o9_e P) (.node (o17_e P) (.node (o33_0 P) (.node (o65_3 P) .nil .nil) .nil) (.node (o49_3 P) .nil .nil)) (.node (o25_e P) (.node (o41_2 P) .nil .nil) (.node (o57_3 P) .nil .nil))
noncomputable def u22 (P : Params) : BT := .node (o13_e P) (.node (o21_e P) (.node (o37_0 P) .nil .nil) (.node (o53_3 P) .nil .nil)) (.node (o29_3 P) (.node (o45_3 P) .nil .nil) (.node (o61_3 P) .nil .nil))
noncomputable def u23 (P : Params) : BT := .node (o5_e P) (u21 P) (u22 P)
noncomputable def u24 (P : Params) : BT := .node (o8_e P) (.node (o16_e P) (.node (o32_0 P) (.node (o64_3 P) .nil .nil) .nil) (.node (o48_3 P) .nil .nil)) (.node (o24_e P) (.node (o40_2 P) .nil .nil) (.node (o56_3 P) .nil .nil))
noncomputable def u25 (P : Params) : BT := .node (o12_e P) (.node (o20_e P) (.node (o36_0 P) .nil .nil) (.node (o52_3 P) .nil .nil)) (.node (o28_a P) (.node (o44_3 P) .nil .nil) (.node (o60_3 P) .nil .nil))
noncomputable def u26 (P : Params) : BT := .node (o4_e P) (u24 P) (u25 P)
noncomputable def u27 (P : Params) : BT := .node (o10_e P) (.node (o18_e P) (.node (o34_0 P) .nil .nil) (.node (o50_3 P) .nil .nil)) (.node (o26_e P) (.node (o42_3 P) .nil .nil) (.node (o58_3 P) .nil .nil))
noncomputable def u28 (P : Params) : BT := .node (o14_e P) (.node (o22_e P) (.node (o38_0 P) .nil .nil) (.node (o54_3 P) .nil .nil)) (.node (o30_a P) (.node (o46_3 P) .nil .nil) (.node (o62_3 P) .nil .nil))
noncomputable def u29 (P : Params) : BT := .node (o6_e P) (u27 P) (u28 P)
noncomputable def T_3 (P : Params) : BT := (.node (o0_e P) (.node (o1_e P) (u20 P) (u23 P)) (.node (o2_e P) (u26 P) (u29 P)))
noncomputable def S_3 (w : World) (os : OsState) : SharedT := ⟨T_3 w.params, 66, life, #[], dr, 564, os⟩
noncomputable def sts_3 : List Stmt := [st_53, st_54, st_55, st_56, st_57, st_58, st_59]
noncomputable def e43 (P : Params) (r : List DictEntry) : List DictEntry := ⟨keyHash P (.ofString "EXACT_TOKEN_TYPES"), (.str (.ofString "EXACT_TOKEN_TYPES") 485), (.ref 39)⟩ :: ⟨keyHash P (.ofString "ISEOF"), (.str (.ofString "ISEOF") 492), (.ref 48)⟩ :: ⟨keyHash P (.ofString "_twin_re_1"), (.str (.ofString "_twin_re_1") 510), (.ref 53)⟩ :: ⟨keyHash P (.ofString "_twin_re_2"), (.str (.ofString "_twin_re_2") 552), (.ref 58)⟩ :: ⟨keyHash P (.ofString "CRLF"), (.str (.ofString "CRLF") 554), (.str (.ofString "\x0d\x0a") 553)⟩ :: ⟨keyHash P (.ofString "quotedata"), (.str (.ofString "quotedata") 561), (.ref 65)⟩ :: ⟨keyHash P (.ofString "c8_set"), (.str (.ofString "c8_set") 604), (.ref 79)⟩ :: r
noncomputable def o3_4 (P : Params) : Obj := ⟨(.type "dict"), none, (.dict (e41 P (e25 P (e26 P (e27 P (e28 P (e30 P (e43 P []))))))).toArray 67), #[]⟩
noncomputable def o66_4 (P : Params) : Obj := ⟨(.type "list"), none, (.seq #[(.int 832 564), (.int 833 565), (.int 8206 566), (.int 8207 567)] 0), #[]⟩
noncomputable def o67_4 (P : Params) : Obj := ⟨(.type "range"), none, (.fields #[(.int 8234 568), (.int 8239 569), (.int 1 570)]), #[]⟩
noncomputable def o68_4 (P : Params) : Obj := ⟨(.type "list"), none, (.seq #[(.int 8234 573), (.int 8235 574), (.int 8236 575), (.int 8237 576), (.int 8238 577)] 7), #[]⟩
noncomputable def o69_4 (P : Params) : Obj := ⟨(.type "range_iterator"), none, (.fields #[(.int 8239 0), (.int 0 0), (.int 1 0)]), #[]⟩
noncomputable def o70_4 (P : Params) : Obj := ⟨(.type "tuple"), none, (.seq #[] 0), #[]⟩
noncomputable def o71_4 (P : Params) : Obj := ⟨(.type "StopIteration"), none, (.fields #[(.ref 70), .none, .none, .none, (.bool false), .none]), #[]⟩
noncomputable def o72_4 (P : Params) : Obj := ⟨(.type "list"), none, (.seq #[(.int 832 564), (.int 833 565), (.int 8206 566), (.int 8207 567), (.int 8234 573), (.int 8235 574), (.int 8236 575), (.int 8237 576), (.int 8238 577)] 0), #[]⟩
noncomputable def o73_4 (P : Params) : Obj := ⟨(.type "range"), none, (.fields #[(.int 8298 578), (.int 8304 579), (.int 1 580)]), #[]⟩
noncomputable def o74_4 (P : Params) : Obj := ⟨(.type "list"), none, (.seq #[(.int 8298 583), (.int 8299 584), (.int 8300 585), (.int 8301 586), (.int 8302 587), (.int 8303 588)] 8), #[]⟩
noncomputable def o75_4 (P : Params) : Obj := ⟨(.type "range_iterator"), none, (.fields #[(.int 8304 0), (.int 0 0), (.int 1 0)]), #[]⟩
noncomputable def o76_4 (P : Params) : Obj := ⟨(.type "tuple"), none, (.seq #[] 0), #[]⟩
noncomputable def o77_4 (P : Params) : Obj := ⟨(.type "StopIteration"), none, (.fields #[(.ref 76), .none, .none, .none, (.bool false), .none]), #[]⟩
noncomputable def o78_4 (P : Params) : Obj := ⟨(.type "list"), none, (.seq #[(.int 832 564), (.int 833 565), (.int 8206 566), (.int 8207 567), (.int 8234 573), (.int 8235 574), (.int 8236 575), (.int 8237 576), (.int 8238 577), (.int 8298 583), (.int 8299 584), (.int 8300 585), (.int 8301 586), (.int 8302 587), (.int 8303 588)] 0), #[]⟩
noncomputable def o79_4 (P : Params) : Obj := ⟨(.type "set"), none, (.set #[(832, (.int 832 564)), (833, (.int 833 565)), (8234, (.int 8234 573)), (8235, (.int 8235 574)), (8236, (.int 8236 575)), (8237, (.int 8237 576)), (8206, (.int 8206 566)), (8207, (.int 8207 567)), (8238, (.int 8238 577)), (8298, (.int 8298 583)), (8299, (.int 8299 584)), (8300, (.int 8300 585)), (8301, (.int 8301 586)), (8302, (.int 8302 587)), (8303, (.int 8303 588))] 16 ⟨31, #[0, 1, 10, 11, 12, 13, 14, 15, 16, 17, 18, 19, 20, 21, 22], #[], 0, !P.followText "set-order", 1, true⟩), #[]⟩
noncomputable def o80_4 (P : Params) : Obj := ⟨(.type "list_iterator"), none, (.fields #[.none, (.int 15 0)]), #[]⟩
noncomputable def o81_4 (P : Params) : Obj := ⟨(.type "tuple"), none, (.seq #[] 0), #[]⟩
noncomputable def o82_4 (P : Params) : Obj := ⟨(.type "StopIteration"), none, (.fields #[(.ref 81), .none, .none, .none, (.bool false), .none]), #[]⟩
noncomputable def u30 (P : Params) : BT := .node (o7_e P) (.node (o15_e P) (.node (o31_a P) (.node (o63_3 P) .nil .nil) .nil) (.node (o47_3 P) (.node (o79_4 P) .nil .nil) .nil)) (.node (o23_e P) (.node (o39_2 P) (.node (o71_4 P) .nil .nil) .nil) (.node (o55_3 P) .nil .nil))
noncomputable def u31 (P : Params) : BT := .node (o11_0 P) (.node (o19_e P) (.node (o35_0 P) (.node (o67_4 P) .nil .nil) .nil) (.node (o51_3 P) .nil .nil)) (.node (o27_e P) (.node (o43_3 P) (.node (o75_4 P) .nil .nil) .nil) (.node (o59_3 P) .nil .nil))
noncomputable def u32 (P : Params) : BT := .node (o3_4 P) (u30 P) (u31 P)
noncomputable def u33 (P : Params) : BT := .node (o9_e P) (.node (o17_e P) (.node (o33_0 P) (.node (o65_3 P) .nil .nil) .nil) (.node (o49_3 P) (.node (o81_4 P) .nil .nil) .nil)) (.node (o25_e P) (.node (o41_2 P) (.node (o73_4 P) .nil .nil) .nil) (.node (o57_3 P) .nil .nil))
noncomputable def u34 (P : Params) : BT := .node (o13_e P) (.node (o21_e P) (.node (o37_0 P) (.node (o69_4 P) .nil .nil) .nil) (.node (o53_3 P) .nil .nil)) (.node (o29_3 P) (.node (o45_3 P) (.node (o77_4 P) .nil .nil) .nil) (.node (o61_3 P) .nil .nil))
noncomputable def u35 (P : Params) : BT := .node (o5_e P) (u33 P) (u34 P)
noncomputable def u36 (P : Params) : BT := .node (o8_e P) (.node (o16_e P) (.node (o32_0 P) (.node (o64_3 P) .nil .nil) .nil) (.node (o48_3 P) (.node (o80_4 P) .nil .nil) .nil)) (.node (o24_e P) (.node (o40_2 P) (.node (o72_4 P) .nil .nil) .nil) (.node (o56_3 P) .nil .nil))
noncomputable def u37 (P : Params) : BT := .node (o12_e P) (.node (o20_e P) (.node (o36_0 P) (.node (o68_4 P) .nil .nil) .nil) (.node (o52_3 P) .nil .nil)) (.node (o28_a P) (.node (o44_3 P) (.node (o76_4 P) .nil .nil) .nil) (.node (o60_3 P) .nil .nil))
noncomputable def u38 (P : Params) : BT := .node (o4_e P) (u36 P) (u37 P)
noncomputable def u39 (P : Params) : BT := .node (o10_e P) (.node (o18_e P) (.node (o34_0 P) (.node (o66_4 P) .nil .nil) .nil) (.node (o50_3 P) (.node (o82_4 P) .nil .nil) .nil)) (.node (o26_e P) (.node (o42_3 P) (.node (o74_4 P) .nil .nil) .nil) (.node (o58_3 P) .nil .nil))
noncomputable def u40 (P : Params) : BT := .node (o14_e P) (.node (o22_e P) (.node (o38_0 P) (.node (o70_4 P) .nil .nil) .nil) (.node (o54_3 P) .nil .nil)) (.node (o30_a P) (.node (o46_3 P) (.node (o78_4 P) .nil .nil) .nil) (.node (o62_3 P) .nil .nil))
noncomputable def u41 (P : Params) : BT := .node (o6_e P) (u39 P) (u40 P)
noncomputable def T_4 (P : Params) : BT := (.node (o0_e P) (.node (o1_e P) (u32 P) (u35 P)) (.node (o2_e P) (u38 P) (u41 P)))
noncomputable def S_4 (w : World) (os : OsState) : SharedT := ⟨T_4 w.params, 83, life, #[], dr, 605, os⟩
noncomputable def sts_4 : List Stmt := [st_60]
noncomputable def e44 (P : Params) (r : List DictEntry) : List DictEntry := ⟨keyHash P (.ofString "__name__"), (.str (.ofString "__name__") 165), (.str (.ofString "cpy313.wsgiref.headers") 612)⟩ :: ⟨keyHash P (.ofString "__doc__"), (.str (.ofString "__doc__") 166), .none⟩ :: ⟨keyHash P (.ofString "__package__"), (.str (.ofString "__package__") 167), .none⟩ :: ⟨keyHash P (.ofString "__loader__"), (.str (.ofString "__loader__") 168), (.builtin "__main__.__loader__#opaque")⟩ :: ⟨keyHash P (.ofString "__spec__"), (.str (.ofString "__spec__") 169), .none⟩ :: ⟨keyHash P (.ofString "__annotations__"), (.str (.ofString "__annotations__") 170), (.ref 6)⟩ :: ⟨keyHash P (.ofString "__builtins__"), (.str (.ofString "__builtins__") 171), (.ref 4)⟩ :: ⟨keyHash P (.ofString "__file__"), (.str (.ofString "__file__") 173), (.str (.ofString "/claim/cut.py") 172)⟩ :: ⟨keyHash P (.ofString "__cached__"), (.str (.ofString "__cached__") 174), .none⟩ :: ⟨keyHash P (.ofString "_sre"), (.str (.ofString "_sre") 275), (.ref 12)⟩ :: r
noncomputable def e45 (P : Params) (r : List DictEntry) : List DictEntry := ⟨keyHash P (.ofString "EXACT_TOKEN_TYPES"), (.str (.ofString "EXACT_TOKEN_TYPES") 485), (.ref 39)⟩ :: ⟨keyHash P (.ofString "ISEOF"), (.str (.ofString "ISEOF") 492), (.ref 48)⟩ :: ⟨keyHash P (.ofString "_twin_re_1"), (.str (.ofString "_twin_re_1") 510), (.ref 53)⟩ :: ⟨keyHash P (.ofString "_twin_re_2"), (.str (.ofString "_twin_re_2") 552), (.ref 58)⟩ :: ⟨keyHash P (.ofString "CRLF"), (.str (.ofString "CRLF") 554), (.str (.ofString "\x0d\x0a") 553)⟩ :: ⟨keyHash P (.ofString "quotedata"), (.str (.ofString "quotedata") 561), (.ref 65)⟩ :: ⟨keyHash P (.ofString "c8_set"), (.str (.ofString "c8_set") 604), (.ref 79)⟩ :: ⟨keyHash P (.ofString "in_table_c8"), (.str (.ofString "in_table_c8") 611), (.ref 89)⟩ :: ⟨keyHash P (.ofString "tspecials"), (.str (.ofString "tspecials") 647), (.ref 94)⟩ :: ⟨keyHash P (.ofString "_name_disallowed_re"), (.str (.ofString "_name_disallowed_re") 673), (.ref 99)⟩ :: r
noncomputable def e46 (P : Params) (r : List DictEntry) : List DictEntry := ⟨keyHash P (.ofString "_value_disallowed_re"), (.str (.ofString "_value_disallowed_re") 707), (.ref 104)⟩ :: ⟨keyHash P (.ofString "_formatparam"), (.str (.ofString "_formatparam") 717), (.ref 112)⟩ :: r
noncomputable def o3_5 (P : Params) : Obj := ⟨(.type "dict"), none, (.dict (e44 P (e25 P (e26 P (e27 P (e28 P (e30 P (e45 P (e46 P [])))))))).toArray 72), #[]⟩
noncomputable def o29_5 (P : Params) : Obj := ⟨.none, none, (.fields #[(.int 2 0), (.int 0 0), (.ref 37), (.int 56 0), (.int 0 0), (.ref 47), (.int 62 0), (.int 0 0), (.ref 64), (.int 66 0), (.int 0 0), (.ref 88), (.int 72 0), (.int 0 0), (.ref 111)]), #[]⟩
noncomputable def o83_5 (P : Params) : Obj := ⟨(.type "tuple"), none, (.seq #[] 0), #[]⟩
noncomputable def o84_5 (P : Params) : Obj := ⟨.none, none, (.fields #[]), #[]⟩
noncomputable def o85_5 (P : Params) : Obj := ⟨(.type "tuple"), none, (.seq #[(.str (.ofString "code") 608)] 0), #[]⟩
noncomputable def o86_5 (P : Params) : Obj := ⟨(.type "tuple"), none, (.seq #[] 0), #[]⟩
noncomputable def o87_5 (P : Params) : Obj := ⟨.none, none, (.func ⟨(.ofString "in_table_c8"), (.ofString "in_table_c8"), (fA st_61), .stmts (fB st_61), (fS st_61), 0, [], .none, .none, .none, .none, none, .none, .none, 0⟩), #[]⟩
noncomputable def o88_5 (P : Params) : Obj := ⟨(.type "code"), none, (.fields #[(.str (.ofString "in_table_c8") 605), (.str (.ofString "in_table_c8") 606), (.str (.ofString "/claim/cut.py") 607), (.int 66 0), (.int 1 0), (.int 0 0), (.int 0 0), (.int 3 0), (.ref 83), (.bool true), (.int 276 0), (.ref 84), .none, (.ref 85), (.ref 86), (.ref 87), (.int 609 0), (.int 66 0), (.str (.ofString "/claim/cut.py") 610)]), #[]⟩
noncomputable def o89_5 (P : Params) : Obj := ⟨(.type "function"), none, (.func ⟨(.ofString "in_table_c8"), (.ofString "in_table_c8"), (fA st_61), .stmts (fB st_61), (fS st_61), 3, [], .none, .none, .none, (.str (.ofString "cpy313.stringprep") 562), none, (.ref 88), .none, 0⟩), #[]⟩
noncomputable def o90_5 (P : Params) : Obj := ⟨(.type "list"), none, (.seq #[(.int 14 617), (.int 14 618), (.int 4 619), (.int 1 620), (.int 1 621), (.int 9 622), (.int 0 623), (.int 4227896069 624), (.int 939524097 625), (.int 0 626), (.int 0 627), (.int 0 628), (.int 0 629), (.int 0 630), (.int 0 631), (.int 13 632), (.int 11 633), (.int 9 634), (.int 0 635), (.int 4227896069 636), (.int 939524097 637), (.int 0 638), (.int 0 639), (.int 0 640), (.int 0 641), (.int 0 642), (.int 0 643), (.int 1 644)] 0), #[]⟩
noncomputable def o91_5 (P : Params) : Obj := ⟨(.type "dict"), none, (.dict #[] 0), #[]⟩
noncomputable def o92_5 (P : Params) : Obj := ⟨(.type "tuple"), none, (.seq #[.none] 0), #[]⟩
noncomputable def o93_5 (P : Params) : Obj := ⟨(.type "tuple"), none, (.seq #[(.int 14 0), (.int 14 0), (.int 4 0), (.int 1 0), (.int 1 0), (.int 9 0), (.int 0 0), (.int 4227896069 0), (.int 939524097 0), (.int 0 0), (.int 0 0), (.int 0 0), (.int 0 0), (.int 0 0), (.int 0 0), (.int 13 0), (.int 11 0), (.int 9 0), (.int 0 0), (.int 4227896069 0), (.int 939524097 0), (.int 0 0), (.int 0 0), (.int 0 0), (.int 0 0), (.int 0 0), (.int 0 0), (.int 1 0)] 0), #[]⟩
noncomputable def o94_5 (P : Params) : Obj := ⟨(.type "re.Pattern"), none, (.fields #[(.str (.ofString "[ \\(\\)<>@,;:\\\\\"/\\[\\]\\?=]") 615), (.int 32 646), (.int 0 0), .none, .none, (.ref 93), (.int 0 0)]), #[]⟩
noncomputable def o95_5 (P : Params) : Obj := ⟨(.type "list"), none, (.seq #[(.int 14 651), (.int 10 652), (.int 4 653), (.int 1 654), (.int 1 655), (.int 22 656), (.int 0 657), (.int 31 658), (.int 16 659), (.int 127 660), (.int 0 661), (.int 13 662), (.int 7 663), (.int 22 664), (.int 0 665), (.int 31 666), (.int 16 667), (.int 127 668), (.int 0 669), (.int 1 670)] 0), #[]⟩
noncomputable def o96_5 (P : Params) : Obj := ⟨(.type "dict"), none, (.dict #[] 0), #[]⟩
noncomputable def o97_5 (P : Params) : Obj := ⟨(.type "tuple"), none, (.seq #[.none] 0), #[]⟩
noncomputable def o98_5 (P : Params) : Obj := ⟨(.type "tuple"), none, (.seq #[(.int 14 0), (.int 10 0), (.int 4 0), (.int 1 0), (.int 1 0), (.int 22 0), (.int 0 0), (.int 31 0), (.int 16 0), (.int 127 0), (.int 0 0), (.int 13 0), (.int 7 0), (.int 22 0), (.int 0 0), (.int 31 0), (.int 16 0), (.int 127 0), (.int 0 0), (.int 1 0)] 0), #[]⟩
noncomputable def o99_5 (P : Params) : Obj := ⟨(.type "re.Pattern"), none, (.fields #[(.str (.ofString "[\\x00-\\x1F\\x7F]") 649), (.int 32 672), (.int 0 0), .none, .none, (.ref 98), (.int 0 0)]), #[]⟩
noncomputable def o100_5 (P : Params) : Obj := ⟨(.type "list"), none, (.seq #[(.int 14 677), (.int 14 678), (.int 4 679), (.int 1 680), (.int 1 681), (.int 9 682), (.int 4294966783 683), (.int 0 684), (.int 0 685), (.int 2147483648 686), (.int 0 687), (.int 0 688), (.int 0 689), (.int 0 690), (.int 0 691), (.int 13 692), (.int 11 693), (.int 9 694), (.int 4294966783 695), (.int 0 696), (.int 0 697), (.int 2147483648 698), (.int 0 699), (.int 0 700), (.int 0 701), (.int 0 702), (.int 0 703), (.int 1 704)] 0), #[]⟩
noncomputable def o101_5 (P : Params) : Obj := ⟨(.type "dict"), none, (.dict #[] 0), #[]⟩
noncomputable def o102_5 (P : Params) : Obj := ⟨(.type "tuple"), none, (.seq #[.none] 0), #[]⟩
noncomputable def o103_5 (P : Params) : Obj := ⟨(.type "tuple"), none, (.seq #[(.int 14 0), (.int 14 0), (.int 4 0), (.int 1 0), (.int 1 0), (.int 9 0), (.int 4294966783 0), (.int 0 0), (.int 0 0), (.int 2147483648 0), (.int 0 0), (.int 0 0), (.int 0 0), (.int 0 0), (.int 0 0), (.int 13 0), (.int 11 0), (.int 9 0), (.int 4294966783 0), (.int 0 0), (.int 0 0), (.int 2147483648 0), (.int 0 0), (.int 0 0), (.int 0 0), (.int 0 0), (.int 0 0), (.int 1 0)] 0), #[]⟩
noncomputable def o104_5 (P : Params) : Obj := ⟨(.type "re.Pattern"), none, (.fields #[(.str (.ofString "[\\x00-\\x08\\x0A-\\x1F\\x7F]") 675), (.int 32 706), (.int 0 0), .none, .none, (.ref 103), (.int 0 0)]), #[]⟩
noncomputable def o105_5 (P : Params) : Obj := ⟨(.type "tuple"), none, (.seq #[.none, (.int 1 708)] 0), #[]⟩
noncomputable def o106_5 (P : Params) : Obj := ⟨(.type "tuple"), none, (.seq #[] 0), #[]⟩
noncomputable def o107_5 (P : Params) : Obj := ⟨.none, none, (.fields #[]), #[]⟩
noncomputable def o108_5 (P : Params) : Obj := ⟨(.type "tuple"), none, (.seq #[(.str (.ofString "param") 712), (.str (.ofString "value") 713), (.str (.ofString "quote") 714)] 0), #[]⟩
noncomputable def o109_5 (P : Params) : Obj := ⟨(.type "tuple"), none, (.seq #[] 0), #[]⟩
noncomputable def o110_5 (P : Params) : Obj := ⟨.none, none, (.func ⟨(.ofString "_formatparam"), (.ofString "_formatparam"), (fA st_66), .stmts (fB st_66), (fS st_66), 0, [], .none, .none, .none, .none, none, .none, .none, 0⟩), #[]⟩
noncomputable def o111_5 (P : Params) : Obj := ⟨(.type "code"), none, (.fields #[(.str (.ofString "_formatparam") 709), (.str (.ofString "_formatparam") 710), (.str (.ofString "/claim/cut.py") 711), (.int 72 0), (.int 3 0), (.int 0 0), (.int 0 0), (.int 3 0), (.ref 106), (.bool true), (.int 276 0), (.ref 107), .none, (.ref 108), (.ref 109), (.ref 110), (.int 715 0), (.int 72 0), (.str (.ofString "/claim/cut.py") 716)]), #[]⟩
noncomputable def o112_5 (P : Params) : Obj := ⟨(.type "function"), none, (.func ⟨(.ofString "_formatparam"), (.ofString "_formatparam"), (fA st_66), .stmts (fB st_66), (fS st_66), 3, [], (.ref 105), .none, .none, (.str (.ofString "cpy313.wsgiref.headers") 612), none, (.ref 111), .none, 0⟩), #[]⟩
noncomputable def u42 (P : Params) : BT := .node (o15_e P) (.node (o31_a P) (.node (o63_3 P) .nil .nil) (.node (o95_5 P) .nil .nil)) (.node (o47_3 P) (.node (o79_4 P) .nil .nil) (.node (o111_5 P) .nil .nil))
noncomputable def u43 (P : Params) : BT := .node (o23_e P) (.node (o39_2 P) (.node (o71_4 P) .nil .nil) (.node (o103_5 P) .nil .nil)) (.node (o55_3 P) (.node (o87_5 P) .nil .nil) .nil)
noncomputable def u44 (P : Params) : BT := .node (o7_e P) (u42 P) (u43 P)
noncomputable def u45 (P : Params) : BT := .node (o19_e P) (.node (o35_0 P) (.node (o67_4 P) .nil .nil) (.node (o99_5 P) .nil .nil)) (.node (o51_3 P) (.node (o83_5 P) .nil .nil) .nil)
noncomputable def u46 (P : Params) : BT := .node (o27_e P) (.node (o43_3 P) (.node (o75_4 P) .nil .nil) (.node (o107_5 P) .nil .nil)) (.node (o59_3 P) (.node (o91_5 P) .nil .nil) .nil)
noncomputable def u47 (P : Params) : BT := .node (o11_0 P) (u45 P) (u46 P)
noncomputable def u48 (P : Params) : BT := .node (o17_e P) (.node (o33_0 P) (.node (o65_3 P) .nil .nil) (.node (o97_5 P) .nil .nil)) (.node (o49_3 P) (.node (o81_4 P) .nil .nil) .nil)
noncomputable def u49 (P : Params) : BT := .node (o25_e P) (.node (o41_2 P) (.node (o73_4 P) .nil .nil) (.node (o105_5 P) .nil .nil)) (.node (o57_3 P) (.node (o89_5 P) .nil .nil) .nil)
noncomputable def u50 (P : Params) : BT := .node (o9_e P) (u48 P) (u49 P)
noncomputable def u51 (P : Params) : BT := .node (o21_e P) (.node (o37_0 P) (.node (o69_4 P) .nil .nil) (.node (o101_5 P) .nil .nil)) (.node (o53_3 P) (.node (o85_5 P) .nil .nil) .nil)
noncomputable def u52 (P : Params) : BT := .node (o29_5 P) (.node (o45_3 P) (.node (o77_4 P) .nil .nil) (.node (o109_5 P) .nil .nil)) (.node (o61_3 P) (.node (o93_5 P) .nil .nil) .nil)
noncomputable def u53 (P : Params) : BT := .node (o13_e P) (u51 P) (u52 P)
noncomputable def u54 (P : Params) : BT := .node (o16_e P) (.node (o32_0 P) (.node (o64_3 P) .nil .nil) (.node (o96_5 P) .nil .nil)) (.node (o48_3 P) (.node (o80_4 P) .nil .nil) (.node (o112_5 P) .nil .nil))
noncomputable def u55 (P : Params) : BT := .node (o24_e P) (.node (o40_2 P) (.node (o72_4 P) .nil .nil) (.node (o104_5 P) .nil .nil)) (.node (o56_3 P) (.node (o88_5 P) .nil .nil) .nil)
noncomputable def u56 (P : Params) : BT := .node (o8_e P) (u54 P) (u55 P)
noncomputable def u57 (P : Params) : BT := .node (o20_e P) (.node (o36_0 P) (.node (o68_4 P) .nil .nil) (.node (o100_5 P) .nil .nil)) (.node (o52_3 P) (.node (o84_5 P) .nil .nil) .nil)
noncomputable def u58 (P : Params) : BT := .node (o28_a P) (.node (o44_3 P) (.node (o76_4 P) .nil .nil) (.node (o108_5 P) .nil .nil)) (.node (o60_3 P) (.node (o92_5 P) .nil .nil) .nil)
noncomputable def u59 (P : Params) : BT := .node (o12_e P) (u57 P) (u58 P)
noncomputable def u60 (P : Params) : BT := .node (o18_e P) (.node (o34_0 P) (.node (o66_4 P) .nil .nil) (.node (o98_5 P) .nil .nil)) (.node (o50_3 P) (.node (o82_4 P) .nil .nil) .nil)
noncomputable def u61 (P : Params) : BT := .node (o26_e P) (.node (o42_3 P) (.node (o74_4 P) .nil .nil) (.node (o106_5 P) .nil .nil)) (.node (o58_3 P) (.node (o90_5 P) .nil .nil) .nil)
noncomputable def u62 (P : Params) : BT := .node (o10_e P) (u60 P) (u61 P)
noncomputable def u63 (P : Params) : BT := .node (o22_e P) (.node (o38_0 P) (.node (o70_4 P) .nil .nil) (.node (o102_5 P) .nil .nil)) (.node (o54_3 P) (.node (o86_5 P) .nil .nil) .nil)
noncomputable def u64 (P : Params) : BT := .node (o30_a P) (.node (o46_3 P) (.node (o78_4 P) .nil .nil) (.node (o110_5 P) .nil .nil)) (.node (o62_3 P) (.node (o94_5 P) .nil .nil) .nil)
noncomputable def u65 (P : Params) : BT := .node (o14_e P) (u63 P) (u64 P)
noncomputable def T_5 (P : Params) : BT := (.node (o0_e P) (.node (o1_e P) (.node (o3_5 P) (u44 P) (u47 P)) (.node (o5_e P) (u50 P) (u53 P))) (.node (o2_e P) (.node (o4_e P) (u56 P) (u59 P)) (.node (o6_e P) (u62 P) (u65 P))))
noncomputable def S_5 (w : World) (os : OsState) : SharedT := ⟨T_5 w.params, 113, life, #[], dr, 718, os⟩
noncomputable def sts_5 : List Stmt := [st_61, st_62, st_63, st_64, st_65, st_66]
noncomputable def e47 (P : Params) (r : List DictEntry) : List DictEntry := ⟨keyHash P (.ofString "_value_disallowed_re"), (.str (.ofString "_value_disallowed_re") 707), (.ref 104)⟩ :: ⟨keyHash P (.ofString "_formatparam"), (.str (.ofString "_formatparam") 717), (.ref 112)⟩ :: ⟨keyHash P (.ofString "Headers"), (.str (.ofString "Headers") 874), (.ref 233)⟩ :: r
noncomputable def o3_6 (P : Params) : Obj := ⟨(.type "dict"), none, (.dict (e44 P (e25 P (e26 P (e27 P (e28 P (e30 P (e45 P (e47 P [])))))))).toArray 73), #[]⟩
noncomputable def o29_6 (P : Params) : Obj := ⟨.none, none, (.fields #[(.int 2 0), (.int 0 0), (.ref 37), (.int 56 0), (.int 0 0), (.ref 47), (.int 62 0), (.int 0 0), (.ref 64), (.int 66 0), (.int 0 0), (.ref 88), (.int 72 0), (.int 0 0), (.ref 111), (.int 81 0), (.int 0 0), (.ref 118)]), #[]⟩
noncomputable def o113_6 (P : Params) : Obj := ⟨(.type "tuple"), none, (.seq #[] 0), #[]⟩
noncomputable def o114_6 (P : Params) : Obj := ⟨(.type "builtin_function_or_method"), none, (.fields #[(.builtin "type.__prepare__"), (.type "type")]), #[]⟩
noncomputable def e48 (P : Params) (r : List DictEntry) : List DictEntry := ⟨keyHash P (.ofString "__module__"), (.str (.ofString "__module__") 725), (.str (.ofString "cpy313.wsgiref.headers") 612)⟩ :: ⟨keyHash P (.ofString "__qualname__"), (.str (.ofString "__qualname__") 727), (.str (.ofString "Headers") 726)⟩ :: ⟨keyHash P (.ofString "__firstlineno__"), (.str (.ofString "__firstlineno__") 729), (.int 81 728)⟩ :: ⟨keyHash P (.ofString "__init__"), (.str (.ofString "__init__") 739), (.ref 127)⟩ :: ⟨keyHash P (.ofString "_convert_string_type"), (.str (.ofString "_convert_string_type") 749), (.ref 134)⟩ :: ⟨keyHash P (.ofString "__len__"), (.str (.ofString "__len__") 756), (.ref 141)⟩ :: ⟨keyHash P (.ofString "__setitem__"), (.str (.ofString "__setitem__") 765), (.ref 148)⟩ :: ⟨keyHash P (.ofString "__delitem__"), (.str (.ofString "__delitem__") 771), (.ref 153)⟩ :: ⟨keyHash P (.ofString "__getitem__"), (.str (.ofString "__getitem__") 779), (.ref 160)⟩ :: ⟨keyHash P (.ofString "__contains__"), (.str (.ofString "__contains__") 787), (.ref 167)⟩ :: r
noncomputable def e49 (P : Params) (r : List DictEntry) : List DictEntry := ⟨keyHash P (.ofString "get_all"), (.str (.ofString "get_all") 793), (.ref 172)⟩ :: ⟨keyHash P (.ofString "get"), (.str (.ofString "get") 804), (.ref 180)⟩ :: ⟨keyHash P (.ofString "keys"), (.str (.ofString "keys") 810), (.ref 185)⟩ :: ⟨keyHash P (.ofString "values"), (.str (.ofString "values") 816), (.ref 190)⟩ :: ⟨keyHash P (.ofString "items"), (.str (.ofString "items") 823), (.ref 197)⟩ :: ⟨keyHash P (.ofString "__repr__"), (.str (.ofString "__repr__") 830), (.ref 204)⟩ :: ⟨keyHash P (.ofString "__str__"), (.str (.ofString "__str__") 836), (.ref 209)⟩ :: ⟨keyHash P (.ofString "__bytes__"), (.str (.ofString "__bytes__") 843), (.ref 216)⟩ :: ⟨keyHash P (.ofString "setdefault"), (.str (.ofString "setdefault") 852), (.ref 223)⟩ :: ⟨keyHash P (.ofString "add_header"), (.str (.ofString "add_header") 865), (.ref 230)⟩ :: r
noncomputable def e50 (P : Params) (r : List DictEntry) : List DictEntry := ⟨keyHash P (.ofString "__static_attributes__"), (.str (.ofString "__static_attributes__") 867), (.ref 231)⟩ :: r
noncomputable def o115_6 (P : Params) : Obj := ⟨(.type "dict"), none, (.dict (e48 P (e49 P (e50 P []))).toArray 21), #[]⟩
noncomputable def o116_6 (P : Params) : Obj := ⟨(.type "tuple"), none, (.seq #[] 0), #[]⟩
noncomputable def o117_6 (P : Params) : Obj := ⟨.none, none, (.fields #[(.int 83 0), (.int 4 0), (.ref 126), (.int 93 0), (.int 4 0), (.ref 133), (.int 101 0), (.int 4 0), (.ref 140), (.int 104 0), (.int 4 0), (.ref 147), (.int 108 0), (.int 4 0), (.ref 152), (.int 112 0), (.int 4 0), (.ref 159), (.int 115 0), (.int 4 0), (.ref 166), (.int 118 0), (.int 4 0), (.ref 171), (.int 122 0), (.int 4 0), (.ref 179), (.int 129 0), (.int 4 0), (.ref 184), (.int 132 0), (.int 4 0), (.ref 189), (.int 135 0), (.int 4 0), (.ref 196), (.int 138 0), (.int 4 0), (.ref 203), (.int 141 0), (.int 4 0), (.ref 208), (.int 144 0), (.int 4 0), (.ref 215), (.int 147 0), (.int 4 0), (.ref 222), (.int 150 0), (.int 4 0), (.ref 229)]), #[]⟩
noncomputable def o118_6 (P : Params) : Obj := ⟨(.type "code"), none, (.fields #[(.str (.ofString "Headers") 720), (.str (.ofString "Headers") 721), (.str (.ofString "/claim/cut.py") 722), (.int 81 0), (.int 0 0), (.int 0 0), (.int 0 0), (.int 0 0), (.ref 116), (.bool false), (.int 276 0), (.ref 117), .none, .none, .none, .none, (.int 723 0), (.int 81 0), (.str (.ofString "/claim/cut.py") 724)]), #[]⟩
noncomputable def o119_6 (P : Params) : Obj := ⟨(.type "frame"), none, .plain, #[(some (.ref 118)), (some (.ref 3)), (some (.ref 115)), none, (some (.str (.ofString "cpy313.wsgiref.headers") 612)), none, (some (.ref 0))]⟩
noncomputable def o120_6 (P : Params) : Obj := ⟨(.type "tuple"), none, (.seq #[.none] 0), #[]⟩
noncomputable def o121_6 (P : Params) : Obj := ⟨(.type "tuple"), none, (.seq #[] 0), #[]⟩
noncomputable def o122_6 (P : Params) : Obj := ⟨.none, none, (.fields #[]), #[]⟩
noncomputable def o123_6 (P : Params) : Obj := ⟨(.type "tuple"), none, (.seq #[(.str (.ofString "self") 733), (.str (.ofString "headers") 734), (.str (.ofString "k") 735), (.str (.ofString "v") 736)] 0), #[]⟩
noncomputable def o124_6 (P : Params) : Obj := ⟨(.type "tuple"), none, (.seq #[] 0), #[]⟩
noncomputable def o125_6 (P : Params) : Obj := ⟨.none, none, (.func ⟨(.ofString "__init__"), (.ofString "Headers.__init__"), (fA (subAt st_67 0)), .stmts (fB (subAt st_67 0)), (fS (subAt st_67 0)), 0, [], .none, .none, .none, .none, none, .none, .none, 0⟩), #[]⟩
noncomputable def o126_6 (P : Params) : Obj := ⟨(.type "code"), none, (.fields #[(.str (.ofString "__init__") 730), (.str (.ofString "Headers.__init__") 731), (.str (.ofString "/claim/cut.py") 732), (.int 83 0), (.int 2 0), (.int 0 0), (.int 0 0), (.int 3 0), (.ref 121), (.bool true), (.int 276 0), (.ref 122), .none, (.ref 123), (.ref 124), (.ref 125), (.int 737 0), (.int 83 0), (.str (.ofString "/claim/cut.py") 738)]), #[]⟩
noncomputable def o127_6 (P : Params) : Obj := ⟨(.type "function"), none, (.func ⟨(.ofString "__init__"), (.ofString "Headers.__init__"), (fA (subAt st_67 0)), .stmts (fB (subAt st_67 0)), (fS (subAt st_67 0)), 3, [], (.ref 120), .none, .none, (.str (.ofString "cpy313.wsgiref.headers") 612), none, (.ref 126), .none, 0⟩), #[]⟩
noncomputable def o128_6 (P : Params) : Obj := ⟨(.type "tuple"), none, (.seq #[] 0), #[]⟩
noncomputable def o129_6 (P : Params) : Obj := ⟨.none, none, (.fields #[]), #[]⟩
noncomputable def o130_6 (P : Params) : Obj := ⟨(.type "tuple"), none, (.seq #[(.str (.ofString "self") 743), (.str (.ofString "value") 744), (.str (.ofString "name") 745), (.str (.ofString "regex") 746)] 0), #[]⟩
noncomputable def o131_6 (P : Params) : Obj := ⟨(.type "tuple"), none, (.seq #[] 0), #[]⟩
noncomputable def o132_6 (P : Params) : Obj := ⟨.none, none, (.func ⟨(.ofString "_convert_string_type"), (.ofString "Headers._convert_string_type"), (fA (subAt st_67 1)), .stmts (fB (subAt st_67 1)), (fS (subAt st_67 1)), 0, [], .none, .none, .none, .none, none, .none, .none, 0⟩), #[]⟩
noncomputable def o133_6 (P : Params) : Obj := ⟨(.type "code"), none, (.fields #[(.str (.ofString "_convert_string_type") 740), (.str (.ofString "Headers._convert_string_type") 741), (.str (.ofString "/claim/cut.py") 742), (.int 93 0), (.int 2 0), (.int 0 0), (.int 1 0), (.int 3 0), (.ref 128), (.bool true), (.int 276 0), (.ref 129), .none, (.ref 130), (.ref 131), (.ref 132), (.int 747 0), (.int 93 0), (.str (.ofString "/claim/cut.py") 748)]), #[]⟩
noncomputable def o134_6 (P : Params) : Obj := ⟨(.type "function"), none, (.func ⟨(.ofString "_convert_string_type"), (.ofString "Headers._convert_string_type"), (fA (subAt st_67 1)), .stmts (fB (subAt st_67 1)), (fS (subAt st_67 1)), 3, [], .none, .none, .none, (.str (.ofString "cpy313.wsgiref.headers") 612), none, (.ref 133), .none, 0⟩), #[]⟩
noncomputable def o135_6 (P : Params) : Obj := ⟨(.type "tuple"), none, (.seq #[] 0), #[]⟩
noncomputable def o136_6 (P : Params) : Obj := ⟨.none, none, (.fields #[]), #[]⟩
noncomputable def o137_6 (P : Params) : Obj := ⟨(.type "tuple"), none, (.seq #[(.str (.ofString "self") 753)] 0), #[]⟩
noncomputable def o138_6 (P : Params) : Obj := ⟨(.type "tuple"), none, (.seq #[] 0), #[]⟩
noncomputable def o139_6 (P : Params) : Obj := ⟨.none, none, (.func ⟨(.ofString "__len__"), (.ofString "Headers.__len__"), (fA (subAt st_67 2)), .stmts (fB (subAt st_67 2)), (fS (subAt st_67 2)), 0, [], .none, .none, .none, .none, none, .none, .none, 0⟩), #[]⟩
noncomputable def o140_6 (P : Params) : Obj := ⟨(.type "code"), none, (.fields #[(.str (.ofString "__len__") 750), (.str (.ofString "Headers.__len__") 751), (.str (.ofString "/claim/cut.py") 752), (.int 101 0), (.int 1 0), (.int 0 0), (.int 0 0), (.int 3 0), (.ref 135), (.bool true), (.int 276 0), (.ref 136), .none, (.ref 137), (.ref 138), (.ref 139), (.int 754 0), (.int 101 0), (.str (.ofString "/claim/cut.py") 755)]), #[]⟩
noncomputable def o141_6 (P : Params) : Obj := ⟨(.type "function"), none, (.func ⟨(.ofString "__len__"), (.ofString "Headers.__len__"), (fA (subAt st_67 2)), .stmts (fB (subAt st_67 2)), (fS (subAt st_67 2)), 3, [], .none, .none, .none, (.str (.ofString "cpy313.wsgiref.headers") 612), none, (.ref 140), .none, 0⟩), #[]⟩
noncomputable def o142_6 (P : Params) : Obj := ⟨(.type "tuple"), none, (.seq #[] 0), #[]⟩
noncomputable def o143_6 (P : Params) : Obj := ⟨.none, none, (.fields #[]), #[]⟩
noncomputable def o144_6 (P : Params) : Obj := ⟨(.type "tuple"), none, (.seq #[(.str (.ofString "self") 760), (.str (.ofString "name") 761), (.str (.ofString "val") 762)] 0), #[]⟩
noncomputable def o145_6 (P : Params) : Obj := ⟨(.type "tuple"), none, (.seq #[] 0), #[]⟩
noncomputable def o146_6 (P : Params) : Obj := ⟨.none, none, (.func ⟨(.ofString "__setitem__"), (.ofString "Headers.__setitem__"), (fA (subAt st_67 3)), .stmts (fB (subAt st_67 3)), (fS (subAt st_67 3)), 0, [], .none, .none, .none, .none, none, .none, .none, 0⟩), #[]⟩
noncomputable def o147_6 (P : Params) : Obj := ⟨(.type "code"), none, (.fields #[(.str (.ofString "__setitem__") 757), (.str (.ofString "Headers.__setitem__") 758), (.str (.ofString "/claim/cut.py") 759), (.int 104 0), (.int 3 0), (.int 0 0), (.int 0 0), (.int 3 0), (.ref 142), (.bool true), (.int 276 0), (.ref 143), .none, (.ref 144), (.ref 145), (.ref 146), (.int 763 0), (.int 104 0), (.str (.ofString "/claim/cut.py") 764)]), #[]⟩
noncomputable def o148_6 (P : Params) : Obj := ⟨(.type "function"), none, (.func ⟨(.ofString "__setitem__"), (.ofString "Headers.__setitem__"), (fA (subAt st_67 3)), .stmts (fB (subAt st_67 3)), (fS (subAt st_67 3)), 3, [], .none, .none, .none, (.str (.ofString "cpy313.wsgiref.headers") 612), none, (.ref 147), .none, 0⟩), #[]⟩
noncomputable def o149_6 (P : Params) : Obj := ⟨(.type "tuple"), none, (.seq #[] 0), #[]⟩
noncomputable def o150_6 (P : Params) : Obj := ⟨.none, none, (.fields #[]), #[]⟩
noncomputable def o151_6 (P : Params) : Obj := ⟨.none, none, (.func ⟨(.ofString "__delitem__"), (.ofString "Headers.__delitem__"), (fA (subAt st_67 4)), .stmts (fB (subAt st_67 4)), (fS (subAt st_67 4)), 0, [], .none, .none, .none, .none, none, .none, .none, 0⟩), #[]⟩
noncomputable def o152_6 (P : Params) : Obj := ⟨(.type "code"), none, (.fields #[(.str (.ofString "__delitem__") 766), (.str (.ofString "Headers.__delitem__") 767), (.str (.ofString "/claim/cut.py") 768), (.int 108 0), (.int 2 0), (.int 0 0), (.int 0 0), (.int 3 0), (.ref 149), (.bool true), (.int 276 0), (.ref 150), .none, .none, .none, (.ref 151), (.int 769 0), (.int 108 0), (.str (.ofString "/claim/cut.py") 770)]), #[]⟩
noncomputable def o153_6 (P : Params) : Obj := ⟨(.type "function"), none, (.func ⟨(.ofString "__delitem__"), (.ofString "Headers.__delitem__"), (fA (subAt st_67 4)), .stmts (fB (subAt st_67 4)), (fS (subAt st_67 4)), 3, [], .none, .none, .none, (.str (.ofString "cpy313.wsgiref.headers") 612), none, (.ref 152), .none, 0⟩), #[]⟩
noncomputable def o154_6 (P : Params) : Obj := ⟨(.type "tuple"), none, (.seq #[] 0), #[]⟩
noncomputable def o155_6 (P : Params) : Obj := ⟨.none, none, (.fields #[]), #[]⟩
noncomputable def o156_6 (P : Params) : Obj := ⟨(.type "tuple"), none, (.seq #[(.str (.ofString "self") 775), (.str (.ofString "name") 776)] 0), #[]⟩
noncomputable def o157_6 (P : Params) : Obj := ⟨(.type "tuple"), none, (.seq #[] 0), #[]⟩
noncomputable def o158_6 (P : Params) : Obj := ⟨.none, none, (.func ⟨(.ofString "__getitem__"), (.ofString "Headers.__getitem__"), (fA (subAt st_67 5)), .stmts (fB (subAt st_67 5)), (fS (subAt st_67 5)), 0, [], .none, .none, .none, .none, none, .none, .none, 0⟩), #[]⟩
noncomputable def o159_6 (P : Params) : Obj := ⟨(.type "code"), none, (.fields #[(.str (.ofString "__getitem__") 772), (.str (.ofString "Headers.__getitem__") 773), (.str (.ofString "/claim/cut.py") 774), (.int 112 0), (.int 2 0), (.int 0 0), (.int 0 0), (.int 3 0), (.ref 154), (.bool true), (.int 276 0), (.ref 155), .none, (.ref 156), (.ref 157), (.ref 158), (.int 777 0), (.int 112 0), (.str (.ofString "/claim/cut.py") 778)]), #[]⟩
noncomputable def o160_6 (P : Params) : Obj := ⟨(.type "function"), none, (.func ⟨(.ofString "__getitem__"), (.ofString "Headers.__getitem__"), (fA (subAt st_67 5)), .stmts (fB (subAt st_67 5)), (fS (subAt st_67 5)), 3, [], .none, .none, .none, (.str (.ofString "cpy313.wsgiref.headers") 612), none, (.ref 159), .none, 0⟩), #[]⟩
noncomputable def o161_6 (P : Params) : Obj := ⟨(.type "tuple"), none, (.seq #[] 0), #[]⟩
noncomputable def o162_6 (P : Params) : Obj := ⟨.none, none, (.fields #[]), #[]⟩
noncomputable def o163_6 (P : Params) : Obj := ⟨(.type "tuple"), none, (.seq #[(.str (.ofString "self") 783), (.str (.ofString "name") 784)] 0), #[]⟩
noncomputable def o164_6 (P : Params) : Obj := ⟨(.type "tuple"), none, (.seq #[] 0), #[]⟩
noncomputable def o165_6 (P : Params) : Obj := ⟨.none, none, (.func ⟨(.ofString "__contains__"), (.ofString "Headers.__contains__"), (fA (subAt st_67 6)), .stmts (fB (subAt st_67 6)), (fS (subAt st_67 6)), 0, [], .none, .none, .none, .none, none, .none, .none, 0⟩), #[]⟩
noncomputable def o166_6 (P : Params) : Obj := ⟨(.type "code"), none, (.fields #[(.str (.ofString "__contains__") 780), (.str (.ofString "Headers.__contains__") 781), (.str (.ofString "/claim/cut.py") 782), (.int 115 0), (.int 2 0), (.int 0 0), (.int 0 0), (.int 3 0), (.ref 161), (.bool true), (.int 276 0), (.ref 162), .none, (.ref 163), (.ref 164), (.ref 165), (.int 785 0), (.int 115 0), (.str (.ofString "/claim/cut.py") 786)]), #[]⟩
noncomputable def o167_6 (P : Params) : Obj := ⟨(.type "function"), none, (.func ⟨(.ofString "__contains__"), (.ofString "Headers.__contains__"), (fA (subAt st_67 6)), .stmts (fB (subAt st_67 6)), (fS (subAt st_67 6)), 3, [], .none, .none, .none, (.str (.ofString "cpy313.wsgiref.headers") 612), none, (.ref 166), .none, 0⟩), #[]⟩
noncomputable def o168_6 (P : Params) : Obj := ⟨(.type "tuple"), none, (.seq #[] 0), #[]⟩
noncomputable def o169_6 (P : Params) : Obj := ⟨.none, none, (.fields #[]), #[]⟩
noncomputable def o170_6 (P : Params) : Obj := ⟨.none, none, (.func ⟨(.ofString "get_all"), (.ofString "Headers.get_all"), (fA (subAt st_67 7)), .stmts (fB (subAt st_67 7)), (fS (subAt st_67 7)), 0, [], .none, .none, .none, .none, none, .none, .none, 0⟩), #[]⟩
noncomputable def o171_6 (P : Params) : Obj := ⟨(.type "code"), none, (.fields #[(.str (.ofString "get_all") 788), (.str (.ofString "Headers.get_all") 789), (.str (.ofString "/claim/cut.py") 790), (.int 118 0), (.int 2 0), (.int 0 0), (.int 0 0), (.int 3 0), (.ref 168), (.bool true), (.int 276 0), (.ref 169), .none, .none, .none, (.ref 170), (.int 791 0), (.int 118 0), (.str (.ofString "/claim/cut.py") 792)]), #[]⟩
noncomputable def o172_6 (P : Params) : Obj := ⟨(.type "function"), none, (.func ⟨(.ofString "get_all"), (.ofString "Headers.get_all"), (fA (subAt st_67 7)), .stmts (fB (subAt st_67 7)), (fS (subAt st_67 7)), 3, [], .none, .none, .none, (.str (.ofString "cpy313.wsgiref.headers") 612), none, (.ref 171), .none, 0⟩), #[]⟩
noncomputable def o173_6 (P : Params) : Obj := ⟨(.type "tuple"), none, (.seq #[.none] 0), #[]⟩
noncomputable def o174_6 (P : Params) : Obj := ⟨(.type "tuple"), none, (.seq #[] 0), #[]⟩
noncomputable def o175_6 (P : Params) : Obj := ⟨.none, none, (.fields #[]), #[]⟩
noncomputable def o176_6 (P : Params) : Obj := ⟨(.type "tuple"), none, (.seq #[(.str (.ofString "self") 797), (.str (.ofString "name") 798), (.str (.ofString "default") 799), (.str (.ofString "k") 800), (.str (.ofString "v") 801)] 0), #[]⟩
noncomputable def o177_6 (P : Params) : Obj := ⟨(.type "tuple"), none, (.seq #[] 0), #[]⟩
noncomputable def o178_6 (P : Params) : Obj := ⟨.none, none, (.func ⟨(.ofString "get"), (.ofString "Headers.get"), (fA (subAt st_67 8)), .stmts (fB (subAt st_67 8)), (fS (subAt st_67 8)), 0, [], .none, .none, .none, .none, none, .none, .none, 0⟩), #[]⟩
noncomputable def o179_6 (P : Params) : Obj := ⟨(.type "code"), none, (.fields #[(.str (.ofString "get") 794), (.str (.ofString "Headers.get") 795), (.str (.ofString "/claim/cut.py") 796), (.int 122 0), (.int 3 0), (.int 0 0), (.int 0 0), (.int 3 0), (.ref 174), (.bool true), (.int 276 0), (.ref 175), .none, (.ref 176), (.ref 177), (.ref 178), (.int 802 0), (.int 122 0), (.str (.ofString "/claim/cut.py") 803)]), #[]⟩
noncomputable def o180_6 (P : Params) : Obj := ⟨(.type "function"), none, (.func ⟨(.ofString "get"), (.ofString "Headers.get"), (fA (subAt st_67 8)), .stmts (fB (subAt st_67 8)), (fS (subAt st_67 8)), 3, [], (.ref 173), .none, .none, (.str (.ofString "cpy313.wsgiref.headers") 612), none, (.ref 179), .none, 0⟩), #[]⟩
noncomputable def o181_6 (P : Params) : Obj := ⟨(.type "tuple"), none, (.seq #[] 0), #[]⟩
noncomputable def o182_6 (P : Params) : Obj := ⟨.none, none, (.fields #[]), #[]⟩
noncomputable def o183_6 (P : Params) : Obj := ⟨.none, none, (.func ⟨(.ofString "keys"), (.ofString "Headers.keys"), (fA (subAt st_67 9)), .stmts (fB (subAt st_67 9)), (fS (subAt st_67 9)), 0, [], .none, .none, .none, .none, none, .none, .none, 0⟩), #[]⟩
noncomputable def o184_6 (P : Params) : Obj := ⟨(.type "code"), none, (.fields #[(.str (.ofString "keys") 805), (.str (.ofString "Headers.keys") 806), (.str (.ofString "/claim/cut.py") 807), (.int 129 0), (.int 1 0), (.int 0 0), (.int 0 0), (.int 3 0), (.ref 181), (.bool true), (.int 276 0), (.ref 182), .none, .none, .none, (.ref 183), (.int 808 0), (.int 129 0), (.str (.ofString "/claim/cut.py") 809)]), #[]⟩
noncomputable def o185_6 (P : Params) : Obj := ⟨(.type "function"), none, (.func ⟨(.ofString "keys"), (.ofString "Headers.keys"), (fA (subAt st_67 9)), .stmts (fB (subAt st_67 9)), (fS (subAt st_67 9)), 3, [], .none, .none, .none, (.str (.ofString "cpy313.wsgiref.headers") 612), none, (.ref 184), .none, 0⟩), #[]⟩
noncomputable def o186_6 (P : Params) : Obj := ⟨(.type "tuple"), none, (.seq #[] 0), #[]⟩
noncomputable def o187_6 (P : Params) : Obj := ⟨.none, none, (.fields #[]), #[]⟩
noncomputable def o188_6 (P : Params) : Obj := ⟨.none, none, (.func ⟨(.ofString "values"), (.ofString "Headers.values"), (fA (subAt st_67 10)), .stmts (fB (subAt st_67 10)), (fS (subAt st_67 10)), 0, [], .none, .none, .none, .none, none, .none, .none, 0⟩), #[]⟩
noncomputable def o189_6 (P : Params) : Obj := ⟨(.type "code"), none, (.fields #[(.str (.ofString "values") 811), (.str (.ofString "Headers.values") 812), (.str (.ofString "/claim/cut.py") 813), (.int 132 0), (.int 1 0), (.int 0 0), (.int 0 0), (.int 3 0), (.ref 186), (.bool true), (.int 276 0), (.ref 187), .none, .none, .none, (.ref 188), (.int 814 0), (.int 132 0), (.str (.ofString "/claim/cut.py") 815)]), #[]⟩
noncomputable def o190_6 (P : Params) : Obj := ⟨(.type "function"), none, (.func ⟨(.ofString "values"), (.ofString "Headers.values"), (fA (subAt st_67 10)), .stmts (fB (subAt st_67 10)), (fS (subAt st_67 10)), 3, [], .none, .none, .none, (.str (.ofString "cpy313.wsgiref.headers") 612), none, (.ref 189), .none, 0⟩), #[]⟩
noncomputable def o191_6 (P : Params) : Obj := ⟨(.type "tuple"), none, (.seq #[] 0), #[]⟩
noncomputable def o192_6 (P : Params) : Obj := ⟨.none, none, (.fields #[]), #[]⟩
noncomputable def o193_6 (P : Params) : Obj := ⟨(.type "tuple"), none, (.seq #[(.str (.ofString "self") 820)] 0), #[]⟩
noncomputable def o194_6 (P : Params) : Obj := ⟨(.type "tuple"), none, (.seq #[] 0), #[]⟩
noncomputable def o195_6 (P : Params) : Obj := ⟨.none, none, (.func ⟨(.ofString "items"), (.ofString "Headers.items"), (fA (subAt st_67 11)), .stmts (fB (subAt st_67 11)), (fS (subAt st_67 11)), 0, [], .none, .none, .none, .none, none, .none, .none, 0⟩), #[]⟩
noncomputable def o196_6 (P : Params) : Obj := ⟨(.type "code"), none, (.fields #[(.str (.ofString "items") 817), (.str (.ofString "Headers.items") 818), (.str (.ofString "/claim/cut.py") 819), (.int 135 0), (.int 1 0), (.int 0 0), (.int 0 0), (.int 3 0), (.ref 191), (.bool true), (.int 276 0), (.ref 192), .none, (.ref 193), (.ref 194), (.ref 195), (.int 821 0), (.int 135 0), (.str (.ofString "/claim/cut.py") 822)]), #[]⟩
noncomputable def o197_6 (P : Params) : Obj := ⟨(.type "function"), none, (.func ⟨(.ofString "items"), (.ofString "Headers.items"), (fA (subAt st_67 11)), .stmts (fB (subAt st_67 11)), (fS (subAt st_67 11)), 3, [], .none, .none, .none, (.str (.ofString "cpy313.wsgiref.headers") 612), none, (.ref 196), .none, 0⟩), #[]⟩
noncomputable def o198_6 (P : Params) : Obj := ⟨(.type "tuple"), none, (.seq #[] 0), #[]⟩
noncomputable def o199_6 (P : Params) : Obj := ⟨.none, none, (.fields #[]), #[]⟩
noncomputable def o200_6 (P : Params) : Obj := ⟨(.type "tuple"), none, (.seq #[(.str (.ofString "self") 827)] 0), #[]⟩
noncomputable def o201_6 (P : Params) : Obj := ⟨(.type "tuple"), none, (.seq #[] 0), #[]⟩
noncomputable def o202_6 (P : Params) : Obj := ⟨.none, none, (.func ⟨(.ofString "__repr__"), (.ofString "Headers.__repr__"), (fA (subAt st_67 12)), .stmts (fB (subAt st_67 12)), (fS (subAt st_67 12)), 0, [], .none, .none, .none, .none, none, .none, .none, 0⟩), #[]⟩
noncomputable def o203_6 (P : Params) : Obj := ⟨(.type "code"), none, (.fields #[(.str (.ofString "__repr__") 824), (.str (.ofString "Headers.__repr__") 825), (.str (.ofString "/claim/cut.py") 826), (.int 138 0), (.int 1 0), (.int 0 0), (.int 0 0), (.int 3 0), (.ref 198), (.bool true), (.int 276 0), (.ref 199), .none, (.ref 200), (.ref 201), (.ref 202), (.int 828 0), (.int 138 0), (.str (.ofString "/claim/cut.py") 829)]), #[]⟩
noncomputable def o204_6 (P : Params) : Obj := ⟨(.type "function"), none, (.func ⟨(.ofString "__repr__"), (.ofString "Headers.__repr__"), (fA (subAt st_67 12)), .stmts (fB (subAt st_67 12)), (fS (subAt st_67 12)), 3, [], .none, .none, .none, (.str (.ofString "cpy313.wsgiref.headers") 612), none, (.ref 203), .none, 0⟩), #[]⟩
noncomputable def o205_6 (P : Params) : Obj := ⟨(.type "tuple"), none, (.seq #[] 0), #[]⟩
noncomputable def o206_6 (P : Params) : Obj := ⟨.none, none, (.fields #[]), #[]⟩
noncomputable def o207_6 (P : Params) : Obj := ⟨.none, none, (.func ⟨(.ofString "__str__"), (.ofString "Headers.__str__"), (fA (subAt st_67 13)), .stmts (fB (subAt st_67 13)), (fS (subAt st_67 13)), 0, [], .none, .none, .none, .none, none, .none, .none, 0⟩), #[]⟩
noncomputable def o208_6 (P : Params) : Obj := ⟨(.type "code"), none, (.fields #[(.str (.ofString "__str__") 831), (.str (.ofString "Headers.__str__") 832), (.str (.ofString "/claim/cut.py") 833), (.int 141 0), (.int 1 0), (.int 0 0), (.int 0 0), (.int 3 0), (.ref 205), (.bool true), (.int 276 0), (.ref 206), .none, .none, .none, (.ref 207), (.int 834 0), (.int 141 0), (.str (.ofString "/claim/cut.py") 835)]), #[]⟩
noncomputable def o209_6 (P : Params) : Obj := ⟨(.type "function"), none, (.func ⟨(.ofString "__str__"), (.ofString "Headers.__str__"), (fA (subAt st_67 13)), .stmts (fB (subAt st_67 13)), (fS (subAt st_67 13)), 3, [], .none, .none, .none, (.str (.ofString "cpy313.wsgiref.headers") 612), none, (.ref 208), .none, 0⟩), #[]⟩
noncomputable def o210_6 (P : Params) : Obj := ⟨(.type "tuple"), none, (.seq #[] 0), #[]⟩
noncomputable def o211_6 (P : Params) : Obj := ⟨.none, none, (.fields #[]), #[]⟩
noncomputable def o212_6 (P : Params) : Obj := ⟨(.type "tuple"), none, (.seq #[(.str (.ofString "self") 840)] 0), #[]⟩
noncomputable def o213_6 (P : Params) : Obj := ⟨(.type "tuple"), none, (.seq #[] 0), #[]⟩
noncomputable def o214_6 (P : Params) : Obj := ⟨.none, none, (.func ⟨(.ofString "__bytes__"), (.ofString "Headers.__bytes__"), (fA (subAt st_67 14)), .stmts (fB (subAt st_67 14)), (fS (subAt st_67 14)), 0, [], .none, .none, .none, .none, none, .none, .none, 0⟩), #[]⟩
noncomputable def o215_6 (P : Params) : Obj := ⟨(.type "code"), none, (.fields #[(.str (.ofString "__bytes__") 837), (.str (.ofString "Headers.__bytes__") 838), (.str (.ofString "/claim/cut.py") 839), (.int 144 0), (.int 1 0), (.int 0 0), (.int 0 0), (.int 3 0), (.ref 210), (.bool true), (.int 276 0), (.ref 211), .none, (.ref 212), (.ref 213), (.ref 214), (.int 841 0), (.int 144 0), (.str (.ofString "/claim/cut.py") 842)]), #[]⟩
noncomputable def o216_6 (P : Params) : Obj := ⟨(.type "function"), none, (.func ⟨(.ofString "__bytes__"), (.ofString "Headers.__bytes__"), (fA (subAt st_67 14)), .stmts (fB (subAt st_67 14)), (fS (subAt st_67 14)), 3, [], .none, .none, .none, (.str (.ofString "cpy313.wsgiref.headers") 612), none, (.ref 215), .none, 0⟩), #[]⟩
noncomputable def o217_6 (P : Params) : Obj := ⟨(.type "tuple"), none, (.seq #[] 0), #[]⟩
noncomputable def o218_6 (P : Params) : Obj := ⟨.none, none, (.fields #[]), #[]⟩
noncomputable def o219_6 (P : Params) : Obj := ⟨(.type "tuple"), none, (.seq #[(.str (.ofString "self") 847), (.str (.ofString "name") 848), (.str (.ofString "value") 849)] 0), #[]⟩
noncomputable def o220_6 (P : Params) : Obj := ⟨(.type "tuple"), none, (.seq #[] 0), #[]⟩
noncomputable def o221_6 (P : Params) : Obj := ⟨.none, none, (.func ⟨(.ofString "setdefault"), (.ofString "Headers.setdefault"), (fA (subAt st_67 15)), .stmts (fB (subAt st_67 15)), (fS (subAt st_67 15)), 0, [], .none, .none, .none, .none, none, .none, .none, 0⟩), #[]⟩
noncomputable def o222_6 (P : Params) : Obj := ⟨(.type "code"), none, (.fields #[(.str (.ofString "setdefault") 844), (.str (.ofString "Headers.setdefault") 845), (.str (.ofString "/claim/cut.py") 846), (.int 147 0), (.int 3 0), (.int 0 0), (.int 0 0), (.int 3 0), (.ref 217), (.bool true), (.int 276 0), (.ref 218), .none, (.ref 219), (.ref 220), (.ref 221), (.int 850 0), (.int 147 0), (.str (.ofString "/claim/cut.py") 851)]), #[]⟩
noncomputable def o223_6 (P : Params) : Obj := ⟨(.type "function"), none, (.func ⟨(.ofString "setdefault"), (.ofString "Headers.setdefault"), (fA (subAt st_67 15)), .stmts (fB (subAt st_67 15)), (fS (subAt st_67 15)), 3, [], .none, .none, .none, (.str (.ofString "cpy313.wsgiref.headers") 612), none, (.ref 222), .none, 0⟩), #[]⟩
noncomputable def o224_6 (P : Params) : Obj := ⟨(.type "tuple"), none, (.seq #[] 0), #[]⟩
noncomputable def o225_6 (P : Params) : Obj := ⟨.none, none, (.fields #[]), #[]⟩
noncomputable def o226_6 (P : Params) : Obj := ⟨(.type "tuple"), none, (.seq #[(.str (.ofString "self") 856), (.str (.ofString "_name") 857), (.str (.ofString "_value") 858), (.str (.ofString "_params") 859), (.str (.ofString "parts") 860), (.str (.ofString "k") 861), (.str (.ofString "v") 862)] 0), #[]⟩
noncomputable def o227_6 (P : Params) : Obj := ⟨(.type "tuple"), none, (.seq #[] 0), #[]⟩
noncomputable def o228_6 (P : Params) : Obj := ⟨.none, none, (.func ⟨(.ofString "add_header"), (.ofString "Headers.add_header"), (fA (subAt st_67 16)), .stmts (fB (subAt st_67 16)), (fS (subAt st_67 16)), 0, [], .none, .none, .none, .none, none, .none, .none, 0⟩), #[]⟩
noncomputable def o229_6 (P : Params) : Obj := ⟨(.type "code"), none, (.fields #[(.str (.ofString "add_header") 853), (.str (.ofString "Headers.add_header") 854), (.str (.ofString "/claim/cut.py") 855), (.int 150 0), (.int 3 0), (.int 0 0), (.int 0 0), (.int 11 0), (.ref 224), (.bool true), (.int 276 0), (.ref 225), .none, (.ref 226), (.ref 227), (.ref 228), (.int 863 0), (.int 150 0), (.str (.ofString "/claim/cut.py") 864)]), #[]⟩
noncomputable def o230_6 (P : Params) : Obj := ⟨(.type "function"), none, (.func ⟨(.ofString "add_header"), (.ofString "Headers.add_header"), (fA (subAt st_67 16)), .stmts (fB (subAt st_67 16)), (fS (subAt st_67 16)), 3, [], .none, .none, .none, (.str (.ofString "cpy313.wsgiref.headers") 612), none, (.ref 229), .none, 0⟩), #[]⟩
noncomputable def o231_6 (P : Params) : Obj := ⟨(.type "tuple"), none, (.seq #[(.str (.ofString "_headers") 866)] 0), #[]⟩
noncomputable def e51 (P : Params) (r : List DictEntry) : List DictEntry := ⟨keyHash P (.ofString "__module__"), (.str (.ofString "__module__") 725), (.str (.ofString "cpy313.wsgiref.headers") 612)⟩ :: ⟨keyHash P (.ofString "__firstlineno__"), (.str (.ofString "__firstlineno__") 729), (.int 81 728)⟩ :: ⟨keyHash P (.ofString "__init__"), (.str (.ofString "__init__") 739), (.ref 127)⟩ :: ⟨keyHash P (.ofString "_convert_string_type"), (.str (.ofString "_convert_string_type") 749), (.ref 134)⟩ :: ⟨keyHash P (.ofString "__len__"), (.str (.ofString "__len__") 756), (.ref 141)⟩ :: ⟨keyHash P (.ofString "__setitem__"), (.str (.ofString "__setitem__") 765), (.ref 148)⟩ :: ⟨keyHash P (.ofString "__delitem__"), (.str (.ofString "__delitem__") 771), (.ref 153)⟩ :: ⟨keyHash P (.ofString "__getitem__"), (.str (.ofString "__getitem__") 779), (.ref 160)⟩ :: ⟨keyHash P (.ofString "__contains__"), (.str (.ofString "__contains__") 787), (.ref 167)⟩ :: ⟨keyHash P (.ofString "get_all"), (.str (.ofString "get_all") 793), (.ref 172)⟩ :: r
noncomputable def e52 (P : Params) (r : List DictEntry) : List DictEntry := ⟨keyHash P (.ofString "get"), (.str (.ofString "get") 804), (.ref 180)⟩ :: ⟨keyHash P (.ofString "keys"), (.str (.ofString "keys") 810), (.ref 185)⟩ :: ⟨keyHash P (.ofString "values"), (.str (.ofString "values") 816), (.ref 190)⟩ :: ⟨keyHash P (.ofString "items"), (.str (.ofString "items") 823), (.ref 197)⟩ :: ⟨keyHash P (.ofString "__repr__"), (.str (.ofString "__repr__") 830), (.ref 204)⟩ :: ⟨keyHash P (.ofString "__str__"), (.str (.ofString "__str__") 836), (.ref 209)⟩ :: ⟨keyHash P (.ofString "__bytes__"), (.str (.ofString "__bytes__") 843), (.ref 216)⟩ :: ⟨keyHash P (.ofString "setdefault"), (.str (.ofString "setdefault") 852), (.ref 223)⟩ :: ⟨keyHash P (.ofString "add_header"), (.str (.ofString "add_header") 865), (.ref 230)⟩ :: ⟨keyHash P (.ofString "__static_attributes__"), (.str (.ofString "__static_attributes__") 867), (.ref 231)⟩ :: r
noncomputable def e53 (P : Params) (r : List DictEntry) : List DictEntry := ⟨keyHash P (.ofString "__dict__"), (.str (.ofString "__dict__") 869), (.ref 234)⟩ :: ⟨keyHash P (.ofString "__weakref__"), (.str (.ofString "__weakref__") 871), (.ref 235)⟩ :: ⟨keyHash P (.ofString "__doc__"), (.str (.ofString "__doc__") 872), .none⟩ :: r
noncomputable def o232_6 (P : Params) : Obj := ⟨(.type "dict"), none, (.dict (e51 P (e52 P (e53 P []))).toArray 4), #[]⟩
noncomputable def o233_6 (P : Params) : Obj := ⟨(.type "type"), none, (.cls ⟨(.ofString "Headers"), [(.type "object")], [(.ref 233), (.type "object")], 232, (.ofString "Headers"), true, [], [], false, none, false⟩), #[none, none, (some (.str (.ofString "Headers") 718)), (some (.str (.ofString "Headers") 726)), (some (.builtin "object.__new__")), (some (.bool true))]⟩
noncomputable def o234_6 (P : Params) : Obj := ⟨(.type "getset_descriptor"), none, (.fields #[(.str (.ofString "__dict__") 868), (.ref 233), (.builtin "function.__dict__"), (.builtin "function.__dict__#set")]), #[]⟩
noncomputable def o235_6 (P : Params) : Obj := ⟨(.type "getset_descriptor"), none, (.fields #[(.str (.ofString "__weakref__") 870), (.ref 233), (.builtin "ExceptionGroup.__weakref__"), .none]), #[]⟩
noncomputable def o236_6 (P : Params) : Obj := ⟨(.type "super"), none, (.fields #[(.ref 233), (.ref 233), (.ref 233)]), #[]⟩
noncomputable def o237_6 (P : Params) : Obj := ⟨(.type "builtin_function_or_method"), none, (.fields #[(.builtin "object.__init_subclass__"), (.ref 233)]), #[]⟩
noncomputable def u66 (P : Params) : BT := .node (o31_a P) (.node (o63_3 P) (.node (o127_6 P) .nil .nil) (.node (o191_6 P) .nil .nil)) (.node (o95_5 P) (.node (o159_6 P) .nil .nil) (.node (o223_6 P) .nil .nil))
noncomputable def u67 (P : Params) : BT := .node (o47_3 P) (.node (o79_4 P) (.node (o143_6 P) .nil .nil) (.node (o207_6 P) .nil .nil)) (.node (o111_5 P) (.node (o175_6 P) .nil .nil) .nil)
noncomputable def u68 (P : Params) : BT := .node (o15_e P) (u66 P) (u67 P)
noncomputable def u69 (P : Params) : BT := .node (o39_2 P) (.node (o71_4 P) (.node (o135_6 P) .nil .nil) (.node (o199_6 P) .nil .nil)) (.node (o103_5 P) (.node (o167_6 P) .nil .nil) (.node (o231_6 P) .nil .nil))
noncomputable def u70 (P : Params) : BT := .node (o55_3 P) (.node (o87_5 P) (.node (o151_6 P) .nil .nil) (.node (o215_6 P) .nil .nil)) (.node (o119_6 P) (.node (o183_6 P) .nil .nil) .nil)
noncomputable def u71 (P : Params) : BT := .node (o23_e P) (u69 P) (u70 P)
noncomputable def u72 (P : Params) : BT := .node (o35_0 P) (.node (o67_4 P) (.node (o131_6 P) .nil .nil) (.node (o195_6 P) .nil .nil)) (.node (o99_5 P) (.node (o163_6 P) .nil .nil) (.node (o227_6 P) .nil .nil))
noncomputable def u73 (P : Params) : BT := .node (o51_3 P) (.node (o83_5 P) (.node (o147_6 P) .nil .nil) (.node (o211_6 P) .nil .nil)) (.node (o115_6 P) (.node (o179_6 P) .nil .nil) .nil)
noncomputable def u74 (P : Params) : BT := .node (o19_e P) (u72 P) (u73 P)
noncomputable def u75 (P : Params) : BT := .node (o43_3 P) (.node (o75_4 P) (.node (o139_6 P) .nil .nil) (.node (o203_6 P) .nil .nil)) (.node (o107_5 P) (.node (o171_6 P) .nil .nil) (.node (o235_6 P) .nil .nil))
noncomputable def u76 (P : Params) : BT := .node (o59_3 P) (.node (o91_5 P) (.node (o155_6 P) .nil .nil) (.node (o219_6 P) .nil .nil)) (.node (o123_6 P) (.node (o187_6 P) .nil .nil) .nil)
noncomputable def u77 (P : Params) : BT := .node (o27_e P) (u75 P) (u76 P)
noncomputable def u78 (P : Params) : BT := .node (o33_0 P) (.node (o65_3 P) (.node (o129_6 P) .nil .nil) (.node (o193_6 P) .nil .nil)) (.node (o97_5 P) (.node (o161_6 P) .nil .nil) (.node (o225_6 P) .nil .nil))
noncomputable def u79 (P : Params) : BT := .node (o49_3 P) (.node (o81_4 P) (.node (o145_6 P) .nil .nil) (.node (o209_6 P) .nil .nil)) (.node (o113_6 P) (.node (o177_6 P) .nil .nil) .nil)
noncomputable def u80 (P : Params) : BT := .node (o17_e P) (u78 P) (u79 P)
noncomputable def u81 (P : Params) : BT := .node (o41_2 P) (.node (o73_4 P) (.node (o137_6 P) .nil .nil) (.node (o201_6 P) .nil .nil)) (.node (o105_5 P) (.node (o169_6 P) .nil .nil) (.node (o233_6 P) .nil .nil))
noncomputable def u82 (P : Params) : BT := .node (o57_3 P) (.node (o89_5 P) (.node (o153_6 P) .nil .nil) (.node (o217_6 P) .nil .nil)) (.node (o121_6 P) (.node (o185_6 P) .nil .nil) .nil)
noncomputable def u83 (P : Params) : BT := .node (o25_e P) (u81 P) (u82 P)
noncomputable def u84 (P : Params) : BT := .node (o37_0 P) (.node (o69_4 P) (.node (o133_6 P) .nil .nil) (.node (o197_6 P) .nil .nil)) (.node (o101_5 P) (.node (o165_6 P) .nil .nil) (.node (o229_6 P) .nil .nil))
noncomputable def u85 (P : Params) : BT := .node (o53_3 P) (.node (o85_5 P) (.node (o149_6 P) .nil .nil) (.node (o213_6 P) .nil .nil)) (.node (o117_6 P) (.node (o181_6 P) .nil .nil) .nil)
noncomputable def u86 (P : Params) : BT := .node (o21_e P) (u84 P) (u85 P)
noncomputable def u87 (P : Params) : BT := .node (o45_3 P) (.node (o77_4 P) (.node (o141_6 P) .nil .nil) (.node (o205_6 P) .nil .nil)) (.node (o109_5 P) (.node (o173_6 P) .nil .nil) (.node (o237_6 P) .nil .nil))
noncomputable def u88 (P : Params) : BT := .node (o61_3 P) (.node (o93_5 P) (.node (o157_6 P) .nil .nil) (.node (o221_6 P) .nil .nil)) (.node (o125_6 P) (.node (o189_6 P) .nil .nil) .nil)
noncomputable def u89 (P : Params) : BT := .node (o29_6 P) (u87 P) (u88 P)
noncomputable def u90 (P : Params) : BT := .node (o32_0 P) (.node (o64_3 P) (.node (o128_6 P) .nil .nil) (.node (o192_6 P) .nil .nil)) (.node (o96_5 P) (.node (o160_6 P) .nil .nil) (.node (o224_6 P) .nil .nil))
noncomputable def u91 (P : Params) : BT := .node (o48_3 P) (.node (o80_4 P) (.node (o144_6 P) .nil .nil) (.node (o208_6 P) .nil .nil)) (.node (o112_5 P) (.node (o176_6 P) .nil .nil) .nil)
noncomputable def u92 (P : Params) : BT := .node (o16_e P) (u90 P) (u91 P)
noncomputable def u93 (P : Params) : BT := .node (o40_2 P) (.node (o72_4 P) (.node (o136_6 P) .nil .nil) (.node (o200_6 P) .nil .nil)) (.node (o104_5 P) (.node (o168_6 P) .nil .nil) (.node (o232_6 P) .nil .nil))
noncomputable def u94 (P : Params) : BT := .node (o56_3 P) (.node (o88_5 P) (.node (o152_6 P) .nil .nil) (.node (o216_6 P) .nil .nil)) (.node (o120_6 P) (.node (o184_6 P) .nil .nil) .nil)
noncomputable def u95 (P : Params) : BT := .node (o24_e P) (u93 P) (u94 P)
noncomputable def u96 (P : Params) : BT := .node (o36_0 P) (.node (o68_4 P) (.node (o132_6 P) .nil .nil) (.node (o196_6 P) .nil .nil)) (.node (o100_5 P) (.node (o164_6 P) .nil .nil) (.node (o228_6 P) .nil .nil))
noncomputable def u97 (P : Params) : BT := .node (o52_3 P) (.node (o84_5 P) (.node (o148_6 P) .nil .nil) (.node (o212_6 P) .nil .nil)) (.node (o116_6 P) (.node (o180_6 P) .nil .nil) .nil)
noncomputable def u98 (P : Params) : BT := .node (o20_e P) (u96 P) (u97 P)
noncomputable def u99 (P : Params) : BT := .node (o44_3 P) (.node (o76_4 P) (.node (o140_6 P) .nil .nil) (.node (o204_6 P) .nil .nil)) (.node (o108_5 P) (.node (o172_6 P) .nil .nil) (.node (o236_6 P) .nil .nil))
noncomputable def u100 (P : Params) : BT := .node (o60_3 P) (.node (o92_5 P) (.node (o156_6 P) .nil .nil) (.node (o220_6 P) .nil .nil)) (.node (o124_6 P) (.node (o188_6 P) .nil .nil) .nil)
noncomputable def u101 (P : Params) : BT := .node (o28_a P) (u99 P) (u100 P)
noncomputable def u102 (P : Params) : BT := .node (o34_0 P) (.node (o66_4 P) (.node (o130_6 P) .nil .nil) (.node (o194_6 P) .nil .nil)) (.node (o98_5 P) (.node (o162_6 P) .nil .nil) (.node (o226_6 P) .nil .nil))
noncomputable def u103 (P : Params) : BT := .node (o50_3 P) (.node (o82_4 P) (.node (o146_6 P) .nil .nil) (.node (o210_6 P) .nil .nil)) (.node (o114_6 P) (.node (o178_6 P) .nil .nil) .nil)
noncomputable def u104 (P : Params) : BT := .node (o18_e P) (u102 P) (u103 P)
noncomputable def u105 (P : Params) : BT := .node (o42_3 P) (.node (o74_4 P) (.node (o138_6 P) .nil .nil) (.node (o202_6 P) .nil .nil)) (.node (o106_5 P) (.node (o170_6 P) .nil .nil) (.node (o234_6 P) .nil .nil))
noncomputable def u106 (P : Params) : BT := .node (o58_3 P) (.node (o90_5 P) (.node (o154_6 P) .nil .nil) (.node (o218_6 P) .nil .nil)) (.node (o122_6 P) (.node (o186_6 P) .nil .nil) .nil)
noncomputable def u107 (P : Params) : BT := .node (o26_e P) (u105 P) (u106 P)
noncomputable def u108 (P : Params) : BT := .node (o38_0 P) (.node (o70_4 P) (.node (o134_6 P) .nil .nil) (.node (o198_6 P) .nil .nil)) (.node (o102_5 P) (.node (o166_6 P) .nil .nil) (.node (o230_6 P) .nil .nil))
noncomputable def u109 (P : Params) : BT := .node (o54_3 P) (.node (o86_5 P) (.node (o150_6 P) .nil .nil) (.node (o214_6 P) .nil .nil)) (.node (o118_6 P) (.node (o182_6 P) .nil .nil) .nil)
noncomputable def u110 (P : Params) : BT := .node (o22_e P) (u108 P) (u109 P)
noncomputable def u111 (P : Params) : BT := .node (o46_3 P) (.node (o78_4 P) (.node (o142_6 P) .nil .nil) (.node (o206_6 P) .nil .nil)) (.node (o110_5 P) (.node (o174_6 P) .nil .nil) .nil)
noncomputable def u112 (P : Params) : BT := .node (o62_3 P) (.node (o94_5 P) (.node (o158_6 P) .nil .nil) (.node (o222_6 P) .nil .nil)) (.node (o126_6 P) (.node (o190_6 P) .nil .nil) .nil)
noncomputable def u113 (P : Params) : BT := .node (o30_a P) (u111 P) (u112 P)
noncomputable def T_6 (P : Params) : BT := (.node (o0_e P) (.node (o1_e P) (.node (o3_6 P) (.node (o7_e P) (u68 P) (u71 P)) (.node (o11_0 P) (u74 P) (u77 P))) (.node (o5_e P) (.node (o9_e P) (u80 P) (u83 P)) (.node (o13_e P) (u86 P) (u89 P)))) (.node (o2_e P) (.node (o4_e P) (.node (o8_e P) (u92 P) (u95 P)) (.node (o12_e P) (u98 P) (u101 P))) (.node (o6_e P) (.node (o10_e P) (u104 P) (u107 P)) (.node (o14_e P) (u110 P) (u113 P)))))
noncomputable def S_6 (w : World) (os : OsState) : SharedT := ⟨T_6 w.params, 238, life, #[], dr, 875, os⟩
noncomputable def sts_6 : List Stmt := [st_67]
noncomputable def e54 (P : Params) (r : List DictEntry) : List DictEntry := ⟨keyHash P (.ofString "__name__"), (.str (.ofString "__name__") 165), (.str (.ofString "law_sh0051_01") 875)⟩ :: ⟨keyHash P (.ofString "__doc__"), (.str (.ofString "__doc__") 166), .none⟩ :: ⟨keyHash P (.ofString "__package__"), (.str (.ofString "__package__") 167), .none⟩ :: ⟨keyHash P (.ofString "__loader__"), (.str (.ofString "__loader__") 168), (.builtin "__main__.__loader__#opaque")⟩ :: ⟨keyHash P (.ofString "__spec__"), (.str (.ofString "__spec__") 169), .none⟩ :: ⟨keyHash P (.ofString "__annotations__"), (.str (.ofString "__annotations__") 170), (.ref 6)⟩ :: ⟨keyHash P (.ofString "__builtins__"), (.str (.ofString "__builtins__") 171), (.ref 4)⟩ :: ⟨keyHash P (.ofString "__file__"), (.str (.ofString "__file__") 173), (.str (.ofString "/claim/cut.py") 172)⟩ :: ⟨keyHash P (.ofString "__cached__"), (.str (.ofString "__cached__") 174), .none⟩ :: ⟨keyHash P (.ofString "_sre"), (.str (.ofString "_sre") 275), (.ref 12)⟩ :: r
noncomputable def e55 (P : Params) (r : List DictEntry) : List DictEntry := ⟨keyHash P (.ofString "_value_disallowed_re"), (.str (.ofString "_value_disallowed_re") 707), (.ref 104)⟩ :: ⟨keyHash P (.ofString "_formatparam"), (.str (.ofString "_formatparam") 717), (.ref 112)⟩ :: ⟨keyHash P (.ofString "Headers"), (.str (.ofString "Headers") 874), (.ref 233)⟩ :: ⟨keyHash P (.ofString "_law_text"), (.str (.ofString "_law_text") 891), (.ref 244)⟩ :: ⟨keyHash P (.ofString "_law_closed"), (.str (.ofString "_law_closed") 904), (.ref 251)⟩ :: ⟨keyHash P (.ofString "_law_told"), (.str (.ofString "_law_told") 917), (.ref 258)⟩ :: ⟨keyHash P (.ofString "_law_below"), (.str (.ofString "_law_below") 926), (.ref 265)⟩ :: ⟨keyHash P (.ofString "_law_numbers"), (.str (.ofString "_law_numbers") 932), (.ref 270)⟩ :: ⟨keyHash P (.ofString "law"), (.str (.ofString "law") 938), (.ref 275)⟩ :: r
noncomputable def o3_7 (P : Params) : Obj := ⟨(.type "dict"), none, (.dict (e54 P (e25 P (e26 P (e27 P (e28 P (e30 P (e45 P (e55 P [])))))))).toArray 79), #[]⟩
noncomputable def o29_7 (P : Params) : Obj := ⟨.none, none, (.fields #[(.int 2 0), (.int 0 0), (.ref 37), (.int 56 0), (.int 0 0), (.ref 47), (.int 62 0), (.int 0 0), (.ref 64), (.int 66 0), (.int 0 0), (.ref 88), (.int 72 0), (.int 0 0), (.ref 111), (.int 81 0), (.int 0 0), (.ref 118), (.int 164 0), (.int 0 0), (.ref 243), (.int 177 0), (.int 0 0), (.ref 250), (.int 186 0), (.int 0 0), (.ref 257), (.int 201 0), (.int 0 0), (.ref 264), (.int 207 0), (.int 0 0), (.ref 269), (.int 217 0), (.int 0 0), (.ref 274)]), #[]⟩
noncomputable def o238_7 (P : Params) : Obj := ⟨(.type "tuple"), none, (.seq #[] 0), #[]⟩
noncomputable def o239_7 (P : Params) : Obj := ⟨.none, none, (.fields #[]), #[]⟩
noncomputable def o240_7 (P : Params) : Obj := ⟨(.type "tuple"), none, (.seq #[(.str (.ofString "draws") 880), (.str (.ofString "up") 881), (.str (.ofString "gone") 882), (.str (.ofString "v") 883), (.str (.ofString "strewn") 884), (.str (.ofString "beside") 885), (.str (.ofString "text") 886), (.str (.ofString "child") 887), (.str (.ofString "more") 888)] 0), #[]⟩
noncomputable def o241_7 (P : Params) : Obj := ⟨(.type "tuple"), none, (.seq #[] 0), #[]⟩
noncomputable def o242_7 (P : Params) : Obj := ⟨.none, none, (.func ⟨(.ofString "_law_text"), (.ofString "_law_text"), (fA st_69), .stmts (fB st_69), (fS st_69), 0, [], .none, .none, .none, .none, none, .none, .none, 0⟩), #[]⟩
noncomputable def o243_7 (P : Params) : Obj := ⟨(.type "code"), none, (.fields #[(.str (.ofString "_law_text") 877), (.str (.ofString "_law_text") 878), (.str (.ofString "/claim/cut.py") 879), (.int 164 0), (.int 4 0), (.int 0 0), (.int 0 0), (.int 3 0), (.ref 238), (.bool true), (.int 276 0), (.ref 239), .none, (.ref 240), (.ref 241), (.ref 242), (.int 889 0), (.int 164 0), (.str (.ofString "/claim/cut.py") 890)]), #[]⟩
noncomputable def o244_7 (P : Params) : Obj := ⟨(.type "function"), none, (.func ⟨(.ofString "_law_text"), (.ofString "_law_text"), (fA st_69), .stmts (fB st_69), (fS st_69), 3, [], .none, .none, .none, (.str (.ofString "law_sh0051_01") 875), none, (.ref 243), .none, 0⟩), #[]⟩
noncomputable def o245_7 (P : Params) : Obj := ⟨(.type "tuple"), none, (.seq #[] 0), #[]⟩
noncomputable def o246_7 (P : Params) : Obj := ⟨.none, none, (.fields #[]), #[]⟩
noncomputable def o247_7 (P : Params) : Obj := ⟨(.type "tuple"), none, (.seq #[(.str (.ofString "table") 895), (.str (.ofString "level") 896), (.str (.ofString "end") 897), (.str (.ofString "name") 898), (.str (.ofString "rows") 899), (.str (.ofString "number") 900), (.str (.ofString "row") 901)] 0), #[]⟩
noncomputable def o248_7 (P : Params) : Obj := ⟨(.type "tuple"), none, (.seq #[] 0), #[]⟩
noncomputable def o249_7 (P : Params) : Obj := ⟨.none, none, (.func ⟨(.ofString "_law_closed"), (.ofString "_law_closed"), (fA st_70), .stmts (fB st_70), (fS st_70), 0, [], .none, .none, .none, .none, none, .none, .none, 0⟩), #[]⟩
noncomputable def o250_7 (P : Params) : Obj := ⟨(.type "code"), none, (.fields #[(.str (.ofString "_law_closed") 892), (.str (.ofString "_law_closed") 893), (.str (.ofString "/claim/cut.py") 894), (.int 177 0), (.int 3 0), (.int 0 0), (.int 0 0), (.int 3 0), (.ref 245), (.bool true), (.int 276 0), (.ref 246), .none, (.ref 247), (.ref 248), (.ref 249), (.int 902 0), (.int 177 0), (.str (.ofString "/claim/cut.py") 903)]), #[]⟩
noncomputable def o251_7 (P : Params) : Obj := ⟨(.type "function"), none, (.func ⟨(.ofString "_law_closed"), (.ofString "_law_closed"), (fA st_70), .stmts (fB st_70), (fS st_70), 3, [], .none, .none, .none, (.str (.ofString "law_sh0051_01") 875), none, (.ref 250), .none, 0⟩), #[]⟩
noncomputable def o252_7 (P : Params) : Obj := ⟨(.type "tuple"), none, (.seq #[] 0), #[]⟩
noncomputable def o253_7 (P : Params) : Obj := ⟨.none, none, (.fields #[]), #[]⟩
noncomputable def o254_7 (P : Params) : Obj := ⟨(.type "tuple"), none, (.seq #[(.str (.ofString "text") 908), (.str (.ofString "end") 909), (.str (.ofString "table") 910), (.str (.ofString "level") 911), (.str (.ofString "sign") 912), (.str (.ofString "kind") 913), (.str (.ofString "row") 914)] 0), #[]⟩
noncomputable def o255_7 (P : Params) : Obj := ⟨(.type "tuple"), none, (.seq #[] 0), #[]⟩
noncomputable def o256_7 (P : Params) : Obj := ⟨.none, none, (.func ⟨(.ofString "_law_told"), (.ofString "_law_told"), (fA st_71), .stmts (fB st_71), (fS st_71), 0, [], .none, .none, .none, .none, none, .none, .none, 0⟩), #[]⟩
noncomputable def o257_7 (P : Params) : Obj := ⟨(.type "code"), none, (.fields #[(.str (.ofString "_law_told") 905), (.str (.ofString "_law_told") 906), (.str (.ofString "/claim/cut.py") 907), (.int 186 0), (.int 2 0), (.int 0 0), (.int 0 0), (.int 3 0), (.ref 252), (.bool true), (.int 276 0), (.ref 253), .none, (.ref 254), (.ref 255), (.ref 256), (.int 915 0), (.int 186 0), (.str (.ofString "/claim/cut.py") 916)]), #[]⟩
noncomputable def o258_7 (P : Params) : Obj := ⟨(.type "function"), none, (.func ⟨(.ofString "_law_told"), (.ofString "_law_told"), (fA st_71), .stmts (fB st_71), (fS st_71), 3, [], .none, .none, .none, (.str (.ofString "law_sh0051_01") 875), none, (.ref 257), .none, 0⟩), #[]⟩
noncomputable def o259_7 (P : Params) : Obj := ⟨(.type "tuple"), none, (.seq #[] 0), #[]⟩
noncomputable def o260_7 (P : Params) : Obj := ⟨.none, none, (.fields #[]), #[]⟩
noncomputable def o261_7 (P : Params) : Obj := ⟨(.type "tuple"), none, (.seq #[(.str (.ofString "up") 921), (.str (.ofString "below") 922), (.str (.ofString "v") 923)] 0), #[]⟩
noncomputable def o262_7 (P : Params) : Obj := ⟨(.type "tuple"), none, (.seq #[] 0), #[]⟩
noncomputable def o263_7 (P : Params) : Obj := ⟨.none, none, (.func ⟨(.ofString "_law_below"), (.ofString "_law_below"), (fA st_72), .stmts (fB st_72), (fS st_72), 0, [], .none, .none, .none, .none, none, .none, .none, 0⟩), #[]⟩
noncomputable def o264_7 (P : Params) : Obj := ⟨(.type "code"), none, (.fields #[(.str (.ofString "_law_below") 918), (.str (.ofString "_law_below") 919), (.str (.ofString "/claim/cut.py") 920), (.int 201 0), (.int 1 0), (.int 0 0), (.int 0 0), (.int 3 0), (.ref 259), (.bool true), (.int 276 0), (.ref 260), .none, (.ref 261), (.ref 262), (.ref 263), (.int 924 0), (.int 201 0), (.str (.ofString "/claim/cut.py") 925)]), #[]⟩
noncomputable def o265_7 (P : Params) : Obj := ⟨(.type "function"), none, (.func ⟨(.ofString "_law_below"), (.ofString "_law_below"), (fA st_72), .stmts (fB st_72), (fS st_72), 3, [], .none, .none, .none, (.str (.ofString "law_sh0051_01") 875), none, (.ref 264), .none, 0⟩), #[]⟩
noncomputable def o266_7 (P : Params) : Obj := ⟨(.type "tuple"), none, (.seq #[] 0), #[]⟩
noncomputable def o267_7 (P : Params) : Obj := ⟨.none, none, (.fields #[]), #[]⟩
noncomputable def o268_7 (P : Params) : Obj := ⟨.none, none, (.func ⟨(.ofString "_law_numbers"), (.ofString "_law_numbers"), (fA st_73), .stmts (fB st_73), (fS st_73), 0, [], .none, .none, .none, .none, none, .none, .none, 0⟩), #[]⟩
noncomputable def o269_7 (P : Params) : Obj := ⟨(.type "code"), none, (.fields #[(.str (.ofString "_law_numbers") 927), (.str (.ofString "_law_numbers") 928), (.str (.ofString "/claim/cut.py") 929), (.int 207 0), (.int 2 0), (.int 0 0), (.int 0 0), (.int 3 0), (.ref 266), (.bool true), (.int 276 0), (.ref 267), .none, .none, .none, (.ref 268), (.int 930 0), (.int 207 0), (.str (.ofString "/claim/cut.py") 931)]), #[]⟩
noncomputable def o270_7 (P : Params) : Obj := ⟨(.type "function"), none, (.func ⟨(.ofString "_law_numbers"), (.ofString "_law_numbers"), (fA st_73), .stmts (fB st_73), (fS st_73), 3, [], .none, .none, .none, (.str (.ofString "law_sh0051_01") 875), none, (.ref 269), .none, 0⟩), #[]⟩
noncomputable def o271_7 (P : Params) : Obj := ⟨(.type "tuple"), none, (.seq #[] 0), #[]⟩
noncomputable def o272_7 (P : Params) : Obj := ⟨.none, none, (.fields #[]), #[]⟩
noncomputable def o273_7 (P : Params) : Obj := ⟨.none, none, (.func ⟨(.ofString "law"), (.ofString "law"), (fA st_74), .stmts (fB st_74), (fS st_74), 0, [], .none, .none, .none, .none, none, .none, .none, 0⟩), #[]⟩
noncomputable def o274_7 (P : Params) : Obj := ⟨(.type "code"), none, (.fields #[(.str (.ofString "law") 933), (.str (.ofString "law") 934), (.str (.ofString "/claim/cut.py") 935), (.int 217 0), (.int 1 0), (.int 0 0), (.int 0 0), (.int 3 0), (.ref 271), (.bool true), (.int 276 0), (.ref 272), .none, .none, .none, (.ref 273), (.int 936 0), (.int 217 0), (.str (.ofString "/claim/cut.py") 937)]), #[]⟩
noncomputable def o275_7 (P : Params) : Obj := ⟨(.type "function"), none, (.func ⟨(.ofString "law"), (.ofString "law"), (fA st_74), .stmts (fB st_74), (fS st_74), 3, [], .none, .none, .none, (.str (.ofString "law_sh0051_01") 875), none, (.ref 274), .none, 0⟩), #[]⟩
noncomputable def u114 (P : Params) : BT := .node (o31_a P) (.node (o63_3 P) (.node (o127_6 P) (.node (o255_7 P) .nil .nil) .nil) (.node (o191_6 P) .nil .nil)) (.node (o95_5 P) (.node (o159_6 P) .nil .nil) (.node (o223_6 P) .nil .nil))
noncomputable def u115 (P : Params) : BT := .node (o47_3 P) (.node (o79_4 P) (.node (o143_6 P) (.node (o271_7 P) .nil .nil) .nil) (.node (o207_6 P) .nil .nil)) (.node (o111_5 P) (.node (o175_6 P) .nil .nil) (.node (o239_7 P) .nil .nil))
noncomputable def u116 (P : Params) : BT := .node (o15_e P) (u114 P) (u115 P)
noncomputable def u117 (P : Params) : BT := .node (o39_2 P) (.node (o71_4 P) (.node (o135_6 P) (.node (o263_7 P) .nil .nil) .nil) (.node (o199_6 P) .nil .nil)) (.node (o103_5 P) (.node (o167_6 P) .nil .nil) (.node (o231_6 P) .nil .nil))
noncomputable def u118 (P : Params) : BT := .node (o55_3 P) (.node (o87_5 P) (.node (o151_6 P) .nil .nil) (.node (o215_6 P) .nil .nil)) (.node (o119_6 P) (.node (o183_6 P) .nil .nil) (.node (o247_7 P) .nil .nil))
noncomputable def u119 (P : Params) : BT := .node (o23_e P) (u117 P) (u118 P)
noncomputable def u120 (P : Params) : BT := .node (o35_0 P) (.node (o67_4 P) (.node (o131_6 P) (.node (o259_7 P) .nil .nil) .nil) (.node (o195_6 P) .nil .nil)) (.node (o99_5 P) (.node (o163_6 P) .nil .nil) (.node (o227_6 P) .nil .nil))
noncomputable def u121 (P : Params) : BT := .node (o51_3 P) (.node (o83_5 P) (.node (o147_6 P) (.node (o275_7 P) .nil .nil) .nil) (.node (o211_6 P) .nil .nil)) (.node (o115_6 P) (.node (o179_6 P) .nil .nil) (.node (o243_7 P) .nil .nil))
noncomputable def u122 (P : Params) : BT := .node (o19_e P) (u120 P) (u121 P)
noncomputable def u123 (P : Params) : BT := .node (o43_3 P) (.node (o75_4 P) (.node (o139_6 P) (.node (o267_7 P) .nil .nil) .nil) (.node (o203_6 P) .nil .nil)) (.node (o107_5 P) (.node (o171_6 P) .nil .nil) (.node (o235_6 P) .nil .nil))
noncomputable def u124 (P : Params) : BT := .node (o59_3 P) (.node (o91_5 P) (.node (o155_6 P) .nil .nil) (.node (o219_6 P) .nil .nil)) (.node (o123_6 P) (.node (o187_6 P) .nil .nil) (.node (o251_7 P) .nil .nil))
noncomputable def u125 (P : Params) : BT := .node (o27_e P) (u123 P) (u124 P)
noncomputable def u126 (P : Params) : BT := .node (o33_0 P) (.node (o65_3 P) (.node (o129_6 P) (.node (o257_7 P) .nil .nil) .nil) (.node (o193_6 P) .nil .nil)) (.node (o97_5 P) (.node (o161_6 P) .nil .nil) (.node (o225_6 P) .nil .nil))
noncomputable def u127 (P : Params) : BT := .node (o49_3 P) (.node (o81_4 P) (.node (o145_6 P) (.node (o273_7 P) .nil .nil) .nil) (.node (o209_6 P) .nil .nil)) (.node (o113_6 P) (.node (o177_6 P) .nil .nil) (.node (o241_7 P) .nil .nil))
noncomputable def u128 (P : Params) : BT := .node (o17_e P) (u126 P) (u127 P)
noncomputable def u129 (P : Params) : BT := .node (o41_2 P) (.node (o73_4 P) (.node (o137_6 P) (.node (o265_7 P) .nil .nil) .nil) (.node (o201_6 P) .nil .nil)) (.node (o105_5 P) (.node (o169_6 P) .nil .nil) (.node (o233_6 P) .nil .nil))
noncomputable def u130 (P : Params) : BT := .node (o57_3 P) (.node (o89_5 P) (.node (o153_6 P) .nil .nil) (.node (o217_6 P) .nil .nil)) (.node (o121_6 P) (.node (o185_6 P) .nil .nil) (.node (o249_7 P) .nil .nil))
noncomputable def u131 (P : Params) : BT := .node (o25_e P) (u129 P) (u130 P)
noncomputable def u132 (P : Params) : BT := .node (o37_0 P) (.node (o69_4 P) (.node (o133_6 P) (.node (o261_7 P) .nil .nil) .nil) (.node (o197_6 P) .nil .nil)) (.node (o101_5 P) (.node (o165_6 P) .nil .nil) (.node (o229_6 P) .nil .nil))
noncomputable def u133 (P : Params) : BT := .node (o53_3 P) (.node (o85_5 P) (.node (o149_6 P) .nil .nil) (.node (o213_6 P) .nil .nil)) (.node (o117_6 P) (.node (o181_6 P) .nil .nil) (.node (o245_7 P) .nil .nil))
noncomputable def u134 (P : Params) : BT := .node (o21_e P) (u132 P) (u133 P)
noncomputable def u135 (P : Params) : BT := .node (o45_3 P) (.node (o77_4 P) (.node (o141_6 P) (.node (o269_7 P) .nil .nil) .nil) (.node (o205_6 P) .nil .nil)) (.node (o109_5 P) (.node (o173_6 P) .nil .nil) (.node (o237_6 P) .nil .nil))
noncomputable def u136 (P : Params) : BT := .node (o61_3 P) (.node (o93_5 P) (.node (o157_6 P) .nil .nil) (.node (o221_6 P) .nil .nil)) (.node (o125_6 P) (.node (o189_6 P) .nil .nil) (.node (o253_7 P) .nil .nil))
noncomputable def u137 (P : Params) : BT := .node (o29_7 P) (u135 P) (u136 P)
noncomputable def u138 (P : Params) : BT := .node (o32_0 P) (.node (o64_3 P) (.node (o128_6 P) (.node (o256_7 P) .nil .nil) .nil) (.node (o192_6 P) .nil .nil)) (.node (o96_5 P) (.node (o160_6 P) .nil .nil) (.node (o224_6 P) .nil .nil))
noncomputable def u139 (P : Params) : BT := .node (o48_3 P) (.node (o80_4 P) (.node (o144_6 P) (.node (o272_7 P) .nil .nil) .nil) (.node (o208_6 P) .nil .nil)) (.node (o112_5 P) (.node (o176_6 P) .nil .nil) (.node (o240_7 P) .nil .nil))
noncomputable def u140 (P : Params) : BT := .node (o16_e P) (u138 P) (u139 P)
noncomputable def u141 (P : Params) : BT := .node (o40_2 P) (.node (o72_4 P) (.node (o136_6 P) (.node (o264_7 P) .nil .nil) .nil) (.node (o200_6 P) .nil .nil)) (.node (o104_5 P) (.node (o168_6 P) .nil .nil) (.node (o232_6 P) .nil .nil))
noncomputable def u142 (P : Params) : BT := .node (o56_3 P) (.node (o88_5 P) (.node (o152_6 P) .nil .nil) (.node (o216_6 P) .nil .nil)) (.node (o120_6 P) (.node (o184_6 P) .nil .nil) (.node (o248_7 P) .nil .nil))
noncomputable def u143 (P : Params) : BT := .node (o24_e P) (u141 P) (u142 P)
noncomputable def u144 (P : Params) : BT := .node (o36_0 P) (.node (o68_4 P) (.node (o132_6 P) (.node (o260_7 P) .nil .nil) .nil) (.node (o196_6 P) .nil .nil)) (.node (o100_5 P) (.node (o164_6 P) .nil .nil) (.node (o228_6 P) .nil .nil))
noncomputable def u145 (P : Params) : BT := .node (o52_3 P) (.node (o84_5 P) (.node (o148_6 P) .nil .nil) (.node (o212_6 P) .nil .nil)) (.node (o116_6 P) (.node (o180_6 P) .nil .nil) (.node (o244_7 P) .nil .nil))
noncomputable def u146 (P : Params) : BT := .node (o20_e P) (u144 P) (u145 P)
noncomputable def u147 (P : Params) : BT := .node (o44_3 P) (.node (o76_4 P) (.node (o140_6 P) (.node (o268_7 P) .nil .nil) .nil) (.node (o204_6 P) .nil .nil)) (.node (o108_5 P) (.node (o172_6 P) .nil .nil) (.node (o236_6 P) .nil .nil))
noncomputable def u148 (P : Params) : BT := .node (o60_3 P) (.node (o92_5 P) (.node (o156_6 P) .nil .nil) (.node (o220_6 P) .nil .nil)) (.node (o124_6 P) (.node (o188_6 P) .nil .nil) (.node (o252_7 P) .nil .nil))
noncomputable def u149 (P : Params) : BT := .node (o28_a P) (u147 P) (u148 P)
noncomputable def u150 (P : Params) : BT := .node (o34_0 P) (.node (o66_4 P) (.node (o130_6 P) (.node (o258_7 P) .nil .nil) .nil) (.node (o194_6 P) .nil .nil)) (.node (o98_5 P) (.node (o162_6 P) .nil .nil) (.node (o226_6 P) .nil .nil))
noncomputable def u151 (P : Params) : BT := .node (o50_3 P) (.node (o82_4 P) (.node (o146_6 P) (.node (o274_7 P) .nil .nil) .nil) (.node (o210_6 P) .nil .nil)) (.node (o114_6 P) (.node (o178_6 P) .nil .nil) (.node (o242_7 P) .nil .nil))
noncomputable def u152 (P : Params) : BT := .node (o18_e P) (u150 P) (u151 P)
noncomputable def u153 (P : Params) : BT := .node (o42_3 P) (.node (o74_4 P) (.node (o138_6 P) (.node (o266_7 P) .nil .nil) .nil) (.node (o202_6 P) .nil .nil)) (.node (o106_5 P) (.node (o170_6 P) .nil .nil) (.node (o234_6 P) .nil .nil))
noncomputable def u154 (P : Params) : BT := .node (o58_3 P) (.node (o90_5 P) (.node (o154_6 P) .nil .nil) (.node (o218_6 P) .nil .nil)) (.node (o122_6 P) (.node (o186_6 P) .nil .nil) (.node (o250_7 P) .nil .nil))
noncomputable def u155 (P : Params) : BT := .node (o26_e P) (u153 P) (u154 P)
noncomputable def u156 (P : Params) : BT := .node (o38_0 P) (.node (o70_4 P) (.node (o134_6 P) (.node (o262_7 P) .nil .nil) .nil) (.node (o198_6 P) .nil .nil)) (.node (o102_5 P) (.node (o166_6 P) .nil .nil) (.node (o230_6 P) .nil .nil))
noncomputable def u157 (P : Params) : BT := .node (o54_3 P) (.node (o86_5 P) (.node (o150_6 P) .nil .nil) (.node (o214_6 P) .nil .nil)) (.node (o118_6 P) (.node (o182_6 P) .nil .nil) (.node (o246_7 P) .nil .nil))
noncomputable def u158 (P : Params) : BT := .node (o22_e P) (u156 P) (u157 P)
noncomputable def u159 (P : Params) : BT := .node (o46_3 P) (.node (o78_4 P) (.node (o142_6 P) (.node (o270_7 P) .nil .nil) .nil) (.node (o206_6 P) .nil .nil)) (.node (o110_5 P) (.node (o174_6 P) .nil .nil) (.node (o238_7 P) .nil .nil))
noncomputable def u160 (P : Params) : BT := .node (o62_3 P) (.node (o94_5 P) (.node (o158_6 P) .nil .nil) (.node (o222_6 P) .nil .nil)) (.node (o126_6 P) (.node (o190_6 P) .nil .nil) (.node (o254_7 P) .nil .nil))
noncomputable def u161 (P : Params) : BT := .node (o30_a P) (u159 P) (u160 P)
noncomputable def T_7 (P : Params) : BT := (.node (o0_e P) (.node (o1_e P) (.node (o3_7 P) (.node (o7_e P) (u116 P) (u119 P)) (.node (o11_0 P) (u122 P) (u125 P))) (.node (o5_e P) (.node (o9_e P) (u128 P) (u131 P)) (.node (o13_e P) (u134 P) (u137 P)))) (.node (o2_e P) (.node (o4_e P) (.node (o8_e P) (u140 P) (u143 P)) (.node (o12_e P) (u146 P) (u149 P))) (.node (o6_e P) (.node (o10_e P) (u152 P) (u155 P)) (.node (o14_e P) (u158 P) (u161 P)))))
noncomputable def S_7 (w : World) (os : OsState) : SharedT := ⟨T_7 w.params, 276, life, #[], dr, 939, os⟩
noncomputable def sts_7 : List Stmt := [st_68, st_69, st_70, st_71, st_72, st_73, st_74]
noncomputable def h0 (P : Params) (r : List Obj) : List Obj := (o0_e P) :: (o1_e P) :: (o2_e P) :: (o3_7 P) :: (o4_e P) :: (o5_e P) :: (o6_e P) :: (o7_e P) :: (o8_e P) :: (o9_e P) :: (o10_e P) :: (o11_0 P) :: (o12_e P) :: (o13_e P) :: r
noncomputable def h1 (P : Params) (r : List Obj) : List Obj := (o14_e P) :: (o15_e P) :: (o16_e P) :: (o17_e P) :: (o18_e P) :: (o19_e P) :: (o20_e P) :: (o21_e P) :: (o22_e P) :: (o23_e P) :: (o24_e P) :: (o25_e P) :: (o26_e P) :: (o27_e P) :: r
noncomputable def h2 (P : Params) (r : List Obj) : List Obj := (o28_a P) :: (o29_7 P) :: (o30_a P) :: (o31_a P) :: (o32_0 P) :: (o33_0 P) :: (o34_0 P) :: (o35_0 P) :: (o36_0 P) :: (o37_0 P) :: (o38_0 P) :: (o39_2 P) :: (o40_2 P) :: (o41_2 P) :: r
noncomputable def h3 (P : Params) (r : List Obj) : List Obj := (o42_3 P) :: (o43_3 P) :: (o44_3 P) :: (o45_3 P) :: (o46_3 P) :: (o47_3 P) :: (o48_3 P) :: (o49_3 P) :: (o50_3 P) :: (o51_3 P) :: (o52_3 P) :: (o53_3 P) :: (o54_3 P) :: (o55_3 P) :: r
noncomputable def h4 (P : Params) (r : List Obj) : List Obj := (o56_3 P) :: (o57_3 P) :: (o58_3 P) :: (o59_3 P) :: (o60_3 P) :: (o61_3 P) :: (o62_3 P) :: (o63_3 P) :: (o64_3 P) :: (o65_3 P) :: (o66_4 P) :: (o67_4 P) :: (o68_4 P) :: (o69_4 P) :: r
noncomputable def h5 (P : Params) (r : List Obj) : List Obj := (o70_4 P) :: (o71_4 P) :: (o72_4 P) :: (o73_4 P) :: (o74_4 P) :: (o75_4 P) :: (o76_4 P) :: (o77_4 P) :: (o78_4 P) :: (o79_4 P) :: (o80_4 P) :: (o81_4 P) :: (o82_4 P) :: (o83_5 P) :: r
noncomputable def h6 (P : Params) (r : List Obj) : List Obj := (o84_5 P) :: (o85_5 P) :: (o86_5 P) :: (o87_5 P) :: (o88_5 P) :: (o89_5 P) :: (o90_5 P) :: (o91_5 P) :: (o92_5 P) :: (o93_5 P) :: (o94_5 P) :: (o95_5 P) :: (o96_5 P) :: (o97_5 P) :: r
noncomputable def h7 (P : Params) (r : List Obj) : List Obj := (o98_5 P) :: (o99_5 P) :: (o100_5 P) :: (o101_5 P) :: (o102_5 P) :: (o103_5 P) :: (o104_5 P) :: (o105_5 P) :: (o106_5 P) :: (o107_5 P) :: (o108_5 P) :: (o109_5 P) :: (o110_5 P) :: (o111_5 P) :: r
noncomputable def h8 (P : Params) (r : List Obj) : List Obj := (o112_5 P) :: (o113_6 P) :: (o114_6 P) :: (o115_6 P) :: (o116_6 P) :: (o117_6 P) :: (o118_6 P) :: (o119_6 P) :: (o120_6 P) :: (o121_6 P) :: (o122_6 P) :: (o123_6 P) :: (o124_6 P) :: (o125_6 P) :: r
noncomputable def h9 (P : Params) (r : List Obj) : List Obj := (o126_6 P) :: (o127_6 P) :: (o128_6 P) :: (o129_6 P) :: (o130_6 P) :: (o131_6 P) :: (o132_6 P) :: (o133_6 P) :: (o134_6 P) :: (o135_6 P) :: (o136_6 P) :: (o137_6 P) :: (o138_6 P) :: (o139_6 P) :: r
noncomputable def h10 (P : Params) (r : List Obj) : List Obj := (o140_6 P) :: (o141_6 P) :: (o142_6 P) :: (o143_6 P) :: (o144_6 P) :: (o145_6 P) :: (o146_6 P) :: (o147_6 P) :: (o148_6 P) :: (o149_6 P) :: (o150_6 P) :: (o151_6 P) :: (o152_6 P) :: (o153_6 P) :: r
noncomputable def h11 (P : Params) (r : List Obj) : List Obj := (o154_6 P) :: (o155_6 P) :: (o156_6 P) :: (o157_6 P) :: (o158_6 P) :: (o159_6 P) :: (o160_6 P) :: (o161_6 P) :: (o162_6 P) :: (o163_6 P) :: (o164_6 P) :: (o165_6 P) :: (o166_6 P) :: (o167_6 P) :: r
noncomputable def h12 (P : Params) (r : List Obj) : List Obj := (o168_6 P) :: (o169_6 P) :: (o170_6 P) :: (o171_6 P) :: (o172_6 P) :: (o173_6 P) :: (o174_6 P) :: (o175_6 P) :: (o176_6 P) :: (o177_6 P) :: (o178_6 P) :: (o179_6 P) :: (o180_6 P) :: (o181_6 P) :: r
noncomputable def h13 (P : Params) (r : List Obj) : List Obj := (o182_6 P) :: (o183_6 P) :: (o184_6 P) :: (o185_6 P) :: (o186_6 P) :: (o187_6 P) :: (o188_6 P) :: (o189_6 P) :: (o190_6 P) :: (o191_6 P) :: (o192_6 P) :: (o193_6 P) :: (o194_6 P) :: (o195_6 P) :: r
noncomputable def h14 (P : Params) (r : List Obj) : List Obj := (o196_6 P) :: (o197_6 P) :: (o198_6 P) :: (o199_6 P) :: (o200_6 P) :: (o201_6 P) :: (o202_6 P) :: (o203_6 P) :: (o204_6 P) :: (o205_6 P) :: (o206_6 P) :: (o207_6 P) :: (o208_6 P) :: (o209_6 P) :: r
noncomputable def h15 (P : Params) (r : List Obj) : List Obj := (o210_6 P) :: (o211_6 P) :: (o212_6 P) :: (o213_6 P) :: (o214_6 P) :: (o215_6 P) :: (o216_6 P) :: (o217_6 P) :: (o218_6 P) :: (o219_6 P) :: (o220_6 P) :: (o221_6 P) :: (o222_6 P) :: (o223_6 P) :: r
noncomputable def h16 (P : Params) (r : List Obj) : List Obj := (o224_6 P) :: (o225_6 P) :: (o226_6 P) :: (o227_6 P) :: (o228_6 P) :: (o229_6 P) :: (o230_6 P) :: (o231_6 P) :: (o232_6 P) :: (o233_6 P) :: (o234_6 P) :: (o235_6 P) :: (o236_6 P) :: (o237_6 P) :: r
noncomputable def h17 (P : Params) (r : List Obj) : List Obj := (o238_7 P) :: (o239_7 P) :: (o240_7 P) :: (o241_7 P) :: (o242_7 P) :: (o243_7 P) :: (o244_7 P) :: (o245_7 P) :: (o246_7 P) :: (o247_7 P) :: (o248_7 P) :: (o249_7 P) :: (o250_7 P) :: (o251_7 P) :: r
noncomputable def h18 (P : Params) (r : List Obj) : List Obj := (o252_7 P) :: (o253_7 P) :: (o254_7 P) :: (o255_7 P) :: (o256_7 P) :: (o257_7 P) :: (o258_7 P) :: (o259_7 P) :: (o260_7 P) :: (o261_7 P) :: (o262_7 P) :: (o263_7 P) :: (o264_7 P) :: (o265_7 P) :: r
noncomputable def h19 (P : Params) (r : List Obj) : List Obj := (o266_7 P) :: (o267_7 P) :: (o268_7 P) :: (o269_7 P) :: (o270_7 P) :: (o271_7 P) :: (o272_7 P) :: (o273_7 P) :: (o274_7 P) :: (o275_7 P) :: r
noncomputable def H_f (P : Params) : Heap := ⟨(h0 P (h1 P (h2 P (h3 P (h4 P (h5 P (h6 P (h7 P (h8 P (h9 P (h10 P (h11 P (h12 P (h13 P (h14 P (h15 P (h16 P (h17 P (h18 P (h19 P [])))))))))))))))))))).toArray, life⟩

theorem pw_eq : pw_sh0051_01 = pwL := by kernel_rfl
theorem op_eq : opening pwL = opL := by kernel_rfl
theorem opF (w : World) : PySem.W.Fast.tw10274390034422433532 PySem.W.Fast.tw14364793385576792824 opL w 800 (PySem.W.Fast.tw1435165496053646825 opL).1 (PySem.W.Fast.tw1435165496053646825 opL).2 = some ⟨H_e w.params, #[], dr, 276, (PySem.W.Fast.tw1435165496053646825 opL).1.os⟩ := by kernel_rfl
theorem op_run (w : World) : importEnds treeTable opL w 800 (start opL).1 (start opL).2 = some ⟨H_e w.params, #[], dr, 276, (start opL).1.os⟩ := by
  rw [PySem.W.Fast.te10274390034422433532, PySem.W.Fast.te14364793385576792824, PySem.W.Fast.te1435165496053646825]; exact opF w
theorem fenceF (w : World) : (fun os : OsState => (PySem.W.Fast.tw14289696077712309145 pwL ⟨H_e w.params, #[], dr, 276, os⟩).map (fun s => (s.heap, s.gens, s.drawn, s.toks))) = fun _ => some (H_0 w.params, #[], dr, 276) := by kernel_rfl
theorem fence_run (w : World) : (fun os : OsState => (fenceModules? pwL ⟨H_e w.params, #[], dr, 276, os⟩).map (fun s => (s.heap, s.gens, s.drawn, s.toks))) = fun _ => some (H_0 w.params, #[], dr, 276) := by
  rw [PySem.W.Fast.te14289696077712309145]; exact fenceF w
theorem open_ok : ∀ w : World, (fencedOpening treeTable pwL w 8000).map (fun s => (s.heap, s.gens, s.drawn, s.toks)) = some (H_0 w.params, #[], dr, 276) :=
  open_cut (He := H_e) (M := 800) (fun w => by rw [op_eq]; exact op_run w) (by decide) fence_run
theorem preF (w : World) (os : OsState) : PySem.W.Fast.tw15667345088766844465 PySem.W.Fast.tw14364793385576792824 pwL w 28 (some (.ref 6)) 12 ⟨H_0 w.params, #[], dr, 276, os⟩ (topStub pwL) = some (⟨H_a w.params, #[], dr, 282, os⟩, ⟨PySem.W.Fast.tw11892475500146522536 PySem.W.Fast.tw14364793385576792824 (Code.body (behindTheImports pwL) env_), (Code.body (behindTheImports pwL) env_), ⟨0, 0, 0, 0⟩, [topFrame ⟨0, 0, 0, 0⟩]⟩) := by kernel_rfl
theorem pre_run (w : World) (os : OsState) : topGo treeTable pwL w 28 (some (.ref 6)) 12 ⟨H_0 w.params, #[], dr, 276, os⟩ (topStub pwL) = some (⟨H_a w.params, #[], dr, 282, os⟩, ⟨denote treeTable (Code.body (behindTheImports pwL) env_), (Code.body (behindTheImports pwL) env_), ⟨0, 0, 0, 0⟩, [topFrame ⟨0, 0, 0, 0⟩]⟩) := by
  rw [PySem.W.Fast.te15667345088766844465, PySem.W.Fast.te14364793385576792824, PySem.W.Fast.te11892475500146522536]; exact preF w os
theorem blkF (w : World) (os : OsState) : PySem.W.Fast.tw14374325043358763698 PySem.W.Fast.tw14364793385576792824 pwL w 28 (some (.ref 6)) 1 1 ⟨H_a w.params, #[], dr, 282, os⟩ (blockOf (behindTheImports pwL) env_ (Code.body (behindTheImports pwL) env_) ⟨0, 0, 0, 0⟩ [topFrame ⟨0, 0, 0, 0⟩]) = some (Flow.next, (S_b w os).abs, (Code.body (behindTheImports pwL) env_), ⟨0, 0, 0, 0⟩) := by kernel_rfl
theorem blk_run (w : World) (os : OsState) : segRun treeTable pwL w 28 (some (.ref 6)) 1 1 ⟨H_a w.params, #[], dr, 282, os⟩ (blockOf (behindTheImports pwL) env_ (Code.body (behindTheImports pwL) env_) ⟨0, 0, 0, 0⟩ [topFrame ⟨0, 0, 0, 0⟩]) = some (Flow.next, (S_b w os).abs, (Code.body (behindTheImports pwL) env_), ⟨0, 0, 0, 0⟩) := by
  rw [PySem.W.Fast.te14374325043358763698, PySem.W.Fast.te14364793385576792824]; exact blkF w os
theorem pcF_0_0 (w : World) (os : OsState) : PySem.W.Fast.tw10110043849684766642 PySem.W.Fast.tw14364793385576792824 pwL w 28 (some (.ref 6)) 1 399 (S_b w os) (piecesOf sts_0 env_ (Code.body (behindTheImports pwL) env_) ⟨0, 0, 0, 0⟩ [topFrame ⟨0, 0, 0, 0⟩]) = some (Flow.next, S_0 w os, (Code.body (behindTheImports pwL) env_), ⟨45, 0, 45, 15⟩) := by kernel_rfl
theorem pc_0 (w : World) : ∀ os : OsState, segRunT treeTable pwL w 28 (some (.ref 6)) 1 399 (S_b w os) (piecesOf sts_0 env_ (Code.body (behindTheImports pwL) env_) ⟨0, 0, 0, 0⟩ [topFrame ⟨0, 0, 0, 0⟩]) = some (Flow.next, S_0 w os, (Code.body (behindTheImports pwL) env_), ⟨45, 0, 45, 15⟩) := by
  intro os; rw [PySem.W.Fast.te10110043849684766642, PySem.W.Fast.te14364793385576792824]; exact pcF_0_0 w os
theorem pcF_1_0 (w : World) (os : OsState) : PySem.W.Fast.tw10110043849684766642 PySem.W.Fast.tw14364793385576792824 pwL w 28 (some (.ref 6)) 1 82 (S_0 w os) (piecesOf sts_1 env_ (Code.body (behindTheImports pwL) env_) ⟨45, 0, 45, 15⟩ [topFrame ⟨0, 0, 0, 0⟩]) = some (Flow.next, S_1 w os, (Code.body (behindTheImports pwL) env_), ⟨54, 0, 54, 11⟩) := by kernel_rfl
theorem pc_1 (w : World) : ∀ os : OsState, segRunT treeTable pwL w 28 (some (.ref 6)) 1 82 (S_0 w os) (piecesOf sts_1 env_ (Code.body (behindTheImports pwL) env_) ⟨45, 0, 45, 15⟩ [topFrame ⟨0, 0, 0, 0⟩]) = some (Flow.next, S_1 w os, (Code.body (behindTheImports pwL) env_), ⟨54, 0, 54, 11⟩) := by
  intro os; rw [PySem.W.Fast.te10110043849684766642, PySem.W.Fast.te14364793385576792824]; exact pcF_1_0 w os
theorem pcF_2_0 (w : World) (os : OsState) : PySem.W.Fast.tw10110043849684766642 PySem.W.Fast.tw14364793385576792824 pwL (w.withFollow "special-get-raises" false) 28 (some (.ref 6)) 1 979 (S_1 (w.withFollow "special-get-raises" false) os) (piecesOf sts_2 env_ (Code.body (behindTheImports pwL) env_) ⟨54, 0, 54, 11⟩ [topFrame ⟨0, 0, 0, 0⟩]) = some (Flow.next, S_2 (w.withFollow "special-get-raises" false) os, (Code.body (behindTheImports pwL) env_), ⟨55, 0, 55, 17⟩) := by kernel_rfl
theorem pcF_2_1 (w : World) (os : OsState) : PySem.W.Fast.tw10110043849684766642 PySem.W.Fast.tw14364793385576792824 pwL (w.withFollow "special-get-raises" true) 28 (some (.ref 6)) 1 979 (S_1 (w.withFollow "special-get-raises" true) os) (piecesOf sts_2 env_ (Code.body (behindTheImports pwL) env_) ⟨54, 0, 54, 11⟩ [topFrame ⟨0, 0, 0, 0⟩]) = some (Flow.next, S_2 (w.withFollow "special-get-raises" true) os, (Code.body (behindTheImports pwL) env_), ⟨55, 0, 55, 17⟩) := by kernel_rfl
theorem pc_2 (w : World) : ∀ os : OsState, segRunT treeTable pwL w 28 (some (.ref 6)) 1 979 (S_1 w os) (piecesOf sts_2 env_ (Code.body (behindTheImports pwL) env_) ⟨54, 0, 54, 11⟩ [topFrame ⟨0, 0, 0, 0⟩]) = some (Flow.next, S_2 w os, (Code.body (behindTheImports pwL) env_), ⟨55, 0, 55, 17⟩) := by
  refine byRow2 "special-get-raises" (P := fun w => ∀ os : OsState, segRunT treeTable pwL w 28 (some (.ref 6)) 1 979 (S_1 w os) (piecesOf sts_2 env_ (Code.body (behindTheImports pwL) env_) ⟨54, 0, 54, 11⟩ [topFrame ⟨0, 0, 0, 0⟩]) = some (Flow.next, S_2 w os, (Code.body (behindTheImports pwL) env_), ⟨55, 0, 55, 17⟩)) ?_ ?_ w
  · intro w os; rw [PySem.W.Fast.te10110043849684766642, PySem.W.Fast.te14364793385576792824]; exact pcF_2_0 w os
  · intro w os; rw [PySem.W.Fast.te10110043849684766642, PySem.W.Fast.te14364793385576792824]; exact pcF_2_1 w os
theorem pcF_3_0 (w : World) (os : OsState) : PySem.W.Fast.tw10110043849684766642 PySem.W.Fast.tw14364793385576792824 pwL w 28 (some (.ref 6)) 1 230 (S_2 w os) (piecesOf sts_3 env_ (Code.body (behindTheImports pwL) env_) ⟨55, 0, 55, 17⟩ [topFrame ⟨0, 0, 0, 0⟩]) = some (Flow.next, S_3 w os, (Code.body (behindTheImports pwL) env_), ⟨64, 0, 64, 8⟩) := by kernel_rfl
theorem pc_3 (w : World) : ∀ os : OsState, segRunT treeTable pwL w 28 (some (.ref 6)) 1 230 (S_2 w os) (piecesOf sts_3 env_ (Code.body (behindTheImports pwL) env_) ⟨55, 0, 55, 17⟩ [topFrame ⟨0, 0, 0, 0⟩]) = some (Flow.next, S_3 w os, (Code.body (behindTheImports pwL) env_), ⟨64, 0, 64, 8⟩) := by
  intro os; rw [PySem.W.Fast.te10110043849684766642, PySem.W.Fast.te14364793385576792824]; exact pcF_3_0 w os
theorem pcF_4_0 (w : World) (os : OsState) : PySem.W.Fast.tw10110043849684766642 PySem.W.Fast.tw14364793385576792824 pwL ((w.withFollow "special-get-raises" false).withFollow "set-order" false) 28 (some (.ref 6)) 1 775 (S_3 ((w.withFollow "special-get-raises" false).withFollow "set-order" false) os) (piecesOf sts_4 env_ (Code.body (behindTheImports pwL) env_) ⟨64, 0, 64, 8⟩ [topFrame ⟨0, 0, 0, 0⟩]) = some (Flow.next, S_4 ((w.withFollow "special-get-raises" false).withFollow "set-order" false) os, (Code.body (behindTheImports pwL) env_), ⟨65, 0, 65, 6⟩) := by kernel_rfl
theorem pcF_4_1 (w : World) (os : OsState) : PySem.W.Fast.tw10110043849684766642 PySem.W.Fast.tw14364793385576792824 pwL ((w.withFollow "special-get-raises" true).withFollow "set-order" false) 28 (some (.ref 6)) 1 775 (S_3 ((w.withFollow "special-get-raises" true).withFollow "set-order" false) os) (piecesOf sts_4 env_ (Code.body (behindTheImports pwL) env_) ⟨64, 0, 64, 8⟩ [topFrame ⟨0, 0, 0, 0⟩]) = some (Flow.next, S_4 ((w.withFollow "special-get-raises" true).withFollow "set-order" false) os, (Code.body (behindTheImports pwL) env_), ⟨65, 0, 65, 6⟩) := by kernel_rfl
theorem pcF_4_2 (w : World) (os : OsState) : PySem.W.Fast.tw10110043849684766642 PySem.W.Fast.tw14364793385576792824 pwL ((w.withFollow "special-get-raises" false).withFollow "set-order" true) 28 (some (.ref 6)) 1 775 (S_3 ((w.withFollow "special-get-raises" false).withFollow "set-order" true) os) (piecesOf sts_4 env_ (Code.body (behindTheImports pwL) env_) ⟨64, 0, 64, 8⟩ [topFrame ⟨0, 0, 0, 0⟩]) = some (Flow.next, S_4 ((w.withFollow "special-get-raises" false).withFollow "set-order" true) os, (Code.body (behindTheImports pwL) env_), ⟨65, 0, 65, 6⟩) := by kernel_rfl
theorem pcF_4_3 (w : World) (os : OsState) : PySem.W.Fast.tw10110043849684766642 PySem.W.Fast.tw14364793385576792824 pwL ((w.withFollow "special-get-raises" true).withFollow "set-order" true) 28 (some (.ref 6)) 1 775 (S_3 ((w.withFollow "special-get-raises" true).withFollow "set-order" true) os) (piecesOf sts_4 env_ (Code.body (behindTheImports pwL) env_) ⟨64, 0, 64, 8⟩ [topFrame ⟨0, 0, 0, 0⟩]) = some (Flow.next, S_4 ((w.withFollow "special-get-raises" true).withFollow "set-order" true) os, (Code.body (behindTheImports pwL) env_), ⟨65, 0, 65, 6⟩) := by kernel_rfl
theorem pc_4 (w : World) : ∀ os : OsState, segRunT treeTable pwL w 28 (some (.ref 6)) 1 775 (S_3 w os) (piecesOf sts_4 env_ (Code.body (behindTheImports pwL) env_) ⟨64, 0, 64, 8⟩ [topFrame ⟨0, 0, 0, 0⟩]) = some (Flow.next, S_4 w os, (Code.body (behindTheImports pwL) env_), ⟨65, 0, 65, 6⟩) := by
  refine byRow2 "set-order" (P := fun w => ∀ os : OsState, segRunT treeTable pwL w 28 (some (.ref 6)) 1 775 (S_3 w os) (piecesOf sts_4 env_ (Code.body (behindTheImports pwL) env_) ⟨64, 0, 64, 8⟩ [topFrame ⟨0, 0, 0, 0⟩]) = some (Flow.next, S_4 w os, (Code.body (behindTheImports pwL) env_), ⟨65, 0, 65, 6⟩)) ?_ ?_ w
  · intro w; refine byRow2 "special-get-raises" (P := fun w => ∀ os : OsState, segRunT treeTable pwL (w.withFollow "set-order" false) 28 (some (.ref 6)) 1 775 (S_3 (w.withFollow "set-order" false) os) (piecesOf sts_4 env_ (Code.body (behindTheImports pwL) env_) ⟨64, 0, 64, 8⟩ [topFrame ⟨0, 0, 0, 0⟩]) = some (Flow.next, S_4 (w.withFollow "set-order" false) os, (Code.body (behindTheImports pwL) env_), ⟨65, 0, 65, 6⟩)) ?_ ?_ w
    · intro w os; rw [PySem.W.Fast.te10110043849684766642, PySem.W.Fast.te14364793385576792824]; exact pcF_4_0 w os
    · intro w os; rw [PySem.W.Fast.te10110043849684766642, PySem.W.Fast.te14364793385576792824]; exact pcF_4_1 w os
  · intro w; refine byRow2 "special-get-raises" (P := fun w => ∀ os : OsState, segRunT treeTable pwL (w.withFollow "set-order" true) 28 (some (.ref 6)) 1 775 (S_3 (w.withFollow "set-order" true) os) (piecesOf sts_4 env_ (Code.body (behindTheImports pwL) env_) ⟨64, 0, 64, 8⟩ [topFrame ⟨0, 0, 0, 0⟩]) = some (Flow.next, S_4 (w.withFollow "set-order" true) os, (Code.body (behindTheImports pwL) env_), ⟨65, 0, 65, 6⟩)) ?_ ?_ w
    · intro w os; rw [PySem.W.Fast.te10110043849684766642, PySem.W.Fast.te14364793385576792824]; exact pcF_4_2 w os
    · intro w os; rw [PySem.W.Fast.te10110043849684766642, PySem.W.Fast.te14364793385576792824]; exact pcF_4_3 w os
theorem pcF_5_0 (w : World) (os : OsState) : PySem.W.Fast.tw10110043849684766642 PySem.W.Fast.tw14364793385576792824 pwL w 28 (some (.ref 6)) 1 295 (S_4 w os) (piecesOf sts_5 env_ (Code.body (behindTheImports pwL) env_) ⟨65, 0, 65, 6⟩ [topFrame ⟨0, 0, 0, 0⟩]) = some (Flow.next, S_5 w os, (Code.body (behindTheImports pwL) env_), ⟨72, 0, 80, 20⟩) := by kernel_rfl
theorem pc_5 (w : World) : ∀ os : OsState, segRunT treeTable pwL w 28 (some (.ref 6)) 1 295 (S_4 w os) (piecesOf sts_5 env_ (Code.body (behindTheImports pwL) env_) ⟨65, 0, 65, 6⟩ [topFrame ⟨0, 0, 0, 0⟩]) = some (Flow.next, S_5 w os, (Code.body (behindTheImports pwL) env_), ⟨72, 0, 80, 20⟩) := by
  intro os; rw [PySem.W.Fast.te10110043849684766642, PySem.W.Fast.te14364793385576792824]; exact pcF_5_0 w os
theorem pcF_6_0 (w : World) (os : OsState) : PySem.W.Fast.tw10110043849684766642 PySem.W.Fast.tw14364793385576792824 pwL w 28 (some (.ref 6)) 1 727 (S_5 w os) (piecesOf sts_6 env_ (Code.body (behindTheImports pwL) env_) ⟨72, 0, 80, 20⟩ [topFrame ⟨0, 0, 0, 0⟩]) = some (Flow.next, S_6 w os, (Code.body (behindTheImports pwL) env_), ⟨81, 0, 162, 93⟩) := by kernel_rfl
theorem pc_6 (w : World) : ∀ os : OsState, segRunT treeTable pwL w 28 (some (.ref 6)) 1 727 (S_5 w os) (piecesOf sts_6 env_ (Code.body (behindTheImports pwL) env_) ⟨72, 0, 80, 20⟩ [topFrame ⟨0, 0, 0, 0⟩]) = some (Flow.next, S_6 w os, (Code.body (behindTheImports pwL) env_), ⟨81, 0, 162, 93⟩) := by
  intro os; rw [PySem.W.Fast.te10110043849684766642, PySem.W.Fast.te14364793385576792824]; exact pcF_6_0 w os
theorem pcF_7_0 (w : World) (os : OsState) : PySem.W.Fast.tw10110043849684766642 PySem.W.Fast.tw14364793385576792824 pwL w 28 (some (.ref 6)) 1 200 (S_6 w os) (piecesOf sts_7 env_ (Code.body (behindTheImports pwL) env_) ⟨81, 0, 162, 93⟩ [topFrame ⟨0, 0, 0, 0⟩]) = some (Flow.next, S_7 w os, (Code.body (behindTheImports pwL) env_), ⟨217, 0, 229, 69⟩) := by kernel_rfl
theorem pc_7 (w : World) : ∀ os : OsState, segRunT treeTable pwL w 28 (some (.ref 6)) 1 200 (S_6 w os) (piecesOf sts_7 env_ (Code.body (behindTheImports pwL) env_) ⟨81, 0, 162, 93⟩ [topFrame ⟨0, 0, 0, 0⟩]) = some (Flow.next, S_7 w os, (Code.body (behindTheImports pwL) env_), ⟨217, 0, 229, 69⟩) := by
  intro os; rw [PySem.W.Fast.te10110043849684766642, PySem.W.Fast.te14364793385576792824]; exact pcF_7_0 w os
theorem finF (w : World) (os : OsState) : PySem.W.Fast.tw14082659384304107361 PySem.W.Fast.tw14364793385576792824 pwL w 28 (some (.ref 6)) 2 (S_7 w os).abs ⟨doneF .next, (Code.body (behindTheImports pwL) env_), ⟨217, 0, 229, 69⟩, [topFrame ⟨0, 0, 0, 0⟩]⟩ = some ⟨H_f w.params, #[], dr, 939, os⟩ := by kernel_rfl
theorem fin_run (w : World) (os : OsState) : topRun treeTable pwL w 28 (some (.ref 6)) 2 (S_7 w os).abs ⟨doneF .next, (Code.body (behindTheImports pwL) env_), ⟨217, 0, 229, 69⟩, [topFrame ⟨0, 0, 0, 0⟩]⟩ = some ⟨H_f w.params, #[], dr, 939, os⟩ := by
  rw [PySem.W.Fast.te14082659384304107361, PySem.W.Fast.te14364793385576792824]; exact finF w os
theorem body_eq : behindTheImports pwL = sts_0 ++ (sts_1 ++ (sts_2 ++ (sts_3 ++ (sts_4 ++ (sts_5 ++ (sts_6 ++ (sts_7 ++ ([])))))))) := by kernel_rfl
theorem run_all (w : World) (os : OsState) : topRun treeTable pwL w 28 (some (.ref 6)) (12 + (1 + (399 + (82 + (979 + (230 + (775 + (295 + (727 + (200 + 2)))))))))) ⟨H_0 w.params, #[], dr, 276, os⟩ (topStub pwL) = some ⟨H_f w.params, #[], dr, 939, os⟩ := by
  refine go_top (pre_run w os) (piece_block (q := ⟨0, 0, 0, 0⟩) (blk_run w os) ?_)
  have hb : restOf (behindTheImports pwL) env_ (Code.body (behindTheImports pwL) env_) ⟨0, 0, 0, 0⟩ [topFrame ⟨0, 0, 0, 0⟩] = restOf (sts_0 ++ (sts_1 ++ (sts_2 ++ (sts_3 ++ (sts_4 ++ (sts_5 ++ (sts_6 ++ (sts_7 ++ ([]))))))))) env_ (Code.body (behindTheImports pwL) env_) ⟨0, 0, 0, 0⟩ [topFrame ⟨0, 0, 0, 0⟩] := congrArg (fun l => restOf l env_ (Code.body (behindTheImports pwL) env_) ⟨0, 0, 0, 0⟩ [topFrame ⟨0, 0, 0, 0⟩]) body_eq
  rw [hb]
  refine piece_app (segRun_of (pc_0 w os)) <| piece_app (segRun_of (pc_1 w os)) <| piece_app (segRun_of (pc_2 w os)) <| piece_app (segRun_of (pc_3 w os)) <| piece_app (segRun_of (pc_4 w os)) <| piece_app (segRun_of (pc_5 w os)) <| piece_app (segRun_of (pc_6 w os)) <| piece_app (segRun_of (pc_7 w os)) <| piece_nil (fin_run w os)
end Sh51
end
section
open PySem PySem.W PyProof.Rows
set_option Elab.async false
set_option maxRecDepth 100000
set_option maxHeartbeats 0
set_option linter.all false
namespace Sh51
open PySem.Challenge (pw_sh0051_01)
open PyData (keyHash)
noncomputable def ls0 (r : List Str) : List Str := .ofString "_wall" :: .ofString "ENDMARKER" :: .ofString "LPAR" :: .ofString "RPAR" :: .ofString "LSQB" :: .ofString "RSQB" :: .ofString "COLON" :: .ofString "COMMA" :: .ofString "SEMI" :: .ofString "PLUS" :: .ofString "MINUS" :: .ofString "STAR" :: .ofString "SLASH" :: .ofString "VBAR" :: .ofString "AMPER" :: .ofString "LESS" :: .ofString "GREATER" :: .ofString "EQUAL" :: .ofString "DOT" :: .ofString "PERCENT" :: r
noncomputable def ls1 (r : List Str) : List Str := .ofString "LBRACE" :: .ofString "RBRACE" :: .ofString "EQEQUAL" :: .ofString "NOTEQUAL" :: .ofString "LESSEQUAL" :: .ofString "GREATEREQUAL" :: .ofString "TILDE" :: .ofString "CIRCUMFLEX" :: .ofString "LEFTSHIFT" :: .ofString "RIGHTSHIFT" :: .ofString "DOUBLESTAR" :: .ofString "PLUSEQUAL" :: .ofString "MINEQUAL" :: .ofString "STAREQUAL" :: .ofString "SLASHEQUAL" :: .ofString "PERCENTEQUAL" :: .ofString "AMPEREQUAL" :: .ofString "VBAREQUAL" :: .ofString "CIRCUMFLEXEQUAL" :: .ofString "LEFTSHIFTEQUAL" :: r
noncomputable def ls2 (r : List Str) : List Str := .ofString "RIGHTSHIFTEQUAL" :: .ofString "DOUBLESTAREQUAL" :: .ofString "DOUBLESLASH" :: .ofString "DOUBLESLASHEQUAL" :: .ofString "AT" :: .ofString "ATEQUAL" :: .ofString "RARROW" :: .ofString "ELLIPSIS" :: .ofString "COLONEQUAL" :: .ofString "EXCLAMATION" :: .ofString "EXACT_TOKEN_TYPES" :: .ofString "ISEOF" :: .ofString "_twin_re_1" :: .ofString "_twin_re_2" :: .ofString "CRLF" :: .ofString "quotedata" :: .ofString "c8_set" :: .ofString "in_table_c8" :: .ofString "tspecials" :: .ofString "_name_disallowed_re" :: r
noncomputable def ls3 (r : List Str) : List Str := .ofString "_value_disallowed_re" :: .ofString "_formatparam" :: .ofString "Headers" :: .ofString "_law_text" :: .ofString "_law_closed" :: .ofString "_law_told" :: .ofString "_law_below" :: .ofString "_law_numbers" :: r
noncomputable def loose_ : List Str := ls0 (ls1 (ls2 (ls3 ([]))))
noncomputable def sm_0 : Stmt := by
  refine (?g : (x : Stmt) → (subAt st_67 0 = x) → Stmt) ?x ?h
  case g => exact fun x _ => x
  case h => (conv => lhs; whnf)
theorem sm_eq_0 : subAt st_67 0 = sm_0 := rfl
noncomputable def sm_1 : Stmt := by
  refine (?g : (x : Stmt) → (subAt st_67 1 = x) → Stmt) ?x ?h
  case g => exact fun x _ => x
  case h => (conv => lhs; whnf)
theorem sm_eq_1 : subAt st_67 1 = sm_1 := rfl
noncomputable def sm_2 : Stmt := by
  refine (?g : (x : Stmt) → (subAt st_67 2 = x) → Stmt) ?x ?h
  case g => exact fun x _ => x
  case h => (conv => lhs; whnf)
theorem sm_eq_2 : subAt st_67 2 = sm_2 := rfl
noncomputable def sm_3 : Stmt := by
  refine (?g : (x : Stmt) → (subAt st_67 3 = x) → Stmt) ?x ?h
  case g => exact fun x _ => x
  case h => (conv => lhs; whnf)
theorem sm_eq_3 : subAt st_67 3 = sm_3 := rfl
noncomputable def sm_4 : Stmt := by
  refine (?g : (x : Stmt) → (subAt st_67 4 = x) → Stmt) ?x ?h
  case g => exact fun x _ => x
  case h => (conv => lhs; whnf)
theorem sm_eq_4 : subAt st_67 4 = sm_4 := rfl
noncomputable def sm_5 : Stmt := by
  refine (?g : (x : Stmt) → (subAt st_67 5 = x) → Stmt) ?x ?h
  case g => exact fun x _ => x
  case h => (conv => lhs; whnf)
theorem sm_eq_5 : subAt st_67 5 = sm_5 := rfl
noncomputable def sm_6 : Stmt := by
  refine (?g : (x : Stmt) → (subAt st_67 6 = x) → Stmt) ?x ?h
  case g => exact fun x _ => x
  case h => (conv => lhs; whnf)
theorem sm_eq_6 : subAt st_67 6 = sm_6 := rfl
noncomputable def sm_7 : Stmt := by
  refine (?g : (x : Stmt) → (subAt st_67 7 = x) → Stmt) ?x ?h
  case g => exact fun x _ => x
  case h => (conv => lhs; whnf)
theorem sm_eq_7 : subAt st_67 7 = sm_7 := rfl
noncomputable def sm_8 : Stmt := by
  refine (?g : (x : Stmt) → (subAt st_67 8 = x) → Stmt) ?x ?h
  case g => exact fun x _ => x
  case h => (conv => lhs; whnf)
theorem sm_eq_8 : subAt st_67 8 = sm_8 := rfl
noncomputable def sm_9 : Stmt := by
  refine (?g : (x : Stmt) → (subAt st_67 9 = x) → Stmt) ?x ?h
  case g => exact fun x _ => x
  case h => (conv => lhs; whnf)
theorem sm_eq_9 : subAt st_67 9 = sm_9 := rfl
noncomputable def sm_10 : Stmt := by
  refine (?g : (x : Stmt) → (subAt st_67 10 = x) → Stmt) ?x ?h
  case g => exact fun x _ => x
  case h => (conv => lhs; whnf)
theorem sm_eq_10 : subAt st_67 10 = sm_10 := rfl
noncomputable def sm_11 : Stmt := by
  refine (?g : (x : Stmt) → (subAt st_67 11 = x) → Stmt) ?x ?h
  case g => exact fun x _ => x
  case h => (conv => lhs; whnf)
theorem sm_eq_11 : subAt st_67 11 = sm_11 := rfl
noncomputable def sm_12 : Stmt := by
  refine (?g : (x : Stmt) → (subAt st_67 12 = x) → Stmt) ?x ?h
  case g => exact fun x _ => x
  case h => (conv => lhs; whnf)
theorem sm_eq_12 : subAt st_67 12 = sm_12 := rfl
noncomputable def sm_13 : Stmt := by
  refine (?g : (x : Stmt) → (subAt st_67 13 = x) → Stmt) ?x ?h
  case g => exact fun x _ => x
  case h => (conv => lhs; whnf)
theorem sm_eq_13 : subAt st_67 13 = sm_13 := rfl
noncomputable def sm_14 : Stmt := by
  refine (?g : (x : Stmt) → (subAt st_67 14 = x) → Stmt) ?x ?h
  case g => exact fun x _ => x
  case h => (conv => lhs; whnf)
theorem sm_eq_14 : subAt st_67 14 = sm_14 := rfl
noncomputable def sm_15 : Stmt := by
  refine (?g : (x : Stmt) → (subAt st_67 15 = x) → Stmt) ?x ?h
  case g => exact fun x _ => x
  case h => (conv => lhs; whnf)
theorem sm_eq_15 : subAt st_67 15 = sm_15 := rfl
noncomputable def sm_16 : Stmt := by
  refine (?g : (x : Stmt) → (subAt st_67 16 = x) → Stmt) ?x ?h
  case g => exact fun x _ => x
  case h => (conv => lhs; whnf)
theorem sm_eq_16 : subAt st_67 16 = sm_16 := rfl
noncomputable def k2 : Params → Obj := by
  refine (?g : (x : Params → Obj) → (o2_e = x) → (Params → Obj)) ?x ?h
  case g => exact fun x _ => x
  case h => delta o2_e; exact rfl
noncomputable def k3 : Params → Obj := by
  refine (?g : (x : Params → Obj) → (o3_7 = x) → (Params → Obj)) ?x ?h
  case g => exact fun x _ => x
  case h => unfold o3_7; dsimp -failIfUnchanged only [e25, e26, e27, e28, e30, e45, e54, e55]; exact rfl
noncomputable def k32 : Params → Obj := by
  refine (?g : (x : Params → Obj) → (o32_0 = x) → (Params → Obj)) ?x ?h
  case g => exact fun x _ => x
  case h => delta o32_0; exact rfl
noncomputable def k34 : Params → Obj := by
  refine (?g : (x : Params → Obj) → (o34_0 = x) → (Params → Obj)) ?x ?h
  case g => exact fun x _ => x
  case h => delta o34_0; exact rfl
noncomputable def k35 : Params → Obj := by
  refine (?g : (x : Params → Obj) → (o35_0 = x) → (Params → Obj)) ?x ?h
  case g => exact fun x _ => x
  case h => delta o35_0; exact rfl
noncomputable def k37 : Params → Obj := by
  refine (?g : (x : Params → Obj) → (o37_0 = x) → (Params → Obj)) ?x ?h
  case g => exact fun x _ => x
  case h => delta o37_0; exact rfl
noncomputable def k38 : Params → Obj := by
  refine (?g : (x : Params → Obj) → (o38_0 = x) → (Params → Obj)) ?x ?h
  case g => exact fun x _ => x
  case h => unfold o38_0; dsimp -failIfUnchanged only [st_1, fA, fB, fS, subAt, List.getD_cons_zero, List.getD_cons_succ]; exact rfl
noncomputable def k39 : Params → Obj := by
  refine (?g : (x : Params → Obj) → (o39_2 = x) → (Params → Obj)) ?x ?h
  case g => exact fun x _ => x
  case h => unfold o39_2; dsimp -failIfUnchanged only [e32, e33, e34, e35, e36]; exact rfl
noncomputable def k42 : Params → Obj := by
  refine (?g : (x : Params → Obj) → (o42_3 = x) → (Params → Obj)) ?x ?h
  case g => exact fun x _ => x
  case h => delta o42_3; exact rfl
noncomputable def k44 : Params → Obj := by
  refine (?g : (x : Params → Obj) → (o44_3 = x) → (Params → Obj)) ?x ?h
  case g => exact fun x _ => x
  case h => delta o44_3; exact rfl
noncomputable def k45 : Params → Obj := by
  refine (?g : (x : Params → Obj) → (o45_3 = x) → (Params → Obj)) ?x ?h
  case g => exact fun x _ => x
  case h => delta o45_3; exact rfl
noncomputable def k47 : Params → Obj := by
  refine (?g : (x : Params → Obj) → (o47_3 = x) → (Params → Obj)) ?x ?h
  case g => exact fun x _ => x
  case h => delta o47_3; exact rfl
noncomputable def k48 : Params → Obj := by
  refine (?g : (x : Params → Obj) → (o48_3 = x) → (Params → Obj)) ?x ?h
  case g => exact fun x _ => x
  case h => unfold o48_3; dsimp -failIfUnchanged only [st_53, fA, fB, fS, subAt, List.getD_cons_zero, List.getD_cons_succ]; exact rfl
noncomputable def k52 : Params → Obj := by
  refine (?g : (x : Params → Obj) → (o52_3 = x) → (Params → Obj)) ?x ?h
  case g => exact fun x _ => x
  case h => delta o52_3; exact rfl
noncomputable def k53 : Params → Obj := by
  refine (?g : (x : Params → Obj) → (o53_3 = x) → (Params → Obj)) ?x ?h
  case g => exact fun x _ => x
  case h => delta o53_3; exact rfl
noncomputable def k57 : Params → Obj := by
  refine (?g : (x : Params → Obj) → (o57_3 = x) → (Params → Obj)) ?x ?h
  case g => exact fun x _ => x
  case h => delta o57_3; exact rfl
noncomputable def k58 : Params → Obj := by
  refine (?g : (x : Params → Obj) → (o58_3 = x) → (Params → Obj)) ?x ?h
  case g => exact fun x _ => x
  case h => delta o58_3; exact rfl
noncomputable def k59 : Params → Obj := by
  refine (?g : (x : Params → Obj) → (o59_3 = x) → (Params → Obj)) ?x ?h
  case g => exact fun x _ => x
  case h => delta o59_3; exact rfl
noncomputable def k61 : Params → Obj := by
  refine (?g : (x : Params → Obj) → (o61_3 = x) → (Params → Obj)) ?x ?h
  case g => exact fun x _ => x
  case h => delta o61_3; exact rfl
noncomputable def k62 : Params → Obj := by
  refine (?g : (x : Params → Obj) → (o62_3 = x) → (Params → Obj)) ?x ?h
  case g => exact fun x _ => x
  case h => delta o62_3; exact rfl
noncomputable def k64 : Params → Obj := by
  refine (?g : (x : Params → Obj) → (o64_3 = x) → (Params → Obj)) ?x ?h
  case g => exact fun x _ => x
  case h => delta o64_3; exact rfl
noncomputable def k65 : Params → Obj := by
  refine (?g : (x : Params → Obj) → (o65_3 = x) → (Params → Obj)) ?x ?h
  case g => exact fun x _ => x
  case h => unfold o65_3; dsimp -failIfUnchanged only [st_58, fA, fB, fS, subAt, List.getD_cons_zero, List.getD_cons_succ]; exact rfl
noncomputable def k79 : Params → Obj := by
  refine (?g : (x : Params → Obj) → (o79_4 = x) → (Params → Obj)) ?x ?h
  case g => exact fun x _ => x
  case h => delta o79_4; exact rfl
noncomputable def k83 : Params → Obj := by
  refine (?g : (x : Params → Obj) → (o83_5 = x) → (Params → Obj)) ?x ?h
  case g => exact fun x _ => x
  case h => delta o83_5; exact rfl
noncomputable def k85 : Params → Obj := by
  refine (?g : (x : Params → Obj) → (o85_5 = x) → (Params → Obj)) ?x ?h
  case g => exact fun x _ => x
  case h => delta o85_5; exact rfl
noncomputable def k86 : Params → Obj := by
  refine (?g : (x : Params → Obj) → (o86_5 = x) → (Params → Obj)) ?x ?h
  case g => exact fun x _ => x
  case h => delta o86_5; exact rfl
noncomputable def k88 : Params → Obj := by
  refine (?g : (x : Params → Obj) → (o88_5 = x) → (Params → Obj)) ?x ?h
  case g => exact fun x _ => x
  case h => delta o88_5; exact rfl
noncomputable def k89 : Params → Obj := by
  refine (?g : (x : Params → Obj) → (o89_5 = x) → (Params → Obj)) ?x ?h
  case g => exact fun x _ => x
  case h => unfold o89_5; dsimp -failIfUnchanged only [st_61, fA, fB, fS, subAt, List.getD_cons_zero, List.getD_cons_succ]; exact rfl
noncomputable def k93 : Params → Obj := by
  refine (?g : (x : Params → Obj) → (o93_5 = x) → (Params → Obj)) ?x ?h
  case g => exact fun x _ => x
  case h => delta o93_5; exact rfl
noncomputable def k94 : Params → Obj := by
  refine (?g : (x : Params → Obj) → (o94_5 = x) → (Params → Obj)) ?x ?h
  case g => exact fun x _ => x
  case h => delta o94_5; exact rfl
noncomputable def k98 : Params → Obj := by
  refine (?g : (x : Params → Obj) → (o98_5 = x) → (Params → Obj)) ?x ?h
  case g => exact fun x _ => x
  case h => delta o98_5; exact rfl
noncomputable def k99 : Params → Obj := by
  refine (?g : (x : Params → Obj) → (o99_5 = x) → (Params → Obj)) ?x ?h
  case g => exact fun x _ => x
  case h => delta o99_5; exact rfl
noncomputable def k103 : Params → Obj := by
  refine (?g : (x : Params → Obj) → (o103_5 = x) → (Params → Obj)) ?x ?h
  case g => exact fun x _ => x
  case h => delta o103_5; exact rfl
noncomputable def k104 : Params → Obj := by
  refine (?g : (x : Params → Obj) → (o104_5 = x) → (Params → Obj)) ?x ?h
  case g => exact fun x _ => x
  case h => delta o104_5; exact rfl
noncomputable def k105 : Params → Obj := by
  refine (?g : (x : Params → Obj) → (o105_5 = x) → (Params → Obj)) ?x ?h
  case g => exact fun x _ => x
  case h => delta o105_5; exact rfl
noncomputable def k106 : Params → Obj := by
  refine (?g : (x : Params → Obj) → (o106_5 = x) → (Params → Obj)) ?x ?h
  case g => exact fun x _ => x
  case h => delta o106_5; exact rfl
noncomputable def k108 : Params → Obj := by
  refine (?g : (x : Params → Obj) → (o108_5 = x) → (Params → Obj)) ?x ?h
  case g => exact fun x _ => x
  case h => delta o108_5; exact rfl
noncomputable def k109 : Params → Obj := by
  refine (?g : (x : Params → Obj) → (o109_5 = x) → (Params → Obj)) ?x ?h
  case g => exact fun x _ => x
  case h => delta o109_5; exact rfl
noncomputable def k111 : Params → Obj := by
  refine (?g : (x : Params → Obj) → (o111_5 = x) → (Params → Obj)) ?x ?h
  case g => exact fun x _ => x
  case h => delta o111_5; exact rfl
noncomputable def k112 : Params → Obj := by
  refine (?g : (x : Params → Obj) → (o112_5 = x) → (Params → Obj)) ?x ?h
  case g => exact fun x _ => x
  case h => unfold o112_5; dsimp -failIfUnchanged only [st_66, fA, fB, fS, subAt, List.getD_cons_zero, List.getD_cons_succ]; exact rfl
noncomputable def k120 : Params → Obj := by
  refine (?g : (x : Params → Obj) → (o120_6 = x) → (Params → Obj)) ?x ?h
  case g => exact fun x _ => x
  case h => delta o120_6; exact rfl
noncomputable def k121 : Params → Obj := by
  refine (?g : (x : Params → Obj) → (o121_6 = x) → (Params → Obj)) ?x ?h
  case g => exact fun x _ => x
  case h => delta o121_6; exact rfl
noncomputable def k123 : Params → Obj := by
  refine (?g : (x : Params → Obj) → (o123_6 = x) → (Params → Obj)) ?x ?h
  case g => exact fun x _ => x
  case h => delta o123_6; exact rfl
noncomputable def k124 : Params → Obj := by
  refine (?g : (x : Params → Obj) → (o124_6 = x) → (Params → Obj)) ?x ?h
  case g => exact fun x _ => x
  case h => delta o124_6; exact rfl
noncomputable def k126 : Params → Obj := by
  refine (?g : (x : Params → Obj) → (o126_6 = x) → (Params → Obj)) ?x ?h
  case g => exact fun x _ => x
  case h => delta o126_6; exact rfl
noncomputable def k127 : Params → Obj := by
  refine (?g : (x : Params → Obj) → (o127_6 = x) → (Params → Obj)) ?x ?h
  case g => exact fun x _ => x
  case h => unfold o127_6; dsimp -failIfUnchanged only [sm_eq_0, sm_0, fA, fB, fS]; exact rfl
noncomputable def k128 : Params → Obj := by
  refine (?g : (x : Params → Obj) → (o128_6 = x) → (Params → Obj)) ?x ?h
  case g => exact fun x _ => x
  case h => delta o128_6; exact rfl
noncomputable def k130 : Params → Obj := by
  refine (?g : (x : Params → Obj) → (o130_6 = x) → (Params → Obj)) ?x ?h
  case g => exact fun x _ => x
  case h => delta o130_6; exact rfl
noncomputable def k131 : Params → Obj := by
  refine (?g : (x : Params → Obj) → (o131_6 = x) → (Params → Obj)) ?x ?h
  case g => exact fun x _ => x
  case h => delta o131_6; exact rfl
noncomputable def k133 : Params → Obj := by
  refine (?g : (x : Params → Obj) → (o133_6 = x) → (Params → Obj)) ?x ?h
  case g => exact fun x _ => x
  case h => delta o133_6; exact rfl
noncomputable def k134 : Params → Obj := by
  refine (?g : (x : Params → Obj) → (o134_6 = x) → (Params → Obj)) ?x ?h
  case g => exact fun x _ => x
  case h => unfold o134_6; dsimp -failIfUnchanged only [sm_eq_1, sm_1, fA, fB, fS]; exact rfl
noncomputable def k135 : Params → Obj := by
  refine (?g : (x : Params → Obj) → (o135_6 = x) → (Params → Obj)) ?x ?h
  case g => exact fun x _ => x
  case h => delta o135_6; exact rfl
noncomputable def k137 : Params → Obj := by
  refine (?g : (x : Params → Obj) → (o137_6 = x) → (Params → Obj)) ?x ?h
  case g => exact fun x _ => x
  case h => delta o137_6; exact rfl
noncomputable def k138 : Params → Obj := by
  refine (?g : (x : Params → Obj) → (o138_6 = x) → (Params → Obj)) ?x ?h
  case g => exact fun x _ => x
  case h => delta o138_6; exact rfl
noncomputable def k140 : Params → Obj := by
  refine (?g : (x : Params → Obj) → (o140_6 = x) → (Params → Obj)) ?x ?h
  case g => exact fun x _ => x
  case h => delta o140_6; exact rfl
noncomputable def k141 : Params → Obj := by
  refine (?g : (x : Params → Obj) → (o141_6 = x) → (Params → Obj)) ?x ?h
  case g => exact fun x _ => x
  case h => unfold o141_6; dsimp -failIfUnchanged only [sm_eq_2, sm_2, fA, fB, fS]; exact rfl
noncomputable def k142 : Params → Obj := by
  refine (?g : (x : Params → Obj) → (o142_6 = x) → (Params → Obj)) ?x ?h
  case g => exact fun x _ => x
  case h => delta o142_6; exact rfl
noncomputable def k144 : Params → Obj := by
  refine (?g : (x : Params → Obj) → (o144_6 = x) → (Params → Obj)) ?x ?h
  case g => exact fun x _ => x
  case h => delta o144_6; exact rfl
noncomputable def k145 : Params → Obj := by
  refine (?g : (x : Params → Obj) → (o145_6 = x) → (Params → Obj)) ?x ?h
  case g => exact fun x _ => x
  case h => delta o145_6; exact rfl
noncomputable def k147 : Params → Obj := by
  refine (?g : (x : Params → Obj) → (o147_6 = x) → (Params → Obj)) ?x ?h
  case g => exact fun x _ => x
  case h => delta o147_6; exact rfl
noncomputable def k148 : Params → Obj := by
  refine (?g : (x : Params → Obj) → (o148_6 = x) → (Params → Obj)) ?x ?h
  case g => exact fun x _ => x
  case h => unfold o148_6; dsimp -failIfUnchanged only [sm_eq_3, sm_3, fA, fB, fS]; exact rfl
noncomputable def k149 : Params → Obj := by
  refine (?g : (x : Params → Obj) → (o149_6 = x) → (Params → Obj)) ?x ?h
  case g => exact fun x _ => x
  case h => delta o149_6; exact rfl
noncomputable def k152 : Params → Obj := by
  refine (?g : (x : Params → Obj) → (o152_6 = x) → (Params → Obj)) ?x ?h
  case g => exact fun x _ => x
  case h => delta o152_6; exact rfl
noncomputable def k153 : Params → Obj := by
  refine (?g : (x : Params → Obj) → (o153_6 = x) → (Params → Obj)) ?x ?h
  case g => exact fun x _ => x
  case h => unfold o153_6; dsimp -failIfUnchanged only [sm_eq_4, sm_4, fA, fB, fS]; exact rfl
noncomputable def k154 : Params → Obj := by
  refine (?g : (x : Params → Obj) → (o154_6 = x) → (Params → Obj)) ?x ?h
  case g => exact fun x _ => x
  case h => delta o154_6; exact rfl
noncomputable def k156 : Params → Obj := by
  refine (?g : (x : Params → Obj) → (o156_6 = x) → (Params → Obj)) ?x ?h
  case g => exact fun x _ => x
  case h => delta o156_6; exact rfl
noncomputable def k157 : Params → Obj := by
  refine (?g : (x : Params → Obj) → (o157_6 = x) → (Params → Obj)) ?x ?h
  case g => exact fun x _ => x
  case h => delta o157_6; exact rfl
noncomputable def k159 : Params → Obj := by
  refine (?g : (x : Params → Obj) → (o159_6 = x) → (Params → Obj)) ?x ?h
  case g => exact fun x _ => x
  case h => delta o159_6; exact rfl
noncomputable def k160 : Params → Obj := by
  refine (?g : (x : Params → Obj) → (o160_6 = x) → (Params → Obj)) ?x ?h
  case g => exact fun x _ => x
  case h => unfold o160_6; dsimp -failIfUnchanged only [sm_eq_5, sm_5, fA, fB, fS]; exact rfl
noncomputable def k161 : Params → Obj := by
  refine (?g : (x : Params → Obj) → (o161_6 = x) → (Params → Obj)) ?x ?h
  case g => exact fun x _ => x
  case h => delta o161_6; exact rfl
noncomputable def k163 : Params → Obj := by
  refine (?g : (x : Params → Obj) → (o163_6 = x) → (Params → Obj)) ?x ?h
  case g => exact fun x _ => x
  case h => delta o163_6; exact rfl
noncomputable def k164 : Params → Obj := by
  refine (?g : (x : Params → Obj) → (o164_6 = x) → (Params → Obj)) ?x ?h
  case g => exact fun x _ => x
  case h => delta o164_6; exact rfl
noncomputable def k166 : Params → Obj := by
  refine (?g : (x : Params → Obj) → (o166_6 = x) → (Params → Obj)) ?x ?h
  case g => exact fun x _ => x
  case h => delta o166_6; exact rfl
noncomputable def k167 : Params → Obj := by
  refine (?g : (x : Params → Obj) → (o167_6 = x) → (Params → Obj)) ?x ?h
  case g => exact fun x _ => x
  case h => unfold o167_6; dsimp -failIfUnchanged only [sm_eq_6, sm_6, fA, fB, fS]; exact rfl
noncomputable def k168 : Params → Obj := by
  refine (?g : (x : Params → Obj) → (o168_6 = x) → (Params → Obj)) ?x ?h
  case g => exact fun x _ => x
  case h => delta o168_6; exact rfl
noncomputable def k171 : Params → Obj := by
  refine (?g : (x : Params → Obj) → (o171_6 = x) → (Params → Obj)) ?x ?h
  case g => exact fun x _ => x
  case h => delta o171_6; exact rfl
noncomputable def k172 : Params → Obj := by
  refine (?g : (x : Params → Obj) → (o172_6 = x) → (Params → Obj)) ?x ?h
  case g => exact fun x _ => x
  case h => unfold o172_6; dsimp -failIfUnchanged only [sm_eq_7, sm_7, fA, fB, fS]; exact rfl
noncomputable def k173 : Params → Obj := by
  refine (?g : (x : Params → Obj) → (o173_6 = x) → (Params → Obj)) ?x ?h
  case g => exact fun x _ => x
  case h => delta o173_6; exact rfl
noncomputable def k174 : Params → Obj := by
  refine (?g : (x : Params → Obj) → (o174_6 = x) → (Params → Obj)) ?x ?h
  case g => exact fun x _ => x
  case h => delta o174_6; exact rfl
noncomputable def k176 : Params → Obj := by
  refine (?g : (x : Params → Obj) → (o176_6 = x) → (Params → Obj)) ?x ?h
  case g => exact fun x _ => x
  case h => delta o176_6; exact rfl
noncomputable def k177 : Params → Obj := by
  refine (?g : (x : Params → Obj) → (o177_6 = x) → (Params → Obj)) ?x ?h
  case g => exact fun x _ => x
  case h => delta o177_6; exact rfl
noncomputable def k179 : Params → Obj := by
  refine (?g : (x : Params → Obj) → (o179_6 = x) → (Params → Obj)) ?x ?h
  case g => exact fun x _ => x
  case h => delta o179_6; exact rfl
noncomputable def k180 : Params → Obj := by
  refine (?g : (x : Params → Obj) → (o180_6 = x) → (Params → Obj)) ?x ?h
  case g => exact fun x _ => x
  case h => unfold o180_6; dsimp -failIfUnchanged only [sm_eq_8, sm_8, fA, fB, fS]; exact rfl
noncomputable def k181 : Params → Obj := by
  refine (?g : (x : Params → Obj) → (o181_6 = x) → (Params → Obj)) ?x ?h
  case g => exact fun x _ => x
  case h => delta o181_6; exact rfl
noncomputable def k184 : Params → Obj := by
  refine (?g : (x : Params → Obj) → (o184_6 = x) → (Params → Obj)) ?x ?h
  case g => exact fun x _ => x
  case h => delta o184_6; exact rfl
noncomputable def k185 : Params → Obj := by
  refine (?g : (x : Params → Obj) → (o185_6 = x) → (Params → Obj)) ?x ?h
  case g => exact fun x _ => x
  case h => unfold o185_6; dsimp -failIfUnchanged only [sm_eq_9, sm_9, fA, fB, fS]; exact rfl
noncomputable def k186 : Params → Obj := by
  refine (?g : (x : Params → Obj) → (o186_6 = x) → (Params → Obj)) ?x ?h
  case g => exact fun x _ => x
  case h => delta o186_6; exact rfl
noncomputable def k189 : Params → Obj := by
  refine (?g : (x : Params → Obj) → (o189_6 = x) → (Params → Obj)) ?x ?h
  case g => exact fun x _ => x
  case h => delta o189_6; exact rfl
noncomputable def k190 : Params → Obj := by
  refine (?g : (x : Params → Obj) → (o190_6 = x) → (Params → Obj)) ?x ?h
  case g => exact fun x _ => x
  case h => unfold o190_6; dsimp -failIfUnchanged only [sm_eq_10, sm_10, fA, fB, fS]; exact rfl
noncomputable def k191 : Params → Obj := by
  refine (?g : (x : Params → Obj) → (o191_6 = x) → (Params → Obj)) ?x ?h
  case g => exact fun x _ => x
  case h => delta o191_6; exact rfl
noncomputable def k193 : Params → Obj := by
  refine (?g : (x : Params → Obj) → (o193_6 = x) → (Params → Obj)) ?x ?h
  case g => exact fun x _ => x
  case h => delta o193_6; exact rfl
noncomputable def k194 : Params → Obj := by
  refine (?g : (x : Params → Obj) → (o194_6 = x) → (Params → Obj)) ?x ?h
  case g => exact fun x _ => x
  case h => delta o194_6; exact rfl
noncomputable def k196 : Params → Obj := by
  refine (?g : (x : Params → Obj) → (o196_6 = x) → (Params → Obj)) ?x ?h
  case g => exact fun x _ => x
  case h => delta o196_6; exact rfl
noncomputable def k197 : Params → Obj := by
  refine (?g : (x : Params → Obj) → (o197_6 = x) → (Params → Obj)) ?x ?h
  case g => exact fun x _ => x
  case h => unfold o197_6; dsimp -failIfUnchanged only [sm_eq_11, sm_11, fA, fB, fS]; exact rfl
noncomputable def k198 : Params → Obj := by
  refine (?g : (x : Params → Obj) → (o198_6 = x) → (Params → Obj)) ?x ?h
  case g => exact fun x _ => x
  case h => delta o198_6; exact rfl
noncomputable def k200 : Params → Obj := by
  refine (?g : (x : Params → Obj) → (o200_6 = x) → (Params → Obj)) ?x ?h
  case g => exact fun x _ => x
  case h => delta o200_6; exact rfl
noncomputable def k201 : Params → Obj := by
  refine (?g : (x : Params → Obj) → (o201_6 = x) → (Params → Obj)) ?x ?h
  case g => exact fun x _ => x
  case h => delta o201_6; exact rfl
noncomputable def k203 : Params → Obj := by
  refine (?g : (x : Params → Obj) → (o203_6 = x) → (Params → Obj)) ?x ?h
  case g => exact fun x _ => x
  case h => delta o203_6; exact rfl
noncomputable def k204 : Params → Obj := by
  refine (?g : (x : Params → Obj) → (o204_6 = x) → (Params → Obj)) ?x ?h
  case g => exact fun x _ => x
  case h => unfold o204_6; dsimp -failIfUnchanged only [sm_eq_12, sm_12, fA, fB, fS]; exact rfl
noncomputable def k205 : Params → Obj := by
  refine (?g : (x : Params → Obj) → (o205_6 = x) → (Params → Obj)) ?x ?h
  case g => exact fun x _ => x
  case h => delta o205_6; exact rfl
noncomputable def k208 : Params → Obj := by
  refine (?g : (x : Params → Obj) → (o208_6 = x) → (Params → Obj)) ?x ?h
  case g => exact fun x _ => x
  case h => delta o208_6; exact rfl
noncomputable def k209 : Params → Obj := by
  refine (?g : (x : Params → Obj) → (o209_6 = x) → (Params → Obj)) ?x ?h
  case g => exact fun x _ => x
  case h => unfold o209_6; dsimp -failIfUnchanged only [sm_eq_13, sm_13, fA, fB, fS]; exact rfl
noncomputable def k210 : Params → Obj := by
  refine (?g : (x : Params → Obj) → (o210_6 = x) → (Params → Obj)) ?x ?h
  case g => exact fun x _ => x
  case h => delta o210_6; exact rfl
noncomputable def k212 : Params → Obj := by
  refine (?g : (x : Params → Obj) → (o212_6 = x) → (Params → Obj)) ?x ?h
  case g => exact fun x _ => x
  case h => delta o212_6; exact rfl
noncomputable def k213 : Params → Obj := by
  refine (?g : (x : Params → Obj) → (o213_6 = x) → (Params → Obj)) ?x ?h
  case g => exact fun x _ => x
  case h => delta o213_6; exact rfl
noncomputable def k215 : Params → Obj := by
  refine (?g : (x : Params → Obj) → (o215_6 = x) → (Params → Obj)) ?x ?h
  case g => exact fun x _ => x
  case h => delta o215_6; exact rfl
noncomputable def k216 : Params → Obj := by
  refine (?g : (x : Params → Obj) → (o216_6 = x) → (Params → Obj)) ?x ?h
  case g => exact fun x _ => x
  case h => unfold o216_6; dsimp -failIfUnchanged only [sm_eq_14, sm_14, fA, fB, fS]; exact rfl
noncomputable def k217 : Params → Obj := by
  refine (?g : (x : Params → Obj) → (o217_6 = x) → (Params → Obj)) ?x ?h
  case g => exact fun x _ => x
  case h => delta o217_6; exact rfl
noncomputable def k219 : Params → Obj := by
  refine (?g : (x : Params → Obj) → (o219_6 = x) → (Params → Obj)) ?x ?h
  case g => exact fun x _ => x
  case h => delta o219_6; exact rfl
noncomputable def k220 : Params → Obj := by
  refine (?g : (x : Params → Obj) → (o220_6 = x) → (Params → Obj)) ?x ?h
  case g => exact fun x _ => x
  case h => delta o220_6; exact rfl
noncomputable def k222 : Params → Obj := by
  refine (?g : (x : Params → Obj) → (o222_6 = x) → (Params → Obj)) ?x ?h
  case g => exact fun x _ => x
  case h => delta o222_6; exact rfl
noncomputable def k223 : Params → Obj := by
  refine (?g : (x : Params → Obj) → (o223_6 = x) → (Params → Obj)) ?x ?h
  case g => exact fun x _ => x
  case h => unfold o223_6; dsimp -failIfUnchanged only [sm_eq_15, sm_15, fA, fB, fS]; exact rfl
noncomputable def k224 : Params → Obj := by
  refine (?g : (x : Params → Obj) → (o224_6 = x) → (Params → Obj)) ?x ?h
  case g => exact fun x _ => x
  case h => delta o224_6; exact rfl
noncomputable def k226 : Params → Obj := by
  refine (?g : (x : Params → Obj) → (o226_6 = x) → (Params → Obj)) ?x ?h
  case g => exact fun x _ => x
  case h => delta o226_6; exact rfl
noncomputable def k227 : Params → Obj := by
  refine (?g : (x : Params → Obj) → (o227_6 = x) → (Params → Obj)) ?x ?h
  case g => exact fun x _ => x
  case h => delta o227_6; exact rfl
noncomputable def k229 : Params → Obj := by
  refine (?g : (x : Params → Obj) → (o229_6 = x) → (Params → Obj)) ?x ?h
  case g => exact fun x _ => x
  case h => delta o229_6; exact rfl
noncomputable def k230 : Params → Obj := by
  refine (?g : (x : Params → Obj) → (o230_6 = x) → (Params → Obj)) ?x ?h
  case g => exact fun x _ => x
  case h => unfold o230_6; dsimp -failIfUnchanged only [sm_eq_16, sm_16, fA, fB, fS]; exact rfl
noncomputable def k231 : Params → Obj := by
  refine (?g : (x : Params → Obj) → (o231_6 = x) → (Params → Obj)) ?x ?h
  case g => exact fun x _ => x
  case h => delta o231_6; exact rfl
noncomputable def k232 : Params → Obj := by
  refine (?g : (x : Params → Obj) → (o232_6 = x) → (Params → Obj)) ?x ?h
  case g => exact fun x _ => x
  case h => unfold o232_6; dsimp -failIfUnchanged only [e51, e52, e53]; exact rfl
noncomputable def k233 : Params → Obj := by
  refine (?g : (x : Params → Obj) → (o233_6 = x) → (Params → Obj)) ?x ?h
  case g => exact fun x _ => x
  case h => delta o233_6; exact rfl
noncomputable def k234 : Params → Obj := by
  refine (?g : (x : Params → Obj) → (o234_6 = x) → (Params → Obj)) ?x ?h
  case g => exact fun x _ => x
  case h => delta o234_6; exact rfl
noncomputable def k235 : Params → Obj := by
  refine (?g : (x : Params → Obj) → (o235_6 = x) → (Params → Obj)) ?x ?h
  case g => exact fun x _ => x
  case h => delta o235_6; exact rfl
noncomputable def k238 : Params → Obj := by
  refine (?g : (x : Params → Obj) → (o238_7 = x) → (Params → Obj)) ?x ?h
  case g => exact fun x _ => x
  case h => delta o238_7; exact rfl
noncomputable def k240 : Params → Obj := by
  refine (?g : (x : Params → Obj) → (o240_7 = x) → (Params → Obj)) ?x ?h
  case g => exact fun x _ => x
  case h => delta o240_7; exact rfl
noncomputable def k241 : Params → Obj := by
  refine (?g : (x : Params → Obj) → (o241_7 = x) → (Params → Obj)) ?x ?h
  case g => exact fun x _ => x
  case h => delta o241_7; exact rfl
noncomputable def k243 : Params → Obj := by
  refine (?g : (x : Params → Obj) → (o243_7 = x) → (Params → Obj)) ?x ?h
  case g => exact fun x _ => x
  case h => delta o243_7; exact rfl
noncomputable def k244 : Params → Obj := by
  refine (?g : (x : Params → Obj) → (o244_7 = x) → (Params → Obj)) ?x ?h
  case g => exact fun x _ => x
  case h => unfold o244_7; dsimp -failIfUnchanged only [st_69, fA, fB, fS, subAt, List.getD_cons_zero, List.getD_cons_succ]; exact rfl
noncomputable def k245 : Params → Obj := by
  refine (?g : (x : Params → Obj) → (o245_7 = x) → (Params → Obj)) ?x ?h
  case g => exact fun x _ => x
  case h => delta o245_7; exact rfl
noncomputable def k247 : Params → Obj := by
  refine (?g : (x : Params → Obj) → (o247_7 = x) → (Params → Obj)) ?x ?h
  case g => exact fun x _ => x
  case h => delta o247_7; exact rfl
noncomputable def k248 : Params → Obj := by
  refine (?g : (x : Params → Obj) → (o248_7 = x) → (Params → Obj)) ?x ?h
  case g => exact fun x _ => x
  case h => delta o248_7; exact rfl
noncomputable def k250 : Params → Obj := by
  refine (?g : (x : Params → Obj) → (o250_7 = x) → (Params → Obj)) ?x ?h
  case g => exact fun x _ => x
  case h => delta o250_7; exact rfl
noncomputable def k251 : Params → Obj := by
  refine (?g : (x : Params → Obj) → (o251_7 = x) → (Params → Obj)) ?x ?h
  case g => exact fun x _ => x
  case h => unfold o251_7; dsimp -failIfUnchanged only [st_70, fA, fB, fS, subAt, List.getD_cons_zero, List.getD_cons_succ]; exact rfl
noncomputable def k252 : Params → Obj := by
  refine (?g : (x : Params → Obj) → (o252_7 = x) → (Params → Obj)) ?x ?h
  case g => exact fun x _ => x
  case h => delta o252_7; exact rfl
noncomputable def k254 : Params → Obj := by
  refine (?g : (x : Params → Obj) → (o254_7 = x) → (Params → Obj)) ?x ?h
  case g => exact fun x _ => x
  case h => delta o254_7; exact rfl
noncomputable def k255 : Params → Obj := by
  refine (?g : (x : Params → Obj) → (o255_7 = x) → (Params → Obj)) ?x ?h
  case g => exact fun x _ => x
  case h => delta o255_7; exact rfl
noncomputable def k257 : Params → Obj := by
  refine (?g : (x : Params → Obj) → (o257_7 = x) → (Params → Obj)) ?x ?h
  case g => exact fun x _ => x
  case h => delta o257_7; exact rfl
noncomputable def k258 : Params → Obj := by
  refine (?g : (x : Params → Obj) → (o258_7 = x) → (Params → Obj)) ?x ?h
  case g => exact fun x _ => x
  case h => unfold o258_7; dsimp -failIfUnchanged only [st_71, fA, fB, fS, subAt, List.getD_cons_zero, List.getD_cons_succ]; exact rfl
noncomputable def k259 : Params → Obj := by
  refine (?g : (x : Params → Obj) → (o259_7 = x) → (Params → Obj)) ?x ?h
  case g => exact fun x _ => x
  case h => delta o259_7; exact rfl
noncomputable def k261 : Params → Obj := by
  refine (?g : (x : Params → Obj) → (o261_7 = x) → (Params → Obj)) ?x ?h
  case g => exact fun x _ => x
  case h => delta o261_7; exact rfl
noncomputable def k262 : Params → Obj := by
  refine (?g : (x : Params → Obj) → (o262_7 = x) → (Params → Obj)) ?x ?h
  case g => exact fun x _ => x
  case h => delta o262_7; exact rfl
noncomputable def k264 : Params → Obj := by
  refine (?g : (x : Params → Obj) → (o264_7 = x) → (Params → Obj)) ?x ?h
  case g => exact fun x _ => x
  case h => delta o264_7; exact rfl
noncomputable def k265 : Params → Obj := by
  refine (?g : (x : Params → Obj) → (o265_7 = x) → (Params → Obj)) ?x ?h
  case g => exact fun x _ => x
  case h => unfold o265_7; dsimp -failIfUnchanged only [st_72, fA, fB, fS, subAt, List.getD_cons_zero, List.getD_cons_succ]; exact rfl
noncomputable def k266 : Params → Obj := by
  refine (?g : (x : Params → Obj) → (o266_7 = x) → (Params → Obj)) ?x ?h
  case g => exact fun x _ => x
  case h => delta o266_7; exact rfl
noncomputable def k269 : Params → Obj := by
  refine (?g : (x : Params → Obj) → (o269_7 = x) → (Params → Obj)) ?x ?h
  case g => exact fun x _ => x
  case h => delta o269_7; exact rfl
noncomputable def k270 : Params → Obj := by
  refine (?g : (x : Params → Obj) → (o270_7 = x) → (Params → Obj)) ?x ?h
  case g => exact fun x _ => x
  case h => unfold o270_7; dsimp -failIfUnchanged only [st_73, fA, fB, fS, subAt, List.getD_cons_zero, List.getD_cons_succ]; exact rfl
noncomputable def k271 : Params → Obj := by
  refine (?g : (x : Params → Obj) → (o271_7 = x) → (Params → Obj)) ?x ?h
  case g => exact fun x _ => x
  case h => delta o271_7; exact rfl
noncomputable def k274 : Params → Obj := by
  refine (?g : (x : Params → Obj) → (o274_7 = x) → (Params → Obj)) ?x ?h
  case g => exact fun x _ => x
  case h => delta o274_7; exact rfl
noncomputable def k275 : Params → Obj := by
  refine (?g : (x : Params → Obj) → (o275_7 = x) → (Params → Obj)) ?x ?h
  case g => exact fun x _ => x
  case h => unfold o275_7; dsimp -failIfUnchanged only [st_74, fA, fB, fS, subAt, List.getD_cons_zero, List.getD_cons_succ]; exact rfl
noncomputable def K0 (P : Params) : Frag := (nat_lit 2, k2 P) :: (nat_lit 3, k3 P) :: (nat_lit 32, k32 P) :: (nat_lit 34, k34 P) :: (nat_lit 35, k35 P) :: (nat_lit 37, k37 P) :: (nat_lit 38, k38 P) :: (nat_lit 39, k39 P) :: (nat_lit 42, k42 P) :: (nat_lit 44, k44 P) :: (nat_lit 45, k45 P) :: (nat_lit 47, k47 P) :: (nat_lit 48, k48 P) :: (nat_lit 52, k52 P) :: (nat_lit 53, k53 P) :: (nat_lit 57, k57 P) :: (nat_lit 58, k58 P) :: (nat_lit 59, k59 P) :: (nat_lit 61, k61 P) :: (nat_lit 62, k62 P) :: (nat_lit 64, k64 P) :: (nat_lit 65, k65 P) :: (nat_lit 79, k79 P) :: (nat_lit 83, k83 P) :: (nat_lit 85, k85 P) :: (nat_lit 86, k86 P) :: (nat_lit 88, k88 P) :: (nat_lit 89, k89 P) :: (nat_lit 93, k93 P) :: (nat_lit 94, k94 P) :: (nat_lit 98, k98 P) :: (nat_lit 99, k99 P) :: (nat_lit 103, k103 P) :: (nat_lit 104, k104 P) :: (nat_lit 105, k105 P) :: (nat_lit 106, k106 P) :: (nat_lit 108, k108 P) :: (nat_lit 109, k109 P) :: (nat_lit 111, k111 P) :: (nat_lit 112, k112 P) :: (nat_lit 120, k120 P) :: (nat_lit 121, k121 P) :: (nat_lit 123, k123 P) :: (nat_lit 124, k124 P) :: (nat_lit 126, k126 P) :: (nat_lit 127, k127 P) :: (nat_lit 128, k128 P) :: (nat_lit 130, k130 P) :: (nat_lit 131, k131 P) :: (nat_lit 133, k133 P) :: (nat_lit 134, k134 P) :: (nat_lit 135, k135 P) :: (nat_lit 137, k137 P) :: (nat_lit 138, k138 P) :: (nat_lit 140, k140 P) :: (nat_lit 141, k141 P) :: (nat_lit 142, k142 P) :: (nat_lit 144, k144 P) :: (nat_lit 145, k145 P) :: (nat_lit 147, k147 P) :: (nat_lit 148, k148 P) :: (nat_lit 149, k149 P) :: (nat_lit 152, k152 P) :: (nat_lit 153, k153 P) :: (nat_lit 154, k154 P) :: (nat_lit 156, k156 P) :: (nat_lit 157, k157 P) :: (nat_lit 159, k159 P) :: (nat_lit 160, k160 P) :: (nat_lit 161, k161 P) :: (nat_lit 163, k163 P) :: (nat_lit 164, k164 P) :: (nat_lit 166, k166 P) :: (nat_lit 167, k167 P) :: (nat_lit 168, k168 P) :: (nat_lit 171, k171 P) :: (nat_lit 172, k172 P) :: (nat_lit 173, k173 P) :: (nat_lit 174, k174 P) :: (nat_lit 176, k176 P) :: (nat_lit 177, k177 P) :: (nat_lit 179, k179 P) :: (nat_lit 180, k180 P) :: (nat_lit 181, k181 P) :: (nat_lit 184, k184 P) :: (nat_lit 185, k185 P) :: (nat_lit 186, k186 P) :: (nat_lit 189, k189 P) :: (nat_lit 190, k190 P) :: (nat_lit 191, k191 P) :: (nat_lit 193, k193 P) :: (nat_lit 194, k194 P) :: (nat_lit 196, k196 P) :: (nat_lit 197, k197 P) :: (nat_lit 198, k198 P) :: (nat_lit 200, k200 P) :: (nat_lit 201, k201 P) :: (nat_lit 203, k203 P) :: (nat_lit 204, k204 P) :: (nat_lit 205, k205 P) :: (nat_lit 208, k208 P) :: (nat_lit 209, k209 P) :: (nat_lit 210, k210 P) :: (nat_lit 212, k212 P) :: (nat_lit 213, k213 P) :: (nat_lit 215, k215 P) :: (nat_lit 216, k216 P) :: (nat_lit 217, k217 P) :: (nat_lit 219, k219 P) :: (nat_lit 220, k220 P) :: (nat_lit 222, k222 P) :: (nat_lit 223, k223 P) :: (nat_lit 224, k224 P) :: (nat_lit 226, k226 P) :: (nat_lit 227, k227 P) :: (nat_lit 229, k229 P) :: (nat_lit 230, k230 P) :: (nat_lit 231, k231 P) :: (nat_lit 232, k232 P) :: (nat_lit 233, k233 P) :: (nat_lit 234, k234 P) :: (nat_lit 235, k235 P) :: (nat_lit 238, k238 P) :: (nat_lit 240, k240 P) :: (nat_lit 241, k241 P) :: (nat_lit 243, k243 P) :: (nat_lit 244, k244 P) :: (nat_lit 245, k245 P) :: (nat_lit 247, k247 P) :: (nat_lit 248, k248 P) :: (nat_lit 250, k250 P) :: (nat_lit 251, k251 P) :: (nat_lit 252, k252 P) :: (nat_lit 254, k254 P) :: (nat_lit 255, k255 P) :: (nat_lit 257, k257 P) :: (nat_lit 258, k258 P) :: (nat_lit 259, k259 P) :: (nat_lit 261, k261 P) :: (nat_lit 262, k262 P) :: (nat_lit 264, k264 P) :: (nat_lit 265, k265 P) :: (nat_lit 266, k266 P) :: (nat_lit 269, k269 P) :: (nat_lit 270, k270 P) :: (nat_lit 271, k271 P) :: (nat_lit 274, k274 P) :: (nat_lit 275, k275 P) :: []
noncomputable def as_ : List Nat := nat_lit 2 :: nat_lit 3 :: nat_lit 32 :: nat_lit 34 :: nat_lit 35 :: nat_lit 37 :: nat_lit 38 :: nat_lit 39 :: nat_lit 42 :: nat_lit 44 :: nat_lit 45 :: nat_lit 47 :: nat_lit 48 :: nat_lit 52 :: nat_lit 53 :: nat_lit 57 :: nat_lit 58 :: nat_lit 59 :: nat_lit 61 :: nat_lit 62 :: nat_lit 64 :: nat_lit 65 :: nat_lit 79 :: nat_lit 83 :: nat_lit 85 :: nat_lit 86 :: nat_lit 88 :: nat_lit 89 :: nat_lit 93 :: nat_lit 94 :: nat_lit 98 :: nat_lit 99 :: nat_lit 103 :: nat_lit 104 :: nat_lit 105 :: nat_lit 106 :: nat_lit 108 :: nat_lit 109 :: nat_lit 111 :: nat_lit 112 :: nat_lit 120 :: nat_lit 121 :: nat_lit 123 :: nat_lit 124 :: nat_lit 126 :: nat_lit 127 :: nat_lit 128 :: nat_lit 130 :: nat_lit 131 :: nat_lit 133 :: nat_lit 134 :: nat_lit 135 :: nat_lit 137 :: nat_lit 138 :: nat_lit 140 :: nat_lit 141 :: nat_lit 142 :: nat_lit 144 :: nat_lit 145 :: nat_lit 147 :: nat_lit 148 :: nat_lit 149 :: nat_lit 152 :: nat_lit 153 :: nat_lit 154 :: nat_lit 156 :: nat_lit 157 :: nat_lit 159 :: nat_lit 160 :: nat_lit 161 :: nat_lit 163 :: nat_lit 164 :: nat_lit 166 :: nat_lit 167 :: nat_lit 168 :: nat_lit 171 :: nat_lit 172 :: nat_lit 173 :: nat_lit 174 :: nat_lit 176 :: nat_lit 177 :: nat_lit 179 :: nat_lit 180 :: nat_lit 181 :: nat_lit 184 :: nat_lit 185 :: nat_lit 186 :: nat_lit 189 :: nat_lit 190 :: nat_lit 191 :: nat_lit 193 :: nat_lit 194 :: nat_lit 196 :: nat_lit 197 :: nat_lit 198 :: nat_lit 200 :: nat_lit 201 :: nat_lit 203 :: nat_lit 204 :: nat_lit 205 :: nat_lit 208 :: nat_lit 209 :: nat_lit 210 :: nat_lit 212 :: nat_lit 213 :: nat_lit 215 :: nat_lit 216 :: nat_lit 217 :: nat_lit 219 :: nat_lit 220 :: nat_lit 222 :: nat_lit 223 :: nat_lit 224 :: nat_lit 226 :: nat_lit 227 :: nat_lit 229 :: nat_lit 230 :: nat_lit 231 :: nat_lit 232 :: nat_lit 233 :: nat_lit 234 :: nat_lit 235 :: nat_lit 238 :: nat_lit 240 :: nat_lit 241 :: nat_lit 243 :: nat_lit 244 :: nat_lit 245 :: nat_lit 247 :: nat_lit 248 :: nat_lit 250 :: nat_lit 251 :: nat_lit 252 :: nat_lit 254 :: nat_lit 255 :: nat_lit 257 :: nat_lit 258 :: nat_lit 259 :: nat_lit 261 :: nat_lit 262 :: nat_lit 264 :: nat_lit 265 :: nat_lit 266 :: nat_lit 269 :: nat_lit 270 :: nat_lit 271 :: nat_lit 274 :: nat_lit 275 :: []
noncomputable def K : Params → Frag := by
  refine (?g : (x : Params → Frag) → (K0 = x) → (Params → Frag)) ?x ?h
  case g => exact fun x _ => x
  case h => delta K0 k2 k3 k32 k34 k35 k37 k38 k39 k42 k44 k45 k47 k48 k52 k53 k57 k58 k59 k61 k62 k64 k65 k79 k83 k85 k86 k88 k89 k93 k94 k98 k99 k103 k104 k105 k106 k108 k109 k111 k112 k120 k121 k123 k124 k126 k127 k128 k130 k131 k133 k134 k135 k137 k138 k140 k141 k142 k144 k145 k147 k148 k149 k152 k153 k154 k156 k157 k159 k160 k161 k163 k164 k166 k167 k168 k171 k172 k173 k174 k176 k177 k179 k180 k181 k184 k185 k186 k189 k190 k191 k193 k194 k196 k197 k198 k200 k201 k203 k204 k205 k208 k209 k210 k212 k213 k215 k216 k217 k219 k220 k222 k223 k224 k226 k227 k229 k230 k231 k232 k233 k234 k235 k238 k240 k241 k243 k244 k245 k247 k248 k250 k251 k252 k254 k255 k257 k258 k259 k261 k262 k264 k265 k266 k269 k270 k271 k274 k275; exact rfl
end Sh51
end
section
open PySem PySem.W PyProof.Rows
set_option Elab.async false
set_option maxRecDepth 100000
set_option maxHeartbeats 0
set_option linter.all false
namespace Sh51
open PySem.Challenge (pw_sh0051_01)
open PyData (keyHash)
noncomputable def mods_ : List Str := [.ofString "_sre"]
theorem mods_eq : importedModules pwL.main.body = mods_ := by kernel_rfl
theorem Ke : ∀ P, as_ = (K P).map (·.1) := fun P => by kernel_rfl
noncomputable abbrev hook_ : Hook := kHook K as_ Ke
noncomputable def Xt_ (q : Program) (s : Shared) : Bool := xlAt q [] s && recOk [] s
theorem sizeF (w : World) : ((H_0 w.params).isNs mainGlobals && (#[] : Array GenState).size == 0, (H_0 w.params).objs.size, (H_0 w.params).nsMap mainGlobals "__annotations__") = (true, 28, some (.ref 6)) := by kernel_rfl
theorem size_run (w : World) : ((H_0 w.params).isNs mainGlobals && (#[] : Array GenState).size == 0, (H_0 w.params).objs.size, (H_0 w.params).nsMap mainGlobals "__annotations__") = (true, 28, some (.ref 6)) := by
  exact sizeF w
theorem lookAF (w : World) (os : OsState) : (staticsOk mods_ (H_0 w.params) (H_f w.params) && namesBound pwL (H_f w.params) && gensDone ⟨H_f w.params, #[], dr, 939, os⟩ && laidKept (H_0 w.params) (H_f w.params)) = true := by kernel_rfl
theorem lookA (w : World) (os : OsState) : (staticsOk mods_ (H_0 w.params) (H_f w.params) && namesBound pwL (H_f w.params) && gensDone ⟨H_f w.params, #[], dr, 939, os⟩ && laidKept (H_0 w.params) (H_f w.params)) = true := by
  exact lookAF w os
theorem lookBF (w : World) (os : OsState) : PySem.W.Fast.tw4187177175401517315 qL loose_ mods_ (Xt_ qL) true ⟨H_f w.params, #[], dr, 939, os⟩ = openGood qL loose_ := by kernel_rfl
theorem lookB (w : World) (os : OsState) : openSeen qL loose_ mods_ (Xt_ qL) true ⟨H_f w.params, #[], dr, 939, os⟩ = openGood qL loose_ := by
  rw [PySem.W.Fast.te4187177175401517315]; exact lookBF w os
theorem lookC (w : World) (os : OsState) : hook_.obs ⟨H_f w.params, #[], dr, 939, os⟩ = hook_.val w := by kernel_rfl
theorem left_L : LeftO pwL qL loose_ (Xt_ qL) hook_.obs hook_.val 8000 :=
  LeftO.of_pieces (H₀ := H_0) (H₁ := H_f) (gs₀ := #[]) (gs₁ := #[]) (d₀ := dr) (d₁ := dr) (k₀ := 276) (k₁ := 939) (m₀ := 28) open_ok size_run run_all (by decide) fun w => funext fun os => by
    rw [mods_eq]
    exact Prod.ext (lookA w os) (Prod.ext (lookB w os) (lookC w os))
theorem left_ : LeftO pw_sh0051_01 qL loose_ (Xt_ qL) hook_.obs hook_.val 8000 := by rw [pw_eq]; exact left_L
end Sh51
end
section
open PySem PySem.W PyProof.Rows
set_option Elab.async false
set_option maxRecDepth 100000
set_option maxHeartbeats 0
set_option linter.all false
namespace Sh51
open PySem.Challenge (pw_sh0051_01)
noncomputable def rowL : OpenLaw := { prog := pwL, name := .ofString "law", about := [.ofString "ISEOF"], foot := 6, most := some 63, bound := none, writes := false }
theorem row_eq : PySem.Challenge.rw_sh0051_01 = rowL := by
  show ({ prog := pw_sh0051_01, name := .ofString "law", about := [.ofString "ISEOF"], foot := 6, most := some 63, bound := none, writes := false } : OpenLaw) = { prog := pwL, name := .ofString "law", about := [.ofString "ISEOF"], foot := 6, most := some 63, bound := none, writes := false }
  rw [pw_eq]
/- the row is well said: in pieces, so that no step of the kernel's is a large one -/
theorem said_a : PySem.W.Fast.tw11788848310118352699 pwL.main = true := by kernel_rfl
theorem said_b : ((moduleNames pwL.main.body).isEmpty || lookedIntoSs (moduleNames pwL.main.body) pwL.main.body) = true := by kernel_rfl
theorem said_c : PySem.W.Fast.tw8377067652309620493 pwL = true := by kernel_rfl
theorem said_d : (pwL.boundNames.all fun n => !worldNames.contains n) = true := by kernel_rfl
theorem said_e0 : PySem.W.Fast.tw13343964577679436407 pwL pwL.main.body "vars" = false := by kernel_rfl
theorem said_e1 : PySem.W.Fast.tw13343964577679436407 pwL pwL.main.body "dir" = false := by kernel_rfl
theorem said_e2 : PySem.W.Fast.tw13343964577679436407 pwL pwL.main.body "locals" = false := by kernel_rfl
theorem said_e : (["vars", "dir", "locals"] : List Str).filter (readsOut pwL pwL.main.body) = [] := by
  rw [PySem.W.Fast.te13343964577679436407, List.filter_cons_of_neg (by rw [said_e0]; decide), List.filter_cons_of_neg (by rw [said_e1]; decide), List.filter_cons_of_neg (by rw [said_e2]; decide)]
  rfl
theorem said_f : PySem.W.Fast.tw8326940854005059898 { strict := !(importedModules pwL.main.body).all cThrough.contains, foot := none, bare := [] } pwL.main.body = true := by kernel_rfl
theorem said_g : PySem.W.Fast.tw17119622794617984870 pwL pwL.main.body (fun _ n => PySem.W.Fast.tw17868728402115742887 n) = true := by kernel_rfl
theorem said_h : looksOpen pwL = true := by
  unfold looksOpen
  rw [said_e, PySem.W.Fast.te11788848310118352699, PySem.W.Fast.te8377067652309620493, PySem.W.Fast.te8326940854005059898, PySem.W.Fast.te17119622794617984870, PySem.W.Fast.te17868728402115742887,
    said_a, said_b, said_c, said_d, said_f, said_g]
  rfl
theorem said_i : rowL.row.partSaid = true := by
  unfold OpenRow.partSaid
  rw [show looksOpen rowL.row.prog = true from said_h]
  kernel_rfl
theorem said_j : rowL.row.wellSaid = true := by
  unfold OpenRow.wellSaid
  rw [said_i]
  kernel_rfl
theorem said_k : (rowL.bound'.all fun n => !builtinNamed n || rowL.about == [n] || !rowL.reads n) = true := by
  rw [PySem.W.Fast.te6984425678791042302, PySem.W.Fast.te797321630700447069]
  kernel_rfl
theorem said_l : noRoadLSs { strict := true, foot := some rowL.bound', writes := rowL.writes, may := rowL.may } rowL.footing = true := by
  rw [PySem.W.Fast.te8326940854005059898, PySem.W.Fast.te797321630700447069]
  kernel_rfl
theorem said_L : rowL.wellSaid = true := by
  unfold OpenLaw.wellSaid
  rw [said_j, said_k, said_l]
  kernel_rfl
theorem hd_L {d : DefRec} {kwd : List (Str × Expr)} (hdef : defOf qL (.ofString "law") = some (d, kwd)) (hp : pwL.theDef (.ofString "law") = some (d.params, d.body, d.scope)) (hk : kwWritten? d.params.kwonlyargs d.params.kw_defaults = some kwd)
    (walk : WalkO qL loose_ (XL qL []) hook_.says rowL.row.toRowW d kwd (fun f vs => call f vs)) : rowL.Holds := by
  refine holds_law said_L fun said => ?_
  refine PySem.W.holds_open (r := rowL.row) (q := qL) (loose := loose_) (Xt := Xt_ qL) (XP := XL qL []) (Yf := hook_.obs) (Ya := hook_.val) (YP := hook_.says) (N := 8000)
    left_L hook_.of hook_.keeps (fun s e => xl_of s (Bool.and_eq_true_iff.mp e).1) XL.keeps hdef hp hk (fun s e => recFacts_of (Bool.and_eq_true_iff.mp e).2) rfl (by assumption) (by decide +kernel) ⟨rfl, rfl, rfl, rfl, rfl, by decide +kernel⟩ ?hw walk
  exact ⟨[.list []], by decide +kernel, by decide +kernel⟩
theorem hd_ {d : DefRec} {kwd : List (Str × Expr)} (hdef : defOf qL (.ofString "law") = some (d, kwd)) (hp : pw_sh0051_01.theDef (.ofString "law") = some (d.params, d.body, d.scope)) (hk : kwWritten? d.params.kwonlyargs d.params.kw_defaults = some kwd)
    (walk : WalkO qL loose_ (XL qL []) hook_.says PySem.Challenge.rw_sh0051_01.row.toRowW d kwd (fun f vs => call f vs)) : PySem.Challenge.rw_sh0051_01.Holds := by
  rw [pw_eq] at hp
  rw [row_eq] at walk ⊢
  exact hd_L hdef hp hk walk
end Sh51
end
section
open PySem PySem.W PyProof.Rows
set_option Elab.async false
set_option maxRecDepth 100000
set_option linter.all false
namespace Sh51
open PySem.Challenge (pw_sh0051_01)
theorem fill_ : (fun (_ : OpenLaw) (_ : Params → Frag) => True) PySem.Challenge.rw_sh0051_01 K := by
  k_fill
  trivial
noncomputable abbrev Cl (w : World) (mean : ExcName → Option Value) (mg mb : Str → Option Value) := CbClaim pw_sh0051_01 w (K w.params) qL (looseW qL loose_) mean mg mb
set_option maxHeartbeats 400000 in
theorem iseof_spec {w mean mg mb news} (i : Int) (t : Tok) : Cl w mean mg mb 48 news [] True [.int i t] (fun _ => .bool (decide (i = 0))) := by
  unfold Cl CbClaim
  dsimp only [CbLists, CbRet]
  intros
  rename_i hret
  refine wpAny_call ?_
  k_dflt cell_enter
  k_steps
  all_goals cb_end hret
end Sh51
end
section
open PySem PySem.W PyProof.Rows
set_option Elab.async false
set_option maxRecDepth 100000
set_option linter.all false
namespace Sh51
open PySem.Challenge (pw_sh0051_01)
noncomputable def c8L : List Int := [832, 833, 8234, 8235, 8236, 8237, 8206, 8207, 8238, 8298, 8299, 8300, 8301, 8302, 8303]
noncomputable def c8I (i : Int) : Bool := c8L.contains i
theorem set_iff {w : World} {es : List (Int × Value)} {ks : List Int} (h : Paired (fun e k => ∃ t, e.2 = Value.int k t) es ks) (k : Int) : ks.contains k = true ↔ ∃ e ∈ es, (intKind pw_sh0051_01 w).is k e.2 = true := by
  induction h with
  | nil => simp
  | @cons e k' es ks a _ ih =>
    obtain ⟨t, ht⟩ := a
    rw [List.contains_cons, Bool.or_eq_true, ih]
    constructor
    · rintro (q | ⟨e', h1, h2⟩)
      · exact ⟨e, .head _, by rw [ht, (beq_iff_eq.mp q)]; exact decide_eq_true rfl⟩
      · exact ⟨e', .tail _ h1, h2⟩
    · rintro ⟨e', h1, h2⟩
      rcases List.mem_cons.mp h1 with rfl | h1
      · left
        rw [ht] at h2
        exact beq_iff_eq.mpr (of_decide_eq_true h2).symm
      · exact .inr ⟨e', h1, h2⟩
theorem c8_set {w : World} {h : Heap} (X : (K w.params).In h) : h.SetOf (intKind pw_sh0051_01 w) 79 c8I 15 := by
  have e := X 79 _ rfl
  refine ⟨_, _, _, _, e, ⟨rfl, rfl, rfl⟩, rfl, ?_, ?_, ?_, ?_, ?_⟩
  · unfold ElemsOf
    repeat' first
      | exact List.forall_mem_nil _
      | refine List.forall_mem_cons.mpr ⟨⟨⟨_, decide_eq_true rfl, rfl⟩, rfl⟩, ?_⟩
  · intro k
    refine set_iff (ks := c8L) ?_ k
    repeat' first
      | exact .nil
      | refine .cons ⟨_, rfl⟩ ?_
  · decide
  · rfl
  · rfl
theorem c8_in {w : World} {A : Around} {E : Value → Shared → Prop} {s : Shared} {h₀ : Heap} {L : Addr} {m : Str → Option Value} {i : Int} {t : Tok} {Q : Value → Shared → Prop}
    (F : Fr h₀ L s.heap m) (X : (K w.params).In h₀) (h : Q (.bool (c8I i)) { s with toks := s.toks + 1 }) : wpAny (model pw_sh0051_01 w) A (compareOp .In (.int i t) (.ref 79)) Q E s :=
  wpAny_inSet_of (knd := intKind pw_sh0051_01 w) (k := i) (decide_eq_true rfl) rfl (c8_set (X.keeps F.keep)) h
local macro_rules | `(tactic| walk_at "compareOp In") => `(tactic| (k_here; (with_reducible show wpAny _ _ (compareOp CmpOp.In (Value.int _ _) (Value.ref 79)) _ _ _); k_dflt (refine' c8_in ?F ?X ?_; (case F => k_asm); (case X => k_asm); k_whole)))
set_option maxHeartbeats 400000 in
theorem c8_spec {w mean mg mb news} (c : Nat) (t : Tok) : Cl w mean mg mb 89 news [] True [.str ⟨#[c]⟩ t] (fun _ => .bool (c8I c)) := by
  unfold Cl CbClaim
  dsimp only [CbLists, CbRet]
  intros
  rename_i hret
  refine wpAny_call ?_
  k_dflt cell_enter
  k_steps
  all_goals cb_end hret
end Sh51
end
section
open PySem PySem.W PyProof.Rows
open PySem.Spec PySem.Calls
set_option Elab.async false
set_option maxRecDepth 100000
set_option linter.all false
namespace Sh51
open PySem.Challenge (pw_sh0051_01)
section
variable {prog : Program} {w : World} {A₀ A : Around} {s : Shared} {base h₀ : Heap} {outer : List Env} {L : Addr} {m : Str → Option Value} {env : Env} {news : List (Addr × Obj)} {K : Frag}
  {R : Result → Shared → Prop} {name qual : Str} {params : Arguments} {body : List Stmt} {scope : Scope} {dV kV doc pm cdv ct oc : Value} {an od : Option Addr} {osl : Array (Option Value)} {f : Addr} {args : Args} {binds : List (Str × Value)}
  {p : Program} {loose : List Str} {mean : ExcName → Option Value} {mg mb : Str → Option Value}

/-- what a callee's base knows of the heap that it was called in -/
noncomputable def Knows (s : Heap) (news : List (Addr × Obj)) (g : Heap) : Prop := ∀ b o, s.get? b = some o → b ∉ news.map (·.1) → g.get? b = some o

theorem enter2 (B : Below A₀ base outer h₀) (F : Fr h₀ L s.heap m) (X₀ : K.In h₀) (N : News h₀ L s.heap news) (T : Top p loose mean mg mb h₀) (hA : A.frames = some (env :: outer)) (hf : env.frame = some L) (hke : env.scope.kind = .function)
    (ho : K.lookup f = some ⟨oc, od, .func (fnOf name qual params body scope dV kV doc pm an cdv ct), osl⟩) (hcd : codeIn K cdv qual = true) (hroom : A.depth < recursionLimit)
    (hbind : BindsTo s (fnOf name qual params body scope dV kV doc pm an cdv ct) args binds) (hloc : ∀ y ∈ binds, scope.names.lookup y.1 = some .local)
    (h : ∀ g L' h₁, Fr h₀ L g m → Fr g L' h₁ (fun y => binds.reverse.lookup y) → News g L' h₁ news → Below A base (env :: outer) g → K.In g → Top p loose mean mg mb g → Knows s.heap news g → (∀ p ∈ news, p.1 < L') →
      wpAny (model prog w) (A.deeper (envOf qual scope L' f cdv)) (execs body (envOf qual scope L' f cdv))
        (fun fl s' => LeaveK h₀ L m g R (match fl with | .ret v => v | _ => .none) s')
        (fun e s' => wpAny (model prog w) (A.deeper (envOf qual scope L' f cdv)) (leaving (envOf qual scope L' f cdv) e) (fun _ s'' => R (.error e) s'') (fun e' s'' => R (.error e') s'') s')
        { s with heap := h₁, toks := s.toks + binds.length })
    (hco : scope.isCoroutine = false) (hgen : scope.isGenerator = false) (hk : scope.kind = .function)
    (hcell : ∀ x ∈ scope.names, x.2 ≠ .cell) : codeAny (model prog w) A (.call (.ref f) args) R s := by
  obtain ⟨FG, BG, st, lv⟩ := groundX (R := R) B F N hA hf hke
  refine codeAny_call_def (fd := fnOf name qual params body scope dV kV doc pm an cdv ct) (body := body) (binds := binds) hroom ((X₀.keeps F.keep) _ _ ho) rfl (T.nolimit.keeps F.keep) (codeRec_of (X₀.keeps F.keep) hcd) rfl hbind hcell hloc (fun h₁ hns hk₁ => ?_) hco hgen hk
  exact wpAny_mono (h _ s.heap.objs.size h₁ FG ⟨hns, fun b o e => hk₁ b o (of_hideAll _ e), Nat.le_of_eq (hideAll_size _ _)⟩
    (fun p hp => ⟨hk₁ _ _ (N p hp).1, Nat.ne_of_lt (Heap.lt_size (N p hp).1), hideAll_none _ (List.mem_map_of_mem hp)⟩) BG (X₀.keeps st) (T.keeps st) (fun b o e nb => hideAll_get _ e nb) (fun p hp => Heap.lt_size (N p hp).1)) (fun fl s' hl => lv _ _ hl) fun _ _ y => y

theorem enter2C (B : Below A₀ base outer h₀) (F : Fr h₀ L s.heap m) (X₀ : K.In h₀) (N : News h₀ L s.heap news) (T : Top p loose mean mg mb h₀) (hA : A.frames = some (env :: outer)) (hf : env.frame = some L) (hke : env.scope.kind = .function)
    (ho : K.lookup f = some ⟨oc, od, .func (fnOf name qual params body scope dV kV doc pm an cdv ct), osl⟩) (hcd : codeIn K cdv qual = true) (hroom : A.depth < recursionLimit)
    (hbind : BindsTo s (fnOf name qual params body scope dV kV doc pm an cdv ct) args binds) (hkind : (binds.all fun y => scope.names.lookup y.1 == some .local || scope.names.lookup y.1 == some .cell) = true)
    (hnd : ((cellsFrom 0 scope.names []).map (·.1)).Nodup)
    (h : ∀ g L' h₁ tk cells, Fr h₀ L g m → Fr g L' h₁ (bindL (envOfC qual scope L' f cdv).kindOf binds fun _ => none) → News g L' h₁ (cells ++ news) →
      CellsAre (bindC (envOfC qual scope L' f cdv).kindOf binds fun _ => none) (cellsFrom (L' + 1) scope.names []) cells → Below A base (env :: outer) g → K.In g → Top p loose mean mg mb g → Knows s.heap news g → (∀ p ∈ news, p.1 < L') →
      wpAny (model prog w) (A.deeper (envOfC qual scope L' f cdv)) (execs body (envOfC qual scope L' f cdv))
        (fun fl s' => LeaveK h₀ L m g R (match fl with | .ret v => v | _ => .none) s')
        (fun e s' => wpAny (model prog w) (A.deeper (envOfC qual scope L' f cdv)) (leaving (envOfC qual scope L' f cdv) e) (fun _ s'' => R (.error e) s'') (fun e' s'' => R (.error e') s'') s')
        { s with heap := h₁, toks := tk })
    (hco : scope.isCoroutine = false) (hgen : scope.isGenerator = false) (hk : scope.kind = .function) : codeAny (model prog w) A (.call (.ref f) args) R s := by
  obtain ⟨FG, BG, st, lv⟩ := groundX (R := R) B F N hA hf hke
  refine codeAny_call_function hroom ((X₀.keeps F.keep) _ _ ho) rfl hco hgen rfl (codeRec_of (X₀.keeps F.keep) hcd) (hbind _ _ _ _ ?_)
  refine wpAny_newFunctionEnv_cells hk (kindsX hkind _) fun env' he s' x => ?_
  subst he
  refine ⟨(T.nolimit.keeps F.keep).keeps x.toInCall.keep, codeAny_func ?_⟩
  obtain ⟨h₁, tk, rfl, _⟩ := x.done
  have old := x.toInCall.keep
  obtain ⟨cells, NC, Y⟩ := Cl.news (h₀ := s.heap) (Nat.le_refl _) fun n c hm => ⟨x.cell n c (lookup_of_mem_nodup (cellsFrom_names scope.names 0 (s.heap.objs.size + 1) [] [] rfl ▸ hnd) hm), x.above n c hm⟩
  have NN : News (hideAll s.heap (news.map (·.1))) s.heap.objs.size h₁ (cells ++ news) := fun p hp => by
    rcases List.mem_append.mp hp with hp | hp
    · refine ⟨(NC p hp).1, (NC p hp).2.1, ?_⟩
      cases q : (hideAll s.heap (news.map (·.1))).get? p.1 with
      | none => rfl
      | some o => exact absurd ((NC p hp).2.2.symm.trans (of_hideAll _ q)) (by simp)
    · exact ⟨old _ _ (N p hp).1, Nat.ne_of_lt (Heap.lt_size (N p hp).1), hideAll_none _ (List.mem_map_of_mem hp)⟩
  have FF : Fr (hideAll s.heap (news.map (·.1))) s.heap.objs.size h₁ _ := ⟨x.toInCall.ns, fun b o e => old b o (of_hideAll _ e), Nat.le_of_eq (hideAll_size _ _)⟩
  exact wpAny_mono (h _ s.heap.objs.size h₁ tk cells FG FF NN Y BG (X₀.keeps st) (T.keeps st) (fun b o e nb => hideAll_get _ e nb) (fun p hp => Heap.lt_size (N p hp).1)) (fun fl s' hl => lv _ _ hl) fun _ _ y => y
end

end Sh51
end
section
open PySem PySem.W PyProof.Rows PySem.Spec PySem.Calls
set_option Elab.async false
set_option maxRecDepth 100000
set_option linter.all false
namespace Sh51
theorem slot_re_search : Slot "re.Pattern" "search" "re.Pattern.search" :=
  .of (owner := "re.Pattern") (n := "search") (by rw [typeLookup_type, builtinLookup_eq_fast]; kernel_rfl) (by decide +kernel) (by decide +kernel) (by decide +kernel)
    (by first | exact .inl (by decide +kernel) | exact .inr (by decide +kernel)) (by rw [isSubtype_type]; kernel_rfl)
theorem type_re_search : typeOf (.builtin "re.Pattern.search") = pure (.type "method_descriptor") := by show builtinType _ = _; rw [builtinType_eq_fast]; kernel_rfl
theorem entry_re_search : entryFor table "re.Pattern.search" = some Builtin.«re.Pattern.search» := entryFor_of_tree (by kernel_rfl)
theorem plain_re : PlainAttrs "re.Pattern" :=
  ⟨⟨"object.__getattribute__", by rw [typeLookup_type, builtinLookup_eq_fast]; kernel_rfl, by decide +kernel⟩, by rw [typeLookup_type, builtinLookup_eq_fast]; kernel_rfl⟩
theorem owner_re : Manifest.owners.lookup (String.ofList ['n', 'r', 'e', 't', 't', 'a', 'P', '.', 'e', 'r'].reverse) = some Manifest.sig_re_Pattern := by kernel_rfl
theorem args_re_search (a b : Value) : argsOk "re.Pattern.search" ⟨[a, b], []⟩ := by
  unfold argsOk; rw [signature?_of (id := "re.Pattern.search") (n := ['h', 'c', 'r', 'a', 'e', 's']) (o := ['n', 'r', 'e', 't', 't', 'a', 'P', '.', 'e', 'r']) (by kernel_rfl) owner_re]; kernel_rfl
end Sh51
end
section
open PySem PySem.W PyProof.Rows PySem.Spec PySem.Calls
set_option Elab.async false
set_option maxRecDepth 100000
set_option linter.all false
namespace Sh51
open PySem.Builtin.Re
section
variable {M : Model} {A : Around} {E : Value → Shared → Prop} {s : Shared}
theorem runFor_done {m : Sre.M} (h : m.outcome.isSome = true) : ∀ n, m.runFor n = m
  | 0 => rfl
  | n + 1 => by simp only [Sre.M.runFor, h, if_true]
theorem runFor_add (a b : Nat) (m : Sre.M) : m.runFor (a + b) = (m.runFor a).runFor b := by
  induction a generalizing m with
  | zero => simp [Sre.M.runFor]
  | succ a ih =>
    rw [show a + 1 + b = (a + b) + 1 by omega]
    simp only [Sre.M.runFor]
    split
    · rename_i h; rw [runFor_done h]
    · exact ih _
theorem wp_drive {Q : Sre.M → Shared → Prop} : ∀ (turns n : Nat) (m : Sre.M), (m.runFor n).outcome.isSome = true → n ≤ 4 * turns → 0 < turns → Q (m.runFor n) s → wpAny M A (reDrive turns m) Q E s
  | 0, _, _, _, _, h0, _ => absurd h0 (Nat.lt_irrefl _)
  | turns + 1, n, m, hd, hn, _, hq => by
    unfold reDrive
    show wpAny M A (if (m.runFor 4).outcome.isSome = true then pure (m.runFor 4) else _) Q E s
    by_cases h4 : (m.runFor 4).outcome.isSome = true
    · rw [if_pos h4]
      have e : m.runFor n = m.runFor 4 := by
        by_cases hle : 4 ≤ n
        · obtain ⟨k, rfl⟩ := Nat.exists_eq_add_of_le hle
          rw [runFor_add, runFor_done h4]
        · obtain ⟨k, hk⟩ := Nat.exists_eq_add_of_le (Nat.le_of_lt (Nat.lt_of_not_le hle))
          rw [hk, runFor_add, runFor_done hd]
      rw [← e]
      exact wpAny_pure hq
    · rw [if_neg h4]
      have hle : 4 ≤ n := by
        rcases Nat.lt_or_ge n 4 with h | h
        · obtain ⟨k, hk⟩ := Nat.exists_eq_add_of_le (Nat.le_of_lt h)
          exact absurd (by rw [hk, runFor_add, runFor_done hd]; exact hd) h4
        · exact h
      obtain ⟨k, rfl⟩ := Nat.exists_eq_add_of_le hle
      rw [runFor_add] at hd hq
      refine wpAny_bind (wpAny_rule ?_)
      have ht : 0 < turns := by
        rcases Nat.eq_zero_or_pos turns with rfl | h
        · have : k = 0 := by omega
          subst this
          exact absurd hd h4
        · exact h
      exact wp_drive turns k _ hd (by omega) ht hq
theorem wp_tell {Q : PUnit → Shared → Prop} (c : Nat → Bool) (g : Nat → String) : ∀ (l : List Nat), Q ⟨⟩ s → wpAny M A (forIn l PUnit.unit fun i _ => if c i = true then do rule (g i); pure (ForInStep.yield PUnit.unit) else pure (ForInStep.yield PUnit.unit)) Q E s
  | [], h => wpAny_pure h
  | i :: l, h => by
    rw [List.forIn_cons]
    refine wpAny_bind ?_
    by_cases hc : c i = true
    · rw [if_pos hc]; exact wpAny_bind (wpAny_rule (wpAny_pure (wp_tell c g l h)))
    · rw [if_neg hc]; exact wpAny_pure (wp_tell c g l h)
theorem wp_runEnd {Q : Option Sre.M → Shared → Prop} (n : Nat) {m : Sre.M} (hn : n ≤ 4 * 2 ^ 64) (h : match (m.runFor n).outcome with | some .matched => Q (some (m.runFor n)) s | some .failed => Q none s | _ => False) : wpAny M A (reRunToEnd m) Q E s := by
  unfold reRunToEnd
  have hd : (m.runFor n).outcome.isSome = true := by
    revert h
    cases (m.runFor n).outcome with
    | none => intro h; exact h.elim
    | some _ => intro _; rfl
  refine wpAny_bind (wp_drive (2 ^ 64) n m hd hn (Nat.two_pow_pos 64) ?_)
  refine wpAny_bind ?_
  refine wp_tell (M := M) (fun i => (m.runFor n).seen.has i) (fun i => Sre.names.getD i "") _ ?_
  revert h
  cases (m.runFor n).outcome with
  | none => intro h; exact h.elim
  | some o =>
    cases o with
    | matched => intro h; exact wpAny_pure h
    | failed => intro h; exact wpAny_pure h
    | stuck => intro h; exact h.elim
end
end Sh51
end
section
open PySem PySem.W PyProof.Rows PySem.Spec PySem.Calls
set_option Elab.async false
set_option maxRecDepth 100000
set_option linter.all false
namespace Sh51
open PySem.Builtin.Re
noncomputable def Clean (c : Nat) : Prop := 32 ≤ c ∧ c ≠ 127
noncomputable def codeN : Array Nat := #[14, 10, 4, 1, 1, 22, 0, 31, 16, 127, 0, 13, 7, 22, 0, 31, 16, 127, 0, 1]
noncomputable def codeV : Array Nat := #[14, 14, 4, 1, 1, 9, 4294966783, 0, 0, 2147483648, 0, 0, 0, 0, 0, 13, 11, 9, 4294966783, 0, 0, 2147483648, 0, 0, 0, 0, 0, 1]
theorem inN (c : Nat) (h : Clean c) (seen : Sre.Seen) : ∃ seen', Sre.inSet codeN c codeN.size 5 true seen = .ok (false, seen') := by
  have h1 : ¬ c ≤ 31 := by have := h.1; omega
  have h2 : (c == 127) = false := by have := h.2; simpa using this
  refine ⟨((seen.add 22).add 16).add 0, ?_⟩
  show Sre.inSet codeN c 20 5 true seen = _
  simp [Sre.inSet, codeN, Sre.ops, h1, h2]
theorem inV (c : Nat) (h : Clean c) (seen : Sre.Seen) : ∃ seen', Sre.inSet codeV c codeV.size 5 true seen = .ok (false, seen') := by
  refine ⟨(seen.add 9).add 0, ?_⟩
  have hb : (decide (c < 256) && (codeV.getD (5 + (1 + c / 32)) 0).testBit (c % 32)) = false := by
    by_cases h256 : c < 256
    · have key : ∀ c : Fin 256, 32 ≤ c.val → c.val ≠ 127 → (codeV.getD (5 + (1 + c.val / 32)) 0).testBit (c.val % 32) = false := by decide +kernel
      rw [key ⟨c, h256⟩ h.1 h.2, Bool.and_false]
    · rw [decide_eq_false h256, Bool.false_and]
  show Sre.inSet codeV c 28 5 true seen = _
  unfold Sre.inSet
  have e1 : Sre.ops[codeV.getD (5 + 0) 0]? = some .CHARSET := rfl
  simp only [e1]
  rw [show (if (decide (c < 256) && (codeV.getD (5 + (1 + c / 32)) 0).testBit (c % 32)) = true then (Except.ok (true, seen.add (codeV.getD (5 + 0) 0)) : Except String (Bool × Sre.Seen)) else Sre.inSet codeV c 27 (5 + 9) true (seen.add (codeV.getD (5 + 0) 0))) = Sre.inSet codeV c 27 (5 + 9) true (seen.add (codeV.getD (5 + 0) 0)) from by rw [hb]; rfl]
  unfold Sre.inSet
  have e2 : Sre.ops[codeV.getD (5 + 9 + 0) 0]? = some .FAILURE := rfl
  simp only [e2]
  rfl
theorem admitted_none {code : Array Nat} (H : ∀ c, Clean c → ∀ seen, ∃ seen', Sre.inSet code c code.size 5 true seen = .ok (false, seen')) {m : Sre.M} (hc : m.code = code) (hl : m.lim ≤ m.text.size) (ht : ∀ c ∈ m.text, Clean c) :
    ∀ fuel i seen, ∃ seen', Sre.M.admitted m fuel i seen = .ok (none, seen')
  | 0, i, seen => ⟨seen, rfl⟩
  | fuel + 1, i, seen => by
    unfold Sre.M.admitted
    by_cases hi : i ≥ m.lim
    · exact ⟨seen, by rw [if_pos hi]⟩
    · rw [if_neg hi]
      have hlt : i < m.text.size := by omega
      have hm : Clean (m.text.getD i 0) := by
        rw [Array.getD_eq_getD_getElem?, Array.getElem?_eq_getElem hlt]
        exact ht _ (Array.getElem_mem hlt)
      obtain ⟨seen', e⟩ := H _ hm seen
      rw [hc, e]
      exact admitted_none H hc hl ht fuel (i + 1) seen'
theorem say_done {m : Sre.M} (h1 : m.outcome = none) (h2 : m.frames = []) : ((m.say false).runFor 1).outcome = some .failed := by
  simp [Sre.M.runFor, Sre.M.step, Sre.M.say, h1, h2]
theorem attempt_none {code : Array Nat} (H : ∀ c, Clean c → ∀ seen, ∃ seen', Sre.inSet code c code.size 5 true seen = .ok (false, seen')) {m : Sre.M} (hc : m.code = code) (hF : m.hasFirstSet = true) (hl : m.lim ≤ m.text.size) (ht : ∀ c ∈ m.text, Clean c)
    (h1 : m.outcome = none) (h2 : m.frames = []) (i : Nat) (b : Bool) : ((m.attemptFrom i b).runFor 1).outcome = some .failed := by
  unfold Sre.M.attemptFrom
  rw [hF]
  obtain ⟨seen', e⟩ := admitted_none H hc hl ht (m.lim + 1 - i) i m.seen
  simp only [Bool.not_true, Bool.false_eq_true, if_false, e]
  exact say_done h1 h2
/-- a search by a first set that no sign of the text is in -/
theorem search_none {code text : Array Nat} (H : ∀ c, Clean c → ∀ seen, ∃ seen', Sre.inSet code c code.size 5 true seen = .ok (false, seen')) (hF : ((match Sre.ops[code.getD 0 0]? with | some .INFO => true | _ => false) && code.getD 2 0 == 4) = true) (ht : ∀ c ∈ text, Clean c) :
    ((Sre.forSearch code text 0 0 text.size false).runFor 1).outcome = some .failed := by
  unfold Sre.forSearch
  dsimp only
  split
  · exact say_done rfl rfl
  · refine attempt_none (code := code) H ?a ?b ?c ?d ?e ?f 0 true
    case a => rfl
    case b => exact hF
    case c => exact Nat.le_refl _
    case d => exact ht
    case e => rfl
    case f => rfl
theorem searchN {text : Array Nat} (ht : ∀ c ∈ text, Clean c) : ((Sre.forSearch codeN text 0 0 text.size false).runFor 1).outcome = some .failed := search_none inN rfl ht
theorem searchV {text : Array Nat} (ht : ∀ c ∈ text, Clean c) : ((Sre.forSearch codeV text 0 0 text.size false).runFor 1).outcome = some .failed := search_none inV rfl ht
end Sh51
end
section
open PySem PySem.W PyProof.Rows PySem.Spec PySem.Calls
set_option Elab.async false
set_option maxRecDepth 100000
set_option linter.all false
namespace Sh51
open PySem.Builtin.Re
theorem named_search (v : Value) : reNamed "re.Pattern.search" "search" ["string", "pos", "endpos"] 1 [v] [] = pure [some v, none, none] := by rfl
section
variable {prog : Program} {w : World} {A : Around} {E : Value → Shared → Prop} {s : Shared} {pa ta : Addr} {x : Str} {t : Tok}
noncomputable def patObj (src flags : Value) (ta : Addr) : Obj := { cls := .type "re.Pattern", data := .fields #[src, flags, .int 0 0, .none, .none, .ref ta, .int 0 0] }
noncomputable def tupObj (vs : Array Value) : Obj := { cls := .type "tuple", data := .seq vs }
noncomputable def codeOf (vs : Array Value) : Array Nat := (vs.map reRawOf).map (·.toNat)
theorem wp_target {src flags : Value} {vs : Array Value} {Q : ReTarget → Shared → Prop} (hp : s.heap.get? pa = some (patObj src flags ta)) (ht : s.heap.get? ta = some (tupObj vs)) (hx : x.cps.size ≤ 2 ^ 63 - 1)
    (h : Q { pattern := .ref pa, string := .str x t, code := codeOf vs, text := x.cps, kind := 0, groups := 0, pos := 0, lim := x.cps.size } s) : wpAny (model prog w) A (reTarget "re.Pattern.search" "search" ⟨[.ref pa, .str x t], []⟩) Q E s := by
  unfold reTarget
  dsimp only
  rw [named_search]
  refine wpAny_bind (wpAny_pure ?_)
  dsimp only
  refine wpAny_bind (wpAny_pure (wpAny_bind (wpAny_pure ?_)))
  refine wpAny_bind (wpAny_fieldsOf hp rfl ?_)
  refine wpAny_bind ?_
  unfold reTextOf asStr?
  refine wpAny_bind (wpAny_pure ?_)
  refine wpAny_pure ?_
  dsimp only
  have e1 : ((reRawNat ((#[src, flags, Value.int 0 0, .none, .none, .ref ta, .int 0 0] : Array Value).getD 6 .none) == 0 && (0 : Nat) == 1) = true) = False := by simp
  have e2 : ((reRawNat ((#[src, flags, Value.int 0 0, .none, .none, .ref ta, .int 0 0] : Array Value).getD 6 .none) == 1 && (0 : Nat) == 0) = true) = False := by simp [reRawNat]
  simp only [e1, e2, if_false]
  refine wpAny_bind (wpAny_pure ?_)
  have e3 : ((#[src, flags, Value.int 0 0, .none, .none, .ref ta, .int 0 0] : Array Value).getD 5 .none) = .ref ta := rfl
  rw [e3]
  refine wpAny_bind ?_
  unfold reRawItems
  refine wpAny_bind (wpAny_seqItems ht rfl (wpAny_pure (wpAny_pure ?_)))
  have e4 : min (2 ^ 63 - 1 : Int).toNat x.cps.size = x.cps.size := by
    have : ((2 : Int) ^ 63 - 1).toNat = 2 ^ 63 - 1 := by decide
    rw [this]; omega
  have e5 : min (Int.toNat 0) x.cps.size = 0 := by simp
  rw [e4, e5]
  exact h
theorem slot_typed {src flags : Value} (hp : s.heap.get? pa = some (patObj src flags ta)) : s.TypeIs (.ref pa) "re.Pattern" := ⟨_, hp, rfl⟩
theorem re_method {src flags : Value} {name : Str} {id : String} {pl : Sem Bool} {Q : Value × List Value → Shared → Prop} (hp : s.heap.get? pa = some (patObj src flags ta)) (sl : Slot "re.Pattern" name id) (ty : typeOf (.builtin id) = pure (.type "method_descriptor"))
    (h : Q (.builtin id, [.ref pa]) s) : wpAny (model prog w) A (getMethod (.ref pa) name pl) Q E s :=
  getMethod_builtin (slot_typed hp) plain_re sl ty (fun b e => by injection e with e; subst e; exact ⟨_, hp, rfl⟩) h
theorem call_search {src flags : Value} {vs : Array Value} {Q : Value → Shared → Prop} (hp : s.heap.get? pa = some (patObj src flags ta)) (ht : s.heap.get? ta = some (tupObj vs)) (hx : x.cps.size ≤ 2 ^ 63 - 1)
    (hr : ((Sre.forSearch (codeOf vs) x.cps 0 0 x.cps.size false).runFor 1).outcome = some .failed) (h : Q .none s) : wpAny (model prog w) A (call (.builtin "re.Pattern.search") [.ref pa, .str x t]) Q E s := by
  refine wpAny_call_entry slot_re_search (slot_typed hp) entry_re_search ?_ (args_re_search _ _)
  unfold Builtin.«re.Pattern.search»
  refine wpAny_bind (wp_target hp ht hx ?_)
  unfold reAnswer
  refine wpAny_bind (wp_runEnd 1 (by decide) ?_)
  rw [hr]
  exact wpAny_pure ⟨_, rfl, h⟩
end
end Sh51
end
section
open PySem PySem.W PyProof.Rows PySem.Spec PySem.Calls
set_option Elab.async false
set_option maxRecDepth 100000
set_option linter.all false
namespace Sh51
open PySem.Builtin.Re
noncomputable def code2 : Array Nat := #[14, 9, 4, 1, 2, 16, 10, 16, 13, 0, 7, 7, 16, 13, 16, 10, 15, 18, 5, 16, 10, 15, 13, 11, 16, 13, 5, 5, 0, 16, 10, 1, 15, 2, 0, 1]
noncomputable abbrev mk (T code : Array Nat) (ls q pc pos handed : Nat) (om : Bool) (fr : List Sre.Frame) (wt : Nat) (ans : Option Bool) (seen : Sre.Seen) : Sre.M :=
  { code, text := T, lim := T.size, start := q, lastStart := ls, pc, pos, handed, outermost := om, marks := #[], frames := fr, weight := wt, answer := ans, seen }
theorem run_succ {n : Nat} {m m' : Sre.M} (ho : m.outcome = none) (h : m.step = m') : m.runFor (n + 1) = m'.runFor n := by
  subst h
  simp only [Sre.M.runFor, ho, Option.isSome_none, Bool.false_eq_true, if_false]
theorem step_resume {m : Sre.M} {yes : Bool} {f : Sre.Frame} {rest : List Sre.Frame} (ho : m.outcome = none) (ha : m.answer = some yes) (hf : m.frames = f :: rest) :
    m.step = Sre.M.resume { m with answer := none, frames := rest, weight := m.weight - (1 + f.kept.marks.size), pc := f.pc, pos := f.pos, outermost := f.outermost } f yes := by
  simp [Sre.M.step, ho, ha, hf]
section
variable {T : Array Nat} {ls q pos handed wt : Nat} {om : Bool} {fr : List Sre.Frame} {seen : Sre.Seen}
theorem lit_ok {code : Array Nat} {pc w : Nat} (hs : pc < code.size) (hop : Sre.ops[code.getD (pc + 0) 0]? = some .LITERAL) (hop' : Sre.ops[code.getD pc 0]? = some .LITERAL) (hw : code.getD (pc + 1) 0 = w) (h1 : pos < T.size) (h2 : T.getD pos 0 = w) :
    ∃ seen', (mk T code ls q pc pos handed om fr wt none seen).step = mk T code ls q (pc + 2) (pos + 1) handed om fr wt none seen' := by
  refine ⟨seen.add (code.getD (pc + 0) 0), ?_⟩
  show (if pc < code.size then (mk T code ls q pc pos handed om fr wt none seen).exec else _) = _
  rw [if_pos hs]
  unfold Sre.M.exec
  dsimp only [Sre.M.word]
  rw [hop]
  dsimp only
  rw [if_neg (Nat.not_le.mpr h1)]
  unfold Sre.accepts
  dsimp only
  rw [hop']
  dsimp only
  rw [hw, h2, beq_self_eq_true]
  dsimp only
  unfold Sre.itemWidth
  rw [hop']
theorem lit_no {code : Array Nat} {pc w : Nat} (hs : pc < code.size) (hop : Sre.ops[code.getD (pc + 0) 0]? = some .LITERAL) (hop' : Sre.ops[code.getD pc 0]? = some .LITERAL) (hw : code.getD (pc + 1) 0 = w) (h2 : pos < T.size → T.getD pos 0 ≠ w) :
    ∃ seen', (mk T code ls q pc pos handed om fr wt none seen).step = mk T code ls q pc pos handed om fr wt (some false) seen' := by
  refine ⟨seen.add (code.getD (pc + 0) 0), ?_⟩
  show (if pc < code.size then (mk T code ls q pc pos handed om fr wt none seen).exec else _) = _
  rw [if_pos hs]
  unfold Sre.M.exec
  dsimp only [Sre.M.word]
  rw [hop]
  dsimp only
  by_cases h1 : pos < T.size
  · rw [if_neg (Nat.not_le.mpr h1)]
    unfold Sre.accepts
    dsimp only
    rw [hop']
    dsimp only
    rw [hw, show (T.getD pos 0 == w) = false from by simpa using h2 h1]
    rfl
  · rw [if_pos (Nat.not_lt.mp h1)]
    rfl
theorem jump_st {code : Array Nat} {pc d : Nat} (hs : pc < code.size) (hop : Sre.ops[code.getD (pc + 0) 0]? = some .JUMP) (hd : pc + 1 + code.getD (pc + 1) 0 = d) :
    ∃ seen', (mk T code ls q pc pos handed om fr wt none seen).step = mk T code ls q d pos handed om fr wt none seen' := by
  refine ⟨seen.add (code.getD (pc + 0) 0), ?_⟩
  show (if pc < code.size then (mk T code ls q pc pos handed om fr wt none seen).exec else _) = _
  rw [if_pos hs, ← hd]
  unfold Sre.M.exec
  dsimp only [Sre.M.word]
  rw [hop]
theorem succ_st {code : Array Nat} {pc : Nat} (hs : pc < code.size) (hop : Sre.ops[code.getD (pc + 0) 0]? = some .SUCCESS) :
    ∃ seen', (mk T code ls q pc pos handed om fr wt none seen).step = mk T code ls q pc pos pos om fr wt (some true) seen' := by
  refine ⟨seen.add (code.getD (pc + 0) 0), ?_⟩
  show (if pc < code.size then (mk T code ls q pc pos handed om fr wt none seen).exec else _) = _
  rw [if_pos hs]
  unfold Sre.M.exec
  dsimp only [Sre.M.word]
  rw [hop]
  dsimp only
  rw [if_neg (by cases om <;> simp)]
  rfl
noncomputable abbrev brF (alt pos : Nat) (om : Bool) : Sre.Frame := { wait := .nextBranch, pc := alt, pos := pos, outermost := om }
theorem branch_st {code : Array Nat} {pc : Nat} (hs : pc < code.size) (hop : Sre.ops[code.getD (pc + 0) 0]? = some .BRANCH) (hz : (code.getD (pc + 1) 0 == 0) = false) (hwt : wt < 1000) :
    ∃ seen', (mk T code ls q pc pos handed om fr wt none seen).step = mk T code ls q (pc + 2) pos pos om (brF (pc + 1) pos om :: fr) (wt + 1) none seen' := by
  refine ⟨seen.add (code.getD (pc + 0) 0), ?_⟩
  show (if pc < code.size then (mk T code ls q pc pos handed om fr wt none seen).exec else _) = _
  rw [if_pos hs]
  unfold Sre.M.exec
  dsimp only [Sre.M.word]
  rw [hop]
  dsimp only [Sre.M.alternative]
  rw [hz]
  show Sre.M.attempt _ _ _ _ _ = _
  unfold Sre.M.attempt
  rw [if_neg (by show ¬ (wt + 1 + 0 > 16777216); omega)]
  rfl
theorem next_alt {code : Array Nat} {pc alt : Nat} {p o : Nat} {om' : Bool} (hz : (code.getD (alt + code.getD alt 0) 0 == 0) = false) (hwt : wt < 1000) :
    (mk T code ls q pc p o om' (brF alt pos om :: fr) (wt + 1) (some false) seen).step = mk T code ls q (alt + code.getD alt 0 + 1) pos pos om (brF (alt + code.getD alt 0) pos om :: fr) (wt + 1) none seen := by
  rw [step_resume (f := _) rfl rfl rfl]
  unfold Sre.M.resume
  dsimp only [Sre.M.alternative, Sre.M.putBack]
  simp only [Bool.false_eq_true, if_false]
  rw [hz]
  show Sre.M.attempt _ _ _ _ _ = _
  unfold Sre.M.attempt
  rw [if_neg (by show ¬ (wt + 1 - (1 + 0) + 1 + 0 > 16777216); omega)]
  show mk T code ls q (alt + code.getD alt 0 + 1) pos pos om _ (wt + 1 - (1 + 0) + 1 + 0) none seen = _
  rw [show wt + 1 - (1 + 0) + 1 + 0 = wt + 1 by omega]
  rfl
theorem br_true {code : Array Nat} {pc alt : Nat} {p o : Nat} {om' : Bool} :
    (mk T code ls q pc p o om' (brF alt pos om :: fr) (wt + 1) (some true) seen).step = mk T code ls q alt pos o om fr wt (some true) seen := by
  rw [step_resume (f := _) rfl rfl rfl]
  rfl
noncomputable abbrev lkF (pc pos : Nat) (om : Bool) : Sre.Frame := { wait := .lookNot, pc := pc, pos := pos, outermost := om }
theorem not_st {code : Array Nat} {pc : Nat} (hs : pc < code.size) (hop : Sre.ops[code.getD (pc + 0) 0]? = some .ASSERT_NOT) (h0 : code.getD (pc + 2) 0 = 0) (hwt : wt < 1000) :
    ∃ seen', (mk T code ls q pc pos handed om fr wt none seen).step = mk T code ls q (pc + 3) pos pos false (lkF pc pos om :: fr) (wt + 1) none seen' := by
  refine ⟨seen.add (code.getD (pc + 0) 0), ?_⟩
  show (if pc < code.size then (mk T code ls q pc pos handed om fr wt none seen).exec else _) = _
  rw [if_pos hs]
  unfold Sre.M.exec
  dsimp only [Sre.M.word]
  rw [hop]
  dsimp only
  refine Eq.trans (if_neg (show ¬ (pos < code.getD (pc + 2) 0) from by rw [h0]; exact Nat.not_lt_zero _)) ?_
  show Sre.M.attempt _ _ _ _ _ = _
  unfold Sre.M.attempt
  refine Eq.trans (if_neg (show ¬ (wt + 1 + 0 > 16777216) from by omega)) ?_
  show mk T code ls q (pc + 3) (pos - code.getD (pc + 2) 0) (pos - code.getD (pc + 2) 0) false _ (wt + 1) none _ = _
  rw [h0]
  rfl
theorem lk_false {code : Array Nat} {pc pl d : Nat} {p o : Nat} {om' : Bool} (hd : pl + 1 + code.getD (pl + 1) 0 = d) :
    (mk T code ls q pc p o om' (lkF pl pos om :: fr) (wt + 1) (some false) seen).step = mk T code ls q d pos o om fr wt none seen := by
  subst hd
  rw [step_resume (f := _) rfl rfl rfl]
  rfl
noncomputable abbrev stF (pc q : Nat) (om : Bool) : Sre.Frame := { wait := .nextStart, pc := pc, pos := q, outermost := om }
theorem st_true {code : Array Nat} {pc pl : Nat} {p o : Nat} {om' : Bool} :
    (mk T code ls q pc p o om' (stF pl pos om :: fr) (wt + 1) (some true) seen).step = mk T code ls q pl pos o om fr wt (some true) seen := by
  rw [step_resume (f := _) rfl rfl rfl]
  rfl
theorem end_true {code : Array Nat} {pc p o : Nat} {om' : Bool} : (mk T code ls q pc p o om' [] 0 (some true) seen).step = { mk T code ls q pc p o om' [] 0 (some true) seen with outcome := some .matched } := rfl
theorem at_st {code : Array Nat} {pc p o : Nat} {om' b : Bool} {q' : Nat} : (mk T code ls q pc p o om' [] 0 none seen).attemptAt q' b = mk T code ls q' pc q' q' b [stF pc q' b] 1 none seen := by
  unfold Sre.M.attemptAt Sre.M.attempt
  rw [if_neg (by show ¬ (0 + 1 + 0 > 16777216); omega)]
  rfl
end
noncomputable def Ends (m : Sre.M) (q e : Nat) : Prop := ∃ n ≤ 40, (m.runFor n).outcome = some .matched ∧ (m.runFor n).start = q ∧ (m.runFor n).handed = e
theorem Ends.step {m m' : Sre.M} {q e N : Nat} (ho : m.outcome = none) (hs : m.step = m') (h : ∃ n ≤ N, (m'.runFor n).outcome = some .matched ∧ (m'.runFor n).start = q ∧ (m'.runFor n).handed = e) :
    ∃ n ≤ N + 1, (m.runFor n).outcome = some .matched ∧ (m.runFor n).start = q ∧ (m.runFor n).handed = e := by
  obtain ⟨n, h1, h2⟩ := h
  exact ⟨n + 1, by omega, by rw [run_succ ho hs]; exact h2⟩
section
variable {T : Array Nat} {ls : Nat} {seen : Sre.Seen}
/-- one break, at the place where the try stands -/
theorem try2a {q : Nat} (hq : q < T.size) (b : Bool) (h10 : T.getD q 0 = 10) : Ends (mk T code2 ls q 10 q q b [stF 10 q b] 1 none seen) q (q + 1) := by
  obtain ⟨s1, e1⟩ := branch_st (T := T) (ls := ls) (q := q) (pos := q) (handed := q) (wt := 1) (om := b) (fr := [stF 10 q b]) (seen := seen) (code := code2) (pc := 10) (by decide) rfl rfl (by omega)
  refine Ends.step rfl e1 (N := 39) ?_
  obtain ⟨s2, e2⟩ := lit_no (T := T) (ls := ls) (q := q) (pos := q) (handed := q) (wt := 2) (om := b) (fr := [brF 11 q b, stF 10 q b]) (seen := s1) (code := code2) (pc := 12) (w := 13) (by decide) rfl rfl rfl (fun _ => by rw [h10]; decide)
  refine Ends.step rfl e2 (N := 38) ?_
  refine Ends.step rfl (next_alt (alt := 11) (wt := 1) (code := code2) rfl (by omega)) (N := 37) ?_
  obtain ⟨s3, e3⟩ := lit_ok (T := T) (ls := ls) (q := q) (pos := q) (handed := q) (wt := 2) (om := b) (fr := [brF 18 q b, stF 10 q b]) (seen := s2) (code := code2) (pc := 19) (w := 10) (by decide) rfl rfl rfl hq h10
  refine Ends.step rfl e3 (N := 36) ?_
  obtain ⟨s4, e4⟩ := jump_st (T := T) (ls := ls) (q := q) (pos := q + 1) (handed := q) (wt := 2) (om := b) (fr := [brF 18 q b, stF 10 q b]) (seen := s3) (code := code2) (pc := 21) (d := 35) (by decide) rfl rfl
  refine Ends.step rfl e4 (N := 35) ?_
  obtain ⟨s5, e5⟩ := succ_st (T := T) (ls := ls) (q := q) (pos := q + 1) (handed := q) (wt := 2) (om := b) (fr := [brF 18 q b, stF 10 q b]) (seen := s4) (code := code2) (pc := 35) (by decide) rfl
  refine Ends.step rfl e5 (N := 34) ?_
  refine Ends.step rfl br_true (N := 33) ?_
  refine Ends.step rfl st_true (N := 32) ?_
  refine Ends.step rfl end_true (N := 31) ?_
  exact ⟨0, by omega, rfl, rfl, rfl⟩
theorem try2b {q : Nat} (hq : q + 1 < T.size) (b : Bool) (h13 : T.getD q 0 = 13) (h10 : T.getD (q + 1) 0 = 10) : Ends (mk T code2 ls q 10 q q b [stF 10 q b] 1 none seen) q (q + 2) := by
  obtain ⟨s1, e1⟩ := branch_st (T := T) (ls := ls) (q := q) (pos := q) (handed := q) (wt := 1) (om := b) (fr := [stF 10 q b]) (seen := seen) (code := code2) (pc := 10) (by decide) rfl rfl (by omega)
  refine Ends.step rfl e1 (N := 39) ?_
  obtain ⟨s2, e2⟩ := lit_ok (T := T) (ls := ls) (q := q) (pos := q) (handed := q) (wt := 2) (om := b) (fr := [brF 11 q b, stF 10 q b]) (seen := s1) (code := code2) (pc := 12) (w := 13) (by decide) rfl rfl rfl (by omega) h13
  refine Ends.step rfl e2 (N := 38) ?_
  obtain ⟨s3, e3⟩ := lit_ok (T := T) (ls := ls) (q := q) (pos := q + 1) (handed := q) (wt := 2) (om := b) (fr := [brF 11 q b, stF 10 q b]) (seen := s2) (code := code2) (pc := 14) (w := 10) (by decide) rfl rfl rfl hq h10
  refine Ends.step rfl e3 (N := 37) ?_
  obtain ⟨s4, e4⟩ := jump_st (T := T) (ls := ls) (q := q) (pos := q + 2) (handed := q) (wt := 2) (om := b) (fr := [brF 11 q b, stF 10 q b]) (seen := s3) (code := code2) (pc := 16) (d := 35) (by decide) rfl rfl
  refine Ends.step rfl e4 (N := 36) ?_
  obtain ⟨s5, e5⟩ := succ_st (T := T) (ls := ls) (q := q) (pos := q + 2) (handed := q) (wt := 2) (om := b) (fr := [brF 11 q b, stF 10 q b]) (seen := s4) (code := code2) (pc := 35) (by decide) rfl
  refine Ends.step rfl e5 (N := 35) ?_
  refine Ends.step rfl br_true (N := 34) ?_
  refine Ends.step rfl st_true (N := 33) ?_
  refine Ends.step rfl end_true (N := 32) ?_
  exact ⟨0, by omega, rfl, rfl, rfl⟩
theorem try2c {q : Nat} (hq : q < T.size) (b : Bool) (h13 : T.getD q 0 = 13) (h10 : q + 1 < T.size → T.getD (q + 1) 0 ≠ 10) : Ends (mk T code2 ls q 10 q q b [stF 10 q b] 1 none seen) q (q + 1) := by
  obtain ⟨s1, e1⟩ := branch_st (T := T) (ls := ls) (q := q) (pos := q) (handed := q) (wt := 1) (om := b) (fr := [stF 10 q b]) (seen := seen) (code := code2) (pc := 10) (by decide) rfl rfl (by omega)
  refine Ends.step rfl e1 (N := 39) ?_
  obtain ⟨s2, e2⟩ := lit_ok (T := T) (ls := ls) (q := q) (pos := q) (handed := q) (wt := 2) (om := b) (fr := [brF 11 q b, stF 10 q b]) (seen := s1) (code := code2) (pc := 12) (w := 13) (by decide) rfl rfl rfl hq h13
  refine Ends.step rfl e2 (N := 38) ?_
  obtain ⟨s3, e3⟩ := lit_no (T := T) (ls := ls) (q := q) (pos := q + 1) (handed := q) (wt := 2) (om := b) (fr := [brF 11 q b, stF 10 q b]) (seen := s2) (code := code2) (pc := 14) (w := 10) (by decide) rfl rfl rfl h10
  refine Ends.step rfl e3 (N := 37) ?_
  refine Ends.step rfl (next_alt (alt := 11) (wt := 1) (code := code2) rfl (by omega)) (N := 36) ?_
  obtain ⟨s4, e4⟩ := lit_no (T := T) (ls := ls) (q := q) (pos := q) (handed := q) (wt := 2) (om := b) (fr := [brF 18 q b, stF 10 q b]) (seen := s3) (code := code2) (pc := 19) (w := 10) (by decide) rfl rfl rfl (fun _ => by rw [h13]; decide)
  refine Ends.step rfl e4 (N := 35) ?_
  refine Ends.step rfl (next_alt (alt := 18) (wt := 1) (code := code2) rfl (by omega)) (N := 34) ?_
  obtain ⟨s5, e5⟩ := lit_ok (T := T) (ls := ls) (q := q) (pos := q) (handed := q) (wt := 2) (om := b) (fr := [brF 23 q b, stF 10 q b]) (seen := s4) (code := code2) (pc := 24) (w := 13) (by decide) rfl rfl rfl hq h13
  refine Ends.step rfl e5 (N := 33) ?_
  obtain ⟨s6, e6⟩ := not_st (T := T) (ls := ls) (q := q) (pos := q + 1) (handed := q) (wt := 2) (om := b) (fr := [brF 23 q b, stF 10 q b]) (seen := s5) (code := code2) (pc := 26) (by decide) rfl rfl (by omega)
  refine Ends.step rfl e6 (N := 32) ?_
  obtain ⟨s7, e7⟩ := lit_no (T := T) (ls := ls) (q := q) (pos := q + 1) (handed := q + 1) (wt := 3) (om := false) (fr := [lkF 26 (q + 1) b, brF 23 q b, stF 10 q b]) (seen := s6) (code := code2) (pc := 29) (w := 10) (by decide) rfl rfl rfl h10
  refine Ends.step rfl e7 (N := 31) ?_
  refine Ends.step rfl (lk_false (pl := 26) (d := 32) (code := code2) rfl) (N := 30) ?_
  obtain ⟨s8, e8⟩ := jump_st (T := T) (ls := ls) (q := q) (pos := q + 1) (handed := q + 1) (wt := 2) (om := b) (fr := [brF 23 q b, stF 10 q b]) (seen := s7) (code := code2) (pc := 32) (d := 35) (by decide) rfl rfl
  refine Ends.step rfl e8 (N := 29) ?_
  obtain ⟨s9, e9⟩ := succ_st (T := T) (ls := ls) (q := q) (pos := q + 1) (handed := q + 1) (wt := 2) (om := b) (fr := [brF 23 q b, stF 10 q b]) (seen := s8) (code := code2) (pc := 35) (by decide) rfl
  refine Ends.step rfl e9 (N := 28) ?_
  refine Ends.step rfl br_true (N := 27) ?_
  refine Ends.step rfl st_true (N := 26) ?_
  refine Ends.step rfl end_true (N := 25) ?_
  exact ⟨0, by omega, rfl, rfl, rfl⟩
end
end Sh51
end
section
open PySem PySem.W PyProof.Rows PySem.Spec PySem.Calls
set_option Elab.async false
set_option maxRecDepth 100000
set_option linter.all false
namespace Sh51
open PySem.Builtin.Re
noncomputable def isBr (c : Nat) : Prop := c = 10 ∨ c = 13
theorem in2 (c : Nat) (seen : Sre.Seen) : ∃ seen', Sre.inSet code2 c code2.size 5 true seen = .ok (decide (c = 10 ∨ c = 13), seen') := by
  by_cases h1 : c = 10
  · exact ⟨_, by subst h1; simp [Sre.inSet, code2, Sre.ops]; rfl⟩
  · by_cases h2 : c = 13
    · exact ⟨_, by subst h2; simp [Sre.inSet, code2, Sre.ops]; rfl⟩
    · exact ⟨_, by simp [Sre.inSet, code2, Sre.ops, h1, h2]; rfl⟩
theorem admitted2 {m : Sre.M} (hc : m.code = code2) {q : Nat} (hq : q < m.lim) (hb : m.text.getD q 0 = 10 ∨ m.text.getD q 0 = 13) :
    ∀ fuel i seen, i ≤ q → q < i + fuel → (∀ j, i ≤ j → j < q → ¬ (m.text.getD j 0 = 10 ∨ m.text.getD j 0 = 13)) → ∃ seen', Sre.M.admitted m fuel i seen = .ok (some q, seen')
  | 0, i, seen, h1, h2, _ => by omega
  | fuel + 1, i, seen, h1, h2, h3 => by
    unfold Sre.M.admitted
    rw [if_neg (by omega)]
    obtain ⟨seen', e⟩ := in2 (m.text.getD i 0) seen
    rw [hc, e]
    by_cases hi : i = q
    · subst hi
      rw [decide_eq_true hb]
      exact ⟨seen', rfl⟩
    · rw [decide_eq_false (h3 i (Nat.le_refl _) (by omega))]
      exact admitted2 hc hq hb fuel (i + 1) seen' (by omega) (by omega) fun j h4 h5 => h3 j (by omega) h5
theorem admitted2n {m : Sre.M} (hc : m.code = code2) : ∀ fuel i seen, (∀ j, i ≤ j → j < m.lim → ¬ (m.text.getD j 0 = 10 ∨ m.text.getD j 0 = 13)) → ∃ seen', Sre.M.admitted m fuel i seen = .ok (none, seen')
  | 0, i, seen, _ => ⟨seen, rfl⟩
  | fuel + 1, i, seen, h3 => by
    unfold Sre.M.admitted
    by_cases hi : i ≥ m.lim
    · exact ⟨seen, by rw [if_pos hi]⟩
    · rw [if_neg hi]
      obtain ⟨seen', e⟩ := in2 (m.text.getD i 0) seen
      rw [hc, e, decide_eq_false (h3 i (Nat.le_refl _) (by omega))]
      exact admitted2n hc fuel (i + 1) seen' fun j h4 h5 => h3 j (by omega) h5
theorem next2_none {T : Array Nat} {p : Nat} (h : ∀ j, p ≤ j → j < T.size → ¬ (T.getD j 0 = 10 ∨ T.getD j 0 = 13)) : ((Sre.forSearch code2 T 0 p T.size false).runFor 1).outcome = some .failed := by
  unfold Sre.forSearch
  dsimp only
  split
  · exact say_done rfl rfl
  · show ((Sre.M.attemptFrom (mk T code2 T.size p 10 p p true [] 0 none (({} : Sre.Seen).add 14)) p true).runFor 1).outcome = _
    unfold Sre.M.attemptFrom
    rw [if_neg (show ¬ ((!(mk T code2 T.size p 10 p p true [] 0 none (({} : Sre.Seen).add 14)).hasFirstSet) = true) from by (show ¬ ((!true) = true)); decide)]
    obtain ⟨seen', e⟩ := admitted2n (m := mk T code2 T.size p 10 p p true [] 0 none (({} : Sre.Seen).add 14)) rfl (T.size + 1 - p) p (({} : Sre.Seen).add 14) h
    rw [show Sre.M.admitted (mk T code2 T.size p 10 p p true [] 0 none (({} : Sre.Seen).add 14)) ((mk T code2 T.size p 10 p p true [] 0 none (({} : Sre.Seen).add 14)).lim + 1 - p) p (mk T code2 T.size p 10 p p true [] 0 none (({} : Sre.Seen).add 14)).seen = _ from e]
    exact say_done rfl rfl
theorem next2_some {T : Array Nat} {p q e : Nat} (hp : p ≤ q) (hq : q < T.size) (hb : T.getD q 0 = 10 ∨ T.getD q 0 = 13) (h : ∀ j, p ≤ j → j < q → ¬ (T.getD j 0 = 10 ∨ T.getD j 0 = 13))
    (he : ∀ seen, Ends (mk T code2 T.size q 10 q q true [stF 10 q true] 1 none seen) q e) : Ends (Sre.forSearch code2 T 0 p T.size false) q e := by
  unfold Sre.forSearch
  dsimp only
  split
  · rename_i hx
    exfalso
    have : (Sre.header code2).1 = 1 := rfl
    rw [this] at hx
    simp at hx
    omega
  · show Ends (Sre.M.attemptFrom (mk T code2 T.size p 10 p p true [] 0 none (({} : Sre.Seen).add 14)) p true) q e
    unfold Sre.M.attemptFrom
    rw [if_neg (show ¬ ((!(mk T code2 T.size p 10 p p true [] 0 none (({} : Sre.Seen).add 14)).hasFirstSet) = true) from by (show ¬ ((!true) = true)); decide)]
    obtain ⟨seen', e⟩ := admitted2 (m := mk T code2 T.size p 10 p p true [] 0 none (({} : Sre.Seen).add 14)) rfl hq hb (T.size + 1 - p) p (({} : Sre.Seen).add 14) hp (by omega) h
    rw [show Sre.M.admitted (mk T code2 T.size p 10 p p true [] 0 none (({} : Sre.Seen).add 14)) ((mk T code2 T.size p 10 p p true [] 0 none (({} : Sre.Seen).add 14)).lim + 1 - p) p (mk T code2 T.size p 10 p p true [] 0 none (({} : Sre.Seen).add 14)).seen = _ from e]
    show Ends ((mk T code2 T.size p 10 p p true [] 0 none seen').attemptAt q true) q _
    rw [at_st]
    exact he seen'
/-- the end of a break at q -/
noncomputable def brEnd (T : Array Nat) (q : Nat) : Nat := if T.getD q 0 = 13 ∧ q + 1 < T.size ∧ T.getD (q + 1) 0 = 10 then q + 2 else q + 1
theorem next2 {T : Array Nat} {p q : Nat} (hp : p ≤ q) (hq : q < T.size) (hb : T.getD q 0 = 10 ∨ T.getD q 0 = 13) (h : ∀ j, p ≤ j → j < q → ¬ (T.getD j 0 = 10 ∨ T.getD j 0 = 13)) : Ends (Sre.forSearch code2 T 0 p T.size false) q (brEnd T q) := by
  refine next2_some hp hq hb h fun seen => ?_
  unfold brEnd
  rcases hb with hb | hb
  · rw [if_neg (by rw [hb]; simp)]
    exact try2a hq true hb
  · by_cases h10 : q + 1 < T.size ∧ T.getD (q + 1) 0 = 10
    · rw [if_pos ⟨hb, h10⟩]
      exact try2b h10.1 true hb h10.2
    · rw [if_neg fun x => h10 x.2]
      exact try2c hq true hb fun h1 h2 => h10 ⟨h1, h2⟩
-- code1
noncomputable def code1 : Array Nat := #[14, 4, 0, 1, 1, 6, 1, 16, 46, 1]
section
variable {T : Array Nat} {ls q pos handed wt : Nat} {om : Bool} {fr : List Sre.Frame} {seen : Sre.Seen}
theorem at_ok (h : pos = 0 ∨ T.getD (pos - 1) 0 = 10) : ∃ seen', (mk T code1 ls q 5 pos handed om fr wt none seen).step = mk T code1 ls q 7 pos handed om fr wt none seen' := by
  refine ⟨(seen.add (code1.getD (5 + 0) 0)).add (43 + 1), ?_⟩
  show (mk T code1 ls q 5 pos handed om fr wt none seen).exec = _
  have e : (pos == 0 || T.getD (pos - 1) 0 == 10) = true := by simpa using h
  show (if (pos == 0 || T.getD (pos - 1) 0 == 10) = true then mk T code1 ls q 7 pos handed om fr wt none _ else _) = _
  rw [if_pos e]
  rfl
theorem at_no (h : ¬ (pos = 0 ∨ T.getD (pos - 1) 0 = 10)) : ∃ seen', (mk T code1 ls q 5 pos handed om fr wt none seen).step = mk T code1 ls q 5 pos handed om fr wt (some false) seen' := by
  refine ⟨(seen.add (code1.getD (5 + 0) 0)).add (43 + 1), ?_⟩
  show (mk T code1 ls q 5 pos handed om fr wt none seen).exec = _
  have e : ¬ ((pos == 0 || T.getD (pos - 1) 0 == 10) = true) := by simpa using h
  show (if (pos == 0 || T.getD (pos - 1) 0 == 10) = true then mk T code1 ls q 7 pos handed om fr wt none _ else _) = _
  rw [if_neg e]
  rfl
theorem st_false {pc p o : Nat} {om' : Bool} (hq : pos < ls) : (mk T code1 ls q pc p o om' [stF 5 pos om] 1 (some false) seen).step = mk T code1 ls (pos + 1) 5 (pos + 1) (pos + 1) false [stF 5 (pos + 1) false] 1 none seen := by
  rw [step_resume (f := _) rfl rfl rfl]
  unfold Sre.M.resume
  show (if (false : Bool) = true then _ else if pos < ls then _ else _) = _
  rw [if_neg Bool.false_ne_true, if_pos hq]
  unfold Sre.M.attemptFrom
  refine Eq.trans (if_pos rfl) ?_
  exact at_st
theorem st_last {pc p o : Nat} {om' : Bool} (hq : ¬ pos < ls) : ((mk T code1 ls q pc p o om' [stF 5 pos om] 1 (some false) seen).runFor 2).outcome = some .failed := by
  have e : (mk T code1 ls q pc p o om' [stF 5 pos om] 1 (some false) seen).step = (mk T code1 ls q 5 pos o om [] 0 none seen).say false := by
    rw [step_resume (f := _) rfl rfl rfl]
    unfold Sre.M.resume
    show (if (false : Bool) = true then _ else if pos < ls then _ else _) = _
    rw [if_neg Bool.false_ne_true, if_neg hq]
    rfl
  rw [run_succ (n := 1) rfl e]
  exact say_done rfl rfl
end
noncomputable def isDot (T : Array Nat) (p : Nat) : Prop := (p = 0 ∨ T.getD (p - 1) 0 = 10) ∧ p < T.size ∧ T.getD p 0 = 46
/-- a place that does not match: three steps at most to the next -/
theorem miss1 {T : Array Nat} {p : Nat} {b : Bool} {seen : Sre.Seen} (h : ¬ isDot T p) : ∃ k ≤ 2, ∃ pc ps hd seen', ((mk T code1 T.size p 5 p p b [stF 5 p b] 1 none seen).runFor k) = mk T code1 T.size p pc ps hd b [stF 5 p b] 1 (some false) seen' := by
  by_cases h1 : p = 0 ∨ T.getD (p - 1) 0 = 10
  · obtain ⟨s1, e1⟩ := at_ok (T := T) (ls := T.size) (q := p) (pos := p) (handed := p) (wt := 1) (om := b) (fr := [stF 5 p b]) (seen := seen) h1
    obtain ⟨s2, e2⟩ := lit_no (T := T) (ls := T.size) (q := p) (pos := p) (handed := p) (wt := 1) (om := b) (fr := [stF 5 p b]) (seen := s1) (code := code1) (pc := 7) (w := 46) (by decide) rfl rfl rfl (fun hx hy => h ⟨h1, hx, hy⟩)
    exact ⟨2, by omega, _, _, _, _, by rw [run_succ rfl e1, run_succ rfl e2]; rfl⟩
  · obtain ⟨s1, e1⟩ := at_no (T := T) (ls := T.size) (q := p) (pos := p) (handed := p) (wt := 1) (om := b) (fr := [stF 5 p b]) (seen := seen) h1
    exact ⟨1, by omega, _, _, _, _, by rw [run_succ rfl e1]; rfl⟩
theorem hit1 {T : Array Nat} {p : Nat} {b : Bool} {seen : Sre.Seen} (h : isDot T p) : Ends (mk T code1 T.size p 5 p p b [stF 5 p b] 1 none seen) p (p + 1) := by
  obtain ⟨s1, e1⟩ := at_ok (T := T) (ls := T.size) (q := p) (pos := p) (handed := p) (wt := 1) (om := b) (fr := [stF 5 p b]) (seen := seen) h.1
  refine Ends.step rfl e1 (N := 39) ?_
  obtain ⟨s2, e2⟩ := lit_ok (T := T) (ls := T.size) (q := p) (pos := p) (handed := p) (wt := 1) (om := b) (fr := [stF 5 p b]) (seen := s1) (code := code1) (pc := 7) (w := 46) (by decide) rfl rfl rfl h.2.1 h.2.2
  refine Ends.step rfl e2 (N := 38) ?_
  obtain ⟨s3, e3⟩ := succ_st (T := T) (ls := T.size) (q := p) (pos := p + 1) (handed := p) (wt := 1) (om := b) (fr := [stF 5 p b]) (seen := s2) (code := code1) (pc := 9) (by decide) rfl
  refine Ends.step rfl e3 (N := 37) ?_
  refine Ends.step rfl st_true (N := 36) ?_
  refine Ends.step rfl end_true (N := 35) ?_
  exact ⟨0, by omega, rfl, rfl, rfl⟩
noncomputable def EndsN (m : Sre.M) (N q e : Nat) : Prop := ∃ n ≤ N, (m.runFor n).outcome = some .matched ∧ (m.runFor n).start = q ∧ (m.runFor n).handed = e
theorem scan1 {T : Array Nat} {q : Nat} (hq : isDot T q) : ∀ (k p : Nat) (b : Bool) (seen : Sre.Seen), p + k = q → (∀ j, p ≤ j → j < q → ¬ isDot T j) → EndsN (mk T code1 T.size p 5 p p b [stF 5 p b] 1 none seen) (40 + 3 * k) q (q + 1)
  | 0, p, b, seen, hk, _ => by
    obtain rfl : p = q := by omega
    obtain ⟨n, h1, h2⟩ := hit1 (b := b) (seen := seen) hq
    exact ⟨n, by omega, h2⟩
  | k + 1, p, b, seen, hk, hn => by
    obtain ⟨a, ha, pc, ps, hd, s', e⟩ := miss1 (b := b) (seen := seen) (hn p (Nat.le_refl _) (by omega))
    have hlt : p < T.size := by have := hq.2.1; omega
    obtain ⟨n, h1, h2⟩ := scan1 hq k (p + 1) false s' (by omega) fun j h1 h2 => hn j (by omega) h2
    refine ⟨a + (n + 1), by omega, ?_⟩
    rw [runFor_add, e, run_succ rfl (st_false hlt)]
    exact h2
theorem scan1n {T : Array Nat} : ∀ (k p : Nat) (b : Bool) (seen : Sre.Seen), p + k = T.size → (∀ j, p ≤ j → ¬ isDot T j) → ∃ n ≤ 40 + 3 * k, ((mk T code1 T.size p 5 p p b [stF 5 p b] 1 none seen).runFor n).outcome = some .failed
  | 0, p, b, seen, hk, hn => by
    obtain ⟨a, ha, pc, ps, hd, s', e⟩ := miss1 (b := b) (seen := seen) (hn p (Nat.le_refl _))
    exact ⟨a + 2, by omega, by rw [runFor_add, e]; exact st_last (by omega)⟩
  | k + 1, p, b, seen, hk, hn => by
    obtain ⟨a, ha, pc, ps, hd, s', e⟩ := miss1 (b := b) (seen := seen) (hn p (Nat.le_refl _))
    obtain ⟨n, h1, h2⟩ := scan1n k (p + 1) false s' (by omega) fun j h1 => hn j (by omega)
    exact ⟨a + (n + 1), by omega, by rw [runFor_add, e, run_succ rfl (st_false (by omega))]; exact h2⟩
theorem forSearch1 {T : Array Nat} {p : Nat} (hp : p < T.size) : Sre.forSearch code1 T 0 p T.size false = mk T code1 T.size p 5 p p true [stF 5 p true] 1 none (({} : Sre.Seen).add 14) := by
  unfold Sre.forSearch
  dsimp only
  have e : (Sre.header code1).1 = 1 := rfl
  rw [if_neg (by rw [e]; simp; omega)]
  show Sre.M.attemptFrom (mk T code1 T.size p 5 p p true [] 0 none (({} : Sre.Seen).add 14)) p true = _
  unfold Sre.M.attemptFrom
  refine Eq.trans (if_pos rfl) ?_
  exact at_st
theorem next1 {T : Array Nat} {p q : Nat} (hp : p ≤ q) (hq : isDot T q) (h : ∀ j, p ≤ j → j < q → ¬ isDot T j) : EndsN (Sre.forSearch code1 T 0 p T.size false) (40 + 3 * T.size) q (q + 1) := by
  have hlt := hq.2.1
  rw [forSearch1 (by omega)]
  obtain ⟨n, h1, h2⟩ := scan1 hq (q - p) p true (({} : Sre.Seen).add 14) (by omega) h
  exact ⟨n, by omega, h2⟩
theorem next1_none {T : Array Nat} {p : Nat} (hp : p ≤ T.size) (h : ∀ j, p ≤ j → ¬ isDot T j) : ∃ n ≤ 40 + 3 * T.size, ((Sre.forSearch code1 T 0 p T.size false).runFor n).outcome = some .failed := by
  rcases Nat.lt_or_ge p T.size with hlt | hge
  · rw [forSearch1 hlt]
    obtain ⟨n, h1, h2⟩ := scan1n (T.size - p) p true (({} : Sre.Seen).add 14) (by omega) h
    exact ⟨n, by omega, h2⟩
  · refine ⟨1, by omega, ?_⟩
    unfold Sre.forSearch
    dsimp only
    have e : (Sre.header code1).1 = 1 := rfl
    rw [if_pos (by rw [e]; simp; omega)]
    exact say_done rfl rfl
end Sh51
end
section
open PySem PySem.W PyProof.Rows PySem.Spec PySem.Calls
set_option Elab.async false
set_option maxRecDepth 100000
set_option linter.all false
namespace Sh51
open PySem.Builtin.Re
theorem slot_re_sub : Slot "re.Pattern" "sub" "re.Pattern.sub" :=
  .of (owner := "re.Pattern") (n := "sub") (by rw [typeLookup_type, builtinLookup_eq_fast]; kernel_rfl) (by decide +kernel) (by decide +kernel) (by decide +kernel)
    (by first | exact .inl (by decide +kernel) | exact .inr (by decide +kernel)) (by rw [isSubtype_type]; kernel_rfl)
theorem type_re_sub : typeOf (.builtin "re.Pattern.sub") = pure (.type "method_descriptor") := by show builtinType _ = _; rw [builtinType_eq_fast]; kernel_rfl
theorem entry_re_sub : entryFor table "re.Pattern.sub" = some Builtin.«re.Pattern.sub» := entryFor_of_tree (by kernel_rfl)
theorem entry_re_loop : entryFor table "re.Pattern.sub.loop" = some Builtin.«re.Pattern.sub.loop» := entryFor_of_tree (by kernel_rfl)
theorem args_re_sub (a b c : Value) : argsOk "re.Pattern.sub" ⟨[a, b, c], []⟩ := by
  unfold argsOk; rw [signature?_of (id := "re.Pattern.sub") (n := ['b', 'u', 's']) (o := ['n', 'r', 'e', 't', 't', 'a', 'P', '.', 'e', 'r']) (by kernel_rfl) owner_re]; kernel_rfl
theorem str_no_call : typeLookup (.type "str") "__call__" = pure none := by rw [typeLookup_type, builtinLookup_eq_fast]; kernel_rfl
theorem named_sub (a b : Value) : reNamed "re.Pattern.sub" "sub" ["repl", "string", "count"] 2 [a, b] [] = pure [some a, some b, none] := by rfl
theorem quiet_loop (args : Args) : (Code.builtin "re.Pattern.sub.loop" args).quiet = true := plainId_quiet (by decide +kernel) args
theorem plain_loop : plainId "re.Pattern.sub.loop" = true := by decide +kernel
end Sh51
end
section
open PySem PySem.W PyProof.Rows PySem.Spec PySem.Calls
set_option Elab.async false
set_option maxRecDepth 100000
set_option linter.all false
namespace Sh51
open PySem.Builtin.Re
section
variable {prog : Program} {w : World} {A : Around} {E : Value → Shared → Prop} {s : Shared} {pa ta : Addr} {x : Str} {t : Tok}
theorem wp_whole {src flags : Value} {vs : Array Value} {Q : ReTarget → Shared → Prop} (hp : s.heap.get? pa = some (patObj src flags ta)) (ht : s.heap.get? ta = some (tupObj vs))
    (h : Q { pattern := .ref pa, string := .str x t, code := codeOf vs, text := x.cps, kind := 0, groups := 0, pos := 0, lim := x.cps.size } s) : wpAny (model prog w) A (reWholeTarget (.ref pa) (.str x t)) Q E s := by
  unfold reWholeTarget
  refine wpAny_bind (wpAny_fieldsOf hp rfl ?_)
  refine wpAny_bind ?_
  unfold reTextOf asStr?
  refine wpAny_bind (wpAny_pure ?_)
  refine wpAny_pure ?_
  dsimp only
  have e1 : ((reRawNat ((#[src, flags, Value.int 0 0, .none, .none, .ref ta, .int 0 0] : Array Value).getD 6 .none) == 0 && (0 : Nat) == 1) = true) = False := by simp
  have e2 : ((reRawNat ((#[src, flags, Value.int 0 0, .none, .none, .ref ta, .int 0 0] : Array Value).getD 6 .none) == 1 && (0 : Nat) == 0) = true) = False := by simp [reRawNat]
  simp only [e1, e2, if_false]
  refine wpAny_bind (wpAny_pure ?_)
  have e3 : ((#[src, flags, Value.int 0 0, .none, .none, .ref ta, .int 0 0] : Array Value).getD 5 .none) = .ref ta := rfl
  rw [e3]
  refine wpAny_bind ?_
  unfold reRawItems
  exact wpAny_bind (wpAny_seqItems ht rfl (wpAny_pure (wpAny_pure h)))
end
theorem ifT {α : Type} {M : Model} {A : Around} {E : Value → Shared → Prop} {s : Shared} {Q : α → Shared → Prop} {c : Prop} [Decidable c] {a b : Sem α} (hc : c) (h : wpAny M A a Q E s) : wpAny M A (if c then a else b) Q E s := by rw [if_pos hc]; exact h
theorem ifF {α : Type} {M : Model} {A : Around} {E : Value → Shared → Prop} {s : Shared} {Q : α → Shared → Prop} {c : Prop} [Decidable c] {a b : Sem α} (hc : ¬ c) (h : wpAny M A b Q E s) : wpAny M A (if c then a else b) Q E s := by rw [if_neg hc]; exact h
/-- what a search from p on finds -/
noncomputable def Finds (code T : Array Nat) (nx : Nat → Option (Nat × Nat)) : Prop :=
  ∀ p, p ≤ T.size → match nx p with
    | none => ∃ n ≤ 2 ^ 30, ((Sre.forSearch code T 0 p T.size false).runFor n).outcome = some .failed
    | some (b, e) => p ≤ b ∧ b < e ∧ e ≤ T.size ∧ ∃ n ≤ 2 ^ 30, ((Sre.forSearch code T 0 p T.size false).runFor n).outcome = some .matched ∧ ((Sre.forSearch code T 0 p T.size false).runFor n).start = b ∧ ((Sre.forSearch code T 0 p T.size false).runFor n).handed = e
noncomputable def subPieces (T : Array Nat) (r : Str) (nx : Nat → Option (Nat × Nat)) : Nat → Nat → List Str
  | 0, _ => []
  | f + 1, p => match nx p with
    | none => if p < T.size then [⟨T.extract p T.size⟩] else []
    | some (b, e) => (if p < b then [⟨T.extract p b⟩] else []) ++ r :: subPieces T r nx f e
theorem strValues_snoc (l : List (Str × Tok)) (y : Str) (u : Tok) : (strValues l).toArray.push (.str y u) = (strValues (l ++ [(y, u)])).toArray := by
  simp [strValues]
section
variable {prog : Program} {w : World} {A : Around} {s : Shared} {pa ta pl : Addr} {x r : Str} {t tr : Tok}
noncomputable def PlainL (h : Heap) (pl : Addr) (l : List (Str × Tok)) : Prop := ∃ n, h.get? pl = some (listOf (strValues l).toArray n)
theorem wp_push {A : Around} {E : Value → Shared → Prop} {l : List (Str × Tok)} {y : Str} {Q : Unit → Shared → Prop} {g : Value → Sem Unit} (hpl : PlainL s.heap pl l) (hl : l.length ≤ 2 ^ 22) (hy : y.length ≤ sizeLine) {u : Tok}
    (h : ∀ h', PlainL h' pl (l ++ [(y, u)]) → Heap.SameBut pl s.heap h' → Q () { s with heap := h' }) : wpAny (model prog w) A (updateSeq pl (·.push (.str y u))) Q E s := by
  obtain ⟨n, hn⟩ := hpl
  have e22 : (2 : Nat) ^ 22 = 4194304 := by decide
  have e24 : sizeLine = 16777216 := by decide
  refine wpAny_updateSeq hn rfl (h _ ⟨n + 1, ?_⟩ (Heap.SameBut.update ..)) ?_ ?_
  · rw [Heap.get?_update_self _ hn rfl]
    simp [Obj.mapSeq, strValues]
  · simp [strValues]; omega
  · simp [strValues]; omega
theorem wp_slice {A : Around} {E : Value → Shared → Prop} {T : Array Nat} {b e : Nat} {Q : Value → Shared → Prop} (hT : T.size ≤ sizeLine) (h : Q (.str ⟨T.extract b e⟩ s.toks) { s with toks := s.toks + 1 }) : wpAny (model prog w) A (reSlice T 0 b e) Q E s := by
  show wpAny _ _ (mkStr ⟨T.extract b e⟩) Q E s
  exact wpAny_mkStr h (by show (T.extract b e).size ≤ _; simp; omega)
theorem PlainL.same {h h' : Heap} {l : List (Str × Tok)} {b : Addr} (hp : PlainL h pl l) (hs : Heap.SameBut b h h') (hb : pl ≠ b) : PlainL h' pl l := by
  obtain ⟨n, e⟩ := hp
  exact ⟨n, (hs.2 pl hb).trans e⟩
noncomputable abbrev loopArgs (pa : Addr) (x : Str) (t : Tok) (r : Str) (tr : Tok) (n : Int) (p : Nat) (pl : Addr) : Args :=
  ⟨[.ref pa, .str x t, .str r tr, .int 0 0, .int 0 0, .int n 0, .int p 0, .int p 0, .bool false, .ref pl, .bool false], []⟩
theorem sub_turn {src flags : Value} {vs : Array Value} {n : Int} {p b e : Nat} {acc : List (Str × Tok)} {R : Result → Shared → Prop}
    (hp : s.heap.get? pa = some (patObj src flags ta)) (ht : s.heap.get? ta = some (tupObj vs)) (hx : x.cps.size ≤ 2 ^ 20) (hr : r.length ≤ 2 ^ 20) (hpl : PlainL s.heap pl acc) (hacc : acc.length + 2 ≤ 2 ^ 22)
    {N : Nat} (hN : N ≤ 2 ^ 30) (h1 : ((Sre.forSearch (codeOf vs) x.cps 0 p x.cps.size false).runFor N).outcome = some .matched) (h2 : ((Sre.forSearch (codeOf vs) x.cps 0 p x.cps.size false).runFor N).start = b) (h3 : ((Sre.forSearch (codeOf vs) x.cps 0 p x.cps.size false).runFor N).handed = e) (hbe : b < e)
    (h : ∀ h' k u, PlainL h' pl (acc ++ (if p < b then [(⟨x.cps.extract p b⟩, u)] else []) ++ [(r, tr)]) → (∀ a o, a ≠ pl → s.heap.get? a = some o → h'.get? a = some o) →
      codeAny (model prog w) A (.builtin "re.Pattern.sub.loop" (loopArgs pa x t r tr (n + 1) e pl)) R { s with heap := h', toks := k }) :
    codeAny (model prog w) A (.builtin "re.Pattern.sub.loop" (loopArgs pa x t r tr n p pl)) R s := by
  refine codeAny_builtin entry_re_loop ?_
  rw [Around.under_plainId plain_loop]
  unfold Builtin.«re.Pattern.sub.loop»
  dsimp only
  refine wpAny_bind (wp_whole hp ht ?_)
  refine ifT rfl ?_
  refine wpAny_bind ?_
  unfold reLiteralCannotBeTurned
  refine wpAny_bind (wpAny_pure ?_)
  refine ifF (by simp) ?_
  refine wpAny_pure ?_
  refine wpAny_bind ?_
  refine ifF (by simp) ?_
  unfold reNextFound
  refine wp_runEnd N (Nat.le_trans hN (by decide)) ?_
  dsimp only [Int.toNat_natCast]
  rw [h1]
  dsimp only
  generalize hm : (Sre.forSearch (codeOf vs) x.cps 0 p x.cps.size false).runFor N = mm at h1 h2 h3 ⊢
  have e20 : (2 : Nat) ^ 20 = 1048576 := by decide
  have e24 : sizeLine = 16777216 := by decide
  subst h2 h3
  have hne : (mm.handed == mm.start) = false := by simp; omega
  simp only [hne]
  have fin : ∀ (s₁ : Shared) (l : List (Str × Tok)), (∃ h₁ k, s₁ = { s with heap := h₁, toks := k }) → PlainL s₁.heap pl l → l.length + 1 ≤ 2 ^ 22 → (∀ a o, a ≠ pl → s.heap.get? a = some o → s₁.heap.get? a = some o) → (∃ u, l = acc ++ (if p < mm.start then [(⟨x.cps.extract p mm.start⟩, u)] else [])) →
      wpAny (model prog w) A.in1 (do
          let item ← (pure (Value.str r tr) : Sem Value)
          if (item != Value.none) = true then do
              updateSeq pl fun x => x.push item
              again (Code.builtin "re.Pattern.sub.loop" (loopArgs pa x t r tr (n + 1) mm.handed pl))
            else again (Code.builtin "re.Pattern.sub.loop" (loopArgs pa x t r tr (n + 1) mm.handed pl))) (fun fin s' => match fin with | .done f => R (.ok f) s' | .again c' => c'.quiet = true ∧ codeAny (model prog w) A c' R s') (fun e s' => R (.error e) s') s₁ := by
    rintro s₁ l ⟨h₁, k, rfl⟩ hl hlen keep ⟨u, rfl⟩
    refine wpAny_bind (wpAny_pure ?_)
    refine ifT rfl ?_
    refine wpAny_bind (wp_push (g := fun _ => pure ()) (u := tr) hl (by omega) (by omega) fun h' hl' hs' => ?_)
    exact wpAny_pure ⟨quiet_loop _, h h' k u hl' fun a o ha e => (hs'.2 a ha).trans (keep a o ha e)⟩
  by_cases hpb : p < mm.start
  · refine ifT hpb ?_
    refine wpAny_bind (wp_slice (by omega) ?_)
    refine wpAny_bind (wp_push (s := { s with toks := s.toks + 1 }) (g := fun _ => pure ()) (u := s.toks) hpl (by omega) ?_ fun h' hl' hs' => ?_)
    · show (x.cps.extract p mm.start).size ≤ _; simp; omega
    · refine ifT rfl ?_
      exact fin _ _ ⟨h', _, rfl⟩ hl' (by simp; omega) (fun a o ha e => (hs'.2 a ha).trans e) ⟨s.toks, by rw [if_pos hpb]⟩
  · refine ifF hpb ?_
    refine ifT rfl ?_
    exact fin _ _ ⟨s.heap, s.toks, rfl⟩ hpl (by omega) (fun a o _ e => e) ⟨0, by rw [if_neg hpb, List.append_nil]⟩
theorem sub_end {src flags : Value} {vs : Array Value} {n : Int} {p : Nat} {acc : List (Str × Tok)} {R : Result → Shared → Prop}
    (hp : s.heap.get? pa = some (patObj src flags ta)) (ht : s.heap.get? ta = some (tupObj vs)) (hx : x.cps.size ≤ 2 ^ 20) (hpl : PlainL s.heap pl acc) (hacc : acc.length + 2 ≤ 2 ^ 22) (hsum : ((acc.map (·.1)).map (·.length)).sum + x.cps.size ≤ 2 ^ 23)
    {N : Nat} (hN : N ≤ 2 ^ 30) (h1 : ((Sre.forSearch (codeOf vs) x.cps 0 p x.cps.size false).runFor N).outcome = some .failed)
    (h : ∀ h' k u, (∀ a o, a ≠ pl → s.heap.get? a = some o → h'.get? a = some o) →
      R (.ok (.ret (.str (Str.join ⟨#[]⟩ (acc.map (·.1) ++ (if p < x.cps.size then [⟨x.cps.extract p x.cps.size⟩] else []))) u))) { s with heap := h', toks := k }) :
    codeAny (model prog w) A (.builtin "re.Pattern.sub.loop" (loopArgs pa x t r tr n p pl)) R s := by
  refine codeAny_builtin entry_re_loop ?_
  rw [Around.under_plainId plain_loop]
  unfold Builtin.«re.Pattern.sub.loop»
  dsimp only
  refine wpAny_bind (wp_whole hp ht ?_)
  refine ifT rfl ?_
  refine wpAny_bind ?_
  unfold reLiteralCannotBeTurned
  refine wpAny_bind (wpAny_pure ?_)
  refine ifF (by simp) ?_
  refine wpAny_pure ?_
  refine wpAny_bind ?_
  refine ifF (by simp) ?_
  unfold reNextFound
  refine wp_runEnd N (Nat.le_trans hN (by decide)) ?_
  dsimp only [Int.toNat_natCast]
  rw [h1]
  dsimp only
  have e20 : (2 : Nat) ^ 20 = 1048576 := by decide
  have e22 : (2 : Nat) ^ 22 = 4194304 := by decide
  have e23 : (2 : Nat) ^ 23 = 8388608 := by decide
  have e24 : sizeLine = 16777216 := by decide
  have fin : ∀ (s₁ : Shared) (l : List (Str × Tok)), (∃ h₁ k, s₁ = { s with heap := h₁, toks := k }) → PlainL s₁.heap pl l → ((l.map (·.1)).map (·.length)).sum ≤ 2 ^ 23 → (∀ a o, a ≠ pl → s.heap.get? a = some o → s₁.heap.get? a = some o) → (l.map (·.1) = acc.map (·.1) ++ (if p < x.cps.size then [⟨x.cps.extract p x.cps.size⟩] else [])) →
      wpAny (model prog w) A.in1 (do
      let joiner ← reSlice x.cps 0 0 0
      let __do_lift ← seqItems? (Value.ref pl)
      if (__do_lift.getD #[]).isEmpty = true then do
          let text ← pure joiner
          if false = true then do
              let __do_lift ←
                holding [text] do
                    let __do_lift ← mkInt n
                    newTuple [text, __do_lift]
              ret __do_lift
            else ret text
        else do
          let text ← call (Value.builtin (if ((0 : Nat) == 0) = true then "str.join" else "bytes.join")) [joiner, Value.ref pl]
          if false = true then do
              let __do_lift ←
                holding [text] do
                    let __do_lift ← mkInt n
                    newTuple [text, __do_lift]
              ret __do_lift
            else ret text) (fun fin s' => match fin with | .done f => R (.ok f) s' | .again c' => c'.quiet = true ∧ codeAny (model prog w) A c' R s') (fun e s' => R (.error e) s') s₁ := by
    rintro s₁ l ⟨h₁, k, rfl⟩ hl hlen keep hmap
    obtain ⟨nn, hn⟩ := hl
    refine wpAny_bind (wp_slice (by omega) ?_)
    refine wpAny_bind (wpAny_seqItems hn rfl ?_)
    have ej : (⟨x.cps.extract 0 0⟩ : Str) = ⟨#[]⟩ := by simp
    rw [ej]
    cases l with
    | nil =>
      refine ifT rfl ?_
      refine wpAny_bind (wpAny_pure ?_)
      refine ifF (by simp) ?_
      have := h h₁ (k + 1) k keep
      rw [← hmap] at this
      exact wpAny_pure this
    | cons q l =>
      refine ifF (by simp [strValues]) ?_
      refine wpAny_bind (SC.join (x := ⟨#[]⟩) (l := q :: l) (texts := (q :: l).map (·.1)) ⟨_, hn, rfl, nn, rfl⟩ rfl (joinOk_of ?_) fun t' k' => ?_)
      · show _ + _ * 0 ≤ _; omega
      · refine ifF (by simp) ?_
        have := h h₁ k' t' keep
        rw [← hmap, ← StrLaws.glued_eq_join] at this
        exact wpAny_pure this
  by_cases hpb : p < x.cps.size
  · refine ifT hpb ?_
    refine wpAny_bind (wp_slice (by omega) ?_)
    refine wpAny_bind (wp_push (s := { s with toks := s.toks + 1 }) (g := fun _ => pure ()) (u := s.toks) hpl (by omega) ?_ fun h' hl' hs' => ?_)
    · show (x.cps.extract p x.cps.size).size ≤ _; simp; omega
    · refine fin _ _ ⟨h', _, rfl⟩ hl' ?_ (fun a o ha e => (hs'.2 a ha).trans e) (by rw [if_pos hpb]; simp)
      have : (⟨x.cps.extract p x.cps.size⟩ : Str).length ≤ x.cps.size := by show (x.cps.extract p x.cps.size).size ≤ _; simp
      simp only [List.map_append, List.map_cons, List.map_nil, List.sum_append, List.sum_cons, List.sum_nil]
      omega
  · refine ifF hpb ?_
    exact fin _ _ ⟨s.heap, s.toks, rfl⟩ hpl (by omega) (fun a o _ e => e) (by rw [if_neg hpb, List.append_nil])
end
end Sh51
end
section
open PySem PySem.W PyProof.Rows PySem.Spec PySem.Calls
set_option Elab.async false
set_option maxRecDepth 100000
set_option linter.all false
namespace Sh51
open PySem.Builtin.Re
section
variable {prog : Program} {w : World} {A : Around} {pa ta pl : Addr} {x r : Str} {t tr : Tok} {src flags : Value} {vs : Array Value} {nx : Nat → Option (Nat × Nat)}
noncomputable def lens (l : List (Str × Tok)) : Nat := ((l.map (·.1)).map (·.length)).sum
theorem lens_app (a b : List (Str × Tok)) : lens (a ++ b) = lens a + lens b := by simp [lens]
theorem sub_all (hN : Finds (codeOf vs) x.cps nx) (hx : x.cps.size ≤ 2 ^ 20) (hr : r.length ≤ 2 ^ 20) (ha : pa ≠ pl) (hb : ta ≠ pl) {R : Result → Shared → Prop} :
    ∀ (f p : Nat) (n : Int) (acc : List (Str × Tok)) (s : Shared), x.cps.size + 1 ≤ f + p → p ≤ x.cps.size → s.heap.get? pa = some (patObj src flags ta) → s.heap.get? ta = some (tupObj vs) → PlainL s.heap pl acc →
      acc.length + 2 * f + 2 ≤ 2 ^ 22 → lens acc + f * r.length + (x.cps.size - p) + x.cps.size ≤ 2 ^ 23 →
      (∀ h' k u, (∀ a o, a ≠ pl → s.heap.get? a = some o → h'.get? a = some o) →
        R (.ok (.ret (.str (Str.join ⟨#[]⟩ (acc.map (·.1) ++ subPieces x.cps r nx f p)) u))) { s with heap := h', toks := k }) →
      codeAny (model prog w) A (.builtin "re.Pattern.sub.loop" (loopArgs pa x t r tr n p pl)) R s
  | 0, p, n, acc, s, h1, h2, _, _, _, _, _, _ => by omega
  | f + 1, p, n, acc, s, h1, h2, hp, ht, hpl, hl, hs, h => by
    have key := hN p h2
    have e22 : (2 : Nat) ^ 22 = 4194304 := by decide
    have e23 : (2 : Nat) ^ 23 = 8388608 := by decide
    rw [Nat.succ_mul] at hs
    cases hnx : nx p with
    | none =>
      rw [hnx] at key
      obtain ⟨N, hN1, hN2⟩ := key
      refine sub_end hp ht hx hpl (by omega) (by show lens acc + _ ≤ _; omega) hN1 hN2 fun h' k u keep => ?_
      have := h h' k u keep
      simp only [subPieces, hnx] at this
      exact this
    | some be =>
      obtain ⟨b, e⟩ := be
      rw [hnx] at key
      obtain ⟨k1, k2, k3, N, hN1, hN2, hN3, hN4⟩ := key
      refine sub_turn hp ht hx hr hpl (by omega) hN1 hN2 hN3 hN4 k2 fun h' k u hpl' keep => ?_
      have hb' : lens (if p < b then [((⟨x.cps.extract p b⟩ : Str), u)] else []) ≤ b - p := by
        split
        · simp [lens, Str.length]; omega
        · simp [lens]
      have hle : (if p < b then [((⟨x.cps.extract p b⟩ : Str), u)] else []).length ≤ 1 := by split <;> simp
      refine sub_all hN hx hr ha hb f e (n + 1) _ { s with heap := h', toks := k } (by omega) k3 (keep _ _ ha hp) (keep _ _ hb ht) hpl' ?_ ?_ fun h'' k' u' keep' => ?_
      · simp only [List.length_append, List.length_cons, List.length_nil]; omega
      · rw [lens_app, lens_app]
        have : lens [(r, tr)] = r.length := by simp [lens]
        omega
      · have q := h h'' k' u' fun a o hn e => keep' a o hn (keep a o hn e)
        have e1 : acc.map (·.1) ++ subPieces x.cps r nx (f + 1) p = (acc ++ (if p < b then [((⟨x.cps.extract p b⟩ : Str), u)] else []) ++ [(r, tr)]).map (·.1) ++ subPieces x.cps r nx f e := by
          simp only [subPieces, hnx, List.map_append, List.append_assoc]
          congr 1
          split <;> simp
        rw [e1] at q
        exact q
theorem call_sub {A : Around} {E : Value → Shared → Prop} {s : Shared} {Q : Value → Shared → Prop} (hp : s.heap.get? pa = some (patObj src flags ta)) (ht : s.heap.get? ta = some (tupObj vs)) (hN : Finds (codeOf vs) x.cps nx) (hx : x.cps.size ≤ 2 ^ 18) (hr : r.length ≤ 8) (h92 : r.cps.contains 92 = false)
    (h : ∀ h' k u, (∀ a o, s.heap.get? a = some o → h'.get? a = some o) → Q (.str (Str.join ⟨#[]⟩ (subPieces x.cps r nx (x.cps.size + 1) 0)) u) { s with heap := h', toks := k }) :
    wpAny (model prog w) A (call (.builtin "re.Pattern.sub") [.ref pa, .str r tr, .str x t]) Q E s := by
  refine wpAny_call (codeAny_call_builtin slot_re_sub.plain entry_re_sub (slot_re_sub.check _ _ _ _ _ _ _ _ (slot_typed hp) (args_re_sub _ _ _) ?_))
  unfold Builtin.«re.Pattern.sub» reSubstitute
  dsimp only
  rw [named_sub]
  refine wpAny_bind (wpAny_pure ?_)
  dsimp only
  refine wpAny_bind (wpAny_pure ?_)
  refine wpAny_bind (wpAny_specialOf (typeIs_str s r tr) str_no_call ?_)
  refine ifF (by simp) ?_
  unfold asStr?
  refine wpAny_bind (wpAny_pure ?_)
  dsimp only
  refine wpAny_bind (wpAny_pure ?_)
  refine ifF (by simp) ?_
  refine ifT (by rw [h92]; rfl) ?_
  refine wpAny_bind (wpAny_pure ?_)
  refine wpAny_bind (wpAny_holding (wp_whole hp ht ?_))
  refine ifF (by simp) ?_
  refine wpAny_bind (wpAny_newObj_type ?_ (by show (0 : Nat) ≤ _; exact Nat.zero_le _))
  refine wpAny_pure ⟨quiet_loop _, ?_⟩
  have ha : pa ≠ s.heap.objs.size := Nat.ne_of_lt (Heap.lt_size hp)
  have hb : ta ≠ s.heap.objs.size := Nat.ne_of_lt (Heap.lt_size ht)
  have e22 : (2 : Nat) ^ 22 = 4194304 := by decide
  have e23 : (2 : Nat) ^ 23 = 8388608 := by decide
  have e18 : (2 : Nat) ^ 18 = 262144 := by decide
  have e20 : (2 : Nat) ^ 20 = 1048576 := by decide
  have hmul : (x.cps.size + 1) * r.length ≤ (262144 + 1) * 8 := Nat.mul_le_mul (by omega) hr
  refine sub_all hN (by omega) (by omega) ha hb (x.cps.size + 1) 0 0 [] _ (by omega) (Nat.zero_le _) (Heap.get?_push_of_some _ hp) (Heap.get?_push_of_some _ ht) ⟨0, Heap.get?_push_size _ rfl⟩ (by simp; omega) (by simp [lens]; omega) fun h' k u keep => ?_
  have q := h h' k u fun a o e => keep a o (Nat.ne_of_lt (Heap.lt_size e)) (Heap.get?_push_of_some _ e)
  exact q
end
end Sh51
end
section
open PySem PySem.W PyProof.Rows PySem.Spec PySem.Calls
set_option Elab.async false
set_option maxRecDepth 100000
set_option linter.all false
namespace Sh51
open PySem.Builtin.Re
noncomputable def firstP (P : Nat → Bool) : Nat → Nat → Option Nat
  | 0, _ => none
  | n + 1, p => if P p then some p else firstP P n (p + 1)
theorem firstP_some {P : Nat → Bool} : ∀ {n p q : Nat}, firstP P n p = some q → p ≤ q ∧ q < p + n ∧ P q = true ∧ ∀ j, p ≤ j → j < q → P j = false
  | 0, p, q, h => by cases h
  | n + 1, p, q, h => by
    unfold firstP at h
    by_cases hp : P p = true
    · rw [if_pos hp] at h; cases h
      exact ⟨Nat.le_refl _, by omega, hp, fun j h1 h2 => by omega⟩
    · rw [if_neg hp] at h
      obtain ⟨h1, h2, h3, h4⟩ := firstP_some h
      exact ⟨by omega, by omega, h3, fun j h5 h6 => by
        by_cases e : j = p
        · subst e; simpa using hp
        · exact h4 j (by omega) h6⟩
theorem firstP_none {P : Nat → Bool} : ∀ {n p : Nat}, firstP P n p = none → ∀ j, p ≤ j → j < p + n → P j = false
  | 0, p, h => fun j h1 h2 => by omega
  | n + 1, p, h => fun j h1 h2 => by
    unfold firstP at h
    by_cases hp : P p = true
    · rw [if_pos hp] at h; cases h
    · rw [if_neg hp] at h
      by_cases e : j = p
      · subst e; simpa using hp
      · exact firstP_none h j (by omega) (by omega)
noncomputable def brB (T : Array Nat) (j : Nat) : Bool := T.getD j 0 == 10 || T.getD j 0 == 13
noncomputable def dotB (T : Array Nat) (j : Nat) : Bool := (j == 0 || T.getD (j - 1) 0 == 10) && (decide (j < T.size) && T.getD j 0 == 46)
theorem brB_iff {T : Array Nat} {j : Nat} : brB T j = true ↔ (T.getD j 0 = 10 ∨ T.getD j 0 = 13) := by simp [brB]
theorem dotB_iff {T : Array Nat} {j : Nat} : dotB T j = true ↔ isDot T j := by simp [dotB, isDot]
noncomputable def nx2 (T : Array Nat) (p : Nat) : Option (Nat × Nat) := (firstP (brB T) (T.size - p) p).map fun q => (q, brEnd T q)
noncomputable def nx1 (T : Array Nat) (p : Nat) : Option (Nat × Nat) := (firstP (dotB T) (T.size - p) p).map fun q => (q, q + 1)
theorem brEnd_le {T : Array Nat} {q : Nat} (h : q < T.size) : q < brEnd T q ∧ brEnd T q ≤ T.size := by
  unfold brEnd
  by_cases hx : T.getD q 0 = 13 ∧ q + 1 < T.size ∧ T.getD (q + 1) 0 = 10
  · rw [if_pos hx]; have := hx.2.1; omega
  · rw [if_neg hx]; omega
theorem finds2 {T : Array Nat} : Finds code2 T (nx2 T) := by
  intro p hp
  unfold nx2
  cases h : firstP (brB T) (T.size - p) p with
  | none =>
    refine ⟨1, by omega, next2_none fun j h1 h2 h3 => ?_⟩
    have := firstP_none h j h1 (by omega)
    rw [brB_iff.mpr h3] at this; cases this
  | some q =>
    obtain ⟨h1, h2, h3, h4⟩ := firstP_some h
    have hq : q < T.size := by omega
    obtain ⟨k1, k2⟩ := brEnd_le hq
    obtain ⟨n, hn, h5, h6, h7⟩ := next2 h1 hq (brB_iff.mp h3) fun j a b c => by
      have := h4 j a b
      rw [brB_iff.mpr c] at this; cases this
    exact ⟨h1, k1, k2, n, Nat.le_trans hn (by decide), h5, h6, h7⟩
theorem finds1 {T : Array Nat} (hT : T.size ≤ 2 ^ 20) : Finds code1 T (nx1 T) := by
  intro p hp
  have e20 : (2 : Nat) ^ 20 = 1048576 := by decide
  have e30 : (2 : Nat) ^ 30 = 1073741824 := by decide
  unfold nx1
  cases h : firstP (dotB T) (T.size - p) p with
  | none =>
    obtain ⟨n, h1, h2⟩ := next1_none hp fun j h1 h2 => by
      have := firstP_none h j h1 (by have := h2.2.1; omega)
      rw [dotB_iff.mpr h2] at this; cases this
    exact ⟨n, by omega, h2⟩
  | some q =>
    obtain ⟨h1, h2, h3, h4⟩ := firstP_some h
    have hq : q < T.size := by omega
    obtain ⟨n, hn, h5, h6, h7⟩ := next1 h1 (dotB_iff.mp h3) fun j a b c => by
      have := h4 j a b
      rw [dotB_iff.mpr c] at this; cases this
    exact ⟨h1, by omega, by omega, n, by omega, h5, h6, h7⟩
-- the texts
noncomputable def catL (l : List Str) : List Nat := l.flatMap (·.cps.toList)
theorem join_cat : ∀ l : List Str, (Str.join ⟨#[]⟩ l).cps.toList = catL l
  | [] => rfl
  | [x] => by simp [Str.join, catL]
  | x :: y :: r => by
    have ih := join_cat (y :: r)
    have e : Str.join ⟨#[]⟩ (x :: y :: r) = x ++ ⟨#[]⟩ ++ Str.join ⟨#[]⟩ (y :: r) := rfl
    rw [e]
    show (x.cps ++ #[] ++ (Str.join ⟨#[]⟩ (y :: r)).cps).toList = _
    simp only [Array.toList_append, List.append_nil, ih]
    simp [catL]
noncomputable def norm : List Nat → List Nat
  | [] => []
  | 13 :: 10 :: t => 13 :: 10 :: norm t
  | c :: t => if c = 10 ∨ c = 13 then 13 :: 10 :: norm t else c :: norm t
noncomputable def stuff : Bool → List Nat → List Nat
  | _, [] => []
  | b, c :: t => (if b = true ∧ c = 46 then [46, 46] else [c]) ++ stuff (c == 10) t
section
variable {T : Array Nat}
theorem getD_drop {j : Nat} (h : j < T.size) : T.toList.drop j = T.getD j 0 :: T.toList.drop (j + 1) := by
  have hl : j < T.toList.length := by simpa using h
  rw [List.drop_eq_getElem_cons hl]
  congr 1
  simp [Array.getD, h]
theorem ext_step {p q : Nat} (h1 : p < q) (h2 : q ≤ T.size) : (T.extract p q).toList = T.getD p 0 :: (T.extract (p + 1) q).toList := by
  have hp : p < T.size := by omega
  rw [Array.toList_extract, Array.toList_extract, List.extract_eq_drop_take, List.extract_eq_drop_take, getD_drop hp]
  rw [show q - p = (q - (p + 1)) + 1 by omega, List.take_succ_cons]
theorem ext_nil {p : Nat} : (T.extract p p).toList = [] := by simp
theorem region {N : Nat → List Nat} {P : Nat → Bool} (hs : ∀ j, j < T.size → P j = false → N j = T.getD j 0 :: N (j + 1)) : ∀ (k p q : Nat), p + k = q → q ≤ T.size → (∀ j, p ≤ j → j < q → P j = false) → N p = (T.extract p q).toList ++ N q
  | 0, p, q, h, _, _ => by obtain rfl : p = q := by omega
                           rw [ext_nil]; rfl
  | k + 1, p, q, h, hq, hP => by
    rw [hs p (by omega) (hP p (Nat.le_refl _) (by omega)), region hs k (p + 1) q (by omega) hq fun j a b => hP j (by omega) b, ext_step (p := p) (by omega) hq]
    rfl
theorem norm_not {j : Nat} (h : j < T.size) (hb : brB T j = false) : norm (T.toList.drop j) = T.getD j 0 :: norm (T.toList.drop (j + 1)) := by
  rw [getD_drop h]
  have hn : ¬ (T.getD j 0 = 10 ∨ T.getD j 0 = 13) := fun x => by rw [brB_iff.mpr x] at hb; cases hb
  rw [norm.eq_3 _ _ (fun t' h1 _ => hn (.inr h1)), if_neg hn]
theorem norm_br {j : Nat} (h : j < T.size) (hb : brB T j = true) : norm (T.toList.drop j) = 13 :: 10 :: norm (T.toList.drop (brEnd T j)) := by
  have hc := brB_iff.mp hb
  unfold brEnd
  by_cases hx : T.getD j 0 = 13 ∧ j + 1 < T.size ∧ T.getD (j + 1) 0 = 10
  · rw [if_pos hx, getD_drop h, getD_drop hx.2.1, hx.1, hx.2.2]
    rfl
  · rw [if_neg hx, getD_drop h]
    generalize hT : T.toList.drop (j + 1) = tl
    have hne : T.getD j 0 = 13 → ∀ t, tl ≠ 10 :: t := by
      intro h13 t e
      apply hx
      have hlt : j + 1 < T.size := by
        rcases Nat.lt_or_ge (j + 1) T.size with q | q
        · exact q
        · rw [List.drop_eq_nil_of_le (by simpa using q)] at hT
          rw [← hT] at e; cases e
      rw [getD_drop hlt] at hT
      rw [← hT] at e
      injection e with e1 _
      exact ⟨h13, hlt, e1⟩
    rw [norm.eq_3 _ _ (fun t' h1 h2 => hne h1 t' h2), if_pos hc]
theorem sub2_text (r : Str) (hr : r.cps = #[13, 10]) : ∀ (f p : Nat), T.size + 1 ≤ f + p → p ≤ T.size → catL (subPieces T r (nx2 T) f p) = norm (T.toList.drop p)
  | 0, p, h1, h2 => by omega
  | f + 1, p, h1, h2 => by
    unfold subPieces nx2
    cases h : firstP (brB T) (T.size - p) p with
    | none =>
      have hn := firstP_none h
      rw [region (N := fun j => norm (T.toList.drop j)) (P := brB T) (fun j a b => norm_not a b) (T.size - p) p T.size (by omega) (Nat.le_refl _) fun j a b => hn j a (by omega)]
      have e : T.toList.drop T.size = [] := List.drop_eq_nil_of_le (by simp)
      dsimp only [Option.map_none]
      rw [e]
      split
      · simp [catL, norm]
      · have : p = T.size := by omega
        subst this
        simp [catL, norm]
    | some q =>
      obtain ⟨a1, a2, a3, a4⟩ := firstP_some h
      have hq : q < T.size := by omega
      obtain ⟨k1, k2⟩ := brEnd_le hq
      dsimp only [Option.map_some]
      have ih := sub2_text r hr f (brEnd T q) (by omega) k2
      rw [region (N := fun j => norm (T.toList.drop j)) (P := brB T) (fun j a b => norm_not a b) (q - p) p q (by omega) (by omega) a4, norm_br hq a3, ← ih]
      have e : catL (subPieces T r (fun p => (firstP (brB T) (T.size - p) p).map fun q => (q, brEnd T q)) f (brEnd T q)) = catL (subPieces T r (nx2 T) f (brEnd T q)) := rfl
      simp only [catL, List.flatMap_append, List.flatMap_cons, hr] at e ⊢
      rw [e]
      split
      · simp
      · have : p = q := by omega
        subst this
        simp
noncomputable def bol (T : Array Nat) (j : Nat) : Bool := j == 0 || T.getD (j - 1) 0 == 10
theorem bol_succ {j : Nat} : bol T (j + 1) = (T.getD j 0 == 10) := by simp [bol]
theorem stuff_not {j : Nat} (h : j < T.size) (hb : dotB T j = false) : stuff (bol T j) (T.toList.drop j) = T.getD j 0 :: stuff (bol T (j + 1)) (T.toList.drop (j + 1)) := by
  rw [getD_drop h, bol_succ]
  have hn : ¬ (bol T j = true ∧ T.getD j 0 = 46) := fun x => by
    have : dotB T j = true := by
      unfold dotB
      have h1 := x.1
      unfold bol at h1
      rw [h1, x.2]; simp [h]
    rw [this] at hb; cases hb
  show (if bol T j = true ∧ T.getD j 0 = 46 then [46, 46] else [T.getD j 0]) ++ _ = _
  rw [if_neg hn]; rfl
theorem stuff_dot {j : Nat} (h : dotB T j = true) : stuff (bol T j) (T.toList.drop j) = 46 :: 46 :: stuff (bol T (j + 1)) (T.toList.drop (j + 1)) := by
  have hd := dotB_iff.mp h
  rw [getD_drop hd.2.1, bol_succ]
  have hb : bol T j = true := by unfold bol; simpa using hd.1
  show (if bol T j = true ∧ T.getD j 0 = 46 then [46, 46] else [T.getD j 0]) ++ _ = _
  rw [if_pos ⟨hb, hd.2.2⟩]; rfl
theorem sub1_text (r : Str) (hr : r.cps = #[46, 46]) : ∀ (f p : Nat), T.size + 1 ≤ f + p → p ≤ T.size → catL (subPieces T r (nx1 T) f p) = stuff (bol T p) (T.toList.drop p)
  | 0, p, h1, h2 => by omega
  | f + 1, p, h1, h2 => by
    unfold subPieces nx1
    cases h : firstP (dotB T) (T.size - p) p with
    | none =>
      have hn := firstP_none h
      rw [region (N := fun j => stuff (bol T j) (T.toList.drop j)) (P := dotB T) (fun j a b => stuff_not a b) (T.size - p) p T.size (by omega) (Nat.le_refl _) fun j a b => hn j a (by omega)]
      have e : T.toList.drop T.size = [] := List.drop_eq_nil_of_le (by simp)
      dsimp only [Option.map_none]
      rw [e]
      split
      · simp [catL, stuff]
      · have : p = T.size := by omega
        subst this
        simp [catL, stuff]
    | some q =>
      obtain ⟨a1, a2, a3, a4⟩ := firstP_some h
      have hq : q < T.size := by omega
      dsimp only [Option.map_some]
      have ih := sub1_text r hr f (q + 1) (by omega) (by omega)
      rw [region (N := fun j => stuff (bol T j) (T.toList.drop j)) (P := dotB T) (fun j a b => stuff_not a b) (q - p) p q (by omega) (by omega) a4, stuff_dot a3, ← ih]
      have e : catL (subPieces T r (fun p => (firstP (dotB T) (T.size - p) p).map fun q => (q, q + 1)) f (q + 1)) = catL (subPieces T r (nx1 T) f (q + 1)) := rfl
      simp only [catL, List.flatMap_append, List.flatMap_cons, hr] at e ⊢
      rw [e]
      split
      · simp
      · have : p = q := by omega
        subst this
        simp
end
end Sh51
end
section
open PySem PySem.W PyProof.Rows PySem.Spec PySem.Calls
set_option Elab.async false
set_option maxRecDepth 100000
set_option linter.all false
namespace Sh51
section
variable {prog : Program} {w : World} {A : Around} {E : Value → Shared → Prop} {env : Env}
/-- a mark at which the walk stops -/
noncomputable def Held (P : Prop) : Prop := P
theorem held {P : Prop} (h : Held P) : P := h
/-- what a comprehension over a list asks of its test and its element -/
structure Quiet (prog : Program) (w : World) (A : Around) (env : Env) (scope : Scope) (cl : List (Str × Addr)) (x : Str) (ifs : List Expr) (elt : Expr) (vs : List Value) (p : Value → Bool) (F : Value → Value → Prop) (s₁ : Shared) : Prop where
  tests : ∀ C v s₃ m₃ E', v ∈ vs → s₃.heap.Ns C m₃ → m₃ x = some v → (∀ b o, s₁.heap.get? b = some o → s₃.heap.get? b = some o) →
    wpAny (model prog w) A (forIn ifs true fun c r => if r = true then do let ok ← isTrue c (compEnvC scope cl C env) (eval c (compEnvC scope cl C env)); pure (ForInStep.yield ok) else pure (ForInStep.yield r))
      (fun ok s₄ => ok = p v ∧ Keeps s₃ s₄) E' s₃
  elt : ∀ C v s₃ m₃ E', v ∈ vs → p v = true → s₃.heap.Ns C m₃ → m₃ x = some v → (∀ b o, s₁.heap.get? b = some o → s₃.heap.get? b = some o) →
    wpAny (model prog w) A (eval elt (compEnvC scope cl C env)) (fun y s₄ => F v y ∧ Keeps s₃ s₄) E' s₃
theorem comp_list {s : Shared} {elt iter : Expr} {x : Str} {px : Pos} {ifs : List Expr} {scope : Scope} {cl : List (Str × Addr)} {pos : Pos} {Q : Value → Shared → Prop} {l : Addr} {vs : List Value} (p : Value → Bool) (F : Value → Value → Prop)
    (hh : A.handled = none) (hclos : closureFor scope env = pure cl) (hcell : ∀ y ∈ scope.names, y.2 ≠ .cell) (hkind : scope.kind = .function)
    (hnames : ∀ y ∈ scope.names, y.2 = .local → scope.names.lookup y.1 = some .local) (hx : scope.names.lookup x = some .local)
    (h : wpAny (model prog w) A (eval iter env) (fun xv s₁ => Held (xv = .ref l ∧ s₁.heap.IsList l vs.toArray ∧ vs.length ≤ sizeLine ∧ Quiet prog w A env scope cl x ifs elt vs p F s₁ ∧
      (∀ D h' tk (ys : Array Value), s₁.heap.get? D = none → h'.PlainList D ys → Paired F (vs.filter p) ys.toList → (∀ b o, s₁.heap.get? b = some o → h'.get? b = some o) → Q (.ref D) { s₁ with heap := h', toks := tk }))) E s)
    (hs : ∀ x, foldedSetIterable iter env x = pure x := by intro _; rfl) :
    wpAny (model prog w) A (eval (.ListComp elt [⟨.Name x px, iter, ifs, 0⟩] scope pos) env) Q E s := by
  refine wpAny_ListComp_free p F hclos hcell hkind hnames hx (wpAny_mono h (fun xv s₁ h₁ => ?_) fun _ _ e => e) hs
  obtain ⟨rfl, hl, hsz, hq, hQ⟩ := h₁
  refine wpAny_pyIter_list hl ?_
  obtain ⟨ol, hol, hrest⟩ := id hl
  have hlt : l < s₁.heap.objs.size := Heap.lt_size hol
  have hne : l ≠ s₁.heap.objs.size := Nat.ne_of_lt hlt
  have W := Walks.list (prog := prog) (w := w) hh s₁.heap.objs.size l hne vs.toArray
  have old : ∀ b o, s₁.heap.get? b = some o → (s₁.heap.push { cls := .type "list_iterator", data := .fields #[.ref l, .int 0 0] }).get? b = some o := fun b o e => Heap.get?_push_of_some _ e
  have nb : ∀ b o, s₁.heap.get? b = some o → b ∉ [s₁.heap.objs.size] := fun b o e hm => by
    rw [List.mem_singleton.mp hm] at e
    exact absurd (Heap.lt_size e) (Nat.lt_irrefl _)
  have hmem : ∀ (i : Nat) (v : Value), vs.toArray[i]? = some v → v ∈ vs := fun i v e => by
    have e' : vs[i]? = some v := by simpa using e
    exact List.mem_of_getElem? e'
  refine ⟨_, _, _, _, _, _, rfl, W, by simpa using hsz, ⟨⟨_, Heap.get?_push_size _ rfl, rfl, rfl⟩, hl.at fun o e => old _ _ e⟩, ?_, ⟨?_, ?_⟩, ?_⟩
  · intro b hb
    rw [Heap.size_push]
    rcases List.mem_cons.mp hb with rfl | hb
    · exact Nat.lt_succ_self _
    · rw [List.mem_singleton.mp hb]; exact Nat.lt_succ_of_lt hlt
  · intro C i v s₃ m₃ E' _ hP hn hm hk _
    exact hq.tests C v s₃ m₃ E' (hmem i v hP) hn hm fun b o e => hk b o (nb b o e) (old b o e)
  · intro C i v s₃ m₃ E' _ hP hp hn hm hk _
    exact hq.elt C v s₃ m₃ E' (hmem i v hP) hp hn hm fun b o e => hk b o (nb b o e) (old b o e)
  · intro D h' tk ys ws hD _ hpl hlen hP hF hk
    have e : ws = vs := by
      apply List.ext_getElem?
      intro i
      rcases Nat.lt_or_ge i ws.length with hi | hi
      · have := hP i ws[i] (by simp [hi])
        rw [List.getElem?_eq_getElem hi]
        simpa using this.symm
      · rw [List.getElem?_eq_none hi, List.getElem?_eq_none (by rw [hlen] at hi; simpa using hi)]
    subst e
    refine hQ D h' tk ys ?_ hpl hF fun b o e => hk b o (nb b o e) (old b o e)
    cases q : s₁.heap.get? D with
    | none => rfl
    | some o => rw [old D o q] at hD; cases hD
end
end Sh51
end
section
open PySem PySem.W PyProof.Rows
open PySem.Spec PySem.Calls
set_option Elab.async false
set_option maxRecDepth 100000
set_option linter.all false
namespace Sh51
section
variable {prog : Program} {w : World} {A₀ A : Around} {s : Shared} {base h₀ : Heap} {outer : List Env} {L : Addr} {m : Str → Option Value} {env : Env} {news : List (Addr × Obj)} {K : Frag}
  {R : Result → Shared → Prop} {name qual : Str} {params : Arguments} {body : List Stmt} {scope : Scope} {dV kV doc pm cdv ct oc : Value} {an od : Option Addr} {osl : Array (Option Value)} {f : Addr} {args : Args} {binds : Addr → List (Str × Value)}
  {p : Program} {loose : List Str} {mean : ExcName → Option Value} {mg mb : Str → Option Value}

theorem wp_alloc {α : Type} {M : Model} {E : Value → Shared → Prop} {Q : α → Shared → Prop} {o : Obj} (X : K.In s.heap) : ∀ (t : Sem α) (g : Addr → Sem α), peekA K ⟨M.prog, M.w.params⟩ t = some (o, g) →
    wpAny M A (g s.heap.objs.size) Q E { s with heap := s.heap.push o } → wpAny M A t Q E s := by
  intro t
  induction t with
  | rule _ k ih => exact fun g e hq Γ p hΓ => ih () g e hq Γ p hΓ
  | point _ k ih => exact fun g e hq Γ p hΓ => ih () g e hq Γ p hΓ
  | ask k ih => exact fun g e hq Γ p hΓ => ih _ g e hq Γ p hΓ
  | load a _ k ih =>
    intro g e hq
    simp only [peekA] at e
    split at e
    · rename_i ob ho
      exact fun Γ p hΓ => ⟨ob, X _ _ ho, ih ob g e hq Γ p hΓ⟩
    · cases e
  | alloc ob k _ =>
    intro g e hq
    have e' : some (ob, k) = some (o, g) := e
    obtain ⟨e1, e2⟩ := Prod.mk.inj (Option.some.inj e')
    subst e1
    subst e2
    show wpAny M A (alloc ob >>= k) Q E s
    exact wpAny_bind (wpAny_alloc hq)
  | _ => intro g e; cases e

theorem enter2K {g₁ : Addr → Sem (List (Str × Value))} (B : Below A₀ base outer h₀) (F : Fr h₀ L s.heap m) (X₀ : K.In h₀) (N : News h₀ L s.heap news) (T : Top p loose mean mg mb h₀) (hA : A.frames = some (env :: outer)) (hf : env.frame = some L) (hke : env.scope.kind = .function)
    (ho : K.lookup f = some ⟨oc, od, .func (fnOf name qual params body scope dV kV doc pm an cdv ct), osl⟩) (hcd : codeIn K cdv qual = true) (hroom : A.depth < recursionLimit)
    (hp : peekA K ⟨prog, w.params⟩ (bindArgs (fnOf name qual params body scope dV kV doc pm an cdv ct) args) = some (dictOf [] 0, g₁))
    (hk₁ : ∀ D, g₁ D = pure (binds D))
    (hloc : ∀ D, ∀ y ∈ binds D, scope.names.lookup y.1 = some .local)
    (h : ∀ D g L' h₁, (D == sysModules) = false → Fr h₀ L g m → Fr g L' h₁ (fun y => (binds D).reverse.lookup y) → News g L' h₁ ((D, dictOf [] 0) :: news) → Below A base (env :: outer) g → K.In g → Top p loose mean mg mb g → Knows s.heap news g → (∀ p ∈ news, p.1 < D) →
      wpAny (model prog w) (A.deeper (envOf qual scope L' f cdv)) (execs body (envOf qual scope L' f cdv))
        (fun fl s' => LeaveK h₀ L m g R (match fl with | .ret v => v | _ => .none) s')
        (fun e s' => wpAny (model prog w) (A.deeper (envOf qual scope L' f cdv)) (leaving (envOf qual scope L' f cdv) e) (fun _ s'' => R (.error e) s'') (fun e' s'' => R (.error e') s'') s')
        { s with heap := h₁, toks := s.toks + (binds D).length })
    (hco : scope.isCoroutine = false) (hgen : scope.isGenerator = false) (hk : scope.kind = .function)
    (hcell : ∀ x ∈ scope.names, x.2 ≠ .cell) : codeAny (model prog w) A (.call (.ref f) args) R s := by
  have F' := F.push (dictOf [] 0)
  have N' := News.push F N (dictOf [] 0) rfl
  obtain ⟨FG, BG, st, lv⟩ := groundX (s := { s with heap := s.heap.push (dictOf [] 0) }) (R := R) B F' N' hA hf hke
  refine codeAny_call_function (fd := fnOf name qual params body scope dV kV doc pm an cdv ct) (body := body) hroom ((X₀.keeps F.keep) _ _ ho) rfl hco hgen rfl (codeRec_of (X₀.keeps F.keep) hcd) ?_
  refine wp_alloc (X₀.keeps F.keep) _ g₁ hp ?_
  rw [hk₁]
  refine wpAny_pure ?_
  refine wpAny_newFunctionEnv hcell (hloc _) (fun h₁ hns hsb => ⟨(T.nolimit.keeps F'.keep).fresh _ hsb, codeAny_func ?_⟩) hk
  have hk₁ : ∀ b o, (s.heap.push (dictOf [] 0)).get? b = some o → h₁.get? b = some o := fun b o e => hsb.extBut b o (Nat.ne_of_lt (Heap.lt_size e)) (Heap.get?_push_of_some _ e)
  exact wpAny_mono (h _ _ (s.heap.push (dictOf [] 0)).objs.size h₁ (F.notModules (modules_low T.nolimit)) FG ⟨hns, fun b o e => hk₁ b o (of_hideAll _ e), Nat.le_of_eq (hideAll_size _ _)⟩
    (fun p hp => ⟨hk₁ _ _ (N' p hp).1, Nat.ne_of_lt (Heap.lt_size (N' p hp).1), hideAll_none _ (List.mem_map_of_mem hp)⟩) BG (X₀.keeps st) (T.keeps st)
    (fun b o e nb => hideAll_get _ (Heap.get?_push_of_some _ e) fun q => by
      rcases List.mem_cons.mp q with q | q
      · rw [q] at e; exact absurd (Heap.lt_size e) (Nat.lt_irrefl _)
      · exact nb q) (fun p hp => Heap.lt_size (N p hp).1)) (fun fl s' hl => lv _ _ hl) fun _ _ y => y
end
end Sh51
end
open PySem PySem.W PyProof.Rows
open PySem.Spec PySem.Calls
set_option Elab.async false
set_option maxRecDepth 100000
set_option linter.all false
namespace Sh51
open PySem.Challenge (pw_sh0051_01)

theorem pat99 {w : World} {h : Heap} (X : (K w.params).In h) : ∃ a b, h.get? 99 = some (patObj a b 98) := ⟨_, _, X 99 _ rfl⟩
noncomputable def nmU (k : Nat) : Str := .ofString "L" ++ .ofString (toString (k : Int))
noncomputable def nmL (k : Nat) : Str := .ofString "l" ++ .ofString (toString (k : Int))
theorem lowU {k : Nat} (hk : k < 200) : Txt.lower (nmU k) = nmL k := by
  have : ∀ k : Fin 200, Txt.lower (nmU k) = nmL k := by decide +kernel
  exact this ⟨k, hk⟩
theorem lowL {k : Nat} (hk : k < 200) : Txt.lower (nmL k) = nmL k := by
  have : ∀ k : Fin 200, Txt.lower (nmL k) = nmL k := by decide +kernel
  exact this ⟨k, hk⟩
theorem nm_clean {k : Nat} (hk : k < 200) : (∀ c ∈ (nmU k).cps, Clean c) ∧ (∀ c ∈ (nmL k).cps, Clean c) ∧ (nmU k).length ≤ 4 ∧ (nmL k).length ≤ 4 := by
  have : ∀ k : Fin 200, ((nmU k).cps.toList.all fun c => decide (32 ≤ c) && decide (c ≠ 127)) = true ∧ ((nmL k).cps.toList.all fun c => decide (32 ≤ c) && decide (c ≠ 127)) = true ∧ (nmU k).length ≤ 4 ∧ (nmL k).length ≤ 4 := by decide +kernel
  obtain ⟨a, b, c, d⟩ := this ⟨k, hk⟩
  refine ⟨fun x hx => ?_, fun x hx => ?_, c, d⟩
  · have := List.all_eq_true.mp a x (by simpa using hx); simpa [Clean] using this
  · have := List.all_eq_true.mp b x (by simpa using hx); simpa [Clean] using this
noncomputable def nmVal (x : Str) : Nat := x.cps.toList.tail.foldl (fun a c => a * 10 + (c - 48)) 0
theorem nm_val {k : Nat} (hk : k < 200) : nmVal (nmL k) = k := by
  have : ∀ k : Fin 200, nmVal (nmL k) = k := by decide +kernel
  exact this ⟨k, hk⟩
theorem nm_inj {j k : Nat} (hj : j < 200) (hk : k < 200) (h : nmL j = nmL k) : j = k := by rw [← nm_val hj, ← nm_val hk, h]
section
variable {w : World} {A : Around} {E : Value → Shared → Prop} {s : Shared} {h₀ : Heap} {L : Addr} {m : Str → Option Value} {k : Nat} {t : Tok} {Q : Value → Shared → Prop}
theorem low_L (hk : k < 200) (h : ∀ t', Q (.str (nmL k) t') { s with toks := s.toks + 1 }) : wpAny (model pw_sh0051_01 w) A (call (.builtin "str.lower") [.str (nmL k) t]) Q E s := by
  have hl := (nm_clean hk).2.2.2
  refine SC.lower ?_ ?_
  · rw [lowL hk]; unfold PySem.Builtin.Str.tooLong sizeLine; simp; omega
  · rw [lowL hk]; exact h _
theorem low_U (hk : k < 200) (h : ∀ t', Q (.str (nmL k) t') { s with toks := s.toks + 1 }) : wpAny (model pw_sh0051_01 w) A (call (.builtin "str.lower") [.str (nmU k) t]) Q E s := by
  have hl := (nm_clean hk).2.2.2
  refine SC.lower ?_ ?_
  · rw [lowU hk]; unfold PySem.Builtin.Str.tooLong sizeLine; simp; omega
  · rw [lowU hk]; exact h _
theorem tup98 {h : Heap} (X : (K w.params).In h) : h.get? 98 = some (tupObj ((codeN.toList.map fun (n : Nat) => Value.int (n : Int) 0).toArray)) := (X 98 _ rfl).trans (by kernel_rfl)
theorem tup103 {h : Heap} (X : (K w.params).In h) : h.get? 103 = some (tupObj ((codeV.toList.map fun (n : Nat) => Value.int (n : Int) 0).toArray)) := (X 103 _ rfl).trans (by kernel_rfl)
theorem cN : codeOf ((codeN.toList.map fun (n : Nat) => Value.int (n : Int) 0).toArray) = codeN := by decide +kernel
theorem cV : codeOf ((codeV.toList.map fun (n : Nat) => Value.int (n : Int) 0).toArray) = codeV := by decide +kernel
theorem sr_N {x : Str} (F : Fr h₀ L s.heap m) (X : (K w.params).In h₀) (hx : ∀ c ∈ x.cps, Clean c) (hl : x.length ≤ 1000) (h : Q .none s) : wpAny (model pw_sh0051_01 w) A (call (.builtin "re.Pattern.search") [.ref 99, .str x t]) Q E s := by
  have X' := X.keeps F.keep
  refine call_search (X' 99 _ rfl) (tup98 X') (by show x.length ≤ _; omega) ?_ h
  rw [cN]
  exact searchN hx
theorem sr_V {x : Str} (F : Fr h₀ L s.heap m) (X : (K w.params).In h₀) (hx : ∀ c ∈ x.cps, Clean c) (hl : x.length ≤ 1000) (h : Q .none s) : wpAny (model pw_sh0051_01 w) A (call (.builtin "re.Pattern.search") [.ref 104, .str x t]) Q E s := by
  have X' := X.keeps F.keep
  refine call_search (X' 104 _ rfl) (tup103 X') (by show x.length ≤ _; omega) ?_ h
  rw [cV]
  exact searchV hx
theorem gm_N {pl : Sem Bool} {Q : Value × List Value → Shared → Prop} (F : Fr h₀ L s.heap m) (X : (K w.params).In h₀) (h : Q (.builtin "re.Pattern.search", [.ref 99]) s) : wpAny (model pw_sh0051_01 w) A (getMethod (.ref 99) "search" pl) Q E s :=
  re_method (X.keeps F.keep 99 _ rfl) slot_re_search type_re_search h
theorem gm_V {pl : Sem Bool} {Q : Value × List Value → Shared → Prop} (F : Fr h₀ L s.heap m) (X : (K w.params).In h₀) (h : Q (.builtin "re.Pattern.search", [.ref 104]) s) : wpAny (model pw_sh0051_01 w) A (getMethod (.ref 104) "search" pl) Q E s :=
  re_method (X.keeps F.keep 104 _ rfl) slot_re_search type_re_search h
end
local macro_rules | `(tactic| walk_at "enterC") => `(tactic| (refine' enter2C ?k1 ?k2 ?k3 ?k4 ?k5 ?kA ?kF ?kK ?k6 ?k7 ?k8 ?k9 ?kB ?kD ?_ ?c2 ?c3 ?c4; (case kA => exact rfl); (case kF => exact rfl); (case kK => first | exact rfl | assumption); (case k1 => k_asm); (case k2 => k_asm); (case k3 => k_asm); (case k4 => k_asm); (case k5 => k_asm); (case k6 => k_is); (case k7 => k_is); (case k8 => ktr_room); (case k9 => first | exact BindsTo.of_eq rfl | exact binds_K (by k_in) rfl (by k_is) rfl rfl rfl | fail "k_enter: no rule for these arguments"); (case kB => exact rfl); (case kD => decide +kernel); (case c2 => exact rfl); (case c3 => exact rfl); (case c4 => exact rfl); k_whole; intro g' L' h' tk' cells' FG' F' N' Y' B' X' T' kn' l1; (try k_lt l1); k_cells Y'; (try simp only [List.cons_append, List.nil_append] at N'); (try dsimp only); (try k_lift B'); (try k_fold)))
local macro_rules | `(tactic| walk_at "enterP") => `(tactic| (refine' enter2 ?k1 ?k2 ?k3 ?k4 ?k5 ?kA ?kF ?kK ?k6 ?k7 ?k8 ?k9 ?kB ?_ ?c2 ?c3 ?c4 ?c5; (case kA => exact rfl); (case kF => exact rfl); (case kK => first | exact rfl | assumption); (case k1 => k_asm); (case k2 => k_asm); (case k3 => k_asm); (case k4 => k_asm); (case k5 => k_asm); (case k6 => k_is); (case k7 => k_is); (case k8 => ktr_room); (case k9 => first | exact BindsTo.of_eq rfl | exact binds_K (by k_in) rfl (by k_is) rfl rfl rfl | fail "k_enter: no rule for these arguments"); (case c5 => decide); (case kB => exact locs rfl); (case c2 => exact rfl); (case c3 => exact rfl); (case c4 => exact rfl); k_whole; intro g' L' h' FG' F' N' B' X' T' kn' l1; (try k_lt l1); (try dsimp only); (try k_lift B'); (try k_fold)))
local macro_rules | `(tactic| walk_at "call ref") => `(tactic| (k_here; k_dflt (first | (refine' call_meth ?k1 ?k2 ?_; (case k1 => k_asm); (case k2 => k_mem); k_whole; first | walk_at "enterP" | walk_at "enterC") | (refine wpAny_call ?_; first | walk_at "enterP" | walk_at "enterC"))))
local macro_rules | `(tactic| walk_at "call builtin:str.lower") => `(tactic| (k_here; (with_reducible show wpAny _ _ (call (Value.builtin "str.lower") [Value.str (nmL _) _]) _ _ _); (refine low_L (by assumption) ?_); intro _))
local macro_rules | `(tactic| walk_at "getMethod ref") => `(tactic| (k_here; (with_reducible show wpAny _ _ (getMethod (Value.ref 99) _ _) _ _ _); k_dflt (refine' gm_N ?F ?X ?_; (case F => k_asm); (case X => k_asm); k_whole)))
local macro_rules | `(tactic| walk_at "getMethod ref") => `(tactic| (k_here; (with_reducible show wpAny _ _ (getMethod (Value.ref 104) _ _) _ _ _); k_dflt (refine' gm_V ?F ?X ?_; (case F => k_asm); (case X => k_asm); k_whole)))
local macro_rules | `(tactic| walk_at "call builtin:re.Pattern.search") => `(tactic| (k_here; k_dflt (first | (refine' sr_N ?F ?X ?a ?b ?_; (case F => k_asm); (case X => k_asm); (case a => walk_at "clean"); (case b => walk_at "short"); k_whole) | (refine' sr_V ?F ?X ?a ?b ?_; (case F => k_asm); (case X => k_asm); (case a => walk_at "clean"); (case b => walk_at "short"); k_whole))))
local macro_rules | `(tactic| walk_at "clean") => `(tactic| first | exact (nm_clean (by assumption)).2.1 | exact (nm_clean (by assumption)).1 | assumption)
local macro_rules | `(tactic| walk_at "short") => `(tactic| first | exact Nat.le_trans (nm_clean (by assumption)).2.2.2 (by decide) | exact Nat.le_trans (nm_clean (by assumption)).2.2.1 (by decide) | omega | assumption)
local macro_rules | `(tactic| walk_at "eval ListComp") => `(tactic| (k_here; refine held ?_))
local macro_rules | `(tactic| walk_at "call builtin:str.lower") => `(tactic| (k_here; (with_reducible show wpAny _ _ (call (Value.builtin "str.lower") [Value.str (nmU _) _]) _ _ _); (refine low_U (by assumption) ?_); intro _))
local macro_rules | `(tactic| walk_at "enterM") => `(tactic| (refine' enter2K ?k1 ?k2 ?k3 ?k4 ?k5 ?kA ?kF ?kK ?k6 ?k7 ?k8 ?kP ?kT ?kB ?_ ?c2 ?c3 ?c4 ?c5; (case kA => exact rfl); (case kF => exact rfl); (case kK => first | exact rfl | assumption); (case k1 => k_asm); (case k2 => k_asm); (case k3 => k_asm); (case k4 => k_asm); (case k5 => k_asm); (case k6 => k_is); (case k7 => k_is); (case k8 => ktr_room); (case kP => exact rfl); (case kT => exact fun _ => rfl); (case kB => exact fun _ => locs rfl); (case c5 => decide); (case c2 => exact rfl); (case c3 => exact rfl); (case c4 => exact rfl); k_whole; intro D' g' L' h' hs' FG' F' N' B' X' T' kn' l1; (try k_lt l1); (try dsimp only); (try k_lift B'); (try k_fold)))
section
open PySem PySem.W PyProof.Rows
open PySem.Spec PySem.Calls
set_option Elab.async false
set_option maxRecDepth 100000
set_option linter.all false
open PySem.Challenge (pw_sh0051_01)
section
variable {M : Model} {A : Around} {E : Value → Shared → Prop} {s : Shared} {env : Env} {scope : Scope} {cl : List (Str × Addr)} {C c : Addr} {m : Str → Option Value} {x : Str} {pos : Pos} {v : Value} {Q : Value → Shared → Prop}
theorem cn_local (hn : s.heap.Ns C m) (hm : m x = some v) (h : Q v s) (hk : (relabel scope env).kind = .function := by rfl) (hx : (compEnvC scope cl C env).kindOf x = some .local := by rfl) (hd : (x == ("__debug__" : Str)) = false := by decide) :
    wpAny M A (eval (.Name x pos) (compEnvC scope cl C env)) Q E s := wpAny_Name (wpAny_loadName_local hk hx hn hm h) hd
theorem cn_cell (hc : cl.lookup x = some c) (hv : s.heap.IsCell c (some v)) (h : Q v s) (hk : (relabel scope env).kind = .function := by rfl) (hx : (compEnvC scope cl C env).kindOf x = some .cell := by rfl) (hd : (x == ("__debug__" : Str)) = false := by decide) :
    wpAny M A (eval (.Name x pos) (compEnvC scope cl C env)) Q E s := wpAny_Name (wpAny_loadName_cell hk hx hc hv h) hd
theorem one_test {c : Expr} {e : Env} {P : Bool → Shared → Prop} (h : wpAny M A (isTrue c e (eval c e)) P E s) :
    wpAny M A (forIn [c] true fun c r => if r = true then do let ok ← isTrue c e (eval c e); pure (ForInStep.yield ok) else pure (ForInStep.yield r)) P E s := by
  simp only [List.forIn_cons, List.forIn_nil, if_true]
  exact wpAny_bind (wpAny_bind (wpAny_mono h (fun a s' h' => wpAny_pure (wpAny_pure h')) fun _ _ e => e))
end
/-- a row of the table: a pair of a name and a value -/
noncomputable def RowAt (h : Heap) (v : Value) (r : Nat × Str) : Prop := ∃ a t1 t2 n, v = .ref a ∧ h.get? a = some { cls := .type "tuple", data := .seq #[.str (nmU r.1) t1, .str r.2 t2] n }
inductive Rows (h : Heap) : List Value → List (Nat × Str) → Prop
  | nil : Rows h [] []
  | cons {v r vs rs} : RowAt h v r → Rows h vs rs → Rows h (v :: vs) (r :: rs)
theorem RowAt.keep {h h' : Heap} {v : Value} {r : Nat × Str} (H : RowAt h v r) (k : ∀ b o, h.get? b = some o → h'.get? b = some o) : RowAt h' v r := by
  obtain ⟨a, t1, t2, n, e, ho⟩ := H
  exact ⟨a, t1, t2, n, e, k _ _ ho⟩
theorem Rows.keep {h h' : Heap} {vs : List Value} {rs : List (Nat × Str)} (H : Rows h vs rs) (k : ∀ b o, h.get? b = some o → h'.get? b = some o) : Rows h' vs rs := by
  induction H with
  | nil => exact .nil
  | cons a _ ih => exact .cons (a.keep k) ih
theorem Rows.mem {h : Heap} {vs : List Value} {rs : List (Nat × Str)} (H : Rows h vs rs) {v : Value} (hv : v ∈ vs) : ∃ r ∈ rs, RowAt h v r := by
  induction H with
  | nil => cases hv
  | cons a _ ih =>
    cases hv with
    | head => exact ⟨_, .head _, a⟩
    | tail _ hv => obtain ⟨r, hr, hh⟩ := ih hv; exact ⟨r, .tail _ hr, hh⟩
theorem Rows.length {h : Heap} {vs : List Value} {rs : List (Nat × Str)} (H : Rows h vs rs) : vs.length = rs.length := by
  induction H with
  | nil => rfl
  | cons _ _ ih => simp [ih]
/-- is it a row of that name, read off the heap -/
noncomputable def rowP (h : Heap) (k : Nat) (v : Value) : Bool := match v with
  | .ref a => (match h.get? a with
      | some ⟨_, _, .seq vs _, _⟩ => (match vs.toList with
          | .str x _ :: _ => x == nmU k
          | _ => false)
      | _ => false)
  | _ => false
theorem rowP_of {h : Heap} {v : Value} {r : Nat × Str} (H : RowAt h v r) (hr : r.1 < 200) {k : Nat} (hk : k < 200) : rowP h k v = decide (r.1 = k) := by
  obtain ⟨a, t1, t2, n, rfl, ho⟩ := H
  unfold rowP
  dsimp only
  rw [ho]
  show (nmU r.1 == nmU k) = _
  by_cases e : r.1 = k
  · rw [e, decide_eq_true rfl]; exact beq_self_eq_true _
  · rw [decide_eq_false e]
    refine beq_eq_false_iff_ne.mpr fun q => e (nm_inj hr hk ?_)
    rw [← lowU hr, ← lowU hk, q]
theorem Rows.filter {h : Heap} {vs : List Value} {rs : List (Nat × Str)} (H : Rows h vs rs) (hr : ∀ r ∈ rs, r.1 < 200) {k : Nat} (hk : k < 200) (b : Bool) : Rows h (vs.filter fun v => rowP h k v == b) (rs.filter fun r => decide (r.1 = k) == b) := by
  induction H with
  | nil => exact .nil
  | @cons v r vs rs a _ ih =>
    have e := rowP_of a (hr _ (.head _)) hk
    simp only [List.filter_cons, e]
    split
    · exact .cons a (ih fun r hr' => hr r (.tail _ hr'))
    · exact ih fun r hr' => hr r (.tail _ hr')
theorem tup_get {w : World} {A : Around} {E : Value → Shared → Prop} {s : Shared} {a : Addr} {v0 v1 : Value} {n : Nat} {sub : PySem.Expr} {val : PySem.Expr} {Q : Value → Shared → Prop} {i : Int} {tk : Tok} {v : Value} (ho : s.heap.get? a = some { cls := .type "tuple", data := .seq #[v0, v1] n }) (hi : (i = 0 ∧ v = v0) ∨ (i = 1 ∧ v = v1)) (h : Q v s)
    (hs : subscripted sub false (.ref a) (.int i tk) = operate [.ref a, .int i tk] (getItem (.ref a) (.int i tk)) := by with_unfolding_all rfl) : wpAny (model pw_sh0051_01 w) A (subscriptTail val sub (.ref a) (.int i tk)) Q E s := by
  have hT : IsTup s.heap a #[v0, v1] := ⟨_, ho, rfl, n, rfl⟩
  rcases hi with ⟨rfl, rfl⟩ | ⟨rfl, rfl⟩
  · exact item_tupleT hT (by decide) (by decide) (j := 0) rfl rfl h hs
  · exact item_tupleT hT (by decide) (by decide) (j := 1) rfl rfl h hs
noncomputable abbrev tabL (w : World) (x dx l : Addr) (its : Array Value) (e tk n : Nat) : List (Addr × Obj) := [(l, listOf its e), (x, instObj 233 dx), (dx, dictOf [⟨PyData.keyHash w.params (.ofString "_headers"), .str (.ofString "_headers") tk, .ref l⟩] n)]

/-- a call of a function of the table: what the caller holds, what it asks, what it gets -/
noncomputable abbrev ClT (w : World) (mean : ExcName → Option Value) (mg mb : Str → Option Value) (f : Addr) (news : List (Addr × Obj)) (vs : List Value) (P : Heap → Prop) (R : Heap → Heap → Value → Prop) : Prop :=
  ∀ (dp un : Nat) (gd : Option (List Code)) (cn : Str) (cs : Scope) (a : Addr) (ccd : Value) (cl : List (Str × Addr)) (outer : List Env) (A₀ : Around) (base h₀ : Heap) (L : Addr) (m : Str → Option Value) (s : Shared) (Q E : Value → Shared → Prop),
    Below A₀ base outer h₀ → Fr h₀ L s.heap m → (K w.params).In h₀ → News h₀ L s.heap news → Top qL (looseW qL loose_) mean mg mb h₀ → cs.kind = .function → P s.heap →
    dp + 10 < recursionLimit → un + 8 < cLine → (∀ v h' tk', R s.heap h' v → Q v { s with heap := h', toks := tk' }) →
      wpAny (model pw_sh0051_01 w) (ktrTop dp un gd cn cs L a ccd cl outer) (call (.ref f) vs) Q E s
theorem nm_beq {j k : Nat} (hj : j < 200) (hk : k < 200) : (nmL j == nmL k) = decide (j = k) := by
  by_cases e : j = k
  · rw [e, decide_eq_true rfl]; exact beq_self_eq_true _
  · rw [decide_eq_false e]; exact beq_eq_false_iff_ne.mpr fun q => e (nm_inj hj hk q)
/-- the values of some rows -/
noncomputable def ValsAre (ys : List Value) (xs : List Str) : Prop := Paired (fun v x => ∃ t, v = .str x t) ys xs
section
variable {h₀ s g h' h'' : Heap} {L L' : Addr} {m m' : Str → Option Value} {news news' : List (Addr × Obj)} {R : Result → Shared → Prop}
/-- all but one address is kept -/
noncomputable def Kept (s h' : Heap) (no : List Addr) : Prop := ∀ b o, s.get? b = some o → b ∉ no → h'.get? b = some o
theorem Fr.up (F : Fr h₀ L s m) (k : ∀ b o, s.get? b = some o → h'.get? b = some o) : Fr h₀ L h' m := by
  obtain ⟨⟨o, es, ep, h1, h2, h3, h4⟩, hk, ha⟩ := F
  exact ⟨⟨o, es, ep, k _ _ h1, h2, h3, h4⟩, fun b o e => k _ _ (hk b o e), ha⟩
theorem News.up (N : News h₀ L s news) (k : ∀ b o, s.get? b = some o → h'.get? b = some o) : News h₀ L h' news := fun p hp => ⟨k _ _ (N p hp).1, (N p hp).2⟩
/-- what a call that only adds leaves: all -/
theorem kept_all (N₀ : News h₀ L s news) (kn : Knows s news g) (F : Fr g L' h' m') (N : News g L' h' news') (hs : ∀ p ∈ news, p ∈ news') : Kept s h' [] := fun b o e _ => by
  by_cases hb : b ∈ news.map (·.1)
  · obtain ⟨p, hp, rfl⟩ := List.mem_map.mp hb
    rw [(N₀ p hp).1] at e
    cases e
    exact (N p (hs p hp)).1
  · exact F.keep _ _ (kn b o e hb)
end
theorem vals_of {h : Heap} {vs : List Value} {rs : List (Nat × Str)} {ys : List Value} (H : Rows h vs rs) (P : Paired (fun v y => ∃ r, RowAt h v r ∧ ∃ t, y = .str r.2 t) vs ys) : ValsAre ys (rs.map (·.2)) := by
  induction H generalizing ys with
  | nil => cases P; exact .nil
  | @cons v r vs rs a _ ih =>
    cases P with
    | cons a' P' =>
      refine .cons ?_ (ih P')
      obtain ⟨r', ⟨ra, t1, t2, rn, e1, h1⟩, t, rfl⟩ := a'
      obtain ⟨rb, u1, u2, un, e2, h2⟩ := a
      rw [e1] at e2; cases e2
      have e := congrArg (fun o => match o.data with | .seq vs _ => vs[1]? | _ => none) (Option.some.inj (h1.symm.trans h2))
      have e' : r'.2 = r.2 := by simpa using (Value.str.inj (Option.some.inj e)).1
      exact ⟨t, by rw [e']⟩
set_option pp.deepTerms false
set_option pp.maxSteps 2000
set_option maxHeartbeats 2000000 in
theorem get_all_spec {w mean mg mb} (x dx l : Addr) (its : Array Value) (e tk n : Nat) (k : Nat) (hkk : k < 200) (t : Tok) (rs : List (Nat × Str)) (hrs : ∀ r ∈ rs, r.1 < 200) (hsz : rs.length ≤ sizeLine) :
    ClT w mean mg mb 172 (tabL w x dx l its e tk n) [.ref x, .str (nmL k) t] (fun h => Rows h its.toList rs)
      (fun h h' v => ∃ D ys, v = .ref D ∧ h.get? D = none ∧ h'.PlainList D ys ∧ ValsAre ys.toList ((rs.filter fun r => decide (r.1 = k) == true).map (·.2)) ∧ Kept h h' []) := by
  intro dp un gd cn cs a ccd cl outer A₀ base h₀ L m s Q E B F X N T hkd hR hd hu hret
  have N₀ := N
  refine wpAny_call ?_
  k_dflt (walk_at "enterC")
  k_steps
  unfold Held
  refine comp_list (l := l) (vs := its.toList) (fun v => rowP s.heap k v == true) (fun v y => ∃ r, RowAt s.heap v r ∧ ∃ t, y = .str r.2 t) rfl rfl (by decide) rfl (by decide) rfl ?_
  k_steps
  have key : ∀ (h' : Heap) (o : Obj), h'.get? l = some o → o = listOf its e → h'.IsList l its.toList.toArray := fun h' o e1 e2 => by
    subst e2; exact ⟨_, e1, rfl, _, rfl⟩
  have kk : Kept s.heap _ [] := kept_all N₀ (by assumption) (by assumption) (by assumption) (by intro p hp; exact List.mem_cons_of_mem _ hp)
  have N4 := ‹News _ _ _ (_ :: tabL w x dx l its e _ n)›
  refine ⟨rfl, ?_, ?_, ⟨?_, ?_⟩, ?_⟩
  · exact key _ _ (N4 (l, listOf its e) (by simp [tabL])).1 rfl
  · rw [hR.length]; exact hsz
  · intro C v s₃ m₃ E' hv hn hm hk
    obtain ⟨r, hr, hat⟩ := hR.mem hv
    have hr2 := hrs r hr
    refine one_test ?_
    k_steps
    have hat3 : RowAt s₃.heap v r := hat.keep (fun b o e => hk b o (kk b o e (by simp)))
    obtain ⟨ra, t1, t2, rn, rfl, ha⟩ := hat3
    refine tup_get ha (.inl ⟨rfl, rfl⟩) ?_
    k_steps
    · rw [rowP_of hat hr2 (by assumption), nm_beq hr2 (by assumption)]; simp
    · exact ⟨_, _, rfl, fun b o e => e⟩
  · intro C v s₃ m₃ E' hv hpv hn hm hk
    obtain ⟨r, hr, hat⟩ := hR.mem hv
    k_steps
    have hat3 : RowAt s₃.heap v r := hat.keep (fun b o e => hk b o (kk b o e (by simp)))
    obtain ⟨ra, t1, t2, rn, rfl, ha⟩ := hat3
    refine tup_get ha (.inr ⟨rfl, rfl⟩) ?_
    k_steps
    · exact hat
    all_goals first | exact ⟨_, rfl⟩ | rfl | exact ⟨_, _, rfl, fun b o e => e⟩
  · intro D h'' tk2 ys hD hp hP hk
    dsimp only
    refine leaveK_ (Fr.up (by assumption) hk) (News.up N4 hk) fun F3 N3 => ?_
    dsimp only
    refine hret _ _ _ ⟨D, ys, rfl, ?_, hp, ?_, fun b o e _ => hk b o (kk b o e (by simp))⟩
    · cases q : s.heap.get? D with
      | none => rfl
      | some o => rw [kk D o q (by simp)] at hD; cases hD
    · exact vals_of (hR.filter hrs hkk true) hP
end
section
open PySem PySem.W PyProof.Rows PySem.Spec PySem.Calls
set_option Elab.async false
set_option maxRecDepth 100000
set_option linter.all false
section
variable {prog : Program} {w : World} {A : Around} {E : Value → Shared → Prop} {s : Shared} {env : Env}
theorem set_whole {l sl D : Addr} {items ys : Array Value} {e n : Nat} {Q : Unit → Shared → Prop} (hl : s.heap.get? l = some (listOf items e)) (hD : s.heap.get? D = some (listOf ys n)) (hne : l ≠ D)
    (hs : s.heap.IsSliceOf sl .none .none .none) (hsz : items.size + ys.size ≤ sizeLine)
    (h : ∀ h' e', h'.get? l = some (listOf ys e') → Heap.SameBut l s.heap h' → Q () { s with heap := h' }) :
    wpAny (model prog w) A (setItem (.ref l) (.ref sl) (.ref D)) Q E s := by
  have hL : s.heap.IsList l items := ⟨_, hl, rfl, _, rfl⟩
  have hLD : s.heap.IsList D ys := ⟨_, hD, rfl, _, rfl⟩
  obtain ⟨os, hos, hcs, hds⟩ := id hs
  have hTs : s.TypeIs (.ref sl) "slice" := ⟨os, hos, hcs⟩
  unfold setItem
  try with_reducible refine wpAny_holding ?_
  first | refine wpAny_bind (wpAny_pure ?_) | skip
  refine wpAny_bind (wpAny_sequenceKey hL.typeIs (by decide) ?_)
  refine wpAny_bind (wpAny_callSpecial?_slot (name := Str.ofString "__setitem__") hL.typeIs slot_list_setitem
    (wpAny_call_entry slot_list_setitem hL.typeIs entry_list_setitem ?_ (args_list_setitem _ _ _)))
  show wpAny _ _ (Builtin.List.listSubscript? (.ref sl) >>= _) _ _ s
  refine wpAny_bind ?_
  unfold Builtin.List.listSubscript?
  refine wpAny_bind (wpAny_specialOf hTs slice_no_index ?_)
  simp only [Option.isNone_none, if_true]
  refine wpAny_pure ?_
  show wpAny _ _ (typeOf (.ref sl) >>= _) _ _ s
  refine wpAny_bind (wpAny_typeOf hTs ?_)
  rw [if_neg (by decide)]
  rw [listSliceParts_eq]
  have pn : IsPart .none none := .none
  have hstep : ¬ ((rawPart none == rawInt 0) = true) := Bool.false_ne_true
  refine wpAny_bind (wpAny_bind (wpAny_field hos hds (x := .none) rfl (wpAny_bind (wpAny_listPart pn ?_))))
  rw [if_neg hstep]
  refine wpAny_bind (wpAny_field hos hds (x := .none) rfl (wpAny_bind (wpAny_listPart pn ?_)))
  refine wpAny_bind (wpAny_field hos hds (x := .none) rfl (wpAny_bind (wpAny_listPart pn (wpAny_pure ?_))))
  have e1 : Builtin.List.listSameRef (.ref l) (.ref D) = false := beq_eq_false_iff_ne.mpr hne
  rw [e1]
  simp only [Bool.false_eq_true, if_false]
  have gl : ∀ {a : Addr} {xs : Array Value} {k : Nat} {A' : Around} {E' : Value → Shared → Prop} {P : Array Value → Shared → Prop}, s.heap.get? a = some (listOf xs k) → P xs s → wpAny (model prog w) A' (Builtin.List.listItems (.ref a)) P E' s := fun h1 h2 => by
    unfold Builtin.List.listItems
    exact wpAny_bind (wpAny_seqItems h1 rfl (wpAny_pure h2))
  refine wpAny_bind (m := Builtin.List.listAllItems _ _) ?_
  unfold Builtin.List.listAllItems
  refine wpAny_bind (wpAny_typeOf hLD.typeIs ?_)
  rw [if_pos (by decide)]
  first | refine gl hD ?_ | refine wpAny_bind (gl hD (wpAny_pure ?_)) | refine wpAny_bind (wpAny_seqItems hD rfl (wpAny_pure ?_))
  refine wpAny_bind (gl hl ?_)
  refine wpAny_bind (wpAny_of_eq (sliceIndices_raw none none none items.size (by simp)) ?_)
  have hb : sliceBounds none none none items.size = ((0 : Int), (items.size : Int), 1) := by simp [sliceBounds]
  rw [hb]
  rw [if_pos (show ((1 : Int) == 1) = true from rfl)]
  refine wpAny_bind (wpAny_rule ?_)
  have hlong : ¬ (Builtin.List.listTooLong (items.size + ys.size) = true) := by
    unfold Builtin.List.listTooLong; simp; omega
  rw [if_neg hlong]
  have hx : (items.extract 0 (0 : Int).toNat ++ ys ++ items.extract (max (0 : Int) (items.size : Int)).toNat) = ys := by
    have : (max (0 : Int) (items.size : Int)).toNat = items.size := by omega
    rw [this]; simp
  refine wpAny_bind (wpAny_updateSeq hl rfl ?_ (by omega) (by rw [hx]; omega))
  refine wpAny_bind (wpAny_letGo ?_)
  refine wpAny_pure ⟨.none, rfl, wpAny_pure ?_⟩
  have hfin : ∃ e', Obj.mapSeq (fun xs => xs.extract 0 (0 : Int).toNat ++ ys ++ xs.extract (max (0 : Int) (items.size : Int)).toNat) (listOf items e) = listOf ys e' := by
    refine ⟨if ys.size == items.size then e else e + 1, ?_⟩
    simp only [Obj.mapSeq, hx]
  obtain ⟨e', he'⟩ := hfin
  refine h _ e' ?_ (Heap.SameBut.update ..)
  rw [Heap.get?_update_self _ hl (by rw [he']; rfl), he']
end
end
section
open PySem PySem.W PyProof.Rows
open PySem.Spec PySem.Calls
set_option Elab.async false
set_option maxRecDepth 100000
set_option linter.all false
open PySem.Challenge (pw_sh0051_01)
theorem paired_eq {vs ys : List Value} (H : Paired (fun v y => y = v) vs ys) : ys = vs := by
  induction H with
  | nil => rfl
  | cons a _ ih => rw [a, ih]
section
variable {h₀ g h h' : Heap} {L l : Addr} {m : Str → Option Value} {news : List (Addr × Obj)} {o o' p : Obj}
/-- after a push of a thing and a change at one address of its own -/
theorem Fr.put (F : Fr h₀ L h m) (hn : h₀.get? l = none) (hL : l ≠ L) (hs : Heap.SameBut l (h.push p) h') : Fr h₀ L h' m := by
  obtain ⟨⟨oL, es, ep, h1, h2, h3, h4⟩, hk, ha⟩ := F
  have up : ∀ b o, h.get? b = some o → b ≠ l → h'.get? b = some o := fun b o e nb => (hs.2 b nb).trans (Heap.get?_push_of_some _ e)
  exact ⟨⟨oL, es, ep, up _ _ h1 (Ne.symm hL), h2, h3, h4⟩, fun b o e => up _ _ (hk b o e) (fun q => by subst q; rw [hn] at e; cases e), ha⟩
theorem News.put {pre post : List (Addr × Obj)} (N : News h₀ L h (pre ++ (l, o) :: post)) (hn : ∀ p ∈ pre ++ post, p.2 ≠ o) (hl : h'.get? l = some o') (hs : Heap.SameBut l (h.push p) h') : News h₀ L h' (pre ++ (l, o') :: post) := fun q hq => by
  have hl0 := N (l, o) (by simp)
  rcases List.mem_append.mp hq with hq | hq
  · have e := N q (List.mem_append_left _ hq)
    refine ⟨(hs.2 q.1 fun c => ?_).trans (Heap.get?_push_of_some _ e.1), e.2⟩
    have := hl0.1.symm.trans (c ▸ e.1)
    exact hn q (List.mem_append_left _ hq) (Option.some.inj this).symm
  · rcases List.mem_cons.mp hq with rfl | hq
    · exact ⟨hl, hl0.2⟩
    · have e := N q (by simp [hq])
      refine ⟨(hs.2 q.1 fun c => ?_).trans (Heap.get?_push_of_some _ e.1), e.2⟩
      have := hl0.1.symm.trans (c ▸ e.1)
      exact hn q (List.mem_append_right _ hq) (Option.some.inj this).symm
end
theorem tab_apart {w : World} {c x dx l : Addr} {oc : Obj} {v : Option Value} {its : Array Value} {e tk n : Nat} (hc : oc.data = .cell v) : ∀ p ∈ [(c, oc)] ++ [(x, instObj 233 dx), (dx, dictOf [⟨PyData.keyHash w.params (.ofString "_headers"), .str (.ofString "_headers") tk, .ref l⟩] n)], p.2 ≠ listOf its e := by
  intro p hp q
  simp only [List.cons_append, List.nil_append, List.mem_cons, List.not_mem_nil, or_false] at hp
  rcases hp with rfl | rfl | rfl
  · have := congrArg Obj.data q; simp only [hc] at this; cases this
  · have := congrArg Obj.cls q; cases this
  · have := congrArg Obj.cls q
    have h2 : (Value.type "dict") = Value.type "list" := this
    revert h2; decide
theorem Rows.keep1 {h h' : Heap} {vs : List Value} {rs : List (Nat × Str)} {l : Addr} {its : Array Value} {e : Nat} (H : Rows h vs rs) (hl : h.get? l = some (listOf its e)) (k : Kept h h' [l]) : Rows h' vs rs := by
  induction H with
  | nil => exact .nil
  | cons a _ ih =>
    refine .cons ?_ ih
    obtain ⟨ra, t1, t2, n, e1, ho⟩ := a
    refine ⟨ra, t1, t2, n, e1, k _ _ ho fun q => ?_⟩
    rw [List.mem_singleton.mp q, hl] at ho
    have h2 : (Value.type "list") = Value.type "tuple" := congrArg Obj.cls (Option.some.inj ho)
    revert h2; decide
theorem rowP_same {h h0 : Heap} {vs : List Value} {rs : List (Nat × Str)} (H : Rows h vs rs) (H0 : Rows h0 vs rs) (hr : ∀ r ∈ rs, r.1 < 200) {k : Nat} (hk : k < 200) {b : Bool} : (vs.filter fun v => rowP h k v == b) = vs.filter fun v => rowP h0 k v == b := by
  induction H with
  | nil => rfl
  | cons a _ ih =>
    cases H0 with
    | cons a' H0' =>
      have ih' := ih H0' fun r hr' => hr r (.tail _ hr')
      simp only [List.filter_cons, rowP_of a (hr _ (.head _)) hk, rowP_of a' (hr _ (.head _)) hk, ih']
theorem Rows.filterT {T : Value → Nat × Str → Prop} {h : Heap} {vs : List Value} {rs : List (Nat × Str)} (H : Rows h vs rs) (P : Paired T vs rs) (hr : ∀ r ∈ rs, r.1 < 200) {k : Nat} (hk : k < 200) (b : Bool) : Paired T (vs.filter fun v => rowP h k v == b) (rs.filter fun r => decide (r.1 = k) == b) := by
  induction H with
  | nil => exact .nil
  | @cons v r vs rs a _ ih =>
    cases P with
    | cons q P =>
      have e := rowP_of a (hr _ (.head _)) hk
      simp only [List.filter_cons, e]
      split
      · exact .cons q (ih P fun r hr' => hr r (.tail _ hr'))
      · exact ih P fun r hr' => hr r (.tail _ hr')
set_option pp.deepTerms false
set_option pp.maxSteps 2000
set_option maxHeartbeats 2000000 in
theorem del_spec {w mean mg mb} (x dx l : Addr) (its : Array Value) (e tk n : Nat) (k : Nat) (hkk : k < 200) (t : Tok) (rs : List (Nat × Str)) (hrs : ∀ r ∈ rs, r.1 < 200) (hsz : rs.length + rs.length ≤ sizeLine) :
    ClT w mean mg mb 153 (tabL w x dx l its e tk n) [.ref x, .str (nmL k) t] (fun h => Rows h its.toList rs)
      (fun h h' v => v = .none ∧ ∃ its' e', (∀ T : Value → Nat × Str → Prop, Paired T its.toList rs → Paired T its'.toList (rs.filter fun r => decide (r.1 = k) == false)) ∧ h'.get? l = some (listOf its' e') ∧ Kept h h' [l]) := by
  intro dp un gd cn cs a ccd cl outer A₀ base h₀ L m s Q E B F X N T hkd hR hd hu hret
  have N₀ := N
  refine wpAny_call ?_
  k_dflt (walk_at "enterC")
  k_steps
  unfold Held
  refine comp_list (l := l) (vs := its.toList) (fun v => rowP s.heap k v == false) (fun v y => y = v) rfl rfl (by decide) rfl (by decide) rfl ?_
  k_steps
  have key : ∀ (h' : Heap) (o : Obj), h'.get? l = some o → o = listOf its e → h'.IsList l its.toList.toArray := fun h' o e1 e2 => by
    subst e2; exact ⟨_, e1, rfl, _, rfl⟩
  have kk : Kept s.heap _ [] := kept_all N₀ (by assumption) (by assumption) (by assumption) (by intro p hp; exact List.mem_cons_of_mem _ hp)
  have N4 := ‹News _ _ _ (_ :: tabL w x dx l its e _ n)›
  refine ⟨rfl, ?_, ?_, ⟨?_, ?_⟩, ?_⟩
  · exact key _ _ (N4 (l, listOf its e) (by simp [tabL])).1 rfl
  · rw [hR.length]; omega
  · intro C v s₃ m₃ E' hv hn hm hk
    obtain ⟨r, hr, hat⟩ := hR.mem hv
    have hr2 := hrs r hr
    refine one_test ?_
    k_steps
    have hat3 : RowAt s₃.heap v r := hat.keep (fun b o e => hk b o (kk b o e (by simp)))
    obtain ⟨ra, t1, t2, rn, rfl, ha⟩ := hat3
    refine tup_get ha (.inl ⟨rfl, rfl⟩) ?_
    k_steps
    · rw [rowP_of hat hr2 (by assumption)]; first | (rw [nm_beq hr2 (by assumption)]; simp) | (simp [bne, nm_beq hr2 hkk])
    · exact ⟨_, _, rfl, fun b o e => e⟩
  · intro C v s₃ m₃ E' hv hpv hn hm hk
    refine cn_local hn hm ?_
    exact ⟨rfl, _, _, rfl, fun b o e => e⟩
  · intro D h'' tk2 ys hD hp hP hk
    dsimp only
    have F5 := Fr.up (‹Fr _ _ _ _›) hk
    have N5 := News.up N4 hk
    k_steps
    obtain ⟨ne, hpo⟩ := hp
    have hys : ys.toList = its.toList.filter (fun v => rowP s.heap k v == false) := paired_eq hP
    have hlD : l ≠ D := fun q => by
      subst q
      exact absurd ((N4 (l, listOf its e) (by simp [tabL])).1.symm.trans hD) (by simp)
    have hl5 := Heap.get?_push_of_some { cls := .type "slice", data := .fields #[.none, .none, .none] } (N5 (l, listOf its e) (by simp [tabL])).1
    refine set_whole (l := l) (D := D) (items := its) (ys := ys) (e := e) (n := ne) hl5 (Heap.get?_push_of_some _ hpo) hlD (Heap.IsSliceOf.new ..) ?_ ?_
    · have h1 := congrArg List.length hys
      have h2 := List.length_filter_le (fun v => rowP s.heap k v == false) its.toList
      have h3 := hR.length
      simp only [Array.length_toList] at h1 h2 h3
      omega
    · intro h6 e6 hl6 hsame
      have F6 := Fr.put F5 (N5 (l, listOf its e) (by simp [tabL])).2.2 (N5 (l, listOf its e) (by simp [tabL])).2.1 hsame
      have N6 := News.put (pre := [_]) N5 (tab_apart (by assumption)) hl6 hsame
      k_steps
      have kp : Kept s.heap h6 [l] := fun b o e nb => (hsame.2 b (by simpa using nb)).trans (Heap.get?_push_of_some _ (hk b o (kk b o e (by simp))))
      refine hret _ _ _ ⟨rfl, ys, e6, ?_, hl6, kp⟩
      rw [hys]
      intro T PT
      exact hR.filterT PT hrs hkk false
end
section
open PySem PySem.W PyProof.Rows
open PySem.Spec PySem.Calls
set_option Elab.async false
set_option maxRecDepth 100000
set_option linter.all false
open PySem.Challenge (pw_sh0051_01)
theorem tab_lx {w : World} {h₀ h : Heap} {L x dx l : Addr} {its : Array Value} {e tk n : Nat} (N : News h₀ L h (tabL w x dx l its e tk n)) : l ≠ x := fun q => by
  subst q
  have h1 := congrArg Obj.cls (Option.some.inj ((N (l, listOf its e) (by simp [tabL])).1.symm.trans (N (l, instObj 233 dx) (by simp [tabL])).1))
  cases h1
theorem tab_ldx {w : World} {h₀ h : Heap} {L x dx l : Addr} {its : Array Value} {e tk n : Nat} (N : News h₀ L h (tabL w x dx l its e tk n)) : l ≠ dx := fun q => by
  subst q
  have h1 : (Value.type "list") = Value.type "dict" := congrArg Obj.cls (Option.some.inj ((N (l, listOf its e) (by simp [tabL])).1.symm.trans (N (l, dictOf [⟨PyData.keyHash w.params (.ofString "_headers"), .str (.ofString "_headers") tk, .ref l⟩] n) (by simp [tabL])).1))
  revert h1; decide
theorem join1 (v : Str) : Txt.join (Str.ofString "; ") [v] = v := rfl
theorem end_add {w : World} {h₀ s g h' : Heap} {L L' x dx l D pa D1 : Addr} {m' : Str → Option Value} {its : Array Value} {e tk n e' pe : Nat} {ps : Array Value} {v v' : Str} {u : Str} {t t' : Tok}
    (N₀ : News h₀ L s (tabL w x dx l its e tk n)) (kn : Knows s (tabL w x dx l its e tk n) g)
    (NN : News g L' h' [(D, { cls := .type "tuple", data := .seq #[.str u t, .str v' t'] }), (pa, listOf ps pe), (D1, dictOf [] 0), (l, listOf (its.push (.ref D)) e'), (x, instObj 233 dx), (dx, dictOf [⟨PyData.keyHash w.params (.ofString "_headers"), .str (.ofString "_headers") tk, .ref l⟩] n)])
    (F : Fr g L' h' m') (hv : v' = v) :
    ∃ a e' t1 t2 n, h'.get? l = some (listOf (its.push (.ref a)) e') ∧ s.get? a = none ∧ h'.get? a = some { cls := .type "tuple", data := .seq #[.str u t1, .str v t2] n } ∧ Kept s h' [l] := by
  subst hv
  have hD := NN (D, _) (.head _)
  have hl := NN (l, listOf (its.push (.ref D)) e') (by simp)
  have hx := NN (x, instObj 233 dx) (by simp)
  have hdx := NN (dx, dictOf [⟨PyData.keyHash w.params (.ofString "_headers"), .str (.ofString "_headers") tk, .ref l⟩] n) (by simp)
  refine ⟨D, e', t, t', 0, hl.1, ?_, hD.1, fun b o eb nb => ?_⟩
  · cases q : s.get? D with
    | none => rfl
    | some o =>
      by_cases hb : D ∈ (tabL w x dx l its e tk n).map (·.1)
      · simp only [tabL, List.map_cons, List.map_nil, List.mem_cons, List.not_mem_nil, or_false] at hb
        have hne : ∀ o', h'.get? D = some o' → o'.cls = .type "tuple" := fun o' e => by rw [hD.1] at e; cases e; rfl
        rcases hb with rfl | rfl | rfl
        · have h2 : (Value.type "list") = Value.type "tuple" := hne _ hl.1
          exact absurd h2 (by decide)
        · have h2 := hne _ hx.1
          cases h2
        · have h2 : (Value.type "dict") = Value.type "tuple" := hne _ hdx.1
          exact absurd h2 (by decide)
      · exact absurd ((kn D o q hb).symm.trans hD.2.2) (by simp)
  · by_cases hb : b ∈ (tabL w x dx l its e tk n).map (·.1)
    · simp only [tabL, List.map_cons, List.map_nil, List.mem_cons, List.not_mem_nil, or_false] at hb
      rcases hb with rfl | rfl | rfl
      · exact absurd (List.mem_singleton.mpr rfl) nb
      · rw [(N₀ (b, instObj 233 dx) (by simp [tabL])).1] at eb; cases eb; exact hx.1
      · rw [(N₀ (b, dictOf [⟨PyData.keyHash w.params (.ofString "_headers"), .str (.ofString "_headers") tk, .ref l⟩] n) (by simp [tabL])).1] at eb; cases eb; exact hdx.1
    · exact F.keep _ _ (kn b o eb hb)
section
variable {prog : Program} {w : World} {A : Around} {E : Value → Shared → Prop} {s : Shared} {env : Env} {h₀ : Heap} {m : Str → Option Value} {news : List (Addr × Obj)}
/-- a loop over the items of a dict that has none -/
theorem For_no_items {Q : Flow → Shared → Prop} {xk xv : Str} {pk pv pt pos apos cpos po : Pos} {xo : Str} {x1} {body : List Stmt} {d : Addr}
    (F : Fr h₀ env.locals s.heap m) (N : News h₀ env.locals s.heap news) (hd : (d, dictOf [] 0) ∈ news) (hxo : env.kindOf xo = some .local) (hko : env.scope.kind = .function) (hmo : m xo = some (.ref d)) (hdo : (xo == ("__debug__" : Str)) = false) (hdS : (d == sysModules) = false)
    (hh : A.handled = none) (hxk : env.kindOf xk = some .local) (hxv : env.kindOf xv = some .local)
    (hp : (env.scope.kind == .class || (env.scope.kind == .module && env.locals != env.globals)) = false)
    (hbase : attributeBase (.Name xo po) "items" env (eval (.Name xo po) env) = eval (.Name xo po) env) (hline : (apos.endLine == cpos.line) = true)
    (hQ : ∀ h' tk, Fr h₀ env.locals h' m → News h₀ env.locals h' news → Q .next { s with heap := h', toks := tk })
    (hs : ∀ x, foldedSetIterable (.Call (.Attribute (.Name xo po) "items" apos) [] [] cpos) env x = pure x := by intro _; rfl)
    (hE : PassesOwn (model prog w) A env E := by passes_own) :
    wpAny (model prog w) A (exec (.For (.Tuple [.Name xk pk, .Name xv pv] x1 pt) (.Call (.Attribute (.Name xo po) "items" apos) [] [] cpos) body [] pos) env) Q E s := by
  have hdd := N _ hd
  obtain ⟨ep, hep⟩ : ∃ ep, s.heap.DictAt (strKind prog w) d [] ep := by
    obtain ⟨es, ep, h1, h2, h3⟩ := kp_isDict (prog := prog) (w := w) (ex := []) 0 0 List.nodup_nil
    exact ⟨ep, _, es, hdd.1, h1, h2, h3⟩
  refine wpAny_For_items_locals (knd := strKind prog w) (d := d) (kvs := []) (ep := ep) hh hxk hxv hp hdd.2.1 hdS hep F.ns hbase hline (fun Q' hq => wpAny_Name (wpAny_loadName_local hko hxo F.ns hmo hq) hdo) (fun _ m' => m' = m) rfl ?_ ?_ hs hE
  · intro i k v key m₁ s₁ hi
    simp at hi
  · intro h' tk m' hn hJ hk
    subst hJ
    obtain ⟨oL, _, _, hoL, _⟩ := id F.ns
    have nL : ∀ b o, h₀.get? b = some o → b ≠ env.locals := fun b o e q => by
      subst q; exact absurd (Heap.lt_size e) (Nat.not_lt.mpr F.above)
    exact hQ h' tk ⟨hn, fun b o e => hk b o (nL b o e) (F.keep b o e), F.above⟩ fun p hp => ⟨hk _ _ (N p hp).2.1 (N p hp).1, (N p hp).2⟩
end
local macro_rules | `(tactic| walk_at "exec For Tuple Call cons nil") => `(tactic| (k_here; k_dflt (refine' For_no_items ?F ?N ?hd ?a1 ?a2 ?a3 ?a4 ?hdS ?hh ?k1 ?k2 ?k3 ?k4 ?k5 ?_; (case F => k_asm); (case N => k_asm); (case hd => k_mem); (case a1 => exact rfl); (case a2 => exact rfl); (case a3 => exact rfl); (case a4 => decide); (case hdS => assumption); (case hh => exact rfl); (case k1 => exact rfl); (case k2 => exact rfl); (case k3 => exact rfl); (case k4 => exact rfl); (case k5 => exact rfl); k_whole; intro h' tk F' N')))

local macro_rules | `(tactic| walk_at "call builtin:list.append") => `(tactic| (k_here; (with_reducible show wpAny _ _ (call (Value.builtin _) [Value.ref _, _]) _ _ _); k_dflt (refine' append_K ?k1 ?k2 ?k3 ?_ ?z; (case k1 => k_asm); (case k2 => k_asm); (case k3 => k_upd); (case z => omega); k_whole); intro h' F' N'))
set_option pp.deepTerms false
set_option pp.maxSteps 2000
set_option maxHeartbeats 4000000 in
theorem add_spec {w mean mg mb} (x dx l : Addr) (its : Array Value) (e tk n : Nat) (k : Nat) (hkk : k < 200) (t t2 : Tok) (v : Str) (hv : ∀ c ∈ v.cps, Clean c) (hvl : v.length ≤ 1000) (hsz : its.size + 1 ≤ sizeLine) :
    ClT w mean mg mb 230 (tabL w x dx l its e tk n) [.ref x, .str (nmU k) t, .str v t2] (fun h => True)
      (fun h h' r => r = .none ∧ ∃ a e' t1 t2 n, h'.get? l = some (listOf (its.push (.ref a)) e') ∧ h.get? a = none ∧ h'.get? a = some { cls := .type "tuple", data := .seq #[.str (nmU k) t1, .str v t2] n } ∧ Kept h h' [l]) := by
  intro dp un gd cn cs a ccd cl outer A₀ base h₀ L m s Q E B F X N T hkd hR hd hu hret
  have N₀ := N
  have hlx : l ≠ x := tab_lx N
  have hldx : l ≠ dx := tab_ldx N
  have hxl := hlx.symm
  have hdxl := hldx.symm
  refine wpAny_call ?_
  k_dflt (walk_at "enterM")
  k_steps
  have kn2 := ‹Knows s.heap _ _›
  refine hret _ _ _ ⟨rfl, end_add N₀ kn2 (by assumption) (by assumption) (join1 v)⟩
end
section
open PySem PySem.W PyProof.Rows
open PySem.Spec PySem.Calls
set_option Elab.async false
set_option maxRecDepth 100000
set_option linter.all false
open PySem.Challenge (pw_sh0051_01)
local macro_rules | `(tactic| walk_at "exec For Tuple Call cons nil") => `(tactic| (k_here; k_dflt (refine' For_no_items ?F ?N ?hd ?a1 ?a2 ?a3 ?a4 ?hdS ?hh ?k1 ?k2 ?k3 ?k4 ?k5 ?_; (case F => k_asm); (case N => k_asm); (case hd => k_mem); (case a1 => exact rfl); (case a2 => exact rfl); (case a3 => exact rfl); (case a4 => decide); (case hdS => assumption); (case hh => exact rfl); (case k1 => exact rfl); (case k2 => exact rfl); (case k3 => exact rfl); (case k4 => exact rfl); (case k5 => exact rfl); k_whole; intro h' tk F' N')))
local macro_rules | `(tactic| walk_at "call builtin:list.append") => `(tactic| (k_here; (with_reducible show wpAny _ _ (call (Value.builtin _) [Value.ref _, _]) _ _ _); k_dflt (refine' append_K ?k1 ?k2 ?k3 ?_ ?z; (case k1 => k_asm); (case k2 => k_asm); (case k3 => k_upd); (case z => omega); k_whole); intro h' F' N'))
local macro_rules | `(tactic| walk_at "call ref") => `(tactic| (k_here; k_dflt (refine' call_cls ?k1 ?k2 ?k3 ?k4 ?k5 ?k6 ?_; (case k1 => k_asm); (case k2 => k_asm); (case k3 => k_asm); (case k4 => k_is); (case k5 => k_is); (case k6 => k_is); k_whole; intro x' d' h' F' N' l1 l2; (try k_lt l1); (try k_lt2 l2); (try k_sweep); first | walk_at "enterP" | walk_at "enterC")))

set_option pp.deepTerms false
set_option pp.maxSteps 2000
set_option maxHeartbeats 4000000 in
theorem new_spec {w mean mg mb} : ∀ (dp un : Nat) (gd : Option (List Code)) (cn : Str) (cs : Scope) (a : Addr) (ccd : Value) (cl : List (Str × Addr)) (outer : List Env) (A₀ : Around) (base h₀ : Heap) (L : Addr) (m : Str → Option Value) (s : Shared) (Q E : Value → Shared → Prop),
    Below A₀ base outer h₀ → Fr h₀ L s.heap m → (PySem.W.Frag.In (K w.params)) h₀ → Top qL (looseW qL loose_) mean mg mb h₀ → cs.kind = .function →
    dp + 10 < recursionLimit → un + 8 < cLine → (∀ x dx l tk h' tk', Fr h₀ L h' m → News h₀ L h' (tabL w x dx l #[] 0 tk 1) → Q (.ref x) { s with heap := h', toks := tk' }) →
      wpAny (model pw_sh0051_01 w) (ktrTop dp un gd cn cs L a ccd cl outer) (call (.ref 233) []) Q E s := by
  intro dp un gd cn cs a ccd cl outer A₀ base h₀ L m s Q E B F X T hkd hd hu hret
  have N : News h₀ L s.heap [] := fun p hp => nomatch hp
  k_steps
  exact hret _ _ _ _ _ _ (by assumption) (by assumption)
end
section
open PySem PySem.W PyProof.Rows
open PySem.Spec PySem.Calls
set_option Elab.async false
set_option maxRecDepth 100000
set_option linter.all false
open PySem.Challenge (pw_sh0051_01)

noncomputable def quoteS (x : Str) : Str := ⟨(stuff true (norm x.cps.toList)).toArray⟩
noncomputable def normS (x : Str) : Str := ⟨(norm x.cps.toList).toArray⟩
theorem norm_len : ∀ l : List Nat, (norm l).length ≤ 2 * l.length := by
  intro l
  induction l using norm.induct <;> (simp only [norm, List.length_cons, List.length_nil] at *; try omega)
  all_goals (repeat' split) <;> simp_all <;> omega
theorem norm_size (x : Str) : (normS x).cps.size ≤ 2 * x.cps.size := by
  have := norm_len x.cps.toList
  simpa [normS] using this
theorem tup52 {w : World} {h : Heap} (X : (K w.params).In h) : h.get? 52 = some (tupObj ((code1.toList.map fun (n : Nat) => Value.int (n : Int) 0).toArray)) := (X 52 _ rfl).trans (by kernel_rfl)
theorem tup57 {w : World} {h : Heap} (X : (K w.params).In h) : h.get? 57 = some (tupObj ((code2.toList.map fun (n : Nat) => Value.int (n : Int) 0).toArray)) := (X 57 _ rfl).trans (by kernel_rfl)
theorem c1 : codeOf ((code1.toList.map fun (n : Nat) => Value.int (n : Int) 0).toArray) = code1 := by decide +kernel
theorem c2 : codeOf ((code2.toList.map fun (n : Nat) => Value.int (n : Int) 0).toArray) = code2 := by decide +kernel
section
variable {w : World} {A : Around} {E : Value → Shared → Prop} {s : Shared} {h₀ : Heap} {L : Addr} {m : Str → Option Value} {k : Nat} {t tr : Tok} {Q : Value → Shared → Prop} {news : List (Addr × Obj)}
theorem Str.of_list {x : Str} {l : List Nat} (h : x.cps.toList = l) : x = ⟨l.toArray⟩ := by
  cases x with | mk c => subst h; simp
theorem sb_2 {x r : Str} (hr : r.cps = #[13, 10]) (F : Fr h₀ L s.heap m) (N : News h₀ L s.heap news) (X : (K w.params).In h₀) (hl : x.cps.size ≤ 2 ^ 18) (h : ∀ h' tk u, Fr h₀ L h' m → News h₀ L h' news → Q (.str (normS x) u) { s with heap := h', toks := tk }) :
    wpAny (model pw_sh0051_01 w) A (call (.builtin "re.Pattern.sub") [.ref 58, .str r tr, .str x t]) Q E s := by
  have X' := X.keeps F.keep
  refine call_sub (nx := nx2 x.cps) (X' 58 _ rfl) (tup57 X') (by rw [c2]; exact finds2) hl (by show r.cps.size ≤ 8; rw [hr]; decide) (by rw [hr]; decide +kernel) fun h' k u hk => ?_
  have e : Str.join ⟨#[]⟩ (subPieces x.cps r (nx2 x.cps) (x.cps.size + 1) 0) = normS x := by
    refine Str.of_list ?_
    rw [join_cat, sub2_text _ hr _ _ (by omega) (by omega)]; simp
  rw [e]
  exact h h' k u (Fr.up F hk) (News.up N hk)
theorem sb_1 {x r : Str} (hr : r.cps = #[46, 46]) (F : Fr h₀ L s.heap m) (N : News h₀ L s.heap news) (X : (K w.params).In h₀) (hl : x.cps.size ≤ 2 ^ 18) (h : ∀ h' tk u, Fr h₀ L h' m → News h₀ L h' news → Q (.str ⟨(stuff true x.cps.toList).toArray⟩ u) { s with heap := h', toks := tk }) :
    wpAny (model pw_sh0051_01 w) A (call (.builtin "re.Pattern.sub") [.ref 53, .str r tr, .str x t]) Q E s := by
  have X' := X.keeps F.keep
  refine call_sub (nx := nx1 x.cps) (X' 53 _ rfl) (tup52 X') (by rw [c1]; exact finds1 (by omega)) hl (by show r.cps.size ≤ 8; rw [hr]; decide) (by rw [hr]; decide +kernel) fun h' k u hk => ?_
  have e : Str.join ⟨#[]⟩ (subPieces x.cps r (nx1 x.cps) (x.cps.size + 1) 0) = ⟨(stuff true x.cps.toList).toArray⟩ := by
    refine Str.of_list ?_
    rw [join_cat, sub1_text _ hr _ _ (by omega) (by omega)]; simp [bol]
  rw [e]
  exact h h' k u (Fr.up F hk) (News.up N hk)
theorem gm_1 {pl : Sem Bool} {Q : Value × List Value → Shared → Prop} (F : Fr h₀ L s.heap m) (X : (K w.params).In h₀) (h : Q (.builtin "re.Pattern.sub", [.ref 53]) s) : wpAny (model pw_sh0051_01 w) A (getMethod (.ref 53) "sub" pl) Q E s :=
  re_method (X.keeps F.keep 53 _ rfl) slot_re_sub type_re_sub h
theorem gm_2 {pl : Sem Bool} {Q : Value × List Value → Shared → Prop} (F : Fr h₀ L s.heap m) (X : (K w.params).In h₀) (h : Q (.builtin "re.Pattern.sub", [.ref 58]) s) : wpAny (model pw_sh0051_01 w) A (getMethod (.ref 58) "sub" pl) Q E s :=
  re_method (X.keeps F.keep 58 _ rfl) slot_re_sub type_re_sub h
end
local macro_rules | `(tactic| walk_at "getMethod ref") => `(tactic| (k_here; (with_reducible show wpAny _ _ (getMethod (Value.ref 53) _ _) _ _ _); k_dflt (refine' gm_1 ?F ?X ?_; (case F => k_asm); (case X => k_asm); k_whole)))
local macro_rules | `(tactic| walk_at "getMethod ref") => `(tactic| (k_here; (with_reducible show wpAny _ _ (getMethod (Value.ref 58) _ _) _ _ _); k_dflt (refine' gm_2 ?F ?X ?_; (case F => k_asm); (case X => k_asm); k_whole)))
local macro_rules | `(tactic| walk_at "call builtin:re.Pattern.sub") => `(tactic| (k_here; k_dflt (first | (refine' sb_2 ?r ?F ?N ?X ?a ?_; (case r => rfl); (case F => k_asm); (case N => k_asm); (case X => k_asm); (case a => walk_at "size"); k_whole) | (refine' sb_1 ?r ?F ?N ?X ?a ?_; (case r => rfl); (case F => k_asm); (case N => k_asm); (case X => k_asm); (case a => walk_at "size"); k_whole)); intro h' tk' u' F' N'))
local macro_rules | `(tactic| walk_at "size") => `(tactic| first | omega | (refine Nat.le_trans (norm_size _) ?_; omega))
set_option maxHeartbeats 2000000 in
theorem quote_spec {w mean mg mb news} (x : Str) (hx : x.cps.size ≤ 2 ^ 16) (t : Tok) : Cl w mean mg mb 65 news [] True [.str x t] (fun u => .str (quoteS x) u) := by
  unfold Cl CbClaim
  dsimp only [CbLists, CbRet]
  intro dp un gd cn cs a ccd cl outer A₀ base h₀ L m s Q E B F X N T hkd _ hd hu hret
  refine wpAny_call ?_
  k_dflt (walk_at "enterP")
  k_steps
  refine cb_retS hret ?_ (by assumption) (by assumption)
  simp [quoteS, normS]
end
section
open PySem PySem.W PyProof.Rows PySem.Spec PySem.Calls
set_option Elab.async false
set_option maxRecDepth 100000
set_option linter.all false
open PySem.Builtin.Str PySem.StrLaws
noncomputable def crlf : Str := ⟨#[13, 10]⟩
noncomputable def cutL : List Nat → List (List Nat)
  | [] => [[]]
  | 13 :: 10 :: t => [] :: cutL t
  | c :: t => match cutL t with
    | p :: r => (c :: p) :: r
    | [] => [[c]]
theorem cutL_ne : ∀ l, cutL l ≠ [] := by
  intro l
  induction l using cutL.induct <;> simp_all [cutL]
theorem cutL_step {c : Nat} {t : List Nat} (h : ∀ r, c :: t ≠ 13 :: 10 :: r) {p : List Nat} {r : List (List Nat)} (e : cutL t = p :: r) : cutL (c :: t) = (c :: p) :: r := by
  rw [cutL]
  · rw [e]
  · intro t' h1 h2
    subst h1
    exact h _ (by rw [h2])
noncomputable def IsCut (T : Array Nat) (k : Nat) : Prop := ∃ r, T.toList.drop k = 13 :: 10 :: r
theorem at_iff {x : Str} {k : Nat} : StrLaws.At x crlf x.length k ↔ IsCut x.cps k := by
  unfold StrLaws.At PySem.Builtin.Str.subAt IsCut
  have e : (x.cps.extract k (k + crlf.length)).toList = (x.cps.toList.drop k).take 2 := by
    simp [crlf, Str.length, Array.toList_extract, List.extract_eq_take_drop]
  constructor
  · rintro ⟨h1, h2⟩
    have h3 := congrArg Array.toList (eq_of_beq h2)
    rw [e] at h3
    cases hd : x.cps.toList.drop k with
    | nil => rw [hd] at h3; simp [crlf] at h3
    | cons a r =>
      cases r with
      | nil => rw [hd] at h3; simp [crlf] at h3
      | cons b r => rw [hd] at h3; simp [crlf] at h3; exact ⟨r, by rw [h3.1, h3.2]⟩
  · rintro ⟨r, h⟩
    refine ⟨?_, ?_⟩
    · have := congrArg List.length h
      simp [crlf, Str.length] at this ⊢
      omega
    · refine beq_iff_eq.mpr (Array.toList_inj.mp ?_)
      rw [e, h]; simp [crlf]
theorem cut_run {T : Array Nat} : ∀ (n a c : Nat), a + n = c → c ≤ T.size → (∀ k, a ≤ k → k < c → ¬ IsCut T k) → ∀ p r, cutL (T.toList.drop c) = p :: r → cutL (T.toList.drop a) = ((T.extract a c).toList ++ p) :: r
  | 0, a, c, h, hc, _, p, r, e => by
    obtain rfl : a = c := by omega
    simpa using e
  | n + 1, a, c, h, hc, hn, p, r, e => by
    have ha : a < T.size := by omega
    rw [getD_drop ha, ext_step (by omega) hc]
    have ih := cut_run n (a + 1) c (by omega) hc (fun k h1 h2 => hn k (by omega) h2) p r e
    have := cutL_step (c := T.getD a 0) (t := T.toList.drop (a + 1)) (fun r' q => hn a (Nat.le_refl _) (by omega) ⟨r', by rw [getD_drop ha, q]⟩) ih
    rw [this]; rfl
theorem parts_cut {x : Str} : ∀ (cuts : List Nat) (a f : Nat), a ≤ x.length → ChainG x crlf x.length a cuts f → (∀ k, f ≤ k → ¬ StrLaws.At x crlf x.length k) → (partsFrom x 2 a cuts).map (·.cps.toList) = cutL (x.cps.toList.drop a)
  | [], a, f, ha, hc, hf => by
    obtain rfl : f = a := hc
    have := cut_run (T := x.cps) (x.length - f) f x.length (by omega) (Nat.le_refl _) (fun k h1 _ h3 => hf k h1 (at_iff.mpr h3)) [] [] (by
      have : x.cps.toList.drop x.length = [] := by simp [Str.length]
      rw [this]; rfl)
    rw [this]; simp [partsFrom, strSub]
  | c :: r, a, f, ha, hc, hf => by
    obtain ⟨h1, h2, h3, h4⟩ := hc
    obtain ⟨t, ht⟩ := at_iff.mp h2
    have hsz : c + 2 ≤ x.length := h2.1
    have e2 : x.cps.toList.drop (c + 2) = t := by
      have := congrArg (List.drop 2) ht
      simpa [List.drop_drop] using this
    have ih := parts_cut r (c + 2) f hsz h4 hf
    have := cut_run (T := x.cps) (c - a) a c (by omega) (show c ≤ x.cps.size by have : x.length = x.cps.size := rfl; omega) (fun k h5 h6 h7 => h3 k h5 h6 (at_iff.mpr h7)) [] (cutL t) (by rw [ht]; rfl)
    rw [this, ← e2, ← ih]
    simp [partsFrom, strSub]
theorem kind_ge (x : Str) : ¬ (Builtin.Str.strKind x < Builtin.Str.strKind crlf) := by
  have : Builtin.Str.strKind crlf = 1 := by decide +kernel
  rw [this]; unfold Builtin.Str.strKind
  split
  · omega
  · split <;> omega
theorem split_cut (x : Str) : (Txt.split x crlf).map (·.cps.toList) = cutL x.cps.toList := by
  obtain ⟨f, h1, h2⟩ := occ_tight x crlf (by decide)
  have main := parts_cut _ 0 f (Nat.zero_le _) h1 h2
  rw [List.drop_zero] at main
  unfold Txt.split
  split
  · rename_i h
    have hlt : x.length < 2 := by
      simp only [Bool.or_eq_true, decide_eq_true_eq] at h
      rcases h with h | h
      · exact h
      · exact absurd h (kind_ge x)
    have := cut_run (T := x.cps) x.length 0 x.length (by omega) (Nat.le_refl _) (fun k _ _ h3 => by have := (at_iff.mpr h3).1; have e : crlf.length = 2 := rfl; omega) [] [] (by
      have : x.cps.toList.drop x.length = [] := by simp [Str.length]
      rw [this]; rfl)
    rw [List.drop_zero] at this
    rw [this]; simp [Str.length]
  · split
    · rename_i h
      rw [List.isEmpty_iff.mp h] at main
      rw [← main]; simp [partsFrom, strSub, Str.length]
    · rw [partsBetween_eq]; exact main
end
section
open PySem PySem.W PyProof.Rows PySem.Spec PySem.Calls
set_option Elab.async false
set_option maxRecDepth 100000
set_option linter.all false
open PySem.Builtin.Str PySem.StrLaws
/-- no line break in it -/
noncomputable def Plain (p : List Nat) : Prop := ∀ c ∈ p, c ≠ 10 ∧ c ≠ 13
/-- a value as the quoting leaves it -/
noncomputable def sv (p : List Nat) : List Nat := match p with
  | 46 :: r => 46 :: 46 :: r
  | _ => p
theorem norm_app : ∀ {p t : List Nat}, Plain p → norm (p ++ t) = p ++ norm t
  | [], _, _ => rfl
  | c :: p, t, h => by
    have hc := h c (.head _)
    have ih := norm_app (p := p) (t := t) fun d hd => h d (.tail _ hd)
    rw [List.cons_append, norm]
    · rw [if_neg (by omega), ih]; rfl
    · intro _ h1; exact absurd h1 hc.2
/-- the line break doubled -/
noncomputable def IsEnd (en : List Nat) : Prop := en = [10] ∨ en = [13] ∨ en = [13, 10]
theorem norm_end {en t : List Nat} (he : IsEnd en) (ht : t.head? ≠ some 10) : norm (en ++ en ++ t) = 13 :: 10 :: 13 :: 10 :: norm t := by
  rcases he with rfl | rfl | rfl
  · simp [norm]
  · cases t with
    | nil => simp [norm]
    | cons c t =>
      have hc : c ≠ 10 := fun q => ht (by rw [q]; rfl)
      show norm (13 :: 13 :: c :: t) = _
      rw [norm]
      · rw [if_pos (.inr rfl), norm]
        · rw [if_pos (.inr rfl)]
        · intro r _ h2; cases h2; exact hc rfl
      · intro r _ h2; cases h2
  · simp [norm]
/-- texts with the doubled break between -/
noncomputable def joinL (en : List Nat) : List (List Nat) → List Nat
  | [] => []
  | [x] => x
  | x :: y :: r => x ++ en ++ en ++ joinL en (y :: r)
noncomputable def joinN : List (List Nat) → List Nat
  | [] => []
  | [x] => x
  | x :: y :: r => x ++ 13 :: 10 :: 13 :: 10 :: joinN (y :: r)
theorem joinL_head {en : List Nat} (he : IsEnd en) (h1 : en ≠ [10]) : ∀ {xs : List (List Nat)}, (∀ x ∈ xs, Plain x) → (joinL en xs).head? ≠ some 10
  | [], _ => by simp [joinL]
  | [x], h => by
    cases x with
    | nil => simp [joinL]
    | cons c x => simpa [joinL] using (h _ (.head _) c (.head _)).1
  | x :: y :: r, h => by
    cases x with
    | nil =>
      rcases he with rfl | rfl | rfl
      · exact absurd rfl h1
      · simp [joinL]
      · simp [joinL]
    | cons c x => simpa [joinL] using (h _ (.head _) c (.head _)).1
theorem norm_end' {en : List Nat} (he : IsEnd en) {xs : List (List Nat)} (h : ∀ x ∈ xs, Plain x) : norm (en ++ en ++ joinL en xs) = 13 :: 10 :: 13 :: 10 :: norm (joinL en xs) := by
  by_cases h1 : en = [10]
  · subst h1; simp [norm]
  · exact norm_end he (joinL_head he h1 h)
theorem norm_join {en : List Nat} (he : IsEnd en) : ∀ {xs : List (List Nat)}, (∀ x ∈ xs, Plain x) → norm (joinL en xs) = joinN xs
  | [], _ => rfl
  | [x], h => by have := norm_app (t := []) (h x (.head _)); simpa [joinL, joinN, norm] using this
  | x :: y :: r, h => by
    have ih := norm_join he (xs := y :: r) fun z hz => h z (.tail _ hz)
    rw [joinL, List.append_assoc, List.append_assoc, norm_app (h x (.head _)), ← List.append_assoc, norm_end' he fun z hz => h z (.tail _ hz), ih]
    rfl
theorem stuff_app : ∀ {p t : List Nat}, Plain p → stuff false (p ++ t) = p ++ stuff (p.isEmpty && false) t
  | [], _, _ => by simp
  | c :: p, t, h => by
    have hc := h c (.head _)
    have ih := stuff_app (p := p) (t := t) fun d hd => h d (.tail _ hd)
    rw [List.cons_append, stuff]
    have e : (c == 10) = false := beq_eq_false_iff_ne.mpr hc.1
    simp only [e, Bool.false_eq_true, false_and, if_false]
    rw [ih]; simp
theorem stuff_line {p t : List Nat} (h : Plain p) (ht : t.head? ≠ some 46) : stuff true (p ++ t) = sv p ++ stuff p.isEmpty t := by
  cases p with
  | nil => rfl
  | cons c p =>
    have hc := h c (.head _)
    have e : (c == 10) = false := beq_eq_false_iff_ne.mpr hc.1
    have ih := stuff_app (p := p) (t := t) fun d hd => h d (.tail _ hd)
    rw [List.cons_append, stuff, e, ih]
    simp only [Bool.and_false, List.isEmpty_cons]
    by_cases q : c = 46
    · subst q; simp [sv]
    · have : sv (c :: p) = c :: p := by
        unfold sv; split
        · rename_i h1; exact absurd (List.cons.inj h1).1 q
        · rfl
      rw [this]; simp [q]
theorem stuff_brk (b : Bool) (t : List Nat) : stuff b (13 :: 10 :: 13 :: 10 :: t) = 13 :: 10 :: 13 :: 10 :: stuff true t := by
  simp [stuff]
theorem stuff_join : ∀ {xs : List (List Nat)}, (∀ x ∈ xs, Plain x) → stuff true (joinN xs) = joinN (xs.map sv)
  | [], _ => rfl
  | [x], h => by have := stuff_line (t := []) (h x (.head _)) (by simp); simpa [joinN, stuff] using this
  | x :: y :: r, h => by
    have ih := stuff_join (xs := y :: r) fun z hz => h z (.tail _ hz)
    rw [joinN, stuff_line (h x (.head _)) (by simp), stuff_brk, ih]
    rfl
theorem sv_plain {p : List Nat} (h : Plain p) : Plain (sv p) := by
  unfold sv; split
  · intro c hc
    rcases List.mem_cons.mp hc with rfl | hc
    · decide
    · exact h c hc
  · exact h
/-- with an empty text between -/
noncomputable def inter : List (List Nat) → List (List Nat)
  | [] => [[]]
  | [x] => [x]
  | x :: y :: r => x :: [] :: inter (y :: r)
theorem cut_plain : ∀ {p t : List Nat}, Plain p → ∀ {q r}, cutL t = q :: r → cutL (p ++ t) = (p ++ q) :: r
  | [], _, _, _, _, e => e
  | c :: p, t, h, q, r, e => by
    have ih := cut_plain (p := p) (fun d hd => h d (.tail _ hd)) e
    exact cutL_step (fun r' h1 => (h c (.head _)).2 (List.cons.inj h1).1) ih
theorem cut_join : ∀ {xs : List (List Nat)}, (∀ x ∈ xs, Plain x) → cutL (joinN xs) = inter xs
  | [], _ => rfl
  | [x], h => by
    have := cut_plain (t := []) (h x (.head _)) (q := []) (r := []) rfl
    simpa [joinN, inter] using this
  | x :: y :: r, h => by
    have ih := cut_join (xs := y :: r) fun z hz => h z (.tail _ hz)
    have := cut_plain (t := 13 :: 10 :: 13 :: 10 :: joinN (y :: r)) (h x (.head _)) (q := []) (r := [] :: cutL (joinN (y :: r))) rfl
    rw [joinN, this, ih, List.append_nil]; rfl
noncomputable def evens {α : Type} : List α → List α
  | [] => []
  | [x] => [x]
  | x :: _ :: r => x :: evens r
theorem evens_inter : ∀ {xs : List (List Nat)}, xs ≠ [] → evens (inter xs) = xs
  | [], h => absurd rfl h
  | [x], _ => rfl
  | x :: y :: r, _ => by rw [inter, evens, evens_inter (by simp)]
theorem evens_map {α β : Type} (f : α → β) : ∀ l : List α, evens (l.map f) = (evens l).map f
  | [] => rfl
  | [x] => rfl
  | x :: y :: r => by simp [evens, evens_map f r]
/-- the whole quoting, cut at its breaks, every second row -/
theorem quoted {x : Str} {en : List Nat} {xs : List (List Nat)} (he : IsEnd en) (hx : x.cps.toList = joinL en xs) (h : ∀ x ∈ xs, Plain x) (hne : xs ≠ []) (y : Str) (hy : y.cps.toList = stuff true (norm x.cps.toList)) :
    (evens (Txt.split y crlf)).map (·.cps.toList) = xs.map sv := by
  rw [← evens_map, split_cut, hy, hx, norm_join he h, stuff_join h, cut_join (by
    intro z hz
    obtain ⟨u, hu, rfl⟩ := List.mem_map.mp hz
    exact sv_plain (h u hu)), evens_inter (by simpa using hne)]
theorem filter_evens {α : Type} : ∀ (n : Nat) (l : List α), n = (l.length + 1) / 2 → ((List.range n).map (2 * ·)).filterMap (l[·]?) = evens l
  | 0, [], _ => rfl
  | 0, x :: l, h => by simp at h; omega
  | n + 1, [], h => by simp at h
  | n + 1, [x], h => by
    obtain rfl : n = 0 := by simp at h; omega
    rfl
  | n + 1, x :: y :: l, h => by
    have ih := filter_evens n l (by simp at h; omega)
    rw [List.range_succ_eq_map, evens, ← ih]
    simp [List.filterMap_map, Function.comp_def, Nat.mul_add, List.map_map]
theorem pick_evens (items : Array Value) : slicePick items none none (some 2) = (evens items.toList).toArray := by
  have hb : sliceBounds none none (some 2) items.size = ((0 : Int), (items.size : Int), 2) := by simp [sliceBounds]
  unfold slicePick
  rw [hb]
  congr 1
  have e : sliceRange 0 (items.size : Int) 2 = (List.range ((items.size + 1) / 2)).map (2 * ·) := by
    unfold sliceRange
    simp only [show (2 : Int) > 0 by decide, if_true]
    by_cases h : (0 : Int) < items.size
    · simp only [h, if_true]
      have : (((items.size : Int) - 0 + 2 - 1) / 2).toNat = (items.size + 1) / 2 := by omega
      rw [this]
      apply List.map_congr_left
      intro k _; omega
    · have h0 : items.size = 0 := by omega
      simp [h0]
  rw [e, ← filter_evens ((items.size + 1) / 2) items.toList (by simp)]
  simp
end
section
open PySem PySem.W PyProof.Rows PySem.Spec PySem.Calls
set_option Elab.async false
set_option maxRecDepth 100000
set_option linter.all false
open PySem.Builtin.Str PySem.StrLaws
theorem xor_add : ∀ (n a b : Nat), a ≤ n → (a ^^^ b) + 2 * (a &&& b) = a + b := by
  intro n
  induction n with
  | zero => intro a b h; obtain rfl : a = 0 := by omega
            simp
  | succ n ih =>
    intro a b h
    by_cases h0 : a = 0
    · subst h0; simp
    · have i := ih (a / 2) (b / 2) (by omega)
      have d1 : (a ^^^ b) / 2 = a / 2 ^^^ b / 2 := Nat.xor_div_two
      have d2 : (a &&& b) / 2 = a / 2 &&& b / 2 := Nat.and_div_two
      have m1 : (a ^^^ b) % 2 = (a + b) % 2 := by
        have := @Nat.testBit_xor a b 0
        simp only [Nat.testBit_zero] at this
        have ha := Nat.mod_two_eq_zero_or_one a
        have hb := Nat.mod_two_eq_zero_or_one b
        have hc := Nat.mod_two_eq_zero_or_one (a ^^^ b)
        rcases ha with ha | ha <;> rcases hb with hb | hb <;> rcases hc with hc | hc <;> simp [ha, hb, hc] at this <;> omega
      have m2 : (a &&& b) % 2 = (if a % 2 = 1 ∧ b % 2 = 1 then 1 else 0) := by
        have := @Nat.testBit_and a b 0
        simp only [Nat.testBit_zero] at this
        have ha := Nat.mod_two_eq_zero_or_one a
        have hb := Nat.mod_two_eq_zero_or_one b
        have hc := Nat.mod_two_eq_zero_or_one (a &&& b)
        rcases ha with ha | ha <;> rcases hb with hb | hb <;> rcases hc with hc | hc <;> simp [ha, hb, hc] at this ⊢
      rw [← d1, ← d2] at i
      split at m2 <;> omega
theorem xor_cast (a b : Nat) : Builtin.bitXor (a : Int) (b : Int) = ((a ^^^ b : Nat) : Int) := by
  rw [bitXor_and]
  have h : Builtin.bitAnd (a : Int) (b : Int) = ((a &&& b : Nat) : Int) := by
    unfold Builtin.bitAnd
    simp
  rw [h]
  have := xor_add a a b (Nat.le_refl _)
  omega
/-- the number that a closed level has -/
noncomputable def numOf (xs : List (List Nat)) : Nat := xs.foldl (fun n x => n ^^^ ((sv x).length - 1)) 0
noncomputable def dotsS (n : Nat) : Str := Txt.mul (Str.ofString ".") ((n : Int) + 1)
noncomputable def numUp (ys : List Str) (i : Nat) : Int := (((ys.take i).foldl (fun n y => n ^^^ (y.length - 1)) 0 : Nat) : Int)
theorem numUp_zero (ys : List Str) : numUp ys 0 = 0 := rfl
theorem numUp_step {ys : List Str} {i : Nat} {y : Str} (h : ys[i]? = some y) (h1 : 1 ≤ y.length) : Builtin.bitXor (numUp ys i) ((y.length : Int) - 1) = numUp ys (i + 1) := by
  have e : ys.take (i + 1) = ys.take i ++ [y] := by simp [List.take_add_one, h]
  have c : ((y.length : Int) - 1) = ((y.length - 1 : Nat) : Int) := by omega
  unfold numUp
  rw [e, List.foldl_append, c, xor_cast]
  rfl
theorem xor_fold_lt {k : Nat} : ∀ (ys : List Str) (a : Nat), a < 2 ^ k → (∀ y ∈ ys, y.length - 1 < 2 ^ k) → ys.foldl (fun n y => n ^^^ (y.length - 1)) a < 2 ^ k
  | [], a, h, _ => h
  | y :: ys, a, h, hy => xor_fold_lt ys _ (Nat.xor_lt_two_pow h (hy y (.head _))) fun z hz => hy z (.tail _ hz)
theorem numUp_lt {ys : List Str} {i : Nat} (h : ∀ y ∈ ys, y.length ≤ 2048) : 0 ≤ numUp ys i ∧ numUp ys i < 2048 := by
  have := xor_fold_lt (k := 11) (ys.take i) 0 (by decide) fun y hy => by
    have := h y (List.mem_of_mem_take hy); omega
  unfold numUp; omega
theorem num_same {Y : List Str} {xs : List (List Nat)} (h : Y.map (·.cps.toList) = xs.map sv) : numUp Y Y.length = ((numOf xs : Nat) : Int) := by
  unfold numUp numOf
  rw [List.take_length]
  have e : ∀ (Y : List Str) (a : Nat), Y.foldl (fun n y => n ^^^ (y.length - 1)) a = (Y.map (·.cps.toList)).foldl (fun n y => n ^^^ (y.length - 1)) a := by
    intro Y
    induction Y with
    | nil => intro a; rfl
    | cons y Y ih => intro a; simp only [List.foldl_cons, List.map_cons, ih]; simp [Str.length]
  rw [e, h]
  congr 1
  rw [List.foldl_map]
theorem sv_len {p : List Nat} (h : 1 ≤ p.length) : 1 ≤ (sv p).length ∧ (sv p).length ≤ p.length + 1 := by
  unfold sv; split <;> simp_all <;> omega
theorem same_len {Y : List Str} {xs : List (List Nat)} (h : Y.map (·.cps.toList) = xs.map sv) (hx : ∀ x ∈ xs, 1 ≤ x.length ∧ x.length ≤ 1000) : ∀ y ∈ Y, 1 ≤ y.length ∧ y.length ≤ 1001 := by
  intro y hy
  have hm : y.cps.toList ∈ xs.map sv := h ▸ List.mem_map_of_mem hy
  obtain ⟨x, hx1, hx2⟩ := List.mem_map.mp hm
  have e : y.length = (sv x).length := by rw [hx2]; simp [Str.length]
  have b := hx x hx1
  have := sv_len b.1
  omega
theorem join_list (en : Str) : ∀ l : List Str, (Txt.join (en ++ en) l).cps.toList = joinL en.cps.toList (l.map (·.cps.toList)) := by
  intro l
  have e : Txt.join (en ++ en) l = Str.join (en ++ en) l := StrLaws.glued_eq_join _ _
  rw [e]
  clear e
  induction l with
  | nil => rfl
  | cons x l ih =>
    cases l with
    | nil => rfl
    | cons y r =>
      have e : Str.join (en ++ en) (x :: y :: r) = x ++ (en ++ en) ++ Str.join (en ++ en) (y :: r) := rfl
      rw [e]
      show (x.cps ++ (en.cps ++ en.cps) ++ (Str.join (en ++ en) (y :: r)).cps).toList = _
      rw [Array.toList_append, Array.toList_append, Array.toList_append, ih]
      simp [joinL, List.append_assoc]
theorem cut_len : ∀ l, (cutL l).length ≤ l.length + 1 := by
  intro l
  induction l using cutL.induct with
  | case1 => simp [cutL]
  | case2 t ih => simp only [cutL, List.length_cons]; omega
  | case3 c t hne p r e ih =>
    rw [cutL_step (fun r' q => by cases q; exact hne _ rfl rfl) e]
    rw [e] at ih; simp only [List.length_cons] at *; omega
  | case4 c t hne e ih => exact absurd e (cutL_ne t)
theorem split_len (x : Str) : (Txt.split x crlf).length ≤ x.length + 1 := by
  have := cut_len x.cps.toList
  rw [← split_cut] at this
  simpa [Str.length] using this
end
section
open PySem PySem.W PyProof.Rows
open PySem.Spec PySem.Calls
set_option Elab.async false
set_option maxRecDepth 100000
set_option linter.all false
open PySem.Challenge (pw_sh0051_01)

local macro_rules | `(tactic| walk_at $s:str) => if ["call ref", "call builtin:str.join", "call builtin:str.split", "exec For", "subscriptTail"].contains s.getString then `(tactic| (k_here; refine held ?_)) else Lean.Macro.throwUnsupported
theorem own_delItem {M : Model} {A : Around} {E : Value → Shared → Prop} {s : Shared} {K : Frag} {x C L f : Addr} {h₀ : Heap} {m : Str → Option Value} {ox : Obj} {od : Option Obj} {i : Value} {Q : Unit → Shared → Prop} (F : Fr h₀ L s.heap m) (X₀ : K.In h₀) (I : InstAt s.heap x ox C od) (hq : noSeq K C = true) (hs : findIn K (.ref C) "__delitem__" = some (some (.ref f))) (hf : isFn K (.ref f) = true)
    (h : wpAny M A (call (.ref f) [.ref x, i]) (fun _ s' => Q () s') E s) : wpAny M A (delItem (.ref x) i) Q E s := by
  have X := X₀.keeps F.keep
  unfold delItem sequenceKey
  refine wpAny_holding (wpAny_bind (wpAny_bind (I.type.here ?_)))
  refine wpAny_bind ((anyM_none X hq).here ?_)
  rw [if_pos (show (!false) = true from rfl)]
  exact wpAny_pure (wpAny_bind (special_fn X I hs (beq_iff_eq.mp hf) (wpAny_mono h (fun _ _ z => wpAny_pure z) fun _ _ z => z)))
local macro_rules | `(tactic| walk_at "delItem ref") => `(tactic| (k_here; (with_reducible show wpAny _ _ (delItem (Value.ref _) _) _ _ _); k_dflt (refine' own_delItem ?F ?X ?I ?hQ ?hS ?hF ?_; (case F => k_asm); (case X => k_asm); (case I => k_inst); (case hS => k_is); (case hF => k_is); (case hQ => k_is); k_whole)))
theorem ne_empty {prog : Program} {w : World} {A : Around} {E : Value → Shared → Prop} {s : Shared} {a b h₀ : _} {L : Addr} {news : List (Addr × Obj)} {ys : Array Value} {n n2 : Nat} {Q : Value → Shared → Prop} (N : News h₀ L s.heap news) (ha : (a, listOf ys n) ∈ news) (hb : (b, listOf #[] n2) ∈ news) (hu : A.units < cLine)
    (h : Q (.bool (!ys.toList.isEmpty)) s) : wpAny (model prog w) A (compareOp .NotEq (.ref a) (.ref b)) Q E s := by
  have hl : s.heap.IsList a ys := ⟨_, (N _ ha).1, rfl, _, rfl⟩
  have hm : s.heap.IsList b #[] := ⟨_, (N _ hb).1, rfl, _, rfl⟩
  refine cmp_ofNotEq ?_
  by_cases e : ys.size = 0
  · have e2 : ys = #[] := Array.eq_empty_of_size_eq_zero e
    subst e2
    exact PySem.SeqAt.RcNeAt.lists (e := fun _ => true) hl hm rfl hu (fun j h1 => absurd h1 (by simp)) _ _ _ _ h
  · have : (!ys.toList.isEmpty) = true := by
      simp only [Bool.not_eq_true']
      exact Bool.eq_false_iff.mpr fun q => e (by simpa using q)
    rw [this] at h
    exact PySem.SeqAt.RcNeAt.lists_lengths hl hm (by simpa using e) hu _ _ _ _ h
local macro_rules | `(tactic| walk_at "compareOp NotEq ref ref") => `(tactic| (k_here; (with_reducible show wpAny _ _ (compareOp CmpOp.NotEq (Value.ref _) (Value.ref _)) _ _ _); k_dflt (refine' ne_empty ?N ?a ?b ?u ?_; (case N => k_asm); (case a => k_mem); (case b => k_mem); (case u => ktr_units); k_whole)))
local macro_rules | `(tactic| walk_at "binaryOp Add str str") => `(tactic| (k_here; (refine PyProof.Rows.add_str (hsz := ?hsz) ?_); (case hsz => (rw [sizeLine_eq]; omega)); intro _ _))
local macro_rules | `(tactic| walk_at "binaryOp Mult str int") => `(tactic| (k_here; (refine SB.mul (by assumption) ?_); intro _ _))
local macro_rules | `(tactic| walk_at "call builtin:len") => `(tactic| (k_here; (with_reducible show wpAny _ _ (call (Value.builtin "len") [Value.str _ _]) _ _ _); (refine P.len_str (by omega) ?_)))
local macro_rules | `(tactic| walk_at "binaryOp BitXor int int") => `(tactic| (k_here; (refine xor_int ?_)))
local macro_rules | `(tactic| walk_at "rows") => `(tactic| first | assumption)
set_option pp.deepTerms false
set_option pp.maxSteps 2000
noncomputable abbrev ClX (rm ru : Nat) (w : World) (mean : ExcName → Option Value) (mg mb : Str → Option Value) (f : Addr) (news : List (Addr × Obj)) (vs : List Value) (P : Heap → Prop) (R : Heap → Heap → Value → Prop) : Prop :=
  ∀ (dp un : Nat) (gd : Option (List Code)) (cn : Str) (cs : Scope) (a : Addr) (ccd : Value) (cl : List (Str × Addr)) (outer : List Env) (A₀ : Around) (base h₀ : Heap) (L : Addr) (m : Str → Option Value) (s : Shared) (Q E : Value → Shared → Prop),
    Below A₀ base outer h₀ → Fr h₀ L s.heap m → (PySem.W.Frag.In (K w.params)) h₀ → News h₀ L s.heap news → Top qL (looseW qL loose_) mean mg mb h₀ → cs.kind = .function → P s.heap →
    dp + rm < recursionLimit → un + ru < cLine → (∀ v h' tk', R s.heap h' v → Q v { s with heap := h', toks := tk' }) →
      wpAny (model pw_sh0051_01 w) (ktrTop dp un gd cn cs L a ccd cl outer) (call (.ref f) vs) Q E s
theorem Rows.keepT {w : World} {h g h' : Heap} {vs : List Value} {rs : List (Nat × Str)} {h₀ : Heap} {L L' : Addr} {m' : Str → Option Value} {x dx l : Addr} {its : Array Value} {e tk n : Nat} (H : Rows h vs rs) (N : News h₀ L h (tabL w x dx l its e tk n)) (kn : Knows h (tabL w x dx l its e tk n) g) (F : Fr g L' h' m') : Rows h' vs rs := by
  induction H with
  | nil => exact .nil
  | cons a _ ih =>
    refine .cons ?_ ih
    obtain ⟨ra, t1, t2, n2, e1, ho⟩ := a
    refine ⟨ra, t1, t2, n2, e1, F.keep _ _ (kn _ _ ho fun hb => ?_)⟩
    simp only [tabL, List.map_cons, List.map_nil, List.mem_cons, List.not_mem_nil, or_false] at hb
    rcases hb with rfl | rfl | rfl
    · have h2 : (Value.type "list") = Value.type "tuple" := congrArg Obj.cls (Option.some.inj ((N (ra, listOf its e) (by simp [tabL])).1.symm.trans ho))
      exact absurd h2 (by decide)
    · have h2 := congrArg Obj.cls (Option.some.inj ((N (ra, instObj 233 dx) (by simp [tabL])).1.symm.trans ho))
      cases h2
    · have h2 : (Value.type "dict") = Value.type "tuple" := congrArg Obj.cls (Option.some.inj ((N (ra, dictOf [⟨PyData.keyHash w.params (.ofString "_headers"), .str (.ofString "_headers") tk, .ref l⟩] n) (by simp [tabL])).1.symm.trans ho))
      exact absurd h2 (by decide)
theorem Fr.as {h₀ h : Heap} {L : Addr} {m m' : Str → Option Value} (F : Fr h₀ L h m) (e : m = m') : Fr h₀ L h m' := e ▸ F
theorem Fr.kept {h₀ h h' : Heap} {L : Addr} {m : Str → Option Value} (F : Fr h₀ L h m) (k : Kept h h' []) : Fr h₀ L h' m := Fr.up F fun b o e => k b o e (by simp)
theorem fresh_led {h₀ h h' : Heap} {L D : Addr} {o : Obj} {m : Str → Option Value} {news : List (Addr × Obj)} (F : Fr h₀ L h m) (N : News h₀ L h news) (k : Kept h h' []) (hD : h.get? D = none) (ho : h'.get? D = some o) : News h₀ L h' ((D, o) :: news) := fun p hp => by
  rcases List.mem_cons.mp hp with rfl | hp
  · refine ⟨ho, fun q => ?_, ?_⟩
    · obtain ⟨oL, _, _, h1, _⟩ := F.ns
      have q : D = L := q
      rw [← q, hD] at h1; cases h1
    · cases q : h₀.get? D with
      | none => rfl
      | some o' => have := F.keep _ _ q; rw [hD] at this; cases this
  · exact News.up N (fun b o e => k b o e (by simp)) p hp
theorem Rows.base {w : World} {h g : Heap} {vs : List Value} {rs : List (Nat × Str)} {h₀ : Heap} {L : Addr} {x dx l : Addr} {its : Array Value} {e tk n : Nat} (H : Rows h vs rs) (N : News h₀ L h (tabL w x dx l its e tk n)) (kn : Knows h (tabL w x dx l its e tk n) g) : Rows g vs rs := by
  induction H with
  | nil => exact .nil
  | cons a _ ih =>
    refine .cons ?_ ih
    obtain ⟨ra, t1, t2, n2, e1, ho⟩ := a
    refine ⟨ra, t1, t2, n2, e1, kn _ _ ho fun hb => ?_⟩
    simp only [tabL, List.map_cons, List.map_nil, List.mem_cons, List.not_mem_nil, or_false] at hb
    rcases hb with rfl | rfl | rfl
    · have h2 : (Value.type "list") = Value.type "tuple" := congrArg Obj.cls (Option.some.inj ((N (ra, listOf its e) (by simp [tabL])).1.symm.trans ho))
      exact absurd h2 (by decide)
    · have h2 := congrArg Obj.cls (Option.some.inj ((N (ra, instObj 233 dx) (by simp [tabL])).1.symm.trans ho))
      cases h2
    · have h2 : (Value.type "dict") = Value.type "tuple" := congrArg Obj.cls (Option.some.inj ((N (ra, dictOf [⟨PyData.keyHash w.params (.ofString "_headers"), .str (.ofString "_headers") tk, .ref l⟩] n) (by simp [tabL])).1.symm.trans ho))
      exact absurd h2 (by decide)
theorem Fr.chg {h₀ h h' : Heap} {L l : Addr} {m : Str → Option Value} (F : Fr h₀ L h m) (hn : h₀.get? l = none) (hL : l ≠ L) (k : Kept h h' [l]) : Fr h₀ L h' m := by
  obtain ⟨⟨oL, es, ep, h1, h2, h3, h4⟩, hk, ha⟩ := F
  exact ⟨⟨oL, es, ep, k _ _ h1 (by simpa using Ne.symm hL), h2, h3, h4⟩, fun b o e => k _ _ (hk b o e) (by simp only [List.mem_singleton]; intro q; subst q; rw [hn] at e; cases e), ha⟩
theorem News.chg {h₀ h h' : Heap} {L l : Addr} {o o' : Obj} {pre post : List (Addr × Obj)} (N : News h₀ L h (pre ++ (l, o) :: post)) (hn : ∀ p ∈ pre ++ post, p.1 ≠ l) (hl : h'.get? l = some o') (k : Kept h h' [l]) : News h₀ L h' (pre ++ (l, o') :: post) := fun q hq => by
  have hl0 := N (l, o) (by simp)
  rcases List.mem_append.mp hq with hq | hq
  · have e := N q (List.mem_append_left _ hq)
    exact ⟨k _ _ e.1 (by simpa using hn q (List.mem_append_left _ hq)), e.2⟩
  · rcases List.mem_cons.mp hq with rfl | hq
    · exact ⟨hl, hl0.2⟩
    · have e := N q (by simp [hq])
      exact ⟨k _ _ e.1 (by simpa using hn q (List.mem_append_right _ hq)), e.2⟩
theorem kept_end {s g h' : Heap} {L' : Addr} {m' : Str → Option Value} (kn : Knows s [] g) (F : Fr g L' h' m') : Kept s h' [] := fun b o e _ => F.keep _ _ (kn b o e (by simp))
theorem list_none {ys : List Value} (h : ys.isEmpty = true) : ys = [] := by simpa using h
theorem vals_none {ys : List Value} {xs : List Str} (h : ValsAre ys xs) (e : ys = []) : xs = [] := by subst e; cases h; rfl
theorem vals_pairs {ys : List Value} {xs : List Str} (h : ValsAre ys xs) : ∃ lp : List (Str × Tok), ys = strValues lp ∧ lp.map (·.1) = xs := by
  induction h with
  | nil => exact ⟨[], rfl, rfl⟩
  | cons a _ ih =>
    obtain ⟨t, rfl⟩ := a
    obtain ⟨lp, h1, h2⟩ := ih
    exact ⟨(_, t) :: lp, by rw [h1]; rfl, by rw [← h2]; rfl⟩
theorem str_app (x y : Str) : (x ++ y).length = x.length + y.length := by
  show (x.cps ++ y.cps).size = _
  simp [Str.length]
theorem rows_bound {rs : List (Nat × Str)} {k : Nat} (h : ∀ r ∈ rs, Plain r.2.cps.toList ∧ 1 ≤ r.2.length ∧ r.2.length ≤ 1000) (hs : rs.length ≤ 50) : ((((rs.filter fun r => decide (r.1 = k) == true).map (·.2)).map (·.length)).sum ≤ 50000) ∧ ((rs.filter fun r => decide (r.1 = k) == true).map (·.2)).length ≤ 50 := by
  have h1 : (rs.filter fun r => decide (r.1 = k) == true).length ≤ rs.length := List.length_filter_le ..
  have h2 : ∀ l : List (Nat × Str), (∀ r ∈ l, r.2.length ≤ 1000) → ((l.map (·.2)).map (·.length)).sum ≤ 1000 * l.length := by
    intro l hl
    induction l with
    | nil => simp
    | cons r l ih =>
      have := hl r (.head _)
      have := ih fun z hz => hl z (.tail _ hz)
      simp only [List.map_cons, List.sum_cons, List.length_cons]; omega
  have h3 := h2 (rs.filter fun r => decide (r.1 = k) == true) fun r hr => (h r (List.mem_filter.mp hr).1).2.2
  exact ⟨by omega, by simp only [List.length_map]; omega⟩
theorem join_room {en : Str} {xs : List Str} (h1 : (xs.map (·.length)).sum ≤ 50000) (h2 : xs.length ≤ 50) (h3 : en.length ≤ 2) : (xs.map (·.length)).sum + xs.length * (en ++ en).length ≤ 50200 := by
  have e2 : (en ++ en).length ≤ 4 := by rw [str_app]; omega
  have := Nat.mul_le_mul h2 e2
  omega
theorem join_size {en : Str} {xs : List Str} (h1 : (xs.map (·.length)).sum ≤ 50000) (h2 : xs.length ≤ 50) (h3 : en.length ≤ 2) : (Txt.join (en ++ en) xs).cps.size ≤ 50200 := by
  have e : Txt.join (en ++ en) xs = Str.join (en ++ en) xs := StrLaws.glued_eq_join _ _
  rw [e]
  exact Nat.le_trans (StrLaws.join_length_le _ _) (join_room h1 h2 h3)
theorem stuff_len : ∀ (b : Bool) (l : List Nat), (stuff b l).length ≤ 2 * l.length
  | _, [] => by simp [stuff]
  | b, c :: l => by
    have ih := stuff_len (c == 10) l
    simp only [stuff, List.length_append, List.length_cons]
    split <;> simp <;> omega
theorem quote_room {x : Str} (h : x.cps.size ≤ 2 ^ 16) : (quoteS x).length + 2 ≤ sizeLine := by
  have h1 := stuff_len true (norm x.cps.toList)
  have h2 := norm_len x.cps.toList
  have h3 : x.cps.toList.length = x.cps.size := by simp
  have e : (quoteS x).length = (stuff true (norm x.cps.toList)).length := by simp [quoteS, Str.length]
  rw [e, sizeLine_eq]; omega
theorem evens_at {lq : List (Str × Tok)} {i : Nat} {v : Value} (h : (evens (strValues lq))[i]? = some v) : ∃ y u, v = .str y u ∧ ((evens lq).map (·.1))[i]? = some y := by
  unfold strValues at h
  rw [evens_map, List.getElem?_map] at h
  cases q : (evens lq)[i]? with
  | none => rw [q] at h; cases h
  | some p => rw [q] at h; cases h; exact ⟨p.1, p.2, rfl, by rw [List.getElem?_map, q]; rfl⟩
theorem closed_end {w : World} {h₀ s g h' : Heap} {L L' x dx l : Addr} {m' : Str → Option Value} {its its' : Array Value} {e tk n e' : Nat} {nw : List (Addr × Obj)}
    (N₀ : News h₀ L s (tabL w x dx l its e tk n)) (kn : Knows s (tabL w x dx l its e tk n) g) (F : Fr g L' h' m') (N : News g L' h' nw) (hl : (l, listOf its' e') ∈ nw) (hx : (x, instObj 233 dx) ∈ nw) (hdx : (dx, dictOf [⟨PyData.keyHash w.params (.ofString "_headers"), .str (.ofString "_headers") tk, .ref l⟩] n) ∈ nw) : Kept s h' [l] ∧ h'.get? l = some (listOf its' e') := by
  refine ⟨fun b o eb nb => ?_, (N _ hl).1⟩
  by_cases hb : b ∈ (tabL w x dx l its e tk n).map (·.1)
  · simp only [tabL, List.map_cons, List.map_nil, List.mem_cons, List.not_mem_nil, or_false] at hb
    rcases hb with rfl | rfl | rfl
    · exact absurd (List.mem_singleton.mpr rfl) nb
    · rw [(N₀ (b, instObj 233 dx) (by simp [tabL])).1] at eb; cases eb; exact (N _ hx).1
    · rw [(N₀ (b, dictOf [⟨PyData.keyHash w.params (.ofString "_headers"), .str (.ofString "_headers") tk, .ref l⟩] n) (by simp [tabL])).1] at eb; cases eb; exact (N _ hdx).1
  · exact F.keep _ _ (kn b o eb hb)
theorem end_len {en : Str} (h : IsEnd en.cps.toList) : en.length ≤ 2 := by
  have e : en.length = en.cps.toList.length := by simp [Str.length]
  rw [e]
  rcases h with h | h | h <;> rw [h] <;> decide
section
variable {prog : Program} {w : World} {A : Around} {E : Value → Shared → Prop} {s : Shared} {env : Env} {g : Heap} {L l : Addr} {body : List Stmt} {Q : Flow → Shared → Prop} {M : Str → Option Value} {Led : List (Addr × Obj)} {vs : List Value} {nn : Nat} {t0 : Tok}
noncomputable def numM (M : Str → Option Value) (n : Int) (tn : Tok) (rv : Option Value) : Str → Option Value := fun y => if y = Str.ofString "number" then some (.int n tn) else if y = Str.ofString "row" then rv else M y
structure NumTurn (g : Heap) (L : Addr) (M : Str → Option Value) (Led : List (Addr × Obj)) (n : Int) (s₁ : Shared) (f : Flow) (s₂ : Shared) : Prop where
  next : f = .next
  rest : ∃ h' tk tn rv, s₂ = { s₁ with heap := h', toks := tk } ∧ Fr g L h' (numM M n tn rv) ∧ News g L h' Led
theorem NumTurn.of {g : Heap} {L : Addr} {M m : Str → Option Value} {Led : List (Addr × Obj)} {n : Int} {s₁ : Shared} {h' : Heap} {tk : Nat} (F : Fr g L h' m) (N : News g L h' Led) (e : ∃ tn rv, m = numM M n tn rv) : NumTurn g L M Led n s₁ .next { s₁ with heap := h', toks := tk } := by
  obtain ⟨tn, rv, rfl⟩ := e
  exact ⟨rfl, _, _, _, _, rfl, F, N⟩
theorem numM_step {M : Str → Option Value} {a b : Int} {t1 t2 : Tok} {v : Value} {rv : Option Value} : ∃ tn rv', (fun y => if y = Str.ofString "number" then some (Value.int b t2) else if y = Str.ofString "row" then some v else numM M a t1 rv y) = numM M b tn rv' := by
  refine ⟨t2, some v, funext fun z => ?_⟩
  unfold numM
  split
  · rfl
  · split
    · rfl
    · rename_i h1 h2; simp [h1, h2]
theorem num_loop {ys : List Str} (hL : env.locals = L) (hh : A.handled = none) (F : Fr g L s.heap M) (N : News g L s.heap Led) (hl : (l, listOf vs.toArray nn) ∈ Led) (hM : M (Str.ofString "number") = some (.int 0 t0))
    (turn : ∀ i v tn rv h tk own, vs[i]? = some v → OwnOff own (Led.map (·.1)) → Fr g L h (fun y => if y = Str.ofString "row" then some v else numM M (numUp ys i) tn rv y) → News g L h (Led ++ own) →
      wpAny (model prog w) A (execs body env) (NumTurn g L M (Led ++ own) (numUp ys (i + 1)) { s with heap := h, toks := tk }) E { s with heap := h, toks := tk })
    (done : ∀ tn rv h tk, Fr g L h (numM M (numUp ys vs.length) tn rv) → News g L h Led → Q .next { s with heap := h, toks := tk }) :
    wpAny (model prog w) A (pyIter (.ref l)) (fun it s₂ => LoopAtV prog w A g env (Str.ofString "row") body Q E it s₂) E s := by
  subst hL
  refine kdl_iter (l := l) (vs := vs) (nn := nn) (fun i m nx => nx = Led ∧ ∃ tn rv, m = numM M (numUp ys i) tn rv) hh hl F N ⟨rfl, t0, M (Str.ofString "row"), ?_⟩ ?_ ?_
  · funext y
    show M y = numM M 0 t0 _ y
    unfold numM
    split
    · rename_i e; rw [e, hM]
    · split
      · rename_i e; rw [e]
      · rfl
  · rintro i v m₁ nx h tk own hv hoff _ ⟨rfl, tn, rv, rfl⟩ F1 N1
    refine wpAny_mono (turn i v tn rv h tk own hv hoff F1 N1) (fun f s₂ hn => ?_) fun _ _ e => e
    obtain ⟨rfl, h', tk', tn', rv', rfl, F2, N2⟩ := hn
    exact InvEndG.intro F2 N2 ⟨hl, rfl, tn', rv', rfl⟩ hoff (fun p hp => List.mem_append_left _ hp) fun p hp => List.mem_append_right _ hp
  · rintro m₁ nx h tk ⟨rfl, tn, rv, rfl⟩ F1 N1
    exact done tn rv h tk F1 N1
end
set_option maxHeartbeats 8000000 in
theorem closed_spec {w mean mg mb} (x dx l : Addr) (its : Array Value) (e tk n : Nat) (k : Nat) (hkk : k < 200) (t t2 : Tok) (en : Str) (rs : List (Nat × Str)) (hrs : ∀ r ∈ rs, r.1 < 200) (hsz : rs.length ≤ 50) (hen : IsEnd en.cps.toList) (hvs : ∀ r ∈ rs, Plain r.2.cps.toList ∧ 1 ≤ r.2.length ∧ r.2.length ≤ 1000) :
    ClX 30 100 w mean mg mb 251 (tabL w x dx l its e tk n) [.ref x, .int k t, .str en t2] (fun h => Rows h its.toList rs)
      (fun h h' r => (∃ u, r = .str (dotsS (numOf (((rs.filter fun r => decide (r.1 = k) == true).map (·.2)).map (·.cps.toList)))) u) ∧ ∃ its' e', (∀ T : Value → Nat × Str → Prop, Paired T its.toList rs → Paired T its'.toList (rs.filter fun r => decide (r.1 = k) == false)) ∧ h'.get? l = some (listOf its' e') ∧ Kept h h' [l]) := by
  intro dp un gd cn cs a ccd cl outer A₀ base h₀ L m s Q E B F X N T hkd hR hd hu hret
  have hen2 : en.length ≤ 2 := end_len hen
  have N₀ := N
  refine wpAny_call ?_
  k_dflt (walk_at "enterP")
  have RG := hR.base N₀ (by assumption)
  k_steps
  unfold Held
  k_dflt (refine' get_all_spec x dx l its e _ n k ?kk _ rs ?ks ?kz _ _ _ _ _ _ _ _ _ _ _ _ _ _ _ _ _ ?k1 ?k2 ?k3 ?k4 ?k5 ?kK ?kP ?kd ?ku ?_)
  case k1 => k_asm
  case k2 => k_asm
  case k3 => k_asm
  case k4 => k_asm
  case k5 => k_asm
  case kK => first | exact rfl | assumption
  case kk => assumption
  case kP => exact hR.keepT N₀ (by assumption) (by assumption)
  case ks => assumption
  case kd => first | ktr_room | (show dp + 1 + 10 < _; omega)
  case ku => first | ktr_units | (show un + 8 < _; omega) | (show un + 1 + 8 < _; omega)
  case kz => (rw [sizeLine_eq]; omega)
  intro v h9 tk9 hR9
  obtain ⟨D, ys, rfl, hDn, ⟨nD, hDp⟩, hVals, hKept⟩ := hR9
  have F9 := Fr.kept (by assumption) hKept
  have N9 := fresh_led (by assumption) (by assumption) hKept hDn hDp
  have hDl : D ≠ l := fun q => by subst q; have := (‹News _ _ _ (tabL w x dx D its e _ n)› (D, listOf its e) (by simp [tabL])).1; rw [hDn] at this; cases this
  dsimp only
  k_steps
  unfold Held
  have N7 := ‹News _ _ _ ((D, _) :: tabL w x dx l its e _ n)›
  have F7 := ‹Fr _ _ _ fun y => if y = Str.ofString "rows" then _ else _›
  have R7 := RG.keep F7.keep
  have hDl : D ≠ l := by assumption
  k_dflt (refine' del_spec x dx l its e _ n k ?kk _ rs ?ks ?kz _ _ _ _ _ _ _ _ _ _ _ _ _ _ _ _ _ ?k1 ?k2 ?k3 ?k4 ?k5 ?kK ?kP ?kd ?ku ?_)
  case k1 => k_asm
  case k2 => k_asm
  case k3 => k_asm
  case k4 => exact (fun p hp => N7 p (List.mem_cons_of_mem _ hp) : News _ _ _ (tabL w x dx l its e _ n))
  case k5 => k_asm
  case kK => first | exact rfl | assumption
  case kk => assumption
  case kP => exact R7
  case ks => assumption
  case kd => first | ktr_room | (show dp + 1 + 10 < _; omega)
  case ku => first | ktr_units | (show un + 8 < _; omega) | (show un + 1 + 8 < _; omega)
  case kz => (rw [sizeLine_eq]; omega)
  intro v8 h8 tk8 hR8
  obtain ⟨rfl, its', e', hR', hl', kp⟩ := hR8
  have hl7 := N7 (l, listOf its e) (by simp [tabL])
  have F8 := Fr.chg F7 hl7.2.2 hl7.2.1 kp
  have N8 := News.chg (pre := [_]) N7 (by simp only [List.cons_append, List.nil_append, List.mem_cons, List.not_mem_nil, or_false]; rintro p (rfl | rfl | rfl); exact hDl; exact (tab_lx N₀).symm; exact (tab_ldx N₀).symm) hl' kp
  simp only [List.cons_append, List.nil_append] at N8
  clear F7 N7
  k_steps
  · have hy : ys.toList = [] := list_none (by assumption)
    have kn2 := ‹Knows s.heap _ _›
    have he := closed_end (its' := its') (e' := e') N₀ kn2 (by assumption) (by assumption) (by simp [tabL]) (by simp [tabL]) (by simp [tabL])
    refine hret _ _ _ ⟨?_, its', e', hR', he.2, he.1⟩
    rw [vals_none hVals hy]; exact ⟨_, rfl⟩
  · unfold Held
    have F0 := ‹Fr _ _ _ fun y => if y = Str.ofString "number" then _ else _›
    refine For_invVF F0 rfl rfl ?_
    clear F0
    k_steps
    unfold Held
    obtain ⟨lp, hlp, hlx⟩ := vals_pairs hVals
    have hb := rows_bound (k := k) hvs hsz
    have hN := (‹News _ _ _ ((_, _) :: (D, listOf ys nD) :: _)› (D, listOf ys nD) (.tail _ (.head _))).1
    refine SC.join (D := D) (l := lp) (texts := lp.map (·.1)) ⟨_, hN, rfl, _, by rw [← hlp]⟩ rfl (joinOk_of ?_) fun t' k' => ?_
    · rw [hlx]; exact Nat.le_trans (join_room hb.1 hb.2 hen2) (by omega)
    k_steps
    unfold Held
    have hz : (Txt.join (en ++ en) (lp.map (·.1))).cps.size ≤ 2 ^ 16 := by
      rw [hlx]; exact Nat.le_trans (join_size hb.1 hb.2 hen2) (by omega)
    have hq := fun news => quote_spec (w := w) (mean := mean) (mg := mg) (mb := mb) (news := news) (Txt.join (en ++ en) (lp.map (·.1))) hz t'
    dsimp only [Cl, CbClaim, CbLists, CbRet] at hq
    k_dflt (refine' hq _ _ _ _ _ _ _ _ _ _ _ _ _ _ _ _ _ _ ?k1 ?k2 ?k3 ?k4 ?k5 ?kK trivial ?kd ?ku ?_)
    case k1 => k_asm
    case k2 => k_asm
    case k3 => k_asm
    case k4 => k_asm
    case k5 => k_asm
    case kK => first | exact rfl | assumption
    case kd => first | ktr_room | (show dp + 1 + 1 < _; omega)
    case ku => first | ktr_units | (show un + 8 < _; omega) | (show un + 1 + 8 < _; omega)
    clear hq
    intro tq hq tkq Fq Nq
    k_steps
    unfold Held
    k_dflt (refine' KSpl.split1 ?F ?N ?hy1 (fun L1 lq h1 k1 el1 hs1 F1 N1 lt1 => ?_) ?hz1)
    case hy1 => decide +kernel
    case F => k_asm
    case N => k_asm
    case hz1 => exact quote_room hz
    have hcr : (Str.ofString "\r\n") = crlf := by decide +kernel
    have hxs : ∀ x ∈ (((rs.filter fun r => decide (r.1 = k) == true).map (·.2)).map (·.cps.toList)), Plain x ∧ 1 ≤ x.length ∧ x.length ≤ 1000 := by
      intro z hz
      simp only [List.mem_map, List.mem_filter] at hz
      obtain ⟨y, ⟨r, ⟨hr, _⟩, rfl⟩, rfl⟩ := hz
      have := hvs r hr
      exact ⟨this.1, by simpa [Str.length] using this.2.1, by simpa [Str.length] using this.2.2⟩
    have hne : (((rs.filter fun r => decide (r.1 = k) == true).map (·.2)).map (·.cps.toList)) ≠ [] := fun q => by
      have hys : ys.toList = [] := by
        rw [hlp, List.eq_nil_of_map_eq_nil (hlx.trans (List.map_eq_nil_iff.mp q))]; rfl
      have := ‹ys.toList.isEmpty = false›
      rw [hys] at this; cases this
    have hY : ((evens lq).map (·.1)).map (·.cps.toList) = (((rs.filter fun r => decide (r.1 = k) == true).map (·.2)).map (·.cps.toList)).map sv := by
      rw [← evens_map, el1, hcr]
      refine quoted hen (x := Txt.join (en ++ en) (lp.map (·.1))) ?_ (fun x hx => (hxs x hx).1) hne _ (by simp [quoteS])
      rw [join_list, hlx]
    have hlq : (strValues lq).toArray.size ≤ sizeLine := by
      have h5 := congrArg List.length el1
      have h6 := split_len (quoteS (Txt.join (en ++ en) (lp.map (·.1))))
      have h7 := quote_room hz
      rw [hcr] at h5
      have h8 : (strValues lq).toArray.size = (lq.map (·.1)).length := by simp [strValues]
      omega
    have hyl := same_len hY fun x hx => (hxs x hx).2
    have hsame := num_same hY
    clear hz hb hlx hN hne hxs hlp
    k_steps
    unfold Held
    have hL1 := (N1 (L1, listOf (strValues lq).toArray 0) (.head _)).1
    have hL1' : h1.IsList L1 (strValues lq).toArray := ⟨_, hL1, rfl, _, rfl⟩
    refine tail_any (T := "list") (hL1'.push _).typeIs list_getitem_lookup (wpAny_getItem_list_slice (hL1'.push _) (Heap.IsSliceOf.new ..) .none .none (.int 2 _) (by simp) ?_ hlq) (by with_unfolding_all rfl)
    rw [pick_evens]
    have hL2 : Kept h1 ((h1.push { cls := .type "slice", data := .fields #[.none, .none, .int 2 k1] }).push { cls := .type "list", data := .seq (evens (strValues lq).toArray.toList).toArray }) [] := fun b o e _ => Heap.get?_push_of_some _ (Heap.get?_push_of_some _ e)
    have F2 := Fr.kept F1 hL2
    have N2 := fresh_led F1 N1 hL2 (D := (h1.push { cls := .type "slice", data := .fields #[.none, .none, .int 2 k1] }).objs.size) (o := listOf (evens (strValues lq)).toArray 0) (by
      cases q : h1.get? (h1.push { cls := .type "slice", data := .fields #[.none, .none, .int 2 k1] }).objs.size with
      | none => rfl
      | some o => have h7 := Heap.lt_size q; rw [Heap.size_push] at h7; exact absurd h7 (Nat.not_lt.mpr (Nat.le_succ _))) (Heap.get?_push_size _ rfl)
    have hlen : (evens (strValues lq)).length = ((evens lq).map (·.1)).length := by
      unfold strValues; rw [evens_map]; simp
    dsimp only
    refine' num_loop (ys := (evens lq).map (·.1)) ?hL ?hh ?hF ?hN ?hl ?hM ?_ ?_
    case hL => exact rfl
    case hh => exact rfl
    case hF => exact F2
    case hN => exact N2
    case hl => exact .head _
    case hM => exact rfl
    · intro i v tn rv h tk own hv hoff Ft Nt
      clear N1 N2 F2 F1 hL2 hL1' hL1 hsame hlen hlq
      simp only [List.cons_append, List.nil_append] at Nt
      obtain ⟨y, u, rfl, hy⟩ := evens_at hv
      have hy1 := hyl y (List.mem_of_getElem? hy)
      k_steps
      refine NumTurn.of (by assumption) (by assumption) ?_
      rw [← numUp_step hy hy1.1]
      exact numM_step
    · intro tn rv h tk Fd Nd
      have hnu := numUp_lt (i := ((evens lq).map (·.1)).length) fun y hy => Nat.le_trans (hyl y hy).2 (by decide)
      have hmul : MulOk (Str.ofString ".") (numUp ((evens lq).map (·.1)) (evens (strValues lq)).length + 1) := by
        rw [hlen]
        exact mulOk_of 16 2048 (by decide) (by omega) (by omega) (by decide) (by decide)
      k_steps
      have kn2 := ‹Knows s.heap _ _›
      have he := closed_end (its' := its') (e' := e') N₀ kn2 (by assumption) (by assumption) (by simp [tabL]) (by simp [tabL]) (by simp [tabL])
      refine hret _ _ _ ⟨?_, its', e', hR', he.2, he.1⟩
      rw [hlen, hsame]
      exact ⟨_, rfl⟩
end
section
open PySem PySem.W PyProof.Rows PySem.Spec PySem.Calls
set_option Elab.async false
set_option maxRecDepth 100000
set_option linter.all false
section
variable {prog : Program} {w : World} {A : Around} {E : Value → Shared → Prop} {s : Shared} {env : Env} {h₀ : Heap} {x : Str} {body : List Stmt} {Q : Flow → Shared → Prop}
theorem push_loop {o : Obj} {n : Nat} {P : Nat → Value → Prop} {St : Nat → Heap → Prop} {m₀ : Str → Option Value} {news : List (Addr × Obj)} (J : Nat → (Str → Option Value) → List (Addr × Obj) → Prop)
    (W : Walks prog w A s.heap.objs.size [s.heap.objs.size] [s.heap.objs.size] n P St) (hob : ∀ i h, St i h → ∃ o, h.get? s.heap.objs.size = some o) (hst : St 0 (s.heap.push o)) (F : Fr h₀ env.locals s.heap m₀) (N : News h₀ env.locals s.heap news) (hj : J 0 m₀ news)
    (turn : ∀ i v m₁ nx h tk own, i < n → P i v → OwnOff own (nx.map (·.1)) → J i m₁ nx → Fr h₀ env.locals h (fun y => if y = x then some v else m₁ y) → News h₀ env.locals h (nx ++ own) →
      wpAny (model prog w) A (execs body env) (InvPostG h₀ env.locals (J (i + 1)) own { s with heap := h, toks := tk } Q) E { s with heap := h, toks := tk })
    (done : ∀ m₁ nx h tk, J n m₁ nx → Fr h₀ env.locals h m₁ → News h₀ env.locals h nx → Q .next { s with heap := h, toks := tk }) :
    LoopAtV prog w A h₀ env x body Q E (.ref s.heap.objs.size) { s with heap := s.heap.push o } := by
  refine kdr_loop (s := { s with heap := s.heap.push o }) J W (fun _ h => h) (fun _ h => h) ?_ ?_ ?_ ?_ hst (F.push _) (fun p hp => ⟨Heap.get?_push_of_some _ (N p hp).1, (N p hp).2⟩) hj turn done
  · intro i h hi b hb
    rw [List.mem_singleton.mp hb]
    exact hob i h hi
  · intro hm
    exact absurd F.ns.lt ((List.mem_singleton.mp hm) ▸ Nat.lt_irrefl _)
  · intro b hb
    rw [List.mem_singleton.mp hb]
    exact next_is_new F
  · intro p hp hI
    exact absurd (Heap.lt_size (N p hp).1) ((List.mem_singleton.mp hI) ▸ Nat.lt_irrefl _)
theorem str_loop {xt : Str} {tx : Tok} {m₀ : Str → Option Value} {news : List (Addr × Obj)} (J : Nat → (Str → Option Value) → List (Addr × Obj) → Prop)
    (hh : A.handled = none) (F : Fr h₀ env.locals s.heap m₀) (N : News h₀ env.locals s.heap news) (hj : J 0 m₀ news)
    (turn : ∀ i c u m₁ nx h tk own, xt.cps[i]? = some c → OwnOff own (nx.map (·.1)) → J i m₁ nx → Fr h₀ env.locals h (fun y => if y = x then some (.str ⟨#[c]⟩ u) else m₁ y) → News h₀ env.locals h (nx ++ own) →
      wpAny (model prog w) A (execs body env) (InvPostG h₀ env.locals (J (i + 1)) own { s with heap := h, toks := tk } Q) E { s with heap := h, toks := tk })
    (done : ∀ m₁ nx h tk, J xt.cps.size m₁ nx → Fr h₀ env.locals h m₁ → News h₀ env.locals h nx → Q .next { s with heap := h, toks := tk }) :
    wpAny (model prog w) A (pyIter (.str xt tx)) (fun it s₂ => LoopAtV prog w A h₀ env x body Q E it s₂) E s := by
  cases ha : xt.cps.all (· < 128)
  · refine wpAny_pyIter_wide ha ?_
    refine push_loop J (Walks.strWide hh _ xt tx) (fun i h st => let ⟨o, ho, _⟩ := st; ⟨o, ho⟩) ⟨_, Heap.get?_push_size _ rfl, rfl, rfl⟩ F N hj ?_ done
    rintro i v m₁ nx h tk own hi ⟨c, u, hc, rfl⟩ hoff hJ F₁ N₁
    exact turn i c u m₁ nx h tk own hc hoff hJ F₁ N₁
  · refine wpAny_pyIter_ascii ha ?_
    refine push_loop J (Walks.strAscii hh _ xt tx) (fun i h st => let ⟨o, ho, _⟩ := st; ⟨o, ho⟩) ⟨_, Heap.get?_push_size _ rfl, rfl, rfl⟩ F N hj ?_ done
    rintro i v m₁ nx h tk own hi ⟨c, u, hc, rfl⟩ hoff hJ F₁ N₁
    exact turn i c u m₁ nx h tk own hc hoff hJ F₁ N₁
theorem range_loop {r : Addr} {a₀ b₀ : Int} {t₀ u₀ v₀ : Tok} {n : Nat} {m₀ : Str → Option Value} {news : List (Addr × Obj)} (J : Nat → (Str → Option Value) → List (Addr × Obj) → Prop)
    (hh : A.handled = none) (hr : IsRange s.heap r a₀ b₀ 1 t₀ u₀ v₀) (hsmall : Builtin.Range.small a₀ b₀ 1 = true) (hsz : Builtin.Range.rangeSize a₀ b₀ 1 = (n : Int)) (F : Fr h₀ env.locals s.heap m₀) (N : News h₀ env.locals s.heap news) (hj : J 0 m₀ news)
    (turn : ∀ i t m₁ nx h tk own, i < n → OwnOff own (nx.map (·.1)) → J i m₁ nx → Fr h₀ env.locals h (fun y => if y = x then some (.int (a₀ + (i : Int)) t) else m₁ y) → News h₀ env.locals h (nx ++ own) →
      wpAny (model prog w) A (execs body env) (InvPostG h₀ env.locals (J (i + 1)) own { s with heap := h, toks := tk } Q) E { s with heap := h, toks := tk })
    (done : ∀ m₁ nx h tk, J n m₁ nx → Fr h₀ env.locals h m₁ → News h₀ env.locals h nx → Q .next { s with heap := h, toks := tk }) :
    wpAny (model prog w) A (pyIter (.ref r)) (fun it s₂ => LoopAtV prog w A h₀ env x body Q E it s₂) E s := by
  refine wpAny_pyIter_range hr hsmall ?_
  have W : Walks prog w A s.heap.objs.size [s.heap.objs.size] [s.heap.objs.size] n (fun i v => i < n ∧ ∃ t, v = .int (a₀ + i * 1) t)
      (fun i h => IsRangeIter h s.heap.objs.size (a₀ + (i : Nat) * 1) ((n : Int) - (i : Nat)) 1) := (Walks.range hh _ a₀ 1 n).bound
  refine push_loop J W (fun i h hi => ⟨_, hi⟩) (by show IsRangeIter _ _ _ _ _; rw [hsz]; simpa using Heap.get?_push_size _ rfl) F N hj ?_ done
  rintro i v m₁ nx h tk own hi ⟨_, t, rfl⟩ hoff hJ F₁ N₁
  have e1 : a₀ + (i : Int) * 1 = a₀ + (i : Int) := by omega
  rw [e1] at F₁
  exact turn i t m₁ nx h tk own hi hoff hJ F₁ N₁
end
end
section
open PySem PySem.W PyProof.Rows PySem.Spec PySem.Calls
set_option Elab.async false
set_option maxRecDepth 100000
set_option linter.all false
/-- what EXACT_TOKEN_TYPES says of one sign -/
noncomputable def ett (c : Nat) : Nat := if c = 40 then 7 else if c = 41 then 8 else if c = 91 then 9 else if c = 93 then 10 else if c = 123 then 25 else if c = 125 then 26 else 0
/-- the signs that a text is made of -/
noncomputable def besideL : List Nat := [831, 834, 8205, 8208, 8233, 8239, 8297, 8304]
noncomputable def strewnL : List Nat := [832, 833, 8206, 8207, 8234, 8235, 8236, 8237, 8238, 8298, 8299, 8300, 8301, 8302, 8303]
noncomputable def openL : List Nat := [40, 91, 123]
noncomputable def closeL : List Nat := [41, 93, 125]
noncomputable abbrev St := Nat × List (Nat × Str)
noncomputable def rowsAt (k : Nat) (rs : List (Nat × Str)) : List (List Nat) := ((rs.filter fun r => decide (r.1 = k) == true).map (·.2)).map (·.cps.toList)
noncomputable def rowsOff (k : Nat) (rs : List (Nat × Str)) : List (Nat × Str) := rs.filter fun r => decide (r.1 = k) == false
noncomputable def tstep (st : St) (c : Nat) : St :=
  if c8I c then st
  else if ett c % 2 = 1 then (st.1 + ett c, st.2)
  else if ett c = 0 then (st.1, st.2 ++ [(st.1, ⟨#[c]⟩ ++ Str.ofString ".")])
  else (st.1 + 1 - ett c, rowsOff st.1 st.2 ++ [(st.1 + 1 - ett c, dotsS (numOf (rowsAt st.1 st.2)))])
noncomputable def trun (l : List Nat) (st : St) : St := l.foldl tstep st
noncomputable def RowOk (r : Nat × Str) : Prop := r.1 < 200 ∧ Plain r.2.cps.toList ∧ 1 ≤ r.2.length ∧ r.2.length ≤ 1000
structure Good (st : St) : Prop where
  lvl : st.1 < 150
  few : st.2.length ≤ 45
  rows : ∀ r ∈ st.2, RowOk r
/-- a sign that may come -/
noncomputable def Fits (st : St) (c : Nat) : Prop := c ∈ strewnL ∨ c ∈ besideL ∨ c ∈ openL ∨ (c ∈ closeL ∧ ett c ≤ st.1 + 1)
noncomputable def Safe : List Nat → St → Prop
  | [], st => Good st
  | c :: t, st => Good st ∧ Fits st c ∧ Safe t (tstep st c)
theorem Safe.good : ∀ {l : List Nat} {st : St}, Safe l st → Good st
  | [], _, h => h
  | _ :: _, _, h => h.1
theorem Safe.append : ∀ {a b : List Nat} {st : St}, Safe a st → Safe b (trun a st) → Safe (a ++ b) st
  | [], _, _, _, h => h
  | _ :: _, _, _, h, k => ⟨h.1, h.2.1, Safe.append h.2.2 k⟩
theorem Safe.at : ∀ {l : List Nat} {st : St} (i : Nat), Safe l st → i ≤ l.length → Good (trun (l.take i) st) ∧ ∀ c, l[i]? = some c → Fits (trun (l.take i) st) c
  | [], st, i, h, hi => by
    obtain rfl : i = 0 := by simpa using hi
    exact ⟨h, fun c e => by simp at e⟩
  | a :: l, st, 0, h, _ => ⟨h.1, fun c e => by simp at e; subst e; exact h.2.1⟩
  | a :: l, st, i + 1, h, hi => by
    have ih := Safe.at (l := l) (st := tstep st a) i h.2.2 (by simpa using hi)
    simpa [trun] using ih
theorem trun_step {l : List Nat} {st : St} {i c : Nat} (h : l[i]? = some c) : trun (l.take (i + 1)) st = tstep (trun (l.take i) st) c := by
  have : l.take (i + 1) = l.take i ++ [c] := by simp [List.take_add_one, h]
  unfold trun
  rw [this, List.foldl_append]; rfl
theorem kind_strewn {c : Nat} (h : c ∈ strewnL) : c8I c = true := by
  simp only [strewnL, List.mem_cons, List.not_mem_nil, or_false] at h
  rcases h with rfl | rfl | rfl | rfl | rfl | rfl | rfl | rfl | rfl | rfl | rfl | rfl | rfl | rfl | rfl <;> decide
theorem kind_beside {c : Nat} (h : c ∈ besideL) : c8I c = false ∧ ett c = 0 := by
  simp only [besideL, List.mem_cons, List.not_mem_nil, or_false] at h
  rcases h with rfl | rfl | rfl | rfl | rfl | rfl | rfl | rfl <;> decide
theorem kind_open {c : Nat} (h : c ∈ openL) : c8I c = false ∧ ett c % 2 = 1 ∧ ett c ≤ 25 := by
  simp only [openL, List.mem_cons, List.not_mem_nil, or_false] at h
  rcases h with rfl | rfl | rfl <;> decide
theorem kind_close {c : Nat} (h : c ∈ closeL) : c8I c = false ∧ ett c % 2 = 0 ∧ ett c ≠ 0 := by
  simp only [closeL, List.mem_cons, List.not_mem_nil, or_false] at h
  rcases h with rfl | rfl | rfl <;> decide
/-- the number that a text is told to have -/
noncomputable def toldN (l : List Nat) : Nat := numOf (rowsAt (trun l (0, [])).1 (trun l (0, [])).2)
theorem numOf_lt {xs : List (List Nat)} (h : ∀ x ∈ xs, x.length ≤ 1000) : numOf xs < 2048 := by
  have main : ∀ (xs : List (List Nat)) (a : Nat), a < 2 ^ 11 → (∀ x ∈ xs, x.length ≤ 1000) → xs.foldl (fun n x => n ^^^ ((sv x).length - 1)) a < 2 ^ 11 := by
    intro xs
    induction xs with
    | nil => intro a h _; exact h
    | cons x xs ih =>
      intro a h hx
      refine ih _ (Nat.xor_lt_two_pow h ?_) fun z hz => hx z (.tail _ hz)
      have h1 := hx x (.head _)
      have h2 : (sv x).length ≤ x.length + 1 := by unfold sv; split <;> simp_all
      omega
  exact main xs 0 (by decide) h
theorem rowsAt_lt {st : St} (h : Good st) (k : Nat) : numOf (rowsAt k st.2) < 2048 := by
  refine numOf_lt fun x hx => ?_
  simp only [rowsAt, List.mem_map, List.mem_filter] at hx
  obtain ⟨y, ⟨r, ⟨hr, _⟩, rfl⟩, rfl⟩ := hx
  simpa [Str.length] using (h.rows r hr).2.2.2
theorem foldl_dots : ∀ (n : Nat) (acc : Array Nat), ((List.replicate n #[46]).foldl (· ++ ·) acc).toList = acc.toList ++ List.replicate n 46
  | 0, acc => by simp
  | n + 1, acc => by
    rw [List.replicate_succ, List.foldl_cons, foldl_dots n]
    simp [List.replicate_succ]
theorem dots_list (n : Nat) : (dotsS n).cps.toList = List.replicate (n + 1) 46 := by
  have h1 : (Str.ofString ".").cps = #[46] := by decide +kernel
  have h2 : (Str.ofString ".").length = 1 := by decide +kernel
  unfold dotsS Txt.mul
  rw [if_neg (by omega), h2]
  by_cases h : n = 0
  · subst h; rw [if_pos (by decide), h1]; rfl
  · rw [if_neg (by simp; omega), h1]
    have e : ((n : Int) + 1).toNat = n + 1 := by omega
    show ((List.replicate ((n : Int) + 1).toNat #[46]).foldl (· ++ ·) #[]).toList = _
    rw [e, foldl_dots]; rfl
theorem dots_len (n : Nat) : (dotsS n).length = n + 1 := by
  have := congrArg List.length (dots_list n)
  simpa [Str.length] using this
end
section
open PySem PySem.W PyProof.Rows
open PySem.Spec PySem.Calls
set_option Elab.async false
set_option maxRecDepth 100000
set_option linter.all false
open PySem.Challenge (pw_sh0051_01)
theorem ett_keys (P : Params) : ∃ es n, (K P).lookup 39 = some ⟨.type "dict", none, .dict es n, #[]⟩ ∧ KeysLit P es.toList := by
  refine ⟨_, _, rfl, ?_⟩
  repeat' first
    | exact trivial
    | refine ⟨⟨_, _, rfl, rfl⟩, ?_⟩
theorem ett_look (P : Params) {c : Nat} (hc : c ∈ besideL ∨ c ∈ openL ∨ c ∈ closeL) (t0 : Tok) : ∃ r, nsIn (K P) 39 ⟨#[c]⟩ = some r ∧ ∃ t, r.getD (.int 0 t0) = .int (ett c : Nat) t := by
  simp only [besideL, openL, closeL, List.mem_cons, List.not_mem_nil, or_false] at hc
  rcases hc with (rfl | rfl | rfl | rfl | rfl | rfl | rfl | rfl) | (rfl | rfl | rfl) | (rfl | rfl | rfl) <;> (first | exact ⟨none, by kernel_rfl, t0, rfl⟩ | (refine ⟨?_, ?e, ?_, ?f⟩; (case e => with_unfolding_all rfl); (case f => rfl)))
theorem ett_get {w : World} {A : Around} {E : Value → Shared → Prop} {s : Shared} {h₀ : Heap} {L : Addr} {m : Str → Option Value} {c : Nat} {t t0 : Tok} {Q : Value → Shared → Prop} (hc : c ∈ besideL ∨ c ∈ openL ∨ c ∈ closeL) (F : Fr h₀ L s.heap m) (X : (K w.params).In h₀)
    (h : ∀ u, Q (.int (ett c : Nat) u) { s with toks := s.toks + 1 }) : wpAny (model pw_sh0051_01 w) A (call (.builtin "dict.get") [.ref 39, .str ⟨#[c]⟩ t, .int 0 t0]) Q E s := by
  obtain ⟨es, n, hl, hk⟩ := ett_keys w.params
  obtain ⟨r, hr, u, hu⟩ := ett_look w.params hc t0
  have hm := mapOf_K (prog := pw_sh0051_01) (w := w) (X.keeps F.keep) hl hk
  refine call_meetsIn PySem.F.slot_dict_get hm.typeIs PySem.F.entry_dict_get (PySem.F.args_dict_get_3 _ _ _) (meets_dict_get_default (strKind pw_sh0051_01 w) 39 (strKind_is pw_sh0051_01 w _ _) (by decide) _) ⟨_, hm, ?_⟩
  rw [find_K hl hr, hu]
  exact h u
end
section
open PySem PySem.W PyProof.Rows
open PySem.Spec PySem.Calls
set_option Elab.async false
set_option maxRecDepth 100000
set_option linter.all false
open PySem.Challenge (pw_sh0051_01)
local macro_rules | `(tactic| walk_at $s:str) => if ["call ref", "exec For", "pyIter str", "call builtin:dict.get"].contains s.getString then `(tactic| (k_here; refine held ?_)) else Lean.Macro.throwUnsupported
local macro_rules | `(tactic| walk_at "call builtin:len") => `(tactic| (k_here; (with_reducible show wpAny _ _ (call (Value.builtin "len") [Value.str _ _]) _ _ _); (refine P.len_str (by omega) ?_)))
local macro_rules | `(tactic| walk_at "binaryOp Add str str") => `(tactic| (k_here; (refine PyProof.Rows.add_str (hsz := ?hsz) ?_); (case hsz => (rw [sizeLine_eq]; omega)); intro _ _))
set_option pp.deepTerms false
set_option pp.maxSteps 2000
noncomputable def toldM (M : Str → Option Value) (lv : Nat) (tl : Tok) (sg kd rw : Option Value) : Str → Option Value := fun y => if y = Str.ofString "level" then some (.int (lv : Int) tl) else if y = Str.ofString "sign" then sg else if y = Str.ofString "kind" then kd else if y = Str.ofString "row" then rw else M y
noncomputable def RowAtL (led : List (Addr × Obj)) (v : Value) (r : Nat × Str) : Prop := ∃ a t1 t2 n, v = .ref a ∧ (a, ({ cls := .type "tuple", data := .seq #[.str (nmU r.1) t1, .str r.2 t2] n } : Obj)) ∈ led
theorem RowAtL.rows {h₀ h : Heap} {L : Addr} {led nw : List (Addr × Obj)} {vs : List Value} {rs : List (Nat × Str)} (P : Paired (RowAtL led) vs rs) (N : News h₀ L h nw) (hs : ∀ p ∈ led, p ∈ nw) : Rows h vs rs := by
  induction P with
  | nil => exact .nil
  | cons a _ ih =>
    refine .cons ?_ ih
    obtain ⟨a, t1, t2, n, rfl, hm⟩ := a
    exact ⟨a, t1, t2, n, rfl, (N _ (hs _ hm)).1⟩
theorem RowAtL.mono {led led' : List (Addr × Obj)} {vs : List Value} {rs : List (Nat × Str)} (P : Paired (RowAtL led) vs rs) (hs : ∀ p ∈ led, p ∈ led') : Paired (RowAtL led') vs rs := by
  induction P with
  | nil => exact .nil
  | cons a _ ih =>
    refine .cons ?_ ih
    obtain ⟨a, t1, t2, n, rfl, hm⟩ := a
    exact ⟨a, t1, t2, n, rfl, hs _ hm⟩
section
variable {prog : Program} {w : World} {A : Around} {E : Value → Shared → Prop} {s : Shared} {env : Env} {g : Heap} {L x dx l : Addr} {body : List Stmt} {Q : Flow → Shared → Prop} {M : Str → Option Value} {t0 tk : Tok}
theorem beside_clean {c : Nat} (h : c ∈ besideL) : ∀ d ∈ ((⟨#[c]⟩ : Str) ++ Str.ofString ".").cps, Clean d := by
  have e : ((⟨#[c]⟩ : Str) ++ Str.ofString ".").cps = #[c, 46] := rfl
  rw [e]
  have hc : Clean c := by
    simp only [besideL, List.mem_cons, List.not_mem_nil, or_false] at h
    unfold Clean
    omega
  intro d hd
  simp only [List.mem_toArray, List.mem_cons, List.not_mem_nil, or_false] at hd
  rcases hd with rfl | rfl
  · exact hc
  · unfold Clean; decide
theorem beside_len (c : Nat) : ((⟨#[c]⟩ : Str) ++ Str.ofString ".").length ≤ 1000 := by
  have e : ((⟨#[c]⟩ : Str) ++ Str.ofString ".").length = 2 := rfl
  rw [e]; decide
theorem paired_len {α β : Type} {T : α → β → Prop} {xs : List α} {ys : List β} (h : Paired T xs ys) : xs.length = ys.length := by
  induction h with
  | nil => rfl
  | cons _ _ ih => simp [ih]
structure ToldAt (w : World) (M : Str → Option Value) (x dx l : Addr) (tk : Tok) (st : St) (m : Str → Option Value) (nx : List (Addr × Obj)) : Prop where
  ex : ∃ its e tups tl sg kd rw, nx = tabL w x dx l its e tk 1 ++ tups ∧ (∀ p ∈ tups, p.1 ≠ l) ∧ Paired (RowAtL tups) its.toList st.2 ∧ m = toldM M st.1 tl sg kd rw
structure ToldTurn (w : World) (M : Str → Option Value) (x dx l : Addr) (tk : Tok) (g : Heap) (L : Addr) (own : List (Addr × Obj)) (st : St) (s₁ : Shared) (f : Flow) (s₂ : Shared) : Prop where
  next : f = .next
  rest : ∃ h' tk' its e tups tl sg kd rw, s₂ = { s₁ with heap := h', toks := tk' } ∧ Fr g L h' (toldM M st.1 tl sg kd rw) ∧ News g L h' (tabL w x dx l its e tk 1 ++ (tups ++ own)) ∧ (∀ p ∈ tups, p.1 ≠ l) ∧ OwnOff own ((tabL w x dx l its e tk 1 ++ tups).map (·.1)) ∧ Paired (RowAtL tups) its.toList st.2
theorem told_loop {text : Str} {tx : Tok} (hL : env.locals = L) (hh : A.handled = none) (F : Fr g L s.heap M) (N : News g L s.heap (tabL w x dx l #[] 0 tk 1)) (hM : M (Str.ofString "level") = some (.int 0 t0))
    (turn : ∀ i c u its e tups tl sg kd rw h tk2 own, text.cps.toList[i]? = some c → OwnOff own ((tabL w x dx l its e tk 1 ++ tups).map (·.1)) → (∀ p ∈ tups, p.1 ≠ l) → Paired (RowAtL tups) its.toList (trun (text.cps.toList.take i) (0, [])).2 →
      Fr g L h (fun y => if y = Str.ofString "sign" then some (.str ⟨#[c]⟩ u) else toldM M (trun (text.cps.toList.take i) (0, [])).1 tl sg kd rw y) → News g L h (tabL w x dx l its e tk 1 ++ (tups ++ own)) →
      wpAny (model prog w) A (execs body env) (ToldTurn w M x dx l tk g L own (tstep (trun (text.cps.toList.take i) (0, [])) c) { s with heap := h, toks := tk2 }) E { s with heap := h, toks := tk2 })
    (done : ∀ its e tups tl sg kd rw h tk2, (∀ p ∈ tups, p.1 ≠ l) → Paired (RowAtL tups) its.toList (trun text.cps.toList (0, [])).2 → Fr g L h (toldM M (trun text.cps.toList (0, [])).1 tl sg kd rw) → News g L h (tabL w x dx l its e tk 1 ++ tups) → Q .next { s with heap := h, toks := tk2 }) :
    wpAny (model prog w) A (pyIter (.str text tx)) (fun it s₂ => LoopAtV prog w A g env (Str.ofString "sign") body Q E it s₂) E s := by
  subst hL
  refine str_loop (fun i => ToldAt w M x dx l tk (trun (text.cps.toList.take i) (0, []))) hh F N ⟨#[], 0, [], t0, M (Str.ofString "sign"), M (Str.ofString "kind"), M (Str.ofString "row"), by simp, fun p hp => (nomatch hp), .nil, ?_⟩ ?_ ?_
  · funext y
    unfold toldM
    split
    · rename_i e; rw [e, hM]; rfl
    · split
      · rename_i e; rw [e]
      · split
        · rename_i e; rw [e]
        · split
          · rename_i e; rw [e]
          · rfl
  · rintro i c u m₁ nx h tk2 own hc hoff ⟨its, e, tups, tl, sg, kd, rw', rfl, htl, hP, rfl⟩ F1 N1
    have hcl : text.cps.toList[i]? = some c := by simpa using hc
    have hsp := trun_step (st := (0, [])) hcl
    rw [hsp]
    rw [List.append_assoc] at N1
    refine wpAny_mono (turn i c u its e tups tl sg kd rw' h tk2 own hcl hoff htl hP F1 N1) (fun f s₂ hn => ?_) fun _ _ e => e
    obtain ⟨rfl, h', tk', its', e', tups', tl', sg', kd', rw'', rfl, F2, N2, ht2, ho2, hP2⟩ := hn
    rw [← List.append_assoc] at N2
    exact InvEndG.intro F2 N2 ⟨its', e', tups', tl', sg', kd', rw'', rfl, ht2, hP2, rfl⟩ ho2 (fun p hp => List.mem_append_left _ hp) fun p hp => List.mem_append_right _ hp
  · rintro m₁ nx h tk2 ⟨its, e, tups, tl, sg, kd, rw', rfl, htl, hP, rfl⟩ F1 N1
    have e : text.cps.toList.take text.cps.size = text.cps.toList := by rw [← Array.length_toList, List.take_length]
    rw [e] at hP F1
    exact done its _ tups tl sg kd rw' h tk2 htl hP F1 N1
end
theorem toldM_sign {M : Str → Option Value} {lv : Nat} {tl : Tok} {sg kd rw v : Option Value} : (fun y => if y = Str.ofString "sign" then v else toldM M lv tl sg kd rw y) = toldM M lv tl v kd rw := by
  funext y
  unfold toldM
  by_cases h1 : y = Str.ofString "level"
  · subst h1; rfl
  · by_cases h2 : y = Str.ofString "sign"
    · subst h2; rfl
    · simp [h1, h2]
theorem tab_add {w : World} {g h h' : Heap} {L x dx l a : Addr} {m : Str → Option Value} {its its' : Array Value} {e e' tk : Nat} {oa : Obj} {tups own : List (Addr × Obj)} (F : Fr g L h m) (N : News g L h (tabL w x dx l its e tk 1 ++ (tups ++ own))) (htl : ∀ p ∈ tups, p.1 ≠ l) (hown : OwnOff own ((tabL w x dx l its e tk 1 ++ tups).map (·.1)))
    (hl : h'.get? l = some (listOf its' e')) (hna : h.get? a = none) (ha : h'.get? a = some oa) (k : Kept h h' [l]) :
    Fr g L h' m ∧ News g L h' (tabL w x dx l its' e' tk 1 ++ ((a, oa) :: tups ++ own)) ∧ (∀ p ∈ (a, oa) :: tups, p.1 ≠ l) ∧ OwnOff own ((tabL w x dx l its' e' tk 1 ++ (a, oa) :: tups).map (·.1)) := by
  have hl0 := N (l, listOf its e) (by simp [tabL])
  have NT : News g L h (tabL w x dx l its e tk 1) := fun p hp => N p (List.mem_append_left _ hp)
  have hal : a ≠ l := fun q => by subst q; rw [hl0.1] at hna; cases hna
  have up : ∀ p ∈ tabL w x dx l its e tk 1 ++ (tups ++ own), p.1 ≠ l → h'.get? p.1 = some p.2 ∧ p.1 ≠ L ∧ g.get? p.1 = none := fun p hp hn => ⟨k _ _ (N p hp).1 (by simpa using hn), (N p hp).2⟩
  have aL : a ≠ L := fun q => by
    obtain ⟨oL, _, _, h1, _⟩ := F.ns
    rw [← q, hna] at h1; cases h1
  have ag : g.get? a = none := by
    cases q : g.get? a with
    | none => rfl
    | some o' => have := F.keep _ _ q; rw [hna] at this; cases this
  have ownl : ∀ p ∈ own, p.1 ≠ l := fun p hp q => hown p hp l (by simp [tabL]) q
  refine ⟨Fr.chg F hl0.2.2 hl0.2.1 k, ?_, ?_, ?_⟩
  · intro p hp
    simp only [tabL, List.cons_append, List.nil_append, List.mem_cons, List.mem_append] at hp
    rcases hp with rfl | rfl | rfl | rfl | hp | hp
    · exact ⟨hl, hl0.2⟩
    · exact up _ (by simp [tabL]) (tab_lx NT).symm
    · exact up _ (by simp [tabL]) (tab_ldx NT).symm
    · exact ⟨ha, aL, ag⟩
    · exact up _ (by simp [hp]) (htl _ hp)
    · exact up _ (by simp [hp]) (ownl _ hp)
  · intro p hp
    rcases List.mem_cons.mp hp with rfl | hp
    · exact hal
    · exact htl _ hp
  · intro p hp b hb
    simp only [tabL, List.map_append, List.map_cons, List.map_nil, List.cons_append, List.nil_append, List.mem_cons] at hb
    have old : ∀ b, b ∈ (tabL w x dx l its e tk 1 ++ tups).map (·.1) → p.1 ≠ b := fun b hb => hown p hp b hb
    rcases hb with rfl | rfl | rfl | rfl | hb
    · exact old _ (by simp [tabL])
    · exact old _ (by simp [tabL])
    · exact old _ (by simp [tabL])
    · intro q
      have := (N p (by simp [hp])).1
      rw [q, hna] at this; cases this
    · exact old _ (by simp only [tabL, List.map_append]; exact List.mem_append_right _ hb)
theorem tab_chg {w : World} {g h h' : Heap} {L x dx l : Addr} {m : Str → Option Value} {its its' : Array Value} {e e' tk : Nat} {rest : List (Addr × Obj)} (F : Fr g L h m) (N : News g L h (tabL w x dx l its e tk 1 ++ rest)) (htl : ∀ p ∈ rest, p.1 ≠ l)
    (hl : h'.get? l = some (listOf its' e')) (k : Kept h h' [l]) : Fr g L h' m ∧ News g L h' (tabL w x dx l its' e' tk 1 ++ rest) := by
  have hl0 := N (l, listOf its e) (by simp [tabL])
  have NT : News g L h (tabL w x dx l its e tk 1) := fun p hp => N p (List.mem_append_left _ hp)
  refine ⟨Fr.chg F hl0.2.2 hl0.2.1 k, News.chg (pre := []) (post := (x, instObj 233 dx) :: (dx, dictOf [⟨PyData.keyHash w.params (.ofString "_headers"), .str (.ofString "_headers") tk, .ref l⟩] 1) :: rest) (o := listOf its e) N ?_ hl k⟩
  intro p hp
  simp only [List.nil_append, List.mem_cons] at hp
  rcases hp with rfl | rfl | hp
  · exact (tab_lx NT).symm
  · exact (tab_ldx NT).symm
  · exact htl _ hp
section
variable {M : Str → Option Value} {lv lv' : Nat} {a : Int} {t tl : Tok} {sg kd rw r k : Option Value}
theorem told_m1 : (fun y => if y = Str.ofString "kind" then k else toldM M lv tl sg kd rw y) = toldM M lv tl sg k rw := by
  funext y
  unfold toldM
  by_cases h1 : y = Str.ofString "level"
  · subst h1; rfl
  · by_cases h2 : y = Str.ofString "sign"
    · subst h2; rfl
    · by_cases h3 : y = Str.ofString "kind"
      · subst h3; rfl
      · simp [h1, h2, h3]
theorem told_m2 (e : a = (lv' : Int)) : (fun y => if y = Str.ofString "level" then some (.int a t) else if y = Str.ofString "kind" then k else toldM M lv tl sg kd rw y) = toldM M lv' t sg k rw := by
  subst e
  funext y
  unfold toldM
  by_cases h1 : y = Str.ofString "level"
  · subst h1; rfl
  · by_cases h2 : y = Str.ofString "sign"
    · subst h2; rfl
    · by_cases h3 : y = Str.ofString "kind"
      · subst h3; rfl
      · simp [h1, h2, h3]
theorem told_m3 (e : a = (lv' : Int)) : (fun y => if y = Str.ofString "level" then some (.int a t) else if y = Str.ofString "row" then r else if y = Str.ofString "kind" then k else toldM M lv tl sg kd rw y) = toldM M lv' t sg k r := by
  subst e
  funext y
  unfold toldM
  by_cases h1 : y = Str.ofString "level"
  · subst h1; rfl
  · by_cases h2 : y = Str.ofString "sign"
    · subst h2; rfl
    · by_cases h3 : y = Str.ofString "kind"
      · subst h3; rfl
      · by_cases h4 : y = Str.ofString "row"
        · subst h4; rfl
        · simp [h1, h2, h3, h4]
end
theorem dots_clean (n : Nat) : ∀ c ∈ (dotsS n).cps, Clean c := by
  intro c hc
  have : c ∈ (dotsS n).cps.toList := by simpa using hc
  rw [dots_list] at this
  rw [(List.mem_replicate.mp this).2]
  unfold Clean; decide
theorem told_val {a b : Int} {t : Tok} (e : a = b) : ∃ u, Value.int a t = Value.int b u := ⟨t, by rw [e]⟩
theorem told_same {w : World} {M : Str → Option Value} {x dx l : Addr} {tk : Tok} {g : Heap} {L : Addr} {own tups : List (Addr × Obj)} {st : St} {s₁ : Shared} {h' : Heap} {tk' : Nat} {m : Str → Option Value} {its : Array Value} {e : Nat}
    (F : Fr g L h' m) (N : News g L h' (tabL w x dx l its e tk 1 ++ (tups ++ own))) (ht : ∀ p ∈ tups, p.1 ≠ l) (ho : OwnOff own ((tabL w x dx l its e tk 1 ++ tups).map (·.1))) (hP : Paired (RowAtL tups) its.toList st.2) (hm : ∃ tl sg kd rw, m = toldM M st.1 tl sg kd rw) :
    ToldTurn w M x dx l tk g L own st s₁ .next { s₁ with heap := h', toks := tk' } := by
  obtain ⟨tl, sg, kd, rw', rfl⟩ := hm
  exact ⟨rfl, _, _, _, _, _, _, _, _, _, rfl, F, N, ht, ho, hP⟩
set_option maxHeartbeats 8000000 in
theorem told_spec {w mean mg mb} (text : Str) (t t2 : Tok) (en : Str) (hen : IsEnd en.cps.toList) (hs : Safe text.cps.toList (0, [])) :
    ClX 60 200 w mean mg mb 258 [] [.str text t, .str en t2] (fun h => True)
      (fun h h' r => (∃ u, r = .int (toldN text.cps.toList : Nat) u) ∧ Kept h h' []) := by
  intro dp un gd cn cs a ccd cl outer A₀ base h₀ L m s Q E B F X N T hkd hR hd hu hret
  have N₀ := N
  refine wpAny_call ?_
  k_dflt (walk_at "enterP")
  k_steps
  unfold Held
  k_dflt (refine' new_spec _ _ _ _ _ _ _ _ _ _ _ _ _ _ _ _ _ ?k1 ?k2 ?k3 ?k5 ?kK ?kd ?ku ?_)
  case k1 => k_asm
  case k2 => k_asm
  case k3 => k_asm
  case k5 => k_asm
  case kK => first | exact rfl | assumption
  case kd => first | ktr_room | (show dp + 1 + 10 < _; omega)
  case ku => first | ktr_units | (show un + 8 < _; omega) | (show un + 1 + 8 < _; omega)
  intro x dx l tk h1 tk1 F1 N1
  k_steps
  unfold Held
  have F0 := ‹Fr _ _ _ fun y => if y = Str.ofString "level" then _ else _›
  refine For_invVF F0 rfl rfl ?_
  k_steps
  unfold Held
  have Fi := ‹Fr _ _ _ fun y => if y = Str.ofString "level" then _ else _›
  have Ni := ‹News _ _ _ (tabL w x dx l #[] 0 _ 1)›
  refine' told_loop ?hL ?hh Fi Ni ?hM ?_ ?_
  case hL => exact rfl
  case hh => exact rfl
  case hM => exact rfl
  · intro i c u its e tups tl sg kd rw h tk2 own hcl hoff htl hP Ft Nt
    clear Fi Ni
    have hst := hs.at i (by have := (List.getElem?_eq_some_iff.mp hcl).1; omega)
    have hnext := (hs.at (i + 1) (by have := (List.getElem?_eq_some_iff.mp hcl).1; omega)).1
    rw [trun_step hcl] at hnext
    generalize trun (text.cps.toList.take i) (0, []) = st at hst hP Ft hnext ⊢
    obtain ⟨lv, rs⟩ := st
    obtain ⟨hg, hfit⟩ := hst
    have hfit := hfit c hcl
    have hlv : lv < 150 := hg.lvl
    have hfew : rs.length ≤ 45 := hg.few
    have hits : its.size = rs.length := by rw [← paired_len hP]; simp
    rw [toldM_sign] at Ft
    k_steps
    unfold Held
    have hq := fun news => c8_spec (w := w) (mean := mean) (mg := mg) (mb := mb) (news := news) c u
    dsimp only [Cl, CbClaim, CbLists, CbRet] at hq
    k_dflt (refine' hq _ _ _ _ _ _ _ _ _ _ _ _ _ _ _ _ _ _ ?k1 ?k2 ?k3 ?k4 ?k5 ?kK trivial ?kd ?ku ?_)
    case k1 => k_asm
    case k2 => k_asm
    case k3 => k_asm
    case k4 => k_asm
    case k5 => k_asm
    case kK => first | exact rfl | assumption
    case kd => first | ktr_room | (show dp + 1 + 1 < _; omega)
    case ku => first | ktr_units | (show un + 8 < _; omega) | (show un + 1 + 8 < _; omega)
    clear hq
    intro tq hq tkq Fq Nq
    clear Ft Nt
    rcases hfit with hf | hf | hf | ⟨hf, hfc⟩
    · rw [kind_strewn hf]
      k_steps
      have hts : tstep (lv, rs) c = (lv, rs) := by unfold tstep; rw [kind_strewn hf]; rfl
      rw [hts]
      exact told_same (by assumption) (by assumption) htl hoff hP ⟨_, _, _, _, rfl⟩
    · have hk0 : ((ett c : Nat) : Int) = 0 := by rw [(kind_beside hf).2]; rfl
      rw [(kind_beside hf).1]
      k_steps
      unfold Held
      refine ett_get (.inl hf) (by assumption) (by assumption) fun uk => ?_
      rw [hk0]
      k_steps
      unfold Held
      have hq := fun news => iseof_spec (w := w) (mean := mean) (mg := mg) (mb := mb) (news := news) 0 uk
      dsimp only [Cl, CbClaim, CbLists, CbRet] at hq
      k_dflt (refine' hq _ _ _ _ _ _ _ _ _ _ _ _ _ _ _ _ _ _ ?k1 ?k2 ?k3 ?k4 ?k5 ?kK trivial ?kd ?ku ?_)
      case k1 => k_asm
      case k2 => k_asm
      case k3 => k_asm
      case k4 => k_asm
      case k5 => k_asm
      case kK => first | exact rfl | assumption
      case kd => first | ktr_room | (show dp + 1 + 1 < _; omega)
      case ku => first | ktr_units | (show un + 8 < _; omega) | (show un + 1 + 8 < _; omega)
      clear hq
      intro ti hi tki Fi Ni
      k_steps
      unfold Held
      have Nc := ‹News _ _ _ (tabL w x dx l its e _ 1 ++ (tups ++ own))›
      have Fc := ‹Fr _ _ _ fun y => _›
      k_dflt (refine' add_spec x dx l its e _ 1 lv ?hkk _ _ (⟨#[c]⟩ ++ Str.ofString ".") ?hv ?hvl ?hsz _ _ _ _ _ _ _ _ _ _ _ _ _ _ _ _ _ ?k1 Fc ?k3 ?k4 ?k5 ?kK trivial ?kd ?ku ?_)
      case hkk => omega
      case hv => exact beside_clean hf
      case hvl => exact beside_len c
      case hsz => (rw [sizeLine_eq]; omega)
      case k1 => k_asm
      case k3 => k_asm
      case k4 => exact (fun p hp => Nc p (List.mem_append_left _ hp) : News _ _ _ (tabL w x dx l its e _ 1))
      case k5 => k_asm
      case kK => first | exact rfl | assumption
      case kd => first | ktr_room | (show dp + 1 + 10 < _; omega)
      case ku => first | ktr_units | (show un + 8 < _; omega) | (show un + 1 + 8 < _; omega)
      intro v8 h8 tk8 hR8
      obtain ⟨rfl, ra, e8, t81, t82, n8, hl8, hna8, ha8, kp8⟩ := hR8
      obtain ⟨F8, N8, htl8, ho8⟩ := tab_add Fc Nc htl hoff hl8 hna8 ha8 kp8
      clear Fc Nc
      k_steps
      have hts : tstep (lv, rs) c = (lv, rs ++ [(lv, ⟨#[c]⟩ ++ Str.ofString ".")]) := by
        unfold tstep; rw [(kind_beside hf).1, (kind_beside hf).2]; rfl
      rw [hts]
      refine told_same (by assumption) (by assumption) htl8 ho8 ?_ ⟨_, _, _, _, told_m1⟩
      rw [Array.toList_push]
      exact Paired.snoc (RowAtL.mono hP fun p hp => List.mem_cons_of_mem _ hp) ⟨ra, t81, t82, n8, rfl, .head _⟩
    · have hk1 : ((ett c : Nat) : Int).fmod 2 = 1 := by have := (kind_open hf).2.1; rw [Int.fmod_eq_emod_of_nonneg _ (by decide)]; omega
      rw [(kind_open hf).1]
      k_steps
      unfold Held
      refine ett_get (.inr (.inl hf)) (by assumption) (by assumption) fun uk => ?_
      k_steps
      · have hts : tstep (lv, rs) c = (lv + ett c, rs) := by
          unfold tstep; rw [(kind_open hf).1, if_neg (by simp), if_pos (kind_open hf).2.1]
        rw [hts]
        exact told_same (by assumption) (by assumption) htl hoff hP ⟨_, _, _, _, told_m2 rfl⟩
      · exfalso; omega
    · have hk1 : ((ett c : Nat) : Int).fmod 2 = 0 := by have := (kind_close hf).2.1; rw [Int.fmod_eq_emod_of_nonneg _ (by decide)]; omega
      have hk2 : ¬ ((ett c : Nat) : Int) = 0 := by have := (kind_close hf).2.2; omega
      have hts : tstep (lv, rs) c = (lv + 1 - ett c, rowsOff lv rs ++ [(lv + 1 - ett c, dotsS (numOf (rowsAt lv rs)))]) := by
        unfold tstep; rw [(kind_close hf).1, if_neg (by simp), if_neg (by have := (kind_close hf).2.1; omega), if_neg (kind_close hf).2.2]
      have hrow : RowOk (lv + 1 - ett c, dotsS (numOf (rowsAt lv rs))) := by
        rw [hts] at hnext
        exact hnext.rows _ (by simp)
      have hlz : (lv : Int) - ((ett c : Nat) : Int) + 1 = ((lv + 1 - ett c : Nat) : Int) := by
        have : ett c ≤ lv + 1 := hfc
        omega
      rw [(kind_close hf).1]
      k_steps
      unfold Held
      refine ett_get (.inr (.inr hf)) (by assumption) (by assumption) fun uk => ?_
      k_steps
      · exfalso; omega
      unfold Held
      have hq := fun news => iseof_spec (w := w) (mean := mean) (mg := mg) (mb := mb) (news := news) (ett c : Nat) uk
      dsimp only [Cl, CbClaim, CbLists, CbRet] at hq
      k_dflt (refine' hq _ _ _ _ _ _ _ _ _ _ _ _ _ _ _ _ _ _ ?k1 ?k2 ?k3 ?k4 ?k5 ?kK trivial ?kd ?ku ?_)
      case k1 => k_asm
      case k2 => k_asm
      case k3 => k_asm
      case k4 => k_asm
      case k5 => k_asm
      case kK => first | exact rfl | assumption
      case kd => first | ktr_room | (show dp + 1 + 1 < _; omega)
      case ku => first | ktr_units | (show un + 8 < _; omega) | (show un + 1 + 8 < _; omega)
      clear hq
      intro ti hi tki Fi Ni
      rw [decide_eq_false hk2]
      k_steps
      unfold Held
      have Nc := ‹News _ _ _ (tabL w x dx l its e _ 1 ++ (tups ++ own))›
      have Fc := ‹Fr _ _ _ fun y => _›
      have Rc := RowAtL.rows hP Nc (by intro p hp; simp [hp])
      k_dflt (refine' closed_spec x dx l its e _ 1 lv ?hkk _ _ en rs ?ks ?kz hen ?kv _ _ _ _ _ _ _ _ _ _ _ _ _ _ _ _ _ ?k1 Fc ?k3 ?k4 ?k5 ?kK Rc ?kd ?ku ?_)
      case hkk => omega
      case ks => exact fun r hr => (hg.rows r hr).1
      case kz => exact Nat.le_trans hg.few (by decide)
      case kv => exact fun r hr => (hg.rows r hr).2
      case k1 => k_asm
      case k3 => k_asm
      case k4 => exact (fun p hp => Nc p (List.mem_append_left _ hp) : News _ _ _ (tabL w x dx l its e _ 1))
      case k5 => k_asm
      case kK => first | exact rfl | assumption
      case kd => first | ktr_room | (show dp + 1 + 30 < _; omega)
      case ku => first | ktr_units | (show un + 100 < _; omega) | (show un + 1 + 100 < _; omega)
      intro v7 h7 tk7 hR7
      obtain ⟨⟨u7, rfl⟩, its7, e7, hT7, hl7, kp7⟩ := hR7
      obtain ⟨F7, N7⟩ := tab_chg Fc Nc (by exact fun p hp => (List.mem_append.mp hp).elim (htl p) fun hp q => hoff p hp l (by simp [tabL]) q) hl7 kp7
      have P7 := hT7 _ hP
      clear Fc Nc Rc
      have hits7 : its7.size = (rowsOff lv rs).length := by rw [← Array.length_toList]; exact paired_len P7
      have hoff7 : (rowsOff lv rs).length ≤ rs.length := List.length_filter_le ..
      k_steps
      unfold Held
      rw [hlz]
      have Nc := ‹News _ _ _ (tabL w x dx l its7 e7 _ 1 ++ (tups ++ own))›
      have Fc := ‹Fr _ _ _ fun y => _›
      k_dflt (refine' add_spec x dx l its7 e7 _ 1 (lv + 1 - ett c) ?hkk _ _ (dotsS (numOf (rowsAt lv rs))) ?hv ?hvl ?hsz _ _ _ _ _ _ _ _ _ _ _ _ _ _ _ _ _ ?k1 Fc ?k3 ?k4 ?k5 ?kK trivial ?kd ?ku ?_)
      case hkk => omega
      case hv => exact dots_clean _
      case hvl => exact hrow.2.2.2
      case hsz => (rw [sizeLine_eq]; omega)
      case k1 => k_asm
      case k3 => k_asm
      case k4 => exact (fun p hp => Nc p (List.mem_append_left _ hp) : News _ _ _ (tabL w x dx l its7 e7 _ 1))
      case k5 => k_asm
      case kK => first | exact rfl | assumption
      case kd => first | ktr_room | (show dp + 1 + 10 < _; omega)
      case ku => first | ktr_units | (show un + 8 < _; omega) | (show un + 1 + 8 < _; omega)
      intro v8 h8 tk8 hR8
      obtain ⟨rfl, ra, e8, t81, t82, n8, hl8, hna8, ha8, kp8⟩ := hR8
      obtain ⟨F8, N8, htl8, ho8⟩ := tab_add Fc Nc htl hoff hl8 hna8 ha8 kp8
      clear Fc Nc
      k_steps
      rw [hts]
      refine told_same (by assumption) (by assumption) htl8 ho8 ?_ ⟨_, _, _, _, told_m3 hlz⟩
      rw [Array.toList_push]
      exact Paired.snoc (RowAtL.mono P7 fun p hp => List.mem_cons_of_mem _ hp) ⟨ra, t81, t82, n8, rfl, .head _⟩
  · intro its e tups tl sg kd rw h tk2 htl hP Fd Nd
    clear Fi Ni
    have hst := (hs.at text.cps.toList.length (Nat.le_refl _)).1
    rw [List.take_length] at hst
    have hlv : (trun text.cps.toList (0, [])).1 < 150 := hst.lvl
    k_steps
    unfold Held
    have hits : True := trivial
    have Nc := ‹News _ _ _ (tabL w x dx l its e _ 1 ++ tups)›
    have Fc := ‹Fr _ _ _ (toldM _ _ _ _ _ _)›
    have Rc := RowAtL.rows hP Nc (by intro p hp; simp [hp])
    k_dflt (refine' closed_spec x dx l its e _ 1 _ ?hkk _ _ en _ ?ks ?kz hen ?kv _ _ _ _ _ _ _ _ _ _ _ _ _ _ _ _ _ ?k1 Fc ?k3 ?k4 ?k5 ?kK Rc ?kd ?ku ?_)
    case hkk => omega
    case ks => exact fun r hr => (hst.rows r hr).1
    case kz => exact Nat.le_trans hst.few (by decide)
    case kv => exact fun r hr => (hst.rows r hr).2
    case k1 => k_asm
    case k3 => k_asm
    case k4 => exact (fun p hp => Nc p (List.mem_append_left _ hp) : News _ _ _ (tabL w x dx l its e _ 1))
    case k5 => k_asm
    case kK => first | exact rfl | assumption
    case kd => first | ktr_room | (show dp + 1 + 30 < _; omega)
    case ku => first | ktr_units | (show un + 100 < _; omega) | (show un + 1 + 100 < _; omega)
    intro v7 h7 tk7 hR7
    obtain ⟨⟨u7, rfl⟩, its7, e7, hT7, hl7, kp7⟩ := hR7
    obtain ⟨F7, N7⟩ := tab_chg Fc Nc (by exact htl) hl7 kp7
    have P7 := hT7 _ hP
    clear Fc Nc Rc
    have hnum := rowsAt_lt hst (trun text.cps.toList (0, [])).1
    have hdl := dots_len (numOf (rowsAt (trun text.cps.toList (0, [])).1 (trun text.cps.toList (0, [])).2))
    unfold rowsAt at hnum hdl
    k_steps
    have kn2 := ‹Knows s.heap _ _›
    refine hret _ _ _ ⟨told_val ?_, kept_end kn2 (by assumption)⟩
    have e : toldN text.cps.toList = numOf (rowsAt (trun text.cps.toList (0, [])).1 (trun text.cps.toList (0, [])).2) := rfl
    rw [e]
    unfold rowsAt
    omega
end
section
open PySem PySem.W PyProof.Rows PySem.Spec PySem.Calls
set_option Elab.async false
set_option maxRecDepth 100000
set_option linter.all false
section
variable (ds us : List Int) (gone : Int)
/-- the text of one edge, with what stands on it told by sub -/
noncomputable def edgeT (v : Int) (sub : Int → List Nat) (c : Nat) : List Nat :=
  if us.getD c 0 = v ∧ (c : Int) ≠ gone then
    strewnL.getD ((((ds.getD c 0).fdiv 60).fdiv 48).fmod 15).toNat 0 ::
      (if (((ds.getD c 0).fdiv 60).fdiv 3).fmod 2 ≠ 0 ∧ (us.any (· == (c : Int))) = false then [besideL.getD ((((ds.getD c 0).fdiv 60).fdiv 6).fmod 8).toNat 0]
       else openL.getD (((ds.getD c 0).fdiv 60).fmod 3).toNat 0 :: (sub c ++ [closeL.getD (((ds.getD c 0).fdiv 60).fmod 3).toNat 0]))
  else []
noncomputable def textUp (v : Int) (sub : Int → List Nat) : Nat → List Nat
  | 0 => []
  | i + 1 => textUp v sub i ++ edgeT ds us gone v sub (i + 1)
noncomputable def txt : Nat → Int → List Nat
  | 0, _ => []
  | f + 1, v => textUp ds us gone v (txt f) 5
end
theorem edgeT_len {ds us : List Int} {gone v : Int} {sub : Int → List Nat} {b : Nat} (h : ∀ c, (sub c).length ≤ b) (c : Nat) : (edgeT ds us gone v sub c).length ≤ b + 3 := by
  unfold edgeT
  have := h c
  split
  · split <;> simp <;> omega
  · simp
theorem textUp_len {ds us : List Int} {gone v : Int} {sub : Int → List Nat} {b : Nat} (h : ∀ c, (sub c).length ≤ b) : ∀ i, (textUp ds us gone v sub i).length ≤ i * (b + 3)
  | 0 => by simp [textUp]
  | i + 1 => by
    have h1 := textUp_len h (ds := ds) (us := us) (gone := gone) (v := v) i
    have h2 := edgeT_len h (ds := ds) (us := us) (gone := gone) (v := v) (i + 1)
    rw [textUp, List.length_append, Nat.succ_mul]
    omega
noncomputable def boundT : Nat → Nat
  | 0 => 0
  | f + 1 => 5 * (boundT f + 3)
theorem txt_len {ds us : List Int} {gone : Int} : ∀ (f : Nat) (v : Int), (txt ds us gone f v).length ≤ boundT f
  | 0, v => by simp [txt]
  | f + 1, v => textUp_len (txt_len f) 5
theorem boundT_small {f : Nat} (h : f ≤ 6) : boundT f ≤ 60000 := by
  have : ∀ f : Fin 7, boundT f ≤ 60000 := by decide
  exact this ⟨f, by omega⟩
end
section
open PySem PySem.W PyProof.Rows PySem.Spec PySem.Calls
set_option Elab.async false
set_option maxRecDepth 100000
set_option linter.all false
/-- what is known of the parents: each lies below its edge -/
noncomputable def UpOk (us : List Int) : Prop := us.length = 6 ∧ us.getD 0 0 = -1 ∧ ∀ i, i < 5 → 0 ≤ us.getD (i + 1) 0 ∧ us.getD (i + 1) 0 ≤ (i : Int)
noncomputable def belowTurn (us b : List Int) (k : Nat) : List Int := if us.getD k 0 > 0 then b.set (us.getD k 0).toNat (Builtin.bitOr (b.getD (us.getD k 0).toNat 0) (b.getD k 0)) else b
noncomputable def belowUp (us : List Int) : Nat → List Int
  | 0 => [0, 1, 2, 4, 8, 16]
  | i + 1 => belowTurn us (belowUp us i) (5 - i)
noncomputable def belowL (us : List Int) : List Int := belowUp us 4
theorem below_len (us : List Int) : ∀ i, (belowUp us i).length = 6
  | 0 => rfl
  | i + 1 => by unfold belowUp belowTurn; split <;> simp [below_len us i]
noncomputable def bitV (here v : Int) : Bool := (Builtin.bitAnd (here.fdiv (2 ^ (v - 1).toNat)) 1 != 0)
noncomputable def edgesL (here : Int) : List Int := (rangeKs 1 5).filter (bitV here)
noncomputable def badL (us : List Int) (es : List Int) : List Int := es.filter fun v => decide (us.getD v.toNat 0 > 0) && !(es.any (· == us.getD v.toNat 0))
noncomputable def leastOff (left : List Int) : Int := ((rangeKs 0 6).filter fun n => !(left.any (· == n))).headD 0
noncomputable def atOf (bs : List Int) (here v : Int) : Int := Builtin.bitAnd here (Builtin.bitNot (bs.getD v.toNat 0))
noncomputable def numTurn (us bs nums : List Int) (here : Int) : Int :=
  if badL us (edgesL here) ≠ [] then -1 else leastOff ((edgesL here).map fun v => nums.getD (atOf bs here v).toNat 0)
noncomputable def numbersUp (us bs : List Int) : Nat → List Int
  | 0 => []
  | i + 1 => numbersUp us bs i ++ [numTurn us bs (numbersUp us bs i) (i : Int)]
noncomputable def numbersL (us bs : List Int) : List Int := numbersUp us bs 32
theorem numbers_len (us bs : List Int) : ∀ i, (numbersUp us bs i).length = i
  | 0 => rfl
  | i + 1 => by simp [numbersUp, numbers_len us bs i]
theorem all_in : ∀ (n : Nat) (left : List Int), (∀ k, k < n → ((k : Nat) : Int) ∈ left) → n ≤ left.length
  | 0, _, _ => Nat.zero_le _
  | n + 1, left, h => by
    have h1 := all_in n (left.erase (n : Int)) fun k hk => (List.mem_erase_of_ne (by omega)).mpr (h k (by omega))
    have h2 := List.length_erase_of_mem (h n (by omega))
    have h3 : 0 < left.length := List.length_pos_of_mem (h n (by omega))
    omega
theorem least_ne {left : List Int} (h : left.length ≤ 5) : ((rangeKs 0 6).filter fun n => !(left.any (· == n))) ≠ [] := fun e => by
  have h1 : ∀ k, k < 6 → ((k : Nat) : Int) ∈ left := fun k hk => by
    have hm : ((k : Nat) : Int) ∈ rangeKs 0 6 := List.mem_map.mpr ⟨k, List.mem_range.mpr hk, by omega⟩
    have h2 := List.filter_eq_nil_iff.mp e _ hm
    simp only [Bool.not_eq_true, Bool.not_eq_false', List.any_eq_true, beq_iff_eq] at h2
    obtain ⟨x, hx, rfl⟩ := h2
    exact hx
  have := all_in 6 left h1
  omega
theorem least_is {left : List Int} {M : Int} (h1 : M ∈ ((rangeKs 0 6).filter fun n => !(left.any (· == n)))) (h2 : ∀ a ∈ ((rangeKs 0 6).filter fun n => !(left.any (· == n))), M ≤ a) : M = leastOff left := by
  have hp : ((rangeKs 0 6).filter fun n => !(left.any (· == n))).Pairwise (· < ·) := List.Pairwise.filter _ (by decide)
  unfold leastOff
  cases q : ((rangeKs 0 6).filter fun n => !(left.any (· == n))) with
  | nil => rw [q] at h1; cases h1
  | cons x t =>
    rw [q] at h1 h2 hp
    show M = x
    rcases List.mem_cons.mp h1 with e | hm
    · exact e
    · have := List.rel_of_pairwise_cons hp hm
      have := h2 x (.head _)
      omega
theorem edges_five (here : Int) : (edgesL here).length ≤ 5 := Nat.le_trans (List.length_filter_le ..) (by rw [rangeKs_length]; decide)
/-- what is asked of the sets: to take one away leads to an earlier position -/
noncomputable def BelowOk (bs : List Int) : Prop := bs.length = 6 ∧ ∀ i, i < 32 → ∀ v ∈ edgesL ((i : Nat) : Int), 0 ≤ atOf bs (i : Int) v ∧ atOf bs (i : Int) v < (i : Int)
/-- where the number of the whole without an edge and what stands on it lies -/
noncomputable def dueAt (us : List Int) (g : Int) : Int := Builtin.bitAnd 31 (Builtin.bitNot ((belowL us).getD g.toNat 0))
noncomputable def dueN (us : List Int) (g : Int) : Int := (numbersL us (belowL us)).getD (dueAt us g).toNat 0
end
section
open PySem PySem.W PyProof.Rows
open PySem.Spec PySem.Calls
set_option Elab.async false
set_option maxRecDepth 100000
set_option linter.all false
open PySem.Challenge (pw_sh0051_01)
local macro_rules | `(tactic| walk_at $s:str) => if ["call ref", "exec For", "pyIter ref", "subscriptTail", "subscriptTail Name BinOp ref int", "subscriptTail Constant BinOp str int", "binaryOp Add str str", "call builtin:chr", "compareOp NotIn int ref"].contains s.getString then `(tactic| (k_here; refine held ?_)) else Lean.Macro.throwUnsupported
set_option pp.deepTerms false
set_option pp.maxSteps 2000
noncomputable def IntsAt (h : Heap) (a : Addr) (ns : List Int) : Prop := ∃ vs, h.IsList a vs.toArray ∧ IntsAre vs ns
theorem IntsAt.keep {h h' : Heap} {a : Addr} {ns : List Int} (H : IntsAt h a ns) (k : ∀ b o, h.get? b = some o → h'.get? b = some o) : IntsAt h' a ns := by
  obtain ⟨vs, h1, h2⟩ := H
  exact ⟨vs, h1.at fun o e => k _ _ e, h2⟩
theorem IntsAt.know {h g h' : Heap} {a L' : Addr} {m' : Str → Option Value} {ns : List Int} (H : IntsAt h a ns) (kn : Knows h [] g) (F : Fr g L' h' m') : IntsAt h' a ns := H.keep fun b o e => F.keep _ _ (kn b o e (by simp))
section
variable {prog : Program} {w : World} {A : Around} {E : Value → Shared → Prop} {s : Shared} {env : Env} {g : Heap} {L : Addr} {body : List Stmt} {Q : Flow → Shared → Prop} {M : Str → Option Value} {t0 : Tok} {Led : List (Addr × Obj)}
theorem sub_intsZ {l : Addr} {ns : List Int} {k : Int} {u : Tok} {value slice : PySem.Expr} {Q : Value → Shared → Prop} (H : IntsAt s.heap l ns) (h0 : 0 ≤ k) (hk : k < (ns.length : Int)) (hk2 : ns.length ≤ 1000) (h : ∀ t, Q (.int (ns.getD k.toNat 0) t) s)
    (hs : subscripted slice false (.ref l) (.int k u) = operate [.ref l, .int k u] (getItem (.ref l) (.int k u)) := by with_unfolding_all rfl) : wpAny (model prog w) A (subscriptTail value slice (.ref l) (.int k u)) Q E s := by
  obtain ⟨vs, hl, hi⟩ := H
  have hkn : k.toNat < ns.length := by omega
  obtain ⟨t, ht⟩ := hi.get k.toNat ns[k.toNat] (by simp [hkn])
  have e : ns.getD k.toNat 0 = ns[k.toNat] := by simp [hkn]
  refine tail_any hl.typeIs slot_list_getitem.lookup ?_ hs
  exact wpAny_getItem_list hl h0 (by omega) (by simpa using ht) (e ▸ h t)
theorem sub_ints {l : Addr} {ns : List Int} {k : Nat} {u : Tok} {value slice : PySem.Expr} {Q : Value → Shared → Prop} (H : IntsAt s.heap l ns) (hk : k < ns.length) (hk2 : ns.length ≤ 1000) (h : ∀ t, Q (.int (ns.getD k 0) t) s)
    (hs : subscripted slice false (.ref l) (.int (k : Int) u) = operate [.ref l, .int (k : Int) u] (getItem (.ref l) (.int (k : Int) u)) := by with_unfolding_all rfl) : wpAny (model prog w) A (subscriptTail value slice (.ref l) (.int (k : Int) u)) Q E s :=
  sub_intsZ H (by omega) (by omega) hk2 (fun t => by rw [Int.toNat_natCast]; exact h t) hs
theorem sub_str {x : Str} {c : Nat} {k : Int} {t u : Tok} {value slice : PySem.Expr} {Q : Value → Shared → Prop} (h0 : 0 ≤ k) (hk : k < 1000) (hc : (seqIndex? k x.length).bind (x.cps[·]?) = some c) (h : ∀ t', Q (.str ⟨#[c]⟩ t') { s with toks := s.toks + 1 })
    (hs : subscripted slice false (.str x t) (.int k u) = operate [.str x t, .int k u] (getItem (.str x t) (.int k u)) := by with_unfolding_all rfl) : wpAny (model prog w) A (subscriptTail value slice (.str x t) (.int k u)) Q E s := by
  refine tail_any (typeIs_str s x t) PySem.F.slot_str_getitem.lookup ?_ hs
  refine P.getItem_str ?_ hc (h _)
  have a1 : ¬ k < -(2 ^ 63 : Int) := by omega
  have a2 : ¬ k ≥ 2 ^ 63 := by omega
  rw [decide_eq_false a1, decide_eq_false a2]; rfl
theorem three {k : Int} (h0 : 0 ≤ k) (h1 : k < 3) : k = 0 ∨ k = 1 ∨ k = 2 := by omega
theorem open_at {k : Int} (h0 : 0 ≤ k) (h1 : k < 3) : (seqIndex? k (Str.ofString "([{").length).bind ((Str.ofString "([{").cps[·]?) = some (openL.getD k.toNat 0) := by
  rcases three h0 h1 with rfl | rfl | rfl <;> decide +kernel
theorem close_at {k : Int} (h0 : 0 ≤ k) (h1 : k < 3) : (seqIndex? k (Str.ofString ")]}").length).bind ((Str.ofString ")]}").cps[·]?) = some (closeL.getD k.toNat 0) := by
  rcases three h0 h1 with rfl | rfl | rfl <;> decide +kernel
theorem fmod_in (a : Int) {b : Int} (h : 0 < b) : 0 ≤ a.fmod b ∧ a.fmod b < b := by
  rw [Int.fmod_eq_emod_of_nonneg _ (by omega)]
  exact ⟨Int.emod_nonneg _ (by omega), Int.emod_lt_of_pos _ h⟩
noncomputable def strewnI : List Int := [832, 833, 8206, 8207, 8234, 8235, 8236, 8237, 8238, 8298, 8299, 8300, 8301, 8302, 8303]
noncomputable def besideI : List Int := [831, 834, 8205, 8208, 8233, 8239, 8297, 8304]
theorem strewn_in (k : Nat) : (strewnI.getD k 0).toNat = strewnL.getD k 0 ∧ 0 ≤ strewnI.getD k 0 ∧ strewnI.getD k 0 ≤ 1114111 := by
  by_cases h : k < 15
  · have : ∀ k : Fin 15, (strewnI.getD k 0).toNat = strewnL.getD k 0 ∧ 0 ≤ strewnI.getD k 0 ∧ strewnI.getD k 0 ≤ 1114111 := by decide
    exact this ⟨k, h⟩
  · have h1 : strewnI.length ≤ k := by simp [strewnI]; omega
    have h2 : strewnL.length ≤ k := h1
    simp [List.getD, List.getElem?_eq_none h1, List.getElem?_eq_none h2]
theorem beside_in (k : Nat) : (besideI.getD k 0).toNat = besideL.getD k 0 ∧ 0 ≤ besideI.getD k 0 ∧ besideI.getD k 0 ≤ 1114111 := by
  by_cases h : k < 8
  · have : ∀ k : Fin 8, (besideI.getD k 0).toNat = besideL.getD k 0 ∧ 0 ≤ besideI.getD k 0 ∧ besideI.getD k 0 ≤ 1114111 := by decide
    exact this ⟨k, h⟩
  · have h1 : besideI.length ≤ k := by simp [besideI]; omega
    have h2 : besideL.length ≤ k := h1
    simp [List.getD, List.getElem?_eq_none h1, List.getElem?_eq_none h2]
noncomputable def textM (M : Str → Option Value) (x : Str) (tx : Tok) (ch mo : Option Value) : Str → Option Value := fun y => if y = Str.ofString "text" then some (.str x tx) else if y = Str.ofString "child" then ch else if y = Str.ofString "more" then mo else M y
structure TextTurn (M : Str → Option Value) (g : Heap) (L : Addr) (Led : List (Addr × Obj)) (x : List Nat) (s₁ : Shared) (f : Flow) (s₂ : Shared) : Prop where
  next : f = .next
  rest : ∃ h' tk' tx, ∃ (ch mo : Option Value), s₂ = { s₁ with heap := h', toks := tk' } ∧ Fr g L h' (textM M ⟨x.toArray⟩ tx ch mo) ∧ News g L h' Led
theorem text_loop {r : Addr} {t1 t2 t3 : Tok} (X : Nat → List Nat) (hL : env.locals = L) (hh : A.handled = none) (hr : IsRange s.heap r 1 6 1 t1 t2 t3) (F : Fr g L s.heap M) (N : News g L s.heap Led) (hM : M (Str.ofString "text") = some (.str (Str.ofString "") t0)) (hX : X 0 = [])
    (turn : ∀ i u tx (mo : Option Value) h tk2 own, i < 5 → OwnOff own (Led.map (·.1)) → Fr g L h (textM M ⟨(X i).toArray⟩ tx (some (.int ((i + 1 : Nat) : Int) u)) mo) → News g L h (Led ++ own) →
      wpAny (model prog w) A (execs body env) (TextTurn M g L (Led ++ own) (X (i + 1)) { s with heap := h, toks := tk2 }) E { s with heap := h, toks := tk2 })
    (done : ∀ tx (ch mo : Option Value) h tk2, Fr g L h (textM M ⟨(X 5).toArray⟩ tx ch mo) → News g L h Led → Q .next { s with heap := h, toks := tk2 }) :
    wpAny (model prog w) A (pyIter (.ref r)) (fun it s₂ => LoopAtV prog w A g env (Str.ofString "child") body Q E it s₂) E s := by
  subst hL
  refine range_loop (fun i m nx => nx = Led ∧ ∃ (tx : Tok) (ch mo : Option Value), m = textM M ⟨(X i).toArray⟩ tx ch mo) hh hr (by decide) (n := 5) (by decide) F N ⟨rfl, t0, M (Str.ofString "child"), M (Str.ofString "more"), ?_⟩ ?_ ?_
  · funext y
    unfold textM
    rw [hX]
    split
    · rename_i e; rw [e, hM]; rfl
    · split
      · rename_i e; rw [e]
      · split
        · rename_i e; rw [e]
        · rfl
  · rintro i u m₁ nx h tk2 own hi hoff ⟨rfl, tx, ch, mo, rfl⟩ F1 N1
    have e1 : (1 : Int) + (i : Int) = ((i + 1 : Nat) : Int) := by omega
    have F2 : Fr g env.locals h (textM M ⟨(X i).toArray⟩ tx (some (.int ((i + 1 : Nat) : Int) u)) mo) := by
      have e2 : (fun y => if y = Str.ofString "child" then some (Value.int (1 + (i : Int)) u) else textM M ⟨(X i).toArray⟩ tx ch mo y) = textM M ⟨(X i).toArray⟩ tx (some (.int ((i + 1 : Nat) : Int) u)) mo := by
        rw [e1]
        funext y
        unfold textM
        by_cases h1 : y = Str.ofString "text"
        · subst h1; rfl
        · by_cases h2 : y = Str.ofString "child"
          · subst h2; rfl
          · simp [h1, h2]
      exact e2 ▸ F1
    refine wpAny_mono (turn i u tx mo h tk2 own hi hoff F2 N1) (fun f s₂ hn => ?_) fun _ _ e => e
    obtain ⟨rfl, h', tk', tx', ch', mo', rfl, F3, N3⟩ := hn
    exact InvEndG.intro F3 N3 ⟨rfl, tx', ch', mo', rfl⟩ hoff (fun p hp => List.mem_append_left _ hp) fun p hp => List.mem_append_right _ hp
  · rintro m₁ nx h tk2 ⟨rfl, tx, ch, mo, rfl⟩ F1 N1
    exact done tx ch mo h tk2 F1 N1
end
theorem ints_led {h₀ h : Heap} {L a : Addr} {led : List (Addr × Obj)} {items : Array Value} {n : Nat} {ns : List Int} (N : News h₀ L h led) (hm : (a, listOf items n) ∈ led) (hi : IntsAre items.toList ns) : IntsAt h a ns := ⟨items.toList, ⟨_, (N _ hm).1, rfl, n, rfl⟩, hi⟩
theorem cat_list (a : List Nat) (c : Nat) : ((⟨a.toArray⟩ : Str) ++ (⟨#[c]⟩ : Str)) = ⟨(a ++ [c]).toArray⟩ := by
  show Str.mk (a.toArray ++ #[c]) = _
  simp
theorem cat_lists (a b : List Nat) : ((⟨a.toArray⟩ : Str) ++ (⟨b.toArray⟩ : Str)) = ⟨(a ++ b).toArray⟩ := by
  show Str.mk (a.toArray ++ b.toArray) = _
  simp
theorem list_len (a : List Nat) : (⟨a.toArray⟩ : Str).length = a.length := by simp [Str.length]
theorem text_same {M : Str → Option Value} {g : Heap} {L : Addr} {Led : List (Addr × Obj)} {x : List Nat} {s₁ : Shared} {h' : Heap} {tk' : Nat} {m : Str → Option Value} (F : Fr g L h' m) (N : News g L h' Led) (hm : ∃ tx ch mo, m = textM M ⟨x.toArray⟩ tx ch mo) : TextTurn M g L Led x s₁ .next { s₁ with heap := h', toks := tk' } := by
  obtain ⟨tx, ch, mo, rfl⟩ := hm
  exact ⟨rfl, _, _, _, _, _, rfl, F, N⟩
theorem edge_no {ds us : List Int} {gone v : Int} {sub : Int → List Nat} {c : Nat} (h : ¬ (us.getD c 0 = v ∧ (c : Int) ≠ gone)) : edgeT ds us gone v sub c = [] := if_neg h
theorem text_m {M : Str → Option Value} {x x' : Str} {tx t : Tok} {ch mo mo' : Option Value} : (fun y => if y = Str.ofString "text" then some (.str x' t) else if y = Str.ofString "more" then mo' else textM M x tx ch mo y) = textM M x' t ch mo' := by
  funext y
  unfold textM
  by_cases h1 : y = Str.ofString "text"
  · subst h1; rfl
  · by_cases h2 : y = Str.ofString "child"
    · subst h2; rfl
    · by_cases h3 : y = Str.ofString "more"
      · subst h3; rfl
      · simp [h1, h2, h3]
theorem text_end {M : Str → Option Value} {g : Heap} {L : Addr} {Led : List (Addr × Obj)} {x y : List Nat} {s₁ : Shared} {h' : Heap} {tk' : Nat} {x0 : Str} {tx t : Tok} {q ch mo mo' : Option Value} (e : y = x) (F : Fr g L h' (fun z => if z = Str.ofString "text" then some (.str ⟨y.toArray⟩ t) else if z = Str.ofString "text" then q else if z = Str.ofString "more" then mo' else textM M x0 tx ch mo z)) (N : News g L h' Led) : TextTurn M g L Led x s₁ .next { s₁ with heap := h', toks := tk' } := by
  subst e
  have e2 : (fun z => if z = Str.ofString "text" then some (Value.str ⟨y.toArray⟩ t) else if z = Str.ofString "text" then q else if z = Str.ofString "more" then mo' else textM M x0 tx ch mo z) = (fun z => if z = Str.ofString "text" then some (Value.str ⟨y.toArray⟩ t) else if z = Str.ofString "more" then mo' else textM M x0 tx ch mo z) := by
    funext z
    by_cases h : z = Str.ofString "text" <;> simp [h]
  exact text_same (e2 ▸ F) N ⟨_, _, _, text_m⟩
section
variable {ds us : List Int} {gone v : Int} {sub : Int → List Nat} {c : Nat}
theorem edge_leaf (h : us.getD c 0 = v ∧ (c : Int) ≠ gone) (h2 : (((ds.getD c 0).fdiv 60).fdiv 3).fmod 2 ≠ 0 ∧ (us.any (· == (c : Int))) = false) : edgeT ds us gone v sub c = [strewnL.getD ((((ds.getD c 0).fdiv 60).fdiv 48).fmod 15).toNat 0, besideL.getD ((((ds.getD c 0).fdiv 60).fdiv 6).fmod 8).toNat 0] := by
  unfold edgeT; rw [if_pos h, if_pos h2]
theorem edge_pair (h : us.getD c 0 = v ∧ (c : Int) ≠ gone) (h2 : ¬ ((((ds.getD c 0).fdiv 60).fdiv 3).fmod 2 ≠ 0 ∧ (us.any (· == (c : Int))) = false)) : edgeT ds us gone v sub c = strewnL.getD ((((ds.getD c 0).fdiv 60).fdiv 48).fmod 15).toNat 0 :: openL.getD (((ds.getD c 0).fdiv 60).fmod 3).toNat 0 :: (sub c ++ [closeL.getD (((ds.getD c 0).fdiv 60).fmod 3).toNat 0]) := by
  unfold edgeT; rw [if_pos h, if_neg h2]
end
noncomputable abbrev TextT (w : World) (mean : ExcName → Option Value) (mg mb : Str → Option Value) (D U : Addr) (ds us : List Int) (gone : Int) (f : Nat) : Prop := ∀ (v : Int) (t t2 : Tok), 0 ≤ v → 5 ≤ v + (f : Int) →
    ClX (20 * (f + 1)) (50 * (f + 1)) w mean mg mb 244 [] [.ref D, .ref U, .int gone t, .int v t2] (fun h => IntsAt h D ds ∧ IntsAt h U us)
      (fun h h' r => (∃ u, r = .str ⟨(txt ds us gone (f + 1) v).toArray⟩ u) ∧ Kept h h' [])
set_option maxHeartbeats 8000000 in
theorem text_step {w mean mg mb} (D U : Addr) (ds us : List Int) (hds : ds.length = 6) (hus : UpOk us) (gone : Int) (f : Nat) (hf : f ≤ 5) (IH : ∀ f', f = f' + 1 → TextT w mean mg mb D U ds us gone f') : TextT w mean mg mb D U ds us gone f := by
  intro v t t2 hv0 hvf dp un gd cn cs a ccd cl outer A₀ base h₀ L m s Q E B F X N T hkd hR hd hu hret
  have N₀ := N
  obtain ⟨HD, HU⟩ := hR
  refine wpAny_call ?_
  k_dflt (walk_at "enterP")
  k_steps
  unfold Held
  have Fi := ‹Fr _ _ _ fun y => if y = Str.ofString "text" then _ else _›
  have Ni := ‹News _ _ _ [(_, listOf _ _), (_, listOf _ _)]›
  have Ri := ‹IsRange _ _ _ _ _ _ _ _›
  have kn := ‹Knows s.heap _ _›
  refine' text_loop (textUp ds us gone v (txt ds us gone f)) ?hL ?hh Ri Fi Ni ?hM ?hX ?_ ?_
  case hL => exact rfl
  case hh => exact rfl
  case hM => exact rfl
  case hX => exact rfl
  · intro i u tx mo h tk2 own hi hoff Ft Nt
    clear Fi Ni Ri
    have hup : textUp ds us gone v (txt ds us gone f) (i + 1) = textUp ds us gone v (txt ds us gone f) i ++ edgeT ds us gone v (txt ds us gone f) (i + 1) := rfl
    rw [hup]
    k_steps
    unfold Held
    refine sub_ints (HU.know kn (by assumption)) (by rw [hus.1]; omega) (by rw [hus.1]; decide) fun tu => ?_
    k_steps
    · unfold Held
      refine sub_ints (HD.know kn (by assumption)) (by rw [hds]; omega) (by rw [hds]; decide) fun td => ?_
      have hm := strewn_in (((((ds.getD (i + 1) 0).fdiv 60).fdiv 48).fmod 15).toNat)
      have hb := beside_in (((((ds.getD (i + 1) 0).fdiv 60).fdiv 6).fmod 8).toNat)
      have r15 := fmod_in (((ds.getD (i + 1) 0).fdiv 60).fdiv 48) (b := 15) (by decide)
      have r8 := fmod_in (((ds.getD (i + 1) 0).fdiv 60).fdiv 6) (b := 8) (by decide)
      have r3 := fmod_in ((ds.getD (i + 1) 0).fdiv 60) (b := 3) (by decide)
      have hlu : (textUp ds us gone v (txt ds us gone f) i).length ≤ 300100 := by
        have h1 := textUp_len (ds := ds) (us := us) (gone := gone) (v := v) (txt_len (ds := ds) (us := us) (gone := gone) f) i
        have h2 := boundT_small (f := f) (by omega)
        have h3 : i * (boundT f + 3) ≤ 5 * 60003 := Nat.mul_le_mul (by omega) (by omega)
        omega
      have hlt : (txt ds us gone f ((i + 1 : Nat) : Int)).length ≤ 60000 := Nat.le_trans (txt_len _ _) (boundT_small (by omega))
      k_steps
      unfold Held
      refine sub_intsZ (ns := strewnI) (ints_led (by assumption) (.tail _ (.head _)) (by repeat constructor)) r15.1 r15.2 (by decide) fun ts => ?_
      k_steps
      unfold Held
      refine chr_of_range hm.2.1 hm.2.2 ?_
      rw [hm.1]
      k_steps
      unfold Held
      refine PyProof.Rows.add_str (fun t1 k1 => ?_) (by rw [list_len, sizeLine_eq]; show _ + 1 ≤ _; omega)
      rw [cat_list]
      cases f with
      | zero => exfalso; have := hus.2.2 i hi; omega
      | succ f' => ?_
      have hvi := hus.2.2 i hi
      k_steps
      · unfold Held
        obtain ⟨vu, hU1, hU2⟩ := HU.know kn (by assumption)
        refine notin_list_ints hU1 hU2 ?_
        k_steps
        · have ha : (us.any (· == ((i + 1 : Nat) : Int))) = true := by assumption
          unfold Held
          refine sub_str r3.1 (by omega) (open_at r3.1 r3.2) fun t5 => ?_
          k_steps
          unfold Held
          refine PyProof.Rows.add_str (fun t1 k1 => ?_) (by rw [list_len, sizeLine_eq, List.length_append]; show _ + 1 + 1 ≤ _; omega)
          rw [cat_list]
          k_steps
          unfold Held
          have Nc := ‹News _ _ _ (_ ++ own)›
          have Fc := ‹Fr _ _ _ fun y => _›
          k_dflt (refine' IH f' rfl ((i + 1 : Nat) : Int) _ _ ?h0 ?h5 _ _ _ _ _ _ _ _ _ _ _ _ _ _ _ _ _ ?k1 Fc ?k3 (fun p hp => nomatch hp) ?k5 ?kK ⟨HD.know kn Fc, HU.know kn Fc⟩ ?kd ?ku ?_)
          case h0 => omega
          case h5 => omega
          case k1 => k_asm
          case k3 => k_asm
          case k5 => k_asm
          case kK => first | exact rfl | assumption
          case kd => (show dp + 1 + 20 * (f' + 1) < _; omega)
          case ku => first | ktr_units | (show un + 8 + 50 * (f' + 1) < _; omega) | (show un + 1 + 50 * (f' + 1) < _; omega)
          intro v7 h7 tk7 hR7
          obtain ⟨⟨u7, rfl⟩, kp7⟩ := hR7
          have F7 := Fr.kept Fc kp7
          have N7 := News.up Nc (fun b o e => kp7 b o e (by simp))
          clear Fc Nc
          k_steps
          unfold Held
          refine PyProof.Rows.add_str (fun t1 k1 => ?_) (by rw [list_len, list_len, sizeLine_eq, List.length_append, List.length_append]; show _ + 1 + 1 + _ ≤ _; omega)
          rw [cat_lists]
          k_steps
          unfold Held
          refine sub_str r3.1 (by omega) (close_at r3.1 r3.2) fun t6 => ?_
          k_steps
          unfold Held
          refine PyProof.Rows.add_str (fun t1 k1 => ?_) (by rw [list_len, sizeLine_eq, List.length_append, List.length_append, List.length_append]; show _ + 1 + 1 + _ + 1 ≤ _; omega)
          rw [cat_list]
          k_steps
          rw [edge_pair ⟨by assumption, by assumption⟩ (fun q => by have h9 := q.2; rw [ha] at h9; cases h9)]
          refine' text_end ?e ?F ?N
          case F => assumption
          case N => assumption
          case e => simp
        · unfold Held
          refine sub_intsZ (ns := besideI) (ints_led (by assumption) (.head _) (by repeat constructor)) r8.1 r8.2 (by decide) fun ts => ?_
          k_steps
          unfold Held
          refine chr_of_range hb.2.1 hb.2.2 ?_
          rw [hb.1]
          k_steps
          unfold Held
          refine PyProof.Rows.add_str (fun t1 k1 => ?_) (by rw [list_len, sizeLine_eq, List.length_append]; show _ + 1 + 1 ≤ _; omega)
          rw [cat_list]
          k_steps
          rw [edge_leaf ⟨by assumption, by assumption⟩ ⟨by assumption, by assumption⟩]
          refine' text_end ?e ?F ?N
          case F => assumption
          case N => assumption
          case e => simp
      · unfold Held
        refine sub_str r3.1 (by omega) (open_at r3.1 r3.2) fun t5 => ?_
        k_steps
        unfold Held
        refine PyProof.Rows.add_str (fun t1 k1 => ?_) (by rw [list_len, sizeLine_eq, List.length_append]; show _ + 1 + 1 ≤ _; omega)
        rw [cat_list]
        k_steps
        unfold Held
        have Nc := ‹News _ _ _ (_ ++ own)›
        have Fc := ‹Fr _ _ _ fun y => _›
        k_dflt (refine' IH f' rfl ((i + 1 : Nat) : Int) _ _ ?h0 ?h5 _ _ _ _ _ _ _ _ _ _ _ _ _ _ _ _ _ ?k1 Fc ?k3 (fun p hp => nomatch hp) ?k5 ?kK ⟨HD.know kn Fc, HU.know kn Fc⟩ ?kd ?ku ?_)
        case h0 => omega
        case h5 => omega
        case k1 => k_asm
        case k3 => k_asm
        case k5 => k_asm
        case kK => first | exact rfl | assumption
        case kd => (show dp + 1 + 20 * (f' + 1) < _; omega)
        case ku => first | ktr_units | (show un + 8 + 50 * (f' + 1) < _; omega) | (show un + 1 + 50 * (f' + 1) < _; omega)
        intro v7 h7 tk7 hR7
        obtain ⟨⟨u7, rfl⟩, kp7⟩ := hR7
        have F7 := Fr.kept Fc kp7
        have N7 := News.up Nc (fun b o e => kp7 b o e (by simp))
        clear Fc Nc
        k_steps
        unfold Held
        refine PyProof.Rows.add_str (fun t1 k1 => ?_) (by rw [list_len, list_len, sizeLine_eq, List.length_append, List.length_append]; show _ + 1 + 1 + _ ≤ _; omega)
        rw [cat_lists]
        k_steps
        unfold Held
        refine sub_str r3.1 (by omega) (close_at r3.1 r3.2) fun t6 => ?_
        k_steps
        unfold Held
        refine PyProof.Rows.add_str (fun t1 k1 => ?_) (by rw [list_len, sizeLine_eq, List.length_append, List.length_append, List.length_append]; show _ + 1 + 1 + _ + 1 ≤ _; omega)
        rw [cat_list]
        k_steps
        rw [edge_pair ⟨by assumption, by assumption⟩ (fun q => q.1 (by assumption))]
        refine' text_end ?e ?F ?N
        case F => assumption
        case N => assumption
        case e => simp
    · rw [edge_no (by omega), List.append_nil]
      exact text_same (by assumption) (by assumption) ⟨_, _, _, rfl⟩
    · rw [edge_no (by omega), List.append_nil]
      exact text_same (by assumption) (by assumption) ⟨_, _, _, rfl⟩
  · intro tx ch mo h tk2 Fd Nd
    clear Fi Ni Ri
    k_steps
    refine hret _ _ _ ⟨⟨_, rfl⟩, kept_end kn (by assumption)⟩
theorem text_all {w mean mg mb} (D U : Addr) (ds us : List Int) (hds : ds.length = 6) (hus : UpOk us) (gone : Int) : ∀ f, f ≤ 5 → TextT w mean mg mb D U ds us gone f
  | 0, h => text_step D U ds us hds hus gone 0 h fun f' e => by omega
  | f + 1, h => text_step D U ds us hds hus gone (f + 1) h fun f' e => by
    obtain rfl : f = f' := by omega
    exact text_all D U ds us hds hus gone f (by omega)
end
section
open PySem PySem.W PyProof.Rows
open PySem.Spec PySem.Calls
set_option Elab.async false
set_option maxRecDepth 100000
set_option linter.all false
open PySem.Challenge (pw_sh0051_01)
local macro_rules | `(tactic| walk_at $s:str) => if ["exec For", "exec For Name List cons nil", "pyIter ref", "subscriptTail", "subscriptTail Name Name ref int", "subscriptTail Name Subscript ref int", "setItem ref int"].contains s.getString then `(tactic| (k_here; refine held ?_)) else Lean.Macro.throwUnsupported
local macro_rules | `(tactic| walk_at "no such key") => `(tactic| skip)
set_option pp.deepTerms false
set_option pp.maxSteps 2000
theorem fresh_of {s g : Heap} {a : Addr} (kn : Knows s [] g) (h : g.get? a = none) : s.get? a = none := by
  cases q : s.get? a with
  | none => rfl
  | some o => have := kn a o q (by simp); rw [h] at this; cases this
section
variable {prog : Program} {w : World} {A : Around} {E : Value → Shared → Prop} {s : Shared} {env : Env} {g : Heap} {L lv lb : Addr} {body : List Stmt} {Q : Flow → Shared → Prop} {M : Str → Option Value} {vs vb : List Value} {n n2 : Nat}
noncomputable def belowM (M : Str → Option Value) (vv : Option Value) : Str → Option Value := fun y => if y = Str.ofString "v" then vv else M y
structure BelowTurn (M : Str → Option Value) (g : Heap) (L lv lb : Addr) (vs : List Value) (n : Nat) (own : List (Addr × Obj)) (cur : List Int) (s₁ : Shared) (f : Flow) (s₂ : Shared) : Prop where
  next : f = .next
  rest : ∃ h' tk' vv vb n2, s₂ = { s₁ with heap := h', toks := tk' } ∧ Fr g L h' (belowM M vv) ∧ News g L h' ((lv, listOf vs.toArray n) :: (lb, listOf vb.toArray n2) :: own) ∧ IntsAre vb cur
theorem below_loop (X : Nat → List Int) (hL : env.locals = L) (hh : A.handled = none) (hvs : IntsAre vs [5, 4, 3, 2]) (F : Fr g L s.heap M) (N : News g L s.heap [(lv, listOf vs.toArray n), (lb, listOf vb.toArray n2)]) (hb : IntsAre vb (X 0))
    (turn : ∀ i u vv vb n2 h tk2 own, i < 4 → OwnOff own [lv, lb] → Fr g L h (belowM M (some (.int ((5 - i : Nat) : Int) u))) → News g L h ((lv, listOf vs.toArray n) :: (lb, listOf vb.toArray n2) :: own) → IntsAre vb (X i) → vv = belowM M (some (.int ((5 - i : Nat) : Int) u)) →
      wpAny (model prog w) A (execs body env) (BelowTurn M g L lv lb vs n own (X (i + 1)) { s with heap := h, toks := tk2 }) E { s with heap := h, toks := tk2 })
    (done : ∀ vv vb n2 h tk2, Fr g L h (belowM M vv) → News g L h [(lv, listOf vs.toArray n), (lb, listOf vb.toArray n2)] → IntsAre vb (X 4) → Q .next { s with heap := h, toks := tk2 }) :
    wpAny (model prog w) A (pyIter (.ref lv)) (fun it s₂ => LoopAtV prog w A g env (Str.ofString "v") body Q E it s₂) E s := by
  subst hL
  have hlen : vs.length = 4 := hvs.length
  refine kdl_iter (l := lv) (vs := vs) (nn := n) (fun i m nx => ∃ vv vb n2, m = belowM M vv ∧ nx = [(lv, listOf vs.toArray n), (lb, listOf vb.toArray n2)] ∧ IntsAre vb (X i)) hh (.head _) F N ⟨M (Str.ofString "v"), vb, n2, ?_, rfl, hb⟩ ?_ ?_
  · funext y
    unfold belowM
    split
    · rename_i e; rw [e]
    · rfl
  · rintro i v m₁ nx h tk2 own hv hoff _ ⟨vv, vb, n2, rfl, rfl, hi⟩ F1 N1
    have hi4 : i < 4 := by have := (List.getElem?_eq_some_iff.mp hv).1; omega
    have hx : ([5, 4, 3, 2] : List Int)[i]? = some ((5 - i : Nat) : Int) := by
      have : i = 0 ∨ i = 1 ∨ i = 2 ∨ i = 3 := by omega
      rcases this with rfl | rfl | rfl | rfl <;> rfl
    obtain ⟨u, hu⟩ := hvs.get i _ hx
    rw [hu] at hv
    obtain rfl := Option.some.inj hv
    have F2 : Fr g env.locals h (belowM M (some (.int ((5 - i : Nat) : Int) u))) := by
      have e2 : (fun y => if y = Str.ofString "v" then some (Value.int ((5 - i : Nat) : Int) u) else belowM M vv y) = belowM M (some (.int ((5 - i : Nat) : Int) u)) := by
        funext y
        unfold belowM
        by_cases h1 : y = Str.ofString "v" <;> simp [h1]
      exact e2 ▸ F1
    refine wpAny_mono (turn i u _ vb n2 h tk2 own hi4 hoff F2 N1 hi rfl) (fun f s₂ hn => ?_) fun _ _ e => e
    obtain ⟨rfl, h', tk', vv', vb', n2', rfl, F3, N3, hi3⟩ := hn
    exact InvEndG.intro F3 N3 ⟨.head _, vv', vb', n2', rfl, rfl, hi3⟩ hoff (fun p hp => by simp only [List.mem_cons, List.not_mem_nil, or_false] at hp ⊢; rcases hp with rfl | rfl <;> simp) fun p hp => List.mem_cons_of_mem _ (List.mem_cons_of_mem _ hp)
  · rintro m₁ nx h tk2 ⟨vv, vb, n2, rfl, rfl, hi⟩ F1 N1
    rw [hlen] at hi
    exact done vv vb n2 h tk2 F1 N1 hi
theorem below_same {M : Str → Option Value} {own : List (Addr × Obj)} {cur : List Int} {s₁ : Shared} {h' : Heap} {tk' : Nat} {vv : Option Value} (F : Fr g L h' (belowM M vv)) (N : News g L h' ((lv, listOf vs.toArray n) :: (lb, listOf vb.toArray n2) :: own)) (hi : IntsAre vb cur) : BelowTurn M g L lv lb vs n own cur s₁ .next { s₁ with heap := h', toks := tk' } :=
  ⟨rfl, _, _, _, _, _, rfl, F, N, hi⟩
end
set_option maxHeartbeats 8000000 in
theorem below_spec {w mean mg mb} (U : Addr) (us : List Int) (hus : UpOk us) :
    ClX 60 200 w mean mg mb 265 [] [.ref U] (fun h => IntsAt h U us)
      (fun h h' r => (∃ a, r = .ref a ∧ h.get? a = none ∧ IntsAt h' a (belowL us)) ∧ Kept h h' []) := by
  intro dp un gd cn cs a ccd cl outer A₀ base h₀ L m s Q E B F X N T hkd HU hd hu hret
  have N₀ := N
  refine wpAny_call ?_
  k_dflt (walk_at "enterP")
  k_steps
  unfold Held
  have F0 := ‹Fr _ _ _ fun y => if y = Str.ofString "below" then _ else _›
  refine For_invVF F0 rfl rfl ?_
  k_steps
  unfold Held
  have Fi := ‹Fr _ _ _ fun y => if y = Str.ofString "below" then _ else _›
  have Ni := ‹News _ _ _ [(_, listOf _ _), (_, listOf _ _)]›
  have kn := ‹Knows s.heap _ _›
  refine' below_loop (belowUp us) ?hL ?hh ?hvs Fi Ni ?hb ?_ ?_
  case hL => exact rfl
  case hh => exact rfl
  case hvs => repeat constructor
  case hb => unfold belowUp; repeat constructor
  · intro i u _ vb n2 h tk2 own hi hoff Ft Nt hvb _
    clear Fi Ni
    have hl6 := below_len us i
    have hui := hus.2.2 (4 - i) (by omega)
    have e45 : 4 - i + 1 = 5 - i := by omega
    rw [e45] at hui
    k_steps
    unfold Held
    refine sub_ints (HU.know kn (by assumption)) (by rw [hus.1]; omega) (by rw [hus.1]; decide) fun tu => ?_
    k_steps
    · unfold Held
      refine sub_ints (HU.know kn (by assumption)) (by rw [hus.1]; omega) (by rw [hus.1]; decide) fun tu2 => ?_
      k_steps
      unfold Held
      refine sub_intsZ (ns := belowUp us i) (ints_led (by assumption) (.tail _ (.head _)) hvb) (by omega) (by omega) (by omega) fun tb => ?_
      k_steps
      unfold Held
      refine sub_ints (ns := belowUp us i) (ints_led (by assumption) (.tail _ (.head _)) hvb) (by omega) (by omega) fun tc => ?_
      k_steps
      unfold Held
      refine sub_ints (HU.know kn (by assumption)) (by rw [hus.1]; omega) (by rw [hus.1]; decide) fun tu3 => ?_
      k_steps
      unfold Held
      refine' ksa_set (by assumption) (by assumption) ?U hvb (by omega) (by omega) (by omega) fun h8 F8 N8 hi8 _ _ => ?_
      case U => k_upd
      k_steps
      have e : belowUp us (i + 1) = (belowUp us i).set (us.getD (5 - i) 0).toNat (Builtin.bitOr ((belowUp us i).getD (us.getD (5 - i) 0).toNat 0) ((belowUp us i).getD (5 - i) 0)) := by
        show belowTurn us (belowUp us i) (5 - i) = _
        unfold belowTurn; rw [if_pos (by omega)]
      rw [e]
      exact below_same (by assumption) (by assumption) hi8
    · have e : belowUp us (i + 1) = belowUp us i := by
        show belowTurn us (belowUp us i) (5 - i) = _
        unfold belowTurn; rw [if_neg (by omega)]
      rw [e]
      exact below_same (by assumption) (by assumption) hvb
  · intro vv vb n2 h tk2 Fd Nd hvb
    clear Fi Ni
    have hx := Nd (_, listOf vb.toArray n2) (.tail _ (.head _))
    k_steps
    refine hret _ _ _ ⟨⟨_, rfl, fresh_of kn hx.2.2, ⟨_, ⟨_, hx.1, rfl, _, rfl⟩, hvb⟩⟩, kept_end kn (by assumption)⟩
end
section
open PySem PySem.W PyProof.Rows PySem.Spec PySem.Calls
set_option Elab.async false
set_option maxRecDepth 100000
set_option linter.all false
section
variable {prog : Program} {w : World} {A : Around} {E : Value → Shared → Prop} {s : Shared} {env : Env} {h₀ : Heap} {x : Str} {body : List Stmt} {Q : Flow → Shared → Prop}
/-- the end of a turn -/
noncomputable def TurnE (h₀ : Heap) (L : Addr) (J : (Str → Option Value) → List (Addr × Obj) → Prop) (own : List (Addr × Obj)) (s₁ : Shared) (f : Flow) (s₂ : Shared) : Prop :=
  f = .next ∧ ∃ h' tk m' nx, s₂ = { s₁ with heap := h', toks := tk } ∧ Fr h₀ L h' m' ∧ News h₀ L h' (nx ++ own) ∧ OwnOff own (nx.map (·.1)) ∧ J m' nx
/-- a loop over a range whose own name is stored by the walk (a cell's name may be) -/
theorem For_rangeC {px pos : Pos} {iter : Expr} {n : Nat} {a₀ : Int} (J : Nat → (Str → Option Value) → List (Addr × Obj) → Prop) (hh : A.handled = none)
    (h : wpAny (model prog w) A (eval iter env) (fun xv s₁ => ∃ r b₀ t₀ u₀ v₀ m nx, xv = .ref r ∧ IsRange s₁.heap r a₀ b₀ 1 t₀ u₀ v₀ ∧ Builtin.Range.small a₀ b₀ 1 = true ∧ Builtin.Range.rangeSize a₀ b₀ 1 = (n : Int) ∧
      Fr h₀ env.locals s₁.heap m ∧ News h₀ env.locals s₁.heap nx ∧ J 0 m nx ∧
      (∀ i t m₁ nx₁ h tk own, i < n → OwnOff own (nx₁.map (·.1)) → J i m₁ nx₁ → Fr h₀ env.locals h m₁ → News h₀ env.locals h (nx₁ ++ own) →
        wpAny (model prog w) A (storeName env x (.int (a₀ + (i : Int)) t)) (fun _ s₂ => wpAny (model prog w) A (execs body env) (TurnE h₀ env.locals (J (i + 1)) own { s₁ with heap := h, toks := tk }) E s₂) E { s₁ with heap := h, toks := tk }) ∧
      (∀ m₁ nx₁ h tk, J n m₁ nx₁ → Fr h₀ env.locals h m₁ → News h₀ env.locals h nx₁ → Q .next { s₁ with heap := h, toks := tk })) E s)
    (hs : ∀ x, foldedSetIterable iter env x = pure x := by intro _; rfl)
    (hE : PassesOwn (model prog w) A env E := by passes_own) :
    wpAny (model prog w) A (exec (.For (.Name x px) iter body [] pos) env) Q E s := by
  refine wpAny_For (wpAny_mono h (fun xv s₁ h₁ => ?_) fun _ _ e => e) hs
  obtain ⟨r, b₀, t₀, u₀, v₀, m, nx, rfl, hr, hsmall, hsz, F, N, hj, turn, done⟩ := h₁
  refine wpAny_pyIter_range hr hsmall ?_
  have W : Walks prog w A s₁.heap.objs.size [s₁.heap.objs.size] [s₁.heap.objs.size] n (fun i v => i < n ∧ ∃ t, v = .int (a₀ + i * 1) t)
      (fun i h => IsRangeIter h s₁.heap.objs.size (a₀ + (i : Nat) * 1) ((n : Int) - (i : Nat)) 1) := (Walks.range hh _ a₀ 1 n).bound
  have hI0 : h₀.get? s₁.heap.objs.size = none := next_is_new F
  have hIL : env.locals ≠ s₁.heap.objs.size := fun q => absurd F.ns.lt (q ▸ Nat.lt_irrefl _)
  refine codeAny_forLoop
    (fun k s' => ∃ h' tk m' nx i, s' = { s₁ with heap := h', toks := tk } ∧ IsRangeIter h' s₁.heap.objs.size (a₀ + (i : Nat) * 1) ((n : Int) - (i : Nat)) 1 ∧ Fr h₀ env.locals h' m' ∧ News h₀ env.locals h' nx ∧ (∀ p ∈ nx, p.1 ≠ s₁.heap.objs.size) ∧ J i m' nx ∧ i ≤ n ∧ k = n + 1 - i) ?_ (n + 1)
    ⟨_, s₁.toks, m, nx, 0, rfl, by show IsRangeIter _ _ _ _ _; rw [hsz]; simpa using Heap.get?_push_size _ rfl, F.push _, fun p hp => ⟨Heap.get?_push_of_some _ (N p hp).1, (N p hp).2⟩, fun p hp q => absurd (Heap.lt_size (N p hp).1) (q ▸ Nat.lt_irrefl _), hj, Nat.zero_le _, rfl⟩
  rintro k s' ⟨h', tk, m', nx', i, rfl, hst, F', N', hoff, hJ, hi, rfl⟩
  have next : ∀ h₁ : Heap, (∀ b o, b ∉ [s₁.heap.objs.size] → h'.get? b = some o → h₁.get? b = some o) → Fr h₀ env.locals h₁ m' ∧ News h₀ env.locals h₁ nx' := fun h₁ hk₁ =>
    ⟨⟨F'.ns.at' fun o e => hk₁ _ o (by simpa using hIL) e, fun b o e => hk₁ b o (by simp only [List.mem_singleton]; intro q; rw [q, hI0] at e; cases e) (F'.keep b o e), F'.above⟩, fun p hp => ⟨hk₁ _ _ (by simpa using hoff p hp) (N' p hp).1, (N' p hp).2⟩⟩
  by_cases hlt : i < n
  · refine W.item i _ _ _ hlt hst fun v h₁ tk₁ hP hst₁ hk₁ => ?_
    obtain ⟨_, t, rfl⟩ := hP
    obtain ⟨F₁, N₁⟩ := next h₁ hk₁
    obtain ⟨oI, hoI⟩ : ∃ oI, h₁.get? s₁.heap.objs.size = some oI := ⟨_, hst₁⟩
    have Now : News h₀ env.locals h₁ (nx' ++ [(s₁.heap.objs.size, oI)]) := fun p hp => by
      rcases List.mem_append.mp hp with hp | hp
      · exact N₁ p hp
      · rw [List.mem_singleton.mp hp]; exact ⟨hoI, Ne.symm hIL, hI0⟩
    have hoff1 : OwnOff [(s₁.heap.objs.size, oI)] (nx'.map (·.1)) := by
      intro p hp b hb e
      rw [List.mem_singleton.mp hp] at e
      obtain ⟨q, hq, rfl⟩ := List.mem_map.mp hb
      exact hoff q hq e.symm
    have e1 : a₀ + (i : Int) * 1 = a₀ + (i : Int) := by omega
    rw [e1]
    refine wpAny_assign_Name ?_
    refine wpAny_mono (wpAny_passesOwn hE (turn i t m' nx' h₁ tk₁ _ hlt hoff1 hJ F₁ Now)) (fun _ s₂ h₂ => ?_) fun _ _ e => e
    refine wpAny_mono (wpAny_passesOwn hE h₂) (fun f s₃ h₃ => ?_) fun _ _ e => e
    obtain ⟨rfl, h4, tk4, m4, nx4, rfl, F4, N4, hoff4, hJ4⟩ := h₃
    have hI4 := (N4 (s₁.heap.objs.size, oI) (by simp)).1
    refine ⟨n + 1 - (i + 1), by omega, h4, tk4, m4, nx4, i + 1, rfl, W.frame _ _ _ hst₁ fun b hb o e => ?_, F4, fun p hp => N4 p (List.mem_append_left _ hp), fun p hp q => hoff4 _ (.head _) p.1 (List.mem_map.mpr ⟨p, hp, rfl⟩) q.symm, hJ4, hlt, rfl⟩
    rw [List.mem_singleton.mp hb] at e ⊢
    rw [hoI] at e; cases e
    exact hI4
  · have hin : i = n := by omega
    subst hin
    refine W.done _ _ _ hst fun h₁ tk₁ hk₁ => wpAny_execs_nil ?_
    obtain ⟨F₁, N₁⟩ := next h₁ hk₁
    exact done m' nx' h₁ tk₁ hJ F₁ N₁
end
end
section
open PySem PySem.W PyProof.Rows PySem.Spec PySem.Calls
set_option Elab.async false
set_option maxRecDepth 100000
set_option linter.all false
section
variable {prog : Program} {w : World} {A : Around} {E : Value → Shared → Prop} {env : Env}
noncomputable def pV (p : Int → Bool) (v : Value) : Bool := match v with | .int i _ => p i | _ => false
noncomputable def fV (f : Int → Int) (v y : Value) : Prop := match v with | .int i _ => ∃ t, y = .int (f i) t | _ => False
theorem ints_comp {p : Int → Bool} {f : Int → Int} {vs : List Value} {ks : List Int} (hi : IntsAre vs ks) {ys : List Value} (h : Paired (fV f) (vs.filter (pV p)) ys) : IntsAre ys ((ks.filter p).map f) := by
  induction hi generalizing ys with
  | nil => cases h; exact .nil
  | cons n t _ ih =>
    have e : pV p (.int n t) = p n := rfl
    rw [List.filter_cons, e] at h
    rw [List.filter_cons]
    by_cases hp : p n = true
    · rw [if_pos hp] at h ⊢
      cases h with
      | cons a h =>
        obtain ⟨u, rfl⟩ := a
        exact .cons _ u (ih h)
    · rw [if_neg hp] at h ⊢
      exact ih h
theorem ints_of : ∀ {vs : List Value} {ks : List Int}, vs.length = ks.length → (∀ (j : Nat) (v : Value), vs[j]? = some v → ∃ t, v = .int (ks.getD j 0) t) → IntsAre vs ks
  | [], [], _, _ => .nil
  | [], _ :: _, h, _ => by simp at h
  | _ :: _, [], h, _ => by simp at h
  | v :: vs, k :: ks, h, hv => by
    obtain ⟨t, rfl⟩ := hv 0 v rfl
    exact .cons _ t (ints_of (by simpa using h) fun j v' e => hv (j + 1) v' e)
/-- what a comprehension over ints asks of its test and its element -/
structure QuietI (prog : Program) (w : World) (A : Around) (env : Env) (scope : Scope) (cl : List (Str × Addr)) (x : Str) (ifs : List Expr) (elt : Expr) (ks : List Int) (p : Int → Bool) (f : Int → Int) (s₁ : Shared) : Prop where
  tests : ∀ C k t s₃ m₃ E', k ∈ ks → s₃.heap.Ns C m₃ → m₃ x = some (.int k t) → (∀ b o, s₁.heap.get? b = some o → s₃.heap.get? b = some o) →
    wpAny (model prog w) A (forIn ifs true fun c r => if r = true then do let ok ← isTrue c (compEnvC scope cl C env) (eval c (compEnvC scope cl C env)); pure (ForInStep.yield ok) else pure (ForInStep.yield r))
      (fun ok s₄ => ok = p k ∧ Keeps s₃ s₄) E' s₃
  elt : ∀ C k t s₃ m₃ E', k ∈ ks → p k = true → s₃.heap.Ns C m₃ → m₃ x = some (.int k t) → (∀ b o, s₁.heap.get? b = some o → s₃.heap.get? b = some o) →
    wpAny (model prog w) A (eval elt (compEnvC scope cl C env)) (fun y s₄ => (∃ t, y = .int (f k) t) ∧ Keeps s₃ s₄) E' s₃
theorem comp_ints {s : Shared} {elt iter : Expr} {x : Str} {px : Pos} {ifs : List Expr} {scope : Scope} {cl : List (Str × Addr)} {pos : Pos} {Q : Value → Shared → Prop} {l : Addr} {vs : List Value} {ks : List Int} (p : Int → Bool) (f : Int → Int)
    (hh : A.handled = none) (hclos : closureFor scope env = pure cl) (hcell : ∀ y ∈ scope.names, y.2 ≠ .cell) (hkind : scope.kind = .function)
    (hnames : ∀ y ∈ scope.names, y.2 = .local → scope.names.lookup y.1 = some .local) (hx : scope.names.lookup x = some .local) (hi : IntsAre vs ks)
    (h : wpAny (model prog w) A (eval iter env) (fun xv s₁ => Held (xv = .ref l ∧ s₁.heap.IsList l vs.toArray ∧ ks.length ≤ sizeLine ∧ QuietI prog w A env scope cl x ifs elt ks p f s₁ ∧
      (∀ D h' tk ys n, s₁.heap.get? D = none → h'.get? D = some (listOf ys n) → IntsAre ys.toList ((ks.filter p).map f) → (∀ b o, s₁.heap.get? b = some o → h'.get? b = some o) → Q (.ref D) { s₁ with heap := h', toks := tk }))) E s)
    (hs : ∀ x, foldedSetIterable iter env x = pure x := by intro _; rfl) :
    wpAny (model prog w) A (eval (.ListComp elt [⟨.Name x px, iter, ifs, 0⟩] scope pos) env) Q E s := by
  refine comp_list (l := l) (vs := vs) (pV p) (fV f) hh hclos hcell hkind hnames hx (wpAny_mono h (fun xv s₁ h₁ => ?_) fun _ _ e => e) hs
  obtain ⟨rfl, hl, hsz, hq, hQ⟩ := h₁
  refine ⟨rfl, hl, by rw [hi.length]; exact hsz, ⟨?_, ?_⟩, ?_⟩
  · intro C v s₃ m₃ E' hv hn hm hk
    obtain ⟨i, hi', e⟩ := List.mem_iff_getElem.mp hv
    have hki : i < ks.length := by rw [← hi.length]; exact hi'
    obtain ⟨t, ht⟩ := hi.get i ks[i] (by simp [hki])
    rw [List.getElem?_eq_getElem hi', e] at ht
    obtain rfl := Option.some.inj ht
    exact hq.tests C _ t s₃ m₃ E' (List.getElem_mem hki) hn hm hk
  · intro C v s₃ m₃ E' hv hpv hn hm hk
    obtain ⟨i, hi', e⟩ := List.mem_iff_getElem.mp hv
    have hki : i < ks.length := by rw [← hi.length]; exact hi'
    obtain ⟨t, ht⟩ := hi.get i ks[i] (by simp [hki])
    rw [List.getElem?_eq_getElem hi', e] at ht
    obtain rfl := Option.some.inj ht
    exact hq.elt C _ t s₃ m₃ E' (List.getElem_mem hki) hpv hn hm hk
  · rintro D h' tk ys hD ⟨n, hpl⟩ hF hk
    exact hQ D h' tk ys n hD hpl (ints_comp hi hF) hk
theorem comp_rangeI {s : Shared} {elt iter : Expr} {x : Str} {px : Pos} {ifs : List Expr} {scope : Scope} {cl : List (Str × Addr)} {pos : Pos} {Q : Value → Shared → Prop} (a₀ b₀ : Int) (n : Nat) (p : Int → Bool) (f : Int → Int)
    (hh : A.handled = none) (hclos : closureFor scope env = pure cl) (hcell : ∀ y ∈ scope.names, y.2 ≠ .cell) (hkind : scope.kind = .function)
    (hnames : ∀ y ∈ scope.names, y.2 = .local → scope.names.lookup y.1 = some .local) (hx : scope.names.lookup x = some .local) (hsmall : Builtin.Range.small a₀ b₀ 1 = true) (hsz : Builtin.Range.rangeSize a₀ b₀ 1 = (n : Int)) (hn : n ≤ sizeLine)
    (h : wpAny (model prog w) A (eval iter env) (fun xv s₁ => Held (∃ r t u v, xv = .ref r ∧ IsRange s₁.heap r a₀ b₀ 1 t u v ∧ QuietI prog w A env scope cl x ifs elt (rangeKs a₀ n) p f s₁ ∧
      (∀ D h' tk ys n', s₁.heap.get? D = none → h'.get? D = some (listOf ys n') → IntsAre ys.toList (((rangeKs a₀ n).filter p).map f) → (∀ b o, s₁.heap.get? b = some o → h'.get? b = some o) → Q (.ref D) { s₁ with heap := h', toks := tk }))) E s)
    (hs : ∀ x, foldedSetIterable iter env x = pure x := by intro _; rfl) :
    wpAny (model prog w) A (eval (.ListComp elt [⟨.Name x px, iter, ifs, 0⟩] scope pos) env) Q E s := by
  refine wpAny_ListComp_free (pV p) (fV f) hclos hcell hkind hnames hx (wpAny_mono h (fun xv s₁ h₁ => ?_) fun _ _ e => e) hs
  obtain ⟨r, t, u, v, rfl, hr, hq, hQ⟩ := h₁
  refine wpAny_pyIter_range hr hsmall ?_
  have W : Walks prog w A s₁.heap.objs.size [s₁.heap.objs.size] [s₁.heap.objs.size] n (fun i v => i < n ∧ ∃ t, v = .int (a₀ + i * 1) t)
      (fun i h => IsRangeIter h s₁.heap.objs.size (a₀ + (i : Nat) * 1) ((n : Int) - (i : Nat)) 1) := (Walks.range hh _ a₀ 1 n).bound
  have nb : ∀ b o, s₁.heap.get? b = some o → b ∉ [s₁.heap.objs.size] := fun b o e hm => by
    rw [List.mem_singleton.mp hm] at e
    exact absurd (Heap.lt_size e) (Nat.lt_irrefl _)
  have hkm : ∀ i, i < n → a₀ + (i : Int) * 1 ∈ rangeKs a₀ n := fun i hi => by
    have e : a₀ + (i : Int) * 1 = a₀ + (i : Int) := by omega
    rw [e]
    exact List.mem_map.mpr ⟨i, List.mem_range.mpr hi, rfl⟩
  refine ⟨_, _, _, _, _, _, rfl, W, hn, by show IsRangeIter _ _ _ _ _; rw [hsz]; simpa using Heap.get?_push_size _ rfl, ?_, ⟨?_, ?_⟩, ?_⟩
  · intro b hb
    rw [List.mem_singleton.mp hb, Heap.size_push]
    exact Nat.lt_succ_self _
  · rintro C i v s₃ m₃ E' _ ⟨hi, t, rfl⟩ hn hm hk _
    exact hq.tests C _ t s₃ m₃ E' (hkm i hi) hn hm fun b o e => hk b o (nb b o e) (Heap.get?_push_of_some _ e)
  · rintro C i v s₃ m₃ E' _ ⟨hi, t, rfl⟩ hp hn hm hk _
    exact hq.elt C _ t s₃ m₃ E' (hkm i hi) hp hn hm fun b o e => hk b o (nb b o e) (Heap.get?_push_of_some _ e)
  · rintro D h' tk ys vs hD _ ⟨n', hpl⟩ hlen hP hF hk
    have hi : IntsAre vs (rangeKs a₀ n) := by
      refine ints_of (by rw [hlen, rangeKs_length]) fun j v hv => ?_
      obtain ⟨hj, t, rfl⟩ := hP j v hv
      refine ⟨t, ?_⟩
      have e : (rangeKs a₀ n).getD j 0 = a₀ + (j : Int) * 1 := by simp [rangeKs, hj]
      rw [e]
    refine hQ D h' tk ys n' ?_ hpl (ints_comp hi hF) fun b o e => hk b o (nb b o e) (Heap.get?_push_of_some _ e)
    cases q : s₁.heap.get? D with
    | none => rfl
    | some o => rw [Heap.get?_push_of_some _ q] at hD; cases hD
end
end
section
open PySem PySem.W PyProof.Rows
open PySem.Spec PySem.Calls
set_option Elab.async false
set_option maxRecDepth 100000
set_option linter.all false
open PySem.Challenge (pw_sh0051_01)
local macro_rules | `(tactic| walk_at $s:str) => if ["exec For", "exec For Name Call cons nil", "eval ListComp", "pyIter ref", "subscriptTail", "subscriptTail Name Name ref int", "subscriptTail Name BinOp ref int", "compareOp NotIn int ref", "call builtin:min"].contains s.getString then `(tactic| (k_here; refine held ?_)) else Lean.Macro.throwUnsupported
local macro_rules | `(tactic| walk_at "compareOp NotEq ref ref") => `(tactic| (k_here; (with_reducible show wpAny _ _ (compareOp CmpOp.NotEq (Value.ref _) (Value.ref _)) _ _ _); k_dflt (refine' ne_empty ?N ?a ?b ?u ?_; (case N => k_asm); (case a => k_mem); (case b => k_mem); (case u => ktr_units); k_whole)))
local macro_rules | `(tactic| walk_at "call builtin:list.append") => `(tactic| (k_here; (with_reducible show wpAny _ _ (call (Value.builtin _) [Value.ref _, _]) _ _ _); k_dflt (refine' append_K ?k1 ?k2 ?k3 ?_ ?z; (case k1 => k_asm); (case k2 => k_asm); (case k3 => k_upd); (case z => omega); k_whole); intro h' F' N'))
set_option pp.deepTerms false
set_option pp.maxSteps 2000
noncomputable def NumLed (L ln : Addr) (its : Array Value) (e : Nat) (oF oE oH oN oB oU : Obj) : List (Addr × Obj) := [(ln, listOf its e), (L + 1 + 1 + 1 + 1 + 1 + 1, oF), (L + 1 + 1 + 1 + 1 + 1, oE), (L + 1 + 1 + 1 + 1, oH), (L + 1 + 1 + 1, oN), (L + 1 + 1, oB), (L + 1, oU)]
structure NumAt (us bs : List Int) (L ln : Addr) (oN oB oU : Obj) (m₀ : Str → Option Value) (i : Nat) (m : Str → Option Value) (nx : List (Addr × Obj)) : Prop where
  same : m = m₀
  ex : ∃ its e oF oE oH vF vE vH, nx = NumLed L ln its e oF oE oH oN oB oU ∧ IntsAre its.toList (numbersUp us bs i) ∧ oF.data = .cell vF ∧ oE.data = .cell vE ∧ oH.data = .cell vH
theorem ks_in {k : Int} (h : k ∈ rangeKs 1 5) : 1 ≤ k ∧ k ≤ 5 := by
  obtain ⟨i, hi, rfl⟩ := List.mem_map.mp h
  have := List.mem_range.mp hi
  omega
theorem edges_len (here : Int) : (edgesL here).length ≤ sizeLine := Nat.le_trans (List.length_filter_le ..) (by rw [rangeKs_length, sizeLine_eq]; decide)
theorem fresh_ne {h₀ h : Heap} {L D : Addr} {led : List (Addr × Obj)} (N : News h₀ L h led) (hD : h.get? D = none) : ∀ p ∈ led, D ≠ p.1 := fun p hp q => by
  have := (N p hp).1
  rw [← q, hD] at this; cases this
section
variable {prog : Program} {w : World} {A : Around} {E : Value → Shared → Prop} {s : Shared} {env : Env} {g : Heap} {L ln : Addr} {x : Str} {body : List Stmt} {Q : Flow → Shared → Prop} {oF oE oH oN oB oU : Obj} {vF vE vH : Option Value} {m₀ : Str → Option Value}
theorem numbers_for {px pos : Pos} {iter : Expr} (us bs : List Int) (hL : env.locals = L) (hh : A.handled = none) (F : Fr g L s.heap m₀) (N : News g L s.heap (NumLed L ln #[] 0 oF oE oH oN oB oU)) (hF : oF.data = .cell vF) (hE' : oE.data = .cell vE) (hH : oH.data = .cell vH)
    (h : wpAny (model prog w) A (eval iter env) (fun xv s₁ => Held (∃ r t₀ u₀ v₀, xv = .ref r ∧ IsRange s₁.heap r 0 32 1 t₀ u₀ v₀ ∧ Fr g L s₁.heap m₀ ∧ News g L s₁.heap (NumLed L ln #[] 0 oF oE oH oN oB oU) ∧
      (∀ i t its e oF oE oH vF vE vH h tk own, i < 32 → OwnOff own ((NumLed L ln its e oF oE oH oN oB oU).map (·.1)) → IntsAre its.toList (numbersUp us bs i) → oF.data = .cell vF → oE.data = .cell vE → oH.data = .cell vH → Fr g L h m₀ → News g L h (NumLed L ln its e oF oE oH oN oB oU ++ own) →
        wpAny (model prog w) A (storeName env x (.int (i : Int) t)) (fun _ s₂ => wpAny (model prog w) A (execs body env) (TurnE g L (NumAt us bs L ln oN oB oU m₀ (i + 1)) own { s₁ with heap := h, toks := tk }) E s₂) E { s₁ with heap := h, toks := tk }) ∧
      (∀ its e oF oE oH h tk, IntsAre its.toList (numbersL us bs) → Fr g L h m₀ → News g L h (NumLed L ln its e oF oE oH oN oB oU) → Q .next { s₁ with heap := h, toks := tk }))) E s)
    (hs : ∀ x, foldedSetIterable iter env x = pure x := by intro _; rfl)
    (hE : PassesOwn (model prog w) A env E := by passes_own) :
    wpAny (model prog w) A (exec (.For (.Name x px) iter body [] pos) env) Q E s := by
  subst hL
  refine For_rangeC (h₀ := g) (n := 32) (a₀ := 0) (NumAt us bs env.locals ln oN oB oU m₀) hh (wpAny_mono h (fun xv s₁ h₁ => ?_) fun _ _ e => e) hs hE
  obtain ⟨r, t₀, u₀, v₀, rfl, hr, F1, N1, turn, done⟩ := h₁
  refine ⟨r, 32, t₀, u₀, v₀, m₀, _, rfl, hr, by decide, by decide, F1, N1, ⟨rfl, #[], 0, oF, oE, oH, vF, vE, vH, rfl, .nil, hF, hE', hH⟩, ?_, ?_⟩
  · rintro i t m₁ nx₁ hp tk own hi hoff ⟨rfl, its, e, oF, oE, oH, vF, vE, vH, rfl, hn, h1, h2, h3⟩ F2 N2
    have e0 : (0 : Int) + (i : Int) = (i : Int) := by omega
    rw [e0]
    exact turn i t its e oF oE oH vF vE vH hp tk own hi hoff hn h1 h2 h3 F2 N2
  · rintro m₁ nx₁ hp tk ⟨rfl, its, e, oF, oE, oH, vF, vE, vH, rfl, hn, h1, h2, h3⟩ F2 N2
    exact done its e oF oE oH hp tk hn F2 N2
end
theorem num_end {us bs : List Int} {g h' : Heap} {L ln : Addr} {oF oE oH oN oB oU : Obj} {vF vE vH : Option Value} {m₀ : Str → Option Value} {i : Nat} {own led : List (Addr × Obj)} {its its0 : Array Value} {e e0 : Nat} {oF0 oE0 oH0 : Obj} {x : Int} {t : Tok} {s₁ : Shared} {tk : Nat}
    (F : Fr g L h' m₀) (N : News g L h' led) (hoff : OwnOff own ((NumLed L ln its0 e0 oF0 oE0 oH0 oN oB oU).map (·.1))) (h0 : (ln, listOf (its.push (.int x t)) e) ∈ led) (h1 : (L + 1 + 1 + 1 + 1 + 1 + 1, oF) ∈ led) (h2 : (L + 1 + 1 + 1 + 1 + 1, oE) ∈ led) (h3 : (L + 1 + 1 + 1 + 1, oH) ∈ led) (h4 : (L + 1 + 1 + 1, oN) ∈ led) (h5 : (L + 1 + 1, oB) ∈ led) (h6 : (L + 1, oU) ∈ led) (h7 : ∀ p ∈ own, p ∈ led) (hn : IntsAre its.toList (numbersUp us bs i)) (hx : x = numTurn us bs (numbersUp us bs i) (i : Int))
    (hF : oF.data = .cell vF) (hE : oE.data = .cell vE) (hH : oH.data = .cell vH) : TurnE g L (NumAt us bs L ln oN oB oU m₀ (i + 1)) own s₁ .next { s₁ with heap := h', toks := tk } := by
  subst hx
  refine ⟨rfl, h', tk, m₀, NumLed L ln (its.push (.int (numTurn us bs (numbersUp us bs i) (i : Int)) t)) e oF oE oH oN oB oU, rfl, F, fun p hp => N p ?_, hoff, rfl, _, _, _, _, _, _, _, _, rfl, ?_, hF, hE, hH⟩
  · simp only [NumLed, List.cons_append, List.nil_append, List.mem_cons] at hp
    rcases hp with rfl | rfl | rfl | rfl | rfl | rfl | rfl | hp
    · exact h0
    · exact h1
    · exact h2
    · exact h3
    · exact h4
    · exact h5
    · exact h6
    · exact h7 _ hp
  rw [Array.toList_push]
  exact hn.append (.cons _ _ .nil)
set_option maxHeartbeats 8000000 in
theorem numbers_spec {w mean mg mb} (U V : Addr) (us bs : List Int) (hus : UpOk us) (hbs : BelowOk bs) :
    ClX 60 200 w mean mg mb 270 [] [.ref U, .ref V] (fun h => IntsAt h U us ∧ IntsAt h V bs)
      (fun h h' r => (∃ a, r = .ref a ∧ h.get? a = none ∧ IntsAt h' a (numbersL us bs)) ∧ Kept h h' []) := by
  intro dp un gd cn cs a ccd cl outer A₀ base h₀ L m s Q E B F X N T hkd HU hd hu hret
  obtain ⟨HU, HV⟩ := HU
  have N₀ := N
  refine wpAny_call ?_
  k_dflt (walk_at "enterC")
  k_steps
  unfold Held
  have Ni := ‹News _ _ _ [(_, listOf #[] 0), (_, _), (_, _), (_, _), (_, _), (_, _), (_, _)]›
  have Fi := ‹Fr _ _ _ _›
  have kn := ‹Knows s.heap _ _›
  refine' numbers_for us bs ?hL ?hh Fi Ni (by assumption) (by assumption) (by assumption) ?_
  case hL => exact rfl
  case hh => exact rfl
  clear Ni Fi
  k_steps
  unfold Held
  refine ⟨_, _, _, _, rfl, by assumption, by assumption, by assumption, ?_, ?_⟩
  · intro i t its e oF oE oH vF vE vH h tk own hi hoff hnum hF hE hH Ft Nt
    simp only [NumLed, List.cons_append, List.nil_append] at Nt
    have hnl : its.size = i := by have := hnum.length; rw [numbers_len] at this; simpa using this
    have hsz : its.size ≤ sizeLine := by rw [sizeLine_eq]; omega
    k_steps
    unfold Held
    refine comp_rangeI 1 6 5 (bitV (i : Int)) (fun v => v) rfl rfl (by decide) rfl (by decide) rfl (by decide) (by decide) (by decide) ?_
    k_steps
    unfold Held
    refine ⟨_, _, _, _, rfl, by assumption, ⟨?_, ?_⟩, ?_⟩
    · intro C k tk3 s₃ m₃ E' hk hn hm hkp
      have hk1 : 1 ≤ k ∧ k ≤ 5 := ks_in hk
      refine one_test ?_
      k_steps
      exact ⟨_, _, rfl, fun b o e => e⟩
    · intro C k tk3 s₃ m₃ E' hk hpk hn hm hkp
      refine cn_local hn hm ?_
      exact ⟨⟨_, rfl⟩, _, _, rfl, fun b o e => e⟩
    · intro D h4 tk4 ys n4 hD hpl hints hkp
      dsimp only at hD hkp ⊢
      have Nx := ‹News _ _ _ (_ :: _)›
      have hDf := fresh_ne Nx hD
      simp only [List.mem_cons, forall_eq_or_imp] at hDf
      obtain ⟨d0, d1, d2, d3, d4, d5, d6, _⟩ := hDf
      have F4 := Fr.up (by assumption) hkp
      have N4 := fresh_led (by assumption) Nx (fun b o e _ => hkp b o e) hD hpl
      clear Nx
      have hes : ((rangeKs 1 5).filter (bitV (i : Int))).map (fun v => v) = edgesL (i : Int) := List.map_id' _
      rw [hes] at hints
      k_steps
      unfold Held
      refine comp_ints (l := D) (vs := ys.toList) (ks := edgesL (i : Int)) (fun v => decide (us.getD v.toNat 0 > 0) && !((edgesL (i : Int)).any (· == us.getD v.toNat 0))) (fun v => v) rfl rfl (by decide) rfl (by decide) rfl hints ?_
      k_steps
      unfold Held
      have HU5 := HU.know kn (by assumption)
      have ND5 := (‹News _ _ _ (_ :: _)› (D, listOf ys n4) (by simp)).1
      refine ⟨rfl, ⟨_, ND5, rfl, n4, rfl⟩, edges_len _, ⟨?_, ?_⟩, ?_⟩
      · intro C k tk3 s₃ m₃ E' hk hn hm hkp
        have hk1 : 1 ≤ k ∧ k ≤ 5 := ks_in (List.mem_filter.mp hk).1
        have HU3 := HU5.keep hkp
        have hD3 : s₃.heap.IsList D ys.toList.toArray := ⟨_, hkp _ _ ND5, rfl, n4, rfl⟩
        refine one_test ?_
        k_steps
        unfold Held
        refine sub_intsZ HU3 (by omega) (by rw [hus.1]; omega) (by rw [hus.1]; decide) fun tu => ?_
        k_steps
        · unfold Held
          refine sub_intsZ HU3 (by omega) (by rw [hus.1]; omega) (by rw [hus.1]; decide) fun tu => ?_
          k_steps
          unfold Held
          refine notin_list_ints hD3 hints ?_
          k_steps
          all_goals first | exact ⟨_, _, rfl, fun b o e => e⟩ | (rw [decide_eq_true (by omega)]; first | (rw [‹List.any (edgesL (i : Int)) _ = true›]; rfl) | (rw [‹List.any (edgesL (i : Int)) _ = false›]; rfl))
        · rw [decide_eq_false (by omega)]; rfl
        · exact ⟨_, _, rfl, fun b o e => e⟩
      · intro C k tk3 s₃ m₃ E' hk hpk hn hm hkp
        refine cn_local hn hm ?_
        exact ⟨⟨_, rfl⟩, _, _, rfl, fun b o e => e⟩
      · intro D2 h5 tk5 ys5 n5 hD2 hpl5 hints5 hkp5
        dsimp only at hD2 hkp5 ⊢
        have Nx := ‹News _ _ _ (_ :: _)›
        have hDf := fresh_ne Nx hD2
        simp only [List.mem_cons, forall_eq_or_imp] at hDf
        obtain ⟨e0, e1, e2, e3, e4, e5, e6, e7, _⟩ := hDf
        have F5 := Fr.up (by assumption) hkp5
        have N5 := fresh_led (by assumption) Nx (fun b o e _ => hkp5 b o e) hD2 hpl5
        clear Nx
        have hbad : (edgesL (i : Int)).filter (fun v => decide (us.getD v.toNat 0 > 0) && !((edgesL (i : Int)).any (· == us.getD v.toNat 0))) = badL us (edgesL (i : Int)) := rfl
        rw [List.map_id', hbad] at hints5
        k_steps
        · have hb0 : badL us (edgesL (i : Int)) = [] := by
            have h9 : ys5.toList = [] := list_none (by assumption)
            rw [h9] at hints5
            exact List.length_eq_zero_iff.mp (by rw [← hints5.length]; rfl)
          unfold Held
          refine comp_ints (l := D) (vs := ys.toList) (ks := edgesL (i : Int)) (fun _ => true) (fun v => (numbersUp us bs i).getD (atOf bs (i : Int) v).toNat 0) rfl rfl (by decide) rfl (by decide) rfl hints ?_
          k_steps
          unfold Held
          have HV6 := HV.know kn (by assumption)
          have Nx6 := ‹News _ _ _ (_ :: _)›
          have ND6 := (Nx6 (D, listOf ys n4) (by simp)).1
          have NL6 := (Nx6 (_, listOf its e) (by repeat (first | exact List.Mem.head _ | apply List.Mem.tail))).1
          refine ⟨rfl, ⟨_, ND6, rfl, n4, rfl⟩, edges_len _, ⟨?_, ?_⟩, ?_⟩
          · intro C k tk3 s₃ m₃ E' hk hn hm hkp
            simp only [List.forIn_nil]
            exact wpAny_pure ⟨rfl, _, _, rfl, fun b o e => e⟩
          · intro C k tk3 s₃ m₃ E' hk hpk hn hm hkp
            have hk1 : 1 ≤ k ∧ k ≤ 5 := ks_in (List.mem_filter.mp hk).1
            have hat := hbs.2 i hi k hk
            have HV3 := HV6.keep hkp
            have HL3 : IntsAt s₃.heap _ (numbersUp us bs i) := ⟨_, ⟨_, hkp _ _ NL6, rfl, e, rfl⟩, hnum⟩
            k_steps
            unfold Held
            refine sub_intsZ HV3 (by omega) (by rw [hbs.1]; omega) (by rw [hbs.1]; decide) fun tv => ?_
            k_steps
            unfold Held
            refine sub_intsZ HL3 hat.1 (by rw [numbers_len]; exact hat.2) (by rw [numbers_len]; omega) fun tw => ?_
            exact ⟨⟨_, rfl⟩, _, _, rfl, fun b o e => e⟩
          · intro D3 h7 tk7 ys7 n7 hD3 hpl7 hints7 hkp7
            dsimp only at hD3 hkp7 ⊢
            have hDf := fresh_ne Nx6 hD3
            simp only [List.mem_cons, forall_eq_or_imp] at hDf
            obtain ⟨f0, f1, f2, f3, f4, f5, f6, f7, f8, f9, _⟩ := hDf
            have F7 := Fr.up (by assumption) hkp7
            have N7 := fresh_led (by assumption) Nx6 (fun b o e _ => hkp7 b o e) hD3 hpl7
            clear Nx6
            have hfil : (edgesL (i : Int)).filter (fun _ => true) = edgesL (i : Int) := List.filter_eq_self.mpr fun _ _ => rfl
            rw [hfil] at hints7
            k_steps
            unfold Held
            refine comp_rangeI 0 6 6 (fun n => !(((edgesL (i : Int)).map fun v => (numbersUp us bs i).getD (atOf bs (i : Int) v).toNat 0).any (· == n))) (fun v => v) rfl rfl (by decide) rfl (by decide) rfl (by decide) (by decide) (by decide) ?_
            k_steps
            unfold Held
            have Nx8 := ‹News _ _ _ (_ :: _)›
            have ND8 := (Nx8 (D3, listOf ys7 n7) (by repeat (first | exact List.Mem.head _ | apply List.Mem.tail))).1
            refine ⟨_, _, _, _, rfl, by assumption, ⟨?_, ?_⟩, ?_⟩
            · intro C k tk3 s₃ m₃ E' hk hn hm hkp
              have hD8 : s₃.heap.IsList D3 ys7.toList.toArray := ⟨_, hkp _ _ ND8, rfl, n7, rfl⟩
              refine one_test ?_
              k_steps
              unfold Held
              refine notin_list_ints hD8 hints7 ?_
              k_steps
              all_goals first | exact ⟨_, _, rfl, fun b o e => e⟩ | rfl | simp [*]
            · intro C k tk3 s₃ m₃ E' hk hpk hn hm hkp
              refine cn_local hn hm ?_
              exact ⟨⟨_, rfl⟩, _, _, rfl, fun b o e => e⟩
            · intro D4 h9 tk9 ys9 n9 hD4 hpl9 hints9 hkp9
              dsimp only at hD4 hkp9 ⊢
              have hDf := fresh_ne Nx8 hD4
              simp only [List.mem_cons, forall_eq_or_imp] at hDf
              obtain ⟨g0, g1, g2, g3, g4, g5, g6, g7, g8, g9, g10, _⟩ := hDf
              have F9 := Fr.up (by assumption) hkp9
              have N9 := fresh_led (by assumption) Nx8 (fun b o e _ => hkp9 b o e) hD4 hpl9
              clear Nx8
              rw [List.map_id'] at hints9
              k_steps
              unfold Held
              refine min_list_N rfl (by assumption) (by assumption) (vs := ys9.toList) ⟨_, hpl9, rfl, n9, rfl⟩ hints9 (List.length_pos_iff.mpr (least_ne (by rw [List.length_map]; exact edges_five _))) fun h10 M t10 tk10 F10 N10 hM1 hM2 => ?_
              have hMl := least_is hM1 hM2
              clear hM1 hM2
              subst hMl
              k_steps
              refine' num_end ?F ?N hoff ?h0 ?h1 ?h2 ?h3 ?h4 ?h5 ?h6 ?h7 hnum ?hx ?d1 ?d2 ?d3
              case F => assumption
              case N => assumption
              case h0 => repeat (first | exact List.Mem.head _ | apply List.Mem.tail)
              case h1 => repeat (first | exact List.Mem.head _ | apply List.Mem.tail)
              case h2 => repeat (first | exact List.Mem.head _ | apply List.Mem.tail)
              case h3 => repeat (first | exact List.Mem.head _ | apply List.Mem.tail)
              case h4 => repeat (first | exact List.Mem.head _ | apply List.Mem.tail)
              case h5 => repeat (first | exact List.Mem.head _ | apply List.Mem.tail)
              case h6 => repeat (first | exact List.Mem.head _ | apply List.Mem.tail)
              case h7 => exact fun p hp => by simp [hp]
              case d1 => assumption
              case d2 => assumption
              case d3 => assumption
              case hx => (unfold numTurn; rw [if_neg (by simp [hb0])])
        · have hb0 : badL us (edgesL (i : Int)) ≠ [] := fun q => by
            have h9 : ys5.toList.isEmpty = false := by assumption
            rw [q] at hints5
            have h8 := hints5.length
            rw [List.length_eq_zero_iff.mp h8] at h9
            cases h9
          k_steps
          refine' num_end ?F ?N hoff ?h0 ?h1 ?h2 ?h3 ?h4 ?h5 ?h6 ?h7 hnum ?hx ?d1 ?d2 ?d3
          case F => assumption
          case N => assumption
          case h0 => repeat (first | exact List.Mem.head _ | apply List.Mem.tail)
          case h1 => repeat (first | exact List.Mem.head _ | apply List.Mem.tail)
          case h2 => repeat (first | exact List.Mem.head _ | apply List.Mem.tail)
          case h3 => repeat (first | exact List.Mem.head _ | apply List.Mem.tail)
          case h4 => repeat (first | exact List.Mem.head _ | apply List.Mem.tail)
          case h5 => repeat (first | exact List.Mem.head _ | apply List.Mem.tail)
          case h6 => repeat (first | exact List.Mem.head _ | apply List.Mem.tail)
          case h7 => exact fun p hp => by simp [hp]
          case d1 => assumption
          case d2 => assumption
          case d3 => assumption
          case hx => (unfold numTurn; rw [if_pos hb0])
  · intro its e oF oE oH h tk hnum Fd Nd
    have hx := Nd (_, listOf its e) (.head _)
    simp only [NumLed] at Nd
    k_steps
    refine hret _ _ _ ⟨⟨_, rfl, fresh_of kn hx.2.2, ⟨_, ⟨_, hx.1, rfl, _, rfl⟩, hnum⟩⟩, kept_end kn (by assumption)⟩
end
section
open PySem PySem.W PyProof.Rows PySem.Spec PySem.Calls
set_option Elab.async false
set_option maxRecDepth 100000
set_option linter.all false
section
variable {prog : Program} {w : World} {A : Around} {E : Value → Shared → Prop} {R : Result → Shared → Prop} {s : Shared}
theorem turn2_in (elt t0 i0 t1 i1 : Expr) (scope : Scope) (pos : Pos) (it acc : Value) (env : Env) :
    compTurn (.ListComp elt [⟨t0, i0, [], 0⟩, ⟨t1, i1, [], 0⟩] scope pos) 1 it acc env = (do
      standAt i1.pos
      match ← pyNext it with
      | none => pure (.done .next)
      | some v =>
        letOwnedTupleGo t1 it v
        assign t1 env v
        (do let _ ← call (.builtin "list.append") [acc, ← eval elt env])
        again (.compLoop (.ListComp elt [⟨t0, i0, [], 0⟩, ⟨t1, i1, [], 0⟩] scope pos) 1 it acc env)) := by rfl
theorem turn2_out (elt t0 i0 t1 i1 : Expr) (scope : Scope) (pos : Pos) (it acc : Value) (env : Env) :
    compTurn (.ListComp elt [⟨t0, i0, [], 0⟩, ⟨t1, i1, [], 0⟩] scope pos) 0 it acc env = (do
      standAt i0.pos
      match ← pyNext it with
      | none => pure (.done .next)
      | some v =>
        letOwnedTupleGo t0 it v
        assign t0 env v
        let x ← eval i1 env
        standAt i1.pos
        let x ← foldedSetIterable i1 env x
        let _ ← runOwn (.compStart (.ListComp elt [⟨t0, i0, [], 0⟩, ⟨t1, i1, [], 0⟩] scope pos) 1 (← holding [x] (pyIter x)) acc env) env
        again (.compLoop (.ListComp elt [⟨t0, i0, [], 0⟩, ⟨t1, i1, [], 0⟩] scope pos) 0 it acc env)) := by rfl
theorem loop2_in {elt t0 i0 t1 i1 : Expr} {scope : Scope} {pos : Pos} {it acc : Value} {env : Env} (I : Nat → Shared → Prop)
    (turn : ∀ n s, I n s → wpAny (model prog w) A (pyNext it) (fun r s₁ => match r with
      | none => R (.ok .next) s₁
      | some v => wpAny (model prog w) A (assign t1 env v) (fun _ s₃ =>
            wpAny (model prog w) A (eval elt env) (fun x s₄ =>
              wpAny (model prog w) A (call (.builtin "list.append") [acc, x]) (fun _ s₅ => ∃ m, m < n ∧ I m s₅) (notedBy (model prog w) A env fun e s' => R (.error e) s') s₄) (notedBy (model prog w) A env fun e s' => R (.error e) s') s₃) (notedBy (model prog w) A env fun e s' => R (.error e) s') s₁) (notedBy (model prog w) A env fun e s' => R (.error e) s') s)
    (n : Nat) (h : I n s) (ht : ∀ v, letOwnedTupleGo t1 it v = pure () := by intro _; rfl) :
    codeAny (model prog w) A (.compLoop (.ListComp elt [⟨t0, i0, [], 0⟩, ⟨t1, i1, [], 0⟩] scope pos) 1 it acc env) R s := by
  refine codeAny_loop rfl I (fun n s hI => ?_) n h
  show wpAny _ A ((compTurn (.ListComp elt [⟨t0, i0, [], 0⟩, ⟨t1, i1, [], 0⟩] scope pos) 1 it acc env).onRaise (fun x => do noteFrame x env; theTreesLotGoes x)) _ _ s
  refine wpAny_noted ?_
  rw [turn2_in]
  refine wpAny_bind (wpAny_standAt (wpAny_bind (wpAny_mono (turn n s hI) (fun r s₁ h₁ => ?_) fun _ _ h' => h')))
  cases r with
  | none => exact wpAny_pure h₁
  | some v =>
    refine wpAny_bind (wpAny_of_eq (ht v) ?_)
    refine wpAny_bind (wpAny_mono h₁ (fun _ s₃ h₃ => ?_) fun _ _ h' => h')
    exact wpAny_bind (wpAny_bind (wpAny_mono h₃ (fun x s₄ h₄ => wpAny_bind (wpAny_mono h₄ (fun _ s₅ h₅ => wpAny_pure (wpAny_pure ⟨rfl, h₅⟩)) fun _ _ h' => h')) fun _ _ h' => h'))
theorem loop2_out {elt t0 i0 t1 i1 : Expr} {scope : Scope} {pos : Pos} {it acc : Value} {env : Env} (I : Nat → Shared → Prop)
    (turn : ∀ n s, I n s → wpAny (model prog w) A (pyNext it) (fun r s₁ => match r with
      | none => R (.ok .next) s₁
      | some v => wpAny (model prog w) A (assign t0 env v) (fun _ s₃ =>
            wpAny (model prog w) A (eval i1 env) (fun x s₄ => wpAny (model prog w) A (pyIter x) (fun it' s₅ =>
              codeAny (model prog w) A (.compStart (.ListComp elt [⟨t0, i0, [], 0⟩, ⟨t1, i1, [], 0⟩] scope pos) 1 it' acc env) (fun r s₆ => match r with | .ok _ => ∃ m, m < n ∧ I m s₆ | .error e => cameBackBy (model prog w) A env (notedBy (model prog w) A env fun e s' => R (.error e) s') e s₆) s₅)
              (notedBy (model prog w) A env fun e s' => R (.error e) s') s₄) (notedBy (model prog w) A env fun e s' => R (.error e) s') s₃) (notedBy (model prog w) A env fun e s' => R (.error e) s') s₁) (notedBy (model prog w) A env fun e s' => R (.error e) s') s)
    (n : Nat) (h : I n s) (ht : ∀ v, letOwnedTupleGo t0 it v = pure () := by intro _; rfl) (hs : ∀ x, foldedSetIterable i1 env x = pure x := by intro _; rfl) :
    codeAny (model prog w) A (.compLoop (.ListComp elt [⟨t0, i0, [], 0⟩, ⟨t1, i1, [], 0⟩] scope pos) 0 it acc env) R s := by
  refine codeAny_loop rfl I (fun n s hI => ?_) n h
  show wpAny _ A ((compTurn (.ListComp elt [⟨t0, i0, [], 0⟩, ⟨t1, i1, [], 0⟩] scope pos) 0 it acc env).onRaise (fun x => do noteFrame x env; theTreesLotGoes x)) _ _ s
  refine wpAny_noted ?_
  rw [turn2_out]
  refine wpAny_bind (wpAny_standAt (wpAny_bind (wpAny_mono (turn n s hI) (fun r s₁ h₁ => ?_) fun _ _ h' => h')))
  cases r with
  | none => exact wpAny_pure h₁
  | some v =>
    refine wpAny_bind (wpAny_of_eq (ht v) ?_)
    refine wpAny_bind (wpAny_mono h₁ (fun _ s₃ h₃ => ?_) fun _ _ h' => h')
    refine wpAny_bind (wpAny_mono h₃ (fun x s₄ h₄ => ?_) fun _ _ h' => h')
    refine wpAny_bind (wpAny_standAt (wpAny_bind (wpAny_of_eq (hs x) ?_)))
    refine wpAny_bind (wpAny_holding (wpAny_mono h₄ (fun it' s₅ h₅ => ?_) fun _ _ h' => h'))
    exact wpAny_bind (wpAny_runOwn (codeAny_mono h₅ fun r s₆ h₆ => by
      cases r with
      | ok f => exact wpAny_pure ⟨rfl, h₆⟩
      | error e => exact h₆))
theorem start2_in {elt t0 i0 t1 i1 : Expr} {scope : Scope} {pos : Pos} {it acc : Value} {env : Env}
    (h0 : codeAny (model prog w) A (.compLoop (.ListComp elt [⟨t0, i0, [], 0⟩, ⟨t1, i1, [], 0⟩] scope pos) 1 it acc env) R s)
    (h : wpAny (model prog w) A (pyIter it) (fun it' s' => codeAny (model prog w) A (.compLoop (.ListComp elt [⟨t0, i0, [], 0⟩, ⟨t1, i1, [], 0⟩] scope pos) 1 it' acc env) R s')
      (notedBy (model prog w) A env fun x s' => R (.error x) s') s) :
    codeAny (model prog w) A (.compStart (.ListComp elt [⟨t0, i0, [], 0⟩, ⟨t1, i1, [], 0⟩] scope pos) 1 it acc env) R s := by
  refine codeAny_of_tree ?_
  show wpAny _ _ ((compStart (.ListComp elt [⟨t0, i0, [], 0⟩, ⟨t1, i1, [], 0⟩] scope pos) 1 it acc env).onRaise (fun x => do noteFrame x env; standAt theWindowsPlace)) _ _ s
  refine wpAny_notedAt ?_
  unfold compStart
  show wpAny _ _ (ask >>= _) _ _ s
  refine wpAny_bind (wpAny_askSetting (wpAny_ite ?_))
  split
  · first
      | exact wpAny_bind (wpAny_pure (wpAny_pure (And.intro rfl h0)))
      | exact wpAny_pure (And.intro rfl h0)
  · first
      | exact wpAny_bind (wpAny_rule (wpAny_bind (wpAny_standAt (wpAny_bind (wpAny_mono h (fun it' s' h' => wpAny_pure (And.intro rfl h')) fun _ _ x => x)))))
      | (refine wpAny_bind (wpAny_rule ?_); show wpAny _ _ (standAt i1.pos >>= _) _ _ s; exact wpAny_bind (wpAny_standAt (wpAny_bind (wpAny_mono h (fun it' s' h' => wpAny_pure (And.intro rfl h')) fun _ _ x => x))))
end
section
variable {prog : Program} {w : World} {A : Around} {E : Value → Shared → Prop} {s : Shared} {env : Env}
noncomputable def pairs2 (us vs : List Value) : List (Value × Value) := us.flatMap fun a => vs.map fun b => (a, b)
/-- an iterator over a list, at a place -/
noncomputable def ItAt (h : Heap) (I l : Addr) (vs : List Value) (i : Nat) : Prop := h.IsListIter I l i ∧ h.IsList l vs.toArray
theorem ItAt.keep {h h' : Heap} {I l : Addr} {vs : List Value} {i : Nat} (H : ItAt h I l vs i) (k : ∀ b, b = I ∨ b = l → ∀ o, h.get? b = some o → h'.get? b = some o) : ItAt h' I l vs i :=
  ⟨H.1.at fun o e => k I (.inl rfl) o e, H.2.at fun o e => k l (.inr rfl) o e⟩
/-- the inner loop of a comprehension over two lists -/
theorem inner2 {R : Result → Shared → Prop} {elt t0 i0 i1 : Expr} {scope : Scope} {pos pb : Pos} {xb : Str} {D I0 I1 l : Addr} {vs : List Value} {cenv : Env} {old : Heap} (G : Value → Value → Value → Prop) (a : Value) (xa : Str) (prev : List (Value × Value)) (i : Nat)
    (hh : A.handled = none) (hx : cenv.kindOf xb = some .local) (hab : xa ≠ xb) (hp : (cenv.scope.kind == .class || (cenv.scope.kind == .module && cenv.locals != cenv.globals)) = false)
    (dDC : D ≠ cenv.locals) (d1D : I1 ≠ D) (d1C : I1 ≠ cenv.locals) (d10 : I1 ≠ I0) (d0D : I0 ≠ D) (d0C : I0 ≠ cenv.locals) (dlD : l ≠ D) (dlC : l ≠ cenv.locals) (dl1 : l ≠ I1)
    (oD : old.get? D = none) (oC : old.get? cenv.locals = none) (o1 : old.get? I1 = none) (hlen : vs.length ≤ 1000) (hprev : prev.length ≤ 1000000)
    (elts : ∀ b s₃ m₃ E', b ∈ vs → s₃.heap.Ns cenv.locals m₃ → m₃ xa = some a → m₃ xb = some b → (∀ b o, old.get? b = some o → s₃.heap.get? b = some o) → wpAny (model prog w) A (eval elt cenv) (fun y s₄ => G a b y ∧ Keeps s₃ s₄) E' s₃)
    (m : Str → Option Value) (hm : m xa = some a) (ys : Array Value) (h1 : ItAt s.heap I1 l vs 0) (h0 : ItAt s.heap I0 l vs i) (hD : s.heap.PlainList D ys) (hC : s.heap.Ns cenv.locals m) (hP : Paired (fun p y => G p.1 p.2 y) prev ys.toList) (hk : ∀ b o, old.get? b = some o → s.heap.get? b = some o)
    (done : ∀ h' tk m' ys', ItAt h' I0 l vs i → h'.PlainList D ys' → h'.Ns cenv.locals m' → Paired (fun p y => G p.1 p.2 y) (prev ++ vs.map fun b => (a, b)) ys'.toList → (∀ b o, old.get? b = some o → h'.get? b = some o) → R (.ok .next) { s with heap := h', toks := tk }) :
    codeAny (model prog w) A (.compLoop (.ListComp elt [⟨t0, i0, [], 0⟩, ⟨.Name xb pb, i1, [], 0⟩] scope pos) 1 (.ref I1) (.ref D) cenv) R s := by
  have W := Walks.list (prog := prog) (w := w) hh I1 l dl1 vs.toArray
  have hsz : vs.toArray.size = vs.length := by simp
  refine loop2_in (fun k s' => ∃ H tk m' ys' j, s' = { s with heap := H, toks := tk } ∧ ItAt H I1 l vs j ∧ ItAt H I0 l vs i ∧ H.PlainList D ys' ∧ H.Ns cenv.locals m' ∧ m' xa = some a ∧ Paired (fun p y => G p.1 p.2 y) (prev ++ (vs.take j).map fun b => (a, b)) ys'.toList ∧ j ≤ vs.length ∧ k = vs.length + 1 - j ∧ (∀ b o, old.get? b = some o → H.get? b = some o)) ?_ (vs.length + 1)
    ⟨s.heap, s.toks, m, ys, 0, rfl, h1, h0, hD, hC, hm, by simpa using hP, Nat.zero_le _, rfl, hk⟩
  rintro k s' ⟨H, tk, m', ys', j, rfl, h1', h0', hD', hC', hm', hP', hj, rfl, hk'⟩
  by_cases hlt : j < vs.length
  · refine W.item j _ _ _ (by omega) h1' fun v h₁ tk₁ hv hst₁ hk₁ => ?_
    have hv' : vs[j]? = some v := by simpa using hv
    have up1 : ∀ b, b ≠ I1 → ∀ o, H.get? b = some o → h₁.get? b = some o := fun b hb o e => hk₁ b o (by simpa using hb) e
    refine wpAny_assign_Name (wpAny_storeName_local hx (hC'.at' fun o e => up1 _ d1C.symm o e) (fun h₂ hn₂ hs₂ => ?_) hp)
    have up2 : ∀ b, b ≠ I1 → b ≠ cenv.locals → ∀ o, H.get? b = some o → h₂.get? b = some o := fun b b1 b2 o e => (hs₂.2 b b2).trans (up1 b b1 o e)
    have hold2 : ∀ b o, old.get? b = some o → h₂.get? b = some o := fun b o e => up2 b (fun q => by rw [q, o1] at e; cases e) (fun q => by rw [q, oC] at e; cases e) o (hk' b o e)
    have e1 : ItAt h₂ I1 l vs (j + 1) := ItAt.keep ⟨hst₁.1, hst₁.2⟩ fun b hb o e => (hs₂.2 b (by rcases hb with rfl | rfl; exact d1C; exact dlC)).trans e
    have e0 : ItAt h₂ I0 l vs i := h0'.keep fun b hb o e => up2 b (by rcases hb with rfl | rfl; exact d10.symm; exact dl1) (by rcases hb with rfl | rfl; exact d0C; exact dlC) o e
    have eD : h₂.PlainList D ys' := hD'.at fun o e => up2 D d1D.symm dDC o e
    refine wpAny_mono (elts v _ _ _ (List.mem_of_getElem? hv') hn₂ (by simp [hab, hm']) (by simp) hold2) (fun y s₄ h₄ => ?_) fun _ _ e => e
    obtain ⟨hG, h3, tk3, rfl, hk3⟩ := h₄
    have hys : ys'.size ≤ sizeLine := by
      have e5 := hP'.length
      simp only [List.length_append, List.length_map, List.length_take, Array.length_toList] at e5
      rw [sizeLine_eq]; omega
    refine wpAny_list_append_plain (hsz := hys) (eD.at fun o e => hk3 _ o e) fun h₅ hl₅ hs₅ => ?_
    have up5 : ∀ b, b ≠ D → ∀ o, h₂.get? b = some o → h₅.get? b = some o := fun b hb o e => (hs₅.2 b hb).trans (hk3 b o e)
    refine ⟨vs.length + 1 - (j + 1), by omega, h₅, tk3, _, ys'.push y, j + 1, rfl, e1.keep fun b hb o e => up5 b (by rcases hb with rfl | rfl; exact d1D; exact dlD) o e, e0.keep fun b hb o e => up5 b (by rcases hb with rfl | rfl; exact d0D; exact dlD) o e, hl₅,
      (hn₂.keeps hk3).sameBut hs₅ dDC.symm, by simp [hab, hm'], ?_, hlt, rfl, fun b o e => up5 b (fun q => by rw [q, oD] at e; cases e) o (hold2 b o e)⟩
    have et : vs.take (j + 1) = vs.take j ++ [v] := by simp [List.take_add_one, hv']
    rw [et, List.map_append, ← List.append_assoc, Array.toList_push]
    exact Paired.snoc hP' hG
  · obtain rfl : j = vs.length := by omega
    refine W.done _ _ _ (hsz ▸ h1') fun h₁ tk₁ hk₁ => ?_
    have up1 : ∀ b, b ≠ I1 → ∀ o, H.get? b = some o → h₁.get? b = some o := fun b hb o e => hk₁ b o (by simpa using hb) e
    rw [List.take_length] at hP'
    exact done h₁ tk₁ m' ys' (h0'.keep fun b hb o e => up1 b (by rcases hb with rfl | rfl; exact d10.symm; exact dl1) o e) (hD'.at fun o e => up1 D d1D.symm o e) (hC'.at' fun o e => up1 _ d1C.symm o e) hP' fun b o e => up1 b (fun q => by rw [q, o1] at e; cases e) o (hk' b o e)
theorem take_pairs {vs us : List Value} {i : Nat} {a : Value} (h : us[i]? = some a) : pairs2 (us.take (i + 1)) vs = pairs2 (us.take i) vs ++ vs.map fun b => (a, b) := by
  have et : us.take (i + 1) = us.take i ++ [a] := by simp [List.take_add_one, h]
  unfold pairs2
  rw [et, List.flatMap_append]
  simp
theorem pairs_len (us vs : List Value) : (pairs2 us vs).length = us.length * vs.length := by
  unfold pairs2
  induction us with
  | nil => simp
  | cons a us ih => simp [List.flatMap_cons, ih, Nat.add_mul, Nat.add_comm]
/-- the block of a comprehension over a list, twice -/
theorem comp2_block {elt it0 it1 : Expr} {xa xb : Str} {pa pb : Pos} {scope : Scope} {cl : List (Str × Addr)} {pos : Pos} {RR : Value → Addr → Result → Shared → Prop} {s₁ : Shared} {l : Addr} {vs : List Value} (G : Value → Value → Value → Prop)
    (hh : A.handled = none) (hcell : ∀ y ∈ scope.names, y.2 ≠ .cell) (hkind : scope.kind = .function)
    (hxa : scope.names.lookup xa = some .local) (hxb : scope.names.lookup xb = some .local) (hab : xa ≠ xb) (hl : s₁.heap.IsList l vs.toArray) (hlen : vs.length ≤ 1000)
    (hit : ∀ C s₃ m₃ E', s₃.heap.Ns C m₃ → (∀ b o, s₁.heap.get? b = some o → s₃.heap.get? b = some o) → wpAny (model prog w) A (eval it1 (compEnvC scope cl C env)) (fun yv s₄ => yv = .ref l ∧ Keeps s₃ s₄) E' s₃)
    (helt : ∀ C a b s₃ m₃ E', a ∈ vs → b ∈ vs → s₃.heap.Ns C m₃ → m₃ xa = some a → m₃ xb = some b → (∀ b o, s₁.heap.get? b = some o → s₃.heap.get? b = some o) → wpAny (model prog w) A (eval elt (compEnvC scope cl C env)) (fun y s₄ => G a b y ∧ Keeps s₃ s₄) E' s₃)
    (hQ : ∀ D C h' tk m' ys n, s₁.heap.get? D = none → s₁.heap.get? C = none → D ≠ C → h'.Ns C m' → h'.get? D = some (listOf ys n) → Paired (fun p y => G p.1 p.2 y) (pairs2 vs vs) ys.toList → (∀ b o, s₁.heap.get? b = some o → h'.get? b = some o) → RR (.ref D) C (.ok .next) { s₁ with heap := h', toks := tk })
    (hs1 : ∀ C x, foldedSetIterable it1 (compEnvC scope cl C env) x = pure x := by intro _ _; rfl) :
    wpAny (model prog w) A (pyIter (.ref l)) (fun it s₂ => wpAny (model prog w) A (newList []) (fun acc s₃ => wpAny (model prog w) A (newFunctionEnv scope env.globals cl [] env.qual none .none (some env)) (fun cenv s₄ =>
      codeAny (model prog w) A (.compStart (.ListComp elt [⟨.Name xa pa, it0, [], 0⟩, ⟨.Name xb pb, it1, [], 0⟩] scope pos) 0 it acc { cenv with scope := relabel scope env }) (RR acc cenv.locals) s₄) E s₃) E s₂) E s₁ := by
  refine wpAny_pyIter_list hl ?_
  obtain ⟨ol, hol, _⟩ := id hl
  have hll : l < s₁.heap.objs.size := Heap.lt_size hol
  generalize hI0 : s₁.heap.objs.size = I0 at *
  generalize hH1 : s₁.heap.push { cls := .type "list_iterator", data := .fields #[.ref l, .int 0 0] } = H1
  have sz1 : H1.objs.size = I0 + 1 := by rw [← hH1, Heap.size_push, hI0]
  have old1 : ∀ b o, s₁.heap.get? b = some o → H1.get? b = some o := fun b o e => hH1 ▸ Heap.get?_push_of_some _ e
  have itr : H1.get? I0 = some { cls := .type "list_iterator", data := .fields #[.ref l, .int 0 0] } := by rw [← hH1, ← hI0]; exact Heap.get?_push_size _ rfl
  refine wpAny_newObj_type (wpAny_newFunctionEnv hcell (by intro y hy; simp at hy) (fun h₁ hns₁ hsb₁ => ?_) hkind)
  dsimp only at hns₁ hsb₁ ⊢
  have eD : H1.objs.size = I0 + 1 := sz1
  generalize hH2 : H1.push { cls := .type "list", dict := none, data := .seq ([] : List Value).toArray } = H2 at hns₁ hsb₁ ⊢
  have hC : H2.objs.size = I0 + 2 := by rw [← hH2, Heap.size_push, sz1]
  have lt0 : ∀ b o, s₁.heap.get? b = some o → b < I0 := fun b o e => hI0 ▸ Heap.lt_size e
  have up : ∀ b o, H1.get? b = some o → h₁.get? b = some o := fun b o e => hsb₁.extBut b o (by rw [hC]; have := Heap.lt_size e; rw [sz1] at this; exact Nat.ne_of_lt (Nat.lt_succ_of_lt this)) (Heap.get?_push_of_some _ (hH2 ▸ Heap.get?_push_of_some _ e))
  have old : ∀ b o, s₁.heap.get? b = some o → h₁.get? b = some o := fun b o e => up b o (old1 b o e)
  have hDC : H1.objs.size ≠ H2.objs.size := by rw [sz1, hC]; exact Nat.ne_of_lt (Nat.lt_succ_self _)
  have hacc : h₁.PlainList H1.objs.size #[] := ⟨_, hsb₁.extBut _ _ hDC (Heap.get?_push_of_some _ (hH2 ▸ Heap.get?_push_size _ rfl))⟩
  have non : ∀ a, I0 ≤ a → s₁.heap.get? a = none := fun a ha => by
    cases e : s₁.heap.get? a with
    | none => rfl
    | some o' => exact absurd (lt0 a o' e) (Nat.not_lt.mpr ha)
  have hI : ItAt h₁ I0 l vs 0 := ⟨⟨_, up _ _ itr, rfl, rfl⟩, hl.at fun o e => old l o e⟩
  have n1 : l ≠ I0 := Nat.ne_of_lt hll
  have n2 : l ≠ H1.objs.size := by rw [sz1]; exact Nat.ne_of_lt (Nat.lt_succ_of_lt hll)
  have n3 : l ≠ H2.objs.size := by rw [hC]; exact Nat.ne_of_lt (Nat.lt_succ_of_lt (Nat.lt_succ_of_lt hll))
  have n4 : I0 ≠ H1.objs.size := by rw [sz1]; exact Nat.ne_of_lt (Nat.lt_succ_self _)
  have n5 : I0 ≠ H2.objs.size := by rw [hC]; exact Nat.ne_of_lt (Nat.lt_succ_of_lt (Nat.lt_succ_self _))
  have oD : s₁.heap.get? H1.objs.size = none := non _ (by rw [sz1]; exact Nat.le_succ _)
  have oC : s₁.heap.get? H2.objs.size = none := non _ (by rw [hC]; exact Nat.le_add_right _ _)
  have o0 : s₁.heap.get? I0 = none := non _ (Nat.le_refl _)
  generalize H1.objs.size = D at *
  generalize H2.objs.size = C at *
  have kA : (compEnvC scope cl C env).kindOf xa = some .local := lookup_relabel_local hxa
  have kB : (compEnvC scope cl C env).kindOf xb = some .local := lookup_relabel_local hxb
  have kp : ((compEnvC scope cl C env).scope.kind == .class || ((compEnvC scope cl C env).scope.kind == .module && (compEnvC scope cl C env).locals != (compEnvC scope cl C env).globals)) = false := by simp [compEnvC, relabel, hkind]
  have W := Walks.list (prog := prog) (w := w) hh I0 l n1 vs.toArray
  have hsz : vs.toArray.size = vs.length := by simp
  have loop : ∀ s₃ : Shared, s₃ = { s₁ with heap := h₁, toks := s₁.toks + ([] : List (Str × Value)).length } →
      codeAny (model prog w) A (.compLoop (.ListComp elt [⟨.Name xa pa, it0, [], 0⟩, ⟨.Name xb pb, it1, [], 0⟩] scope pos) 0 (.ref I0) (.ref D) (compEnvC scope cl C env)) (RR (.ref D) C) s₃ := by
    rintro s₃ rfl
    refine loop2_out (fun k s' => ∃ H tk m' ys' i, s' = { s₁ with heap := H, toks := tk } ∧ ItAt H I0 l vs i ∧ H.PlainList D ys' ∧ H.Ns C m' ∧ Paired (fun p y => G p.1 p.2 y) (pairs2 (vs.take i) vs) ys'.toList ∧ i ≤ vs.length ∧ k = vs.length + 1 - i ∧ (∀ b o, s₁.heap.get? b = some o → H.get? b = some o)) ?_ (vs.length + 1)
      ⟨h₁, _, _, #[], 0, rfl, hI, hacc, hns₁, by simpa [pairs2] using Paired.nil, Nat.zero_le _, rfl, old⟩ (hs := hs1 C)
    rintro k s' ⟨H, tk, m', ys', i, rfl, h0', hD', hC', hP', hi, rfl, hk'⟩
    by_cases hlt : i < vs.length
    · refine W.item i _ _ _ (by omega) h0' fun v h₂ tk₂ hv hst₂ hk₂ => ?_
      have hv' : vs[i]? = some v := by simpa using hv
      have up1 : ∀ b, b ≠ I0 → ∀ o, H.get? b = some o → h₂.get? b = some o := fun b hb o e => hk₂ b o (by simpa using hb) e
      refine wpAny_assign_Name (wpAny_storeName_local kA (hC'.at' fun o e => up1 _ n5.symm o e) (fun h₃ hn₃ hs₃ => ?_) kp)
      have up2 : ∀ b, b ≠ I0 → b ≠ C → ∀ o, H.get? b = some o → h₃.get? b = some o := fun b b1 b2 o e => (hs₃.2 b b2).trans (up1 b b1 o e)
      have hold3 : ∀ b o, s₁.heap.get? b = some o → h₃.get? b = some o := fun b o e => up2 b (fun q => by rw [q, o0] at e; cases e) (fun q => by rw [q, oC] at e; cases e) o (hk' b o e)
      have e0 : ItAt h₃ I0 l vs (i + 1) := ItAt.keep ⟨hst₂.1, hst₂.2⟩ fun b hb o e => (hs₃.2 b (by rcases hb with rfl | rfl; exact n5; exact n3)).trans e
      have eD : h₃.PlainList D ys' := hD'.at fun o e => up2 D n4.symm hDC o e
      refine wpAny_mono (hit C _ _ _ hn₃ hold3) (fun yv s₄ h₄ => ?_) fun _ _ e => e
      obtain ⟨rfl, h4, tk4, rfl, hk4⟩ := h₄
      refine wpAny_pyIter_list (e0.2.at fun o e => hk4 _ o e) ?_
      have szD : D < h4.objs.size := by obtain ⟨_, e⟩ := eD; exact Heap.lt_size (hk4 _ _ e)
      have szC : C < h4.objs.size := by obtain ⟨o, _, _, e, _⟩ := hn₃; exact Heap.lt_size (hk4 _ _ e)
      have sz0 : I0 < h4.objs.size := by obtain ⟨⟨o, e, _⟩, _⟩ := id e0; exact Heap.lt_size (hk4 _ _ e)
      have szl : l < h4.objs.size := by obtain ⟨_, ⟨o, e, _⟩⟩ := id e0; exact Heap.lt_size (hk4 _ _ e)
      have o1 : s₁.heap.get? h4.objs.size = none := non _ (Nat.le_of_lt sz0)
      have up5 : ∀ b o, h₃.get? b = some o → (h4.push { cls := .type "list_iterator", data := .fields #[.ref l, .int 0 0] }).get? b = some o := fun b o e => Heap.get?_push_of_some _ (hk4 b o e)
      have inner := fun (R : Result → Shared → Prop) (tk5 : Nat) done => inner2 (s := { s₁ with heap := h4.push { cls := .type "list_iterator", data := .fields #[.ref l, .int 0 0] }, toks := tk5 }) (R := R) (elt := elt) (t0 := .Name xa pa) (i0 := it0) (i1 := it1) (scope := scope) (pos := pos) (pb := pb) (cenv := compEnvC scope cl C env) (old := s₁.heap) (I1 := h4.objs.size) G v xa (pairs2 (vs.take i) vs) (i + 1)
        hh kB hab kp hDC (Nat.ne_of_gt szD) (Nat.ne_of_gt szC) (Nat.ne_of_gt sz0) n4 n5 n2 n3 (Nat.ne_of_lt szl) oD oC o1 hlen (by rw [pairs_len]; exact Nat.le_trans (Nat.mul_le_mul (Nat.le_trans (by rw [List.length_take]; exact Nat.min_le_right _ _) hlen) hlen) (by decide))
        (fun b s₃ m₃ E' hb hn hma hmb hk => helt C v b s₃ m₃ E' (List.mem_of_getElem? hv') hb hn hma hmb hk) _ (by simp) ys' ⟨⟨_, Heap.get?_push_size _ rfl, rfl, rfl⟩, e0.2.at fun o e => up5 _ o e⟩ (e0.keep fun b _ o e => up5 b o e) (eD.at fun o e => up5 _ o e) (hn₃.keeps up5) hP' (fun b o e => up5 b o (hold3 b o e)) done
      have fin : ∀ tk5, codeAny (model prog w) A (.compLoop (.ListComp elt [⟨.Name xa pa, it0, [], 0⟩, ⟨.Name xb pb, it1, [], 0⟩] scope pos) 1 (.ref h4.objs.size) (.ref D) (compEnvC scope cl C env))
          (fun r s₆ => match r with | .ok _ => ∃ m, m < vs.length + 1 - i ∧ (∃ H tk m' ys' i, s₆ = { s₁ with heap := H, toks := tk } ∧ ItAt H I0 l vs i ∧ H.PlainList D ys' ∧ H.Ns C m' ∧ Paired (fun p y => G p.1 p.2 y) (pairs2 (vs.take i) vs) ys'.toList ∧ i ≤ vs.length ∧ m = vs.length + 1 - i ∧ (∀ b o, s₁.heap.get? b = some o → H.get? b = some o)) | .error e => cameBackBy (model prog w) A (compEnvC scope cl C env) (notedBy (model prog w) A (compEnvC scope cl C env) fun e s' => RR (.ref D) C (.error e) s') e s₆)
          { s₁ with heap := h4.push { cls := .type "list_iterator", data := .fields #[.ref l, .int 0 0] }, toks := tk5 } := fun tk5 => inner _ tk5 fun h' tk' m' ys'' b1 b2 b3 b4 b5 => by
        refine ⟨vs.length + 1 - (i + 1), by omega, h', tk', m', ys'', i + 1, rfl, b1, b2, b3, ?_, hlt, rfl, b5⟩
        rw [take_pairs hv']; exact b4
      exact start2_in (fin _) (wpAny_pyIter_listiter ⟨_, Heap.get?_push_size _ rfl, rfl, rfl⟩ (fin _))
    · obtain rfl : i = vs.length := by omega
      refine W.done _ _ _ (hsz ▸ h0') fun h₂ tk₂ hk₂ => ?_
      have up1 : ∀ b, b ≠ I0 → ∀ o, H.get? b = some o → h₂.get? b = some o := fun b hb o e => hk₂ b o (by simpa using hb) e
      rw [List.take_length] at hP'
      obtain ⟨n, hDn⟩ := hD'
      exact hQ D C h₂ tk₂ m' ys' n oD oC hDC (hC'.at' fun o e => up1 _ n5.symm o e) (up1 D n4.symm _ hDn) hP' fun b o e => up1 b (fun q => by rw [q, o0] at e; cases e) o (hk' b o e)
  exact codeAny_compStart_list (loop _ rfl) (W.self 0 _ _ _ ⟨hI.1, hI.2⟩ (loop _ rfl))
/-- a comprehension over a list, twice, bound to a name -/
theorem assign2_list {elt it0 it1 : Expr} {xa xb y : Str} {pa pb py : Pos} {scope : Scope} {cl : List (Str × Addr)} {pos spos : Pos} {Q : Flow → Shared → Prop} {l : Addr} {vs : List Value} (G : Value → Value → Value → Prop)
    (hsw : swapsWith (.ListComp elt [⟨.Name xa pa, it0, [], 0⟩, ⟨.Name xb pb, it1, [], 0⟩] scope pos) (some (.Name y py)) spos.line env = pure true)
    (hh : A.handled = none) (hclos : closureFor scope env = pure cl) (hcell : ∀ y ∈ scope.names, y.2 ≠ .cell) (hkind : scope.kind = .function)
    (hnames : ∀ y ∈ scope.names, y.2 = .local → scope.names.lookup y.1 = some .local) (hxa : scope.names.lookup xa = some .local) (hxb : scope.names.lookup xb = some .local) (hab : xa ≠ xb)
    (hy : env.kindOf y = some .local) (hp : (env.scope.kind == .class || (env.scope.kind == .module && env.locals != env.globals)) = false)
    (h : wpAny (model prog w) A (eval it0 env) (fun xv s₁ => Held (∃ m, xv = .ref l ∧ s₁.heap.IsList l vs.toArray ∧ vs.length ≤ 1000 ∧ s₁.heap.Ns env.locals m ∧
      (∀ C s₃ m₃ E', s₃.heap.Ns C m₃ → (∀ b o, s₁.heap.get? b = some o → s₃.heap.get? b = some o) → wpAny (model prog w) A (eval it1 (compEnvC scope cl C env)) (fun yv s₄ => yv = .ref l ∧ Keeps s₃ s₄) E' s₃) ∧
      (∀ C a b s₃ m₃ E', a ∈ vs → b ∈ vs → s₃.heap.Ns C m₃ → m₃ xa = some a → m₃ xb = some b → (∀ b o, s₁.heap.get? b = some o → s₃.heap.get? b = some o) → wpAny (model prog w) A (eval elt (compEnvC scope cl C env)) (fun y s₄ => G a b y ∧ Keeps s₃ s₄) E' s₃) ∧
      (∀ D h' tk ys n, s₁.heap.get? D = none → h'.get? D = some (listOf ys n) → Paired (fun p y => G p.1 p.2 y) (pairs2 vs vs) ys.toList → h'.Ns env.locals (fun z => if z = y then some (.ref D) else m z) → (∀ b o, b ≠ env.locals → s₁.heap.get? b = some o → h'.get? b = some o) → Q .next { s₁ with heap := h', toks := tk }))) E s)
    (hs : ∀ x, foldedSetIterable it0 env x = pure x := by intro _; rfl) (hs1 : ∀ C x, foldedSetIterable it1 (compEnvC scope cl C env) x = pure x := by intro _ _; rfl) :
    wpAny (model prog w) A (exec (.Assign [.Name y py] (.ListComp elt [⟨.Name xa pa, it0, [], 0⟩, ⟨.Name xb pb, it1, [], 0⟩] scope pos) spos) env) Q E s := by
  rw [exec_Assign_Name_used _ _ _ _ hsw]
  refine wpAny_bind (wpAny_standAt (wpAny_bind ?_))
  show wpAny _ A (do let _ ← comprehension (.ListComp elt [⟨.Name xa pa, it0, [], 0⟩, ⟨.Name xb pb, it1, [], 0⟩] scope pos) scope env _ (newList []) false (eval it0 env) (some (assign (.Name y py) env))) _ _ s
  refine wpAny_bind (wpAny_mono (wpAny_comprehension_free (use := some (assign (.Name y py) env)) (Q := fun _ s' => Q .next s') rfl hs hclos hkind hnames
    (wpAny_mono h (fun xv s₁ h₁ => ?_) fun _ _ e => e)) (fun _ s' hq => wpAny_pure (wpAny_pure hq)) fun _ _ e => e)
  obtain ⟨m, rfl, hl, hlen, hn, hit, helt, hQ⟩ := h₁
  refine comp2_block (RR := fun acc C => compPost (model prog w) A E (some (assign (.Name y py) env)) (fun _ s' => Q .next s') acc C) G hh hcell hkind hxa hxb hab hl hlen hit helt ?_ hs1
  intro D C h' tk m' ys n hD hC hDC hnC hDn hP hk
  have hLC : env.locals ≠ C := by rintro rfl; obtain ⟨o, _, _, ho, _⟩ := hn; rw [hC] at ho; cases ho
  have hLD : env.locals ≠ D := by rintro rfl; obtain ⟨o, _, _, ho, _⟩ := hn; rw [hD] at ho; cases ho
  show wpAny _ A (assign (.Name y py) env (.ref D)) _ _ _
  refine wpAny_assign_Name (wpAny_storeName_local hy (hn.at' fun o e => hk _ o e) (fun h₂ hn₂ hs₂ => ?_) hp)
  refine ⟨m', hnC.sameBut hs₂ (Ne.symm hLC), fun h₃ hs₃ => hQ D h₃ _ ys n hD ((hs₃.2 D hDC).trans ((hs₂.2 D hLD.symm).trans hDn)) hP (hn₂.sameBut hs₃ hLC) fun b o hb e => ?_⟩
  have hbC : b ≠ C := fun q => by rw [q, hC] at e; cases e
  exact (hs₃.2 b hbC).trans ((hs₂.2 b hb).trans (hk b o e))
/-- a comprehension over a list, twice -/
theorem comp2_list {elt it0 it1 : Expr} {xa xb : Str} {pa pb : Pos} {scope : Scope} {cl : List (Str × Addr)} {pos : Pos} {Q : Value → Shared → Prop} {l : Addr} {vs : List Value} (G : Value → Value → Value → Prop)
    (hh : A.handled = none) (hclos : closureFor scope env = pure cl) (hcell : ∀ y ∈ scope.names, y.2 ≠ .cell) (hkind : scope.kind = .function)
    (hnames : ∀ y ∈ scope.names, y.2 = .local → scope.names.lookup y.1 = some .local) (hxa : scope.names.lookup xa = some .local) (hxb : scope.names.lookup xb = some .local) (hab : xa ≠ xb)
    (h : wpAny (model prog w) A (eval it0 env) (fun xv s₁ => Held (xv = .ref l ∧ s₁.heap.IsList l vs.toArray ∧ vs.length ≤ 1000 ∧
      (∀ C s₃ m₃ E', s₃.heap.Ns C m₃ → (∀ b o, s₁.heap.get? b = some o → s₃.heap.get? b = some o) → wpAny (model prog w) A (eval it1 (compEnvC scope cl C env)) (fun yv s₄ => yv = .ref l ∧ Keeps s₃ s₄) E' s₃) ∧
      (∀ C a b s₃ m₃ E', a ∈ vs → b ∈ vs → s₃.heap.Ns C m₃ → m₃ xa = some a → m₃ xb = some b → (∀ b o, s₁.heap.get? b = some o → s₃.heap.get? b = some o) → wpAny (model prog w) A (eval elt (compEnvC scope cl C env)) (fun y s₄ => G a b y ∧ Keeps s₃ s₄) E' s₃) ∧
      (∀ D h' tk ys n, s₁.heap.get? D = none → h'.get? D = some (listOf ys n) → Paired (fun p y => G p.1 p.2 y) (pairs2 vs vs) ys.toList → (∀ b o, s₁.heap.get? b = some o → h'.get? b = some o) → Q (.ref D) { s₁ with heap := h', toks := tk }))) E s)
    (hs : ∀ x, foldedSetIterable it0 env x = pure x := by intro _; rfl) (hs1 : ∀ C x, foldedSetIterable it1 (compEnvC scope cl C env) x = pure x := by intro _ _; rfl) :
    wpAny (model prog w) A (eval (.ListComp elt [⟨.Name xa pa, it0, [], 0⟩, ⟨.Name xb pb, it1, [], 0⟩] scope pos) env) Q E s := by
  rw [eval_ListComp]
  refine wpAny_comprehension_free (use := none) rfl hs hclos hkind hnames (wpAny_mono h (fun xv s₁ h₁ => ?_) fun _ _ e => e)
  obtain ⟨rfl, hl, hlen, hit, helt, hQ⟩ := h₁
  refine comp2_block (RR := fun acc C => compPost (model prog w) A E none Q acc C) G hh hcell hkind hxa hxb hab hl hlen hit helt ?_ hs1
  intro D C h' tk m' ys n hD hC hDC hnC hDn hP hk
  refine ⟨m', hnC, fun h'' hs'' => hQ D h'' tk ys n hD ((hs''.2 D hDC).trans hDn) hP fun b o e => ?_⟩
  have hbC : b ≠ C := fun q => by rw [q, hC] at e; cases e
  exact (hs''.2 b hbC).trans (hk b o e)
end
end
section
open PySem PySem.W PyProof.Rows PySem.Spec PySem.Calls
set_option Elab.async false
set_option maxRecDepth 100000
set_option linter.all false
theorem trun_app (a b : List Nat) (st : St) : trun (a ++ b) st = trun b (trun a st) := by unfold trun; rw [List.foldl_append]
theorem getD_in {l : List Nat} {k : Nat} (h : k < l.length) : l.getD k 0 ∈ l := by
  have : l.getD k 0 = l[k] := by simp [h]
  rw [this]; exact List.getElem_mem h
theorem mod_nat (a : Int) {b : Nat} (h : 0 < b) : (a.fmod (b : Int)).toNat < b := by
  rw [Int.fmod_eq_emod_of_nonneg _ (by omega)]
  have h1 := Int.emod_nonneg a (b := (b : Int)) (by omega)
  have h2 := Int.emod_lt_of_pos a (b := (b : Int)) (by omega)
  omega
section
variable (us : List Int) (g : Int)
/-- the number of what stands on an edge: exclusive or, each edge one more (the colon) -/
noncomputable def valUp (v : Int) (sub : Int → Nat) : Nat → Nat
  | 0 => 0
  | i + 1 => if us.getD (i + 1) 0 = v ∧ ((i + 1 : Nat) : Int) ≠ g then valUp v sub i ^^^ (sub ((i + 1 : Nat) : Int) + 1) else valUp v sub i
noncomputable def valT : Nat → Int → Nat
  | 0, _ => 0
  | f + 1, v => valUp us g v (valT f) 5
end
theorem valUp_lt {us : List Int} {g v : Int} {sub : Int → Nat} {k : Nat} (h : ∀ c, sub c < 2 ^ k) : ∀ i, valUp us g v sub i < 2 ^ (k + 1)
  | 0 => Nat.two_pow_pos _
  | i + 1 => by
    have ih := valUp_lt h (us := us) (g := g) (v := v) i
    have hc := h ((i + 1 : Nat) : Int)
    have hp : 0 < 2 ^ k := Nat.two_pow_pos k
    unfold valUp
    split
    · exact Nat.xor_lt_two_pow ih (by rw [Nat.pow_succ]; omega)
    · exact ih
theorem valT_lt {us : List Int} {g : Int} : ∀ (f : Nat) (v : Int), valT us g f v < 2 ^ f
  | 0, v => by show (0 : Nat) < 2 ^ 0; decide
  | f + 1, v => valUp_lt (valT_lt f) 5
theorem valUp_none {us : List Int} {g v : Int} {sub : Int → Nat} (hl : us.length = 6) (h : us.any (· == v) = false) : ∀ i, i ≤ 5 → valUp us g v sub i = 0
  | 0, _ => rfl
  | i + 1, hi => by
    have hn : us.getD (i + 1) 0 ≠ v := fun q => by
      have hm : us.getD (i + 1) 0 ∈ us := by
        have e : us.getD (i + 1) 0 = us[i + 1]'(by omega) := by simp [show i + 1 < us.length by omega]
        rw [e]; exact List.getElem_mem _
      rw [List.any_eq_false] at h
      exact h _ hm (by rw [q]; simp)
    unfold valUp
    rw [if_neg fun q => hn q.1]
    exact valUp_none hl h i (by omega)
theorem valT_none {us : List Int} {g v : Int} (hl : us.length = 6) (h : us.any (· == v) = false) : ∀ f, valT us g f v = 0
  | 0 => rfl
  | f + 1 => valUp_none hl h 5 (Nat.le_refl _)
/-- rows of a level laid behind others -/
noncomputable def laid (lv : Nat) (rows : List Str) : List (Nat × Str) := rows.map fun r => (lv, r)
theorem laid_app (lv : Nat) (a b : List Str) : laid lv (a ++ b) = laid lv a ++ laid lv b := by unfold laid; rw [List.map_append]
theorem rowsAt_laid {lv : Nat} {rs : List (Nat × Str)} {rows : List Str} (h : ∀ r ∈ rs, r.1 < lv) : rowsAt lv (rs ++ laid lv rows) = rows.map (·.cps.toList) := by
  unfold rowsAt
  have e1 : rs.filter (fun r => decide (r.1 = lv) == true) = [] := List.filter_eq_nil_iff.mpr fun r hr => by
    have := h r hr
    simp; omega
  have e2 : (laid lv rows).filter (fun r => decide (r.1 = lv) == true) = laid lv rows := List.filter_eq_self.mpr fun r hr => by
    obtain ⟨x, _, rfl⟩ := List.mem_map.mp hr
    simp
  rw [List.filter_append, e1, e2, List.nil_append]
  unfold laid
  rw [List.map_map, List.map_map]
  rfl
theorem rowsOff_laid {lv : Nat} {rs : List (Nat × Str)} {rows : List Str} (h : ∀ r ∈ rs, r.1 < lv) : rowsOff lv (rs ++ laid lv rows) = rs := by
  unfold rowsOff
  have e1 : rs.filter (fun r => decide (r.1 = lv) == false) = rs := List.filter_eq_self.mpr fun r hr => by
    have := h r hr
    simp; omega
  have e2 : (laid lv rows).filter (fun r => decide (r.1 = lv) == false) = [] := List.filter_eq_nil_iff.mpr fun r hr => by
    obtain ⟨x, _, rfl⟩ := List.mem_map.mp hr
    simp
  rw [List.filter_append, e1, e2, List.append_nil]
theorem numOf_snoc (xs : List (List Nat)) (x : List Nat) : numOf (xs ++ [x]) = numOf xs ^^^ ((sv x).length - 1) := by
  unfold numOf; rw [List.foldl_append]; rfl
theorem sv_dots (n : Nat) : (sv (dotsS n).cps.toList).length - 1 = n + 1 := by
  rw [dots_list, List.replicate_succ]
  simp [sv]
theorem sv_leaf {b : Nat} (h : b ∈ besideL) : (sv ((⟨#[b]⟩ : Str) ++ Str.ofString ".").cps.toList).length - 1 = 1 := by
  simp only [besideL, List.mem_cons, List.not_mem_nil, or_false] at h
  rcases h with rfl | rfl | rfl | rfl | rfl | rfl | rfl | rfl <;> decide +kernel
theorem plain_leaf {b : Nat} (h : b ∈ besideL) : Plain ((⟨#[b]⟩ : Str) ++ Str.ofString ".").cps.toList ∧ 1 ≤ ((⟨#[b]⟩ : Str) ++ Str.ofString ".").length ∧ ((⟨#[b]⟩ : Str) ++ Str.ofString ".").length ≤ 1000 := by
  have e : ((⟨#[b]⟩ : Str) ++ Str.ofString ".").cps = #[b, 46] := rfl
  refine ⟨?_, by show 1 ≤ 2; decide, by show 2 ≤ 1000; decide⟩
  rw [e]
  intro d hd
  simp only [besideL, List.mem_cons, List.not_mem_nil, or_false] at h hd
  omega
theorem plain_dots {n : Nat} (h : n < 999) : Plain (dotsS n).cps.toList ∧ 1 ≤ (dotsS n).length ∧ (dotsS n).length ≤ 1000 := by
  refine ⟨?_, by rw [dots_len]; omega, by rw [dots_len]; omega⟩
  rw [dots_list]
  intro d hd
  rw [(List.mem_replicate.mp hd).2]; decide
theorem ett_pair {j : Nat} (h : j < 3) : openL.getD j 0 ∈ openL ∧ closeL.getD j 0 ∈ closeL ∧ ett (closeL.getD j 0) = ett (openL.getD j 0) + 1 ∧ ett (openL.getD j 0) ≤ 25 ∧ 1 ≤ ett (openL.getD j 0) := by
  have : j = 0 ∨ j = 1 ∨ j = 2 := by omega
  rcases this with rfl | rfl | rfl <;> decide
theorem step_strewn {c : Nat} (h : c ∈ strewnL) (st : St) : tstep st c = st := by unfold tstep; rw [kind_strewn h]; rfl
theorem step_beside {c : Nat} (h : c ∈ besideL) (lv : Nat) (rs : List (Nat × Str)) : tstep (lv, rs) c = (lv, rs ++ [(lv, ⟨#[c]⟩ ++ Str.ofString ".")]) := by unfold tstep; rw [(kind_beside h).1, (kind_beside h).2]; rfl
theorem step_open {c : Nat} (h : c ∈ openL) (lv : Nat) (rs : List (Nat × Str)) : tstep (lv, rs) c = (lv + ett c, rs) := by unfold tstep; rw [(kind_open h).1, if_neg (by simp), if_pos (kind_open h).2.1]
theorem step_close {c : Nat} (h : c ∈ closeL) (lv : Nat) (rs : List (Nat × Str)) : tstep (lv, rs) c = (lv + 1 - ett c, rowsOff lv rs ++ [(lv + 1 - ett c, dotsS (numOf (rowsAt lv rs)))]) := by unfold tstep; rw [(kind_close h).1, if_neg (by simp), if_neg (by have := (kind_close h).2.1; omega), if_neg (kind_close h).2.2]
/-- what a text of a node does -/
structure Told (l : List Nat) (lv : Nat) (rs : List (Nat × Str)) (num lim : Nat) : Prop where
  ex : ∃ rows : List Str, trun l (lv, rs) = (lv, rs ++ laid lv rows) ∧ rows.length ≤ lim ∧ (∀ r ∈ rows, Plain r.cps.toList ∧ 1 ≤ r.length ∧ r.length ≤ 1000) ∧ numOf (rows.map (·.cps.toList)) = num ∧ Safe l (lv, rs)
/-- what is known at a node of depth d -/
structure At (lv : Nat) (rs : List (Nat × Str)) (d : Nat) : Prop where
  lvl : lv ≤ 25 * d
  few : rs.length ≤ 5 * d
  low : ∀ r ∈ rs, r.1 < lv
  rows : ∀ r ∈ rs, Plain r.2.cps.toList ∧ 1 ≤ r.2.length ∧ r.2.length ≤ 1000
theorem At.good {lv d : Nat} {rs : List (Nat × Str)} (h : At lv rs d) (hd : d ≤ 5) {rows : List Str} (hn : rows.length ≤ 5) (hr : ∀ r ∈ rows, Plain r.cps.toList ∧ 1 ≤ r.length ∧ r.length ≤ 1000) : Good (lv, rs ++ laid lv rows) := by
  have h1 := h.lvl
  have h2 := h.few
  refine ⟨by show lv < 150; omega, by show (rs ++ laid lv rows).length ≤ 45; unfold laid; rw [List.length_append, List.length_map]; omega, fun r hm => ?_⟩
  rcases List.mem_append.mp hm with hm | hm
  · have := h.low r hm
    exact ⟨by omega, h.rows r hm⟩
  · obtain ⟨x, hx, rfl⟩ := List.mem_map.mp hm
    exact ⟨by show lv < 200; omega, hr x hx⟩
theorem told_up {ds us : List Int} {g v : Int} {sub : Int → List Nat} {num : Int → Nat} (hu : UpOk us) (hv0 : 0 ≤ v)
    (H : ∀ (c : Nat) lv rs (d : Nat), v < (c : Int) → c ≤ 5 → (d : Int) ≤ (c : Int) → At lv rs d → Told (sub (c : Int)) lv rs (num (c : Int)) 5) (hnum : ∀ c, num c < 900) (hnone : ∀ c : Nat, us.any (· == (c : Int)) = false → num (c : Int) = 0)
    {lv d : Nat} {rs : List (Nat × Str)} (hA : At lv rs d) (hd : (d : Int) ≤ v) : ∀ i, i ≤ 5 → d ≤ 5 → Told (textUp ds us g v sub i) lv rs (valUp us g v num i) i
  | 0, _, hd5 => ⟨[], by simp [textUp, laid, trun], Nat.le_refl _, fun r hr => (nomatch hr), rfl, by
      have := hA.good hd5 (rows := []) (Nat.zero_le _) fun r hr => (nomatch hr)
      simpa [laid, textUp, Safe] using this⟩
  | i + 1, hi, hd5 => by
    obtain ⟨rows, e1, e2, e3, e4, e5⟩ := told_up hu hv0 H hnum hnone hA hd i (by omega) hd5
    have hG : Good (lv, rs ++ laid lv rows) := hA.good hd5 (by omega) e3
    unfold textUp valUp
    by_cases hc : us.getD (i + 1) 0 = v ∧ ((i + 1 : Nat) : Int) ≠ g
    · rw [if_pos hc]
      have huv := hu.2.2 i (by omega)
      have hvi : v < ((i + 1 : Nat) : Int) := by omega
      have hd6 : d + 1 ≤ 5 := by omega
      have hs : strewnL.getD ((((ds.getD (i + 1) 0).fdiv 60).fdiv 48).fmod 15).toNat 0 ∈ strewnL := getD_in (mod_nat _ (b := 15) (by decide))
      have hb : besideL.getD ((((ds.getD (i + 1) 0).fdiv 60).fdiv 6).fmod 8).toNat 0 ∈ besideL := getD_in (mod_nat _ (b := 8) (by decide))
      have h3 := mod_nat ((ds.getD (i + 1) 0).fdiv 60) (b := 3) (by decide)
      unfold edgeT
      rw [if_pos hc]
      generalize strewnL.getD ((((ds.getD (i + 1) 0).fdiv 60).fdiv 48).fmod 15).toNat 0 = s at hs ⊢
      generalize besideL.getD ((((ds.getD (i + 1) 0).fdiv 60).fdiv 6).fmod 8).toNat 0 = b at hb ⊢
      have step : ∀ (r : Str) (l : List Nat), trun l (lv, rs ++ laid lv rows) = (lv, rs ++ laid lv (rows ++ [r])) → (Plain r.cps.toList ∧ 1 ≤ r.length ∧ r.length ≤ 1000) → (sv r.cps.toList).length - 1 = num ((i + 1 : Nat) : Int) + 1 → Safe l (lv, rs ++ laid lv rows) →
          Told (textUp ds us g v sub i ++ l) lv rs (valUp us g v num i ^^^ (num ((i + 1 : Nat) : Int) + 1)) (i + 1) := fun r l q1 q2 q3 q4 =>
        ⟨rows ++ [r], by rw [trun_app, e1, q1], by rw [List.length_append]; exact Nat.succ_le_succ e2, fun x hx => by
          rcases List.mem_append.mp hx with hx | hx
          · exact e3 x hx
          · rw [List.mem_singleton.mp hx]; exact q2, by rw [List.map_append, List.map_cons, List.map_nil, numOf_snoc, e4, q3], Safe.append e5 (by rw [e1]; exact q4)⟩
      split
      · rename_i hl
        refine step (⟨#[b]⟩ ++ Str.ofString ".") _ ?_ (plain_leaf hb) ?_ ?_
        · show tstep (tstep (lv, rs ++ laid lv rows) s) b = _
          rw [step_strewn hs, step_beside hb, laid_app, List.append_assoc]; rfl
        · rw [sv_leaf hb, hnone _ hl.2]
        · refine ⟨hG, .inl hs, ?_⟩
          rw [step_strewn hs]
          refine ⟨hG, .inr (.inl hb), ?_⟩
          rw [step_beside hb]
          have := hA.good hd5 (rows := rows ++ [⟨#[b]⟩ ++ Str.ofString "."]) (by rw [List.length_append]; show _ + 1 ≤ 5; omega) fun x hx => by
            rcases List.mem_append.mp hx with hx | hx
            · exact e3 x hx
            · rw [List.mem_singleton.mp hx]; exact plain_leaf hb
          rw [laid_app, ← List.append_assoc] at this
          exact this
      · obtain ⟨p1, p2, p3, p4, p5⟩ := ett_pair h3
        generalize openL.getD (((ds.getD (i + 1) 0).fdiv 60).fmod 3).toNat 0 = o at p1 p3 p4 p5 ⊢
        generalize closeL.getD (((ds.getD (i + 1) 0).fdiv 60).fmod 3).toNat 0 = cl at p2 p3 ⊢
        have hA2 : At (lv + ett o) (rs ++ laid lv rows) (d + 1) := by
          refine ⟨by have := hA.lvl; omega, by have := hA.few; unfold laid; rw [List.length_append, List.length_map]; omega, fun r hm => ?_, fun r hm => ?_⟩
          · rcases List.mem_append.mp hm with hm | hm
            · have := hA.low r hm; omega
            · obtain ⟨x, hx, rfl⟩ := List.mem_map.mp hm
              show lv < _; omega
          · rcases List.mem_append.mp hm with hm | hm
            · exact hA.rows r hm
            · obtain ⟨x, hx, rfl⟩ := List.mem_map.mp hm
              exact e3 x hx
        obtain ⟨rows2, f1, f2, f3, f4, f5⟩ := H (i + 1) (lv + ett o) (rs ++ laid lv rows) (d + 1) hvi hi (by omega) hA2
        have hG2 := hA2.good hd6 f2 f3
        have hend : tstep (lv + ett o, (rs ++ laid lv rows) ++ laid (lv + ett o) rows2) cl = (lv, rs ++ laid lv (rows ++ [dotsS (num ((i + 1 : Nat) : Int))])) := by
          rw [step_close p2, rowsAt_laid hA2.low, rowsOff_laid hA2.low, f4, p3, laid_app, ← List.append_assoc]
          have : lv + ett o + 1 - (ett o + 1) = lv := by omega
          rw [this]; rfl
        have hn := hnum ((i + 1 : Nat) : Int)
        have hbig : Good (lv, rs ++ laid lv (rows ++ [dotsS (num ((i + 1 : Nat) : Int))])) := hA.good hd5 (by rw [List.length_append]; show _ + 1 ≤ 5; omega) fun x hx => by
          rcases List.mem_append.mp hx with hx | hx
          · exact e3 x hx
          · rw [List.mem_singleton.mp hx]; exact plain_dots (by omega)
        refine step (dotsS (num ((i + 1 : Nat) : Int))) _ ?_ (plain_dots (by omega)) (sv_dots _) ?_
        · show trun (sub ((i + 1 : Nat) : Int) ++ [cl]) (tstep (tstep (lv, rs ++ laid lv rows) s) o) = _
          rw [step_strewn hs, step_open p1, trun_app, f1]
          exact hend
        · refine ⟨hG, .inl hs, ?_⟩
          rw [step_strewn hs]
          refine ⟨hG, .inr (.inr (.inl p1)), ?_⟩
          rw [step_open p1]
          refine Safe.append f5 ?_
          rw [f1]
          refine ⟨hG2, .inr (.inr (.inr ⟨p2, by rw [p3]; show ett o + 1 ≤ lv + ett o + 1; omega⟩)), ?_⟩
          rw [hend]
          exact hbig
    · have he : edgeT ds us g v sub (i + 1) = [] := if_neg hc
      rw [if_neg hc, he, List.append_nil]
      exact ⟨rows, e1, by omega, e3, e4, e5⟩
theorem told_all {ds us : List Int} {g : Int} (hu : UpOk us) : ∀ (f : Nat), f ≤ 6 → ∀ (c : Nat) lv rs (d : Nat), c ≤ 5 → (d : Int) ≤ (c : Int) → At lv rs d → Told (txt ds us g f (c : Int)) lv rs (valT us g f (c : Int)) 5
  | 0, _, c, lv, rs, d, hc, hd, hA => ⟨[], by simp [txt, laid, trun], Nat.zero_le _, fun r hr => (nomatch hr), rfl, by
      have := hA.good (by omega) (rows := []) (Nat.zero_le _) fun r hr => (nomatch hr)
      simpa [laid, txt, Safe] using this⟩
  | f + 1, hf, c, lv, rs, d, hc, hd, hA => by
    unfold txt valT
    exact told_up hu (by omega) (fun c' lv' rs' d' h1 h2 h3 h4 => told_all hu f (by omega) c' lv' rs' d' h2 h3 h4) (fun c' => Nat.lt_of_lt_of_le (valT_lt f c') (Nat.le_trans (Nat.pow_le_pow_right (by decide) (show f ≤ 6 by omega)) (by decide))) (fun c' h => valT_none hu.1 h f) hA hd 5 (Nat.le_refl _) (by omega)
theorem told_top {ds us : List Int} {g : Int} (hu : UpOk us) : Told (txt ds us g 6 0) 0 [] (valT us g 6 0) 5 :=
  told_all hu 6 (Nat.le_refl _) 0 0 [] 0 (by decide) (by decide) ⟨by decide, by decide, fun r hr => (nomatch hr), fun r hr => (nomatch hr)⟩
theorem safe_text {us : List Int} (h : UpOk us) {g : Int} (ds : List Int) : Safe (txt ds us g 6 0) (0, []) := by
  obtain ⟨rows, _, _, _, _, e5⟩ := told_top (ds := ds) (g := g) h
  exact e5
theorem told_val' {us : List Int} (h : UpOk us) {g : Int} (ds : List Int) : toldN (txt ds us g 6 0) = valT us g 6 0 := by
  obtain ⟨rows, e1, _, _, e4, _⟩ := told_top (ds := ds) (g := g) h
  unfold toldN
  rw [e1]
  show numOf (rowsAt 0 ([] ++ laid 0 rows)) = _
  rw [rowsAt_laid (rs := []) (fun r hr => (nomatch hr)), e4]
end
section
open PySem PySem.W PyProof.Rows PySem.Spec PySem.Calls
set_option Elab.async false
set_option maxRecDepth 100000
set_option linter.all false
/-- the parents, written out -/
noncomputable def upF (a : Fin 2) (b : Fin 3) (c : Fin 4) (d : Fin 5) : List Int := [-1, 0, (a.val : Int), (b.val : Int), (c.val : Int), (d.val : Int)]
theorem up_form {us : List Int} (h : UpOk us) : ∃ a b c d, us = upF a b c d := by
  obtain ⟨hl, h0, hr⟩ := h
  match us, hl with
  | [x0, x1, x2, x3, x4, x5], _ =>
    have e0 : x0 = -1 := h0
    have e1 : 0 ≤ x1 ∧ x1 ≤ (0 : Nat) := hr 0 (by decide)
    have e2 : 0 ≤ x2 ∧ x2 ≤ (1 : Nat) := hr 1 (by decide)
    have e3 : 0 ≤ x3 ∧ x3 ≤ (2 : Nat) := hr 2 (by decide)
    have e4 : 0 ≤ x4 ∧ x4 ≤ (3 : Nat) := hr 3 (by decide)
    have e5 : 0 ≤ x5 ∧ x5 ≤ (4 : Nat) := hr 4 (by decide)
    refine ⟨⟨x2.toNat, by omega⟩, ⟨x3.toNat, by omega⟩, ⟨x4.toNat, by omega⟩, ⟨x5.toNat, by omega⟩, ?_⟩
    unfold upF
    have q1 : x1 = 0 := by omega
    rw [e0, q1, Int.toNat_of_nonneg e2.1, Int.toNat_of_nonneg e3.1, Int.toNat_of_nonneg e4.1, Int.toNat_of_nonneg e5.1]
theorem all_below : ∀ a b c d, ∀ k : Fin 6, (decide (0 ≤ (belowL (upF a b c d)).getD k.val 0 ∧ (belowL (upF a b c d)).getD k.val 0 < 32) && (k.val == 0 || bitV ((belowL (upF a b c d)).getD k.val 0) (k.val : Int))) = true := by decide +kernel
theorem at_lt : ∀ (v : Fin 5) (b i : Fin 32), (!(bitV (b.val : Int) ((v.val + 1 : Nat) : Int)) || !(bitV (i.val : Int) ((v.val + 1 : Nat) : Int)) || decide (0 ≤ Builtin.bitAnd (i.val : Int) (Builtin.bitNot (b.val : Int)) ∧ Builtin.bitAnd (i.val : Int) (Builtin.bitNot (b.val : Int)) < (i.val : Int))) = true := by decide +kernel
theorem at_31 : ∀ b : Fin 32, decide (0 ≤ Builtin.bitAnd 31 (Builtin.bitNot (b.val : Int)) ∧ Builtin.bitAnd 31 (Builtin.bitNot (b.val : Int)) < 32) = true := by decide +kernel
theorem below_at {us : List Int} (h : UpOk us) {k : Nat} (hk : k < 6) : ∃ b : Fin 32, (belowL us).getD k 0 = (b.val : Int) ∧ (k ≠ 0 → bitV (b.val : Int) (k : Int) = true) := by
  obtain ⟨a, b, c, d, rfl⟩ := up_form h
  have q : (decide (0 ≤ (belowL (upF a b c d)).getD k 0 ∧ (belowL (upF a b c d)).getD k 0 < 32) && (k == 0 || bitV ((belowL (upF a b c d)).getD k 0) (k : Int))) = true := all_below a b c d ⟨k, hk⟩
  rw [Bool.and_eq_true, decide_eq_true_eq] at q
  obtain ⟨⟨q1, q2⟩, q3⟩ := q
  have e : (belowL (upF a b c d)).getD k 0 = ((((belowL (upF a b c d)).getD k 0).toNat : Nat) : Int) := (Int.toNat_of_nonneg q1).symm
  refine ⟨⟨((belowL (upF a b c d)).getD k 0).toNat, by omega⟩, e, fun h0 => ?_⟩
  rw [Bool.or_eq_true] at q3
  rcases q3 with q3 | q3
  · exact absurd (by simpa using q3) h0
  · show bitV ((((belowL (upF a b c d)).getD k 0).toNat : Nat) : Int) (k : Int) = true
    rw [← e]; exact q3
theorem below_ok {us : List Int} (h : UpOk us) : BelowOk (belowL us) := by
  refine ⟨below_len us 4, fun i hi v hv => ?_⟩
  obtain ⟨hm, hbit⟩ := List.mem_filter.mp hv
  obtain ⟨j, hj, rfl⟩ := List.mem_map.mp hm
  have hj5 := List.mem_range.mp hj
  have ev : (1 : Int) + (j : Int) = ((j + 1 : Nat) : Int) := by omega
  rw [ev] at hbit ⊢
  obtain ⟨b, hb, hb2⟩ := below_at h (k := j + 1) (by omega)
  have q := at_lt ⟨j, hj5⟩ b ⟨i, hi⟩
  unfold atOf
  rw [Int.toNat_natCast, hb]
  rw [Bool.or_eq_true, Bool.or_eq_true] at q
  rcases q with (q | q) | q
  · rw [hb2 (by omega)] at q; cases q
  · have q' : (!(bitV (i : Int) ((j + 1 : Nat) : Int))) = true := q
    rw [hbit] at q'; cases q'
  · exact of_decide_eq_true q
theorem due_in {us : List Int} (h : UpOk us) {g : Int} (h0 : 0 ≤ g) (h5 : g ≤ 5) : 0 ≤ dueAt us g ∧ dueAt us g < 32 := by
  obtain ⟨b, hb, _⟩ := below_at h (k := g.toNat) (by omega)
  unfold dueAt
  rw [hb]
  exact of_decide_eq_true (at_31 b)
theorem due_00 : ∀ c d, ∀ k : Fin 6, decide (((valT (upF 0 0 c d) (k.val : Int) 6 0 : Nat) : Int) = dueN (upF 0 0 c d) (k.val : Int)) = true := by decide +kernel
theorem due_01 : ∀ c d, ∀ k : Fin 6, decide (((valT (upF 0 1 c d) (k.val : Int) 6 0 : Nat) : Int) = dueN (upF 0 1 c d) (k.val : Int)) = true := by decide +kernel
theorem due_02 : ∀ c d, ∀ k : Fin 6, decide (((valT (upF 0 2 c d) (k.val : Int) 6 0 : Nat) : Int) = dueN (upF 0 2 c d) (k.val : Int)) = true := by decide +kernel
theorem due_10 : ∀ c d, ∀ k : Fin 6, decide (((valT (upF 1 0 c d) (k.val : Int) 6 0 : Nat) : Int) = dueN (upF 1 0 c d) (k.val : Int)) = true := by decide +kernel
theorem due_11 : ∀ c d, ∀ k : Fin 6, decide (((valT (upF 1 1 c d) (k.val : Int) 6 0 : Nat) : Int) = dueN (upF 1 1 c d) (k.val : Int)) = true := by decide +kernel
theorem due_12 : ∀ c d, ∀ k : Fin 6, decide (((valT (upF 1 2 c d) (k.val : Int) 6 0 : Nat) : Int) = dueN (upF 1 2 c d) (k.val : Int)) = true := by decide +kernel
theorem all_due : ∀ a b c d, ∀ k : Fin 6, decide (((valT (upF a b c d) (k.val : Int) 6 0 : Nat) : Int) = dueN (upF a b c d) (k.val : Int)) = true
  | ⟨0, _⟩, ⟨0, _⟩ => due_00
  | ⟨0, _⟩, ⟨1, _⟩ => due_01
  | ⟨0, _⟩, ⟨2, _⟩ => due_02
  | ⟨1, _⟩, ⟨0, _⟩ => due_10
  | ⟨1, _⟩, ⟨1, _⟩ => due_11
  | ⟨1, _⟩, ⟨2, _⟩ => due_12
theorem told_due {us : List Int} (h : UpOk us) {g : Int} (h0 : 0 ≤ g) (h5 : g ≤ 5) (ds : List Int) : ((toldN (txt ds us g 6 0) : Nat) : Int) = dueN us g := by
  rw [told_val' h]
  obtain ⟨a, b, c, d, rfl⟩ := up_form h
  have q := of_decide_eq_true (all_due a b c d ⟨g.toNat, by omega⟩)
  have e : ((g.toNat : Nat) : Int) = g := Int.toNat_of_nonneg h0
  have q' : ((valT (upF a b c d) ((g.toNat : Nat) : Int) 6 0 : Nat) : Int) = dueN (upF a b c d) ((g.toNat : Nat) : Int) := q
  rw [e] at q'
  exact q'
end
section
open PySem PySem.W PyProof.Rows
open PySem.Spec PySem.Calls
set_option Elab.async false
set_option maxRecDepth 100000
set_option linter.all false
open PySem.Challenge (pw_sh0051_01)
local macro_rules | `(tactic| walk_at $s:str) => if ["exec For", "exec For Name List cons nil", "subscriptTail Name BinOp ref int", "compareOp Eq ref ref", "pyIter ref", "eval ListComp", "subscriptTail", "subscriptTail List Slice ref ref", "binaryOp Add ref ref", "call ref"].contains s.getString then `(tactic| (k_here; refine held ?_)) else Lean.Macro.throwUnsupported
local macro_rules | `(tactic| walk_at "call builtin:list.append") => `(tactic| (k_here; (with_reducible show wpAny _ _ (call (Value.builtin _) [Value.ref _, _]) _ _ _); k_dflt (refine' append_K ?k1 ?k2 ?k3 ?_ ?z; (case k1 => k_asm); (case k2 => k_asm); (case k3 => k_upd); (case z => omega); k_whole); intro h' F' N'))
set_option pp.deepTerms false
set_option pp.maxSteps 2000
theorem sub_from {prog : Program} {w : World} {A : Around} {E : Value → Shared → Prop} {s : Shared} {h₀ h : Heap} {L l a : Addr} {m : Str → Option Value} {led : List (Addr × Obj)} {items : Array Value} {n k : Nat} {t : Tok} {ns : List Int} {value slice : PySem.Expr} {Q : Value → Shared → Prop}
    (F : Fr h₀ L h m) (N : News h₀ L h led) (hl : (l, listOf items n) ∈ led) (hi : IntsAre items.toList ns) (e : s.heap = h.push { cls := .type "slice", data := .fields #[.int (k : Int) t, .none, .none] }) (ea : a = h.objs.size) (hsz : ns.length ≤ 1000)
    (hQ : ∀ D h' ws, Fr h₀ L h' m → News h₀ L h' ((D, listOf ws.toArray 0) :: led) → IntsAre ws (ns.drop k) → (∀ p ∈ led, D ≠ p.1) → Q (.ref D) { s with heap := h' })
    {ops : List Value} (hs : subscripted slice false (.ref l) (.ref a) = operate ops (getItem (.ref l) (.ref a)) := by with_unfolding_all rfl) :
    wpAny (model prog w) A (subscriptTail value slice (.ref l) (.ref a)) Q E s := by
  subst ea
  have h1 := (N _ hl).1
  have hL : h.IsList l items := IsL.isList (n := n) h1
  have hlen : items.size = ns.length := by rw [← hi.length]; simp
  have hL2 : s.heap.IsList l items := by rw [e]; exact hL.push _
  refine tail_any (T := "list") hL2.typeIs list_getitem_lookup (wpAny_getItem_list_slice hL2 (by rw [e]; exact Heap.IsSliceOf.new ..) (.int (k : Int) _) .none .none (by simp) ?_ (by rw [sizeLine_eq]; omega)) hs
  rw [slicePick_from']
  have kp : Kept h ((s.heap.push { cls := .type "list", data := .seq (items.toList.drop k).toArray })) [] := fun b o q _ => by rw [e]; exact Heap.get?_push_of_some _ (Heap.get?_push_of_some _ q)
  have hD : h.get? s.heap.objs.size = none := by
    cases q : h.get? s.heap.objs.size with
    | none => rfl
    | some o => have h7 := Heap.lt_size q; rw [e, Heap.size_push] at h7; exact absurd h7 (Nat.not_lt.mpr (Nat.le_succ _))
  exact hQ _ _ (items.toList.drop k) (Fr.kept F kp) (fresh_led F N kp hD (Heap.get?_push_size _ rfl)) (hi.drop k) (fresh_ne N hD)
theorem News.cut {h₀ h : Heap} {L : Addr} {p : Addr × Obj} {led : List (Addr × Obj)} (N : News h₀ L h (p :: led)) (n : Nat) : News h₀ L h (p :: led.drop n) := fun q hq => by
  rcases List.mem_cons.mp hq with rfl | hq
  · exact N _ (.head _)
  · exact N _ (.tail _ (List.mem_of_mem_drop hq))
theorem News.off {h₀ h : Heap} {L : Addr} {p : Addr × Obj} {led : List (Addr × Obj)} (N : News h₀ L h (p :: led)) : News h₀ L h led := fun q hq => N _ (.tail _ hq)
theorem sub_brk {prog : Program} {w : World} {A : Around} {E : Value → Shared → Prop} {s : Shared} {h₀ : Heap} {L l : Addr} {led : List (Addr × Obj)} {n : Nat} {t1 t2 t3 u : Tok} {k : Int} {value slice : PySem.Expr} {Q : Value → Shared → Prop}
    (N : News h₀ L s.heap led) (hl : (l, listOf #[.str (Str.ofString "\n") t1, .str (Str.ofString "\r") t2, .str (Str.ofString "\r\n") t3] n) ∈ led) (h0 : 0 ≤ k) (h3 : k < 3) (h : ∀ x t, IsEnd x.cps.toList → Q (.str x t) s)
    (hs : subscripted slice false (.ref l) (.int k u) = operate [.ref l, .int k u] (getItem (.ref l) (.int k u)) := by with_unfolding_all rfl) : wpAny (model prog w) A (subscriptTail value slice (.ref l) (.int k u)) Q E s := by
  have hL := IsL.isList (n := n) (N _ hl).1
  refine tail_any hL.typeIs slot_list_getitem.lookup ?_ hs
  rcases three h0 h3 with rfl | rfl | rfl
  · exact wpAny_getItem_list hL (by decide) (by decide) (x := .str (Str.ofString "\n") t1) rfl (h _ _ (.inl (by decide +kernel)))
  · exact wpAny_getItem_list hL (by decide) (by decide) (x := .str (Str.ofString "\r") t2) rfl (h _ _ (.inr (.inl (by decide +kernel))))
  · exact wpAny_getItem_list hL (by decide) (by decide) (x := .str (Str.ofString "\r\n") t3) rfl (h _ _ (.inr (.inr (by decide +kernel))))
/-- the edges that the edges stand on -/
noncomputable def upL (ds : List Int) : List Int := [-1] ++ (rangeKs 1 5).map fun v => ((ds.getD v.toNat 0).fmod 60).fmod v
theorem up_ok (ds : List Int) : UpOk (upL ds) := by
  refine ⟨rfl, rfl, fun i hi => ?_⟩
  have h : i = 0 ∨ i = 1 ∨ i = 2 ∨ i = 3 ∨ i = 4 := by omega
  rcases h with rfl | rfl | rfl | rfl | rfl
  · have := fmod_in ((ds.getD 1 0).fmod 60) (b := 1) (by decide); exact ⟨this.1, Int.le_of_lt_add_one (show _ < ((0 : Nat) : Int) + 1 from this.2)⟩
  · have := fmod_in ((ds.getD 2 0).fmod 60) (b := 2) (by decide); exact ⟨this.1, Int.le_of_lt_add_one (show _ < ((1 : Nat) : Int) + 1 from this.2)⟩
  · have := fmod_in ((ds.getD 3 0).fmod 60) (b := 3) (by decide); exact ⟨this.1, Int.le_of_lt_add_one (show _ < ((2 : Nat) : Int) + 1 from this.2)⟩
  · have := fmod_in ((ds.getD 4 0).fmod 60) (b := 4) (by decide); exact ⟨this.1, Int.le_of_lt_add_one (show _ < ((3 : Nat) : Int) + 1 from this.2)⟩
  · have := fmod_in ((ds.getD 5 0).fmod 60) (b := 5) (by decide); exact ⟨this.1, Int.le_of_lt_add_one (show _ < ((4 : Nat) : Int) + 1 from this.2)⟩
noncomputable def dfl : List Int := [52, 180, 241, 8642, 7384, 302]
section
variable {prog : Program} {w : World} {A : Around} {E : Value → Shared → Prop} {s : Shared} {env : Env} {g : Heap} {L lg lt ld : Addr} {body : List Stmt} {Q : Flow → Shared → Prop} {M : Str → Option Value} {vs : List Value} {n : Nat} {rest : List (Addr × Obj)}
noncomputable def lawM (M : Str → Option Value) (vg : Option Value) : Str → Option Value := fun y => if y = Str.ofString "gone" then vg else M y
structure LawTurn (M : Str → Option Value) (g : Heap) (L lg lt ld : Addr) (vs : List Value) (n : Nat) (rest : List (Addr × Obj)) (cur : List Int) (s₁ : Shared) (f : Flow) (s₂ : Shared) : Prop where
  next : f = .next
  more : ∃ h' tk' vg itd ed itt et, s₂ = { s₁ with heap := h', toks := tk' } ∧ Fr g L h' (lawM M vg) ∧ News g L h' ((lg, listOf vs.toArray n) :: (lt, listOf itt et) :: (ld, listOf itd ed) :: rest) ∧ IntsAre itd.toList cur ∧ IntsAre itt.toList cur
set_option maxHeartbeats 1000000 in
theorem law_loop (gs : List Int) (f : Int → Int) (hL : env.locals = L) (hh : A.handled = none) (hvs : IntsAre vs gs) (F : Fr g L s.heap M) (N : News g L s.heap ((lg, listOf vs.toArray n) :: (lt, listOf #[] 0) :: (ld, listOf #[] 0) :: rest))
    (turn : ∀ i x t itd ed itt et h tk2 own, gs[i]? = some x → OwnOff own (lg :: lt :: ld :: rest.map (·.1)) → IntsAre itd.toList ((gs.take i).map f) → IntsAre itt.toList ((gs.take i).map f) → Fr g L h (lawM M (some (.int x t))) → News g L h ((lg, listOf vs.toArray n) :: (lt, listOf itt et) :: (ld, listOf itd ed) :: (rest ++ own)) →
      wpAny (model prog w) A (execs body env) (LawTurn M g L lg lt ld vs n (rest ++ own) ((gs.take i).map f ++ [f x]) { s with heap := h, toks := tk2 }) E { s with heap := h, toks := tk2 })
    (done : ∀ vg itd ed itt et h tk2, IntsAre itd.toList (gs.map f) → IntsAre itt.toList (gs.map f) → Fr g L h (lawM M vg) → News g L h ((lg, listOf vs.toArray n) :: (lt, listOf itt et) :: (ld, listOf itd ed) :: rest) → Q .next { s with heap := h, toks := tk2 }) :
    wpAny (model prog w) A (pyIter (.ref lg)) (fun it s₂ => LoopAtV prog w A g env (Str.ofString "gone") body Q E it s₂) E s := by
  subst hL
  have hlen : vs.length = gs.length := hvs.length
  refine kdl_iter (l := lg) (vs := vs) (nn := n) (fun i m nx => ∃ vg itd ed itt et, m = lawM M vg ∧ nx = (lg, listOf vs.toArray n) :: (lt, listOf itt et) :: (ld, listOf itd ed) :: rest ∧ IntsAre itd.toList ((gs.take i).map f) ∧ IntsAre itt.toList ((gs.take i).map f)) hh (.head _) F N ⟨M (Str.ofString "gone"), #[], 0, #[], 0, ?_, rfl, .nil, .nil⟩ ?_ ?_
  · funext y
    unfold lawM
    split
    · rename_i e; rw [e]
    · rfl
  · rintro i v m₁ nx h tk2 own hv hoff _ ⟨vg, itd, ed, itt, et, rfl, rfl, hi1, hi2⟩ F1 N1
    have hig : i < gs.length := by have := (List.getElem?_eq_some_iff.mp hv).1; omega
    obtain ⟨u, hu⟩ := hvs.get i gs[i] (List.getElem?_eq_getElem hig)
    rw [hu] at hv
    obtain rfl := Option.some.inj hv
    have F2 : Fr g env.locals h (lawM M (some (.int gs[i] u))) := by
      have e2 : (fun y => if y = Str.ofString "gone" then some (Value.int gs[i] u) else lawM M vg y) = lawM M (some (.int gs[i] u)) := by
        funext y
        unfold lawM
        by_cases h1 : y = Str.ofString "gone"
        · rw [if_pos h1, if_pos h1]
        · rw [if_neg h1, if_neg h1, if_neg h1]
      exact e2 ▸ F1
    refine wpAny_mono (turn i gs[i] u itd ed itt et h tk2 own (List.getElem?_eq_getElem hig) hoff hi1 hi2 F2 N1) (fun f₁ s₂ hn => ?_) fun _ _ e => e
    obtain ⟨rfl, h', tk', vg', itd', ed', itt', et', rfl, F3, N3, hi3, hi4⟩ := hn
    have et0 : gs.take (i + 1) = gs.take i ++ [gs[i]] := by rw [List.take_add_one, List.getElem?_eq_getElem hig]; rfl
    have et1 : (gs.take (i + 1)).map f = (gs.take i).map f ++ [f gs[i]] := by rw [et0, List.map_append]; rfl
    refine InvEndG.intro F3 N3 ⟨.head _, vg', itd', ed', itt', et', rfl, rfl, by rw [et1]; exact hi3, by rw [et1]; exact hi4⟩ hoff (fun p hp => ?_) fun p hp => .tail _ (.tail _ (.tail _ (List.mem_append_right _ hp)))
    rcases List.mem_cons.mp hp with rfl | hp
    · exact .head _
    · rcases List.mem_cons.mp hp with rfl | hp
      · exact .tail _ (.head _)
      · rcases List.mem_cons.mp hp with rfl | hp
        · exact .tail _ (.tail _ (.head _))
        · exact .tail _ (.tail _ (.tail _ (List.mem_append_left _ hp)))
  · rintro m₁ nx h tk2 ⟨vg, itd, ed, itt, et, rfl, rfl, hi1, hi2⟩ F1 N1
    rw [hlen, List.take_length] at hi1 hi2
    exact done vg itd ed itt et h tk2 hi1 hi2 F1 N1
end
/-- a text's number is nought or not -/
theorem iseof_keep {w mean mg mb} (i : Int) (t : Tok) : ClX 20 100 w mean mg mb 48 [] [.int i t] (fun _ => True) (fun h h' r => r = .bool (decide (i = 0)) ∧ Kept h h' []) := by
  intro dp un gd cn cs a ccd cl outer A₀ base h₀ L m s Q E B F X N T hkd hR hd hu hret
  have N₀ := N
  refine wpAny_call ?_
  k_dflt (walk_at "enterP")
  k_steps
  have kn := ‹Knows s.heap _ _›
  refine hret _ _ _ ⟨?_, kept_end kn (by assumption)⟩
  first | rfl | simp
theorem ints_mem {vs : List Value} {ns : List Int} (h : IntsAre vs ns) {v : Value} (hv : v ∈ vs) : ∃ i t, v = .int i t := by
  induction h with
  | nil => cases hv
  | cons n t _ ih =>
    rcases List.mem_cons.mp hv with rfl | hv
    · exact ⟨_, _, rfl⟩
    · exact ih hv
theorem assign_after {g h h' : Heap} {L D : Addr} {m m' : Str → Option Value} {led : List (Addr × Obj)} {o : Obj} (F : Fr g L h m) (N : News g L h led) (hD : h.get? D = none) (hDn : h'.get? D = some o) (hNs : h'.Ns L m') (hk : ∀ b o, b ≠ L → h.get? b = some o → h'.get? b = some o) : Fr g L h' m' ∧ News g L h' ((D, o) :: led) := by
  have nL : ∀ b o, g.get? b = some o → b ≠ L := fun b o e q => by
    have h1 := Heap.lt_size e
    rw [q] at h1
    exact absurd (Nat.lt_of_lt_of_le h1 F.above) (Nat.lt_irrefl _)
  refine ⟨⟨hNs, fun b o e => hk b o (nL b o e) (F.keep b o e), F.above⟩, fun p hp => ?_⟩
  rcases List.mem_cons.mp hp with rfl | hp
  · refine ⟨hDn, fun q => ?_, ?_⟩
    · obtain ⟨oL, _, _, h1, _⟩ := F.ns
      have q : D = L := q
      rw [← q, hD] at h1; cases h1
    · cases q : g.get? D with
      | none => rfl
      | some o' => have := F.keep _ _ q; rw [hD] at this; cases this
  · exact ⟨hk _ _ (N p hp).2.1 (N p hp).1, (N p hp).2⟩
noncomputable abbrev addr2 {h₀ h : Heap} {L : Addr} {p q : Addr × Obj} {led : List (Addr × Obj)} (_ : News h₀ L h (p :: q :: led)) : Addr := q.1
noncomputable abbrev addr3 {h₀ h : Heap} {L : Addr} {p q r : Addr × Obj} {led : List (Addr × Obj)} (_ : News h₀ L h (p :: q :: r :: led)) : Addr := r.1
noncomputable def vint (v : Value) : Int := match v with | .int i _ => i | _ => 0
theorem eq_ints {prog : Program} {w : World} {A : Around} {E : Value → Shared → Prop} {s : Shared} {h₀ : Heap} {L a b : Addr} {led : List (Addr × Obj)} {its1 its2 : Array Value} {n1 n2 : Nat} {ns : List Int} {Q : Value → Shared → Prop} (N : News h₀ L s.heap led) (h1 : (a, listOf its1 n1) ∈ led) (h2 : (b, listOf its2 n2) ∈ led) (hi1 : IntsAre its1.toList ns) (hi2 : IntsAre its2.toList ns) (hu : A.units < cLine) (h : Q (.bool true) s) : wpAny (model prog w) A (compareOp .Eq (.ref a) (.ref b)) Q E s := by
  have e1 : its1.size = ns.length := by rw [← hi1.length]; simp
  have e2 : its2.size = ns.length := by rw [← hi2.length]; simp
  refine PySem.SeqAt.eq_listAt (e := fun _ => true) (IsL.isList (n := n1) (N _ h1).1) (IsL.isList (n := n2) (N _ h2).1) (by rw [e1, e2]) hu (fun j g1 g2 => ?_) ?_
  · have hj : j < ns.length := by omega
    obtain ⟨t, ht⟩ := hi1.get j ns[j] (by simp [hj])
    obtain ⟨u, hu2⟩ := hi2.get j ns[j] (by simp [hj])
    have q1 : its1[j] = .int ns[j] t := by rw [Array.getElem?_toList, Array.getElem?_eq_getElem g1] at ht; exact Option.some.inj ht
    have q2 : its2[j] = .int ns[j] u := by rw [Array.getElem?_toList, Array.getElem?_eq_getElem g2] at hu2; exact Option.some.inj hu2
    rw [q1, q2]
    have   := PySem.SeqAt.EqAt.int_int (A := A.in1) (s := s) ns[j] t ns[j] u
    rwa [beq_self_eq_true] at this
  · have : ((List.range its1.size).all fun _ => true) = true := by simp
    rw [this]; exact h
theorem eq_boolL {prog : Program} {w : World} {A : Around} {E : Value → Shared → Prop} {s : Shared} {h₀ : Heap} {L a b : Addr} {led : List (Addr × Obj)} {its1 its2 : Array Value} {n1 n2 : Nat} {bs : List Bool} {Q : Value → Shared → Prop} (N : News h₀ L s.heap led) (h1 : (a, listOf its1 n1) ∈ led) (h2 : (b, listOf its2 n2) ∈ led) (hi1 : its1.toList = bs.map Value.bool) (hi2 : its2.toList = bs.map Value.bool) (hu : A.units < cLine) (h : Q (.bool true) s) : wpAny (model prog w) A (compareOp .Eq (.ref a) (.ref b)) Q E s := by
  have e : its1 = its2 := Array.toList_inj.mp (hi1.trans hi2.symm)
  subst e
  refine PySem.SeqAt.eq_listAt (e := fun _ => true) (IsL.isList (n := n1) (N _ h1).1) (IsL.isList (n := n2) (N _ h2).1) rfl hu (fun j g1 g2 => ?_) ?_
  · have hm : its1[j] ∈ bs.map Value.bool := hi1 ▸ (by simp)
    obtain ⟨b, _, hb⟩ := List.mem_map.mp hm
    rw [← hb]
    have := PySem.SeqAt.EqAt.bool_bool (A := A.in1) (s := s) b b
    rwa [beq_self_eq_true] at this
  · have : ((List.range its1.size).all fun _ => true) = true := by simp
    rw [this]; exact h
theorem paired_map {α : Type} {f : α → Value} {ps : List α} {ys : List Value} (h : Paired (fun p y => y = f p) ps ys) : ys = ps.map f := by
  induction h with
  | nil => rfl
  | cons a _ ih => rw [a, ih]; rfl
theorem ints_vint {vs : List Value} {ks : List Int} (h : IntsAre vs ks) : vs.map vint = ks := by
  induction h with
  | nil => rfl
  | cons n t _ ih => rw [List.map_cons, ih]; rfl
theorem pairs_map {vs : List Value} {ks : List Int} (h : IntsAre vs ks) (F : Int → Int → Bool) : (pairs2 vs vs).map (fun p => Value.bool (F (vint p.1) (vint p.2))) = (ks.flatMap fun a => ks.map fun b => F a b).map Value.bool := by
  have e := ints_vint h
  unfold pairs2
  rw [← e]
  simp only [List.map_flatMap, List.flatMap_map, List.map_map]
  rfl
theorem dec_beq (a b : Int) : decide (a - b = 0) = (a == b) := by
  by_cases h : a = b
  · subst h; simp
  · rw [decide_eq_false (by omega), beq_eq_false_iff_ne.mpr h]
theorem num_end2 {M : Str → Option Value} {g : Heap} {L lg lt ld : Addr} {vs : List Value} {n : Nat} {rest led : List (Addr × Obj)} {cur : List Int} {s₁ : Shared} {h' : Heap} {tk' : Nat} {vg : Option Value} {itd itt : Array Value} {ed et : Nat}
    (F : Fr g L h' (lawM M vg)) (N : News g L h' led) (h1 : (lg, listOf vs.toArray n) ∈ led) (h2 : (lt, listOf itt et) ∈ led) (h3 : (ld, listOf itd ed) ∈ led) (h4 : ∀ p ∈ rest, p ∈ led) (hi1 : IntsAre itd.toList cur) (hi2 : IntsAre itt.toList cur) : LawTurn M g L lg lt ld vs n rest cur s₁ .next { s₁ with heap := h', toks := tk' } := by
  refine ⟨rfl, h', tk', vg, itd, ed, itt, et, rfl, F, fun p hp => N p ?_, hi1, hi2⟩
  rcases List.mem_cons.mp hp with rfl | hp
  · exact h1
  · rcases List.mem_cons.mp hp with rfl | hp
    · exact h2
    · rcases List.mem_cons.mp hp with rfl | hp
      · exact h3
      · exact h4 _ hp
set_option maxHeartbeats 8000000 in
theorem main_ : PySem.Challenge.rw_sh0051_01.Holds := by
  refine hd_ rfl rfl rfl ?_
  w_strict k_go0
  all_goals try k_fold
  rename List Int => ns
  k_steps
  unfold Held
  have Nx := ‹News _ _ _ ((_, listOf _ _) :: (_, listOf #[.int 52 _, .int 180 _, .int 241 _, .int 8642 _, .int 7384 _, .int 302 _] 0) :: _)›
  refine' sub_from (ns := dfl) ?F Nx (.tail _ (.head _)) ?hi rfl rfl (by decide) (fun D h1 ws F1 N1 hi1 hD => ?_)
  case F => assumption
  case hi => repeat constructor
  clear Nx
  simp only [List.mem_cons, forall_eq_or_imp] at hD
  obtain ⟨a1, a2, a3, a4, a5, a6, a7, _⟩ := hD
  k_steps
  unfold Held
  refine' kmk_add_ints ?F N1 ?ha ?hb ?hi9 hi1 (fun D2 us2 h2 F2 N2 l2 hi2' => ?_) ?z
  case F => assumption
  case ha => exact News.isList N1 (.tail _ (.tail _ (.tail _ (.head _))))
  case hb => exact News.isList N1 (.head _)
  case hi9 => assumption
  case z => (rw [sizeLine_eq, List.length_take, List.length_drop]; show _ + (6 - _) ≤ _; omega)
  obtain ⟨ds, hds, hdl⟩ : ∃ ds, ds = List.take 6 ns ++ List.drop (List.take 6 ns).length dfl ∧ ds.length = 6 := ⟨_, rfl, by
    rw [List.length_append, List.length_drop]; show _ + (6 - _) = 6; rw [List.length_take]; omega⟩
  rw [← hds] at hi2'
  clear hds hi1 a1 a2 a3 a4 a5 a6 a7
  have N2 := News.cut N2 5
  simp only [List.drop_succ_cons, List.drop_zero] at N2
  (try k_lt l2)
  k_steps
  unfold Held
  refine comp_rangeI 1 6 5 (fun _ => true) (fun v => ((ds.getD v.toNat 0).fmod 60).fmod v) rfl rfl (by decide) rfl (by decide) rfl (by decide) (by decide) (by decide) ?_
  k_steps
  unfold Held
  have Nx3 := ‹News _ _ _ (_ :: _)›
  have ID3 : IntsAt _ D2 ds := ints_led Nx3 (by repeat (first | exact List.Mem.head _ | apply List.Mem.tail)) hi2'
  refine ⟨_, _, _, _, rfl, by assumption, ⟨?_, ?_⟩, ?_⟩
  · intro C k tk3 s₃ m₃ E' hk hn hm hkp
    simp only [List.forIn_nil]
    exact wpAny_pure ⟨rfl, _, _, rfl, fun b o e => e⟩
  · intro C k tk3 s₃ m₃ E' hk hpk hn hm hkp
    have hk1 : 1 ≤ k ∧ k ≤ 5 := ks_in hk
    have ID4 := ID3.keep hkp
    k_steps
    all_goals first | exact ⟨_, rfl⟩ | exact ⟨_, _, rfl, fun b o e => e⟩
  · intro D3 h3 tk3 ys3 n3 hD3 hpl3 hi3 hkp3
    dsimp only at hD3 hkp3 ⊢
    have hDf := fresh_ne Nx3 hD3
    simp only [List.mem_cons, forall_eq_or_imp] at hDf
    obtain ⟨b1, b2, b3, b4, b5, _⟩ := hDf
    have F3 := Fr.up (by assumption) hkp3
    have N3 := fresh_led (by assumption) Nx3 (fun b o e _ => hkp3 b o e) hD3 hpl3
    clear Nx3 ID3
    k_steps
    unfold Held
    have hfil : (rangeKs 1 5).filter (fun _ => true) = rangeKs 1 5 := List.filter_eq_self.mpr fun _ _ => rfl
    rw [hfil] at hi3
    refine' kmk_add_ints (ns := [-1]) (ms := (rangeKs 1 5).map fun v => ((ds.getD v.toNat 0).fmod 60).fmod v) ?F N3 ?ha ?hb ?hi9 hi3 (fun D4 us4 h4 F4 N4 l4 hi4 => ?_) ?z
    case F => assumption
    case ha => exact News.isList N3 (.tail _ (.head _))
    case hb => exact News.isList N3 (.head _)
    case hi9 => repeat constructor
    case z => (rw [sizeLine_eq, List.length_map, rangeKs_length]; decide)
    have hups : ([-1] ++ (rangeKs 1 5).map fun v => ((ds.getD v.toNat 0).fmod 60).fmod v) = upL ds := rfl
    rw [hups] at hi4
    clear hi3
    have N4 := News.cut N4 2
    simp only [List.drop_succ_cons, List.drop_zero] at N4
    (try k_lt l4)
    have hup := up_ok ds
    generalize upL ds = us at hi4 hup
    k_steps
    unfold Held
    refine' sub_brk ?N (.head _) (by first | exact (fmod_in _ (by decide)).1 | omega) (by first | exact (fmod_in _ (by decide)).2 | omega) (fun en te hen => ?_)
    case N => assumption
    k_steps
    unfold Held
    have Nc := News.off ‹News _ _ _ (_ :: _)›
    have Fc := ‹Fr _ _ _ fun y => _›
    have IU := ints_led Nc (by repeat (first | exact List.Mem.head _ | apply List.Mem.tail)) hi4
    k_dflt (refine' below_spec D4 us hup _ _ _ _ _ _ _ _ _ _ _ _ _ _ _ _ _ ?k1 Fc ?k3 (fun p hp => nomatch hp) ?k5 ?kK IU ?kd ?ku ?_)
    case k1 => k_asm
    case k3 => k_asm
    case k5 => k_asm
    case kK => exact rfl
    case kd => decide
    case ku => decide
    intro v5 h5 tk5 hR5
    obtain ⟨⟨bA, rfl, hbn, vsB, ⟨oB, hoB, hcB, nB, hdB⟩, hiB⟩, kp5⟩ := hR5
    have IB : ∀ h : Heap, h.get? bA = some oB → IntsAt h bA (belowL us) := fun h e => ⟨vsB, ⟨oB, e, hcB, nB, hdB⟩, hiB⟩
    have hDf := fresh_ne Nc hbn
    simp only [List.mem_cons, forall_eq_or_imp] at hDf
    obtain ⟨c1, c2, c3, c4, c5, _⟩ := hDf
    have F5 := Fr.kept Fc kp5
    have N5 := fresh_led Fc Nc kp5 hbn hoB
    clear Fc Nc IU
    dsimp only
    k_steps
    unfold Held
    have Nc := ‹News _ _ _ (_ :: _)›
    have Fc := ‹Fr _ _ _ fun y => _›
    have IU := ints_led Nc (by repeat (first | exact List.Mem.head _ | apply List.Mem.tail)) hi4
    have IB1 := IB _ (Nc (bA, oB) (by repeat (first | exact List.Mem.head _ | apply List.Mem.tail))).1
    k_dflt (refine' numbers_spec D4 bA us (belowL us) hup (below_ok hup) _ _ _ _ _ _ _ _ _ _ _ _ _ _ _ _ _ ?k1 Fc ?k3 (fun p hp => nomatch hp) ?k5 ?kK ⟨IU, IB1⟩ ?kd ?ku ?_)
    case k1 => k_asm
    case k3 => k_asm
    case k5 => k_asm
    case kK => exact rfl
    case kd => decide
    case ku => decide
    intro v6 h6 tk6 hR6
    obtain ⟨⟨nA, rfl, hnn, vsN, ⟨oN, hoN, hcN, nN, hdN⟩, hiN⟩, kp6⟩ := hR6
    have IN : ∀ h : Heap, h.get? nA = some oN → IntsAt h nA (numbersL us (belowL us)) := fun h e => ⟨vsN, ⟨oN, e, hcN, nN, hdN⟩, hiN⟩
    have hDf := fresh_ne Nc hnn
    simp only [List.mem_cons, forall_eq_or_imp] at hDf
    obtain ⟨d1, d2, d3, d4, d5, d6, _⟩ := hDf
    have F6 := Fr.kept Fc kp6
    have N6 := fresh_led Fc Nc kp6 hnn hoN
    clear Fc Nc IU IB1
    dsimp only
    k_steps
    unfold Held
    have F0 := ‹Fr _ _ _ fun y => _›
    refine For_invVF F0 rfl rfl ?_
    clear F0
    k_steps
    unfold Held
    have Ni := ‹News _ _ _ ((_, listOf #[_, _, _] 0) :: (_, listOf #[] 0) :: (_, listOf #[] 0) :: _)›
    have Fi := ‹Fr _ _ _ fun y => _›
    refine' law_loop [0, 1 + (ds.getD (Int.toNat 0) 0).fmod 5, 1 + ((ds.getD (Int.toNat 0) 0).fdiv 5).fmod 5] (dueN us) ?hL ?hh ?hvs Fi Ni ?_ ?_
    case hL => exact rfl
    case hh => exact rfl
    case hvs => repeat constructor
    · intro i x tx itd ed itt et h tk2 own hx hoff hi1 hi2 Ft Nt
      clear Fi Ni
      simp only [List.cons_append, List.nil_append] at Nt
      have hx5 : 0 ≤ x ∧ x ≤ 5 := by
        have b1 := fmod_in (ds.getD (Int.toNat 0) 0) (b := 5) (by decide)
        have b2 := fmod_in ((ds.getD (Int.toNat 0) 0).fdiv 5) (b := 5) (by decide)
        have hm := List.mem_of_getElem? hx
        simp only [List.mem_cons, List.not_mem_nil, or_false] at hm
        rcases hm with rfl | rfl | rfl <;> omega
      have hdue := due_in hup hx5.1 hx5.2
      have hsd : itd.size ≤ sizeLine := by
        have h9 := hi1.length
        have h8 := (List.getElem?_eq_some_iff.mp hx).1
        simp only [List.length_map, List.length_take, Array.length_toList] at h9
        simp only [List.length_cons, List.length_nil] at h8
        rw [sizeLine_eq]; omega
      have hst : itt.size ≤ sizeLine := by
        have h9 := hi2.length
        have h8 := (List.getElem?_eq_some_iff.mp hx).1
        simp only [List.length_map, List.length_take, Array.length_toList] at h9
        simp only [List.length_cons, List.length_nil] at h8
        rw [sizeLine_eq]; omega
      k_steps
      unfold Held
      have Nc := ‹News _ _ _ (_ :: _)›
      refine sub_intsZ (IB _ (Nc (bA, oB) (by repeat (first | exact List.Mem.head _ | apply List.Mem.tail))).1) hx5.1 (by have := below_len us 4; show x < ((belowUp us 4).length : Int); omega) (by have := below_len us 4; show (belowUp us 4).length ≤ _; omega) fun tb => ?_
      clear Nc
      k_steps
      unfold Held
      have Nc := ‹News _ _ _ (_ :: _)›
      refine sub_intsZ (IN _ (Nc (nA, oN) (by repeat (first | exact List.Mem.head _ | apply List.Mem.tail))).1) hdue.1 (by have := numbers_len us (belowL us) 32; show _ < ((numbersUp us (belowL us) 32).length : Int); rw [this]; exact hdue.2) (by have := numbers_len us (belowL us) 32; show (numbersUp us (belowL us) 32).length ≤ _; omega) fun tn => ?_
      clear Nc
      k_steps
      unfold Held
      have Nc := ‹News _ _ _ (_ :: _)›
      have Fc := ‹Fr _ _ _ (lawM _ _)›
      have IU := ints_led Nc (a := D4) (by repeat (first | exact List.Mem.head _ | apply List.Mem.tail)) hi4
      have ID := ints_led Nc (a := D2) (by repeat (first | exact List.Mem.head _ | apply List.Mem.tail)) hi2'
      k_dflt (refine' text_all D2 D4 ds us hdl hup x 5 (Nat.le_refl _) 0 _ _ (Int.le_refl _) (by decide) _ _ _ _ _ _ _ _ _ _ _ _ _ _ _ _ _ ?k1 Fc ?k3 (fun p hp => nomatch hp) ?k5 ?kK ⟨ID, IU⟩ ?kd ?ku ?_)
      case k1 => k_asm
      case k3 => k_asm
      case k5 => k_asm
      case kK => exact rfl
      case kd => decide
      case ku => decide
      intro v7 h7 tk7 hR7
      obtain ⟨⟨u7, rfl⟩, kp7⟩ := hR7
      have F7 := Fr.kept Fc kp7
      have N7 := News.up Nc (fun b o e => kp7 b o e (by simp))
      clear Fc Nc IU ID
      k_steps
      unfold Held
      have Nc := ‹News _ _ _ (_ :: _)›
      have Fc := ‹Fr _ _ _ (lawM _ _)›
      have hsf : Safe (⟨(txt ds us x 6 0).toArray⟩ : Str).cps.toList (0, []) := safe_text hup ds
      k_dflt (refine' told_spec ⟨(txt ds us x 6 0).toArray⟩ _ _ en hen hsf _ _ _ _ _ _ _ _ _ _ _ _ _ _ _ _ _ ?k1 Fc ?k3 (fun p hp => nomatch hp) ?k5 ?kK trivial ?kd ?ku ?_)
      case k1 => k_asm
      case k3 => k_asm
      case k5 => k_asm
      case kK => exact rfl
      case kd => decide
      case ku => decide
      intro v8 h8 tk8 hR8
      obtain ⟨⟨u8, rfl⟩, kp8⟩ := hR8
      have F8 := Fr.kept Fc kp8
      have N8 := News.up Nc (fun b o e => kp8 b o e (by simp))
      clear Fc Nc
      have htd : ((toldN (⟨(txt ds us x 6 0).toArray⟩ : Str).cps.toList : Nat) : Int) = dueN us x := told_due hup hx5.1 hx5.2 ds
      rw [htd]
      k_steps
      refine' num_end2 (by assumption) ?N ?h1 ?h2 ?h3 ?h4 ?i1 ?i2
      case N => assumption
      case h1 => repeat (first | exact List.Mem.head _ | apply List.Mem.tail)
      case h2 => repeat (first | exact List.Mem.head _ | apply List.Mem.tail)
      case h3 => repeat (first | exact List.Mem.head _ | apply List.Mem.tail)
      case h4 => exact fun p hp => .tail _ (.tail _ (.tail _ hp))
      case i1 => (rw [Array.toList_push]; exact hi1.append (.cons _ _ .nil))
      case i2 => (rw [Array.toList_push]; exact hi2.append (.cons _ _ .nil))
    · intro vg itd ed itt et h tk2 hi1 hi2 Fd Nd
      clear Fi Ni
      have hlt3 : itt.toList.length ≤ 1000 := by rw [hi2.length, List.length_map]; show 3 ≤ 1000; decide
      k_steps
      refine assign2_list (l := addr2 Nd) (vs := itt.toList) (fun a b y => y = .bool (decide (vint a - vint b = 0))) rfl rfl rfl (by decide) rfl (by decide) rfl rfl (by decide) rfl rfl ?_
      k_steps
      unfold Held
      have Nc := ‹News _ _ _ (_ :: _)›
      have Fc := ‹Fr _ _ _ (lawM _ _)›
      have NT := (Nc (_, listOf itt et) (.tail _ (.head _))).1
      refine ⟨_, rfl, IsL.isList (n := et) NT, hlt3, Fc.ns, ?_, ?_, ?_⟩
      · intro C s₃ m₃ E' hn hkp
        k_steps
        all_goals first | rfl | exact ⟨_, _, rfl, fun b o e => e⟩
      · intro C a b s₃ m₃ E' ha hb hn hma hmb hkp
        obtain ⟨i, ti, rfl⟩ := ints_mem hi2 ha
        obtain ⟨j, tj, rfl⟩ := ints_mem hi2 hb
        k_steps
        unfold Held
        k_dflt (refine' iseof_keep (i - j) _ _ _ _ _ _ _ _ _ _ _ _ _ _ _ _ _ _ ?k1 ?k2 ?k3 (fun p hp => nomatch hp) ?k5 ?kK trivial ?kd ?ku ?_)
        case k1 => k_asm
        case k2 => k_asm
        case k3 => k_asm
        case k5 => k_asm
        case kK => exact rfl
        case kd => decide
        case ku => decide
        intro v8 h8 tk8 hR8
        obtain ⟨rfl, kp8⟩ := hR8
        exact ⟨rfl, _, _, rfl, fun b o e => kp8 b o e (by simp)⟩
      · intro D7 h7 tk7 ys7 n7 hD7 hDn7 hP7 hNs7 hk7
        dsimp only at hD7 hk7 ⊢
        obtain ⟨F7, N7⟩ := assign_after Fc Nc hD7 hDn7 hNs7 hk7
        clear Fc Nc
        have hb7 : ys7.toList = (List.flatMap (fun a => List.map (fun b => a == b) (([0, 1 + (ds.getD (Int.toNat 0) 0).fmod 5, 1 + ((ds.getD (Int.toNat 0) 0).fdiv 5).fmod 5] : List Int).map (dueN us))) (([0, 1 + (ds.getD (Int.toNat 0) 0).fmod 5, 1 + ((ds.getD (Int.toNat 0) 0).fdiv 5).fmod 5] : List Int).map (dueN us))).map Value.bool := by
          rw [paired_map (f := fun (p : Value × Value) => Value.bool (decide (vint p.1 - vint p.2 = 0))) hP7, ← pairs_map hi2 fun a b => a == b]
          exact List.map_congr_left fun p _ => by rw [dec_beq]
        k_steps
        unfold Held
        have Nc := ‹News _ _ _ (_ :: _)›
        refine eq_ints Nc (by repeat (first | exact List.Mem.head _ | apply List.Mem.tail)) (by repeat (first | exact List.Mem.head _ | apply List.Mem.tail)) hi2 hi1 (by first | ktr_units | decide) ?_
        clear Nc
        k_steps
        unfold Held
        refine comp2_list (l := addr3 Nd) (vs := itd.toList) (fun a b y => y = .bool (vint a == vint b)) rfl rfl (by decide) rfl (by decide) rfl rfl (by decide) ?_
        k_steps
        unfold Held
        have Nc := ‹News _ _ _ (_ :: _)›
        have NT := (Nc (_, listOf itd ed) (.tail _ (.tail _ (.tail _ (.head _))))).1
        refine ⟨rfl, IsL.isList (n := ed) NT, by rw [hi1.length, List.length_map]; show 3 ≤ 1000; decide, ?_, ?_, ?_⟩
        · intro C s₃ m₃ E' hn hkp
          k_steps
          all_goals first | rfl | exact ⟨_, _, rfl, fun b o e => e⟩
        · intro C a b s₃ m₃ E' ha hb hn hma hmb hkp
          obtain ⟨i, ti, rfl⟩ := ints_mem hi1 ha
          obtain ⟨j, tj, rfl⟩ := ints_mem hi1 hb
          k_steps
          all_goals first | rfl | exact ⟨_, _, rfl, fun b o e => e⟩
        · intro D9 h9 tk9 ys9 n9 hD9 hDn9 hP9 hk9
          dsimp only at hD9 hk9 ⊢
          have F9 := Fr.up (by assumption) hk9
          have N9 := fresh_led (by assumption) Nc (fun b o e _ => hk9 b o e) hD9 hDn9
          clear Nc
          have hb9 := (paired_map (f := fun (p : Value × Value) => Value.bool (vint p.1 == vint p.2)) hP9).trans (pairs_map hi1 fun a b => a == b)
          k_steps
          unfold Held
          have Nc := ‹News _ _ _ (_ :: _)›
          refine eq_boolL Nc (by repeat (first | exact List.Mem.head _ | apply List.Mem.tail)) (by repeat (first | exact List.Mem.head _ | apply List.Mem.tail)) hb7 hb9 (by first | ktr_units | decide) ?_
          k_steps
end
end Sh51
set_option maxRecDepth 100000 in
set_option maxHeartbeats 8000000 in
theorem PySem.Challenge.cw_sh0051_01_holds : PySem.Challenge.rw_sh0051_01.Holds := by
  exact Sh51.main_
