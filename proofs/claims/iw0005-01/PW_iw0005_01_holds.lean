import PyProof.Rows.All
import Wide.All
import OpenK.AllK
import Wide.FinOn
import Lean
import PySem.Challenge.RW_iw0005_01
set_option Elab.async false
local macro_rules
  | `(tactic| walk_at $s:str) => do let k := Lean.Syntax.mkStrLit ("12 " ++ s.getString); `(tactic| k_extra $k)
local macro_rules
  | `(tactic| walk_at $s:str) => do let k := Lean.Syntax.mkStrLit ("11 " ++ s.getString); `(tactic| k_extra $k)
local macro_rules
  | `(tactic| walk_at $s:str) => do let k := Lean.Syntax.mkStrLit ("10 " ++ s.getString); `(tactic| k_extra $k)
local macro_rules
  | `(tactic| walk_at $s:str) => do let k := Lean.Syntax.mkStrLit ("9 " ++ s.getString); `(tactic| k_extra $k)
local macro_rules
  | `(tactic| walk_at $s:str) => do let k := Lean.Syntax.mkStrLit ("8 " ++ s.getString); `(tactic| k_extra $k)
local macro_rules
  | `(tactic| walk_at $s:str) => do let k := Lean.Syntax.mkStrLit ("7 " ++ s.getString); `(tactic| k_extra $k)
local macro_rules
  | `(tactic| walk_at $s:str) => do let k := Lean.Syntax.mkStrLit ("6 " ++ s.getString); `(tactic| k_extra $k)
local macro_rules
  | `(tactic| walk_at $s:str) => do let k := Lean.Syntax.mkStrLit ("5 " ++ s.getString); `(tactic| k_extra $k)
local macro_rules
  | `(tactic| walk_at $s:str) => do let k := Lean.Syntax.mkStrLit ("4 " ++ s.getString); `(tactic| k_extra $k)
local macro_rules
  | `(tactic| walk_at $s:str) => do let k := Lean.Syntax.mkStrLit ("3 " ++ s.getString); `(tactic| k_extra $k)
local macro_rules
  | `(tactic| walk_at $s:str) => do let k := Lean.Syntax.mkStrLit ("2 " ++ s.getString); `(tactic| k_extra $k)
local macro_rules
  | `(tactic| walk_at $s:str) => do let k := Lean.Syntax.mkStrLit ("1 " ++ s.getString); `(tactic| k_extra $k)
-- Hs
noncomputable section
open PySem PySem.W PySem.Calls PyProof.Rows
set_option maxRecDepth 100000
set_option maxHeartbeats 0
set_option linter.unusedVariables false
namespace Mine
theorem ru1 : True := by
  k_with_none
  k_with "12 eval Name" => ((k_here; (first | (with_reducible show wpAny _ _ (eval (Expr.Name _ _) (envOf _ _ _ _ _)) _ _ _) | (with_reducible show wpAny _ _ (eval (Expr.Name _ _) (envOfC _ _ _ _ _)) _ _ _) | (with_reducible show wpAny _ _ (eval (Expr.Name _ _) (envX _ _ _ _ _ _)) _ _ _)); k_dflt (first
      | (refine' nameX_K ?F_0 ?X_0 ?T_0 ?e_0 ?_ ?a_0 ?b_0; (case b_0 => kernel_rfl!); (case a_0 => rfl); (case F_0 => k_asm); (case X_0 => k_asm); (case T_0 => k_asm); (case e_0 => k_is); k_whole)
      | (refine' nameX_L ?F_0 ?v_0 ?_ ?a_0 ?b_0; (case b_0 => kernel_rfl!); (case a_0 => rfl); (case F_0 => k_asm); (case v_0 => rfl); k_whole)
      | (refine' nameX_B ?F_0 ?X_0 ?T_0 ?e_0 ?v_0 ?n_0 ?_ ?a_0 ?b_0; (case b_0 => kernel_rfl!); (case a_0 => rfl); (case F_0 => k_asm); (case X_0 => k_asm); (case T_0 => k_asm); (case e_0 => k_is); (case v_0 => boot_fast); (case n_0 => decide); k_whole))))
  k_with "12 callWith ref" => ((k_here; (with_reducible show wpAny _ _ (callWith _ (Value.ref _) _ (backTo _ (starEach (_ :: _) _)) (backToKw _ _)) _ _ _); k_dflt (refine' callWith_KW ?k1_0 ?k2_0 ?k3_0 ?_; (case k1_0 => k_asm); (case k2_0 => k_is); (case k3_0 => exact rfl); k_whole)))
  trivial
noncomputable abbrev pw : Program := PySem.Challenge.pw_iw0005_01
noncomputable abbrev annV : Option Value := some (.ref 6)
noncomputable abbrev bodyV : List Stmt := behindTheImports pw
noncomputable abbrev envM : Env := { scope := pw.main.scope, locals := mainNs, globals := mainNs, cells := [], code := .ref 13, frame := some 14 }
noncomputable abbrev qM : Pos := ⟨0, 0, 0, 0⟩
noncomputable abbrev codeM : Code := .body bodyV envM
/-- the parts of the text's defs, taken out of the given program -/
noncomputable def fdB (i : Nat) : List Stmt := match pw.main.body[i]? with | some (.FunctionDef _ _ b _ _ _ _ _ _ _) => b | _ => []
noncomputable def fdP (i : Nat) : Arguments := match pw.main.body[i]? with | some (.FunctionDef _ a _ _ _ _ _ _ _ _) => a | _ => default
noncomputable def fdS (i : Nat) : Scope := match pw.main.body[i]? with | some (.FunctionDef _ _ _ _ _ _ s _ _ _) => s | _ => default
@[reducible] noncomputable def fB1 : List Stmt := by
  refine (fun (l : List Stmt) (_ : fdB 1 = l) => l) ?l ?h
  rotate_left
  conv => lhs; whnf
@[reducible] noncomputable def fP1 : Arguments := by
  refine (fun (l : Arguments) (_ : fdP 1 = l) => l) ?l ?h
  rotate_left
  conv => lhs; whnf
@[reducible] noncomputable def fS1 : Scope := by
  refine (fun (l : Scope) (_ : fdS 1 = l) => l) ?l ?h
  rotate_left
  conv => lhs; whnf
@[reducible] noncomputable def fB2 : List Stmt := by
  refine (fun (l : List Stmt) (_ : fdB 2 = l) => l) ?l ?h
  rotate_left
  conv => lhs; whnf
@[reducible] noncomputable def fP2 : Arguments := by
  refine (fun (l : Arguments) (_ : fdP 2 = l) => l) ?l ?h
  rotate_left
  conv => lhs; whnf
@[reducible] noncomputable def fS2 : Scope := by
  refine (fun (l : Scope) (_ : fdS 2 = l) => l) ?l ?h
  rotate_left
  conv => lhs; whnf
@[reducible] noncomputable def fB4 : List Stmt := by
  refine (fun (l : List Stmt) (_ : fdB 4 = l) => l) ?l ?h
  rotate_left
  conv => lhs; whnf
@[reducible] noncomputable def fP4 : Arguments := by
  refine (fun (l : Arguments) (_ : fdP 4 = l) => l) ?l ?h
  rotate_left
  conv => lhs; whnf
@[reducible] noncomputable def fS4 : Scope := by
  refine (fun (l : Scope) (_ : fdS 4 = l) => l) ?l ?h
  rotate_left
  conv => lhs; whnf
@[reducible] noncomputable def fB9 : List Stmt := by
  refine (fun (l : List Stmt) (_ : fdB 9 = l) => l) ?l ?h
  rotate_left
  conv => lhs; whnf
@[reducible] noncomputable def fP9 : Arguments := by
  refine (fun (l : Arguments) (_ : fdP 9 = l) => l) ?l ?h
  rotate_left
  conv => lhs; whnf
@[reducible] noncomputable def fS9 : Scope := by
  refine (fun (l : Scope) (_ : fdS 9 = l) => l) ?l ?h
  rotate_left
  conv => lhs; whnf
@[reducible] noncomputable def fB10 : List Stmt := by
  refine (fun (l : List Stmt) (_ : fdB 10 = l) => l) ?l ?h
  rotate_left
  conv => lhs; whnf
@[reducible] noncomputable def fP10 : Arguments := by
  refine (fun (l : Arguments) (_ : fdP 10 = l) => l) ?l ?h
  rotate_left
  conv => lhs; whnf
@[reducible] noncomputable def fS10 : Scope := by
  refine (fun (l : Scope) (_ : fdS 10 = l) => l) ?l ?h
  rotate_left
  conv => lhs; whnf
@[reducible] noncomputable def fB11 : List Stmt := by
  refine (fun (l : List Stmt) (_ : fdB 11 = l) => l) ?l ?h
  rotate_left
  conv => lhs; whnf
@[reducible] noncomputable def fP11 : Arguments := by
  refine (fun (l : Arguments) (_ : fdP 11 = l) => l) ?l ?h
  rotate_left
  conv => lhs; whnf
@[reducible] noncomputable def fS11 : Scope := by
  refine (fun (l : Scope) (_ : fdS 11 = l) => l) ?l ?h
  rotate_left
  conv => lhs; whnf
@[reducible] noncomputable def fB12 : List Stmt := by
  refine (fun (l : List Stmt) (_ : fdB 12 = l) => l) ?l ?h
  rotate_left
  conv => lhs; whnf
@[reducible] noncomputable def fP12 : Arguments := by
  refine (fun (l : Arguments) (_ : fdP 12 = l) => l) ?l ?h
  rotate_left
  conv => lhs; whnf
@[reducible] noncomputable def fS12 : Scope := by
  refine (fun (l : Scope) (_ : fdS 12 = l) => l) ?l ?h
  rotate_left
  conv => lhs; whnf
@[reducible] noncomputable def fB13 : List Stmt := by
  refine (fun (l : List Stmt) (_ : fdB 13 = l) => l) ?l ?h
  rotate_left
  conv => lhs; whnf
@[reducible] noncomputable def fP13 : Arguments := by
  refine (fun (l : Arguments) (_ : fdP 13 = l) => l) ?l ?h
  rotate_left
  conv => lhs; whnf
@[reducible] noncomputable def fS13 : Scope := by
  refine (fun (l : Scope) (_ : fdS 13 = l) => l) ?l ?h
  rotate_left
  conv => lhs; whnf
@[reducible] noncomputable def fB16 : List Stmt := by
  refine (fun (l : List Stmt) (_ : fdB 16 = l) => l) ?l ?h
  rotate_left
  conv => lhs; whnf
@[reducible] noncomputable def fP16 : Arguments := by
  refine (fun (l : Arguments) (_ : fdP 16 = l) => l) ?l ?h
  rotate_left
  conv => lhs; whnf
@[reducible] noncomputable def fS16 : Scope := by
  refine (fun (l : Scope) (_ : fdS 16 = l) => l) ?l ?h
  rotate_left
  conv => lhs; whnf
@[reducible] noncomputable def fB17 : List Stmt := by
  refine (fun (l : List Stmt) (_ : fdB 17 = l) => l) ?l ?h
  rotate_left
  conv => lhs; whnf
@[reducible] noncomputable def fP17 : Arguments := by
  refine (fun (l : Arguments) (_ : fdP 17 = l) => l) ?l ?h
  rotate_left
  conv => lhs; whnf
@[reducible] noncomputable def fS17 : Scope := by
  refine (fun (l : Scope) (_ : fdS 17 = l) => l) ?l ?h
  rotate_left
  conv => lhs; whnf
@[reducible] noncomputable def fB18 : List Stmt := by
  refine (fun (l : List Stmt) (_ : fdB 18 = l) => l) ?l ?h
  rotate_left
  conv => lhs; whnf
@[reducible] noncomputable def fP18 : Arguments := by
  refine (fun (l : Arguments) (_ : fdP 18 = l) => l) ?l ?h
  rotate_left
  conv => lhs; whnf
@[reducible] noncomputable def fS18 : Scope := by
  refine (fun (l : Scope) (_ : fdS 18 = l) => l) ?l ?h
  rotate_left
  conv => lhs; whnf
@[reducible] noncomputable def fB19 : List Stmt := by
  refine (fun (l : List Stmt) (_ : fdB 19 = l) => l) ?l ?h
  rotate_left
  conv => lhs; whnf
@[reducible] noncomputable def fP19 : Arguments := by
  refine (fun (l : Arguments) (_ : fdP 19 = l) => l) ?l ?h
  rotate_left
  conv => lhs; whnf
@[reducible] noncomputable def fS19 : Scope := by
  refine (fun (l : Scope) (_ : fdS 19 = l) => l) ?l ?h
  rotate_left
  conv => lhs; whnf
@[reducible] noncomputable def fB20 : List Stmt := by
  refine (fun (l : List Stmt) (_ : fdB 20 = l) => l) ?l ?h
  rotate_left
  conv => lhs; whnf
@[reducible] noncomputable def fP20 : Arguments := by
  refine (fun (l : Arguments) (_ : fdP 20 = l) => l) ?l ?h
  rotate_left
  conv => lhs; whnf
@[reducible] noncomputable def fS20 : Scope := by
  refine (fun (l : Scope) (_ : fdS 20 = l) => l) ?l ?h
  rotate_left
  conv => lhs; whnf
@[reducible] noncomputable def fB21 : List Stmt := by
  refine (fun (l : List Stmt) (_ : fdB 21 = l) => l) ?l ?h
  rotate_left
  conv => lhs; whnf
@[reducible] noncomputable def fP21 : Arguments := by
  refine (fun (l : Arguments) (_ : fdP 21 = l) => l) ?l ?h
  rotate_left
  conv => lhs; whnf
@[reducible] noncomputable def fS21 : Scope := by
  refine (fun (l : Scope) (_ : fdS 21 = l) => l) ?l ?h
  rotate_left
  conv => lhs; whnf
@[reducible] noncomputable def fB22 : List Stmt := by
  refine (fun (l : List Stmt) (_ : fdB 22 = l) => l) ?l ?h
  rotate_left
  conv => lhs; whnf
@[reducible] noncomputable def fP22 : Arguments := by
  refine (fun (l : Arguments) (_ : fdP 22 = l) => l) ?l ?h
  rotate_left
  conv => lhs; whnf
@[reducible] noncomputable def fS22 : Scope := by
  refine (fun (l : Scope) (_ : fdS 22 = l) => l) ?l ?h
  rotate_left
  conv => lhs; whnf
@[reducible] noncomputable def fB23 : List Stmt := by
  refine (fun (l : List Stmt) (_ : fdB 23 = l) => l) ?l ?h
  rotate_left
  conv => lhs; whnf
@[reducible] noncomputable def fP23 : Arguments := by
  refine (fun (l : Arguments) (_ : fdP 23 = l) => l) ?l ?h
  rotate_left
  conv => lhs; whnf
@[reducible] noncomputable def fS23 : Scope := by
  refine (fun (l : Scope) (_ : fdS 23 = l) => l) ?l ?h
  rotate_left
  conv => lhs; whnf
@[reducible] noncomputable def fB24 : List Stmt := by
  refine (fun (l : List Stmt) (_ : fdB 24 = l) => l) ?l ?h
  rotate_left
  conv => lhs; whnf
@[reducible] noncomputable def fP24 : Arguments := by
  refine (fun (l : Arguments) (_ : fdP 24 = l) => l) ?l ?h
  rotate_left
  conv => lhs; whnf
@[reducible] noncomputable def fS24 : Scope := by
  refine (fun (l : Scope) (_ : fdS 24 = l) => l) ?l ?h
  rotate_left
  conv => lhs; whnf
@[reducible] noncomputable def fB25 : List Stmt := by
  refine (fun (l : List Stmt) (_ : fdB 25 = l) => l) ?l ?h
  rotate_left
  conv => lhs; whnf
@[reducible] noncomputable def fP25 : Arguments := by
  refine (fun (l : Arguments) (_ : fdP 25 = l) => l) ?l ?h
  rotate_left
  conv => lhs; whnf
@[reducible] noncomputable def fS25 : Scope := by
  refine (fun (l : Scope) (_ : fdS 25 = l) => l) ?l ?h
  rotate_left
  conv => lhs; whnf
@[reducible] noncomputable def fB26 : List Stmt := by
  refine (fun (l : List Stmt) (_ : fdB 26 = l) => l) ?l ?h
  rotate_left
  conv => lhs; whnf
@[reducible] noncomputable def fP26 : Arguments := by
  refine (fun (l : Arguments) (_ : fdP 26 = l) => l) ?l ?h
  rotate_left
  conv => lhs; whnf
@[reducible] noncomputable def fS26 : Scope := by
  refine (fun (l : Scope) (_ : fdS 26 = l) => l) ?l ?h
  rotate_left
  conv => lhs; whnf

noncomputable def listV (c tk i : Nat) : List Value := (List.range i).map fun (j : Nat) => Value.int (Int.ofNat (Nat.xor j c)) (tk + 6 + 4 * j)
noncomputable def transL (c i : Nat) : List UInt8 := (List.range i).map fun (j : Nat) => UInt8.ofNat (Nat.xor j c)
noncomputable def transA (c : Nat) : Array UInt8 := (transL c 256).toArray
noncomputable def rangeO (tk : Nat) : Obj := { cls := .type "range", data := .fields #[.int 0 (tk + 1), .int 256 tk, .int 1 (tk + 2)] }
noncomputable def iterO (i : Nat) : Obj := { cls := .type "range_iterator", data := .fields #[.int (Int.ofNat i) 0, .int (Int.ofNat (256 - i)) 0, .int 1 0] }
noncomputable def listO (c tk i : Nat) : Obj := { cls := .type "list", data := .seq (listV c tk i).toArray i }
noncomputable def dictO (P : Params) (tk i : Nat) : Obj := { cls := .type "dict", data := match i with | 0 => .dict #[] 0 | j + 1 => .dict #[⟨PyData.keyHash P "x", .str "x" (tk + 4), .int (Int.ofNat j) (tk + 3 + 4 * j)⟩] 1 }
noncomputable def dictZ : Obj := { cls := .type "dict", data := .dict #[] 2 }
noncomputable def tupO : Obj := { cls := .type "tuple", data := .seq #[] 0 }
noncomputable def stopO (t : Nat) : Obj := { cls := .type "StopIteration", data := .fields #[.ref t, .none, .none, .none, .bool false, .none] }
noncomputable def litO (l j : Nat) : Obj := { cls := .type "list_iterator", data := .fields #[.ref l, .int (Int.ofNat j) 0] }
noncomputable def barO (c j : Nat) : Obj := { cls := .type "bytearray", data := .bytearray (transL c j).toArray 0 }
/-! state b: 15 objects, toks 187, pos { line := 0, col := 0, endLine := 0, endCol := 0 }, gens 0, drawn 0 -/
noncomputable def o0_b (P : Params) : Obj := boot_o_0 P
noncomputable def o1_b (P : Params) : Obj := boot_o_1 P
noncomputable def o2_b (P : Params) : Obj := boot_o_2 P
noncomputable def o3_b (P : Params) : Obj := ⟨(.type "dict"), none, (.dict #[⟨PyData.keyHash P (Str.ofString "__name__"), (.str (Str.ofString "__name__") 165), (.str (Str.ofString "__main__") 164)⟩, ⟨PyData.keyHash P (Str.ofString "__doc__"), (.str (Str.ofString "__doc__") 166), .none⟩, ⟨PyData.keyHash P (Str.ofString "__package__"), (.str (Str.ofString "__package__") 167), .none⟩, ⟨PyData.keyHash P (Str.ofString "__loader__"), (.str (Str.ofString "__loader__") 168), (.builtin "__main__.__loader__#opaque")⟩, ⟨PyData.keyHash P (Str.ofString "__spec__"), (.str (Str.ofString "__spec__") 169), .none⟩, ⟨PyData.keyHash P (Str.ofString "__annotations__"), (.str (Str.ofString "__annotations__") 170), (.ref 6)⟩, ⟨PyData.keyHash P (Str.ofString "__builtins__"), (.str (Str.ofString "__builtins__") 171), (.ref 4)⟩, ⟨PyData.keyHash P (Str.ofString "__file__"), (.str (Str.ofString "__file__") 173), (.str (Str.ofString "/claim/cut.py") 172)⟩, ⟨PyData.keyHash P (Str.ofString "__cached__"), (.str (Str.ofString "__cached__") 174), .none⟩] 9), #[]⟩
noncomputable def o4_b (P : Params) : Obj := boot_o_4 P
noncomputable def o5_b (P : Params) : Obj := boot_o_5 P
noncomputable def o6_b (P : Params) : Obj := boot_o_6 P
noncomputable def o7_b (P : Params) : Obj := boot_o_7 P
noncomputable def o8_b (P : Params) : Obj := boot_o_8 P
noncomputable def o9_b (P : Params) : Obj := boot_o_9 P
noncomputable def o10_b (P : Params) : Obj := boot_o_10 P
noncomputable def o11_b (P : Params) : Obj := ⟨(.type "tuple"), none, (.seq #[] 0), #[]⟩
noncomputable def o12_b (P : Params) : Obj := ⟨.none, none, (.fields #[]), #[]⟩
noncomputable def o13_b (P : Params) : Obj := ⟨(.type "code"), none, (.fields #[(.str (Str.ofString "<module>") 182), (.str (Str.ofString "<module>") 183), (.str (Str.ofString "/claim/cut.py") 184), (.int 1 0), (.int 0 0), (.int 0 0), (.int 0 0), (.int 0 0), (.ref 11), (.bool false), (.int 181 0), (.ref 12), .none, .none, .none, .none, (.int 185 0), (.int 1 0), (.str (Str.ofString "/claim/cut.py") 186)]), #[]⟩
noncomputable def o14_b (P : Params) : Obj := ⟨(.type "frame"), none, .plain, #[(some (.ref 13)), (some (.ref 3)), (some (.ref 3)), none, (some (.str (Str.ofString "__main__") 164)), none, (some (.ref 0))]⟩
noncomputable def objsb (P : Params) : List Obj := [o0_b P, o1_b P, o2_b P, o3_b P, o4_b P, o5_b P, o6_b P, o7_b P, o8_b P, o9_b P, o10_b P, o11_b P, o12_b P, o13_b P, o14_b P]
/-! state 7: 37 objects, toks 227, pos { line := 18, col := 0, endLine := 18, endCol := 10 }, gens 0, drawn 0 -/
noncomputable def o3_7 (P : Params) : Obj := ⟨(.type "dict"), none, (.dict #[⟨PyData.keyHash P (Str.ofString "__name__"), (.str (Str.ofString "__name__") 165), (.str (Str.ofString "passlib.crypto.digest") 219)⟩, ⟨PyData.keyHash P (Str.ofString "__doc__"), (.str (Str.ofString "__doc__") 166), .none⟩, ⟨PyData.keyHash P (Str.ofString "__package__"), (.str (Str.ofString "__package__") 167), .none⟩, ⟨PyData.keyHash P (Str.ofString "__loader__"), (.str (Str.ofString "__loader__") 168), (.builtin "__main__.__loader__#opaque")⟩, ⟨PyData.keyHash P (Str.ofString "__spec__"), (.str (Str.ofString "__spec__") 169), .none⟩, ⟨PyData.keyHash P (Str.ofString "__annotations__"), (.str (Str.ofString "__annotations__") 170), (.ref 6)⟩, ⟨PyData.keyHash P (Str.ofString "__builtins__"), (.str (Str.ofString "__builtins__") 171), (.ref 4)⟩, ⟨PyData.keyHash P (Str.ofString "__file__"), (.str (Str.ofString "__file__") 173), (.str (Str.ofString "/claim/cut.py") 172)⟩, ⟨PyData.keyHash P (Str.ofString "__cached__"), (.str (Str.ofString "__cached__") 174), .none⟩, ⟨PyData.keyHash P (Str.ofString "ExpectedTypeError"), (.str (Str.ofString "ExpectedTypeError") 197), (.ref 21)⟩, ⟨PyData.keyHash P (Str.ofString "ExpectedStringError"), (.str (Str.ofString "ExpectedStringError") 205), (.ref 28)⟩, ⟨PyData.keyHash P (Str.ofString "to_bytes"), (.str (Str.ofString "to_bytes") 218), (.ref 36)⟩, ⟨PyData.keyHash P (Str.ofString "MAX_UINT32"), (.str (Str.ofString "MAX_UINT32") 226), (.int 4294967295 225)⟩] 13), #[]⟩
noncomputable def o12_7 (P : Params) : Obj := ⟨.none, none, (.fields #[(.int 2 0), (.int 0 0), (.ref 20), (.int 4 0), (.int 0 0), (.ref 27), (.int 7 0), (.int 0 0), (.ref 35)]), #[]⟩
noncomputable def o15_7 (P : Params) : Obj := ⟨(.type "tuple"), none, (.seq #[] 0), #[]⟩
noncomputable def o16_7 (P : Params) : Obj := ⟨.none, none, (.fields #[]), #[]⟩
noncomputable def o17_7 (P : Params) : Obj := ⟨(.type "tuple"), none, (.seq #[(.str (Str.ofString "value") 192), (.str (Str.ofString "expected") 193), (.str (Str.ofString "param") 194)] 0), #[]⟩
noncomputable def o18_7 (P : Params) : Obj := ⟨(.type "tuple"), none, (.seq #[] 0), #[]⟩
noncomputable def o19_7 (P : Params) : Obj := ⟨.none, none, (.func { name := (Str.ofString "ExpectedTypeError"), qualname := (Str.ofString "ExpectedTypeError"), params := fP1, body := .stmts fB1, scope := fS1, globals := 0, closure := [], defaults := .none, kwdefaults := .none, doc := .none, pyModule := .none, annotations := none, code := .none, closureTuple := .none, builtins := 0 }), #[]⟩
noncomputable def o20_7 (P : Params) : Obj := ⟨(.type "code"), none, (.fields #[(.str (Str.ofString "ExpectedTypeError") 189), (.str (Str.ofString "ExpectedTypeError") 190), (.str (Str.ofString "/claim/cut.py") 191), (.int 2 0), (.int 3 0), (.int 0 0), (.int 0 0), (.int 3 0), (.ref 15), (.bool true), (.int 181 0), (.ref 16), .none, (.ref 17), (.ref 18), (.ref 19), (.int 195 0), (.int 2 0), (.str (Str.ofString "/claim/cut.py") 196)]), #[]⟩
noncomputable def o21_7 (P : Params) : Obj := ⟨(.type "function"), none, (.func { name := (Str.ofString "ExpectedTypeError"), qualname := (Str.ofString "ExpectedTypeError"), params := fP1, body := .stmts fB1, scope := fS1, globals := 3, closure := [], defaults := .none, kwdefaults := .none, doc := .none, pyModule := (.str (Str.ofString "passlib.exc") 187), annotations := none, code := (.ref 20), closureTuple := .none, builtins := 0 }), #[]⟩
noncomputable def o22_7 (P : Params) : Obj := ⟨(.type "tuple"), none, (.seq #[] 0), #[]⟩
noncomputable def o23_7 (P : Params) : Obj := ⟨.none, none, (.fields #[]), #[]⟩
noncomputable def o24_7 (P : Params) : Obj := ⟨(.type "tuple"), none, (.seq #[(.str (Str.ofString "value") 201), (.str (Str.ofString "param") 202)] 0), #[]⟩
noncomputable def o25_7 (P : Params) : Obj := ⟨(.type "tuple"), none, (.seq #[] 0), #[]⟩
noncomputable def o26_7 (P : Params) : Obj := ⟨.none, none, (.func { name := (Str.ofString "ExpectedStringError"), qualname := (Str.ofString "ExpectedStringError"), params := fP2, body := .stmts fB2, scope := fS2, globals := 0, closure := [], defaults := .none, kwdefaults := .none, doc := .none, pyModule := .none, annotations := none, code := .none, closureTuple := .none, builtins := 0 }), #[]⟩
noncomputable def o27_7 (P : Params) : Obj := ⟨(.type "code"), none, (.fields #[(.str (Str.ofString "ExpectedStringError") 198), (.str (Str.ofString "ExpectedStringError") 199), (.str (Str.ofString "/claim/cut.py") 200), (.int 4 0), (.int 2 0), (.int 0 0), (.int 0 0), (.int 3 0), (.ref 22), (.bool true), (.int 181 0), (.ref 23), .none, (.ref 24), (.ref 25), (.ref 26), (.int 203 0), (.int 4 0), (.str (Str.ofString "/claim/cut.py") 204)]), #[]⟩
noncomputable def o28_7 (P : Params) : Obj := ⟨(.type "function"), none, (.func { name := (Str.ofString "ExpectedStringError"), qualname := (Str.ofString "ExpectedStringError"), params := fP2, body := .stmts fB2, scope := fS2, globals := 3, closure := [], defaults := .none, kwdefaults := .none, doc := .none, pyModule := (.str (Str.ofString "passlib.exc") 187), annotations := none, code := (.ref 27), closureTuple := .none, builtins := 0 }), #[]⟩
noncomputable def o29_7 (P : Params) : Obj := ⟨(.type "tuple"), none, (.seq #[(.str (Str.ofString "utf-8") 208), (.str (Str.ofString "value") 209)] 0), #[]⟩
noncomputable def o30_7 (P : Params) : Obj := ⟨(.type "tuple"), none, (.seq #[] 0), #[]⟩
noncomputable def o31_7 (P : Params) : Obj := ⟨.none, none, (.fields #[]), #[]⟩
noncomputable def o32_7 (P : Params) : Obj := ⟨(.type "tuple"), none, (.seq #[(.str (Str.ofString "source") 213), (.str (Str.ofString "encoding") 214), (.str (Str.ofString "param") 215)] 0), #[]⟩
noncomputable def o33_7 (P : Params) : Obj := ⟨(.type "tuple"), none, (.seq #[] 0), #[]⟩
noncomputable def o34_7 (P : Params) : Obj := ⟨.none, none, (.func { name := (Str.ofString "to_bytes"), qualname := (Str.ofString "to_bytes"), params := fP4, body := .stmts fB4, scope := fS4, globals := 0, closure := [], defaults := .none, kwdefaults := .none, doc := .none, pyModule := .none, annotations := none, code := .none, closureTuple := .none, builtins := 0 }), #[]⟩
noncomputable def o35_7 (P : Params) : Obj := ⟨(.type "code"), none, (.fields #[(.str (Str.ofString "to_bytes") 210), (.str (Str.ofString "to_bytes") 211), (.str (Str.ofString "/claim/cut.py") 212), (.int 7 0), (.int 3 0), (.int 0 0), (.int 0 0), (.int 3 0), (.ref 30), (.bool true), (.int 181 0), (.ref 31), .none, (.ref 32), (.ref 33), (.ref 34), (.int 216 0), (.int 7 0), (.str (Str.ofString "/claim/cut.py") 217)]), #[]⟩
noncomputable def o36_7 (P : Params) : Obj := ⟨(.type "function"), none, (.func { name := (Str.ofString "to_bytes"), qualname := (Str.ofString "to_bytes"), params := fP4, body := .stmts fB4, scope := fS4, globals := 3, closure := [], defaults := (.ref 29), kwdefaults := .none, doc := .none, pyModule := (.str (Str.ofString "passlib.utils") 206), annotations := none, code := (.ref 35), closureTuple := .none, builtins := 0 }), #[]⟩
noncomputable def objs7 (P : Params) : List Obj := [o0_b P, o1_b P, o2_b P, o3_7 P, o4_b P, o5_b P, o6_b P, o7_b P, o8_b P, o9_b P, o10_b P, o11_b P, o12_7 P, o13_b P, o14_b P, o15_7 P, o16_7 P, o17_7 P, o18_7 P, o19_7 P, o20_7 P, o21_7 P, o22_7 P, o23_7 P, o24_7 P, o25_7 P, o26_7 P, o27_7 P, o28_7 P, o29_7 P, o30_7 P, o31_7 P, o32_7 P, o33_7 P, o34_7 P, o35_7 P, o36_7 P]
/-! state 8: 47 objects, toks 1256, pos { line := 19, col := 0, endLine := 19, endCol := 9 }, gens 0, drawn 0 -/
noncomputable def o3_8 (P : Params) : Obj := ⟨(.type "dict"), none, (.dict #[⟨PyData.keyHash P (Str.ofString "__name__"), (.str (Str.ofString "__name__") 165), (.str (Str.ofString "passlib.crypto.digest") 219)⟩, ⟨PyData.keyHash P (Str.ofString "__doc__"), (.str (Str.ofString "__doc__") 166), .none⟩, ⟨PyData.keyHash P (Str.ofString "__package__"), (.str (Str.ofString "__package__") 167), .none⟩, ⟨PyData.keyHash P (Str.ofString "__loader__"), (.str (Str.ofString "__loader__") 168), (.builtin "__main__.__loader__#opaque")⟩, ⟨PyData.keyHash P (Str.ofString "__spec__"), (.str (Str.ofString "__spec__") 169), .none⟩, ⟨PyData.keyHash P (Str.ofString "__annotations__"), (.str (Str.ofString "__annotations__") 170), (.ref 6)⟩, ⟨PyData.keyHash P (Str.ofString "__builtins__"), (.str (Str.ofString "__builtins__") 171), (.ref 4)⟩, ⟨PyData.keyHash P (Str.ofString "__file__"), (.str (Str.ofString "__file__") 173), (.str (Str.ofString "/claim/cut.py") 172)⟩, ⟨PyData.keyHash P (Str.ofString "__cached__"), (.str (Str.ofString "__cached__") 174), .none⟩, ⟨PyData.keyHash P (Str.ofString "ExpectedTypeError"), (.str (Str.ofString "ExpectedTypeError") 197), (.ref 21)⟩, ⟨PyData.keyHash P (Str.ofString "ExpectedStringError"), (.str (Str.ofString "ExpectedStringError") 205), (.ref 28)⟩, ⟨PyData.keyHash P (Str.ofString "to_bytes"), (.str (Str.ofString "to_bytes") 218), (.ref 36)⟩, ⟨PyData.keyHash P (Str.ofString "MAX_UINT32"), (.str (Str.ofString "MAX_UINT32") 226), (.int 4294967295 225)⟩, ⟨PyData.keyHash P (Str.ofString "_TRANS_5C"), (.str (Str.ofString "_TRANS_5C") 1255), (.bytes (transA 92) 1254)⟩] 14), #[]⟩
noncomputable def o37_8 (P : Params) : Obj := ⟨(.type "range"), none, (.fields #[(.int 0 228), (.int 256 227), (.int 1 229)]), #[]⟩
noncomputable def o38_8 (P : Params) : Obj := ⟨(.type "range_iterator"), none, (.fields #[(.int 256 0), (.int 0 0), (.int 1 0)]), #[]⟩
noncomputable def o39_8 (_P : Params) : Obj := listO 92 227 256
noncomputable def o40_8 (P : Params) : Obj := ⟨(.type "dict"), none, (.dict #[] 2), #[]⟩
noncomputable def o41_8 (P : Params) : Obj := ⟨(.type "tuple"), none, (.seq #[] 0), #[]⟩
noncomputable def o42_8 (P : Params) : Obj := ⟨(.type "StopIteration"), none, (.fields #[(.ref 41), .none, .none, .none, (.bool false), .none]), #[]⟩
noncomputable def o43_8 (P : Params) : Obj := ⟨(.type "list_iterator"), none, (.fields #[.none, (.int 256 0)]), #[]⟩
noncomputable def o44_8 (P : Params) : Obj := ⟨(.type "bytearray"), none, (.bytearray (transA 92) 0), #[]⟩
noncomputable def o45_8 (P : Params) : Obj := ⟨(.type "tuple"), none, (.seq #[] 0), #[]⟩
noncomputable def o46_8 (P : Params) : Obj := ⟨(.type "StopIteration"), none, (.fields #[(.ref 45), .none, .none, .none, (.bool false), .none]), #[]⟩
noncomputable def objs8 (P : Params) : List Obj := [o0_b P, o1_b P, o2_b P, o3_8 P, o4_b P, o5_b P, o6_b P, o7_b P, o8_b P, o9_b P, o10_b P, o11_b P, o12_7 P, o13_b P, o14_b P, o15_7 P, o16_7 P, o17_7 P, o18_7 P, o19_7 P, o20_7 P, o21_7 P, o22_7 P, o23_7 P, o24_7 P, o25_7 P, o26_7 P, o27_7 P, o28_7 P, o29_7 P, o30_7 P, o31_7 P, o32_7 P, o33_7 P, o34_7 P, o35_7 P, o36_7 P, o37_8 P, o38_8 P, o39_8 P, o40_8 P, o41_8 P, o42_8 P, o43_8 P, o44_8 P, o45_8 P, o46_8 P]
/-! state 9: 57 objects, toks 2285, pos { line := 20, col := 0, endLine := 20, endCol := 9 }, gens 0, drawn 0 -/
noncomputable def o3_9 (P : Params) : Obj := ⟨(.type "dict"), none, (.dict #[⟨PyData.keyHash P (Str.ofString "__name__"), (.str (Str.ofString "__name__") 165), (.str (Str.ofString "passlib.crypto.digest") 219)⟩, ⟨PyData.keyHash P (Str.ofString "__doc__"), (.str (Str.ofString "__doc__") 166), .none⟩, ⟨PyData.keyHash P (Str.ofString "__package__"), (.str (Str.ofString "__package__") 167), .none⟩, ⟨PyData.keyHash P (Str.ofString "__loader__"), (.str (Str.ofString "__loader__") 168), (.builtin "__main__.__loader__#opaque")⟩, ⟨PyData.keyHash P (Str.ofString "__spec__"), (.str (Str.ofString "__spec__") 169), .none⟩, ⟨PyData.keyHash P (Str.ofString "__annotations__"), (.str (Str.ofString "__annotations__") 170), (.ref 6)⟩, ⟨PyData.keyHash P (Str.ofString "__builtins__"), (.str (Str.ofString "__builtins__") 171), (.ref 4)⟩, ⟨PyData.keyHash P (Str.ofString "__file__"), (.str (Str.ofString "__file__") 173), (.str (Str.ofString "/claim/cut.py") 172)⟩, ⟨PyData.keyHash P (Str.ofString "__cached__"), (.str (Str.ofString "__cached__") 174), .none⟩, ⟨PyData.keyHash P (Str.ofString "ExpectedTypeError"), (.str (Str.ofString "ExpectedTypeError") 197), (.ref 21)⟩, ⟨PyData.keyHash P (Str.ofString "ExpectedStringError"), (.str (Str.ofString "ExpectedStringError") 205), (.ref 28)⟩, ⟨PyData.keyHash P (Str.ofString "to_bytes"), (.str (Str.ofString "to_bytes") 218), (.ref 36)⟩, ⟨PyData.keyHash P (Str.ofString "MAX_UINT32"), (.str (Str.ofString "MAX_UINT32") 226), (.int 4294967295 225)⟩, ⟨PyData.keyHash P (Str.ofString "_TRANS_5C"), (.str (Str.ofString "_TRANS_5C") 1255), (.bytes (transA 92) 1254)⟩, ⟨PyData.keyHash P (Str.ofString "_TRANS_36"), (.str (Str.ofString "_TRANS_36") 2284), (.bytes (transA 54) 2283)⟩] 15), #[]⟩
noncomputable def o47_9 (P : Params) : Obj := ⟨(.type "range"), none, (.fields #[(.int 0 1257), (.int 256 1256), (.int 1 1258)]), #[]⟩
noncomputable def o48_9 (P : Params) : Obj := ⟨(.type "range_iterator"), none, (.fields #[(.int 256 0), (.int 0 0), (.int 1 0)]), #[]⟩
noncomputable def o49_9 (_P : Params) : Obj := listO 54 1256 256
noncomputable def o50_9 (P : Params) : Obj := ⟨(.type "dict"), none, (.dict #[] 2), #[]⟩
noncomputable def o51_9 (P : Params) : Obj := ⟨(.type "tuple"), none, (.seq #[] 0), #[]⟩
noncomputable def o52_9 (P : Params) : Obj := ⟨(.type "StopIteration"), none, (.fields #[(.ref 51), .none, .none, .none, (.bool false), .none]), #[]⟩
noncomputable def o53_9 (P : Params) : Obj := ⟨(.type "list_iterator"), none, (.fields #[.none, (.int 256 0)]), #[]⟩
noncomputable def o54_9 (P : Params) : Obj := ⟨(.type "bytearray"), none, (.bytearray (transA 54) 0), #[]⟩
noncomputable def o55_9 (P : Params) : Obj := ⟨(.type "tuple"), none, (.seq #[] 0), #[]⟩
noncomputable def o56_9 (P : Params) : Obj := ⟨(.type "StopIteration"), none, (.fields #[(.ref 55), .none, .none, .none, (.bool false), .none]), #[]⟩
noncomputable def objs9 (P : Params) : List Obj := [o0_b P, o1_b P, o2_b P, o3_9 P, o4_b P, o5_b P, o6_b P, o7_b P, o8_b P, o9_b P, o10_b P, o11_b P, o12_7 P, o13_b P, o14_b P, o15_7 P, o16_7 P, o17_7 P, o18_7 P, o19_7 P, o20_7 P, o21_7 P, o22_7 P, o23_7 P, o24_7 P, o25_7 P, o26_7 P, o27_7 P, o28_7 P, o29_7 P, o30_7 P, o31_7 P, o32_7 P, o33_7 P, o34_7 P, o35_7 P, o36_7 P, o37_8 P, o38_8 P, o39_8 P, o40_8 P, o41_8 P, o42_8 P, o43_8 P, o44_8 P, o45_8 P, o46_8 P, o47_9 P, o48_9 P, o49_9 P, o50_9 P, o51_9 P, o52_9 P, o53_9 P, o54_9 P, o55_9 P, o56_9 P]
/-! state f: 164 objects, toks 2431, pos { line := 173, col := 0, endLine := 209, endCol := 102 }, gens 0, drawn 0 -/
noncomputable def o3_f (P : Params) : Obj := ⟨(.type "dict"), none, (.dict #[⟨PyData.keyHash P (Str.ofString "__name__"), (.str (Str.ofString "__name__") 165), (.str (Str.ofString "law_iw0005_01") 2332)⟩, ⟨PyData.keyHash P (Str.ofString "__doc__"), (.str (Str.ofString "__doc__") 166), .none⟩, ⟨PyData.keyHash P (Str.ofString "__package__"), (.str (Str.ofString "__package__") 167), .none⟩, ⟨PyData.keyHash P (Str.ofString "__loader__"), (.str (Str.ofString "__loader__") 168), (.builtin "__main__.__loader__#opaque")⟩, ⟨PyData.keyHash P (Str.ofString "__spec__"), (.str (Str.ofString "__spec__") 169), .none⟩, ⟨PyData.keyHash P (Str.ofString "__annotations__"), (.str (Str.ofString "__annotations__") 170), (.ref 6)⟩, ⟨PyData.keyHash P (Str.ofString "__builtins__"), (.str (Str.ofString "__builtins__") 171), (.ref 4)⟩, ⟨PyData.keyHash P (Str.ofString "__file__"), (.str (Str.ofString "__file__") 173), (.str (Str.ofString "/claim/cut.py") 172)⟩, ⟨PyData.keyHash P (Str.ofString "__cached__"), (.str (Str.ofString "__cached__") 174), .none⟩, ⟨PyData.keyHash P (Str.ofString "ExpectedTypeError"), (.str (Str.ofString "ExpectedTypeError") 197), (.ref 21)⟩, ⟨PyData.keyHash P (Str.ofString "ExpectedStringError"), (.str (Str.ofString "ExpectedStringError") 205), (.ref 28)⟩, ⟨PyData.keyHash P (Str.ofString "to_bytes"), (.str (Str.ofString "to_bytes") 218), (.ref 36)⟩, ⟨PyData.keyHash P (Str.ofString "MAX_UINT32"), (.str (Str.ofString "MAX_UINT32") 226), (.int 4294967295 225)⟩, ⟨PyData.keyHash P (Str.ofString "_TRANS_5C"), (.str (Str.ofString "_TRANS_5C") 1255), (.bytes (transA 92) 1254)⟩, ⟨PyData.keyHash P (Str.ofString "_TRANS_36"), (.str (Str.ofString "_TRANS_36") 2284), (.bytes (transA 54) 2283)⟩, ⟨PyData.keyHash P (Str.ofString "compile_hmac"), (.str (Str.ofString "compile_hmac") 2290), (.ref 61)⟩, ⟨PyData.keyHash P (Str.ofString "pbkdf1"), (.str (Str.ofString "pbkdf1") 2306), (.ref 69)⟩, ⟨PyData.keyHash P (Str.ofString "_pack_uint32"), (.str (Str.ofString "_pack_uint32") 2313), (.ref 76)⟩, ⟨PyData.keyHash P (Str.ofString "pbkdf2_hmac"), (.str (Str.ofString "pbkdf2_hmac") 2319), (.ref 82)⟩, ⟨PyData.keyHash P (Str.ofString "_pbkdf2_looper"), (.str (Str.ofString "_pbkdf2_looper") 2331), (.ref 89)⟩, ⟨PyData.keyHash P (Str.ofString "_law_sizes"), (.str (Str.ofString "_law_sizes") 2342), (.ref 94)⟩, ⟨PyData.keyHash P (Str.ofString "_law_hash"), (.str (Str.ofString "_law_hash") 2351), (.ref 101)⟩, ⟨PyData.keyHash P (Str.ofString "_law_pads"), (.str (Str.ofString "_law_pads") 2357), (.ref 106)⟩, ⟨PyData.keyHash P (Str.ofString "_law_code"), (.str (Str.ofString "_law_code") 2366), (.ref 113)⟩, ⟨PyData.keyHash P (Str.ofString "_law_piece"), (.str (Str.ofString "_law_piece") 2372), (.ref 118)⟩, ⟨PyData.keyHash P (Str.ofString "_law_second"), (.str (Str.ofString "_law_second") 2378), (.ref 123)⟩, ⟨PyData.keyHash P (Str.ofString "_law_first"), (.str (Str.ofString "_law_first") 2391), (.ref 130)⟩, ⟨PyData.keyHash P (Str.ofString "_law_other"), (.str (Str.ofString "_law_other") 2398), (.ref 137)⟩, ⟨PyData.keyHash P (Str.ofString "_law_signs"), (.str (Str.ofString "_law_signs") 2405), (.ref 144)⟩, ⟨PyData.keyHash P (Str.ofString "_law_wrong"), (.str (Str.ofString "_law_wrong") 2415), (.ref 151)⟩, ⟨PyData.keyHash P (Str.ofString "_law_answer"), (.str (Str.ofString "_law_answer") 2424), (.ref 158)⟩, ⟨PyData.keyHash P (Str.ofString "law"), (.str (Str.ofString "law") 2430), (.ref 163)⟩] 32), #[]⟩
noncomputable def o12_f (P : Params) : Obj := ⟨.none, none, (.fields #[(.int 2 0), (.int 0 0), (.ref 20), (.int 4 0), (.int 0 0), (.ref 27), (.int 7 0), (.int 0 0), (.ref 35), (.int 21 0), (.int 0 0), (.ref 60), (.int 38 0), (.int 0 0), (.ref 68), (.int 58 0), (.int 0 0), (.ref 75), (.int 60 0), (.int 0 0), (.ref 81), (.int 79 0), (.int 0 0), (.ref 88), (.int 87 0), (.int 0 0), (.ref 100), (.int 90 0), (.int 0 0), (.ref 105), (.int 95 0), (.int 0 0), (.ref 112), (.int 97 0), (.int 0 0), (.ref 117), (.int 104 0), (.int 0 0), (.ref 122), (.int 107 0), (.int 0 0), (.ref 129), (.int 112 0), (.int 0 0), (.ref 136), (.int 120 0), (.int 0 0), (.ref 143), (.int 126 0), (.int 0 0), (.ref 150), (.int 161 0), (.int 0 0), (.ref 157), (.int 173 0), (.int 0 0), (.ref 162)]), #[]⟩
noncomputable def o57_f (P : Params) : Obj := ⟨(.type "tuple"), none, (.seq #[] 0), #[]⟩
noncomputable def o58_f (P : Params) : Obj := ⟨.none, none, (.fields #[]), #[]⟩
noncomputable def o59_f (P : Params) : Obj := ⟨.none, none, (.func { name := (Str.ofString "compile_hmac"), qualname := (Str.ofString "compile_hmac"), params := fP9, body := .stmts fB9, scope := fS9, globals := 0, closure := [], defaults := .none, kwdefaults := .none, doc := .none, pyModule := .none, annotations := none, code := .none, closureTuple := .none, builtins := 0 }), #[]⟩
noncomputable def o60_f (P : Params) : Obj := ⟨(.type "code"), none, (.fields #[(.str (Str.ofString "compile_hmac") 2285), (.str (Str.ofString "compile_hmac") 2286), (.str (Str.ofString "/claim/cut.py") 2287), (.int 21 0), (.int 2 0), (.int 0 0), (.int 0 0), (.int 3 0), (.ref 57), (.bool true), (.int 181 0), (.ref 58), .none, .none, .none, (.ref 59), (.int 2288 0), (.int 21 0), (.str (Str.ofString "/claim/cut.py") 2289)]), #[]⟩
noncomputable def o61_f (P : Params) : Obj := ⟨(.type "function"), none, (.func { name := (Str.ofString "compile_hmac"), qualname := (Str.ofString "compile_hmac"), params := fP9, body := .stmts fB9, scope := fS9, globals := 3, closure := [], defaults := .none, kwdefaults := .none, doc := .none, pyModule := (.str (Str.ofString "passlib.crypto.digest") 219), annotations := none, code := (.ref 60), closureTuple := .none, builtins := 0 }), #[]⟩
noncomputable def o62_f (P : Params) : Obj := ⟨(.type "tuple"), none, (.seq #[.none] 0), #[]⟩
noncomputable def o63_f (P : Params) : Obj := ⟨(.type "tuple"), none, (.seq #[] 0), #[]⟩
noncomputable def o64_f (P : Params) : Obj := ⟨.none, none, (.fields #[]), #[]⟩
noncomputable def o65_f (P : Params) : Obj := ⟨(.type "tuple"), none, (.seq #[(.str (Str.ofString "digest") 2294), (.str (Str.ofString "secret") 2295), (.str (Str.ofString "salt") 2296), (.str (Str.ofString "rounds") 2297), (.str (Str.ofString "keylen") 2298), (.str (Str.ofString "const") 2299), (.str (Str.ofString "digest_size") 2300), (.str (Str.ofString "block_size") 2301), (.str (Str.ofString "block") 2302), (.str (Str.ofString "_") 2303)] 0), #[]⟩
noncomputable def o66_f (P : Params) : Obj := ⟨(.type "tuple"), none, (.seq #[] 0), #[]⟩
noncomputable def o67_f (P : Params) : Obj := ⟨.none, none, (.func { name := (Str.ofString "pbkdf1"), qualname := (Str.ofString "pbkdf1"), params := fP10, body := .stmts fB10, scope := fS10, globals := 0, closure := [], defaults := .none, kwdefaults := .none, doc := .none, pyModule := .none, annotations := none, code := .none, closureTuple := .none, builtins := 0 }), #[]⟩
noncomputable def o68_f (P : Params) : Obj := ⟨(.type "code"), none, (.fields #[(.str (Str.ofString "pbkdf1") 2291), (.str (Str.ofString "pbkdf1") 2292), (.str (Str.ofString "/claim/cut.py") 2293), (.int 38 0), (.int 5 0), (.int 0 0), (.int 0 0), (.int 3 0), (.ref 63), (.bool true), (.int 181 0), (.ref 64), .none, (.ref 65), (.ref 66), (.ref 67), (.int 2304 0), (.int 38 0), (.str (Str.ofString "/claim/cut.py") 2305)]), #[]⟩
noncomputable def o69_f (P : Params) : Obj := ⟨(.type "function"), none, (.func { name := (Str.ofString "pbkdf1"), qualname := (Str.ofString "pbkdf1"), params := fP10, body := .stmts fB10, scope := fS10, globals := 3, closure := [], defaults := (.ref 62), kwdefaults := .none, doc := .none, pyModule := (.str (Str.ofString "passlib.crypto.digest") 219), annotations := none, code := (.ref 68), closureTuple := .none, builtins := 0 }), #[]⟩
noncomputable def o70_f (P : Params) : Obj := ⟨(.type "tuple"), none, (.seq #[] 0), #[]⟩
noncomputable def o71_f (P : Params) : Obj := ⟨.none, none, (.fields #[]), #[]⟩
noncomputable def o72_f (P : Params) : Obj := ⟨(.type "tuple"), none, (.seq #[(.str (Str.ofString "value") 2310)] 0), #[]⟩
noncomputable def o73_f (P : Params) : Obj := ⟨(.type "tuple"), none, (.seq #[] 0), #[]⟩
noncomputable def o74_f (P : Params) : Obj := ⟨.none, none, (.func { name := (Str.ofString "_pack_uint32"), qualname := (Str.ofString "_pack_uint32"), params := fP11, body := .stmts fB11, scope := fS11, globals := 0, closure := [], defaults := .none, kwdefaults := .none, doc := .none, pyModule := .none, annotations := none, code := .none, closureTuple := .none, builtins := 0 }), #[]⟩
noncomputable def o75_f (P : Params) : Obj := ⟨(.type "code"), none, (.fields #[(.str (Str.ofString "_pack_uint32") 2307), (.str (Str.ofString "_pack_uint32") 2308), (.str (Str.ofString "/claim/cut.py") 2309), (.int 58 0), (.int 1 0), (.int 0 0), (.int 0 0), (.int 3 0), (.ref 70), (.bool true), (.int 181 0), (.ref 71), .none, (.ref 72), (.ref 73), (.ref 74), (.int 2311 0), (.int 58 0), (.str (Str.ofString "/claim/cut.py") 2312)]), #[]⟩
noncomputable def o76_f (P : Params) : Obj := ⟨(.type "function"), none, (.func { name := (Str.ofString "_pack_uint32"), qualname := (Str.ofString "_pack_uint32"), params := fP11, body := .stmts fB11, scope := fS11, globals := 3, closure := [], defaults := .none, kwdefaults := .none, doc := .none, pyModule := (.str (Str.ofString "passlib.crypto.digest") 219), annotations := none, code := (.ref 75), closureTuple := .none, builtins := 0 }), #[]⟩
noncomputable def o77_f (P : Params) : Obj := ⟨(.type "tuple"), none, (.seq #[.none] 0), #[]⟩
noncomputable def o78_f (P : Params) : Obj := ⟨(.type "tuple"), none, (.seq #[] 0), #[]⟩
noncomputable def o79_f (P : Params) : Obj := ⟨.none, none, (.fields #[]), #[]⟩
noncomputable def o80_f (P : Params) : Obj := ⟨.none, none, (.func { name := (Str.ofString "pbkdf2_hmac"), qualname := (Str.ofString "pbkdf2_hmac"), params := fP12, body := .stmts fB12, scope := fS12, globals := 0, closure := [], defaults := .none, kwdefaults := .none, doc := .none, pyModule := .none, annotations := none, code := .none, closureTuple := .none, builtins := 0 }), #[]⟩
noncomputable def o81_f (P : Params) : Obj := ⟨(.type "code"), none, (.fields #[(.str (Str.ofString "pbkdf2_hmac") 2314), (.str (Str.ofString "pbkdf2_hmac") 2315), (.str (Str.ofString "/claim/cut.py") 2316), (.int 60 0), (.int 5 0), (.int 0 0), (.int 0 0), (.int 3 0), (.ref 78), (.bool true), (.int 181 0), (.ref 79), .none, .none, .none, (.ref 80), (.int 2317 0), (.int 60 0), (.str (Str.ofString "/claim/cut.py") 2318)]), #[]⟩
noncomputable def o82_f (P : Params) : Obj := ⟨(.type "function"), none, (.func { name := (Str.ofString "pbkdf2_hmac"), qualname := (Str.ofString "pbkdf2_hmac"), params := fP12, body := .stmts fB12, scope := fS12, globals := 3, closure := [], defaults := (.ref 77), kwdefaults := .none, doc := .none, pyModule := (.str (Str.ofString "passlib.crypto.digest") 219), annotations := none, code := (.ref 81), closureTuple := .none, builtins := 0 }), #[]⟩
noncomputable def o83_f (P : Params) : Obj := ⟨(.type "tuple"), none, (.seq #[] 0), #[]⟩
noncomputable def o84_f (P : Params) : Obj := ⟨.none, none, (.fields #[]), #[]⟩
noncomputable def o85_f (P : Params) : Obj := ⟨(.type "tuple"), none, (.seq #[(.str (Str.ofString "digest_size") 2323), (.str (Str.ofString "keyed_hmac") 2324), (.str (Str.ofString "digest") 2325), (.str (Str.ofString "rounds") 2326), (.str (Str.ofString "accum") 2327), (.str (Str.ofString "_") 2328)] 0), #[]⟩
noncomputable def o86_f (P : Params) : Obj := ⟨(.type "tuple"), none, (.seq #[] 0), #[]⟩
noncomputable def o87_f (P : Params) : Obj := ⟨.none, none, (.func { name := (Str.ofString "_pbkdf2_looper"), qualname := (Str.ofString "_pbkdf2_looper"), params := fP13, body := .stmts fB13, scope := fS13, globals := 0, closure := [], defaults := .none, kwdefaults := .none, doc := .none, pyModule := .none, annotations := none, code := .none, closureTuple := .none, builtins := 0 }), #[]⟩
noncomputable def o88_f (P : Params) : Obj := ⟨(.type "code"), none, (.fields #[(.str (Str.ofString "_pbkdf2_looper") 2320), (.str (Str.ofString "_pbkdf2_looper") 2321), (.str (Str.ofString "/claim/cut.py") 2322), (.int 79 0), (.int 4 0), (.int 0 0), (.int 0 0), (.int 3 0), (.ref 83), (.bool true), (.int 181 0), (.ref 84), .none, (.ref 85), (.ref 86), (.ref 87), (.int 2329 0), (.int 79 0), (.str (Str.ofString "/claim/cut.py") 2330)]), #[]⟩
noncomputable def o89_f (P : Params) : Obj := ⟨(.type "function"), none, (.func { name := (Str.ofString "_pbkdf2_looper"), qualname := (Str.ofString "_pbkdf2_looper"), params := fP13, body := .stmts fB13, scope := fS13, globals := 3, closure := [], defaults := .none, kwdefaults := .none, doc := .none, pyModule := (.str (Str.ofString "passlib.crypto.digest") 219), annotations := none, code := (.ref 88), closureTuple := .none, builtins := 0 }), #[]⟩
noncomputable def o90_f (P : Params) : Obj := ⟨(.type "list"), none, (.seq #[(.int 8 2334), (.int 16 2335)] 0), #[]⟩
noncomputable def o91_f (P : Params) : Obj := ⟨(.type "list"), none, (.seq #[(.int 16 2336), (.int 24 2337)] 0), #[]⟩
noncomputable def o92_f (P : Params) : Obj := ⟨(.type "list"), none, (.seq #[(.int 20 2338), (.int 20 2339)] 0), #[]⟩
noncomputable def o93_f (P : Params) : Obj := ⟨(.type "list"), none, (.seq #[(.int 5 2340), (.int 32 2341)] 0), #[]⟩
noncomputable def o94_f (P : Params) : Obj := ⟨(.type "list"), none, (.seq #[(.ref 90), (.ref 91), (.ref 92), (.ref 93)] 0), #[]⟩
noncomputable def o95_f (P : Params) : Obj := ⟨(.type "tuple"), none, (.seq #[] 0), #[]⟩
noncomputable def o96_f (P : Params) : Obj := ⟨.none, none, (.fields #[]), #[]⟩
noncomputable def o97_f (P : Params) : Obj := ⟨(.type "tuple"), none, (.seq #[(.str (Str.ofString "octets") 2346), (.str (Str.ofString "size") 2347), (.str (Str.ofString "number") 2348)] 0), #[]⟩
noncomputable def o98_f (P : Params) : Obj := ⟨(.type "tuple"), none, (.seq #[] 0), #[]⟩
noncomputable def o99_f (P : Params) : Obj := ⟨.none, none, (.func { name := (Str.ofString "_law_hash"), qualname := (Str.ofString "_law_hash"), params := fP16, body := .stmts fB16, scope := fS16, globals := 0, closure := [], defaults := .none, kwdefaults := .none, doc := .none, pyModule := .none, annotations := none, code := .none, closureTuple := .none, builtins := 0 }), #[]⟩
noncomputable def o100_f (P : Params) : Obj := ⟨(.type "code"), none, (.fields #[(.str (Str.ofString "_law_hash") 2343), (.str (Str.ofString "_law_hash") 2344), (.str (Str.ofString "/claim/cut.py") 2345), (.int 87 0), (.int 2 0), (.int 0 0), (.int 0 0), (.int 3 0), (.ref 95), (.bool true), (.int 181 0), (.ref 96), .none, (.ref 97), (.ref 98), (.ref 99), (.int 2349 0), (.int 87 0), (.str (Str.ofString "/claim/cut.py") 2350)]), #[]⟩
noncomputable def o101_f (P : Params) : Obj := ⟨(.type "function"), none, (.func { name := (Str.ofString "_law_hash"), qualname := (Str.ofString "_law_hash"), params := fP16, body := .stmts fB16, scope := fS16, globals := 3, closure := [], defaults := .none, kwdefaults := .none, doc := .none, pyModule := (.str (Str.ofString "law_iw0005_01") 2332), annotations := none, code := (.ref 100), closureTuple := .none, builtins := 0 }), #[]⟩
noncomputable def o102_f (P : Params) : Obj := ⟨(.type "tuple"), none, (.seq #[] 0), #[]⟩
noncomputable def o103_f (P : Params) : Obj := ⟨.none, none, (.fields #[]), #[]⟩
noncomputable def o104_f (P : Params) : Obj := ⟨.none, none, (.func { name := (Str.ofString "_law_pads"), qualname := (Str.ofString "_law_pads"), params := fP17, body := .stmts fB17, scope := fS17, globals := 0, closure := [], defaults := .none, kwdefaults := .none, doc := .none, pyModule := .none, annotations := none, code := .none, closureTuple := .none, builtins := 0 }), #[]⟩
noncomputable def o105_f (P : Params) : Obj := ⟨(.type "code"), none, (.fields #[(.str (Str.ofString "_law_pads") 2352), (.str (Str.ofString "_law_pads") 2353), (.str (Str.ofString "/claim/cut.py") 2354), (.int 90 0), (.int 3 0), (.int 0 0), (.int 0 0), (.int 3 0), (.ref 102), (.bool true), (.int 181 0), (.ref 103), .none, .none, .none, (.ref 104), (.int 2355 0), (.int 90 0), (.str (Str.ofString "/claim/cut.py") 2356)]), #[]⟩
noncomputable def o106_f (P : Params) : Obj := ⟨(.type "function"), none, (.func { name := (Str.ofString "_law_pads"), qualname := (Str.ofString "_law_pads"), params := fP17, body := .stmts fB17, scope := fS17, globals := 3, closure := [], defaults := .none, kwdefaults := .none, doc := .none, pyModule := (.str (Str.ofString "law_iw0005_01") 2332), annotations := none, code := (.ref 105), closureTuple := .none, builtins := 0 }), #[]⟩
noncomputable def o107_f (P : Params) : Obj := ⟨(.type "tuple"), none, (.seq #[] 0), #[]⟩
noncomputable def o108_f (P : Params) : Obj := ⟨.none, none, (.fields #[]), #[]⟩
noncomputable def o109_f (P : Params) : Obj := ⟨(.type "tuple"), none, (.seq #[(.str (Str.ofString "pads") 2361), (.str (Str.ofString "message") 2362), (.str (Str.ofString "size") 2363)] 0), #[]⟩
noncomputable def o110_f (P : Params) : Obj := ⟨(.type "tuple"), none, (.seq #[] 0), #[]⟩
noncomputable def o111_f (P : Params) : Obj := ⟨.none, none, (.func { name := (Str.ofString "_law_code"), qualname := (Str.ofString "_law_code"), params := fP18, body := .stmts fB18, scope := fS18, globals := 0, closure := [], defaults := .none, kwdefaults := .none, doc := .none, pyModule := .none, annotations := none, code := .none, closureTuple := .none, builtins := 0 }), #[]⟩
noncomputable def o112_f (P : Params) : Obj := ⟨(.type "code"), none, (.fields #[(.str (Str.ofString "_law_code") 2358), (.str (Str.ofString "_law_code") 2359), (.str (Str.ofString "/claim/cut.py") 2360), (.int 95 0), (.int 3 0), (.int 0 0), (.int 0 0), (.int 3 0), (.ref 107), (.bool true), (.int 181 0), (.ref 108), .none, (.ref 109), (.ref 110), (.ref 111), (.int 2364 0), (.int 95 0), (.str (Str.ofString "/claim/cut.py") 2365)]), #[]⟩
noncomputable def o113_f (P : Params) : Obj := ⟨(.type "function"), none, (.func { name := (Str.ofString "_law_code"), qualname := (Str.ofString "_law_code"), params := fP18, body := .stmts fB18, scope := fS18, globals := 3, closure := [], defaults := .none, kwdefaults := .none, doc := .none, pyModule := (.str (Str.ofString "law_iw0005_01") 2332), annotations := none, code := (.ref 112), closureTuple := .none, builtins := 0 }), #[]⟩
noncomputable def o114_f (P : Params) : Obj := ⟨(.type "tuple"), none, (.seq #[] 0), #[]⟩
noncomputable def o115_f (P : Params) : Obj := ⟨.none, none, (.fields #[]), #[]⟩
noncomputable def o116_f (P : Params) : Obj := ⟨.none, none, (.func { name := (Str.ofString "_law_piece"), qualname := (Str.ofString "_law_piece"), params := fP19, body := .stmts fB19, scope := fS19, globals := 0, closure := [], defaults := .none, kwdefaults := .none, doc := .none, pyModule := .none, annotations := none, code := .none, closureTuple := .none, builtins := 0 }), #[]⟩
noncomputable def o117_f (P : Params) : Obj := ⟨(.type "code"), none, (.fields #[(.str (Str.ofString "_law_piece") 2367), (.str (Str.ofString "_law_piece") 2368), (.str (Str.ofString "/claim/cut.py") 2369), (.int 97 0), (.int 5 0), (.int 0 0), (.int 0 0), (.int 3 0), (.ref 114), (.bool true), (.int 181 0), (.ref 115), .none, .none, .none, (.ref 116), (.int 2370 0), (.int 97 0), (.str (Str.ofString "/claim/cut.py") 2371)]), #[]⟩
noncomputable def o118_f (P : Params) : Obj := ⟨(.type "function"), none, (.func { name := (Str.ofString "_law_piece"), qualname := (Str.ofString "_law_piece"), params := fP19, body := .stmts fB19, scope := fS19, globals := 3, closure := [], defaults := .none, kwdefaults := .none, doc := .none, pyModule := (.str (Str.ofString "law_iw0005_01") 2332), annotations := none, code := (.ref 117), closureTuple := .none, builtins := 0 }), #[]⟩
noncomputable def o119_f (P : Params) : Obj := ⟨(.type "tuple"), none, (.seq #[] 0), #[]⟩
noncomputable def o120_f (P : Params) : Obj := ⟨.none, none, (.fields #[]), #[]⟩
noncomputable def o121_f (P : Params) : Obj := ⟨.none, none, (.func { name := (Str.ofString "_law_second"), qualname := (Str.ofString "_law_second"), params := fP20, body := .stmts fB20, scope := fS20, globals := 0, closure := [], defaults := .none, kwdefaults := .none, doc := .none, pyModule := .none, annotations := none, code := .none, closureTuple := .none, builtins := 0 }), #[]⟩
noncomputable def o122_f (P : Params) : Obj := ⟨(.type "code"), none, (.fields #[(.str (Str.ofString "_law_second") 2373), (.str (Str.ofString "_law_second") 2374), (.str (Str.ofString "/claim/cut.py") 2375), (.int 104 0), (.int 5 0), (.int 0 0), (.int 0 0), (.int 3 0), (.ref 119), (.bool true), (.int 181 0), (.ref 120), .none, .none, .none, (.ref 121), (.int 2376 0), (.int 104 0), (.str (Str.ofString "/claim/cut.py") 2377)]), #[]⟩
noncomputable def o123_f (P : Params) : Obj := ⟨(.type "function"), none, (.func { name := (Str.ofString "_law_second"), qualname := (Str.ofString "_law_second"), params := fP20, body := .stmts fB20, scope := fS20, globals := 3, closure := [], defaults := .none, kwdefaults := .none, doc := .none, pyModule := (.str (Str.ofString "law_iw0005_01") 2332), annotations := none, code := (.ref 122), closureTuple := .none, builtins := 0 }), #[]⟩
noncomputable def o124_f (P : Params) : Obj := ⟨(.type "tuple"), none, (.seq #[] 0), #[]⟩
noncomputable def o125_f (P : Params) : Obj := ⟨.none, none, (.fields #[]), #[]⟩
noncomputable def o126_f (P : Params) : Obj := ⟨(.type "tuple"), none, (.seq #[(.str (Str.ofString "secret") 2382), (.str (Str.ofString "salt") 2383), (.str (Str.ofString "rounds") 2384), (.str (Str.ofString "length") 2385), (.str (Str.ofString "size") 2386), (.str (Str.ofString "code") 2387), (.str (Str.ofString "k") 2388)] 0), #[]⟩
noncomputable def o127_f (P : Params) : Obj := ⟨(.type "tuple"), none, (.seq #[] 0), #[]⟩
noncomputable def o128_f (P : Params) : Obj := ⟨.none, none, (.func { name := (Str.ofString "_law_first"), qualname := (Str.ofString "_law_first"), params := fP21, body := .stmts fB21, scope := fS21, globals := 0, closure := [], defaults := .none, kwdefaults := .none, doc := .none, pyModule := .none, annotations := none, code := .none, closureTuple := .none, builtins := 0 }), #[]⟩
noncomputable def o129_f (P : Params) : Obj := ⟨(.type "code"), none, (.fields #[(.str (Str.ofString "_law_first") 2379), (.str (Str.ofString "_law_first") 2380), (.str (Str.ofString "/claim/cut.py") 2381), (.int 107 0), (.int 5 0), (.int 0 0), (.int 0 0), (.int 3 0), (.ref 124), (.bool true), (.int 181 0), (.ref 125), .none, (.ref 126), (.ref 127), (.ref 128), (.int 2389 0), (.int 107 0), (.str (Str.ofString "/claim/cut.py") 2390)]), #[]⟩
noncomputable def o130_f (P : Params) : Obj := ⟨(.type "function"), none, (.func { name := (Str.ofString "_law_first"), qualname := (Str.ofString "_law_first"), params := fP21, body := .stmts fB21, scope := fS21, globals := 3, closure := [], defaults := .none, kwdefaults := .none, doc := .none, pyModule := (.str (Str.ofString "law_iw0005_01") 2332), annotations := none, code := (.ref 129), closureTuple := .none, builtins := 0 }), #[]⟩
noncomputable def o131_f (P : Params) : Obj := ⟨(.type "tuple"), none, (.seq #[] 0), #[]⟩
noncomputable def o132_f (P : Params) : Obj := ⟨.none, none, (.fields #[]), #[]⟩
noncomputable def o133_f (P : Params) : Obj := ⟨(.type "tuple"), none, (.seq #[(.str (Str.ofString "far") 2395)] 0), #[]⟩
noncomputable def o134_f (P : Params) : Obj := ⟨(.type "tuple"), none, (.seq #[] 0), #[]⟩
noncomputable def o135_f (P : Params) : Obj := ⟨.none, none, (.func { name := (Str.ofString "_law_other"), qualname := (Str.ofString "_law_other"), params := fP22, body := .stmts fB22, scope := fS22, globals := 0, closure := [], defaults := .none, kwdefaults := .none, doc := .none, pyModule := .none, annotations := none, code := .none, closureTuple := .none, builtins := 0 }), #[]⟩
noncomputable def o136_f (P : Params) : Obj := ⟨(.type "code"), none, (.fields #[(.str (Str.ofString "_law_other") 2392), (.str (Str.ofString "_law_other") 2393), (.str (Str.ofString "/claim/cut.py") 2394), (.int 112 0), (.int 1 0), (.int 0 0), (.int 0 0), (.int 3 0), (.ref 131), (.bool true), (.int 181 0), (.ref 132), .none, (.ref 133), (.ref 134), (.ref 135), (.int 2396 0), (.int 112 0), (.str (Str.ofString "/claim/cut.py") 2397)]), #[]⟩
noncomputable def o137_f (P : Params) : Obj := ⟨(.type "function"), none, (.func { name := (Str.ofString "_law_other"), qualname := (Str.ofString "_law_other"), params := fP22, body := .stmts fB22, scope := fS22, globals := 3, closure := [], defaults := .none, kwdefaults := .none, doc := .none, pyModule := (.str (Str.ofString "law_iw0005_01") 2332), annotations := none, code := (.ref 136), closureTuple := .none, builtins := 0 }), #[]⟩
noncomputable def o138_f (P : Params) : Obj := ⟨(.type "tuple"), none, (.seq #[] 0), #[]⟩
noncomputable def o139_f (P : Params) : Obj := ⟨.none, none, (.fields #[]), #[]⟩
noncomputable def o140_f (P : Params) : Obj := ⟨(.type "tuple"), none, (.seq #[(.str (Str.ofString "far") 2402)] 0), #[]⟩
noncomputable def o141_f (P : Params) : Obj := ⟨(.type "tuple"), none, (.seq #[] 0), #[]⟩
noncomputable def o142_f (P : Params) : Obj := ⟨.none, none, (.func { name := (Str.ofString "_law_signs"), qualname := (Str.ofString "_law_signs"), params := fP23, body := .stmts fB23, scope := fS23, globals := 0, closure := [], defaults := .none, kwdefaults := .none, doc := .none, pyModule := .none, annotations := none, code := .none, closureTuple := .none, builtins := 0 }), #[]⟩
noncomputable def o143_f (P : Params) : Obj := ⟨(.type "code"), none, (.fields #[(.str (Str.ofString "_law_signs") 2399), (.str (Str.ofString "_law_signs") 2400), (.str (Str.ofString "/claim/cut.py") 2401), (.int 120 0), (.int 1 0), (.int 0 0), (.int 0 0), (.int 3 0), (.ref 138), (.bool true), (.int 181 0), (.ref 139), .none, (.ref 140), (.ref 141), (.ref 142), (.int 2403 0), (.int 120 0), (.str (Str.ofString "/claim/cut.py") 2404)]), #[]⟩
noncomputable def o144_f (P : Params) : Obj := ⟨(.type "function"), none, (.func { name := (Str.ofString "_law_signs"), qualname := (Str.ofString "_law_signs"), params := fP23, body := .stmts fB23, scope := fS23, globals := 3, closure := [], defaults := .none, kwdefaults := .none, doc := .none, pyModule := (.str (Str.ofString "law_iw0005_01") 2332), annotations := none, code := (.ref 143), closureTuple := .none, builtins := 0 }), #[]⟩
noncomputable def o145_f (P : Params) : Obj := ⟨(.type "tuple"), none, (.seq #[] 0), #[]⟩
noncomputable def o146_f (P : Params) : Obj := ⟨.none, none, (.fields #[]), #[]⟩
noncomputable def o147_f (P : Params) : Obj := ⟨(.type "tuple"), none, (.seq #[(.str (Str.ofString "kind") 2409), (.str (Str.ofString "row") 2410), (.str (Str.ofString "far") 2411), (.str (Str.ofString "size") 2412)] 0), #[]⟩
noncomputable def o148_f (P : Params) : Obj := ⟨(.type "tuple"), none, (.seq #[] 0), #[]⟩
noncomputable def o149_f (P : Params) : Obj := ⟨.none, none, (.func { name := (Str.ofString "_law_wrong"), qualname := (Str.ofString "_law_wrong"), params := fP24, body := .stmts fB24, scope := fS24, globals := 0, closure := [], defaults := .none, kwdefaults := .none, doc := .none, pyModule := .none, annotations := none, code := .none, closureTuple := .none, builtins := 0 }), #[]⟩
noncomputable def o150_f (P : Params) : Obj := ⟨(.type "code"), none, (.fields #[(.str (Str.ofString "_law_wrong") 2406), (.str (Str.ofString "_law_wrong") 2407), (.str (Str.ofString "/claim/cut.py") 2408), (.int 126 0), (.int 3 0), (.int 0 0), (.int 0 0), (.int 3 0), (.ref 145), (.bool true), (.int 181 0), (.ref 146), .none, (.ref 147), (.ref 148), (.ref 149), (.int 2413 0), (.int 126 0), (.str (Str.ofString "/claim/cut.py") 2414)]), #[]⟩
noncomputable def o151_f (P : Params) : Obj := ⟨(.type "function"), none, (.func { name := (Str.ofString "_law_wrong"), qualname := (Str.ofString "_law_wrong"), params := fP24, body := .stmts fB24, scope := fS24, globals := 3, closure := [], defaults := .none, kwdefaults := .none, doc := .none, pyModule := (.str (Str.ofString "law_iw0005_01") 2332), annotations := none, code := (.ref 150), closureTuple := .none, builtins := 0 }), #[]⟩
noncomputable def o152_f (P : Params) : Obj := ⟨(.type "tuple"), none, (.seq #[] 0), #[]⟩
noncomputable def o153_f (P : Params) : Obj := ⟨.none, none, (.fields #[]), #[]⟩
noncomputable def o154_f (P : Params) : Obj := ⟨(.type "tuple"), none, (.seq #[(.str (Str.ofString "kind") 2419), (.str (Str.ofString "row") 2420), (.str (Str.ofString "far") 2421)] 0), #[]⟩
noncomputable def o155_f (P : Params) : Obj := ⟨(.type "tuple"), none, (.seq #[] 0), #[]⟩
noncomputable def o156_f (P : Params) : Obj := ⟨.none, none, (.func { name := (Str.ofString "_law_answer"), qualname := (Str.ofString "_law_answer"), params := fP25, body := .stmts fB25, scope := fS25, globals := 0, closure := [], defaults := .none, kwdefaults := .none, doc := .none, pyModule := .none, annotations := none, code := .none, closureTuple := .none, builtins := 0 }), #[]⟩
noncomputable def o157_f (P : Params) : Obj := ⟨(.type "code"), none, (.fields #[(.str (Str.ofString "_law_answer") 2416), (.str (Str.ofString "_law_answer") 2417), (.str (Str.ofString "/claim/cut.py") 2418), (.int 161 0), (.int 3 0), (.int 0 0), (.int 0 0), (.int 3 0), (.ref 152), (.bool true), (.int 181 0), (.ref 153), .none, (.ref 154), (.ref 155), (.ref 156), (.int 2422 0), (.int 161 0), (.str (Str.ofString "/claim/cut.py") 2423)]), #[]⟩
noncomputable def o158_f (P : Params) : Obj := ⟨(.type "function"), none, (.func { name := (Str.ofString "_law_answer"), qualname := (Str.ofString "_law_answer"), params := fP25, body := .stmts fB25, scope := fS25, globals := 3, closure := [], defaults := .none, kwdefaults := .none, doc := .none, pyModule := (.str (Str.ofString "law_iw0005_01") 2332), annotations := none, code := (.ref 157), closureTuple := .none, builtins := 0 }), #[]⟩
noncomputable def o159_f (P : Params) : Obj := ⟨(.type "tuple"), none, (.seq #[] 0), #[]⟩
noncomputable def o160_f (P : Params) : Obj := ⟨.none, none, (.fields #[]), #[]⟩
noncomputable def o161_f (P : Params) : Obj := ⟨.none, none, (.func { name := (Str.ofString "law"), qualname := (Str.ofString "law"), params := fP26, body := .stmts fB26, scope := fS26, globals := 0, closure := [], defaults := .none, kwdefaults := .none, doc := .none, pyModule := .none, annotations := none, code := .none, closureTuple := .none, builtins := 0 }), #[]⟩
noncomputable def o162_f (P : Params) : Obj := ⟨(.type "code"), none, (.fields #[(.str (Str.ofString "law") 2425), (.str (Str.ofString "law") 2426), (.str (Str.ofString "/claim/cut.py") 2427), (.int 173 0), (.int 1 0), (.int 0 0), (.int 0 0), (.int 3 0), (.ref 159), (.bool true), (.int 181 0), (.ref 160), .none, .none, .none, (.ref 161), (.int 2428 0), (.int 173 0), (.str (Str.ofString "/claim/cut.py") 2429)]), #[]⟩
noncomputable def o163_f (P : Params) : Obj := ⟨(.type "function"), none, (.func { name := (Str.ofString "law"), qualname := (Str.ofString "law"), params := fP26, body := .stmts fB26, scope := fS26, globals := 3, closure := [], defaults := .none, kwdefaults := .none, doc := .none, pyModule := (.str (Str.ofString "law_iw0005_01") 2332), annotations := none, code := (.ref 162), closureTuple := .none, builtins := 0 }), #[]⟩
noncomputable def objsf (P : Params) : List Obj := [o0_b P, o1_b P, o2_b P, o3_f P, o4_b P, o5_b P, o6_b P, o7_b P, o8_b P, o9_b P, o10_b P, o11_b P, o12_f P, o13_b P, o14_b P, o15_7 P, o16_7 P, o17_7 P, o18_7 P, o19_7 P, o20_7 P, o21_7 P, o22_7 P, o23_7 P, o24_7 P, o25_7 P, o26_7 P, o27_7 P, o28_7 P, o29_7 P, o30_7 P, o31_7 P, o32_7 P, o33_7 P, o34_7 P, o35_7 P, o36_7 P, o37_8 P, o38_8 P, o39_8 P, o40_8 P, o41_8 P, o42_8 P, o43_8 P, o44_8 P, o45_8 P, o46_8 P, o47_9 P, o48_9 P, o49_9 P, o50_9 P, o51_9 P, o52_9 P, o53_9 P, o54_9 P, o55_9 P, o56_9 P, o57_f P, o58_f P, o59_f P, o60_f P, o61_f P, o62_f P, o63_f P, o64_f P, o65_f P, o66_f P, o67_f P, o68_f P, o69_f P, o70_f P, o71_f P, o72_f P, o73_f P, o74_f P, o75_f P, o76_f P, o77_f P, o78_f P, o79_f P, o80_f P, o81_f P, o82_f P, o83_f P, o84_f P, o85_f P, o86_f P, o87_f P, o88_f P, o89_f P, o90_f P, o91_f P, o92_f P, o93_f P, o94_f P, o95_f P, o96_f P, o97_f P, o98_f P, o99_f P, o100_f P, o101_f P, o102_f P, o103_f P, o104_f P, o105_f P, o106_f P, o107_f P, o108_f P, o109_f P, o110_f P, o111_f P, o112_f P, o113_f P, o114_f P, o115_f P, o116_f P, o117_f P, o118_f P, o119_f P, o120_f P, o121_f P, o122_f P, o123_f P, o124_f P, o125_f P, o126_f P, o127_f P, o128_f P, o129_f P, o130_f P, o131_f P, o132_f P, o133_f P, o134_f P, o135_f P, o136_f P, o137_f P, o138_f P, o139_f P, o140_f P, o141_f P, o142_f P, o143_f P, o144_f P, o145_f P, o146_f P, o147_f P, o148_f P, o149_f P, o150_f P, o151_f P, o152_f P, o153_f P, o154_f P, o155_f P, o156_f P, o157_f P, o158_f P, o159_f P, o160_f P, o161_f P, o162_f P, o163_f P]

noncomputable def treeOf (l : List Obj) : BT := (l.foldl (fun (x : BT × Nat) o => (x.1.ins x.2 o, x.2 + 1)) (.nil, 0)).1
noncomputable def ST (l : Params → List Obj) (n tk : Nat) (w : World) (os : OsState) : SharedT := ⟨treeOf (l w.params), n, (boot_heap w.params).life, Array.mk [], boot_drawn, tk, os⟩
noncomputable abbrev S0 (w : World) (os : OsState) : Shared := ⟨boot_heap w.params, Array.mk [], boot_drawn, boot_toks, os⟩
noncomputable def Sb := ST objsb 15 187
noncomputable def S7 := ST objs7 37 227
noncomputable def S8 := ST objs8 47 1256
noncomputable def S9 := ST objs9 57 2285
noncomputable def Sf := ST objsf 164 2431
noncomputable def pos7 : Pos := ⟨18, 0, 18, 10⟩
noncomputable def pos8 : Pos := ⟨19, 0, 19, 9⟩
noncomputable def pos9 : Pos := ⟨20, 0, 20, 9⟩
noncomputable def posf : Pos := ⟨173, 0, 209, 102⟩
noncomputable def stmtAt (i : Nat) : Stmt := (bodyV[i]?).getD (.Pass default)
noncomputable def st7 : Stmt := stmtAt 7
noncomputable def st8 : Stmt := stmtAt 8
noncomputable def lcOf : Stmt → PySem.Expr := fun st => match st with | .Assign _ (.Call _ [e] _ _) _ => e | _ => .Constant .none 0 default
noncomputable def callPos : Stmt → Pos := fun st => match st with | .Assign _ e _ => e.pos | _ => default
noncomputable def scOf : PySem.Expr → Scope := fun e => match e with | .ListComp _ _ sc _ => sc | _ => default
noncomputable def iterPos : PySem.Expr → Pos := fun e => match e with | .ListComp _ (g :: _) _ _ => g.iter.pos | _ => default
noncomputable def eltPos : PySem.Expr → Pos := fun e => match e with | .ListComp e _ _ _ => e.pos | _ => default
noncomputable def loopC (st : Stmt) (n : Nat) : Code := .compLoop (lcOf st) 0 (.ref (n + 1)) (.ref (n + 2)) (compEnvC (scOf (lcOf st)) [] (n + 3) envM)
noncomputable def loopT (st : Stmt) (n : Nat) (k : Result → Sem Fin) (p : Pos) : Thread :=
  ⟨denote treeTable (loopC st n), loopC st n, p, [.ret k none true [.ref (n + 3), .ref (n + 2)] codeM (iterPos (lcOf st)) [], topFrame qM]⟩
noncomputable def StA (S : SharedT) (c n tk : Nat) (P : Params) (i : Nat) : SharedT :=
  { S with tree := (((S.tree.ins n (rangeO tk)).ins (n + 1) (iterO i)).ins (n + 2) (listO c tk i)).ins (n + 3) (dictO P tk i), n := n + 4, toks := tk + 3 + 4 * i }
noncomputable def loopD (n : Nat) : Code := .builtin "bytes.__new__.loop" ⟨[.type "bytes", .ref (n + 6), .ref (n + 7)], []⟩
noncomputable def loopU (st : Stmt) (n : Nat) (k₁ k₂ : Result → Sem Fin) : Thread :=
  ⟨denote treeTable (loopD n), loopD n, callPos st, [.ret k₁ none false [] (.builtin "type.__call__" ⟨[.type "bytes", .ref (n + 2)], []⟩) (callPos st) [.builtin "bytes.__new__", .type "bytes", .ref (n + 2), .builtin "bytes.__new__", .type "bytes", .ref (n + 2)],
    .ret k₂ none false [] codeM (callPos st) [.type "bytes", .ref (n + 2)], topFrame qM]⟩
noncomputable def StB (S : SharedT) (c n tk : Nat) (j : Nat) : SharedT :=
  { S with tree := (((((((S.tree.ins n (rangeO tk)).ins (n + 1) (iterO 256)).ins (n + 2) (listO c tk 256)).ins (n + 3) dictZ).ins (n + 4) tupO).ins (n + 5) (stopO (n + 4))).ins (n + 6) (litO (n + 2) j)).ins (n + 7) (barO c j), n := n + 8, toks := tk + 3 + 4 * 256 }
noncomputable def kOf (x : Option (SharedT × Thread)) (i : Nat) : Result → Sem Fin := match x with
  | some (_, ⟨_, _, _, fs⟩) => match fs[i]? with | some (.ret k _ _ _ _ _ _) => k | _ => fun _ => .unsupported ""
  | none => fun _ => .unsupported ""
noncomputable abbrev wholeT (st : Stmt) (p : Pos) : Thread := piecesOf [st] envM codeM p [topFrame qM]
noncomputable abbrev rowI : String := "comprehension-iter-twice"
noncomputable abbrev rowS : String := "special-get-raises"
noncomputable abbrev ww (w : World) (a b : Bool) : World := (w.withFollow rowI a).withFollow rowS b
theorem segT_go {tb : String → Option Builtin} {p : Program} {w : World} {n₀ : Nat} {ann : Option Value} {b : Nat} : ∀ {n N : Nat} {s s' : SharedT} {t t' : Thread} {r : Flow × SharedT × Code × Pos}, segGoT tb p w n₀ ann b n s t = some (s', t') →
    segRunT tb p w n₀ ann b N s' t' = some r → segRunT tb p w n₀ ann b (n + N) s t = some r
  | 0, N, s, s', t, t', r, h, k => by
    obtain ⟨rfl, rfl⟩ : s = s' ∧ t = t' := by simpa [segGoT] using h
    rw [Nat.zero_add]; exact k
  | n + 1, N, s, s', t, t', r, h, k => by
    rw [show n + 1 + N = n + N + 1 by omega]
    unfold segGoT at h
    unfold segRunT
    cases he : endAt b t with
    | some f => rw [he] at h; cases h
    | none =>
      rw [he] at h
      cases hk : stepOk n₀ ann t with
      | false => rw [hk] at h; cases h
      | true =>
        rw [hk] at h
        cases hs : stepT (denote tb) p w s t with
        | none => rw [hs] at h; cases h
        | some x => obtain ⟨s₂, t₂⟩ := x; rw [hs] at h; exact segT_go h k
end Mine
end
-- Hr
noncomputable section
open PySem PySem.W PySem.Calls PyProof.Rows
set_option maxRecDepth 100000
set_option maxHeartbeats 0
set_option linter.unusedVariables false
namespace Mine

theorem preT (w : World) : (fun os => topGo treeTable pw w 11 annV 12 (S0 w os) (topStub pw)) = fun os => some ((Sb w os).abs, ⟨denote treeTable codeM, codeM, qM, [topFrame qM]⟩) := by kernel_rfl
theorem blockT (w : World) : (fun os => segRun treeTable pw w 11 annV 1 1 (Sb w os).abs (blockOf bodyV envM codeM qM [topFrame qM])) = fun os => some (Flow.next, (Sb w os).abs, codeM, qM) := by kernel_rfl
noncomputable def bA : List Stmt := bodyV.take 7
noncomputable def bB : List Stmt := bodyV.drop 9
theorem bodyE : bodyV = bA ++ ([st7] ++ ([st8] ++ (bB ++ []))) := by kernel_rfl
theorem pieceA (w : World) : (fun os => segRunT treeTable pw w 11 annV 1 170 (Sb w os) (piecesOf bA envM codeM qM [topFrame qM])) = fun os => some (Flow.next, S7 w os, codeM, pos7) := by kernel_rfl
theorem pieceB (w : World) : (fun os => segRunT treeTable pw w 11 annV 1 600 (S9 w os) (piecesOf bB envM codeM pos9 [topFrame qM])) = fun os => some (Flow.next, Sf w os, codeM, posf) := by kernel_rfl
theorem finT (w : World) : (fun os => topRun treeTable pw w 11 annV 2 (Sf w os).abs ⟨doneF .next, codeM, posf, [topFrame qM]⟩) = fun os => some (Sf w os).abs := by kernel_rfl
end Mine
end
-- Hr7
noncomputable section
open PySem PySem.W PySem.Calls PyProof.Rows
set_option maxRecDepth 100000
set_option maxHeartbeats 0
set_option linter.unusedVariables false
namespace Mine
theorem turnA7_0 (w : World) (k : Result → Sem Fin) : (fun os => segGoT treeTable pw w 11 annV 1 37 (StA (S7 w os) 92 37 227 w.params 0) (loopT st7 37 k (iterPos (lcOf st7)))) =
  fun os => some ((StA (S7 w os) 92 37 227 w.params 1), loopT st7 37 k (eltPos (lcOf st7))) := by kernel_rfl
theorem turnA7_1 (w : World) (k : Result → Sem Fin) : (fun os => segGoT treeTable pw w 11 annV 1 2331 (StA (S7 w os) 92 37 227 w.params 1) (loopT st7 37 k (eltPos (lcOf st7)))) =
  fun os => some ((StA (S7 w os) 92 37 227 w.params 64), loopT st7 37 k (eltPos (lcOf st7))) := by kernel_rfl
theorem turnA7_64 (w : World) (k : Result → Sem Fin) : (fun os => segGoT treeTable pw w 11 annV 1 2368 (StA (S7 w os) 92 37 227 w.params 64) (loopT st7 37 k (eltPos (lcOf st7)))) =
  fun os => some ((StA (S7 w os) 92 37 227 w.params 128), loopT st7 37 k (eltPos (lcOf st7))) := by kernel_rfl
theorem turnA7_128 (w : World) (k : Result → Sem Fin) : (fun os => segGoT treeTable pw w 11 annV 1 2368 (StA (S7 w os) 92 37 227 w.params 128) (loopT st7 37 k (eltPos (lcOf st7)))) =
  fun os => some ((StA (S7 w os) 92 37 227 w.params 192), loopT st7 37 k (eltPos (lcOf st7))) := by kernel_rfl
theorem turnA7_192 (w : World) (k : Result → Sem Fin) : (fun os => segGoT treeTable pw w 11 annV 1 2368 (StA (S7 w os) 92 37 227 w.params 192) (loopT st7 37 k (eltPos (lcOf st7)))) =
  fun os => some ((StA (S7 w os) 92 37 227 w.params 256), loopT st7 37 k (eltPos (lcOf st7))) := by kernel_rfl
theorem turnB7_0 (w : World) (k₁ k₂ : Result → Sem Fin) : (fun os => segGoT treeTable pw w 11 annV 1 1920 (StB (S7 w os) 92 37 227 0) (loopU st7 37 k₁ k₂)) =
  fun os => some ((StB (S7 w os) 92 37 227 128), loopU st7 37 k₁ k₂) := by kernel_rfl
theorem turnB7_128 (w : World) (k₁ k₂ : Result → Sem Fin) : (fun os => segGoT treeTable pw w 11 annV 1 1920 (StB (S7 w os) 92 37 227 128) (loopU st7 37 k₁ k₂)) =
  fun os => some ((StB (S7 w os) 92 37 227 256), loopU st7 37 k₁ k₂) := by kernel_rfl
noncomputable def kA7_tt (w : World) (os : OsState) : Result → Sem Fin := kOf (segGoT treeTable pw (ww w true true) 11 annV 1 45 (S7 (ww w true true) os) (wholeT st7 pos7)) 0
noncomputable def mid7_tt (w : World) (os : OsState) : Option (SharedT × Thread) := segGoT treeTable pw (ww w true true) 11 annV 1 43 (StA (S7 (ww w true true) os) 92 37 227 (ww w true true).params 256) (loopT st7 37 (kA7_tt w os) (eltPos (lcOf st7)))
noncomputable def kA7_tf (w : World) (os : OsState) : Result → Sem Fin := kOf (segGoT treeTable pw (ww w true false) 11 annV 1 45 (S7 (ww w true false) os) (wholeT st7 pos7)) 0
noncomputable def mid7_tf (w : World) (os : OsState) : Option (SharedT × Thread) := segGoT treeTable pw (ww w true false) 11 annV 1 43 (StA (S7 (ww w true false) os) 92 37 227 (ww w true false).params 256) (loopT st7 37 (kA7_tf w os) (eltPos (lcOf st7)))
noncomputable def kA7_ft (w : World) (os : OsState) : Result → Sem Fin := kOf (segGoT treeTable pw (ww w false true) 11 annV 1 55 (S7 (ww w false true) os) (wholeT st7 pos7)) 0
noncomputable def mid7_ft (w : World) (os : OsState) : Option (SharedT × Thread) := segGoT treeTable pw (ww w false true) 11 annV 1 43 (StA (S7 (ww w false true) os) 92 37 227 (ww w false true).params 256) (loopT st7 37 (kA7_ft w os) (eltPos (lcOf st7)))
noncomputable def kA7_ff (w : World) (os : OsState) : Result → Sem Fin := kOf (segGoT treeTable pw (ww w false false) 11 annV 1 55 (S7 (ww w false false) os) (wholeT st7 pos7)) 0
noncomputable def mid7_ff (w : World) (os : OsState) : Option (SharedT × Thread) := segGoT treeTable pw (ww w false false) 11 annV 1 43 (StA (S7 (ww w false false) os) 92 37 227 (ww w false false).params 256) (loopT st7 37 (kA7_ff w os) (eltPos (lcOf st7)))
theorem all7 :
    (∀ w : World, (fun os => segGoT treeTable pw (ww w true true) 11 annV 1 45 (S7 (ww w true true) os) (wholeT st7 pos7)) = fun os => some ((StA (S7 (ww w true true) os) 92 37 227 (ww w true true).params 0), loopT st7 37 (kA7_tt w os) (iterPos (lcOf st7)))) ∧
    (∀ w : World, (fun os => mid7_tt w os) = fun os => some ((StB (S7 (ww w true true) os) 92 37 227 0), loopU st7 37 (kOf (mid7_tt w os) 0) (kOf (mid7_tt w os) 1))) ∧
    (∀ w : World, (fun os => segRunT treeTable pw (ww w true true) 11 annV 1 41 (StB (S7 (ww w true true) os) 92 37 227 256) (loopU st7 37 (kOf (mid7_tt w os) 0) (kOf (mid7_tt w os) 1))) = fun os => some (Flow.next, S8 (ww w true true) os, codeM, pos8)) ∧
    (∀ w : World, (fun os => segGoT treeTable pw (ww w true false) 11 annV 1 45 (S7 (ww w true false) os) (wholeT st7 pos7)) = fun os => some ((StA (S7 (ww w true false) os) 92 37 227 (ww w true false).params 0), loopT st7 37 (kA7_tf w os) (iterPos (lcOf st7)))) ∧
    (∀ w : World, (fun os => mid7_tf w os) = fun os => some ((StB (S7 (ww w true false) os) 92 37 227 0), loopU st7 37 (kOf (mid7_tf w os) 0) (kOf (mid7_tf w os) 1))) ∧
    (∀ w : World, (fun os => segRunT treeTable pw (ww w true false) 11 annV 1 41 (StB (S7 (ww w true false) os) 92 37 227 256) (loopU st7 37 (kOf (mid7_tf w os) 0) (kOf (mid7_tf w os) 1))) = fun os => some (Flow.next, S8 (ww w true false) os, codeM, pos8)) ∧
    (∀ w : World, (fun os => segGoT treeTable pw (ww w false true) 11 annV 1 55 (S7 (ww w false true) os) (wholeT st7 pos7)) = fun os => some ((StA (S7 (ww w false true) os) 92 37 227 (ww w false true).params 0), loopT st7 37 (kA7_ft w os) (iterPos (lcOf st7)))) ∧
    (∀ w : World, (fun os => mid7_ft w os) = fun os => some ((StB (S7 (ww w false true) os) 92 37 227 0), loopU st7 37 (kOf (mid7_ft w os) 0) (kOf (mid7_ft w os) 1))) ∧
    (∀ w : World, (fun os => segRunT treeTable pw (ww w false true) 11 annV 1 31 (StB (S7 (ww w false true) os) 92 37 227 256) (loopU st7 37 (kOf (mid7_ft w os) 0) (kOf (mid7_ft w os) 1))) = fun os => some (Flow.next, S8 (ww w false true) os, codeM, pos8)) ∧
    (∀ w : World, (fun os => segGoT treeTable pw (ww w false false) 11 annV 1 55 (S7 (ww w false false) os) (wholeT st7 pos7)) = fun os => some ((StA (S7 (ww w false false) os) 92 37 227 (ww w false false).params 0), loopT st7 37 (kA7_ff w os) (iterPos (lcOf st7)))) ∧
    (∀ w : World, (fun os => mid7_ff w os) = fun os => some ((StB (S7 (ww w false false) os) 92 37 227 0), loopU st7 37 (kOf (mid7_ff w os) 0) (kOf (mid7_ff w os) 1))) ∧
    (∀ w : World, (fun os => segRunT treeTable pw (ww w false false) 11 annV 1 31 (StB (S7 (ww w false false) os) 92 37 227 256) (loopU st7 37 (kOf (mid7_ff w os) 0) (kOf (mid7_ff w os) 1))) = fun os => some (Flow.next, S8 (ww w false false) os, codeM, pos8)) :=
  ⟨fun w => by kernel_rfl, fun w => by kernel_rfl, fun w => by kernel_rfl, fun w => by kernel_rfl, fun w => by kernel_rfl, fun w => by kernel_rfl, fun w => by kernel_rfl, fun w => by kernel_rfl, fun w => by kernel_rfl, fun w => by kernel_rfl, fun w => by kernel_rfl, fun w => by kernel_rfl⟩
theorem start7_tt (w : World) : (fun os => segGoT treeTable pw (ww w true true) 11 annV 1 45 (S7 (ww w true true) os) (wholeT st7 pos7)) = fun os => some ((StA (S7 (ww w true true) os) 92 37 227 (ww w true true).params 0), loopT st7 37 (kA7_tt w os) (iterPos (lcOf st7))) := all7.1 w
theorem midE7_tt (w : World) : (fun os => mid7_tt w os) = fun os => some ((StB (S7 (ww w true true) os) 92 37 227 0), loopU st7 37 (kOf (mid7_tt w os) 0) (kOf (mid7_tt w os) 1)) := all7.2.1 w
theorem end7_tt (w : World) : (fun os => segRunT treeTable pw (ww w true true) 11 annV 1 41 (StB (S7 (ww w true true) os) 92 37 227 256) (loopU st7 37 (kOf (mid7_tt w os) 0) (kOf (mid7_tt w os) 1))) = fun os => some (Flow.next, S8 (ww w true true) os, codeM, pos8) := all7.2.2.1 w
theorem start7_tf (w : World) : (fun os => segGoT treeTable pw (ww w true false) 11 annV 1 45 (S7 (ww w true false) os) (wholeT st7 pos7)) = fun os => some ((StA (S7 (ww w true false) os) 92 37 227 (ww w true false).params 0), loopT st7 37 (kA7_tf w os) (iterPos (lcOf st7))) := all7.2.2.2.1 w
theorem midE7_tf (w : World) : (fun os => mid7_tf w os) = fun os => some ((StB (S7 (ww w true false) os) 92 37 227 0), loopU st7 37 (kOf (mid7_tf w os) 0) (kOf (mid7_tf w os) 1)) := all7.2.2.2.2.1 w
theorem end7_tf (w : World) : (fun os => segRunT treeTable pw (ww w true false) 11 annV 1 41 (StB (S7 (ww w true false) os) 92 37 227 256) (loopU st7 37 (kOf (mid7_tf w os) 0) (kOf (mid7_tf w os) 1))) = fun os => some (Flow.next, S8 (ww w true false) os, codeM, pos8) := all7.2.2.2.2.2.1 w
theorem start7_ft (w : World) : (fun os => segGoT treeTable pw (ww w false true) 11 annV 1 55 (S7 (ww w false true) os) (wholeT st7 pos7)) = fun os => some ((StA (S7 (ww w false true) os) 92 37 227 (ww w false true).params 0), loopT st7 37 (kA7_ft w os) (iterPos (lcOf st7))) := all7.2.2.2.2.2.2.1 w
theorem midE7_ft (w : World) : (fun os => mid7_ft w os) = fun os => some ((StB (S7 (ww w false true) os) 92 37 227 0), loopU st7 37 (kOf (mid7_ft w os) 0) (kOf (mid7_ft w os) 1)) := all7.2.2.2.2.2.2.2.1 w
theorem end7_ft (w : World) : (fun os => segRunT treeTable pw (ww w false true) 11 annV 1 31 (StB (S7 (ww w false true) os) 92 37 227 256) (loopU st7 37 (kOf (mid7_ft w os) 0) (kOf (mid7_ft w os) 1))) = fun os => some (Flow.next, S8 (ww w false true) os, codeM, pos8) := all7.2.2.2.2.2.2.2.2.1 w
theorem start7_ff (w : World) : (fun os => segGoT treeTable pw (ww w false false) 11 annV 1 55 (S7 (ww w false false) os) (wholeT st7 pos7)) = fun os => some ((StA (S7 (ww w false false) os) 92 37 227 (ww w false false).params 0), loopT st7 37 (kA7_ff w os) (iterPos (lcOf st7))) := all7.2.2.2.2.2.2.2.2.2.1 w
theorem midE7_ff (w : World) : (fun os => mid7_ff w os) = fun os => some ((StB (S7 (ww w false false) os) 92 37 227 0), loopU st7 37 (kOf (mid7_ff w os) 0) (kOf (mid7_ff w os) 1)) := all7.2.2.2.2.2.2.2.2.2.2.1 w
theorem end7_ff (w : World) : (fun os => segRunT treeTable pw (ww w false false) 11 annV 1 31 (StB (S7 (ww w false false) os) 92 37 227 256) (loopU st7 37 (kOf (mid7_ff w os) 0) (kOf (mid7_ff w os) 1))) = fun os => some (Flow.next, S8 (ww w false false) os, codeM, pos8) := all7.2.2.2.2.2.2.2.2.2.2.2 w
theorem long7_tt (w : World) (os : OsState) : segRunT treeTable pw (ww w true true) 11 annV 1 13441 (S7 (ww w true true) os) (wholeT st7 pos7) = some (Flow.next, S8 (ww w true true) os, codeM, pos8) := by
  refine segT_go (n := 45) (N := 13396) (congrFun (start7_tt w) os) ?_
  refine segT_go (n := 37) (N := 13359) (congrFun (turnA7_0 (ww w true true) _) os) ?_
  refine segT_go (n := 2331) (N := 11028) (congrFun (turnA7_1 (ww w true true) _) os) ?_
  refine segT_go (n := 2368) (N := 8660) (congrFun (turnA7_64 (ww w true true) _) os) ?_
  refine segT_go (n := 2368) (N := 6292) (congrFun (turnA7_128 (ww w true true) _) os) ?_
  refine segT_go (n := 2368) (N := 3924) (congrFun (turnA7_192 (ww w true true) _) os) ?_
  refine segT_go (n := 43) (N := 3881) (congrFun (midE7_tt w) os) ?_
  refine segT_go (n := 1920) (N := 1961) (congrFun (turnB7_0 (ww w true true) _ _) os) ?_
  refine segT_go (n := 1920) (N := 41) (congrFun (turnB7_128 (ww w true true) _ _) os) ?_
  exact congrFun (end7_tt w) os
theorem long7_tf (w : World) (os : OsState) : segRunT treeTable pw (ww w true false) 11 annV 1 13441 (S7 (ww w true false) os) (wholeT st7 pos7) = some (Flow.next, S8 (ww w true false) os, codeM, pos8) := by
  refine segT_go (n := 45) (N := 13396) (congrFun (start7_tf w) os) ?_
  refine segT_go (n := 37) (N := 13359) (congrFun (turnA7_0 (ww w true false) _) os) ?_
  refine segT_go (n := 2331) (N := 11028) (congrFun (turnA7_1 (ww w true false) _) os) ?_
  refine segT_go (n := 2368) (N := 8660) (congrFun (turnA7_64 (ww w true false) _) os) ?_
  refine segT_go (n := 2368) (N := 6292) (congrFun (turnA7_128 (ww w true false) _) os) ?_
  refine segT_go (n := 2368) (N := 3924) (congrFun (turnA7_192 (ww w true false) _) os) ?_
  refine segT_go (n := 43) (N := 3881) (congrFun (midE7_tf w) os) ?_
  refine segT_go (n := 1920) (N := 1961) (congrFun (turnB7_0 (ww w true false) _ _) os) ?_
  refine segT_go (n := 1920) (N := 41) (congrFun (turnB7_128 (ww w true false) _ _) os) ?_
  exact congrFun (end7_tf w) os
theorem long7_ft (w : World) (os : OsState) : segRunT treeTable pw (ww w false true) 11 annV 1 13441 (S7 (ww w false true) os) (wholeT st7 pos7) = some (Flow.next, S8 (ww w false true) os, codeM, pos8) := by
  refine segT_go (n := 55) (N := 13386) (congrFun (start7_ft w) os) ?_
  refine segT_go (n := 37) (N := 13349) (congrFun (turnA7_0 (ww w false true) _) os) ?_
  refine segT_go (n := 2331) (N := 11018) (congrFun (turnA7_1 (ww w false true) _) os) ?_
  refine segT_go (n := 2368) (N := 8650) (congrFun (turnA7_64 (ww w false true) _) os) ?_
  refine segT_go (n := 2368) (N := 6282) (congrFun (turnA7_128 (ww w false true) _) os) ?_
  refine segT_go (n := 2368) (N := 3914) (congrFun (turnA7_192 (ww w false true) _) os) ?_
  refine segT_go (n := 43) (N := 3871) (congrFun (midE7_ft w) os) ?_
  refine segT_go (n := 1920) (N := 1951) (congrFun (turnB7_0 (ww w false true) _ _) os) ?_
  refine segT_go (n := 1920) (N := 31) (congrFun (turnB7_128 (ww w false true) _ _) os) ?_
  exact congrFun (end7_ft w) os
theorem long7_ff (w : World) (os : OsState) : segRunT treeTable pw (ww w false false) 11 annV 1 13441 (S7 (ww w false false) os) (wholeT st7 pos7) = some (Flow.next, S8 (ww w false false) os, codeM, pos8) := by
  refine segT_go (n := 55) (N := 13386) (congrFun (start7_ff w) os) ?_
  refine segT_go (n := 37) (N := 13349) (congrFun (turnA7_0 (ww w false false) _) os) ?_
  refine segT_go (n := 2331) (N := 11018) (congrFun (turnA7_1 (ww w false false) _) os) ?_
  refine segT_go (n := 2368) (N := 8650) (congrFun (turnA7_64 (ww w false false) _) os) ?_
  refine segT_go (n := 2368) (N := 6282) (congrFun (turnA7_128 (ww w false false) _) os) ?_
  refine segT_go (n := 2368) (N := 3914) (congrFun (turnA7_192 (ww w false false) _) os) ?_
  refine segT_go (n := 43) (N := 3871) (congrFun (midE7_ff w) os) ?_
  refine segT_go (n := 1920) (N := 1951) (congrFun (turnB7_0 (ww w false false) _ _) os) ?_
  refine segT_go (n := 1920) (N := 31) (congrFun (turnB7_128 (ww w false false) _ _) os) ?_
  exact congrFun (end7_ff w) os
theorem long7 : ∀ w : World, (fun os => segRunT treeTable pw w 11 annV 1 13441 (S7 w os) (wholeT st7 pos7)) = fun os => some (Flow.next, S8 w os, codeM, pos8) :=
  byRow2 rowS (P := fun w => (fun os => segRunT treeTable pw w 11 annV 1 13441 (S7 w os) (wholeT st7 pos7)) = fun os => some (Flow.next, S8 w os, codeM, pos8))
    (fun w => byRow2 rowI (P := fun w => (fun os => segRunT treeTable pw (w.withFollow rowS false) 11 annV 1 13441 (S7 (w.withFollow rowS false) os) (wholeT st7 pos7)) = fun os => some (Flow.next, S8 (w.withFollow rowS false) os, codeM, pos8)) (fun w => funext (long7_ff w)) (fun w => funext (long7_tf w)) w)
    (fun w => byRow2 rowI (P := fun w => (fun os => segRunT treeTable pw (w.withFollow rowS true) 11 annV 1 13441 (S7 (w.withFollow rowS true) os) (wholeT st7 pos7)) = fun os => some (Flow.next, S8 (w.withFollow rowS true) os, codeM, pos8)) (fun w => funext (long7_ft w)) (fun w => funext (long7_tt w)) w)
end Mine
end
-- Hr8
noncomputable section
open PySem PySem.W PySem.Calls PyProof.Rows
set_option maxRecDepth 100000
set_option maxHeartbeats 0
set_option linter.unusedVariables false
namespace Mine
theorem turnA8_0 (w : World) (k : Result → Sem Fin) : (fun os => segGoT treeTable pw w 11 annV 1 37 (StA (S8 w os) 54 47 1256 w.params 0) (loopT st8 47 k (iterPos (lcOf st8)))) =
  fun os => some ((StA (S8 w os) 54 47 1256 w.params 1), loopT st8 47 k (eltPos (lcOf st8))) := by kernel_rfl
theorem turnA8_1 (w : World) (k : Result → Sem Fin) : (fun os => segGoT treeTable pw w 11 annV 1 2331 (StA (S8 w os) 54 47 1256 w.params 1) (loopT st8 47 k (eltPos (lcOf st8)))) =
  fun os => some ((StA (S8 w os) 54 47 1256 w.params 64), loopT st8 47 k (eltPos (lcOf st8))) := by kernel_rfl
theorem turnA8_64 (w : World) (k : Result → Sem Fin) : (fun os => segGoT treeTable pw w 11 annV 1 2368 (StA (S8 w os) 54 47 1256 w.params 64) (loopT st8 47 k (eltPos (lcOf st8)))) =
  fun os => some ((StA (S8 w os) 54 47 1256 w.params 128), loopT st8 47 k (eltPos (lcOf st8))) := by kernel_rfl
theorem turnA8_128 (w : World) (k : Result → Sem Fin) : (fun os => segGoT treeTable pw w 11 annV 1 2368 (StA (S8 w os) 54 47 1256 w.params 128) (loopT st8 47 k (eltPos (lcOf st8)))) =
  fun os => some ((StA (S8 w os) 54 47 1256 w.params 192), loopT st8 47 k (eltPos (lcOf st8))) := by kernel_rfl
theorem turnA8_192 (w : World) (k : Result → Sem Fin) : (fun os => segGoT treeTable pw w 11 annV 1 2368 (StA (S8 w os) 54 47 1256 w.params 192) (loopT st8 47 k (eltPos (lcOf st8)))) =
  fun os => some ((StA (S8 w os) 54 47 1256 w.params 256), loopT st8 47 k (eltPos (lcOf st8))) := by kernel_rfl
theorem turnB8_0 (w : World) (k₁ k₂ : Result → Sem Fin) : (fun os => segGoT treeTable pw w 11 annV 1 1920 (StB (S8 w os) 54 47 1256 0) (loopU st8 47 k₁ k₂)) =
  fun os => some ((StB (S8 w os) 54 47 1256 128), loopU st8 47 k₁ k₂) := by kernel_rfl
theorem turnB8_128 (w : World) (k₁ k₂ : Result → Sem Fin) : (fun os => segGoT treeTable pw w 11 annV 1 1920 (StB (S8 w os) 54 47 1256 128) (loopU st8 47 k₁ k₂)) =
  fun os => some ((StB (S8 w os) 54 47 1256 256), loopU st8 47 k₁ k₂) := by kernel_rfl
noncomputable def kA8_tt (w : World) (os : OsState) : Result → Sem Fin := kOf (segGoT treeTable pw (ww w true true) 11 annV 1 45 (S8 (ww w true true) os) (wholeT st8 pos8)) 0
noncomputable def mid8_tt (w : World) (os : OsState) : Option (SharedT × Thread) := segGoT treeTable pw (ww w true true) 11 annV 1 43 (StA (S8 (ww w true true) os) 54 47 1256 (ww w true true).params 256) (loopT st8 47 (kA8_tt w os) (eltPos (lcOf st8)))
noncomputable def kA8_tf (w : World) (os : OsState) : Result → Sem Fin := kOf (segGoT treeTable pw (ww w true false) 11 annV 1 45 (S8 (ww w true false) os) (wholeT st8 pos8)) 0
noncomputable def mid8_tf (w : World) (os : OsState) : Option (SharedT × Thread) := segGoT treeTable pw (ww w true false) 11 annV 1 43 (StA (S8 (ww w true false) os) 54 47 1256 (ww w true false).params 256) (loopT st8 47 (kA8_tf w os) (eltPos (lcOf st8)))
noncomputable def kA8_ft (w : World) (os : OsState) : Result → Sem Fin := kOf (segGoT treeTable pw (ww w false true) 11 annV 1 55 (S8 (ww w false true) os) (wholeT st8 pos8)) 0
noncomputable def mid8_ft (w : World) (os : OsState) : Option (SharedT × Thread) := segGoT treeTable pw (ww w false true) 11 annV 1 43 (StA (S8 (ww w false true) os) 54 47 1256 (ww w false true).params 256) (loopT st8 47 (kA8_ft w os) (eltPos (lcOf st8)))
noncomputable def kA8_ff (w : World) (os : OsState) : Result → Sem Fin := kOf (segGoT treeTable pw (ww w false false) 11 annV 1 55 (S8 (ww w false false) os) (wholeT st8 pos8)) 0
noncomputable def mid8_ff (w : World) (os : OsState) : Option (SharedT × Thread) := segGoT treeTable pw (ww w false false) 11 annV 1 43 (StA (S8 (ww w false false) os) 54 47 1256 (ww w false false).params 256) (loopT st8 47 (kA8_ff w os) (eltPos (lcOf st8)))
theorem all8 :
    (∀ w : World, (fun os => segGoT treeTable pw (ww w true true) 11 annV 1 45 (S8 (ww w true true) os) (wholeT st8 pos8)) = fun os => some ((StA (S8 (ww w true true) os) 54 47 1256 (ww w true true).params 0), loopT st8 47 (kA8_tt w os) (iterPos (lcOf st8)))) ∧
    (∀ w : World, (fun os => mid8_tt w os) = fun os => some ((StB (S8 (ww w true true) os) 54 47 1256 0), loopU st8 47 (kOf (mid8_tt w os) 0) (kOf (mid8_tt w os) 1))) ∧
    (∀ w : World, (fun os => segRunT treeTable pw (ww w true true) 11 annV 1 41 (StB (S8 (ww w true true) os) 54 47 1256 256) (loopU st8 47 (kOf (mid8_tt w os) 0) (kOf (mid8_tt w os) 1))) = fun os => some (Flow.next, S9 (ww w true true) os, codeM, pos9)) ∧
    (∀ w : World, (fun os => segGoT treeTable pw (ww w true false) 11 annV 1 45 (S8 (ww w true false) os) (wholeT st8 pos8)) = fun os => some ((StA (S8 (ww w true false) os) 54 47 1256 (ww w true false).params 0), loopT st8 47 (kA8_tf w os) (iterPos (lcOf st8)))) ∧
    (∀ w : World, (fun os => mid8_tf w os) = fun os => some ((StB (S8 (ww w true false) os) 54 47 1256 0), loopU st8 47 (kOf (mid8_tf w os) 0) (kOf (mid8_tf w os) 1))) ∧
    (∀ w : World, (fun os => segRunT treeTable pw (ww w true false) 11 annV 1 41 (StB (S8 (ww w true false) os) 54 47 1256 256) (loopU st8 47 (kOf (mid8_tf w os) 0) (kOf (mid8_tf w os) 1))) = fun os => some (Flow.next, S9 (ww w true false) os, codeM, pos9)) ∧
    (∀ w : World, (fun os => segGoT treeTable pw (ww w false true) 11 annV 1 55 (S8 (ww w false true) os) (wholeT st8 pos8)) = fun os => some ((StA (S8 (ww w false true) os) 54 47 1256 (ww w false true).params 0), loopT st8 47 (kA8_ft w os) (iterPos (lcOf st8)))) ∧
    (∀ w : World, (fun os => mid8_ft w os) = fun os => some ((StB (S8 (ww w false true) os) 54 47 1256 0), loopU st8 47 (kOf (mid8_ft w os) 0) (kOf (mid8_ft w os) 1))) ∧
    (∀ w : World, (fun os => segRunT treeTable pw (ww w false true) 11 annV 1 31 (StB (S8 (ww w false true) os) 54 47 1256 256) (loopU st8 47 (kOf (mid8_ft w os) 0) (kOf (mid8_ft w os) 1))) = fun os => some (Flow.next, S9 (ww w false true) os, codeM, pos9)) ∧
    (∀ w : World, (fun os => segGoT treeTable pw (ww w false false) 11 annV 1 55 (S8 (ww w false false) os) (wholeT st8 pos8)) = fun os => some ((StA (S8 (ww w false false) os) 54 47 1256 (ww w false false).params 0), loopT st8 47 (kA8_ff w os) (iterPos (lcOf st8)))) ∧
    (∀ w : World, (fun os => mid8_ff w os) = fun os => some ((StB (S8 (ww w false false) os) 54 47 1256 0), loopU st8 47 (kOf (mid8_ff w os) 0) (kOf (mid8_ff w os) 1))) ∧
    (∀ w : World, (fun os => segRunT treeTable pw (ww w false false) 11 annV 1 31 (StB (S8 (ww w false false) os) 54 47 1256 256) (loopU st8 47 (kOf (mid8_ff w os) 0) (kOf (mid8_ff w os) 1))) = fun os => some (Flow.next, S9 (ww w false false) os, codeM, pos9)) :=
  ⟨fun w => by kernel_rfl, fun w => by kernel_rfl, fun w => by kernel_rfl, fun w => by kernel_rfl, fun w => by kernel_rfl, fun w => by kernel_rfl, fun w => by kernel_rfl, fun w => by kernel_rfl, fun w => by kernel_rfl, fun w => by kernel_rfl, fun w => by kernel_rfl, fun w => by kernel_rfl⟩
theorem start8_tt (w : World) : (fun os => segGoT treeTable pw (ww w true true) 11 annV 1 45 (S8 (ww w true true) os) (wholeT st8 pos8)) = fun os => some ((StA (S8 (ww w true true) os) 54 47 1256 (ww w true true).params 0), loopT st8 47 (kA8_tt w os) (iterPos (lcOf st8))) := all8.1 w
theorem midE8_tt (w : World) : (fun os => mid8_tt w os) = fun os => some ((StB (S8 (ww w true true) os) 54 47 1256 0), loopU st8 47 (kOf (mid8_tt w os) 0) (kOf (mid8_tt w os) 1)) := all8.2.1 w
theorem end8_tt (w : World) : (fun os => segRunT treeTable pw (ww w true true) 11 annV 1 41 (StB (S8 (ww w true true) os) 54 47 1256 256) (loopU st8 47 (kOf (mid8_tt w os) 0) (kOf (mid8_tt w os) 1))) = fun os => some (Flow.next, S9 (ww w true true) os, codeM, pos9) := all8.2.2.1 w
theorem start8_tf (w : World) : (fun os => segGoT treeTable pw (ww w true false) 11 annV 1 45 (S8 (ww w true false) os) (wholeT st8 pos8)) = fun os => some ((StA (S8 (ww w true false) os) 54 47 1256 (ww w true false).params 0), loopT st8 47 (kA8_tf w os) (iterPos (lcOf st8))) := all8.2.2.2.1 w
theorem midE8_tf (w : World) : (fun os => mid8_tf w os) = fun os => some ((StB (S8 (ww w true false) os) 54 47 1256 0), loopU st8 47 (kOf (mid8_tf w os) 0) (kOf (mid8_tf w os) 1)) := all8.2.2.2.2.1 w
theorem end8_tf (w : World) : (fun os => segRunT treeTable pw (ww w true false) 11 annV 1 41 (StB (S8 (ww w true false) os) 54 47 1256 256) (loopU st8 47 (kOf (mid8_tf w os) 0) (kOf (mid8_tf w os) 1))) = fun os => some (Flow.next, S9 (ww w true false) os, codeM, pos9) := all8.2.2.2.2.2.1 w
theorem start8_ft (w : World) : (fun os => segGoT treeTable pw (ww w false true) 11 annV 1 55 (S8 (ww w false true) os) (wholeT st8 pos8)) = fun os => some ((StA (S8 (ww w false true) os) 54 47 1256 (ww w false true).params 0), loopT st8 47 (kA8_ft w os) (iterPos (lcOf st8))) := all8.2.2.2.2.2.2.1 w
theorem midE8_ft (w : World) : (fun os => mid8_ft w os) = fun os => some ((StB (S8 (ww w false true) os) 54 47 1256 0), loopU st8 47 (kOf (mid8_ft w os) 0) (kOf (mid8_ft w os) 1)) := all8.2.2.2.2.2.2.2.1 w
theorem end8_ft (w : World) : (fun os => segRunT treeTable pw (ww w false true) 11 annV 1 31 (StB (S8 (ww w false true) os) 54 47 1256 256) (loopU st8 47 (kOf (mid8_ft w os) 0) (kOf (mid8_ft w os) 1))) = fun os => some (Flow.next, S9 (ww w false true) os, codeM, pos9) := all8.2.2.2.2.2.2.2.2.1 w
theorem start8_ff (w : World) : (fun os => segGoT treeTable pw (ww w false false) 11 annV 1 55 (S8 (ww w false false) os) (wholeT st8 pos8)) = fun os => some ((StA (S8 (ww w false false) os) 54 47 1256 (ww w false false).params 0), loopT st8 47 (kA8_ff w os) (iterPos (lcOf st8))) := all8.2.2.2.2.2.2.2.2.2.1 w
theorem midE8_ff (w : World) : (fun os => mid8_ff w os) = fun os => some ((StB (S8 (ww w false false) os) 54 47 1256 0), loopU st8 47 (kOf (mid8_ff w os) 0) (kOf (mid8_ff w os) 1)) := all8.2.2.2.2.2.2.2.2.2.2.1 w
theorem end8_ff (w : World) : (fun os => segRunT treeTable pw (ww w false false) 11 annV 1 31 (StB (S8 (ww w false false) os) 54 47 1256 256) (loopU st8 47 (kOf (mid8_ff w os) 0) (kOf (mid8_ff w os) 1))) = fun os => some (Flow.next, S9 (ww w false false) os, codeM, pos9) := all8.2.2.2.2.2.2.2.2.2.2.2 w
theorem long8_tt (w : World) (os : OsState) : segRunT treeTable pw (ww w true true) 11 annV 1 13441 (S8 (ww w true true) os) (wholeT st8 pos8) = some (Flow.next, S9 (ww w true true) os, codeM, pos9) := by
  refine segT_go (n := 45) (N := 13396) (congrFun (start8_tt w) os) ?_
  refine segT_go (n := 37) (N := 13359) (congrFun (turnA8_0 (ww w true true) _) os) ?_
  refine segT_go (n := 2331) (N := 11028) (congrFun (turnA8_1 (ww w true true) _) os) ?_
  refine segT_go (n := 2368) (N := 8660) (congrFun (turnA8_64 (ww w true true) _) os) ?_
  refine segT_go (n := 2368) (N := 6292) (congrFun (turnA8_128 (ww w true true) _) os) ?_
  refine segT_go (n := 2368) (N := 3924) (congrFun (turnA8_192 (ww w true true) _) os) ?_
  refine segT_go (n := 43) (N := 3881) (congrFun (midE8_tt w) os) ?_
  refine segT_go (n := 1920) (N := 1961) (congrFun (turnB8_0 (ww w true true) _ _) os) ?_
  refine segT_go (n := 1920) (N := 41) (congrFun (turnB8_128 (ww w true true) _ _) os) ?_
  exact congrFun (end8_tt w) os
theorem long8_tf (w : World) (os : OsState) : segRunT treeTable pw (ww w true false) 11 annV 1 13441 (S8 (ww w true false) os) (wholeT st8 pos8) = some (Flow.next, S9 (ww w true false) os, codeM, pos9) := by
  refine segT_go (n := 45) (N := 13396) (congrFun (start8_tf w) os) ?_
  refine segT_go (n := 37) (N := 13359) (congrFun (turnA8_0 (ww w true false) _) os) ?_
  refine segT_go (n := 2331) (N := 11028) (congrFun (turnA8_1 (ww w true false) _) os) ?_
  refine segT_go (n := 2368) (N := 8660) (congrFun (turnA8_64 (ww w true false) _) os) ?_
  refine segT_go (n := 2368) (N := 6292) (congrFun (turnA8_128 (ww w true false) _) os) ?_
  refine segT_go (n := 2368) (N := 3924) (congrFun (turnA8_192 (ww w true false) _) os) ?_
  refine segT_go (n := 43) (N := 3881) (congrFun (midE8_tf w) os) ?_
  refine segT_go (n := 1920) (N := 1961) (congrFun (turnB8_0 (ww w true false) _ _) os) ?_
  refine segT_go (n := 1920) (N := 41) (congrFun (turnB8_128 (ww w true false) _ _) os) ?_
  exact congrFun (end8_tf w) os
theorem long8_ft (w : World) (os : OsState) : segRunT treeTable pw (ww w false true) 11 annV 1 13441 (S8 (ww w false true) os) (wholeT st8 pos8) = some (Flow.next, S9 (ww w false true) os, codeM, pos9) := by
  refine segT_go (n := 55) (N := 13386) (congrFun (start8_ft w) os) ?_
  refine segT_go (n := 37) (N := 13349) (congrFun (turnA8_0 (ww w false true) _) os) ?_
  refine segT_go (n := 2331) (N := 11018) (congrFun (turnA8_1 (ww w false true) _) os) ?_
  refine segT_go (n := 2368) (N := 8650) (congrFun (turnA8_64 (ww w false true) _) os) ?_
  refine segT_go (n := 2368) (N := 6282) (congrFun (turnA8_128 (ww w false true) _) os) ?_
  refine segT_go (n := 2368) (N := 3914) (congrFun (turnA8_192 (ww w false true) _) os) ?_
  refine segT_go (n := 43) (N := 3871) (congrFun (midE8_ft w) os) ?_
  refine segT_go (n := 1920) (N := 1951) (congrFun (turnB8_0 (ww w false true) _ _) os) ?_
  refine segT_go (n := 1920) (N := 31) (congrFun (turnB8_128 (ww w false true) _ _) os) ?_
  exact congrFun (end8_ft w) os
theorem long8_ff (w : World) (os : OsState) : segRunT treeTable pw (ww w false false) 11 annV 1 13441 (S8 (ww w false false) os) (wholeT st8 pos8) = some (Flow.next, S9 (ww w false false) os, codeM, pos9) := by
  refine segT_go (n := 55) (N := 13386) (congrFun (start8_ff w) os) ?_
  refine segT_go (n := 37) (N := 13349) (congrFun (turnA8_0 (ww w false false) _) os) ?_
  refine segT_go (n := 2331) (N := 11018) (congrFun (turnA8_1 (ww w false false) _) os) ?_
  refine segT_go (n := 2368) (N := 8650) (congrFun (turnA8_64 (ww w false false) _) os) ?_
  refine segT_go (n := 2368) (N := 6282) (congrFun (turnA8_128 (ww w false false) _) os) ?_
  refine segT_go (n := 2368) (N := 3914) (congrFun (turnA8_192 (ww w false false) _) os) ?_
  refine segT_go (n := 43) (N := 3871) (congrFun (midE8_ff w) os) ?_
  refine segT_go (n := 1920) (N := 1951) (congrFun (turnB8_0 (ww w false false) _ _) os) ?_
  refine segT_go (n := 1920) (N := 31) (congrFun (turnB8_128 (ww w false false) _ _) os) ?_
  exact congrFun (end8_ff w) os
theorem long8 : ∀ w : World, (fun os => segRunT treeTable pw w 11 annV 1 13441 (S8 w os) (wholeT st8 pos8)) = fun os => some (Flow.next, S9 w os, codeM, pos9) :=
  byRow2 rowS (P := fun w => (fun os => segRunT treeTable pw w 11 annV 1 13441 (S8 w os) (wholeT st8 pos8)) = fun os => some (Flow.next, S9 w os, codeM, pos9))
    (fun w => byRow2 rowI (P := fun w => (fun os => segRunT treeTable pw (w.withFollow rowS false) 11 annV 1 13441 (S8 (w.withFollow rowS false) os) (wholeT st8 pos8)) = fun os => some (Flow.next, S9 (w.withFollow rowS false) os, codeM, pos9)) (fun w => funext (long8_ff w)) (fun w => funext (long8_tf w)) w)
    (fun w => byRow2 rowI (P := fun w => (fun os => segRunT treeTable pw (w.withFollow rowS true) 11 annV 1 13441 (S8 (w.withFollow rowS true) os) (wholeT st8 pos8)) = fun os => some (Flow.next, S9 (w.withFollow rowS true) os, codeM, pos9)) (fun w => funext (long8_ft w)) (fun w => funext (long8_tt w)) w)
end Mine
end
-- Hl1
noncomputable section
open PySem PySem.W PySem.Calls PyProof.Rows
set_option maxRecDepth 100000
set_option maxHeartbeats 0
set_option linter.unusedVariables false
namespace Mine
@[reducible] noncomputable def lawStmt : Stmt := by
  refine (fun (l : Stmt) (_ : stmtAt 26 = l) => l) ?l ?h
  rotate_left
  conv => lhs; whnf
@[reducible] noncomputable def viewQ : Program := { pw with main := { pw.main with body := [lawStmt] } }
noncomputable def looseQ : List Str := [Str.ofString "ExpectedTypeError", Str.ofString "ExpectedStringError", Str.ofString "to_bytes", Str.ofString "MAX_UINT32", Str.ofString "_TRANS_5C", Str.ofString "_TRANS_36", Str.ofString "compile_hmac", Str.ofString "pbkdf1", Str.ofString "_pack_uint32", Str.ofString "pbkdf2_hmac", Str.ofString "_pbkdf2_looper", Str.ofString "_law_sizes", Str.ofString "_law_hash", Str.ofString "_law_pads", Str.ofString "_law_code", Str.ofString "_law_piece", Str.ofString "_law_second", Str.ofString "_law_first", Str.ofString "_law_other", Str.ofString "_law_signs", Str.ofString "_law_wrong", Str.ofString "_law_answer"]
noncomputable def K (P : Params) : Frag := ((nat_lit 2), o2_b P) :: ((nat_lit 3), o3_f P) :: ((nat_lit 15), o15_7 P) :: ((nat_lit 17), o17_7 P) :: ((nat_lit 18), o18_7 P) :: ((nat_lit 20), o20_7 P) :: ((nat_lit 21), o21_7 P) :: ((nat_lit 22), o22_7 P) :: ((nat_lit 24), o24_7 P) :: ((nat_lit 25), o25_7 P) :: ((nat_lit 27), o27_7 P) :: ((nat_lit 28), o28_7 P) :: ((nat_lit 29), o29_7 P) :: ((nat_lit 30), o30_7 P) :: ((nat_lit 32), o32_7 P) :: ((nat_lit 33), o33_7 P) :: ((nat_lit 35), o35_7 P) :: ((nat_lit 36), o36_7 P) :: ((nat_lit 57), o57_f P) :: ((nat_lit 60), o60_f P) :: ((nat_lit 61), o61_f P) :: ((nat_lit 62), o62_f P) :: ((nat_lit 63), o63_f P) :: ((nat_lit 65), o65_f P) :: ((nat_lit 66), o66_f P) :: ((nat_lit 68), o68_f P) :: ((nat_lit 69), o69_f P) :: ((nat_lit 70), o70_f P) :: ((nat_lit 72), o72_f P) :: ((nat_lit 73), o73_f P) :: ((nat_lit 75), o75_f P) :: ((nat_lit 76), o76_f P) :: ((nat_lit 77), o77_f P) :: ((nat_lit 78), o78_f P) :: ((nat_lit 81), o81_f P) :: ((nat_lit 82), o82_f P) :: ((nat_lit 83), o83_f P) :: ((nat_lit 85), o85_f P) :: ((nat_lit 86), o86_f P) :: ((nat_lit 88), o88_f P) :: ((nat_lit 89), o89_f P) :: ((nat_lit 90), o90_f P) :: ((nat_lit 91), o91_f P) :: ((nat_lit 92), o92_f P) :: ((nat_lit 93), o93_f P) :: ((nat_lit 94), o94_f P) :: ((nat_lit 95), o95_f P) :: ((nat_lit 97), o97_f P) :: ((nat_lit 98), o98_f P) :: ((nat_lit 100), o100_f P) :: ((nat_lit 101), o101_f P) :: ((nat_lit 102), o102_f P) :: ((nat_lit 105), o105_f P) :: ((nat_lit 106), o106_f P) :: ((nat_lit 107), o107_f P) :: ((nat_lit 109), o109_f P) :: ((nat_lit 110), o110_f P) :: ((nat_lit 112), o112_f P) :: ((nat_lit 113), o113_f P) :: ((nat_lit 114), o114_f P) :: ((nat_lit 117), o117_f P) :: ((nat_lit 118), o118_f P) :: ((nat_lit 119), o119_f P) :: ((nat_lit 122), o122_f P) :: ((nat_lit 123), o123_f P) :: ((nat_lit 124), o124_f P) :: ((nat_lit 126), o126_f P) :: ((nat_lit 127), o127_f P) :: ((nat_lit 129), o129_f P) :: ((nat_lit 130), o130_f P) :: ((nat_lit 131), o131_f P) :: ((nat_lit 133), o133_f P) :: ((nat_lit 134), o134_f P) :: ((nat_lit 136), o136_f P) :: ((nat_lit 137), o137_f P) :: ((nat_lit 138), o138_f P) :: ((nat_lit 140), o140_f P) :: ((nat_lit 141), o141_f P) :: ((nat_lit 143), o143_f P) :: ((nat_lit 144), o144_f P) :: ((nat_lit 145), o145_f P) :: ((nat_lit 147), o147_f P) :: ((nat_lit 148), o148_f P) :: ((nat_lit 150), o150_f P) :: ((nat_lit 151), o151_f P) :: ((nat_lit 152), o152_f P) :: ((nat_lit 154), o154_f P) :: ((nat_lit 155), o155_f P) :: ((nat_lit 157), o157_f P) :: ((nat_lit 158), o158_f P) :: ((nat_lit 159), o159_f P) :: ((nat_lit 162), o162_f P) :: ((nat_lit 163), o163_f P) :: []
noncomputable abbrev asK : List Addr := (nat_lit 2) :: (nat_lit 3) :: (nat_lit 15) :: (nat_lit 17) :: (nat_lit 18) :: (nat_lit 20) :: (nat_lit 21) :: (nat_lit 22) :: (nat_lit 24) :: (nat_lit 25) :: (nat_lit 27) :: (nat_lit 28) :: (nat_lit 29) :: (nat_lit 30) :: (nat_lit 32) :: (nat_lit 33) :: (nat_lit 35) :: (nat_lit 36) :: (nat_lit 57) :: (nat_lit 60) :: (nat_lit 61) :: (nat_lit 62) :: (nat_lit 63) :: (nat_lit 65) :: (nat_lit 66) :: (nat_lit 68) :: (nat_lit 69) :: (nat_lit 70) :: (nat_lit 72) :: (nat_lit 73) :: (nat_lit 75) :: (nat_lit 76) :: (nat_lit 77) :: (nat_lit 78) :: (nat_lit 81) :: (nat_lit 82) :: (nat_lit 83) :: (nat_lit 85) :: (nat_lit 86) :: (nat_lit 88) :: (nat_lit 89) :: (nat_lit 90) :: (nat_lit 91) :: (nat_lit 92) :: (nat_lit 93) :: (nat_lit 94) :: (nat_lit 95) :: (nat_lit 97) :: (nat_lit 98) :: (nat_lit 100) :: (nat_lit 101) :: (nat_lit 102) :: (nat_lit 105) :: (nat_lit 106) :: (nat_lit 107) :: (nat_lit 109) :: (nat_lit 110) :: (nat_lit 112) :: (nat_lit 113) :: (nat_lit 114) :: (nat_lit 117) :: (nat_lit 118) :: (nat_lit 119) :: (nat_lit 122) :: (nat_lit 123) :: (nat_lit 124) :: (nat_lit 126) :: (nat_lit 127) :: (nat_lit 129) :: (nat_lit 130) :: (nat_lit 131) :: (nat_lit 133) :: (nat_lit 134) :: (nat_lit 136) :: (nat_lit 137) :: (nat_lit 138) :: (nat_lit 140) :: (nat_lit 141) :: (nat_lit 143) :: (nat_lit 144) :: (nat_lit 145) :: (nat_lit 147) :: (nat_lit 148) :: (nat_lit 150) :: (nat_lit 151) :: (nat_lit 152) :: (nat_lit 154) :: (nat_lit 155) :: (nat_lit 157) :: (nat_lit 158) :: (nat_lit 159) :: (nat_lit 162) :: (nat_lit 163) :: []
theorem asK_eq : ∀ P, asK = (K P).map (·.1) := fun P => by kernel_rfl
@[reducible] noncomputable def hookK : Hook := kmHook K asK asK_eq [(nat_lit 58), (nat_lit 160)]
noncomputable def Hf (P : Params) : Heap := absHeap (treeOf (objsf P)) 164 (boot_heap P).life
theorem sizeT : ∀ w : World, ((boot_heap w.params).isNs mainGlobals && (Array.mk [] : Array GenState).size == 0, (boot_heap w.params).objs.size, (boot_heap w.params).nsMap mainGlobals "__annotations__") = (true, 11, annV) := fun w => by kernel_rfl
theorem runT (w : World) (os : OsState) : topRun treeTable pw w 11 annV (12 + (1 + (170 + (13441 + (13441 + (600 + 2)))))) (S0 w os) (topStub pw) = some (Sf w os).abs := by
  refine go_top (congrFun (preT w) os) (piece_block (congrFun (blockT w) os) ?_)
  rw [show restOf bodyV envM codeM qM [topFrame qM] = restOf (bA ++ ([st7] ++ ([st8] ++ (bB ++ [])))) envM codeM qM [topFrame qM] from congrArg (fun b => restOf b envM codeM qM [topFrame qM]) bodyE]
  refine piece_app (segRun_of (congrFun (pieceA w) os)) ?_
  refine piece_app (segRun_of (congrFun (long7 w) os)) ?_
  refine piece_app (segRun_of (congrFun (long8 w) os)) ?_
  refine piece_app (segRun_of (congrFun (pieceB w) os)) ?_
  exact piece_nil (congrFun (finT w) os)
noncomputable abbrev XtQ (s : Shared) : Bool := xlAt viewQ [] s && recOk (RowW.records (PySem.Challenge.rw_iw0005_01).row.toRowW) s
theorem looks1 : ∀ w : World, (fun os => (staticsOk (importedModules pw.main.body) (boot_heap w.params) (Hf w.params) && namesBound pw (Hf w.params) && gensDone ⟨Hf w.params, Array.mk [], boot_drawn, 2431, os⟩ && laidKept (boot_heap w.params) (Hf w.params))) = fun _ => true := fun w => by kernel_rfl
theorem looks3 : ∀ w : World, (fun os => hookK.obs ⟨Hf w.params, Array.mk [], boot_drawn, 2431, os⟩) = fun _ => hookK.val w := fun w => by kernel_rfl
theorem looks2 : ∀ w : World, (fun os => openSeen viewQ looseQ (importedModules pw.main.body) XtQ true ⟨Hf w.params, Array.mk [], boot_drawn, 2431, os⟩) = fun _ => openGood viewQ looseQ := fun w => by kernel_rfl
end Mine
end
-- Hl2
noncomputable section
open PySem PySem.W PySem.Calls PyProof.Rows
set_option maxRecDepth 100000
set_option maxHeartbeats 0
set_option linter.unusedVariables false
namespace Mine

theorem impT (w : World) : (fun os => importEnds treeTable (opening pw) w 600 ⟨(start (opening pw)).1.heap, (start (opening pw)).1.gens, (start (opening pw)).1.drawn, (start (opening pw)).1.toks, os⟩ (start (opening pw)).2) = fun os => some ⟨boot_heap w.params, Array.mk [], boot_drawn, boot_toks, os⟩ := by kernel_rfl

theorem fenceT (w : World) : (fun os => (fenceModules? pw ⟨boot_heap w.params, Array.mk [], boot_drawn, boot_toks, os⟩).map (fun s => (s.heap, s.gens, s.drawn, s.toks))) = fun _ => some (boot_heap w.params, Array.mk [], boot_drawn, boot_toks) := by kernel_rfl
theorem openT : ∀ w : World, (fencedOpening treeTable pw w 30000).map (fun s => (s.heap, s.gens, s.drawn, s.toks)) = some (boot_heap w.params, Array.mk [], boot_drawn, boot_toks) :=
  open_cut (M := 600) (He := boot_heap) (ge := Array.mk []) (de := boot_drawn) (ke := boot_toks) (fun w => congrFun (impT w) (start (opening pw)).1.os) (by decide) fenceT
end Mine
end
-- Hl3
noncomputable section
open PySem PySem.W PySem.Calls PyProof.Rows
set_option maxRecDepth 100000
set_option maxHeartbeats 0
set_option linter.unusedVariables false
namespace Mine

theorem eq3 {α β γ : Type} {a a' : OsState → α} {b b' : OsState → β} {c c' : OsState → γ} (h1 : a = a') (h2 : b = b') (h3 : c = c') : (fun os => (a os, b os, c os)) = fun os => (a' os, b' os, c' os) := by subst h1; subst h2; subst h3; rfl
theorem looksT (w : World) : (fun os => ((staticsOk (importedModules pw.main.body) (boot_heap w.params) (Hf w.params) && namesBound pw (Hf w.params) && gensDone ⟨Hf w.params, Array.mk [], boot_drawn, 2431, os⟩ && laidKept (boot_heap w.params) (Hf w.params)),
        openSeen viewQ looseQ (importedModules pw.main.body) XtQ true ⟨Hf w.params, Array.mk [], boot_drawn, 2431, os⟩, hookK.obs ⟨Hf w.params, Array.mk [], boot_drawn, 2431, os⟩)) = fun _ => (true, openGood viewQ looseQ, hookK.val w) :=
  eq3 (looks1 w) (looks2 w) (looks3 w)
theorem sf_abs (w : World) (os : OsState) : (Sf w os).abs = ⟨Hf w.params, Array.mk [], boot_drawn, 2431, os⟩ := by kernel_rfl
noncomputable abbrev M9 : Nat := 12 + (1 + (170 + (13441 + (13441 + (600 + 2)))))
theorem runT9 (w : World) (os : OsState) : topRun treeTable pw w 11 annV M9 (S0 w os) (topStub pw) = some ⟨Hf w.params, Array.mk [], boot_drawn, 2431, os⟩ :=
  (runT w os).trans (congrArg some (sf_abs w os))

theorem leM : Nat.ble M9 30000 = true := by kernel_rfl
theorem leftT0 : LeftO pw viewQ looseQ XtQ hookK.obs hookK.val 30000 :=
  @LeftO.of_pieces pw viewQ looseQ XtQ hookK.α hookK.obs hookK.val 30000 true boot_heap Hf (Array.mk []) (Array.mk []) boot_drawn boot_drawn boot_toks 2431 11 annV M9 openT sizeT runT9 leM looksT
end Mine
end
-- Hl4
noncomputable section
open PySem PySem.W PySem.Calls PyProof.Rows
set_option maxRecDepth 100000
set_option maxHeartbeats 0
set_option linter.unusedVariables false
namespace Mine
@[reducible] noncomputable def lawD : DefRec := ⟨Str.ofString "law", fP26, fB26, fS26, ⟨173, 0, 209, 102⟩⟩
set_option maxHeartbeats 0 in
theorem hd (walk : WalkO viewQ looseQ (XL viewQ []) hookK.says (PySem.Challenge.rw_iw0005_01).row.toRowW lawD [] (fun f vs => PySem.call f vs)) : (PySem.Challenge.rw_iw0005_01).Holds := by
  o_law
  refine holds_open (q := viewQ) (loose := looseQ) (Xt := XtQ) (XP := XL viewQ []) (Yf := hookK.obs) (Ya := hookK.val) (YP := hookK.says) (N := 30000) leftT0 (Hook.of hookK) (Hook.keeps hookK) (fun s e => xl_of s (Bool.and_eq_true_iff.mp e).1) XL.keeps (by kernel_rfl) (by kernel_rfl) (by rfl) (fun s e => recFacts_of (Bool.and_eq_true_iff.mp e).2) (by rfl) (by first | assumption | decide +kernel) (by decide +kernel) ⟨rfl, rfl, rfl, rfl, rfl, by decide +kernel⟩ ?hw walk
  w_witness2
end Mine
end
-- C0
section
open PySem PySem.W PySem.Spec PySem.Calls PyProof.Rows
set_option maxRecDepth 100000
set_option maxHeartbeats 4000000
set_option linter.unusedVariables false
namespace Mine
theorem fill : (fun (_ : OpenLaw) (_ : Params → Frag) => True) PySem.Challenge.rw_iw0005_01 K := by k_fill; trivial
/-- what is new in the ledger lies above what was there -/
noncomputable def Above (new news : List (Addr × Obj)) : Prop := ∀ q ∈ new, ∀ p ∈ news, @LT.lt Nat _ p.1 q.1
/-- a call of f upon vs, from any frame of a def, any ledger: it comes back with an r and new objects of R, the frame and the ledger as they were -/
noncomputable def ConN (w : World) (D U : Nat) (f : Value) (vs : List Value) (news : List (Addr × Obj)) (R : Value → List (Addr × Obj) → Prop) : Prop :=
  ∀ (dp un : Nat) (gd : Option (List Code)) (cn : Str) (cs : Scope) (a : Addr) (ccd : Value) (cl : List (Str × Addr)) (outer : List Env) (A₀ : Around) (base h₀ : Heap) (L : Addr) (m : Str → Option Value) (s : Shared) (Q E : Value → Shared → Prop)
    (p : Program) (loose : List Str) (mean : ExcName → Option Value) (mg mb : Str → Option Value),
    Below A₀ base outer h₀ → Fr h₀ L s.heap m → (K w.params).In h₀ → News h₀ L s.heap news → Top p loose mean mg mb h₀ → cs.kind = .function → dp + D < recursionLimit → un + U < cLine →
    (∀ r new h' tk', R r new → Above new news → Fr h₀ L h' m → News h₀ L h' (new ++ news) → Q r { s with heap := h', toks := tk' }) →
    wpAny (model pw w) (ktrTop dp un gd cn cs L a ccd cl outer) (call f vs) Q E s
noncomputable abbrev Con (w : World) (D U : Nat) (f : Value) (vs : List Value) (news : List (Addr × Obj)) (R : Value → Prop) : Prop := ConN w D U f vs news fun r new => new = [] ∧ R r
noncomputable def flV : Flow → Value
  | .ret v => v
  | _ => .none
/-- the end of a def's body: what it hands back, its frame and its ledger -/
noncomputable def EndsN (g : Heap) (L' : Addr) (s₀ : Shared) (news : List (Addr × Obj)) (R : Value → List (Addr × Obj) → Prop) (fl : Flow) (s' : Shared) : Prop :=
  ∃ v h' tk m' news' new, flV fl = v ∧ s' = { s₀ with heap := h', toks := tk } ∧ R v new ∧ Above new news ∧ Fr g L' h' m' ∧ News g L' h' news' ∧ ∀ p ∈ new ++ news, p ∈ news'
noncomputable abbrev Ends (g : Heap) (L' : Addr) (s₀ : Shared) (news : List (Addr × Obj)) (R : Value → Prop) := EndsN g L' s₀ news fun r new => new = [] ∧ R r
theorem ends_ret {g : Heap} {L' : Addr} {s₀ : Shared} {news news' : List (Addr × Obj)} {R : Value → Prop} {v : Value} {h' : Heap} {tk : Nat} {m' : Str → Option Value} (F : Fr g L' h' m') (N : News g L' h' news') (hs : ∀ p ∈ news, p ∈ news') (r : R v) :
    EndsN g L' s₀ news (fun r new => new = [] ∧ R r) (.ret v) { s₀ with heap := h', toks := tk } := ⟨v, h', tk, m', news', [], rfl, rfl, ⟨rfl, r⟩, (fun _ h => nomatch h), F, N, hs⟩
theorem ends_new {g : Heap} {L' : Addr} {s₀ : Shared} {news news' : List (Addr × Obj)} {R : Value → List (Addr × Obj) → Prop} {v : Value} {h' : Heap} {tk : Nat} {m' : Str → Option Value} (new : List (Addr × Obj)) (F : Fr g L' h' m') (N : News g L' h' news') (hs : ∀ p ∈ new ++ news, p ∈ news') (ha : Above new news) (r : R v new) :
    EndsN g L' s₀ news R (.ret v) { s₀ with heap := h', toks := tk } := ⟨v, h', tk, m', news', new, rfl, rfl, r, ha, F, N, hs⟩
/-- the walk of a def's body -/
noncomputable def BodyN (w : World) (D U : Nat) (qual : Str) (scope : Scope) (f : Addr) (cdv : Value) (body : List Stmt) (binds : List (Str × Value)) (news : List (Addr × Obj)) (R : Value → List (Addr × Obj) → Prop) : Prop :=
  ∀ (dp un : Nat) (gd : Option (List Code)) (outer : List Env) (A₀ : Around) (base g : Heap) (L' : Addr) (h₁ : Heap) (tk : Nat) (s : Shared) (p : Program) (loose : List Str) (mean : ExcName → Option Value) (mg mb : Str → Option Value),
    Below A₀ base outer g → Fr g L' h₁ (fun y => binds.reverse.lookup y) → (K w.params).In g → News g L' h₁ news → Top p loose mean mg mb g → dp + D < recursionLimit → un + U < cLine →
    wpAny (model pw w) (ktrTop dp un gd qual scope L' f cdv [] outer) (execs body (envOf qual scope L' f cdv)) (EndsN g L' s news R) (fun _ _ => False) { s with heap := h₁, toks := tk }
theorem news_sub {h₀ h : Heap} {L : Addr} {news news' : List (Addr × Obj)} (N : News h₀ L h news') (hs : ∀ p ∈ news, p ∈ news') : News h₀ L h news := fun p hp => N p (hs p hp)
theorem con_of {w : World} {D U : Nat} {news : List (Addr × Obj)} {R : Value → List (Addr × Obj) → Prop} {name qual : Str} {params : Arguments} {body : List Stmt} {scope : Scope} {dV kV doc pm cdv ct oc : Value} {an od : Option Addr} {osl : Array (Option Value)} {f : Addr} {vs : List Value} {binds : List (Str × Value)}
    (ho : (K w.params).lookup f = some ⟨oc, od, .func (fnOf name qual params body scope dV kV doc pm an cdv ct), osl⟩) (hcd : codeIn (K w.params) cdv qual = true)
    (hbind : ∀ s : Shared, (K w.params).In s.heap → BindsTo s (fnOf name qual params body scope dV kV doc pm an cdv ct) ⟨vs, []⟩ binds) (hloc : ∀ y ∈ binds, scope.names.lookup y.1 = some .local)
    (hco : scope.isCoroutine = false) (hgen : scope.isGenerator = false) (hk : scope.kind = .function) (hcell : ∀ x ∈ scope.names, x.2 ≠ .cell)
    (hb : BodyN w D (U + 3) qual scope f cdv body binds news R) : ConN w (D + 1) (U + 6) (.ref f) vs news R := by
  intro dp un gd cn cs a ccd cl outer A₀ base h₀ L m s Q E p loose mean mg mb B F X N T hk' hd hu hret
  refine wpAny_call ?_
  refine code_def B F X N T rfl rfl hk' ho hcd (by show dp < recursionLimit; omega) (hbind s (X.keeps F.keep)) hloc (fun g L' h₁ FG F' N' B' X' T' => ?_) hco hgen hk hcell
  refine wpAny_mono (hb (dp + 1) (un + 3) gd (envX cn cs L a ccd cl :: outer) _ base g L' h₁ _ s p loose mean mg mb B' F' X' N' T' (by omega) (by omega)) (fun fl s' h => ?_) fun _ _ h => h.elim
  obtain ⟨v, h', tk, m', news', new, e, rfl, r, ha, Fz, Nz, hs⟩ := h
  cases fl <;> cases e <;> exact leaveK_ Fz (news_sub Nz hs) fun kF kN => hret _ new h' tk r ha kF kN
theorem use_con {w : World} {D U : Nat} {f : Value} {vs : List Value} {news : List (Addr × Obj)} {R : Value → List (Addr × Obj) → Prop} {dp un : Nat} {gd : Option (List Code)} {cn : Str} {cs : Scope} {a : Addr} {ccd : Value} {cl : List (Str × Addr)} {outer : List Env} {A₀ : Around} {base h₀ : Heap} {L : Addr} {m : Str → Option Value} {s : Shared} {Q E : Value → Shared → Prop}
    {p : Program} {loose : List Str} {mean : ExcName → Option Value} {mg mb : Str → Option Value} (C : ConN w D U f vs news R) (B : Below A₀ base outer h₀) (F : Fr h₀ L s.heap m) (X : (K w.params).In h₀) (N : News h₀ L s.heap news) (T : Top p loose mean mg mb h₀) (hk : cs.kind = .function) (hd : dp + D < recursionLimit) (hu : un + U < cLine)
    (h : ∀ r new h' tk', R r new → Above new news → Fr h₀ L h' m → News h₀ L h' (new ++ news) → Q r { s with heap := h', toks := tk' }) : wpAny (model pw w) (ktrTop dp un gd cn cs L a ccd cl outer) (call f vs) Q E s :=
  C dp un gd cn cs a ccd cl outer A₀ base h₀ L m s Q E p loose mean mg mb B F X N T hk hd hu h
end Mine
end
-- R1
section
open PySem PySem.W PySem.Spec PySem.Calls PyProof.Rows
set_option maxRecDepth 100000
set_option maxHeartbeats 4000000
set_option linter.unusedVariables false
namespace Mine
/-- the number that octets write, the first the greatest -/
noncomputable def be (l : List UInt8) : Nat := l.foldl (fun (a : Nat) (b : UInt8) => a * 256 + b.toNat) 0
/-- a number's k octets -/
noncomputable def tob (k x : Nat) : List UInt8 := (KTBy.low (x : Int) k).reverse
theorem tob_length (k x : Nat) : (tob k x).length = k := by unfold tob; rw [List.length_reverse, KTBy.low_length]
theorem be_lt (l : List UInt8) : be l < 256 ^ l.length := by
  have h := KFB.fold_lt l 0
  rw [Nat.zero_add, Nat.one_mul] at h
  exact h
section
variable {prog : Program} {w : World} {M : Model} {A : Around} {E : Value → Shared → Prop} {s : Shared} {b c : List UInt8} {t u v : Tok}
theorem if_no {α : Type} {c : Bool} {a b : Sem α} {Q : α → Shared → Prop} (hc : c = false) (h : wpAny M A b Q E s) : wpAny M A (if c = true then a else b) Q E s := by subst hc; exact h
theorem if_ye {α : Type} {c : Bool} {a b : Sem α} {Q : α → Shared → Prop} (hc : c = true) (h : wpAny M A a Q E s) : wpAny M A (if c = true then a else b) Q E s := by subst hc; exact h
theorem r_add {Q : Value → Shared → Prop} (hl : b.length + c.length ≤ 16777216) (h : ∀ t' k, Q (.bytes (b ++ c).toArray t') { s with toks := k }) : wpAny (model prog w) A (binaryOp .Add (.bytes b.toArray t) (.bytes c.toArray u)) Q E s :=
  KBy.add_bytes (by simpa using hl) fun t' k => by
    have := h t' k
    rwa [← List.append_toArray] at this
theorem grown {n : Nat} {Q : Value → Shared → Prop} (hn : n < 2 ^ 134217728) (h : Q (.int (n : Int) s.toks) { s with toks := s.toks + 1 }) : wpAny M A (mkIntGrown (n : Int)) Q E s := by
  unfold mkIntGrown
  have hl : ¬ ((n : Int).natAbs.log2 ≥ bitsLine) := by
    rw [Int.natAbs_natCast]
    have hb : bitsLine = 134217728 := by rfl
    by_cases hz : n = 0
    · subst hz; rw [hb]; decide
    · have h1 := (Nat.log2_lt hz).mpr hn
      omega
  rw [if_neg hl]
  exact wpAny_mkInt h
theorem tree_from {P : Fin → Shared → Prop} (hl : b.length ≤ 1048576) (h : P (.done (.ret (.int (be b : Int) s.toks))) { s with toks := s.toks + 1 }) :
    wpAny M A (Builtin.«int.from_bytes» ⟨[.type "int", .bytes b.toArray t, .str (PySem.Str.ofString "big") u], []⟩) P E s := by
  have hn : be b < 2 ^ 134217728 := by
    have h1 := be_lt b
    have h2 : 256 ^ b.length ≤ 2 ^ 134217728 := by
      rw [show (256 : Nat) = 2 ^ 8 from rfl, ← Nat.pow_mul]
      exact Nat.pow_le_pow_right (by decide) (by omega)
    exact Nat.lt_of_lt_of_le h1 h2
  unfold Builtin.«int.from_bytes»
  refine wpAny_bind (wpAny_of_eq (a := true) KFB.type_int ?_)
  refine if_no rfl ?_
  refine wpAny_bind (wpAny_of_eq (a := true) F.conv_sub_int ?_)
  refine if_no rfl ?_
  refine wpAny_bind (wpAny_of_eq (a := [some (.bytes b.toArray t), some (.str (PySem.Str.ofString "big") u), none]) (by kernel_rfl) ?_)
  refine wpAny_bind (wpAny_of_eq (a := PySem.Str.ofString "big") (by kernel_rfl) ?_)
  refine wpAny_bind (wpAny_of_eq (a := false) rfl ?_)
  refine wpAny_bind (wpAny_of_eq (a := false) (by kernel_rfl) ?_)
  refine wpAny_bind (wpAny_of_eq (a := b.toArray) rfl ?_)
  show wpAny _ _ (mkIntGrown (b.foldl (fun (acc : Int) (b : UInt8) => acc * 256 + (b.toNat : Int)) ((0 : Nat) : Int)) >>= fun v => _) _ _ _
  rw [KFB.foldI_eq]
  refine wpAny_bind (grown hn ?_)
  refine if_ye (by decide +kernel) ?_
  exact wpAny_bind (wpAny_pure (wpAny_pure h))
theorem r_from {h₀ : Heap} {L : Addr} {news : List (Addr × Obj)} {x : Addr} {Q : Value → Shared → Prop} (N : News h₀ L s.heap news) (hm : (x, KFB.bound) ∈ news) (hl : b.length ≤ 1048576)
    (h : ∀ t' k, Q (.int (be b : Int) t') { s with toks := k }) : wpAny (model prog w) A (call (.ref x) [.bytes b.toArray t, .str (PySem.Str.ofString "big") u]) Q E s :=
  KFB.call_of (KFB.at_of N hm) (fun z => tree_from hl z) (h _ _)
theorem bits_lt {x k : Nat} (hx : x < 256 ^ k) : Builtin.Int.intBits (x : Int) ≤ 8 * k := KTBy.bits_le (B := ((256 ^ k : Nat) : Int)) (KTBy.p256 k) (by omega) (by exact_mod_cast hx)
theorem r_to {x k : Nat} {Q : Value → Shared → Prop} (hk : k ≤ 1048576) (hx : x < 256 ^ k) (h : ∀ t' k', Q (.bytes (tob k x).toArray t') { s with toks := k' }) :
    wpAny (model prog w) A (call (.builtin "int.to_bytes") [.int (x : Int) t, .int (k : Int) u, .str (PySem.Str.ofString "big") v]) Q E s := by
  refine wpAny_call_entry KTBy.slot (typeIs_int s (x : Int) t) KTBy.entry ?_ (KTBy.args _ _ _)
  have hb := bits_lt hx
  have h0 : ¬ ((x : Int) < 0) := by omega
  show wpAny _ _ (Builtin.Int.intOfSelf (.int (x : Int) t) >>= fun y => _) _ _ s
  refine wpAny_bind (wpAny_of_eq (a := (x : Int)) rfl ?_)
  show wpAny _ _ (Builtin.Int.intBindNamed "to_bytes" ["length", "byteorder", "signed"] 0 2 [.int (k : Int) u, .str (PySem.Str.ofString "big") v] [] >>= fun l => _) _ _ s
  refine wpAny_bind (wpAny_of_eq (a := [some (.int (k : Int) u), some (.str (PySem.Str.ofString "big") v), none]) (by kernel_rfl) ?_)
  show wpAny _ _ (Builtin.Int.intIndex "int.to_bytes" (.int (k : Int) u) >>= fun n => _) _ _ s
  refine wpAny_bind (wpAny_of_eq (a := (k : Int)) rfl ?_)
  refine if_no (by show (decide ((k : Int) < -(2 ^ 63 : Int)) || decide ((k : Int) ≥ 2 ^ 63)) = false; rw [decide_eq_false (show ¬ ((k : Int) < -(2 ^ 63 : Int)) by omega), decide_eq_false (show ¬ ((k : Int) ≥ 2 ^ 63) by omega)]; rfl) ?_
  refine wpAny_bind (wpAny_of_eq (a := PySem.Str.ofString "big") (by kernel_rfl) ?_)
  refine wpAny_bind (wpAny_of_eq (a := false) rfl ?_)
  refine wpAny_bind (wpAny_of_eq (a := false) (by kernel_rfl) ?_)
  refine wpAny_ite_false (decide_eq_false (show ¬ ((k : Int) < 0) by omega)) ?_
  refine wpAny_ite_false (decide_eq_false (show ¬ ((k : Int) > 2 ^ 63 - 1 - 33) by omega)) ?_
  refine wpAny_ite_false (decide_eq_false (show ¬ ((k : Int) > (sizeLine : Int)) by rw [sizeLine_eq]; omega)) ?_
  refine if_no (by show (decide ((x : Int) < 0) && !false) = false; rw [decide_eq_false h0]; rfl) ?_
  refine if_no (by show (_ && decide ((Builtin.Int.intBits (x : Int) : Int) > 8 * (k : Int))) = false; rw [decide_eq_false (show ¬ ((Builtin.Int.intBits (x : Int) : Int) > 8 * (k : Int)) by omega), Bool.and_false]) ?_
  exact wpAny_bind (wpAny_mkBytes (wpAny_pure ⟨_, rfl, h _ _⟩) (by show (List.reverse (KTBy.low (x : Int) (Int.toNat (k : Int)))).length ≤ sizeLine; rw [List.length_reverse, KTBy.low_length, Int.toNat_natCast, sizeLine_eq]; omega))
end
end Mine
end
-- R2
section
open PySem PySem.W PySem.Spec PySem.Calls PyProof.Rows PyProof.Rows.LCg
set_option maxRecDepth 100000
set_option maxHeartbeats 4000000
set_option linter.unusedVariables false
namespace Mine
/-- a comprehension's items, one word an item -/
noncomputable def Each (n : Nat) (Y : Nat → Value → Prop) (ys : List Value) : Prop := ys.length = n ∧ ∀ i v, ys[i]? = some v → Y i v
section
variable {prog : Program} {w : World} {A : Around} {E : Value → Shared → Prop} {s : Shared} {h₀ : Heap} {L : Addr} {m : Str → Option Value} {env : Env}
/-- the comprehension's turns: each item's word, the ledger as it was -/
theorem comp_rest {elt : PySem.Expr} {x : Str} {scope : Scope} {cl : List (Str × Addr)} {S : List (Addr × Obj) → Prop} {P : Nat → Value → Prop} {Fin : List Value → List (Addr × Obj) → Prop} {news : List (Addr × Obj)} {n : Nat} (Y : Nat → Value → Prop)
    (turn : ∀ i v I oI C oC D oD m₂ h tk (E' : Value → Shared → Prop), i < n → P i v → NsObj oC m₂ → m₂ x = some v → Fr h₀ L h m → News h₀ L h ((I, oI) :: (C, oC) :: (D, oD) :: news) → Off3 I C D news → ((@Ne Nat I C) ∧ (@Ne Nat I D) ∧ (@Ne Nat C D)) → S news →
      wpAny (model prog w) A (eval elt (compEnvC scope cl C env)) (fun y s₂ => ∃ h' tk', s₂ = { s with heap := h', toks := tk' } ∧ Fr h₀ L h' m ∧ News h₀ L h' ((I, oI) :: (C, oC) :: (D, oD) :: news) ∧ Y i y) E' { s with heap := h, toks := tk })
    (hS : S news) (fin : ∀ ys, Each n Y ys → Fin ys news) : CompRest prog w A h₀ L m env elt x scope cl s S P Fin n 0 [] news := by
  have key : ∀ (j i : Nat) (ys : List Value), i + j = n → Each i Y ys → CompRest prog w A h₀ L m env elt x scope cl s S P Fin j i ys news := by
    intro j
    induction j with
    | zero =>
      intro i ys hi hy
      have e : i = n := by omega
      subst e
      exact CompRest.zero (fin ys hy)
    | succ j ih =>
      intro i ys hi hy
      refine CompRest.succ ?_
      intro v I oI C oC D m₂ h tk E' hv hC hx F N off ne
      refine wpAny_mono (turn i v I oI C oC D (lst ys) m₂ h tk E' (by omega) hv hC hx F N off ne hS) (fun y s₂ hq => ?_) fun _ _ e => e
      obtain ⟨h', tk', rfl, F', N', hy'⟩ := hq
      refine ⟨h', tk', news, rfl, F', N', off, hS, ih (i + 1) _ (by omega) ⟨by rw [List.length_append, hy.1]; rfl, fun k v' hk => ?_⟩⟩
      by_cases hlt : k < i
      · rw [List.getElem?_append_left (by rw [hy.1]; exact hlt)] at hk
        exact hy.2 k v' hk
      · rw [List.getElem?_append_right (by rw [hy.1]; omega), hy.1] at hk
        obtain rfl : k = i := by
          by_cases e : k = i
          · exact e
          · have : k - i ≥ 1 := by omega
            rw [List.getElem?_eq_none (by simpa using this)] at hk; cases hk
        simp at hk
        subst hk
        exact hy'
  exact key n 0 [] (by omega) ⟨rfl, fun i v h => by simp at h⟩
/-- the octets as a comprehension's source -/
noncomputable def CompB (prog : Program) (w : World) (A : Around) (h₀ : Heap) (L : Addr) (m : Str → Option Value) (env : Env) (elt : PySem.Expr) (x : Str) (scope : Scope) (cl : List (Str × Addr)) (Fin : Shared → List Value → List (Addr × Obj) → Prop) (xv : Value) (s₁ : Shared) : Prop :=
  ∃ (b : List UInt8) (tb : Tok) (news : List (Addr × Obj)), xv = .bytes b.toArray tb ∧ A.handled = none ∧ Fr h₀ L s₁.heap m ∧ News h₀ L s₁.heap news ∧ b.length ≤ sizeLine ∧
    ∀ g, CompRest prog w A h₀ L m env elt x scope cl { s₁ with heap := g } (fun _ => True) (fun i v => ∃ c u, b[i]? = some c ∧ v = .int (c.toNat : Int) u) (Fin { s₁ with heap := g }) b.length 0 [] news
theorem bytes_st {b : Array UInt8} {t : Tok} {I : Addr} : ∀ i (h h' : Heap) (o : Obj) (nw : List (Addr × Obj)), KBw.IsBytesIter h I b t i → h.get? I = some o → h'.get? I = some o → (∀ b o, h₀.get? b = some o → h'.get? b = some o) → News h₀ L h' nw → True → KBw.IsBytesIter h' I b t i :=
  fun i h h' o nw st e e' _ _ _ => by obtain ⟨o', q, r⟩ := st; rw [e] at q; cases q; exact ⟨o, e', r⟩
theorem walks_b (hh : A.handled = none) (I : Addr) (b : List UInt8) (t : Tok) : Walks prog w A I [I] [I] b.length (fun i v => ∃ c u, b[i]? = some c ∧ v = .int (c.toNat : Int) u) (fun i h => KBw.IsBytesIter h I b.toArray t i) := by
  have W := KBw.walks (prog := prog) (w := w) hh I b.toArray t
  exact { sub := W.sub, frame := W.frame, self := W.self,
          item := fun i s Q E hi st hQ => W.item i s Q E (by simpa using hi) st fun v h' tk hP => hQ v h' tk (by obtain ⟨c, u, a, b⟩ := hP; exact ⟨c, u, by simpa using a, b⟩),
          done := fun s Q E st hQ => W.done s Q E (by simpa using st) hQ }
theorem listComp_b {elt iter : PySem.Expr} {x : Str} {px : Pos} {scope : Scope} {cl : List (Str × Addr)} {pos : Pos} {Q : Value → Shared → Prop} (F₀ : Fr h₀ L s.heap m)
    (hclos : closureFor scope env = pure cl) (hcell : ∀ y ∈ scope.names, y.2 ≠ .cell) (hkind : scope.kind = .function)
    (hnames : ∀ y ∈ scope.names, y.2 = .local → scope.names.lookup y.1 = some .local) (hx : scope.names.lookup x = some .local)
    (h : wpAny (model prog w) A (eval iter env) (CompB prog w A h₀ L m env elt x scope cl (fun s₂ => FinE h₀ L m s₂ Q)) E s)
    (hs : ∀ x, foldedSetIterable iter env x = pure x := by intro _; rfl) :
    wpAny (model prog w) A (eval (.ListComp elt [⟨.Name x px, iter, [], 0⟩] scope pos) env) Q E s := by
  rw [eval_ListComp]
  refine wpAny_comprehension_free (use := none) rfl hs hclos hkind hnames (wpAny_mono h (fun xv s₁ h₁ => ?_) fun _ _ e => e)
  obtain ⟨b, tb, news, rfl, hh, F, N, hsz, R⟩ := h₁
  refine KBw.pyIter_bytes ?_
  refine block_U (walks_b hh s₁.heap.objs.size b tb) hsz (fun i h st => by obtain ⟨o, e, _⟩ := st; exact ⟨o, e⟩) bytes_st hcell hkind hx ⟨_, Heap.get?_push_size _ rfl, rfl, rfl⟩ (fun b hb => ?_)
    (F.keeps fun _ _ e => Heap.get?_push_of_some _ e) (N.grown fun _ _ e => Heap.get?_push_of_some _ e) (Nat.ne_of_lt F.ns.lt) (next_is_new F) (fun p hp => Nat.ne_of_lt (Heap.lt_size (N p hp).1)) trivial (R _) ?_
  · rw [List.mem_singleton.mp hb]
    show s₁.heap.objs.size < (s₁.heap.push _).objs.size
    rw [Heap.size_push]; exact Nat.lt_succ_self _
  · intro D C h tk m' ys news' F' N' o1 hn hC₀ hD₀ hCL hDL hCD offC fin
    refine ⟨m', hn, fun h'' hs'' => fin D h'' tk (F'.change hs'' hCL hC₀) (fun p hp => ?_) o1⟩
    refine ⟨hs''.extBut _ _ ?_ (N' p hp).1, (N' p hp).2⟩
    rcases List.mem_cons.mp hp with rfl | hp
    · exact Ne.symm hCD
    · exact offC p hp
theorem assign_comp_b {elt iter : PySem.Expr} {x y : Str} {px py : Pos} {scope : Scope} {cl : List (Str × Addr)} {pos spos : Pos} {Q : Flow → Shared → Prop} (F₀ : Fr h₀ L s.heap m) (hLe : env.locals = L)
    (hsw : swapsWith (.ListComp elt [⟨.Name x px, iter, [], 0⟩] scope pos) (some (.Name y py)) spos.line env = pure true)
    (hclos : closureFor scope env = pure cl) (hcell : ∀ z ∈ scope.names, z.2 ≠ .cell) (hkind : scope.kind = .function)
    (hnames : ∀ z ∈ scope.names, z.2 = .local → scope.names.lookup z.1 = some .local) (hx : scope.names.lookup x = some .local)
    (hy : env.kindOf y = some .local) (hp : (env.scope.kind == .class || (env.scope.kind == .module && env.locals != env.globals)) = false)
    (h : wpAny (model prog w) A (eval iter env) (CompB prog w A h₀ L m env elt x scope cl (fun s₂ => FinA h₀ L m s₂ y Q)) E s)
    (hs : ∀ x, foldedSetIterable iter env x = pure x := by intro _; rfl) :
    wpAny (model prog w) A (exec (.Assign [.Name y py] (.ListComp elt [⟨.Name x px, iter, [], 0⟩] scope pos) spos) env) Q E s := by
  subst hLe
  rw [exec_Assign_Name_used _ _ _ _ hsw]
  refine wpAny_bind (wpAny_standAt (wpAny_bind ?_))
  show wpAny _ A (do let _ ← comprehension (.ListComp elt [⟨.Name x px, iter, [], 0⟩] scope pos) scope env _ (newList []) false (eval iter env) (some (assign (.Name y py) env))) _ _ s
  refine wpAny_bind (wpAny_mono (wpAny_comprehension_free (use := some (assign (.Name y py) env)) (Q := fun _ s' => Q .next s') rfl hs hclos hkind hnames
    (wpAny_mono h (fun xv s₁ h₁ => ?_) fun _ _ e => e)) (fun _ s' hq => wpAny_pure (wpAny_pure hq)) fun _ _ e => e)
  obtain ⟨b, tb, news, rfl, hh, F, N, hsz, R⟩ := h₁
  refine KBw.pyIter_bytes ?_
  refine block_U (walks_b hh s₁.heap.objs.size b tb) hsz (fun i h st => by obtain ⟨o, e, _⟩ := st; exact ⟨o, e⟩) bytes_st hcell hkind hx ⟨_, Heap.get?_push_size _ rfl, rfl, rfl⟩ (fun b hb => ?_)
    (F.keeps fun _ _ e => Heap.get?_push_of_some _ e) (N.grown fun _ _ e => Heap.get?_push_of_some _ e) (Nat.ne_of_lt F.ns.lt) (next_is_new F) (fun p hp => Nat.ne_of_lt (Heap.lt_size (N p hp).1)) trivial (R _) ?_
  · rw [List.mem_singleton.mp hb]
    show s₁.heap.objs.size < (s₁.heap.push _).objs.size
    rw [Heap.size_push]; exact Nat.lt_succ_self _
  · intro D C h' tk m' ys news' F' N' o1 hn hC₀ hD₀ hCL hDL hCD offC fin
    show wpAny _ A (assign (.Name y py) env (.ref D)) _ _ _
    refine wpAny_assign_Name (wpAny_storeName_local hy F'.ns (fun h₂ hn₂ hs₂ => ?_) hp)
    have hL₀ : h₀.get? env.locals = none := Heap.get?_none_of_le F'.above
    have F₂ : Fr h₀ env.locals h₂ (fun z => if z = y then some (.ref D) else m z) := ⟨hn₂, fun b o e => hs₂.extBut b o (fun q => by rw [q, hL₀] at e; cases e) (F'.keep b o e), F'.above⟩
    refine ⟨m', hn.sameBut hs₂ hCL, fun h'' hs'' => fin D h'' _ (F₂.change hs'' hCL hC₀) (fun p hp => ?_) o1⟩
    have z : h₂.get? p.1 = some p.2 := hs₂.extBut _ _ (N' p hp).2.1 (N' p hp).1
    refine ⟨hs''.extBut _ _ ?_ z, (N' p hp).2⟩
    rcases List.mem_cons.mp hp with rfl | hp
    · exact Ne.symm hCD
    · exact offC p hp
/-- the end of an item's evaluation -/
noncomputable def EltEnd (h₀ : Heap) (L : Addr) (m : Str → Option Value) (s : Shared) (led : List (Addr × Obj)) (Y : Value → Prop) (y : Value) (s₂ : Shared) : Prop :=
  ∃ h' tk', s₂ = { s with heap := h', toks := tk' } ∧ Fr h₀ L h' m ∧ News h₀ L h' led ∧ Y y
theorem elt_end {led all : List (Addr × Obj)} {Y : Value → Prop} {y : Value} {h' : Heap} {tk' : Nat} (F : Fr h₀ L h' m) (N : News h₀ L h' all) (hs : ∀ p ∈ led, p ∈ all) (hy : Y y) : EltEnd h₀ L m s led Y y { s with heap := h', toks := tk' } :=
  ⟨h', tk', rfl, F, fun p hp => N p (hs p hp), hy⟩
noncomputable abbrev oct (c : UInt8) : Int := (c.toNat : Int)
theorem ints_of_each {l : List Int} {ys : List Value} (h : Each l.length (fun i v => ∃ n t, l[i]? = some n ∧ v = .int n t) ys) : IntsAre ys l := by
  obtain ⟨hl, h⟩ := h
  induction l generalizing ys with
  | nil => cases ys with
    | nil => exact .nil
    | cons _ _ => simp at hl
  | cons n l ih => cases ys with
    | nil => simp at hl
    | cons v ys =>
      obtain ⟨n', t, e1, rfl⟩ := h 0 v rfl
      cases e1
      exact .cons n t (ih (by simpa using hl) fun i v hv => h (i + 1) v (by simpa using hv))
section
variable {elt : PySem.Expr} {x : Str} {scope : Scope} {cl : List (Str × Addr)} {news : List (Addr × Obj)} {Fin : Shared → List Value → List (Addr × Obj) → Prop} {s₁ : Shared}
/-- octets to ints, by a function -/
theorem comp_bi (f : UInt8 → Int) {b : List UInt8} {tb : Tok} (hh : A.handled = none) (F : Fr h₀ L s₁.heap m) (N : News h₀ L s₁.heap news) (hsz : b.length ≤ sizeLine)
    (turn : ∀ c t I oI C oC D oD m₂ h tk (E' : Value → Shared → Prop), c ∈ b → NsObj oC m₂ → m₂ x = some (.int (c.toNat : Int) t) → Fr h₀ L h m → News h₀ L h ((I, oI) :: (C, oC) :: (D, oD) :: news) → Off3 I C D news → ((@Ne Nat I C) ∧ (@Ne Nat I D) ∧ (@Ne Nat C D)) →
      wpAny (model prog w) A (eval elt (compEnvC scope cl C env)) (EltEnd h₀ L m { s₁ with heap := h, toks := tk } ((I, oI) :: (C, oC) :: (D, oD) :: news) (fun y => ∃ t, y = .int (f c) t)) E' { s₁ with heap := h, toks := tk })
    (fin : ∀ g ys, IntsAre ys (b.map f) → Fin { s₁ with heap := g } ys news) : CompB prog w A h₀ L m env elt x scope cl Fin (.bytes b.toArray tb) s₁ := by
  refine ⟨b, tb, news, rfl, hh, F, N, hsz, fun g => comp_rest (fun i v => ∃ n t, (b.map f)[i]? = some n ∧ v = .int n t) ?_ trivial fun ys hy => fin g ys (ints_of_each (by rw [List.length_map]; exact hy))⟩
  rintro i v I oI C oC D oD m₂ h tk E' hi ⟨c, u, hc, rfl⟩ hC hx F' N' off ne _
  refine wpAny_mono (turn c u I oI C oC D oD m₂ h tk E' (List.mem_of_getElem? hc) hC hx F' N' off ne) (fun y s₂ hq => ?_) fun _ _ e => e
  obtain ⟨h', tk', rfl, F2, N2, t, rfl⟩ := hq
  exact ⟨h', tk', rfl, F2, N2, f c, t, by simp [hc], rfl⟩
/-- a made list's ints to ints, by a function -/
theorem comp_li (f : Int → Int) {l : Addr} {vs : List Value} {k : Nat} {ns : List Int} (hh : A.handled = none) (F : Fr h₀ L s₁.heap m) (N : News h₀ L s₁.heap news) (hm : (l, ({ cls := .type "list", data := .seq vs.toArray k } : Obj)) ∈ news) (hi : IntsAre vs ns) (hsz : ns.length ≤ sizeLine)
    (turn : ∀ n t I oI C oC D oD m₂ h tk (E' : Value → Shared → Prop), n ∈ ns → NsObj oC m₂ → m₂ x = some (.int n t) → Fr h₀ L h m → News h₀ L h ((I, oI) :: (C, oC) :: (D, oD) :: news) → Off3 I C D news → ((@Ne Nat I C) ∧ (@Ne Nat I D) ∧ (@Ne Nat C D)) →
      wpAny (model prog w) A (eval elt (compEnvC scope cl C env)) (EltEnd h₀ L m { s₁ with heap := h, toks := tk } ((I, oI) :: (C, oC) :: (D, oD) :: news) (fun y => ∃ t, y = .int (f n) t)) E' { s₁ with heap := h, toks := tk })
    (fin : ∀ g ys, IntsAre ys (ns.map f) → Fin { s₁ with heap := g } ys news) : CompSrc prog w A h₀ L m env elt x scope cl Fin (.ref l) s₁ := by
  have hlen : vs.toArray.size = ns.length := by rw [List.size_toArray]; exact hi.length
  refine CompSrc.ledger hh F N hm (by rw [hlen]; exact hsz) fun g => ?_
  rw [hlen]
  refine comp_rest (fun i v => ∃ n t, (ns.map f)[i]? = some n ∧ v = .int n t) ?_ (.inr ⟨_, hm, rfl, _, rfl⟩) fun ys hy => fin g ys (ints_of_each (by rw [List.length_map]; exact hy))
  intro i v I oI C oC D oD m₂ h tk E' hi' hv hC hx F' N' off ne _
  obtain ⟨n, t, rfl, hn⟩ := IntsAre.at hi i v (by simpa using hv)
  refine wpAny_mono (turn n t I oI C oC D oD m₂ h tk E' (List.mem_of_getElem? hn) hC hx F' N' off ne) (fun y s₂ hq => ?_) fun _ _ e => e
  obtain ⟨h', tk', rfl, F2, N2, t, rfl⟩ := hq
  exact ⟨h', tk', rfl, F2, N2, f n, t, by simp [hn], rfl⟩
/-- a range's ints to values -/
theorem comp_ri (f : Nat → Int) {r : Addr} {b : Int} {t u v : Tok} {n : Nat} (hh : A.handled = none) (F : Fr h₀ L s₁.heap m) (N : News h₀ L s₁.heap news) (hr : IsRange s₁.heap r 0 b 1 t u v) (hb : b = (n : Int)) (hsz : n ≤ sizeLine)
    (turn : ∀ (i : Nat) t I oI C oC D oD m₂ h tk (E' : Value → Shared → Prop), i < n → NsObj oC m₂ → m₂ x = some (.int (i : Int) t) → Fr h₀ L h m → News h₀ L h ((I, oI) :: (C, oC) :: (D, oD) :: news) → Off3 I C D news → ((@Ne Nat I C) ∧ (@Ne Nat I D) ∧ (@Ne Nat C D)) →
      wpAny (model prog w) A (eval elt (compEnvC scope cl C env)) (EltEnd h₀ L m { s₁ with heap := h, toks := tk } ((I, oI) :: (C, oC) :: (D, oD) :: news) (fun y => ∃ t, y = .int (f i) t)) E' { s₁ with heap := h, toks := tk })
    (fin : ∀ g ys, IntsAre ys ((List.range n).map f) → Fin { s₁ with heap := g } ys news) : CompSrc prog w A h₀ L m env elt x scope cl Fin (.ref r) s₁ := by
  subst hb
  have hz : n ≤ 16777216 := by have := hsz; rw [sizeLine_eq] at this; exact this
  refine CompSrc.range (n := n) hh F N hr (small_one (by omega) (by omega) (by omega) (by omega)) (by have := rangeSize_nat 0 n; simpa using this) hsz fun g => ?_
  refine comp_rest (fun i v => ∃ n' t, ((List.range n).map f)[i]? = some n' ∧ v = .int n' t) ?_ trivial fun ys hy => fin g ys (ints_of_each (by rw [List.length_map, List.length_range]; exact hy))
  rintro i v I oI C oC D oD m₂ h tk E' hi ⟨t, rfl⟩ hC hx F' N' off ne _
  rw [Int.zero_add] at hx
  refine wpAny_mono (turn i t I oI C oC D oD m₂ h tk E' hi hC hx F' N' off ne) (fun y s₂ hq => ?_) fun _ _ e => e
  obtain ⟨h', tk', rfl, F2, N2, t, rfl⟩ := hq
  exact ⟨h', tk', rfl, F2, N2, f i, t, by simp [hi], rfl⟩
end
theorem byteArr_oct (l : List UInt8) : byteArr (l.map oct) = l.toArray := by
  unfold byteArr
  rw [List.map_map]
  congr 1
  rw [show ((fun n : Int => n.toNat.toUInt8) ∘ oct) = id from funext fun c => by simp [oct]]
  exact List.map_id l
theorem r_bytes {l : Addr} {ys : List Value} {k : Nat} {os : List UInt8} {ns : List Int} {news : List (Addr × Obj)} {Q : Value → Shared → Prop} (hh : A.handled = none) (F : Fr h₀ L s.heap m) (N : News h₀ L s.heap news) (hm : (l, ({ cls := .type "list", data := .seq ys.toArray k } : Obj)) ∈ news)
    (hi : IntsAre ys ns) (hn : ns = os.map oct) (hz : os.length ≤ sizeLine) (h : ∀ h' t' k', Fr h₀ L h' m → News h₀ L h' news → Q (.bytes os.toArray t') { s with heap := h', toks := k' }) : wpAny (model prog w) A (call (.type "bytes") [.ref l]) Q E s := by
  subst hn
  have hl : s.heap.IsList l ys.toArray := ⟨_, (N _ hm).1, rfl, k, rfl⟩
  refine call_bytes_ints hl hi (fun n hn => ?_) (by rw [hi.length, List.length_map]; exact hz) hh fun h' t k' hk => ?_
  · obtain ⟨c, _, rfl⟩ := List.mem_map.mp hn
    have := c.toNat_lt
    exact ⟨by show (0 : Int) ≤ (c.toNat : Int); omega, by show (c.toNat : Int) < 256; omega⟩
  · rw [byteArr_oct]
    exact h h' t k' (F.keeps hk) (N.grown hk)
end
end Mine
end
-- M1
section
open PySem PySem.W
set_option linter.unusedVariables false
namespace Mine
theorem xor_and (a b : Nat) : (a ^^^ b) + 2 * (a &&& b) = a + b := by
  induction a using Nat.strongRecOn generalizing b with
  | ind a ih =>
    by_cases ha : a = 0
    · subst ha; simp
    · have h := ih (a / 2) (by omega) (b / 2)
      have e1 : (a ^^^ b) / 2 = a / 2 ^^^ b / 2 := Nat.xor_div_two
      have e2 : (a &&& b) / 2 = a / 2 &&& b / 2 := Nat.and_div_two
      have m1 : ((a ^^^ b) % 2 = 1) ↔ ¬ ((a % 2 = 1) ↔ (b % 2 = 1)) := Nat.xor_mod_two_eq_one
      have m2 : ((a &&& b) % 2 = 1) ↔ (a % 2 = 1 ∧ b % 2 = 1) := Nat.and_mod_two_eq_one
      rw [← e1, ← e2] at h
      generalize a / 2 ^^^ b / 2 = X' at *
      generalize a / 2 &&& b / 2 = Y' at *
      generalize a ^^^ b = X at *
      generalize a &&& b = Y at *
      omega
theorem bitAnd_nat (a b : Nat) : Builtin.bitAnd (a : Int) (b : Int) = ((a &&& b : Nat) : Int) := by
  first
    | rfl
    | (unfold Builtin.bitAnd; rfl)
    | (unfold Builtin.bitAnd; simp)
theorem bitXor_nat (a b : Nat) : Builtin.bitXor (a : Int) (b : Int) = ((a ^^^ b : Nat) : Int) := by
  rw [PyProof.Rows.bitXor_and, bitAnd_nat]
  have := xor_and a b
  omega
theorem xor_oct (a b : UInt8) : Builtin.bitXor (oct a) (oct b) = oct (a ^^^ b) := by
  unfold oct
  rw [bitXor_nat, UInt8.toNat_xor]
theorem xor_list (l : List UInt8) (n : Nat) (k : UInt8) : (l.map oct ++ List.replicate n 0).map (fun x => Builtin.bitXor x (oct k)) = ((l ++ List.replicate n 0).map (· ^^^ k)).map oct := by
  rw [show (l.map oct ++ List.replicate n (0 : Int)) = (l ++ List.replicate n 0).map oct from by rw [List.map_append, List.map_replicate]; rfl, List.map_map, List.map_map]
  exact List.map_congr_left fun c _ => xor_oct c k
end Mine
end
-- C1
section
open PySem PySem.W PySem.Spec PySem.Calls PyProof.Rows
set_option maxRecDepth 100000
set_option maxHeartbeats 4000000
set_option linter.unusedVariables false
namespace Mine
theorem fill1 : (fun (_ : OpenLaw) (_ : Params → Frag) => True) PySem.Challenge.rw_iw0005_01 K := by k_fill; trivial
noncomputable abbrev BIG : Nat := 3879462223309917287578862680008231480301264909000893428305
/-- the law's own hash, as a function -/
noncomputable def hsh (size : Nat) (l : List UInt8) : List UInt8 := tob size ((be (1 :: l) * BIG + l.length) % (256 ^ size - 59))
theorem hsh_length (size : Nat) (l : List UInt8) : (hsh size l).length = size := tob_length _ _
section
variable {prog : Program} {w : World} {A : Around} {E : Value → Shared → Prop} {s : Shared} {t u : Tok} {Q : Value → Shared → Prop}
theorem bits_be (l : List UInt8) : Builtin.Int.intBits (be l : Int) ≤ 8 * l.length := bits_lt (be_lt l)
theorem r_big {l : List UInt8} (hl : l.length ≤ 1048577) (h : ∀ t' k, Q (.int ((be l * BIG : Nat) : Int) t') { s with toks := k }) :
    wpAny (model prog w) A (binaryOp .Mult (.int (be l : Int) t) (.int 3879462223309917287578862680008231480301264909000893428305 u)) Q E s := by
  refine mul_int (by have := h s.toks (s.toks + 1); rwa [Int.natCast_mul] at this) ?_
  unfold IntMulOk
  have hb := bits_be l
  have h2 : Builtin.Int.intBits (3879462223309917287578862680008231480301264909000893428305 : Int) ≤ 256 := by decide +kernel
  have h3 : Builtin.Int.intTooBig (Builtin.Int.intBits (be l : Int) + Builtin.Int.intBits (3879462223309917287578862680008231480301264909000893428305 : Int)) = false := by
    unfold Builtin.Int.intTooBig
    have hl2 : bitsLine = 134217728 := rfl
    rw [hl2]
    exact decide_eq_false (by omega)
  rw [h3, Bool.and_false]
  exact Bool.false_ne_true
theorem r_pow {k : Nat} (hk : k ≤ 1000000) (h : ∀ t' k', Q (.int ((256 ^ k : Nat) : Int) t') { s with toks := k' }) : wpAny (model prog w) A (binaryOp .Pow (.int 256 t) (.int (k : Int) u)) Q E s := by
  refine pow_int_small (by omega) (by omega) (by decide) ?_
  rw [Int.toNat_natCast]
  have := h s.toks (s.toks + 1)
  rwa [Int.natCast_pow] at this
theorem r_mod {a b : Nat} (hb : b ≠ 0) (h : ∀ t' k', Q (.int ((a % b : Nat) : Int) t') { s with toks := k' }) : wpAny (model prog w) A (binaryOp .Mod (.int (a : Int) t) (.int (b : Int) u)) Q E s := by
  refine mod_int' (by omega) ?_
  rw [Int.fmod_eq_emod_of_nonneg _ (by omega)]
  exact h _ _
theorem r_addN {a b : Nat} (h : ∀ t' k', Q (.int ((a + b : Nat) : Int) t') { s with toks := k' }) : wpAny (model prog w) A (binaryOp .Add (.int (a : Int) t) (.int (b : Int) u)) Q E s :=
  add_int (by have := h s.toks (s.toks + 1); rwa [Int.natCast_add] at this)
theorem r_sub59 {a : Nat} (ha : 59 ≤ a) (h : ∀ t' k', Q (.int ((a - 59 : Nat) : Int) t') { s with toks := k' }) : wpAny (model prog w) A (binaryOp .Sub (.int (a : Int) t) (.int 59 u)) Q E s :=
  sub_int (by have := h s.toks (s.toks + 1); rwa [show ((a - 59 : Nat) : Int) = (a : Int) - 59 by omega] at this)
theorem pow_size {size : Nat} (h1 : 1 ≤ size) : 256 ≤ 256 ^ size := by
  have := Nat.pow_le_pow_right (n := 256) (by decide) h1
  simpa using this
end
theorem ru2 : True := by
  k_with_none
  k_with "12 eval Name" => ((k_here; (first | (with_reducible show wpAny _ _ (eval (Expr.Name _ _) (envOf _ _ _ _ _)) _ _ _) | (with_reducible show wpAny _ _ (eval (Expr.Name _ _) (envOfC _ _ _ _ _)) _ _ _) | (with_reducible show wpAny _ _ (eval (Expr.Name _ _) (envX _ _ _ _ _ _)) _ _ _)); k_dflt (first
      | (refine' nameX_K ?F_0 ?X_0 ?T_0 ?e_0 ?_ ?a_0 ?b_0; (case b_0 => kernel_rfl!); (case a_0 => rfl); (case F_0 => k_asm); (case X_0 => k_asm); (case T_0 => k_asm); (case e_0 => k_is); k_whole)
      | (refine' nameX_L ?F_0 ?v_0 ?_ ?a_0 ?b_0; (case b_0 => kernel_rfl!); (case a_0 => rfl); (case F_0 => k_asm); (case v_0 => rfl); k_whole)
      | (refine' nameX_B ?F_0 ?X_0 ?T_0 ?e_0 ?v_0 ?n_0 ?_ ?a_0 ?b_0; (case b_0 => kernel_rfl!); (case a_0 => rfl); (case F_0 => k_asm); (case X_0 => k_asm); (case T_0 => k_asm); (case e_0 => k_is); (case v_0 => boot_fast); (case n_0 => decide); k_whole))))
  k_with "12 callWith ref" => ((k_here; (with_reducible show wpAny _ _ (callWith _ (Value.ref _) _ (backTo _ (starEach (_ :: _) _)) (backToKw _ _)) _ _ _); k_dflt (refine' callWith_KW ?k1_0 ?k2_0 ?k3_0 ?_; (case k1_0 => k_asm); (case k2_0 => k_is); (case k3_0 => exact rfl); k_whole)))
  k_with "1 binaryOp Add bytes bytes" => ((k_here; (with_reducible show wpAny _ _ (binaryOp Operator.Add (Value.bytes _ _) (Value.bytes _ _)) _ _ _); (refine r_add ?hlen_13 ?_; (case hlen_13 => (simp only [List.length_cons, List.length_nil]; omega)); intro _ _)))
  k_with "1 call ref" => ((k_here; (with_reducible show wpAny _ _ (call (Value.ref _) [Value.bytes _ _, Value.str _ _]) _ _ _); k_dflt (refine r_from (by k_asm) (by k_mem) ?hlen_13 ?_; (case hlen_13 => (simp only [List.length_append, List.length_cons, List.length_nil]; omega)); intro _ _)))
  k_with "1 binaryOp Mult int int" => ((k_here; (with_reducible show wpAny _ _ (binaryOp Operator.Mult (Value.int (be _ : Nat) _) (Value.int 3879462223309917287578862680008231480301264909000893428305 _)) _ _ _); (refine r_big ?hlen_13 ?_; (case hlen_13 => (simp only [List.length_append, List.length_cons, List.length_nil]; omega)); intro _ _)))
  k_with "1 binaryOp Pow int int" => ((k_here; (refine r_pow (by omega) ?_; intro _ _)))
  k_with "1 binaryOp Sub int int" => ((k_here; (with_reducible show wpAny _ _ (binaryOp Operator.Sub (Value.int ((256 ^ _ : Nat) : Int) _) (Value.int 59 _)) _ _ _); (refine r_sub59 (by have := pow_size (by assumption); omega) ?_; intro _ _)))
  k_with "1 binaryOp Mod int int" => ((k_here; (refine r_mod (by have := pow_size (by assumption); omega) ?_; intro _ _)))
  k_with "1 binaryOp Add int int" => ((k_here; (refine r_addN ?_; intro _ _)))
  trivial
theorem mod_lt {a size : Nat} (h1 : 1 ≤ size) : a % (256 ^ size - 59) < 256 ^ size := by
  have := pow_size h1
  exact Nat.lt_of_lt_of_le (Nat.mod_lt _ (by omega)) (by omega)
theorem ru3 : True := by
  k_with_none
  k_with "12 eval Name" => ((k_here; (first | (with_reducible show wpAny _ _ (eval (Expr.Name _ _) (envOf _ _ _ _ _)) _ _ _) | (with_reducible show wpAny _ _ (eval (Expr.Name _ _) (envOfC _ _ _ _ _)) _ _ _) | (with_reducible show wpAny _ _ (eval (Expr.Name _ _) (envX _ _ _ _ _ _)) _ _ _)); k_dflt (first
      | (refine' nameX_K ?F_0 ?X_0 ?T_0 ?e_0 ?_ ?a_0 ?b_0; (case b_0 => kernel_rfl!); (case a_0 => rfl); (case F_0 => k_asm); (case X_0 => k_asm); (case T_0 => k_asm); (case e_0 => k_is); k_whole)
      | (refine' nameX_L ?F_0 ?v_0 ?_ ?a_0 ?b_0; (case b_0 => kernel_rfl!); (case a_0 => rfl); (case F_0 => k_asm); (case v_0 => rfl); k_whole)
      | (refine' nameX_B ?F_0 ?X_0 ?T_0 ?e_0 ?v_0 ?n_0 ?_ ?a_0 ?b_0; (case b_0 => kernel_rfl!); (case a_0 => rfl); (case F_0 => k_asm); (case X_0 => k_asm); (case T_0 => k_asm); (case e_0 => k_is); (case v_0 => boot_fast); (case n_0 => decide); k_whole))))
  k_with "12 callWith ref" => ((k_here; (with_reducible show wpAny _ _ (callWith _ (Value.ref _) _ (backTo _ (starEach (_ :: _) _)) (backToKw _ _)) _ _ _); k_dflt (refine' callWith_KW ?k1_0 ?k2_0 ?k3_0 ?_; (case k1_0 => k_asm); (case k2_0 => k_is); (case k3_0 => exact rfl); k_whole)))
  k_with "1 binaryOp Add bytes bytes" => ((k_here; (with_reducible show wpAny _ _ (binaryOp Operator.Add (Value.bytes _ _) (Value.bytes _ _)) _ _ _); (refine r_add ?hlen_13 ?_; (case hlen_13 => (simp only [List.length_cons, List.length_nil]; omega)); intro _ _)))
  k_with "1 call ref" => ((k_here; (with_reducible show wpAny _ _ (call (Value.ref _) [Value.bytes _ _, Value.str _ _]) _ _ _); k_dflt (refine r_from (by k_asm) (by k_mem) ?hlen_13 ?_; (case hlen_13 => (simp only [List.length_append, List.length_cons, List.length_nil]; omega)); intro _ _)))
  k_with "1 binaryOp Mult int int" => ((k_here; (with_reducible show wpAny _ _ (binaryOp Operator.Mult (Value.int (be _ : Nat) _) (Value.int 3879462223309917287578862680008231480301264909000893428305 _)) _ _ _); (refine r_big ?hlen_13 ?_; (case hlen_13 => (simp only [List.length_append, List.length_cons, List.length_nil]; omega)); intro _ _)))
  k_with "1 binaryOp Pow int int" => ((k_here; (refine r_pow (by omega) ?_; intro _ _)))
  k_with "1 binaryOp Sub int int" => ((k_here; (with_reducible show wpAny _ _ (binaryOp Operator.Sub (Value.int ((256 ^ _ : Nat) : Int) _) (Value.int 59 _)) _ _ _); (refine r_sub59 (by have := pow_size (by assumption); omega) ?_; intro _ _)))
  k_with "1 binaryOp Mod int int" => ((k_here; (refine r_mod (by have := pow_size (by assumption); omega) ?_; intro _ _)))
  k_with "1 binaryOp Add int int" => ((k_here; (refine r_addN ?_; intro _ _)))
  k_with "1 call builtin:int.to_bytes" => ((k_here; (refine r_to (by omega) (mod_lt (by assumption)) ?_; intro _ _)))
  k_with "1 EndsN" => ((refine ends_ret (by k_asm) (by k_asm) ?hs_13 ?r_13; (case hs_13 => (intro p hp; repeat (first | exact hp | refine List.Mem.tail _ ?_))); (case r_13 => exact ⟨_, rfl⟩)))
  trivial
theorem hash_ok (w : World) (b : List UInt8) (t t' : Tok) (size : Nat) (h1 : 1 ≤ size) (h2 : size ≤ 32) (hb : b.length ≤ 1048575) (news : List (Addr × Obj)) :
    Con w 1 20 (.ref 101) [.bytes b.toArray t, .int (size : Int) t'] news (fun r => ∃ tc, r = .bytes (hsh size b).toArray tc) := by
  refine' con_of (binds := [(Str.ofString "octets", .bytes b.toArray t), (Str.ofString "size", .int (size : Int) t')]) ?ho ?hcd ?hbind ?hloc ?c1 ?c2 ?c3 ?c4 ?hb
  case ho => k_is
  case hcd => k_is
  case hbind => exact fun s _ => BindsTo.of_eq rfl
  case hloc => exact locs rfl
  case c1 => exact rfl
  case c2 => exact rfl
  case c3 => exact rfl
  case c4 => decide
  intro dp un gd outer A₀ base g L' h₁ tk s p loose mean mg mb B F X N T hd hu
  k_fold
  k_steps
end Mine
end
-- C2
section
open PySem PySem.W PySem.Spec PySem.Calls PyProof.Rows PyProof.Rows.LCg
set_option maxRecDepth 100000
set_option maxHeartbeats 4000000
set_option linter.unusedVariables false
namespace Mine
theorem ru9 : True := by
  k_with_none
  k_with "12 eval Name" => ((k_here; (first | (with_reducible show wpAny _ _ (eval (Expr.Name _ _) (envOf _ _ _ _ _)) _ _ _) | (with_reducible show wpAny _ _ (eval (Expr.Name _ _) (envOfC _ _ _ _ _)) _ _ _) | (with_reducible show wpAny _ _ (eval (Expr.Name _ _) (envX _ _ _ _ _ _)) _ _ _)); k_dflt (first
      | (refine' nameX_K ?F_0 ?X_0 ?T_0 ?e_0 ?_ ?a_0 ?b_0; (case b_0 => kernel_rfl!); (case a_0 => rfl); (case F_0 => k_asm); (case X_0 => k_asm); (case T_0 => k_asm); (case e_0 => k_is); k_whole)
      | (refine' nameX_L ?F_0 ?v_0 ?_ ?a_0 ?b_0; (case b_0 => kernel_rfl!); (case a_0 => rfl); (case F_0 => k_asm); (case v_0 => rfl); k_whole)
      | (refine' nameX_B ?F_0 ?X_0 ?T_0 ?e_0 ?v_0 ?n_0 ?_ ?a_0 ?b_0; (case b_0 => kernel_rfl!); (case a_0 => rfl); (case F_0 => k_asm); (case X_0 => k_asm); (case T_0 => k_asm); (case e_0 => k_is); (case v_0 => boot_fast); (case n_0 => decide); k_whole))))
  k_with "12 callWith ref" => ((k_here; (with_reducible show wpAny _ _ (callWith _ (Value.ref _) _ (backTo _ (starEach (_ :: _) _)) (backToKw _ _)) _ _ _); k_dflt (refine' callWith_KW ?k1_0 ?k2_0 ?k3_0 ?_; (case k1_0 => k_asm); (case k2_0 => k_is); (case k3_0 => exact rfl); k_whole)))
  trivial
noncomputable def keyOf (size block : Nat) (key : List UInt8) : List UInt8 := if key.length > block then hsh size key else key
noncomputable def filled (size block : Nat) (key : List UInt8) : List UInt8 := keyOf size block key ++ List.replicate (block - (keyOf size block key).length) 0
noncomputable def padI (size block : Nat) (key : List UInt8) : List UInt8 := (filled size block key).map (· ^^^ 54)
noncomputable def padO (size block : Nat) (key : List UInt8) : List UInt8 := (filled size block key).map (· ^^^ 92)
theorem ru4 : True := by
  k_with_none
  k_with "12 eval Name" => ((k_here; (first | (with_reducible show wpAny _ _ (eval (Expr.Name _ _) (envOf _ _ _ _ _)) _ _ _) | (with_reducible show wpAny _ _ (eval (Expr.Name _ _) (envOfC _ _ _ _ _)) _ _ _) | (with_reducible show wpAny _ _ (eval (Expr.Name _ _) (envX _ _ _ _ _ _)) _ _ _)); k_dflt (first
      | (refine' nameX_K ?F_0 ?X_0 ?T_0 ?e_0 ?_ ?a_0 ?b_0; (case b_0 => kernel_rfl!); (case a_0 => rfl); (case F_0 => k_asm); (case X_0 => k_asm); (case T_0 => k_asm); (case e_0 => k_is); k_whole)
      | (refine' nameX_L ?F_0 ?v_0 ?_ ?a_0 ?b_0; (case b_0 => kernel_rfl!); (case a_0 => rfl); (case F_0 => k_asm); (case v_0 => rfl); k_whole)
      | (refine' nameX_B ?F_0 ?X_0 ?T_0 ?e_0 ?v_0 ?n_0 ?_ ?a_0 ?b_0; (case b_0 => kernel_rfl!); (case a_0 => rfl); (case F_0 => k_asm); (case X_0 => k_asm); (case T_0 => k_asm); (case e_0 => k_is); (case v_0 => boot_fast); (case n_0 => decide); k_whole))))
  k_with "12 callWith ref" => ((k_here; (with_reducible show wpAny _ _ (callWith _ (Value.ref _) _ (backTo _ (starEach (_ :: _) _)) (backToKw _ _)) _ _ _); k_dflt (refine' callWith_KW ?k1_0 ?k2_0 ?k3_0 ?_; (case k1_0 => k_asm); (case k2_0 => k_is); (case k3_0 => exact rfl); k_whole)))
  k_with "1 call ref" => ((k_here; (with_reducible show wpAny _ _ (call (Value.ref 101) [Value.bytes (List.toArray _) _, Value.int _ _]) _ _ _); refine' use_con (hash_ok _ _ _ _ _ ?h1_14 ?h2_14 ?hb_14 _) ?B_14 ?F_14 ?X_14 ?N_14 ?T_14 ?hk_14 ?hd_14 ?hu_14 ?_; (case B_14 => k_asm); (case F_14 => k_asm); (case X_14 => k_asm); (case N_14 => k_asm); (case T_14 => k_asm); (case hk_14 => rfl); (case hd_14 => omega); (case hu_14 => omega); (case h1_14 => omega); (case h2_14 => omega); (case hb_14 => omega); (intro r9 new9 h9 tk9 hR9 hA9 F9 N9; obtain ⟨hnew9, t9, hr9⟩ := hR9; subst hnew9; subst hr9; simp only [List.nil_append] at N9)))
  trivial
theorem r_len {prog : Program} {w : World} {A : Around} {E : Value → Shared → Prop} {s : Shared} {b : List UInt8} {t : Tok} {Q : Value → Shared → Prop} (hl : b.length ≤ 1048576) (h : ∀ t' k, Q (.int (b.length : Int) t') { s with toks := k }) : wpAny (model prog w) A (call (.builtin "len") [.bytes b.toArray t]) Q E s :=
  len_bytes (by simp; omega) (by have := h (s.toks + 1) (s.toks + 1 + 1); simpa using this)
theorem r_subN {prog : Program} {w : World} {A : Around} {E : Value → Shared → Prop} {s : Shared} {a b : Nat} {t u : Tok} {Q : Value → Shared → Prop} (hab : b ≤ a) (h : ∀ t' k', Q (.int ((a - b : Nat) : Int) t') { s with toks := k' }) : wpAny (model prog w) A (binaryOp .Sub (.int (a : Int) t) (.int (b : Int) u)) Q E s :=
  sub_int (by have := h s.toks (s.toks + 1); rwa [show ((a - b : Nat) : Int) = (a : Int) - b by omega] at this)
section
variable {prog : Program} {w : World} {A : Around} {E : Value → Shared → Prop} {s : Shared} {h₀ : Heap} {L : Addr} {m : Str → Option Value} {news : List (Addr × Obj)}
theorem ru5 : True := by
  k_with_none
  k_with "12 eval Name" => ((k_here; (first | (with_reducible show wpAny _ _ (eval (Expr.Name _ _) (envOf _ _ _ _ _)) _ _ _) | (with_reducible show wpAny _ _ (eval (Expr.Name _ _) (envOfC _ _ _ _ _)) _ _ _) | (with_reducible show wpAny _ _ (eval (Expr.Name _ _) (envX _ _ _ _ _ _)) _ _ _)); k_dflt (first
      | (refine' nameX_K ?F_0 ?X_0 ?T_0 ?e_0 ?_ ?a_0 ?b_0; (case b_0 => kernel_rfl!); (case a_0 => rfl); (case F_0 => k_asm); (case X_0 => k_asm); (case T_0 => k_asm); (case e_0 => k_is); k_whole)
      | (refine' nameX_L ?F_0 ?v_0 ?_ ?a_0 ?b_0; (case b_0 => kernel_rfl!); (case a_0 => rfl); (case F_0 => k_asm); (case v_0 => rfl); k_whole)
      | (refine' nameX_B ?F_0 ?X_0 ?T_0 ?e_0 ?v_0 ?n_0 ?_ ?a_0 ?b_0; (case b_0 => kernel_rfl!); (case a_0 => rfl); (case F_0 => k_asm); (case X_0 => k_asm); (case T_0 => k_asm); (case e_0 => k_is); (case v_0 => boot_fast); (case n_0 => decide); k_whole))))
  k_with "12 callWith ref" => ((k_here; (with_reducible show wpAny _ _ (callWith _ (Value.ref _) _ (backTo _ (starEach (_ :: _) _)) (backToKw _ _)) _ _ _); k_dflt (refine' callWith_KW ?k1_0 ?k2_0 ?k3_0 ?_; (case k1_0 => k_asm); (case k2_0 => k_is); (case k3_0 => exact rfl); k_whole)))
  k_with "1 call ref" => ((k_here; (with_reducible show wpAny _ _ (call (Value.ref 101) [Value.bytes (List.toArray _) _, Value.int _ _]) _ _ _); refine' use_con (hash_ok _ _ _ _ _ ?h1_14 ?h2_14 ?hb_14 _) ?B_14 ?F_14 ?X_14 ?N_14 ?T_14 ?hk_14 ?hd_14 ?hu_14 ?_; (case B_14 => k_asm); (case F_14 => k_asm); (case X_14 => k_asm); (case N_14 => k_asm); (case T_14 => k_asm); (case hk_14 => rfl); (case hd_14 => omega); (case hu_14 => omega); (case h1_14 => omega); (case h2_14 => omega); (case hb_14 => omega); (intro r9 new9 h9 tk9 hR9 hA9 F9 N9; obtain ⟨hnew9, t9, hr9⟩ := hR9; subst hnew9; subst hr9; simp only [List.nil_append] at N9)))
  k_with "1 call builtin:len" => ((k_here; (with_reducible show wpAny _ _ (call (Value.builtin "len") [Value.bytes (List.toArray _) _]) _ _ _); (refine' r_len ?hl_14 ?_; (case hl_14 => ((try rw [hsh_length]); omega)); intro _ _)))
  k_with "1 binaryOp Sub int int" => ((k_here; (refine' r_subN ?hl_14 ?_; (case hl_14 => ((try rw [hsh_length]); omega)); intro _ _)))
  trivial
theorem flat1 : ∀ n : Nat, (List.replicate n [(0 : Int)]).flatten = List.replicate n 0
  | 0 => rfl
  | n + 1 => by rw [List.replicate_succ, List.flatten_cons, flat1 n, List.replicate_succ]; rfl
theorem r_zeros {l : Addr} {t u : Tok} {k n : Nat} {Q : Value → Shared → Prop} (F : Fr h₀ L s.heap m) (N : News h₀ L s.heap news) (hm : (l, listOf [Value.int 0 t].toArray k) ∈ news) (hn : n ≤ 1048576)
    (h : ∀ D ys h', Fr h₀ L h' m → News h₀ L h' ((D, listOf (List.toArray ys) 0) :: news) → (∀ p ∈ news, p.1 < D) → IntsAre ys (List.replicate n 0) → Q (.ref D) { s with heap := h' }) :
    wpAny (model prog w) A (binaryOp .Mult (.ref l) (.int (n : Int) u)) Q E s := by
  refine KM.mul F N (vs := [Value.int 0 t]) (ns := [0]) ⟨_, (N _ hm).1, rfl, k, rfl⟩ (.cons 0 t .nil) (by omega) (by omega) (by simp; omega) fun D h' F' N' l1 hi _ _ _ _ _ => ?_
  rw [Int.toNat_natCast] at N' hi
  rw [flat1] at hi
  exact h D _ h' F' N' l1 hi
theorem r_ladd {l b : Addr} {xs ys : List Value} {k k' : Nat} {ns ms : List Int} {Q : Value → Shared → Prop} (F : Fr h₀ L s.heap m) (N : News h₀ L s.heap news) (hl : (l, listOf xs.toArray k) ∈ news) (hb : (b, listOf ys.toArray k') ∈ news) (hi : IntsAre xs ns) (hj : IntsAre ys ms) (hsz : ns.length + ms.length ≤ 16777216)
    (h : ∀ D h', Fr h₀ L h' m → News h₀ L h' ((D, listOf (xs ++ ys).toArray 0) :: news) → (∀ p ∈ news, p.1 < D) → IntsAre (xs ++ ys) (ns ++ ms) → Q (.ref D) { s with heap := h' }) : wpAny (model prog w) A (binaryOp .Add (.ref l) (.ref b)) Q E s :=
  add_arrays_ints F N ⟨_, (N _ hl).1, rfl, k, rfl⟩ ⟨_, (N _ hb).1, rfl, k', rfl⟩ (by simpa using hi) (by simpa using hj) (fun h' F' N' hi' => h _ h' F' (by simpa using N') (fun p hp => Heap.lt_size (N p hp).1) (by simpa using hi')) (by rw [PySem.sizeLine_eq]; exact hsz)
end
theorem ru6 : True := by
  k_with_none
  k_with "12 eval Name" => ((k_here; (first | (with_reducible show wpAny _ _ (eval (Expr.Name _ _) (envOf _ _ _ _ _)) _ _ _) | (with_reducible show wpAny _ _ (eval (Expr.Name _ _) (envOfC _ _ _ _ _)) _ _ _) | (with_reducible show wpAny _ _ (eval (Expr.Name _ _) (envX _ _ _ _ _ _)) _ _ _)); k_dflt (first
      | (refine' nameX_K ?F_0 ?X_0 ?T_0 ?e_0 ?_ ?a_0 ?b_0; (case b_0 => kernel_rfl!); (case a_0 => rfl); (case F_0 => k_asm); (case X_0 => k_asm); (case T_0 => k_asm); (case e_0 => k_is); k_whole)
      | (refine' nameX_L ?F_0 ?v_0 ?_ ?a_0 ?b_0; (case b_0 => kernel_rfl!); (case a_0 => rfl); (case F_0 => k_asm); (case v_0 => rfl); k_whole)
      | (refine' nameX_B ?F_0 ?X_0 ?T_0 ?e_0 ?v_0 ?n_0 ?_ ?a_0 ?b_0; (case b_0 => kernel_rfl!); (case a_0 => rfl); (case F_0 => k_asm); (case X_0 => k_asm); (case T_0 => k_asm); (case e_0 => k_is); (case v_0 => boot_fast); (case n_0 => decide); k_whole))))
  k_with "12 callWith ref" => ((k_here; (with_reducible show wpAny _ _ (callWith _ (Value.ref _) _ (backTo _ (starEach (_ :: _) _)) (backToKw _ _)) _ _ _); k_dflt (refine' callWith_KW ?k1_0 ?k2_0 ?k3_0 ?_; (case k1_0 => k_asm); (case k2_0 => k_is); (case k3_0 => exact rfl); k_whole)))
  k_with "1 call ref" => ((k_here; (with_reducible show wpAny _ _ (call (Value.ref 101) [Value.bytes (List.toArray _) _, Value.int _ _]) _ _ _); refine' use_con (hash_ok _ _ _ _ _ ?h1_14 ?h2_14 ?hb_14 _) ?B_14 ?F_14 ?X_14 ?N_14 ?T_14 ?hk_14 ?hd_14 ?hu_14 ?_; (case B_14 => k_asm); (case F_14 => k_asm); (case X_14 => k_asm); (case N_14 => k_asm); (case T_14 => k_asm); (case hk_14 => rfl); (case hd_14 => omega); (case hu_14 => omega); (case h1_14 => omega); (case h2_14 => omega); (case hb_14 => omega); (intro r9 new9 h9 tk9 hR9 hA9 F9 N9; obtain ⟨hnew9, t9, hr9⟩ := hR9; subst hnew9; subst hr9; simp only [List.nil_append] at N9)))
  k_with "1 call builtin:len" => ((k_here; (with_reducible show wpAny _ _ (call (Value.builtin "len") [Value.bytes (List.toArray _) _]) _ _ _); (refine' r_len ?hl_14 ?_; (case hl_14 => ((try rw [hsh_length]); omega)); intro _ _)))
  k_with "1 binaryOp Sub int int" => ((k_here; (refine' r_subN ?hl_14 ?_; (case hl_14 => ((try rw [hsh_length]); omega)); intro _ _)))
  k_with "1 binaryOp Mult ref int" => ((k_here; k_dflt (refine r_zeros (by k_asm) (by k_asm) (by k_mem) (by first | omega | ((try rw [hsh_length]); omega)) ?_); (intro D9 ys9 h9 F9 N9 l9 i9; k_lt l9)))
  k_with "1 binaryOp Add ref ref" => ((k_here; k_dflt (refine r_ladd (by k_asm) (by k_asm) (by k_mem) (by k_mem) (by assumption) (by assumption) (by simp only [List.length_map, List.length_replicate, hsh_length]; omega) ?_); (intro D9 h9 F9 N9 l9 i9; k_lt l9)))
  trivial
theorem allLt_all {d : Addr} : ∀ {l : List (Addr × Obj)}, AllLt d l → ∀ p ∈ l, @LT.lt Nat _ p.1 d
  | [], _, _, h => nomatch h
  | _ :: _, ⟨a, b⟩, p, h => by
    rcases List.mem_cons.mp h with rfl | h
    · exact a
    · exact allLt_all b p h
theorem ru7 : True := by
  k_with_none
  k_with "12 eval Name" => ((k_here; (first | (with_reducible show wpAny _ _ (eval (Expr.Name _ _) (envOf _ _ _ _ _)) _ _ _) | (with_reducible show wpAny _ _ (eval (Expr.Name _ _) (envOfC _ _ _ _ _)) _ _ _) | (with_reducible show wpAny _ _ (eval (Expr.Name _ _) (envX _ _ _ _ _ _)) _ _ _)); k_dflt (first
      | (refine' nameX_K ?F_0 ?X_0 ?T_0 ?e_0 ?_ ?a_0 ?b_0; (case b_0 => kernel_rfl!); (case a_0 => rfl); (case F_0 => k_asm); (case X_0 => k_asm); (case T_0 => k_asm); (case e_0 => k_is); k_whole)
      | (refine' nameX_L ?F_0 ?v_0 ?_ ?a_0 ?b_0; (case b_0 => kernel_rfl!); (case a_0 => rfl); (case F_0 => k_asm); (case v_0 => rfl); k_whole)
      | (refine' nameX_B ?F_0 ?X_0 ?T_0 ?e_0 ?v_0 ?n_0 ?_ ?a_0 ?b_0; (case b_0 => kernel_rfl!); (case a_0 => rfl); (case F_0 => k_asm); (case X_0 => k_asm); (case T_0 => k_asm); (case e_0 => k_is); (case v_0 => boot_fast); (case n_0 => decide); k_whole))))
  k_with "12 callWith ref" => ((k_here; (with_reducible show wpAny _ _ (callWith _ (Value.ref _) _ (backTo _ (starEach (_ :: _) _)) (backToKw _ _)) _ _ _); k_dflt (refine' callWith_KW ?k1_0 ?k2_0 ?k3_0 ?_; (case k1_0 => k_asm); (case k2_0 => k_is); (case k3_0 => exact rfl); k_whole)))
  k_with "1 call ref" => ((k_here; (with_reducible show wpAny _ _ (call (Value.ref 101) [Value.bytes (List.toArray _) _, Value.int _ _]) _ _ _); refine' use_con (hash_ok _ _ _ _ _ ?h1_14 ?h2_14 ?hb_14 _) ?B_14 ?F_14 ?X_14 ?N_14 ?T_14 ?hk_14 ?hd_14 ?hu_14 ?_; (case B_14 => k_asm); (case F_14 => k_asm); (case X_14 => k_asm); (case N_14 => k_asm); (case T_14 => k_asm); (case hk_14 => rfl); (case hd_14 => omega); (case hu_14 => omega); (case h1_14 => omega); (case h2_14 => omega); (case hb_14 => omega); (intro r9 new9 h9 tk9 hR9 hA9 F9 N9; obtain ⟨hnew9, t9, hr9⟩ := hR9; subst hnew9; subst hr9; simp only [List.nil_append] at N9)))
  k_with "1 call builtin:len" => ((k_here; (with_reducible show wpAny _ _ (call (Value.builtin "len") [Value.bytes (List.toArray _) _]) _ _ _); (refine' r_len ?hl_14 ?_; (case hl_14 => ((try rw [hsh_length]); omega)); intro _ _)))
  k_with "1 binaryOp Sub int int" => ((k_here; (refine' r_subN ?hl_14 ?_; (case hl_14 => ((try rw [hsh_length]); omega)); intro _ _)))
  k_with "1 binaryOp Mult ref int" => ((k_here; k_dflt (refine r_zeros (by k_asm) (by k_asm) (by k_mem) (by first | omega | ((try rw [hsh_length]); omega)) ?_); (intro D9 ys9 h9 F9 N9 l9 i9; k_lt l9)))
  k_with "1 binaryOp Add ref ref" => ((k_here; k_dflt (refine r_ladd (by k_asm) (by k_asm) (by k_mem) (by k_mem) (by assumption) (by assumption) (by simp only [List.length_map, List.length_replicate, hsh_length]; omega) ?_); (intro D9 h9 F9 N9 l9 i9; k_lt l9)))
  k_with "2 eval ListComp" => ((k_here; (with_reducible show wpAny _ _ (eval (Expr.ListComp (Expr.Name _ _) _ _ _) _) _ _ _); k_dflt (refine listComp_b (F₀ := by k_asm) (by with_unfolding_all rfl) (by decide) (by rfl) (by decide) (by rfl) ?_)))
  k_with "1 CompB" => ((k_here; k_dflt (refine' comp_bi oct ?hh_14 ?F_14 ?N_14 ?sz_14 (fun c9 t9 I9 oI9 C9 oC9 D9 oD9 m9 h9 tk9 E9 hc9 hC9 hx9 F9 N9 off9 ne9 => ?_) (fun g9 ys9 hI9 D9 h9 tk9 F9 N9 o9 => ?_)); (case hh_14 => rfl); (case F_14 => k_asm); (case N_14 => k_asm); (case sz_14 => (rw [PySem.sizeLine_eq]; (try rw [hsh_length]); omega))))
  k_with "1 eval ListComp" => ((k_here; (with_reducible show wpAny _ _ (eval (Expr.ListComp (Expr.BinOp _ _ _ _) _ _ _) _) _ _ _); k_dflt (refine LCg.ListComp_U (F₀ := by k_asm) (by with_unfolding_all rfl) (by decide) (by rfl) (by decide) (by rfl) ?_)))
  k_with "2 CompSrc" => (k_dflt ((k_here; (with_reducible show LCg.CompSrc _ _ _ _ _ _ _ (Expr.BinOp _ _ (Expr.Constant (Const.int 54) _ _) _) _ _ _ _ _ _); k_dflt (refine' comp_li (fun n => Builtin.bitXor n 54) ?hh_14 ?F_14 ?N_14 ?hm_14 ?hi_14 ?sz_14 (fun c9 t9 I9 oI9 C9 oC9 D9 oD9 m9 h9 tk9 E9 hc9 hC9 hx9 F9 N9 off9 ne9 => ?_) (fun g9 ys9 hI9 D9 h9 tk9 F9 N9 o9 => ?_)); (case hh_14 => rfl); (case F_14 => k_asm); (case N_14 => k_asm); (case hm_14 => k_mem); (case hi_14 => assumption); (case sz_14 => (rw [PySem.sizeLine_eq]; simp only [List.length_append, List.length_map, List.length_replicate, hsh_length]; omega)))))
  k_with "1 CompSrc" => (k_dflt ((k_here; (with_reducible show LCg.CompSrc _ _ _ _ _ _ _ (Expr.BinOp _ _ (Expr.Constant (Const.int 92) _ _) _) _ _ _ _ _ _); k_dflt (refine' comp_li (fun n => Builtin.bitXor n 92) ?hh_14 ?F_14 ?N_14 ?hm_14 ?hi_14 ?sz_14 (fun c9 t9 I9 oI9 C9 oC9 D9 oD9 m9 h9 tk9 E9 hc9 hC9 hx9 F9 N9 off9 ne9 => ?_) (fun g9 ys9 hI9 D9 h9 tk9 F9 N9 o9 => ?_)); (case hh_14 => rfl); (case F_14 => k_asm); (case N_14 => k_asm); (case hm_14 => k_mem); (case hi_14 => assumption); (case sz_14 => (rw [PySem.sizeLine_eq]; simp only [List.length_append, List.length_map, List.length_replicate, hsh_length]; omega)))))
  trivial
theorem filled_len {size block : Nat} {key : List UInt8} (h3 : size ≤ block) : (filled size block key).length = block := by
  unfold filled keyOf
  rw [List.length_append, List.length_replicate]
  split
  · rw [hsh_length]; omega
  · omega
theorem ru8 : True := by
  k_with_none
  k_with "12 eval Name" => ((k_here; (first | (with_reducible show wpAny _ _ (eval (Expr.Name _ _) (envOf _ _ _ _ _)) _ _ _) | (with_reducible show wpAny _ _ (eval (Expr.Name _ _) (envOfC _ _ _ _ _)) _ _ _) | (with_reducible show wpAny _ _ (eval (Expr.Name _ _) (envX _ _ _ _ _ _)) _ _ _)); k_dflt (first
      | (refine' nameX_K ?F_0 ?X_0 ?T_0 ?e_0 ?_ ?a_0 ?b_0; (case b_0 => kernel_rfl!); (case a_0 => rfl); (case F_0 => k_asm); (case X_0 => k_asm); (case T_0 => k_asm); (case e_0 => k_is); k_whole)
      | (refine' nameX_L ?F_0 ?v_0 ?_ ?a_0 ?b_0; (case b_0 => kernel_rfl!); (case a_0 => rfl); (case F_0 => k_asm); (case v_0 => rfl); k_whole)
      | (refine' nameX_B ?F_0 ?X_0 ?T_0 ?e_0 ?v_0 ?n_0 ?_ ?a_0 ?b_0; (case b_0 => kernel_rfl!); (case a_0 => rfl); (case F_0 => k_asm); (case X_0 => k_asm); (case T_0 => k_asm); (case e_0 => k_is); (case v_0 => boot_fast); (case n_0 => decide); k_whole))))
  k_with "12 callWith ref" => ((k_here; (with_reducible show wpAny _ _ (callWith _ (Value.ref _) _ (backTo _ (starEach (_ :: _) _)) (backToKw _ _)) _ _ _); k_dflt (refine' callWith_KW ?k1_0 ?k2_0 ?k3_0 ?_; (case k1_0 => k_asm); (case k2_0 => k_is); (case k3_0 => exact rfl); k_whole)))
  k_with "1 call ref" => ((k_here; (with_reducible show wpAny _ _ (call (Value.ref 101) [Value.bytes (List.toArray _) _, Value.int _ _]) _ _ _); refine' use_con (hash_ok _ _ _ _ _ ?h1_14 ?h2_14 ?hb_14 _) ?B_14 ?F_14 ?X_14 ?N_14 ?T_14 ?hk_14 ?hd_14 ?hu_14 ?_; (case B_14 => k_asm); (case F_14 => k_asm); (case X_14 => k_asm); (case N_14 => k_asm); (case T_14 => k_asm); (case hk_14 => rfl); (case hd_14 => omega); (case hu_14 => omega); (case h1_14 => omega); (case h2_14 => omega); (case hb_14 => omega); (intro r9 new9 h9 tk9 hR9 hA9 F9 N9; obtain ⟨hnew9, t9, hr9⟩ := hR9; subst hnew9; subst hr9; simp only [List.nil_append] at N9)))
  k_with "1 call builtin:len" => ((k_here; (with_reducible show wpAny _ _ (call (Value.builtin "len") [Value.bytes (List.toArray _) _]) _ _ _); (refine' r_len ?hl_14 ?_; (case hl_14 => ((try rw [hsh_length]); omega)); intro _ _)))
  k_with "1 binaryOp Sub int int" => ((k_here; (refine' r_subN ?hl_14 ?_; (case hl_14 => ((try rw [hsh_length]); omega)); intro _ _)))
  k_with "1 binaryOp Mult ref int" => ((k_here; k_dflt (refine r_zeros (by k_asm) (by k_asm) (by k_mem) (by first | omega | ((try rw [hsh_length]); omega)) ?_); (intro D9 ys9 h9 F9 N9 l9 i9; k_lt l9)))
  k_with "1 binaryOp Add ref ref" => ((k_here; k_dflt (refine r_ladd (by k_asm) (by k_asm) (by k_mem) (by k_mem) (by assumption) (by assumption) (by simp only [List.length_map, List.length_replicate, hsh_length]; omega) ?_); (intro D9 h9 F9 N9 l9 i9; k_lt l9)))
  k_with "2 eval ListComp" => ((k_here; (with_reducible show wpAny _ _ (eval (Expr.ListComp (Expr.Name _ _) _ _ _) _) _ _ _); k_dflt (refine listComp_b (F₀ := by k_asm) (by with_unfolding_all rfl) (by decide) (by rfl) (by decide) (by rfl) ?_)))
  k_with "1 CompB" => ((k_here; k_dflt (refine' comp_bi oct ?hh_14 ?F_14 ?N_14 ?sz_14 (fun c9 t9 I9 oI9 C9 oC9 D9 oD9 m9 h9 tk9 E9 hc9 hC9 hx9 F9 N9 off9 ne9 => ?_) (fun g9 ys9 hI9 D9 h9 tk9 F9 N9 o9 => ?_)); (case hh_14 => rfl); (case F_14 => k_asm); (case N_14 => k_asm); (case sz_14 => (rw [PySem.sizeLine_eq]; (try rw [hsh_length]); omega))))
  k_with "1 eval ListComp" => ((k_here; (with_reducible show wpAny _ _ (eval (Expr.ListComp (Expr.BinOp _ _ _ _) _ _ _) _) _ _ _); k_dflt (refine LCg.ListComp_U (F₀ := by k_asm) (by with_unfolding_all rfl) (by decide) (by rfl) (by decide) (by rfl) ?_)))
  k_with "2 CompSrc" => (k_dflt ((k_here; (with_reducible show LCg.CompSrc _ _ _ _ _ _ _ (Expr.BinOp _ _ (Expr.Constant (Const.int 54) _ _) _) _ _ _ _ _ _); k_dflt (refine' comp_li (fun n => Builtin.bitXor n 54) ?hh_14 ?F_14 ?N_14 ?hm_14 ?hi_14 ?sz_14 (fun c9 t9 I9 oI9 C9 oC9 D9 oD9 m9 h9 tk9 E9 hc9 hC9 hx9 F9 N9 off9 ne9 => ?_) (fun g9 ys9 hI9 D9 h9 tk9 F9 N9 o9 => ?_)); (case hh_14 => rfl); (case F_14 => k_asm); (case N_14 => k_asm); (case hm_14 => k_mem); (case hi_14 => assumption); (case sz_14 => (rw [PySem.sizeLine_eq]; simp only [List.length_append, List.length_map, List.length_replicate, hsh_length]; omega)))))
  k_with "1 CompSrc" => (k_dflt ((k_here; (with_reducible show LCg.CompSrc _ _ _ _ _ _ _ (Expr.BinOp _ _ (Expr.Constant (Const.int 92) _ _) _) _ _ _ _ _ _); k_dflt (refine' comp_li (fun n => Builtin.bitXor n 92) ?hh_14 ?F_14 ?N_14 ?hm_14 ?hi_14 ?sz_14 (fun c9 t9 I9 oI9 C9 oC9 D9 oD9 m9 h9 tk9 E9 hc9 hC9 hx9 F9 N9 off9 ne9 => ?_) (fun g9 ys9 hI9 D9 h9 tk9 F9 N9 o9 => ?_)); (case hh_14 => rfl); (case F_14 => k_asm); (case N_14 => k_asm); (case hm_14 => k_mem); (case hi_14 => assumption); (case sz_14 => (rw [PySem.sizeLine_eq]; simp only [List.length_append, List.length_map, List.length_replicate, hsh_length]; omega)))))
  k_with "1 call type:bytes" => ((k_here; k_dflt (refine r_bytes (by rfl) (by k_asm) (by k_asm) (by k_mem) (by assumption) (by first | exact xor_list _ _ 54 | exact xor_list _ _ 92) (by (rw [PySem.sizeLine_eq]; simp only [List.length_append, List.length_map, List.length_replicate, hsh_length]; omega)) ?_); intro h9 t9 k9 F9 N9))
  k_with "1 EltEnd" => ((refine elt_end (by k_asm) (by k_asm) (fun p hp => hp) ⟨_, rfl⟩))
  trivial
theorem pads_ok (w : World) (key : List UInt8) (t t' t'' : Tok) (size block : Nat) (h1 : 1 ≤ size) (h2 : size ≤ 32) (h3 : size ≤ block) (h4 : block ≤ 64) (hb : key.length ≤ 1000) (news : List (Addr × Obj)) :
    ConN w 2 40 (.ref 106) [.bytes key.toArray t, .int (size : Int) t', .int (block : Int) t''] news (fun r new => ∃ l t1 t2 k, r = .ref l ∧ new = [(l, { cls := .type "list", data := .seq #[.bytes (padI size block key).toArray t1, .bytes (padO size block key).toArray t2] k })]) := by
  refine' con_of (binds := [(Str.ofString "key", .bytes key.toArray t), (Str.ofString "size", .int (size : Int) t'), (Str.ofString "block", .int (block : Int) t'')]) ?ho ?hcd ?hbind ?hloc ?c1 ?c2 ?c3 ?c4 ?hb
  case ho => k_is
  case hcd => k_is
  case hbind => exact fun s _ => BindsTo.of_eq rfl
  case hloc => exact locs rfl
  case c1 => exact rfl
  case c2 => exact rfl
  case c3 => exact rfl
  case c4 => decide
  intro dp un gd outer A₀ base g L' h₁ tk s p loose mean mg mb B F X N T hd hu
  k_fold
  k_steps
  · show EndsN _ _ _ _ _ _ _
    rename (block : Int) < (key.length : Int) => hc
    rename (_ ∧ _ ∧ _ ∧ _ ∧ _ ∧ _ ∧ AllLt _ _) => hl
    have e : keyOf size block key = hsh size key := by unfold keyOf; rw [if_pos (by omega)]
    simp only [padI, padO, filled, e]
    refine' ends_new _ ?F ?N ?hs ?ha ⟨_, _, _, _, rfl, rfl⟩
    case F => k_asm
    case N => k_asm
    case hs => (intro p hp; rcases List.mem_cons.mp hp with rfl | hp; exact List.Mem.head _; (repeat (first | exact hp | refine List.Mem.tail _ ?_)))
    case ha => (intro q hq p hp; rcases List.mem_singleton.mp hq with rfl; exact allLt_all hl.2.2.2.2.2.2 p hp)
  · show EndsN _ _ _ _ _ _ _
    rename ¬ (block : Int) < (key.length : Int) => hc
    rename (_ ∧ _ ∧ _ ∧ _ ∧ _ ∧ _ ∧ AllLt _ _) => hl
    have e : keyOf size block key = key := by unfold keyOf; rw [if_neg (by omega)]
    simp only [padI, padO, filled, e]
    refine' ends_new _ ?F ?N ?hs ?ha ⟨_, _, _, _, rfl, rfl⟩
    case F => k_asm
    case N => k_asm
    case hs => (intro p hp; rcases List.mem_cons.mp hp with rfl | hp; exact List.Mem.head _; (repeat (first | exact hp | refine List.Mem.tail _ ?_)))
    case ha => (intro q hq p hp; rcases List.mem_singleton.mp hq with rfl; exact allLt_all hl.2.2.2.2.2.2 p hp)
end Mine
end
-- Cn
section
open PySem PySem.W PySem.Spec PySem.Calls PyProof.Rows
set_option maxRecDepth 100000
set_option maxHeartbeats 4000000
set_option linter.unusedVariables false
namespace Mine
theorem ru10 : True := by
  k_with_none
  k_with "12 eval Name" => ((k_here; (first | (with_reducible show wpAny _ _ (eval (Expr.Name _ _) (envOf _ _ _ _ _)) _ _ _) | (with_reducible show wpAny _ _ (eval (Expr.Name _ _) (envOfC _ _ _ _ _)) _ _ _) | (with_reducible show wpAny _ _ (eval (Expr.Name _ _) (envX _ _ _ _ _ _)) _ _ _)); k_dflt (first
      | (refine' nameX_K ?F_0 ?X_0 ?T_0 ?e_0 ?_ ?a_0 ?b_0; (case b_0 => kernel_rfl!); (case a_0 => rfl); (case F_0 => k_asm); (case X_0 => k_asm); (case T_0 => k_asm); (case e_0 => k_is); k_whole)
      | (refine' nameX_L ?F_0 ?v_0 ?_ ?a_0 ?b_0; (case b_0 => kernel_rfl!); (case a_0 => rfl); (case F_0 => k_asm); (case v_0 => rfl); k_whole)
      | (refine' nameX_B ?F_0 ?X_0 ?T_0 ?e_0 ?v_0 ?n_0 ?_ ?a_0 ?b_0; (case b_0 => kernel_rfl!); (case a_0 => rfl); (case F_0 => k_asm); (case X_0 => k_asm); (case T_0 => k_asm); (case e_0 => k_is); (case v_0 => boot_fast); (case n_0 => decide); k_whole))))
  k_with "12 callWith ref" => ((k_here; (with_reducible show wpAny _ _ (callWith _ (Value.ref _) _ (backTo _ (starEach (_ :: _) _)) (backToKw _ _)) _ _ _); k_dflt (refine' callWith_KW ?k1_0 ?k2_0 ?k3_0 ?_; (case k1_0 => k_asm); (case k2_0 => k_is); (case k3_0 => exact rfl); k_whole)))
  trivial
theorem c_21 {w : World} {D U : Nat} {news : List (Addr × Obj)} {R : Value → List (Addr × Obj) → Prop} {v0 v1 v2 : Value}
    (hb : BodyN w D (U + 3) (Str.ofString "ExpectedTypeError") fS1 21 (.ref 20) fB1 [(Str.ofString "value", v0), (Str.ofString "expected", v1), (Str.ofString "param", v2)] news R) : ConN w (D + 1) (U + 6) (.ref 21) [v0, v1, v2] news R := by
  refine' con_of (binds := [(Str.ofString "value", v0), (Str.ofString "expected", v1), (Str.ofString "param", v2)]) ?ho ?hcd ?hbind ?hloc ?c1 ?c2 ?c3 ?c4 hb
  case ho => k_is
  case hcd => k_is
  case hbind => exact fun s _ => BindsTo.of_eq rfl
  case hloc => exact locs rfl
  case c1 => exact rfl
  case c2 => exact rfl
  case c3 => exact rfl
  case c4 => decide
theorem c_28 {w : World} {D U : Nat} {news : List (Addr × Obj)} {R : Value → List (Addr × Obj) → Prop} {v0 v1 : Value}
    (hb : BodyN w D (U + 3) (Str.ofString "ExpectedStringError") fS2 28 (.ref 27) fB2 [(Str.ofString "value", v0), (Str.ofString "param", v1)] news R) : ConN w (D + 1) (U + 6) (.ref 28) [v0, v1] news R := by
  refine' con_of (binds := [(Str.ofString "value", v0), (Str.ofString "param", v1)]) ?ho ?hcd ?hbind ?hloc ?c1 ?c2 ?c3 ?c4 hb
  case ho => k_is
  case hcd => k_is
  case hbind => exact fun s _ => BindsTo.of_eq rfl
  case hloc => exact locs rfl
  case c1 => exact rfl
  case c2 => exact rfl
  case c3 => exact rfl
  case c4 => decide
theorem c_76 {w : World} {D U : Nat} {news : List (Addr × Obj)} {R : Value → List (Addr × Obj) → Prop} {v0 : Value}
    (hb : BodyN w D (U + 3) (Str.ofString "_pack_uint32") fS11 76 (.ref 75) fB11 [(Str.ofString "value", v0)] news R) : ConN w (D + 1) (U + 6) (.ref 76) [v0] news R := by
  refine' con_of (binds := [(Str.ofString "value", v0)]) ?ho ?hcd ?hbind ?hloc ?c1 ?c2 ?c3 ?c4 hb
  case ho => k_is
  case hcd => k_is
  case hbind => exact fun s _ => BindsTo.of_eq rfl
  case hloc => exact locs rfl
  case c1 => exact rfl
  case c2 => exact rfl
  case c3 => exact rfl
  case c4 => decide
theorem c_89 {w : World} {D U : Nat} {news : List (Addr × Obj)} {R : Value → List (Addr × Obj) → Prop} {v0 v1 v2 v3 : Value}
    (hb : BodyN w D (U + 3) (Str.ofString "_pbkdf2_looper") fS13 89 (.ref 88) fB13 [(Str.ofString "digest_size", v0), (Str.ofString "keyed_hmac", v1), (Str.ofString "digest", v2), (Str.ofString "rounds", v3)] news R) : ConN w (D + 1) (U + 6) (.ref 89) [v0, v1, v2, v3] news R := by
  refine' con_of (binds := [(Str.ofString "digest_size", v0), (Str.ofString "keyed_hmac", v1), (Str.ofString "digest", v2), (Str.ofString "rounds", v3)]) ?ho ?hcd ?hbind ?hloc ?c1 ?c2 ?c3 ?c4 hb
  case ho => k_is
  case hcd => k_is
  case hbind => exact fun s _ => BindsTo.of_eq rfl
  case hloc => exact locs rfl
  case c1 => exact rfl
  case c2 => exact rfl
  case c3 => exact rfl
  case c4 => decide
theorem c_101 {w : World} {D U : Nat} {news : List (Addr × Obj)} {R : Value → List (Addr × Obj) → Prop} {v0 v1 : Value}
    (hb : BodyN w D (U + 3) (Str.ofString "_law_hash") fS16 101 (.ref 100) fB16 [(Str.ofString "octets", v0), (Str.ofString "size", v1)] news R) : ConN w (D + 1) (U + 6) (.ref 101) [v0, v1] news R := by
  refine' con_of (binds := [(Str.ofString "octets", v0), (Str.ofString "size", v1)]) ?ho ?hcd ?hbind ?hloc ?c1 ?c2 ?c3 ?c4 hb
  case ho => k_is
  case hcd => k_is
  case hbind => exact fun s _ => BindsTo.of_eq rfl
  case hloc => exact locs rfl
  case c1 => exact rfl
  case c2 => exact rfl
  case c3 => exact rfl
  case c4 => decide
theorem c_106 {w : World} {D U : Nat} {news : List (Addr × Obj)} {R : Value → List (Addr × Obj) → Prop} {v0 v1 v2 : Value}
    (hb : BodyN w D (U + 3) (Str.ofString "_law_pads") fS17 106 (.ref 105) fB17 [(Str.ofString "key", v0), (Str.ofString "size", v1), (Str.ofString "block", v2)] news R) : ConN w (D + 1) (U + 6) (.ref 106) [v0, v1, v2] news R := by
  refine' con_of (binds := [(Str.ofString "key", v0), (Str.ofString "size", v1), (Str.ofString "block", v2)]) ?ho ?hcd ?hbind ?hloc ?c1 ?c2 ?c3 ?c4 hb
  case ho => k_is
  case hcd => k_is
  case hbind => exact fun s _ => BindsTo.of_eq rfl
  case hloc => exact locs rfl
  case c1 => exact rfl
  case c2 => exact rfl
  case c3 => exact rfl
  case c4 => decide
theorem c_113 {w : World} {D U : Nat} {news : List (Addr × Obj)} {R : Value → List (Addr × Obj) → Prop} {v0 v1 v2 : Value}
    (hb : BodyN w D (U + 3) (Str.ofString "_law_code") fS18 113 (.ref 112) fB18 [(Str.ofString "pads", v0), (Str.ofString "message", v1), (Str.ofString "size", v2)] news R) : ConN w (D + 1) (U + 6) (.ref 113) [v0, v1, v2] news R := by
  refine' con_of (binds := [(Str.ofString "pads", v0), (Str.ofString "message", v1), (Str.ofString "size", v2)]) ?ho ?hcd ?hbind ?hloc ?c1 ?c2 ?c3 ?c4 hb
  case ho => k_is
  case hcd => k_is
  case hbind => exact fun s _ => BindsTo.of_eq rfl
  case hloc => exact locs rfl
  case c1 => exact rfl
  case c2 => exact rfl
  case c3 => exact rfl
  case c4 => decide
theorem c_118 {w : World} {D U : Nat} {news : List (Addr × Obj)} {R : Value → List (Addr × Obj) → Prop} {v0 v1 v2 v3 v4 : Value}
    (hb : BodyN w D (U + 3) (Str.ofString "_law_piece") fS19 118 (.ref 117) fB19 [(Str.ofString "pads", v0), (Str.ofString "salt", v1), (Str.ofString "rounds", v2), (Str.ofString "piece", v3), (Str.ofString "size", v4)] news R) : ConN w (D + 1) (U + 6) (.ref 118) [v0, v1, v2, v3, v4] news R := by
  refine' con_of (binds := [(Str.ofString "pads", v0), (Str.ofString "salt", v1), (Str.ofString "rounds", v2), (Str.ofString "piece", v3), (Str.ofString "size", v4)]) ?ho ?hcd ?hbind ?hloc ?c1 ?c2 ?c3 ?c4 hb
  case ho => k_is
  case hcd => k_is
  case hbind => exact fun s _ => BindsTo.of_eq rfl
  case hloc => exact locs rfl
  case c1 => exact rfl
  case c2 => exact rfl
  case c3 => exact rfl
  case c4 => decide
theorem c_130 {w : World} {D U : Nat} {news : List (Addr × Obj)} {R : Value → List (Addr × Obj) → Prop} {v0 v1 v2 v3 v4 : Value}
    (hb : BodyN w D (U + 3) (Str.ofString "_law_first") fS21 130 (.ref 129) fB21 [(Str.ofString "secret", v0), (Str.ofString "salt", v1), (Str.ofString "rounds", v2), (Str.ofString "length", v3), (Str.ofString "size", v4)] news R) : ConN w (D + 1) (U + 6) (.ref 130) [v0, v1, v2, v3, v4] news R := by
  refine' con_of (binds := [(Str.ofString "secret", v0), (Str.ofString "salt", v1), (Str.ofString "rounds", v2), (Str.ofString "length", v3), (Str.ofString "size", v4)]) ?ho ?hcd ?hbind ?hloc ?c1 ?c2 ?c3 ?c4 hb
  case ho => k_is
  case hcd => k_is
  case hbind => exact fun s _ => BindsTo.of_eq rfl
  case hloc => exact locs rfl
  case c1 => exact rfl
  case c2 => exact rfl
  case c3 => exact rfl
  case c4 => decide
theorem c_137 {w : World} {D U : Nat} {news : List (Addr × Obj)} {R : Value → List (Addr × Obj) → Prop} {v0 : Value}
    (hb : BodyN w D (U + 3) (Str.ofString "_law_other") fS22 137 (.ref 136) fB22 [(Str.ofString "far", v0)] news R) : ConN w (D + 1) (U + 6) (.ref 137) [v0] news R := by
  refine' con_of (binds := [(Str.ofString "far", v0)]) ?ho ?hcd ?hbind ?hloc ?c1 ?c2 ?c3 ?c4 hb
  case ho => k_is
  case hcd => k_is
  case hbind => exact fun s _ => BindsTo.of_eq rfl
  case hloc => exact locs rfl
  case c1 => exact rfl
  case c2 => exact rfl
  case c3 => exact rfl
  case c4 => decide
theorem c_144 {w : World} {D U : Nat} {news : List (Addr × Obj)} {R : Value → List (Addr × Obj) → Prop} {v0 : Value}
    (hb : BodyN w D (U + 3) (Str.ofString "_law_signs") fS23 144 (.ref 143) fB23 [(Str.ofString "far", v0)] news R) : ConN w (D + 1) (U + 6) (.ref 144) [v0] news R := by
  refine' con_of (binds := [(Str.ofString "far", v0)]) ?ho ?hcd ?hbind ?hloc ?c1 ?c2 ?c3 ?c4 hb
  case ho => k_is
  case hcd => k_is
  case hbind => exact fun s _ => BindsTo.of_eq rfl
  case hloc => exact locs rfl
  case c1 => exact rfl
  case c2 => exact rfl
  case c3 => exact rfl
  case c4 => decide
theorem c_151 {w : World} {D U : Nat} {news : List (Addr × Obj)} {R : Value → List (Addr × Obj) → Prop} {v0 v1 v2 : Value}
    (hb : BodyN w D (U + 3) (Str.ofString "_law_wrong") fS24 151 (.ref 150) fB24 [(Str.ofString "kind", v0), (Str.ofString "row", v1), (Str.ofString "far", v2)] news R) : ConN w (D + 1) (U + 6) (.ref 151) [v0, v1, v2] news R := by
  refine' con_of (binds := [(Str.ofString "kind", v0), (Str.ofString "row", v1), (Str.ofString "far", v2)]) ?ho ?hcd ?hbind ?hloc ?c1 ?c2 ?c3 ?c4 hb
  case ho => k_is
  case hcd => k_is
  case hbind => exact fun s _ => BindsTo.of_eq rfl
  case hloc => exact locs rfl
  case c1 => exact rfl
  case c2 => exact rfl
  case c3 => exact rfl
  case c4 => decide
theorem c_158 {w : World} {D U : Nat} {news : List (Addr × Obj)} {R : Value → List (Addr × Obj) → Prop} {v0 v1 v2 : Value}
    (hb : BodyN w D (U + 3) (Str.ofString "_law_answer") fS25 158 (.ref 157) fB25 [(Str.ofString "kind", v0), (Str.ofString "row", v1), (Str.ofString "far", v2)] news R) : ConN w (D + 1) (U + 6) (.ref 158) [v0, v1, v2] news R := by
  refine' con_of (binds := [(Str.ofString "kind", v0), (Str.ofString "row", v1), (Str.ofString "far", v2)]) ?ho ?hcd ?hbind ?hloc ?c1 ?c2 ?c3 ?c4 hb
  case ho => k_is
  case hcd => k_is
  case hbind => exact fun s _ => BindsTo.of_eq rfl
  case hloc => exact locs rfl
  case c1 => exact rfl
  case c2 => exact rfl
  case c3 => exact rfl
  case c4 => decide
end Mine
end
-- C3
section
open PySem PySem.W PySem.Spec PySem.Calls PyProof.Rows PyProof.Rows.LCg
set_option maxRecDepth 100000
set_option maxHeartbeats 1000000
set_option linter.unusedVariables false
namespace Mine
noncomputable def codeF (size : Nat) (i o msg : List UInt8) : List UInt8 := hsh size (o ++ hsh size (i ++ msg))
theorem codeF_length (size : Nat) (i o msg : List UInt8) : (codeF size i o msg).length = size := hsh_length _ _
/-- the list of a key's two pads -/
noncomputable def PadsAt (l : Addr) (i o : List UInt8) (news : List (Addr × Obj)) : Prop := ∃ t1 t2 k, (l, ({ cls := .type "list", data := .seq #[.bytes i.toArray t1, .bytes o.toArray t2] k } : Obj)) ∈ news
theorem r_item {prog : Program} {w : World} {A : Around} {E : Value → Shared → Prop} {s : Shared} {h₀ : Heap} {L : Addr} {news : List (Addr × Obj)} {value slice : PySem.Expr} {l : Addr} {vs : List Value} {n : Nat} {k : Int} {u : Tok} {v : Value} {Q : Value → Shared → Prop}
    (N : News h₀ L s.heap news) (hm : (l, listOf vs.toArray n) ∈ news) (h0 : 0 ≤ k) (hhi : k < 2 ^ 63) (hx : vs[k.toNat]? = some v) (hs : subscripted slice false (.ref l) (.int k u) = operate [.ref l, .int k u] (getItem (.ref l) (.int k u))) (h : Q v s) : wpAny (model prog w) A (subscriptTail value slice (.ref l) (.int k u)) Q E s := by
  have hl : s.heap.IsList l vs.toArray := ⟨_, (N _ hm).1, rfl, n, rfl⟩
  exact tail_any hl.typeIs slot_list_getitem.lookup (wpAny_getItem_list hl h0 hhi (by simpa using hx) h) hs
theorem ru11 : True := by
  k_with_none
  k_with "12 eval Name" => ((k_here; (first | (with_reducible show wpAny _ _ (eval (Expr.Name _ _) (envOf _ _ _ _ _)) _ _ _) | (with_reducible show wpAny _ _ (eval (Expr.Name _ _) (envOfC _ _ _ _ _)) _ _ _) | (with_reducible show wpAny _ _ (eval (Expr.Name _ _) (envX _ _ _ _ _ _)) _ _ _)); k_dflt (first
      | (refine' nameX_K ?F_0 ?X_0 ?T_0 ?e_0 ?_ ?a_0 ?b_0; (case b_0 => kernel_rfl!); (case a_0 => rfl); (case F_0 => k_asm); (case X_0 => k_asm); (case T_0 => k_asm); (case e_0 => k_is); k_whole)
      | (refine' nameX_L ?F_0 ?v_0 ?_ ?a_0 ?b_0; (case b_0 => kernel_rfl!); (case a_0 => rfl); (case F_0 => k_asm); (case v_0 => rfl); k_whole)
      | (refine' nameX_B ?F_0 ?X_0 ?T_0 ?e_0 ?v_0 ?n_0 ?_ ?a_0 ?b_0; (case b_0 => kernel_rfl!); (case a_0 => rfl); (case F_0 => k_asm); (case X_0 => k_asm); (case T_0 => k_asm); (case e_0 => k_is); (case v_0 => boot_fast); (case n_0 => decide); k_whole))))
  k_with "12 callWith ref" => ((k_here; (with_reducible show wpAny _ _ (callWith _ (Value.ref _) _ (backTo _ (starEach (_ :: _) _)) (backToKw _ _)) _ _ _); k_dflt (refine' callWith_KW ?k1_0 ?k2_0 ?k3_0 ?_; (case k1_0 => k_asm); (case k2_0 => k_is); (case k3_0 => exact rfl); k_whole)))
  k_with "1 subscriptTail" => ((k_here; (with_reducible show wpAny _ _ (subscriptTail _ _ (Value.ref _) (Value.int _ _)) _ _ _); k_dflt (refine r_item (by k_asm) (by assumption) (by decide) (by decide) rfl (by with_unfolding_all rfl) ?_)))
  k_with "1 call ref" => ((k_here; (with_reducible show wpAny _ _ (call (Value.ref 101) [Value.bytes (List.toArray _) _, Value.int _ _]) _ _ _); refine' use_con (hash_ok _ _ _ _ _ ?h1_16 ?h2_16 ?hb_16 _) ?B_16 ?F_16 ?X_16 ?N_16 ?T_16 ?hk_16 ?hd_16 ?hu_16 ?_; (case B_16 => k_asm); (case F_16 => k_asm); (case X_16 => k_asm); (case N_16 => k_asm); (case T_16 => k_asm); (case hk_16 => rfl); (case hd_16 => omega); (case hu_16 => omega); (case h1_16 => omega); (case h2_16 => omega); (case hb_16 => ((try simp only [List.length_append, hsh_length]); omega)); (intro r9 new9 h9 tk9 hR9 hA9 F9 N9; obtain ⟨hnew9, t9, hr9⟩ := hR9; subst hnew9; subst hr9; simp only [List.nil_append] at N9)))
  k_with "1 binaryOp Add bytes bytes" => ((k_here; (refine' r_add ?hlen_16 ?_; (case hlen_16 => ((try simp only [List.length_append, hsh_length]); omega)); intro _ _)))
  k_with "1 EndsN" => ((refine ends_ret (by k_asm) (by k_asm) (fun p hp => hp) ⟨_, rfl⟩))
  trivial
theorem code_ok (w : World) (l : Addr) (i o msg : List UInt8) (t t' : Tok) (size : Nat) (h1 : 1 ≤ size) (h2 : size ≤ 32) (hi : i.length ≤ 64) (ho : o.length ≤ 64) (hm : msg.length ≤ 1000) (news : List (Addr × Obj)) (hp : PadsAt l i o news) :
    Con w 2 40 (.ref 113) [.ref l, .bytes msg.toArray t, .int (size : Int) t'] news (fun r => ∃ tc, r = .bytes (codeF size i o msg).toArray tc) := by
  obtain ⟨t1, t2, k, hp⟩ := hp
  refine c_113 ?_
  intro dp un gd outer A₀ base g L' h₁ tk s p loose mean mg mb B F X N T hd hu
  k_fold
  k_steps
end Mine
end
-- Z1
section
open PySem PySem.W PySem.Spec PySem.Calls PyProof.Rows PyProof.Rows.LCg
set_option maxRecDepth 100000
set_option maxHeartbeats 4000000
set_option linter.unusedVariables false
namespace Mine
theorem ru12 : True := by
  k_with_none
  k_with "12 eval Name" => ((k_here; (first | (with_reducible show wpAny _ _ (eval (Expr.Name _ _) (envOf _ _ _ _ _)) _ _ _) | (with_reducible show wpAny _ _ (eval (Expr.Name _ _) (envOfC _ _ _ _ _)) _ _ _) | (with_reducible show wpAny _ _ (eval (Expr.Name _ _) (envX _ _ _ _ _ _)) _ _ _)); k_dflt (first
      | (refine' nameX_K ?F_0 ?X_0 ?T_0 ?e_0 ?_ ?a_0 ?b_0; (case b_0 => kernel_rfl!); (case a_0 => rfl); (case F_0 => k_asm); (case X_0 => k_asm); (case T_0 => k_asm); (case e_0 => k_is); k_whole)
      | (refine' nameX_L ?F_0 ?v_0 ?_ ?a_0 ?b_0; (case b_0 => kernel_rfl!); (case a_0 => rfl); (case F_0 => k_asm); (case v_0 => rfl); k_whole)
      | (refine' nameX_B ?F_0 ?X_0 ?T_0 ?e_0 ?v_0 ?n_0 ?_ ?a_0 ?b_0; (case b_0 => kernel_rfl!); (case a_0 => rfl); (case F_0 => k_asm); (case X_0 => k_asm); (case T_0 => k_asm); (case e_0 => k_is); (case v_0 => boot_fast); (case n_0 => decide); k_whole))))
  k_with "12 callWith ref" => ((k_here; (with_reducible show wpAny _ _ (callWith _ (Value.ref _) _ (backTo _ (starEach (_ :: _) _)) (backToKw _ _)) _ _ _); k_dflt (refine' callWith_KW ?k1_0 ?k2_0 ?k3_0 ?_; (case k1_0 => k_asm); (case k2_0 => k_is); (case k3_0 => exact rfl); k_whole)))
  trivial
section
variable {prog : Program} {w : World} {A : Around} {E : Value → Shared → Prop} {s : Shared}
theorem nextOf_b {it : Addr} {b : Array UInt8} {t : Tok} {i : Nat} {c : UInt8} {Q : Value → Shared → Prop} (hit : KBw.IsBytesIter s.heap it b t i) (hx : b[i]? = some c)
    (hQ : ∀ h' u k, KBw.IsBytesIter h' it b t (i + 1) → Heap.SameBut it s.heap h' → Q (.int (c.toNat : Int) u) { s with heap := h', toks := k }) : wpAny (model prog w) A (Builtin.SmallTypes.nextOf (.ref it)) Q E s := by
  unfold Builtin.SmallTypes.nextOf
  refine wpAny_bind (wpAny_callSpecial?_slot (name := PySem.Str.ofString "__next__") (KBw.iter_typeIs hit) KBw.slot_next
    (wpAny_call_entry KBw.slot_next (KBw.iter_typeIs hit) KBw.entry_next ?_ (KBw.args_next _)))
  obtain ⟨o, ho, hc, hd⟩ := id hit
  show wpAny _ _ (field (.ref it) 0 >>= _) _ _ s
  refine wpAny_bind (wpAny_field ho hd (x := .bytes b t) rfl ?_)
  show wpAny _ _ (if (Value.bytes b t == Value.none) = true then _ else _) _ _ s
  rw [if_neg (show ¬ ((Value.bytes b t == Value.none) = true) from Bool.false_ne_true)]
  show wpAny _ _ (field (.ref it) 1 >>= _) _ _ s
  refine wpAny_bind (wpAny_field ho hd (x := .int i 0) rfl ?_)
  refine wpAny_bind (wpAny_of_eq (a := b) rfl ?_)
  simp only [Int.toNat_natCast, hx]
  refine wpAny_bind (wpAny_setField ho hd (by simp) (wpAny_bind (wpAny_mkInt (wpAny_pure ⟨_, rfl, wpAny_pure (hQ _ _ _ ?_ (Heap.SameBut.update ..))⟩))))
  exact ⟨_, Heap.get?_update_self _ ho (Obj.isFreed_of_fields (Obj.data_mapFields hd _)), (Obj.cls_mapFields ..).trans hc, by
    rw [Obj.data_mapFields hd]; simp [rawInt]⟩
theorem ib_at {h h' : Heap} {a : Addr} {b : Array UInt8} {t : Tok} {i : Nat} (e : ∀ o, h.get? a = some o → h'.get? a = some o) (y : KBw.IsBytesIter h a b t i) : KBw.IsBytesIter h' a b t i := by
  obtain ⟨o, q, r⟩ := y; exact ⟨o, e o q, r⟩
theorem ib_ext {h h' : Heap} {z a : Addr} {b : Array UInt8} {t : Tok} {i : Nat} (e : Heap.ExtBut z h h') (ne : a ≠ z) (y : KBw.IsBytesIter h a b t i) : KBw.IsBytesIter h' a b t i := ib_at (fun o q => e _ o ne q) y
structure ZApart (z TI TO i1 i2 l1 : Addr) : Prop where
  TIz : TI ≠ z
  TOz : TO ≠ z
  i1z : i1 ≠ z
  i2z : i2 ≠ z
  TITO : TI ≠ TO
  TIi1 : TI ≠ i1
  TIi2 : TI ≠ i2
  TOi1 : TO ≠ i1
  TOi2 : TO ≠ i2
  i12 : i1 ≠ i2
  l1z : l1 ≠ z
  l1TO : l1 ≠ TO
  l1i1 : l1 ≠ i1
  l1i2 : l1 ≠ i2

theorem zb_next_item {z TI TO i1 i2 l1 : Addr} {k1 k2 : Nat} {xs : Array Value} {b2 : Array UInt8} {t2 : Tok} {c2 : UInt8} {x a b : Value} {Q : Value → Shared → Prop} (D : ZApart z TI TO i1 i2 l1)
    (hz : IsZip s.heap z TI TO .none) (hTI : IsPair s.heap TI (.ref i1) (.ref i2)) (hTO : IsPair s.heap TO a b)
    (h1 : s.heap.IsListIter i1 l1 k1) (h2 : KBw.IsBytesIter s.heap i2 b2 t2 k2) (hl1 : s.heap.IsList l1 xs) (hx : xs[k1]? = some x) (hy : b2[k2]? = some c2)
    (hQ : ∀ h' u k, IsZip h' z TI TO (rawInt s.heap.objs.size) → IsPair h' TO x (.int (c2.toNat : Int) u) → h'.IsListIter i1 l1 (k1 + 1) → KBw.IsBytesIter h' i2 b2 t2 (k2 + 1) → IsPair h' s.heap.objs.size x (.int (c2.toNat : Int) u) → h'.objs.size = s.heap.objs.size + 1 →
      (∀ c o, c ≠ z → c ≠ TO → c ≠ i1 → c ≠ i2 → s.heap.get? c = some o → h'.get? c = some o) → Q (.ref s.heap.objs.size) { s with heap := h', toks := k }) :
    wpAny (model prog w) A (Builtin.«zip.__next__» ⟨[.ref z], []⟩) (fun fin s' => ∃ v, fin = .done (.ret v) ∧ Q v s') E s := by
  show wpAny _ _ (field (.ref z) 2 >>= _) _ _ _
  refine wpAny_bind (wpAny_field hz rfl (x := .bool false) rfl ?_)
  show wpAny _ _ (field (.ref z) 3 >>= _) _ _ _
  refine wpAny_bind (wpAny_field hz rfl (x := .ref TI) rfl ?_)
  refine wpAny_bind (wpAny_seqItems hTI rfl ?_)
  show wpAny _ _ (Builtin.SmallTypes.ownedTupleIsFree (.ref z) >>= _) _ _ _
  refine wpAny_bind ?_
  unfold Builtin.SmallTypes.ownedTupleIsFree
  refine wpAny_bind (wpAny_field hz rfl (x := .none) rfl (wpAny_pure ?_))
  simp only [if_true]
  refine wpAny_bind (wpAny_rule ?_)
  refine wpAny_bind (wpAny_field hz rfl (x := .ref TO) rfl ?_)
  refine wpAny_bind (wpAny_setField_rec hz (by simp) fun h₁ hz₁ hs₁ => ?_)
  replace hz₁ : IsZip h₁ z TI TO .ellipsis := hz₁
  refine wpAny_bind ?_
  simp only [List.zipIdx_cons, List.zipIdx_nil, List.forIn_cons, List.forIn_nil]

  refine wpAny_bind (wpAny_bind (wpAny_onRaise ?_))
  show wpAny _ _ (Builtin.SmallTypes.nextOf (.ref i1) >>= _) _ _ _
  refine wpAny_bind (wpAny_nextOf_list_item (h1.extBut hs₁.extBut D.i1z) (hl1.extBut hs₁.extBut D.l1z) hx fun h₂ h1₂ hs₂ => wpAny_pure ?_)
  have hTO₂ : IsPair h₂ TO a b := hs₂.extBut _ _ D.TOi1 (hs₁.extBut _ _ D.TOz hTO)
  refine wpAny_bind (wpAny_seqItems hTO₂ rfl ?_)
  refine wpAny_bind (wpAny_updateSeq_pair hTO₂ fun h₃ hTO₃ hs₃ => ?_)
  replace hTO₃ : IsPair h₃ TO x b := hTO₃
  refine wpAny_bind (wpAny_letGo (wpAny_pure ?_))

  refine wpAny_bind (wpAny_bind (wpAny_onRaise ?_))
  show wpAny _ _ (Builtin.SmallTypes.nextOf (.ref i2) >>= _) _ _ _
  refine wpAny_bind (nextOf_b (ib_ext hs₃.extBut D.TOi2.symm (ib_ext hs₂.extBut D.i12.symm (ib_ext hs₁.extBut D.i2z h2))) hy fun h₄ u₄ k₄ h2₄ hs₄ => wpAny_pure ?_)
  have hTO₄ : IsPair h₄ TO x b := hs₄.extBut _ _ D.TOi2 hTO₃
  refine wpAny_bind (wpAny_seqItems hTO₄ rfl ?_)
  refine wpAny_bind (wpAny_updateSeq_pair hTO₄ fun h₅ hTO₅ hs₅ => ?_)
  replace hTO₅ : IsPair h₅ TO x (.int (c2.toNat : Int) u₄) := hTO₅
  refine wpAny_bind (wpAny_letGo (wpAny_pure (wpAny_pure ?_)))

  refine wpAny_bind (wpAny_seqItems hTO₅ rfl ?_)
  refine wpAny_bind (wpAny_newTuple ?_)
  have hsz : h₅.objs.size = s.heap.objs.size := by rw [hs₅.1, hs₄.1, hs₃.1, hs₂.1, hs₁.1]
  have hz₅ : IsZip h₅ z TI TO .ellipsis := hs₅.extBut _ _ D.TOz.symm (hs₄.extBut _ _ D.i2z.symm (hs₃.extBut _ _ D.TOz.symm (hs₂.extBut _ _ D.i1z.symm hz₁)))
  have hk₅ : ∀ c o, c ≠ z → c ≠ TO → c ≠ i1 → c ≠ i2 → s.heap.get? c = some o → h₅.get? c = some o := fun c o c1 c2 c3 c4 e =>
    hs₅.extBut _ _ c2 (hs₄.extBut _ _ c4 (hs₃.extBut _ _ c2 (hs₂.extBut _ _ c3 (hs₁.extBut _ _ c1 e))))
  have h1₅ : h₅.IsListIter i1 l1 (k1 + 1) := ((h1₂.extBut hs₃.extBut D.TOi1.symm).extBut hs₄.extBut D.i12).extBut hs₅.extBut D.TOi1.symm
  have h2₅ : KBw.IsBytesIter h₅ i2 b2 t2 (k2 + 1) := ib_ext hs₅.extBut D.TOi2.symm h2₄
  have hzlt : z < h₅.objs.size := Heap.lt_size hz₅
  have hTOlt : TO < h₅.objs.size := Heap.lt_size hTO₅
  have hi1lt : i1 < h₅.objs.size := by obtain ⟨_, e, _⟩ := h1₅; exact Heap.lt_size e
  have hi2lt : i2 < h₅.objs.size := by obtain ⟨_, e, _⟩ := h2₅; exact Heap.lt_size e
  show wpAny _ _ (Builtin.SmallTypes.ownedTupleHandOut (.ref z) (.ref h₅.objs.size) >>= _) _ _ _
  refine wpAny_bind ?_
  unfold Builtin.SmallTypes.ownedTupleHandOut
  have hz₆ : IsZip (h₅.push { cls := .type "tuple", data := .seq #[x, .int (c2.toNat : Int) u₄] }) z TI TO .ellipsis := Heap.get?_push_of_some _ hz₅
  refine wpAny_bind (wpAny_setField_rec hz₆ (by simp) fun h₇ hz₇ hs₇ => ?_)
  replace hz₇ : IsZip h₇ z TI TO (rawInt h₅.objs.size) := hz₇
  refine wpAny_setField_rec hz₇ (by simp) fun h₈ hz₈ hs₈ => ?_
  replace hz₈ : IsZip h₈ z TI TO (rawInt h₅.objs.size) := hz₈
  have up : ∀ c o, c ≠ z → h₅.get? c = some o → h₈.get? c = some o := fun c o c1 e => hs₈.extBut _ _ c1 (hs₇.extBut _ _ c1 (Heap.get?_push_of_some _ e))
  have hT₈ : IsPair h₈ h₅.objs.size x (.int (c2.toNat : Int) u₄) := hs₈.extBut _ _ (Nat.ne_of_gt hzlt) (hs₇.extBut _ _ (Nat.ne_of_gt hzlt) (Heap.get?_push_size _ rfl))
  have hz8 : h₈.objs.size = h₅.objs.size + 1 := by rw [hs₈.1, hs₇.1, Heap.size_push]
  rw [hsz] at hz₈ hT₈ hz8
  refine wpAny_pure ⟨_, rfl, ?_⟩
  show Q (.ref h₅.objs.size) _
  rw [hsz]
  exact hQ h₈ _ _ hz₈ (up _ _ D.TOz hTO₅) (h1₅.at fun o e => up _ o D.i1z e) (ib_at (fun o e => up _ o D.i2z e) h2₅) hT₈ hz8 fun c o c1 c2 c3 c4 e => up c o c1 (hk₅ c o c1 c2 c3 c4 e)

theorem zb_next_end {z TI TO i1 i2 l1 : Addr} {k1 k2 : Nat} {xs : Array Value} {b2 : Array UInt8} {t2 : Tok} {a b : Value} {Q : Fin → Shared → Prop} (hh : A.handled = none) (D : ZApart z TI TO i1 i2 l1)
    (hz : IsZip s.heap z TI TO .none) (hTI : IsPair s.heap TI (.ref i1) (.ref i2)) (hTO : IsPair s.heap TO a b)
    (h1 : s.heap.IsListIter i1 l1 k1) (h2 : KBw.IsBytesIter s.heap i2 b2 t2 k2) (hl1 : s.heap.IsList l1 xs) (hend : xs[k1]? = none)
    (hE : ∀ h' e, (∀ c o, c ≠ z → c ≠ TO → c ≠ i1 → c ≠ i2 → s.heap.get? c = some o → h'.get? c = some o) → (∃ o, h'.get? e = some o ∧ o.cls = .type "StopIteration") → E (.ref e) { s with heap := h' }) :
    wpAny (model prog w) A (Builtin.«zip.__next__» ⟨[.ref z], []⟩) Q E s := by
  show wpAny _ _ (field (.ref z) 2 >>= _) _ _ _
  refine wpAny_bind (wpAny_field hz rfl (x := .bool false) rfl ?_)
  show wpAny _ _ (field (.ref z) 3 >>= _) _ _ _
  refine wpAny_bind (wpAny_field hz rfl (x := .ref TI) rfl ?_)
  refine wpAny_bind (wpAny_seqItems hTI rfl ?_)
  show wpAny _ _ (Builtin.SmallTypes.ownedTupleIsFree (.ref z) >>= _) _ _ _
  refine wpAny_bind ?_
  unfold Builtin.SmallTypes.ownedTupleIsFree
  refine wpAny_bind (wpAny_field hz rfl (x := .none) rfl (wpAny_pure ?_))
  simp only [if_true]
  refine wpAny_bind (wpAny_rule ?_)
  refine wpAny_bind (wpAny_field hz rfl (x := .ref TO) rfl ?_)
  refine wpAny_bind (wpAny_setField_rec hz (by simp) fun h₁ hz₁ hs₁ => ?_)
  replace hz₁ : IsZip h₁ z TI TO .ellipsis := hz₁
  refine wpAny_bind ?_
  simp only [List.zipIdx_cons, List.zipIdx_nil, List.forIn_cons, List.forIn_nil]
  refine wpAny_bind (wpAny_bind (wpAny_onRaise ?_))
  show wpAny _ _ (Builtin.SmallTypes.nextOf (.ref i1) >>= _) _ _ _
  refine wpAny_bind (wpAny_nextOf_list_end hh (h1.extBut hs₁.extBut D.i1z) (hl1.extBut hs₁.extBut D.l1z) hend fun h₂ e hs₂ he => ?_)
  obtain ⟨oe, hoe, hce⟩ := he
  have hz₂ : IsZip h₂ z TI TO .ellipsis := hs₂ _ _ D.i1z.symm hz₁
  have hez : e ≠ z := fun x => by subst x; rw [hz₂] at hoe; cases hoe; simp at hce
  refine wpAny_setField_rec hz₂ (by simp) fun h₃ _ hs₃ => hE h₃ e (fun c o c1 _ c3 _ x => hs₃.extBut _ _ c1 (hs₂ _ _ c3 (hs₁.extBut _ _ c1 x))) ⟨oe, hs₃.extBut _ _ hez hoe, hce⟩
theorem zb_pyNext_item {z TI TO i1 i2 l1 : Addr} {k1 k2 : Nat} {xs : Array Value} {b2 : Array UInt8} {t2 : Tok} {c2 : UInt8} {x a b : Value} {Q : Option Value → Shared → Prop} (D : ZApart z TI TO i1 i2 l1)
    (hz : IsZip s.heap z TI TO .none) (hTI : IsPair s.heap TI (.ref i1) (.ref i2)) (hTO : IsPair s.heap TO a b)
    (h1 : s.heap.IsListIter i1 l1 k1) (h2 : KBw.IsBytesIter s.heap i2 b2 t2 k2) (hl1 : s.heap.IsList l1 xs) (hx : xs[k1]? = some x) (hy : b2[k2]? = some c2)
    (hQ : ∀ h' u k, IsZip h' z TI TO (rawInt s.heap.objs.size) → IsPair h' TO x (.int (c2.toNat : Int) u) → h'.IsListIter i1 l1 (k1 + 1) → KBw.IsBytesIter h' i2 b2 t2 (k2 + 1) → IsPair h' s.heap.objs.size x (.int (c2.toNat : Int) u) → h'.objs.size = s.heap.objs.size + 1 →
      (∀ c o, c ≠ z → c ≠ TO → c ≠ i1 → c ≠ i2 → s.heap.get? c = some o → h'.get? c = some o) → Q (some (.ref s.heap.objs.size)) { s with heap := h', toks := k }) :
    wpAny (model prog w) A (pyNext (.ref z)) Q E s := by
  have hT : s.TypeIs (.ref z) "zip" := ⟨_, hz, rfl⟩
  unfold pyNext
  exact wpAny_bind (wpAny_attempt (wpAny_callSpecial?_slot (name := Str.ofString "__next__") hT PySem.F.slot_zip_next
    (wpAny_call_entry PySem.F.slot_zip_next hT PySem.F.entry_zip_next
      (zb_next_item D hz hTI hTO h1 h2 hl1 hx hy fun h' u k a1 a2 a3 a4 a5 a6 a7 => wpAny_pure (hQ h' u k a1 a2 a3 a4 a5 a6 a7)) (PySem.F.args_zip_next_1 _))))

theorem zb_pyNext_end {z TI TO i1 i2 l1 : Addr} {k1 k2 : Nat} {xs : Array Value} {b2 : Array UInt8} {t2 : Tok} {a b : Value} {Q : Option Value → Shared → Prop} (hh : A.handled = none) (D : ZApart z TI TO i1 i2 l1)
    (hz : IsZip s.heap z TI TO .none) (hTI : IsPair s.heap TI (.ref i1) (.ref i2)) (hTO : IsPair s.heap TO a b)
    (h1 : s.heap.IsListIter i1 l1 k1) (h2 : KBw.IsBytesIter s.heap i2 b2 t2 k2) (hl1 : s.heap.IsList l1 xs) (hend : xs[k1]? = none)
    (hQ : ∀ h', (∀ c o, c ≠ z → c ≠ TO → c ≠ i1 → c ≠ i2 → s.heap.get? c = some o → h'.get? c = some o) → Q none { s with heap := h' }) : wpAny (model prog w) A (pyNext (.ref z)) Q E s := by
  have hT : s.TypeIs (.ref z) "zip" := ⟨_, hz, rfl⟩
  unfold pyNext
  refine wpAny_bind (wpAny_attempt (wpAny_callSpecial?_slot (name := Str.ofString "__next__") hT PySem.F.slot_zip_next
    (wpAny_call_entry PySem.F.slot_zip_next hT PySem.F.entry_zip_next (zb_next_end hh D hz hTI hTO h1 h2 hl1 hend fun h' e hk he => ?_) (PySem.F.args_zip_next_1 _))))
  obtain ⟨o, ho, hc⟩ := he
  refine wpAny_bind (wpAny_isInstance (T := "StopIteration") (b := true) ⟨o, ho, hc⟩ isSubtype_stop ?_)
  exact wpAny_pure (hQ _ hk)

end
end Mine
end
-- Z2
section
open PySem PySem.W PySem.Spec PySem.Calls PyProof.Rows PyProof.Rows.LCg
set_option maxRecDepth 100000
set_option maxHeartbeats 4000000
set_option linter.unusedVariables false
namespace Mine
noncomputable abbrev zbH1 (h : Heap) (l1 : Addr) : Heap := h.push { cls := .type "list_iterator", data := .fields #[.ref l1, .int 0 0] }
noncomputable abbrev zbH2 (h : Heap) (l1 : Addr) (b : Array UInt8) (t : Tok) : Heap := (zbH1 h l1).push { cls := .type "bytes_iterator", data := .fields #[.bytes b t, .int 0 0] }
noncomputable abbrev zbH3 (h : Heap) (l1 : Addr) (b : Array UInt8) (t : Tok) : Heap := (zbH2 h l1 b t).push { cls := .type "tuple", data := .seq #[.ref h.objs.size, .ref (zbH1 h l1).objs.size] }
noncomputable abbrev zbH4 (h : Heap) (l1 : Addr) (b : Array UInt8) (t : Tok) : Heap := (zbH3 h l1 b t).push { cls := .type "tuple", data := .seq #[.none, .none] }
noncomputable abbrev zbH5 (h : Heap) (l1 : Addr) (b : Array UInt8) (t : Tok) : Heap := (zbH4 h l1 b t).push { cls := .type "zip", data := .fields #[.none, .bool false, .bool false, .ref (zbH2 h l1 b t).objs.size, .ref (zbH3 h l1 b t).objs.size] }
theorem meets_zb (l1 : Addr) (b : Array UInt8) (t : Tok) (xs : Array Value) :
    Meets (Builtin.«zip.__new__» ⟨[.type "zip", .ref l1, .bytes b t], []⟩) (fun _ R s => s.heap.IsList l1 xs ∧
      R (.ok (.ret (.ref (zbH4 s.heap l1 b t).objs.size))) { s with heap := zbH5 s.heap l1 b t }) :=
  .of_wp fun prog w A R s h => by
    obtain ⟨hp, g, d, tk, os⟩ := s; obtain ⟨hl1, h⟩ := h
    have hsub := sub_zip
    have hL1 : Heap.IsList (Shared.heap ⟨hp, g, d, tk, os⟩) l1 xs := hl1
    wp_walk using wpAny_pyIter_list hL1, @KBw.pyIter_bytes
    exact ⟨_, rfl, h⟩
section
variable {prog : Program} {w : World} {A : Around} {E : Value → Shared → Prop} {s : Shared}
theorem call_zb {l1 : Addr} {b : Array UInt8} {t : Tok} {xs : Array Value} {Q : Value → Shared → Prop} (hl1 : s.heap.IsList l1 xs)
    (h : ∀ h', IsZip h' (s.heap.objs.size + 4) (s.heap.objs.size + 2) (s.heap.objs.size + 3) .none → IsPair h' (s.heap.objs.size + 2) (.ref s.heap.objs.size) (.ref (s.heap.objs.size + 1)) →
      IsPair h' (s.heap.objs.size + 3) .none .none → h'.IsListIter s.heap.objs.size l1 0 → KBw.IsBytesIter h' (s.heap.objs.size + 1) b t 0 → h'.objs.size = s.heap.objs.size + 5 →
      (∀ c o, s.heap.get? c = some o → h'.get? c = some o) → Q (.ref (s.heap.objs.size + 4)) { s with heap := h' }) :
    wpAny (model prog w) A (call (.type "zip") [.ref l1, .bytes b t]) Q E s := by
  refine callType_new PySem.F.called_zip (by decide) (PySem.F.typeCall_zip_2 _ _) (PySem.F.newCall_zip_2 _ _) (fun obj => PySem.F.args_object_init_3 obj _ _) PySem.F.entry_zip_new
    (meets_zb l1 b t xs) ⟨hl1, ?_⟩
  have z1 : (zbH1 s.heap l1).objs.size = s.heap.objs.size + 1 := Heap.size_push ..
  have z2 : (zbH2 s.heap l1 b t).objs.size = s.heap.objs.size + 2 := by rw [Heap.size_push, z1]
  have z3 : (zbH3 s.heap l1 b t).objs.size = s.heap.objs.size + 3 := by rw [Heap.size_push, z2]
  have z4 : (zbH4 s.heap l1 b t).objs.size = s.heap.objs.size + 4 := by rw [Heap.size_push, z3]
  have z5 : (zbH5 s.heap l1 b t).objs.size = s.heap.objs.size + 5 := by rw [Heap.size_push, z4]
  have g5 : (zbH5 s.heap l1 b t).get? (zbH4 s.heap l1 b t).objs.size = some _ := Heap.get?_push_size _ rfl
  have g4 : (zbH5 s.heap l1 b t).get? (zbH3 s.heap l1 b t).objs.size = some _ := Heap.get?_push_of_some _ (Heap.get?_push_size _ rfl)
  have g3 : (zbH5 s.heap l1 b t).get? (zbH2 s.heap l1 b t).objs.size = some _ := Heap.get?_push_of_some _ (Heap.get?_push_of_some _ (Heap.get?_push_size _ rfl))
  have g2 : (zbH5 s.heap l1 b t).get? (zbH1 s.heap l1).objs.size = some _ := Heap.get?_push_of_some _ (Heap.get?_push_of_some _ (Heap.get?_push_of_some _ (Heap.get?_push_size _ rfl)))
  have g1 : (zbH5 s.heap l1 b t).get? s.heap.objs.size = some _ := Heap.get?_push_of_some _ (Heap.get?_push_of_some _ (Heap.get?_push_of_some _ (Heap.get?_push_of_some _ (Heap.get?_push_size _ rfl))))
  show _ ∧ _
  rw [z2, z3, z4] at g5
  rw [z1, z2] at g3
  rw [z3] at g4
  rw [z1] at g2
  rw [z4]
  exact ⟨⟨_, g5, rfl⟩, h _ g5 g3 g4 ⟨_, g1, rfl, rfl⟩ ⟨_, g2, rfl, rfl⟩ z5 fun c o x =>
    Heap.get?_push_of_some _ (Heap.get?_push_of_some _ (Heap.get?_push_of_some _ (Heap.get?_push_of_some _ (Heap.get?_push_of_some _ x))))⟩
end
end Mine
end
-- Z3
section
open PySem PySem.W PySem.Spec PySem.Calls PyProof.Rows PyProof.Rows.LCg
set_option maxRecDepth 100000
set_option maxHeartbeats 4000000
set_option linter.unusedVariables false
namespace Mine
section
variable {prog : Program} {w : World} {A : Around} {E : Value → Shared → Prop} {s : Shared} {h₀ : Heap} {L : Addr} {m : Str → Option Value} {env : Env}
theorem fr_wr {h h' : Heap} {wr : List Addr} (F : Fr h₀ L h m) (hk : ∀ b o, b ∉ wr → h.get? b = some o → h'.get? b = some o) (hL : L ∉ wr) (h0 : ∀ b ∈ wr, h₀.get? b = none) : Fr h₀ L h' m :=
  ⟨F.ns.at' fun o e => hk L o hL e, fun b o e => hk b o (fun hm => by rw [h0 b hm] at e; cases e) (F.keep b o e), F.above⟩
theorem news_wr {h h' : Heap} {wr : List Addr} {news : List (Addr × Obj)} (N : News h₀ L h news) (hk : ∀ b o, b ∉ wr → h.get? b = some o → h'.get? b = some o) (off : ∀ p ∈ news, p.1 ∉ wr) : News h₀ L h' news :=
  fun p hp => ⟨hk _ _ (off p hp) (N p hp).1, (N p hp).2⟩
theorem off1_of {D : Addr} : ∀ {l : List (Addr × Obj)}, (∀ p ∈ l, p.1 ≠ D) → Off1 D l
  | [], _ => trivial
  | p :: l, h => ⟨h p List.mem_cons_self, off1_of fun q hq => h q (List.mem_cons_of_mem _ hq)⟩
/-- a pair's item, evaluated with nothing changed -/
noncomputable def PairTurn (prog : Program) (w : World) (A : Around) (h₀ : Heap) (L : Addr) (m : Str → Option Value) (env : Env) (elt : PySem.Expr) (x x₂ : Str) (scope : Scope) (cl : List (Str × Addr)) (s : Shared) (news : List (Addr × Obj)) (Pt : Nat → Value → Value → Prop) (Y : Nat → Value → Prop) : Prop :=
  ∀ i v₁ v₂ C oC m₂ h tk (E' : Value → Shared → Prop), Pt i v₁ v₂ → NsObj oC m₂ → m₂ x = some v₁ → m₂ x₂ = some v₂ → Fr h₀ L h m → News h₀ L h ((C, oC) :: news) → (∀ p ∈ news, p.1 ≠ C) →
    wpAny (model prog w) A (eval elt (compEnvC scope cl C env)) (fun y s₂ => ∃ tk', s₂ = { s with heap := h, toks := tk' } ∧ Y i y) E' { s with heap := h, toks := tk }
theorem block_Z {elt iter : PySem.Expr} {x x₂ : Str} {px px₂ tp : Pos} {tk} {scope : Scope} {cl : List (Str × Addr)} {pos : Pos} {s₂ : Shared} {z : Addr} {fp wr : List Addr} {n : Nat} {Pt : Nat → Value → Value → Prop} {Y : Nat → Value → Prop} {St : Nat → Heap → Prop} {Mid : Nat → Addr → Heap → Prop} {news : List (Addr × Obj)}
    {RR : Value → Addr → Result → Shared → Prop}
    (W : WalksT prog w A z fp wr n (fun i vals => ∃ a b, vals = #[a, b] ∧ Pt i a b) St Mid) (hsz : n ≤ sizeLine)
    (hcell : ∀ y ∈ scope.names, y.2 ≠ .cell) (hkind : scope.kind = .function) (hx : scope.names.lookup x = some .local) (hx₂ : scope.names.lookup x₂ = some .local) (hxx : x ≠ x₂) (hh : A.handled = none) (hst : St 0 s₂.heap) (hfp : ∀ b ∈ fp, b < s₂.heap.objs.size)
    (F : Fr h₀ L s₂.heap m) (N : News h₀ L s₂.heap news) (hwL : L ∉ wr) (hw₀ : ∀ b ∈ wr, h₀.get? b = none) (off : ∀ p ∈ news, p.1 ∉ wr)
    (R : PairTurn prog w A h₀ L m env elt x x₂ scope cl s₂ news Pt Y)
    (hRR : ∀ D C h tk m' ys, Fr h₀ L h m → News h₀ L h ((D, lst ys) :: news) → Off1 D news → h.Ns C m' → h₀.get? C = none → h₀.get? D = none → C ≠ L → D ≠ L → C ≠ D → (∀ p ∈ news, p.1 ≠ C) → Each n Y ys → RR (.ref D) C (.ok .next) { s₂ with heap := h, toks := tk }) :
    wpAny (model prog w) A (newList []) (fun acc s₃ => wpAny (model prog w) A (newFunctionEnv scope env.globals cl [] env.qual none .none (some env)) (fun cenv s₄ =>
      codeAny (model prog w) A (.compStart (.ListComp elt [⟨.Tuple [.Name x px, .Name x₂ px₂] tk tp, iter, [], 0⟩] scope pos) 0 (.ref z) acc { cenv with scope := relabel scope env }) (RR acc cenv.locals) s₄) E s₃) E s₂ := by
  refine wpAny_newObj_type (wpAny_newFunctionEnv hcell (by intro y hy; simp at hy) (fun h₁ hns₁ hsb₁ => ?_) hkind)
  dsimp only at hns₁ hsb₁ ⊢
  generalize hH2 : s₂.heap.push { cls := .type "list", dict := none, data := .seq ([] : List Value).toArray } = H2 at hns₁ hsb₁ ⊢
  have hC : H2.objs.size = s₂.heap.objs.size + 1 := by rw [← hH2, Heap.size_push]
  have hDC : s₂.heap.objs.size ≠ H2.objs.size := by rw [hC]; exact Nat.ne_of_lt (Nat.lt_succ_self _)
  have below : ∀ b, b < s₂.heap.objs.size → b ≠ H2.objs.size ∧ b ≠ s₂.heap.objs.size := fun b hb => ⟨by rw [hC]; exact Nat.ne_of_lt (Nat.lt_succ_of_lt hb), Nat.ne_of_lt hb⟩
  have hDf : s₂.heap.objs.size ∉ fp := fun hm => Nat.lt_irrefl _ (hfp _ hm)
  have hCf : H2.objs.size ∉ fp := fun hm => by have := hfp _ hm; rw [hC] at this; exact Nat.lt_irrefl _ (Nat.lt_of_succ_lt this)
  have hDw : s₂.heap.objs.size ∉ wr := fun hm => hDf (W.sub _ hm)
  have hCw : H2.objs.size ∉ wr := fun hm => hCf (W.sub _ hm)
  have old : ∀ b o, s₂.heap.get? b = some o → h₁.get? b = some o := fun b o e => hsb₁.extBut b o (below b (Heap.lt_size e)).1 (Heap.get?_push_of_some _ (hH2 ▸ Heap.get?_push_of_some _ e))
  have hacc : h₁.get? s₂.heap.objs.size = some (lst []) := hsb₁.extBut _ _ hDC (Heap.get?_push_of_some _ (hH2 ▸ Heap.get?_push_size _ rfl))
  have hst₁ : St 0 h₁ := W.frame _ _ _ hst fun b _ o e => old b o e
  have fresh : ∀ a, s₂.heap.objs.size ≤ a → s₂.heap.get? a = none := fun a ha => by
    cases e : s₂.heap.get? a with
    | none => rfl
    | some o' => exact absurd (Heap.lt_size e) (Nat.not_lt.mpr ha)
  have fresh₀ : ∀ a, s₂.heap.objs.size ≤ a → h₀.get? a = none := fun a ha => by
    cases e : h₀.get? a with
    | none => rfl
    | some o' => have := F.keep a o' e; rw [fresh a ha] at this; cases this
  have hD₀ : h₀.get? s₂.heap.objs.size = none := fresh₀ _ (Nat.le_refl _)
  have hC₀ : h₀.get? H2.objs.size = none := fresh₀ _ (by rw [hC]; exact Nat.le_succ _)
  have hLlt : L < s₂.heap.objs.size := F.ns.lt
  have hDL : s₂.heap.objs.size ≠ L := Ne.symm (below L hLlt).2
  have hCL : H2.objs.size ≠ L := Ne.symm (below L hLlt).1
  have offC : ∀ p ∈ news, p.1 ≠ H2.objs.size := fun p hp => (below _ (Heap.lt_size (N p hp).1)).1
  have offD : ∀ p ∈ news, p.1 ≠ s₂.heap.objs.size := fun p hp => (below _ (Heap.lt_size (N p hp).1)).2
  have offDw : ∀ ys, ∀ p ∈ (s₂.heap.objs.size, lst ys) :: news, p.1 ∉ wr := fun ys p hp => by
    rcases List.mem_cons.mp hp with rfl | hp
    · exact hDw
    · exact off p hp
  have loop : ∀ s₃ : Shared, s₃ = { s₂ with heap := h₁, toks := s₂.toks + ([] : List (Str × Value)).length } →
      codeAny (model prog w) A (.compLoop (.ListComp elt [⟨.Tuple [.Name x px, .Name x₂ px₂] tk tp, iter, [], 0⟩] scope pos) 0 (.ref z) (.ref s₂.heap.objs.size) (compEnvC scope cl H2.objs.size env))
        (RR (.ref s₂.heap.objs.size) H2.objs.size) s₃ := by
    rintro s₃ rfl
    refine LCp.codeAny_compLoop_pair
      (fun k s' => ∃ h' tk i ys m', s' = { s₂ with heap := h', toks := tk } ∧ i ≤ n ∧ k = n + 1 - i ∧ Each i Y ys ∧ St i h' ∧ Fr h₀ L h' m ∧ h'.Ns H2.objs.size m' ∧ News h₀ L h' ((s₂.heap.objs.size, lst ys) :: news)) ?_ (n + 1)
      ⟨h₁, _, 0, [], _, rfl, Nat.zero_le _, rfl, ⟨rfl, fun i v h => by simp at h⟩, hst₁, F.keeps old, hns₁, fun p hp => ?_⟩
    · rintro k s' ⟨h', tk, i, ys, m', rfl, hi, rfl, hy, hst', F', hn', N'⟩
      by_cases hlt : i < n
      · refine W.item i _ _ _ hlt hst' fun T vals h₂ tk₂ hPv hTn hT hMid hk₂ => ?_
        obtain ⟨v₁, v₂, rfl, hPv⟩ := hPv
        refine W.go _ _ _ i T _ _ _ hMid fun h₄ hst₄ hk₄ => ?_
        have hT₄ : IsTup h₄ T #[v₁, v₂] := by
          obtain ⟨o, e, r⟩ := hT
          exact ⟨o, hk₄ _ _ (W.apart _ _ _ hMid) e, r⟩
        refine assign_Tuple_tuple hh hT₄ rfl rfl fun h₅ he => ?_
        have he' : ∀ b o, h₄.get? b = some o → h₅.get? b = some o := fun b o e => he b o (Nat.ne_of_lt (Heap.lt_size e)) e
        have hn₅ : h₅.Ns H2.objs.size m' := ((hn'.at' fun o e => hk₂ _ o hCw e).at' fun o e => hk₄ _ o hCw e).at' fun o e => he' _ o e
        refine assignInOrder_cons (wpAny_assign_Name (wpAny_storeName_local (lookup_relabel_local hx) hn₅ (fun h₆ hn₆ hs₆ => ?_) (by simp [compEnvC, relabel, hkind])))
        refine assignInOrder_cons (wpAny_assign_Name (wpAny_storeName_local (lookup_relabel_local hx₂) hn₆ (fun h₃ hn₃ hs₃ => ?_) (by simp [compEnvC, relabel, hkind])))
        refine assignInOrder_nil ?_
        have old3 : ∀ b o, b ≠ H2.objs.size → h₄.get? b = some o → h₃.get? b = some o := fun b o hb e => hs₃.extBut b o hb (hs₆.extBut b o hb (he' b o e))
        have hst₃ : St (i + 1) h₃ := W.frame _ _ _ hst₄ fun b hb o e => old3 b o (fun q => hCf (by rw [← q]; exact hb)) e
        obtain ⟨oC, heC, hoC⟩ := ns_obj hn₃
        have F₃ : Fr h₀ L h₃ m := (((fr_wr (fr_wr F' hk₂ hwL hw₀) hk₄ hwL hw₀).keeps he').change hs₆ hCL hC₀).change hs₃ hCL hC₀
        have N₂ : News h₀ L h₄ ((s₂.heap.objs.size, lst ys) :: news) := news_wr (news_wr N' hk₂ (offDw ys)) hk₄ (offDw ys)
        have N₃ : News h₀ L h₃ ((s₂.heap.objs.size, lst ys) :: news) := fun p hp => by
          have q := N₂ p hp
          refine ⟨old3 _ _ ?_ q.1, q.2⟩
          rcases List.mem_cons.mp hp with rfl | hp
          · exact hDC
          · exact offC p hp
        have N₄ : News h₀ L h₃ ((H2.objs.size, oC) :: news) := fun p hp => by
          rcases List.mem_cons.mp hp with rfl | hp
          · exact ⟨heC, hCL, hC₀⟩
          · exact N₃ p (List.mem_cons_of_mem _ hp)
        refine wpAny_mono (R i v₁ v₂ H2.objs.size oC _ h₃ _ _ hPv hoC (by simp [hxx]) (by simp) F₃ N₄ offC) (fun y s₄ h₄ => ?_) fun _ _ e => e
        obtain ⟨tk₄, rfl, hYy⟩ := h₄
        refine append_at (hsz := by show ys.toArray.size ≤ sizeLine; rw [List.size_toArray, hy.1]; exact Nat.le_trans hi hsz) (N₃ _ List.mem_cons_self).1 fun h₅ hs₅ hD₅ => ?_
        refine ⟨n + 1 - (i + 1), by omega, h₅, tk₄, i + 1, ys ++ [y], _, rfl, hlt, rfl, ⟨by rw [List.length_append, hy.1]; rfl, fun k v' hk => ?_⟩, W.frame _ _ _ hst₃ fun b hb o e => hs₅.extBut b o (fun q => hDf (q ▸ hb)) e, F₃.change hs₅ hDL hD₀,
          (hoC.ns heC).sameBut hs₅ (Ne.symm hDC), fun p hp => ?_⟩
        · by_cases hlt : k < i
          · rw [List.getElem?_append_left (by rw [hy.1]; exact hlt)] at hk
            exact hy.2 k v' hk
          · rw [List.getElem?_append_right (by rw [hy.1]; omega), hy.1] at hk
            obtain rfl : k = i := by
              by_cases e : k = i
              · exact e
              · have : k - i ≥ 1 := by omega
                rw [List.getElem?_eq_none (by simpa using this)] at hk; cases hk
            simp at hk
            subst hk
            exact hYy
        · rcases List.mem_cons.mp hp with rfl | hp
          · exact ⟨hD₅.trans (congrArg some (lst_snoc ys y)), hDL, hD₀⟩
          · exact ⟨hs₅.extBut _ _ (offD p hp) (N₃ p (List.mem_cons_of_mem _ hp)).1, (N₃ p (List.mem_cons_of_mem _ hp)).2⟩
      · obtain rfl : i = n := Nat.le_antisymm hi (Nat.not_lt.mp hlt)
        refine W.done _ _ _ hst' fun h₂ tk₂ hk₂ => ?_
        exact hRR _ _ h₂ tk₂ _ ys (fr_wr F' hk₂ hwL hw₀) (news_wr N' hk₂ (offDw ys)) (off1_of offD) (hn'.at' fun o e => hk₂ _ o hCw e) hC₀ hD₀ hCL hDL (Ne.symm hDC) offC hy
    · rcases List.mem_cons.mp hp with rfl | hp
      · exact ⟨hacc, hDL, hD₀⟩
      · exact ⟨old _ _ (N p hp).1, (N p hp).2⟩
  exact codeAny_compStart_list (loop _ rfl) (W.self 0 _ _ _ hst₁ (loop _ rfl))
end
end Mine
end
-- Z4
section
open PySem PySem.W PySem.Spec PySem.Calls PyProof.Rows PyProof.Rows.LCg
set_option maxRecDepth 100000
set_option maxHeartbeats 4000000
set_option linter.unusedVariables false
namespace Mine
section
variable {prog : Program} {w : World} {A : Around} {E : Value → Shared → Prop} {s : Shared} {h₀ : Heap} {L : Addr} {m : Str → Option Value} {env : Env}
noncomputable def CompZ (prog : Program) (w : World) (A : Around) (h₀ : Heap) (L : Addr) (m : Str → Option Value) (env : Env) (elt : PySem.Expr) (x x₂ : Str) (scope : Scope) (cl : List (Str × Addr)) (Fin : Shared → List Value → List (Addr × Obj) → Prop) (xv : Value) (s₁ : Shared) : Prop :=
  ∃ (z : Addr) (fp wr : List Addr) (n : Nat) (Pt : Nat → Value → Value → Prop) (Y : Nat → Value → Prop) (St : Nat → Heap → Prop) (Mid : Nat → Addr → Heap → Prop) (news : List (Addr × Obj)), xv = .ref z ∧ A.handled = none ∧ WalksT prog w A z fp wr n (fun i vals => ∃ a b, vals = #[a, b] ∧ Pt i a b) St Mid ∧ n ≤ sizeLine ∧
    St 0 s₁.heap ∧ (∀ b ∈ fp, b < s₁.heap.objs.size) ∧ Fr h₀ L s₁.heap m ∧ News h₀ L s₁.heap news ∧ L ∉ wr ∧ (∀ b ∈ wr, h₀.get? b = none) ∧ (∀ p ∈ news, p.1 ∉ wr) ∧
    PairTurn prog w A h₀ L m env elt x x₂ scope cl s₁ news Pt Y ∧ ∀ ys, Each n Y ys → Fin s₁ ys news
theorem assign_comp_z {elt iter : PySem.Expr} {x x₂ y : Str} {px px₂ tp py : Pos} {tk} {scope : Scope} {cl : List (Str × Addr)} {pos spos : Pos} {Q : Flow → Shared → Prop} (F₀ : Fr h₀ L s.heap m) (hLe : env.locals = L)
    (hsw : swapsWith (.ListComp elt [⟨.Tuple [.Name x px, .Name x₂ px₂] tk tp, iter, [], 0⟩] scope pos) (some (.Name y py)) spos.line env = pure true)
    (hclos : closureFor scope env = pure cl) (hcell : ∀ z ∈ scope.names, z.2 ≠ .cell) (hkind : scope.kind = .function)
    (hnames : ∀ z ∈ scope.names, z.2 = .local → scope.names.lookup z.1 = some .local) (hx : scope.names.lookup x = some .local) (hx₂ : scope.names.lookup x₂ = some .local) (hxx : x ≠ x₂)
    (hy : env.kindOf y = some .local) (hp : (env.scope.kind == .class || (env.scope.kind == .module && env.locals != env.globals)) = false)
    (h : wpAny (model prog w) A (eval iter env) (CompZ prog w A h₀ L m env elt x x₂ scope cl (fun s₂ => FinA h₀ L m s₂ y Q)) E s)
    (hs : ∀ x, foldedSetIterable iter env x = pure x := by intro _; rfl) :
    wpAny (model prog w) A (exec (.Assign [.Name y py] (.ListComp elt [⟨.Tuple [.Name x px, .Name x₂ px₂] tk tp, iter, [], 0⟩] scope pos) spos) env) Q E s := by
  subst hLe
  rw [exec_Assign_Name_used _ _ _ _ hsw]
  refine wpAny_bind (wpAny_standAt (wpAny_bind ?_))
  show wpAny _ A (do let _ ← comprehension (.ListComp elt [⟨.Tuple [.Name x px, .Name x₂ px₂] tk tp, iter, [], 0⟩] scope pos) scope env _ (newList []) false (eval iter env) (some (assign (.Name y py) env))) _ _ s
  refine wpAny_bind (wpAny_mono (wpAny_comprehension_free (use := some (assign (.Name y py) env)) (Q := fun _ s' => Q .next s') rfl hs hclos hkind hnames
    (wpAny_mono h (fun xv s₁ h₁ => ?_) fun _ _ e => e)) (fun _ s' hq => wpAny_pure (wpAny_pure hq)) fun _ _ e => e)
  obtain ⟨z, fp, wr, n, Pt, Y, St, Mid, news, rfl, hh, W, hsz, st, hfp, F, N, hwL, hw0, off, R, fin⟩ := h₁
  refine W.self 0 _ _ _ st ?_
  refine block_Z W hsz hcell hkind hx hx₂ hxx hh st hfp F N hwL hw0 off R ?_
  intro D C h' tk m' ys F' N' o1 hn hC₀ hD₀ hCL hDL hCD offC hys
  show wpAny _ A (assign (.Name y py) env (.ref D)) _ _ _
  refine wpAny_assign_Name (wpAny_storeName_local hy F'.ns (fun h₂ hn₂ hs₂ => ?_) hp)
  have hL₀ : h₀.get? env.locals = none := Heap.get?_none_of_le F'.above
  have F₂ : Fr h₀ env.locals h₂ (fun z => if z = y then some (.ref D) else m z) := ⟨hn₂, fun b o e => hs₂.extBut b o (fun q => by rw [q, hL₀] at e; cases e) (F'.keep b o e), F'.above⟩
  refine ⟨m', hn.sameBut hs₂ hCL, fun h'' hs'' => fin ys hys D h'' _ (F₂.change hs'' hCL hC₀) (fun p hp => ?_) o1⟩
  have z : h₂.get? p.1 = some p.2 := hs₂.extBut _ _ (N' p hp).2.1 (N' p hp).1
  refine ⟨hs''.extBut _ _ ?_ z, (N' p hp).2⟩
  rcases List.mem_cons.mp hp with rfl | hp
  · exact Ne.symm hCD
  · exact offC p hp
theorem walks_zb (hh : A.handled = none) (z TI TO i1 i2 l1 : Addr) (D : ZApart z TI TO i1 i2 l1) (xs : Array Value) (b : List UInt8) (tb : Tok) (hlen : xs.size = b.length) :
    WalksT prog w A z [z, TI, TO, i1, i2, l1] [z, TO, i1, i2] b.length
      (fun i vals => ∃ x y, vals = #[x, y] ∧ xs[i]? = some x ∧ ∃ c u, b[i]? = some c ∧ y = .int (c.toNat : Int) u)
      (fun i h => IsZip h z TI TO .none ∧ IsPair h TI (.ref i1) (.ref i2) ∧ (∃ a b, IsPair h TO a b) ∧ h.IsListIter i1 l1 i ∧ KBw.IsBytesIter h i2 b.toArray tb i ∧ h.IsList l1 xs)
      (fun i T h => IsZip h z TI TO (rawInt T) ∧ IsPair h TI (.ref i1) (.ref i2) ∧ (∃ a b, IsPair h TO a b) ∧ h.IsListIter i1 l1 (i + 1) ∧ KBw.IsBytesIter h i2 b.toArray tb (i + 1) ∧ h.IsList l1 xs ∧
        T ≠ z ∧ T ≠ TO ∧ T ≠ i1 ∧ T ≠ i2) where
  sub := fun c hc => by simp at hc ⊢; rcases hc with rfl | rfl | rfl | rfl <;> simp
  frame := fun i h h' hst hk => by
    obtain ⟨hz, hTI, ⟨a, b, hTO⟩, h1, h2, hl1⟩ := hst
    exact ⟨hk z (by simp) _ hz, hk TI (by simp) _ hTI, ⟨a, b, hk TO (by simp) _ hTO⟩, h1.at fun o e => hk i1 (by simp) o e, ib_at (fun o e => hk i2 (by simp) o e) h2,
      hl1.at fun o e => hk l1 (by simp) o e⟩
  item := fun i s Q E hi hst hQ => by
    obtain ⟨hz, hTI, ⟨a, b', hTO⟩, h1, h2, hl1⟩ := hst
    have hix : i < xs.size := by omega
    refine zb_pyNext_item D hz hTI hTO h1 h2 hl1 (Array.getElem?_eq_getElem hix) (c2 := b[i]) (by simp [hi]) fun h' u k a1 a2 a3 a4 a5 a6 hk => ?_
    have lt : ∀ {c o}, s.heap.get? c = some o → s.heap.objs.size ≠ c := fun e => Nat.ne_of_gt (Heap.lt_size e)
    exact hQ s.heap.objs.size #[xs[i], .int (b[i].toNat : Int) u] h' k ⟨_, _, rfl, Array.getElem?_eq_getElem hix, _, u, by simp [hi], rfl⟩ (Nat.le_refl _) ⟨_, a5, rfl, _, rfl⟩
      ⟨a1, hk _ _ D.TIz D.TITO D.TIi1 D.TIi2 hTI, ⟨_, _, a2⟩, a3, a4, hl1.at fun o e => hk _ o D.l1z D.l1TO D.l1i1 D.l1i2 e,
        lt hz, lt hTO, (by obtain ⟨_, e, _⟩ := h1; exact lt e), (by obtain ⟨_, e, _⟩ := h2; exact lt e)⟩
      fun c o hc e => hk c o (fun x => hc (by simp [x])) (fun x => hc (by simp [x])) (fun x => hc (by simp [x])) (fun x => hc (by simp [x])) e
  go := fun elts k pos i T s Q E hm hQ => by
    obtain ⟨hz, hTI, ⟨a, b', hTO⟩, h1, h2, hl1, _⟩ := hm
    refine wpAny_letOwnedTupleGo_zip hz fun h' hz' hs' => hQ h' ⟨hz', hs'.extBut _ _ D.TIz hTI, ⟨a, b', hs'.extBut _ _ D.TOz hTO⟩, h1.extBut hs'.extBut D.i1z, ib_ext hs'.extBut D.i2z h2,
      hl1.extBut hs'.extBut D.l1z⟩ fun c o hc e => hs'.extBut _ _ (fun x => hc (by simp [x])) e
  apart := fun i T h hm hT => by
    obtain ⟨_, _, _, _, _, _, t1, t2, t3, t4⟩ := hm
    simp at hT
    rcases hT with rfl | rfl | rfl | rfl
    · exact t1 rfl
    · exact t2 rfl
    · exact t3 rfl
    · exact t4 rfl
  done := fun s Q E hst hQ => by
    obtain ⟨hz, hTI, ⟨a, b', hTO⟩, h1, h2, hl1⟩ := hst
    have hend : xs[b.length]? = none := Array.getElem?_eq_none (by omega)
    exact zb_pyNext_end hh D hz hTI hTO h1 h2 hl1 hend fun h' hk => hQ h' s.toks fun c o hc e =>
      hk c o (fun x => hc (by simp [x])) (fun x => hc (by simp [x])) (fun x => hc (by simp [x])) (fun x => hc (by simp [x])) e
  self := fun i s Q E hst hQ => wpAny_pyIter_zip hst.1 hQ
/-- the end of an evaluation that leaves the heap alone -/
noncomputable def SameEnd (s : Shared) (h : Heap) (Y : Value → Prop) (y : Value) (s₂ : Shared) : Prop := ∃ tk', s₂ = { s with heap := h, toks := tk' } ∧ Y y
theorem zb_src {elt : PySem.Expr} {x x₂ : Str} {scope : Scope} {cl : List (Str × Addr)} {Fin : Shared → List Value → List (Addr × Obj) → Prop} (f : Int → UInt8 → Int) {l1 : Addr} {vs : List Value} {ns : List Int} {k : Nat} {b : List UInt8} {tb : Tok} {news : List (Addr × Obj)}
    (hh : A.handled = none) (F : Fr h₀ L s.heap m) (N : News h₀ L s.heap news) (hm : (l1, listOf vs.toArray k) ∈ news) (hi : IntsAre vs ns) (hlen : ns.length = b.length) (hsz : b.length ≤ sizeLine)
    (turn : ∀ (i : Nat) (n : Int) (c : UInt8) tn tc C oC m₂ h tk (E' : Value → Shared → Prop), ns[i]? = some n → b[i]? = some c → NsObj oC m₂ → m₂ x = some (.int n tn) → m₂ x₂ = some (.int (c.toNat : Int) tc) → Fr h₀ L h m → News h₀ L h ((C, oC) :: news) → (∀ p ∈ news, p.1 ≠ C) →
      wpAny (model prog w) A (eval elt (compEnvC scope cl C env)) (SameEnd s h (fun y => ∃ t, y = .int (f n c) t)) E' { s with heap := h, toks := tk })
    (fin : ∀ g ys, IntsAre ys (List.zipWith f ns b) → Fin { s with heap := g } ys news) :
    wpAny (model prog w) A (call (.type "zip") [.ref l1, .bytes b.toArray tb]) (CompZ prog w A h₀ L m env elt x x₂ scope cl Fin) E s := by
  have hl : s.heap.IsList l1 vs.toArray := ⟨_, (N _ hm).1, rfl, k, rfl⟩
  have hl1 : l1 < s.heap.objs.size := Heap.lt_size (N _ hm).1
  have hL : L < s.heap.objs.size := F.ns.lt
  refine call_zb hl fun h' hz hTI hTO h1 h2 hsz' up => ?_
  have fresh₀ : ∀ a, s.heap.objs.size ≤ a → h₀.get? a = none := fun a ha => by
    cases e : h₀.get? a with
    | none => rfl
    | some o' => exact absurd (Heap.lt_size (F.keep a o' e)) (Nat.not_lt.mpr ha)
  have D : ZApart (s.heap.objs.size + 4) (s.heap.objs.size + 2) (s.heap.objs.size + 3) s.heap.objs.size (s.heap.objs.size + 1) l1 := by
    generalize s.heap.objs.size = q at hl1
    have hl1 : @LT.lt Nat _ l1 q := hl1
    constructor <;> (intro e; have e' : (_ : Nat) = _ := e; omega)
  refine ⟨_, _, _, b.length, (fun i x y => vs.toArray[i]? = some x ∧ ∃ c u, b[i]? = some c ∧ y = .int (c.toNat : Int) u), (fun i v => ∃ n t, (List.zipWith f ns b)[i]? = some n ∧ v = .int n t), _, _, news, rfl, hh,
    walks_zb hh _ _ _ _ _ l1 D vs.toArray b tb (by rw [List.size_toArray, hi.length]; exact hlen), hsz, ⟨hz, hTI, ⟨_, _, hTO⟩, h1, h2, hl.at fun o e => up _ o e⟩, ?_, F.keeps up, N.grown up, ?_, ?_, ?_, ?_, ?_⟩
  · intro c hc
    rw [hsz']
    generalize s.heap.objs.size = q at hl1 hc
    have hl1 : @LT.lt Nat _ l1 q := hl1
    simp only [List.mem_cons, List.not_mem_nil, or_false] at hc
    show @LT.lt Nat _ c (q + 5)
    rcases hc with rfl | rfl | rfl | rfl | rfl | rfl <;> omega
  · intro hc
    generalize s.heap.objs.size = q at hL hc
    have hL : @LT.lt Nat _ L q := hL
    simp only [List.mem_cons, List.not_mem_nil, or_false] at hc
    rcases hc with e | e | e | e <;> first | exact absurd (show @Eq Nat L (q + 4) from e) (by omega) | exact absurd (show @Eq Nat L (q + 3) from e) (by omega) | exact absurd (show @Eq Nat L (q + 1) from e) (by omega) | exact absurd (show @Eq Nat L q from e) (by omega)
  · intro c hc
    refine fresh₀ c ?_
    generalize s.heap.objs.size = q at hc
    simp only [List.mem_cons, List.not_mem_nil, or_false] at hc
    show @LE.le Nat _ q c
    rcases hc with rfl | rfl | rfl | rfl <;> omega
  · intro p hp hc
    have hlt := Heap.lt_size (N p hp).1
    generalize s.heap.objs.size = q at hc hlt
    have hlt : @LT.lt Nat _ p.1 q := hlt
    simp only [List.mem_cons, List.not_mem_nil, or_false] at hc
    rcases hc with e | e | e | e <;> first | exact absurd (show @Eq Nat p.1 (q + 4) from e) (by omega) | exact absurd (show @Eq Nat p.1 (q + 3) from e) (by omega) | exact absurd (show @Eq Nat p.1 (q + 1) from e) (by omega) | exact absurd (show @Eq Nat p.1 q from e) (by omega)
  · rintro i v₁ v₂ C oC m₂ h tk E' ⟨hv, c, u, hc, rfl⟩ hC hx hx₂ F' N' off
    obtain ⟨n, t, rfl, hn⟩ := IntsAre.at hi i v₁ (by simpa using hv)
    refine wpAny_mono (turn i n c t u C oC m₂ h tk E' hn hc hC hx hx₂ F' N' off) (fun y s₂ hq => ?_) fun _ _ e => e
    obtain ⟨tk', rfl, t', rfl⟩ := hq
    exact ⟨tk', rfl, f n c, t', by simp [List.getElem?_zipWith, hn, hc], rfl⟩
  · intro ys hy
    exact fin _ ys (ints_of_each (by rw [List.length_zipWith, hlen, Nat.min_self]; exact hy))
end
end Mine
end
-- L1
section
open PySem PySem.W PySem.Spec PySem.Calls PyProof.Rows PyProof.Rows.LCg
set_option maxRecDepth 100000
set_option maxHeartbeats 4000000
set_option linter.unusedVariables false
namespace Mine
section
variable {prog : Program} {w : World} {A : Around} {E : Value → Shared → Prop} {s : Shared} {env : Env} {h₀ : Heap} {x : Str} {body : List Stmt} {Q : Flow → Shared → Prop}
/-- the end of a turn of a loop over a range -/
noncomputable def TurnEnd (h₀ : Heap) (L : Addr) (J : (Str → Option Value) → List (Addr × Obj) → Prop) (I : Addr) (oI : Obj) (s₁ s₂ : Shared) : Prop :=
  ∃ h' tk m' all nx, s₂ = { s₁ with heap := h', toks := tk } ∧ Fr h₀ L h' m' ∧ News h₀ L h' all ∧ (∀ p ∈ (I, oI) :: nx, p ∈ all) ∧ (∀ p ∈ nx, p.1 ≠ I) ∧ J m' nx
noncomputable def TurnPost (h₀ : Heap) (L : Addr) (J : (Str → Option Value) → List (Addr × Obj) → Prop) (I : Addr) (oI : Obj) (s₁ : Shared) (Q : Flow → Shared → Prop) (f : Flow) (s₂ : Shared) : Prop :=
  match f with
  | .ret v => Q (.ret v) s₂
  | .brk => Q .next s₂
  | _ => TurnEnd h₀ L J I oI s₁ s₂
theorem turn_end {L : Addr} {J : (Str → Option Value) → List (Addr × Obj) → Prop} {I : Addr} {oI : Obj} {s₁ : Shared} {h' : Heap} {tk : Nat} {m' : Str → Option Value} {all : List (Addr × Obj)} (nx : List (Addr × Obj)) (F : Fr h₀ L h' m') (N : News h₀ L h' all) (hs : ∀ p ∈ (I, oI) :: nx, p ∈ all) (ho : ∀ p ∈ nx, p.1 ≠ I) (hj : J m' nx) :
    TurnEnd h₀ L J I oI s₁ { s₁ with heap := h', toks := tk } := ⟨h', tk, m', all, nx, rfl, F, N, hs, ho, hj⟩
theorem range_invG {r : Addr} {a₀ b₀ : Int} {t₀ u₀ v₀ : Tok} {n : Nat} {m₀ : Str → Option Value} {news : List (Addr × Obj)} (J : Nat → (Str → Option Value) → List (Addr × Obj) → Prop)
    (hh : A.handled = none) (hr : IsRange s.heap r a₀ b₀ 1 t₀ u₀ v₀) (hsmall : Builtin.Range.small a₀ b₀ 1 = true) (hn : Builtin.Range.rangeSize a₀ b₀ 1 = (n : Int)) (F : Fr h₀ env.locals s.heap m₀) (N : News h₀ env.locals s.heap news) (hj : J 0 m₀ news)
    (turn : ∀ i t m₁ nx h tk I oI, i < n → J i m₁ nx → (∀ p ∈ nx, p.1 ≠ I) → Fr h₀ env.locals h (fun y => if y = x then some (.int (a₀ + (i : Int)) t) else m₁ y) → News h₀ env.locals h ((I, oI) :: nx) →
      wpAny (model prog w) A (execs body env) (TurnPost h₀ env.locals (J (i + 1)) I oI { s with heap := h, toks := tk } Q) E { s with heap := h, toks := tk })
    (done : ∀ m₁ nx h tk, J n m₁ nx → Fr h₀ env.locals h m₁ → News h₀ env.locals h nx → Q .next { s with heap := h, toks := tk }) :
    wpAny (model prog w) A (pyIter (.ref r)) (fun it s₂ => LoopAtV prog w A h₀ env x body Q E it s₂) E s := by
  refine wpAny_pyIter_range hr hsmall ?_
  have W : Walks prog w A s.heap.objs.size [s.heap.objs.size] [s.heap.objs.size] n (fun i v => i < n ∧ ∃ t, v = .int (a₀ + i * 1) t)
      (fun i h => IsRangeIter h s.heap.objs.size (a₀ + (i : Nat) * 1) ((n : Int) - (i : Nat)) 1) := (Walks.range hh _ a₀ 1 n).bound
  refine ⟨_, _, _, n, _, _, m₀, news, J, rfl, W, ?_, ?_, ?_, (by show IsRangeIter _ _ _ _ _; rw [hn]; simpa using Heap.get?_push_size _ rfl), F.push _, (fun p hp => ⟨Heap.get?_push_of_some _ (N p hp).1, (N p hp).2⟩), hj, ?_, ?_⟩
  · intro hm
    exact absurd F.ns.lt ((List.mem_singleton.mp hm) ▸ Nat.lt_irrefl _)
  · intro b hb
    rw [List.mem_singleton.mp hb]
    exact next_is_new F
  · intro p hp hI
    exact absurd (Heap.lt_size (N p hp).1) ((List.mem_singleton.mp hI) ▸ Nat.lt_irrefl _)
  · rintro i v m₁ news₁ s₁ own ⟨hh', tk', rfl⟩ hin hP hJ hoff hown _ hfp hst F₁ N₁
    obtain ⟨_, t, rfl⟩ := hP
    have hI0 : h₀.get? s.heap.objs.size = none := next_is_new F
    obtain ⟨oI, hoI⟩ : ∃ o, hh'.get? s.heap.objs.size = some o := ⟨_, hst⟩
    have hIown := hfp s.heap.objs.size (List.mem_singleton.mpr rfl) hI0 _ hoI
    have heq : ∀ p ∈ own, p = (s.heap.objs.size, oI) := fun p hp => by
      have h1 := List.mem_singleton.mp (hown p hp)
      have h2 := (N₁ p (List.mem_append.mpr (.inl hp))).1
      rw [h1] at h2
      have h3 := h2.symm.trans hoI
      rcases p with ⟨a, o⟩
      cases h1
      cases h3
      rfl
    have hofI : ∀ p ∈ news₁, p.1 ≠ s.heap.objs.size := fun p hp e => hoff p hp (List.mem_singleton.mpr e)
    rw [Int.mul_one] at F₁
    refine wpAny_mono (turn i t m₁ news₁ hh' tk' s.heap.objs.size oI hin hJ hofI F₁ (fun p hp => ?_)) (fun f s₂ p => ?_) fun _ _ e => e
    · rcases List.mem_cons.mp hp with rfl | hp
      · exact N₁ _ (List.mem_append.mpr (.inl hIown))
      · exact N₁ p (List.mem_append.mpr (.inr hp))
    have fin : TurnEnd h₀ env.locals (J (i + 1)) s.heap.objs.size oI { s with heap := hh', toks := tk' } s₂ → LoopStepU h₀ env.locals [s.heap.objs.size] own (J (i + 1)) { s with heap := hh', toks := tk' } .next s₂ := by
      rintro ⟨h', tk, m', all, nx, e, F', N', hs, ho, hm⟩
      refine ⟨rfl, h', tk, m', nx, e, F', fun p hp => N' p (hs p ?_), fun p hp hq => ho p hp (List.mem_singleton.mp hq), hm⟩
      rcases List.mem_append.mp hp with hp | hp
      · rw [heq p hp]; exact List.mem_cons_self
      · exact List.mem_cons_of_mem _ hp
    cases f with
    | ret v => exact .ret p
    | brk => exact .brk p
    | next => exact .next (fin p)
    | cont => exact .cont (fin p)
  · rintro h' tk m' news' F' N' _ hJ
    exact done m' news' h' tk hJ F' N'
end
end Mine
end
-- C4
section
open PySem PySem.W PySem.Spec PySem.Calls PyProof.Rows PyProof.Rows.LCg
set_option maxRecDepth 100000
set_option maxHeartbeats 1000000
set_option linter.unusedVariables false
namespace Mine
noncomputable def stepP (size : Nat) (i o : List UInt8) (p : List UInt8 × List UInt8) : List UInt8 × List UInt8 := (codeF size i o p.1, List.zipWith (· ^^^ ·) p.2 (codeF size i o p.1))
noncomputable def turnsP (size : Nat) (i o : List UInt8) : Nat → List UInt8 × List UInt8 → List UInt8 × List UInt8
  | 0, p => p
  | n + 1, p => stepP size i o (turnsP size i o n p)
noncomputable def num4 (piece : Nat) : List UInt8 := [0, 0, (piece / 256).toUInt8, (piece % 256).toUInt8]
noncomputable def firstP (size : Nat) (i o salt : List UInt8) (piece : Nat) : List UInt8 := codeF size i o (salt ++ num4 piece)
noncomputable def pieceF (size : Nat) (i o salt : List UInt8) (rounds piece : Nat) : List UInt8 := (turnsP size i o (rounds - 1) (firstP size i o salt piece, firstP size i o salt piece)).2
theorem PadsAt.cons {l : Addr} {i o : List UInt8} {q : Addr × Obj} {news : List (Addr × Obj)} (h : PadsAt l i o news) : PadsAt l i o (q :: news) := by
  obtain ⟨a, b, k, h⟩ := h
  exact ⟨a, b, k, List.mem_cons_of_mem _ h⟩
theorem turnsP_len (size : Nat) (i o : List UInt8) (p : List UInt8 × List UInt8) (h1 : p.1.length = size) (h2 : p.2.length = size) : ∀ n, (turnsP size i o n p).1.length = size ∧ (turnsP size i o n p).2.length = size
  | 0 => ⟨h1, h2⟩
  | n + 1 => ⟨codeF_length _ _ _ _, by
      show (List.zipWith _ (turnsP size i o n p).2 _).length = size
      rw [List.length_zipWith, (turnsP_len size i o p h1 h2 n).2, codeF_length, Nat.min_self]⟩
theorem tp1 {size : Nat} {i o salt : List UInt8} {piece n : Nat} : (turnsP size i o n (firstP size i o salt piece, firstP size i o salt piece)).1.length = size := (turnsP_len size i o _ (codeF_length _ _ _ _) (codeF_length _ _ _ _) n).1
theorem tp2 {size : Nat} {i o salt : List UInt8} {piece n : Nat} : (turnsP size i o n (firstP size i o salt piece, firstP size i o salt piece)).2.length = size := (turnsP_len size i o _ (codeF_length _ _ _ _) (codeF_length _ _ _ _) n).2
theorem codeF_firstP {size : Nat} {i o salt : List UInt8} {piece : Nat} : (firstP size i o salt piece).length = size := codeF_length _ _ _ _
theorem num4_ints {piece : Nat} (h : piece ≤ 65535) : [0, 0, (piece : Int).fdiv 256, (piece : Int).fmod 256] = (num4 piece).map oct := by
  have a : ((piece : Int).fdiv 256) = ((piece / 256 : Nat) : Int) := by rw [Int.fdiv_eq_ediv_of_nonneg _ (by omega)]; omega
  have b : ((piece : Int).fmod 256) = ((piece % 256 : Nat) : Int) := by rw [Int.fmod_eq_emod_of_nonneg _ (by omega)]; omega
  rw [a, b]
  have c : piece / 256 < 256 := by omega
  have d : piece % 256 < 256 := by omega
  simp only [num4, List.map_cons, List.map_nil, oct]
  rw [show (piece / 256).toUInt8.toNat = piece / 256 from Nat.mod_eq_of_lt c, show (piece % 256).toUInt8.toNat = piece % 256 from Nat.mod_eq_of_lt d]
  rfl
section
variable {prog : Program} {w : World} {A : Around} {E : Value → Shared → Prop} {s : Shared} {h₀ : Heap} {L : Addr} {m : Str → Option Value}
theorem r_num4 {l : Addr} {piece k : Nat} {t1 t2 t3 t4 : Tok} {news : List (Addr × Obj)} {Q : Value → Shared → Prop} (hh : A.handled = none) (F : Fr h₀ L s.heap m) (N : News h₀ L s.heap news) (hm : (l, listOf #[.int 0 t1, .int 0 t2, .int ((piece : Int).fdiv 256) t3, .int ((piece : Int).fmod 256) t4] k) ∈ news) (hpc : piece ≤ 65535)
    (h : ∀ h' t' k', Fr h₀ L h' m → News h₀ L h' news → Q (.bytes (num4 piece).toArray t') { s with heap := h', toks := k' }) : wpAny (model prog w) A (call (.type "bytes") [.ref l]) Q E s :=
  r_bytes hh F N hm (.cons _ _ (.cons _ _ (.cons _ _ (.cons _ _ .nil)))) (num4_ints hpc) (by rw [PySem.sizeLine_eq]; show 4 ≤ _; omega) h
end
theorem ru13 : True := by
  k_with_none
  k_with "12 eval Name" => ((k_here; (first | (with_reducible show wpAny _ _ (eval (Expr.Name _ _) (envOf _ _ _ _ _)) _ _ _) | (with_reducible show wpAny _ _ (eval (Expr.Name _ _) (envOfC _ _ _ _ _)) _ _ _) | (with_reducible show wpAny _ _ (eval (Expr.Name _ _) (envX _ _ _ _ _ _)) _ _ _)); k_dflt (first
      | (refine' nameX_K ?F_0 ?X_0 ?T_0 ?e_0 ?_ ?a_0 ?b_0; (case b_0 => kernel_rfl!); (case a_0 => rfl); (case F_0 => k_asm); (case X_0 => k_asm); (case T_0 => k_asm); (case e_0 => k_is); k_whole)
      | (refine' nameX_L ?F_0 ?v_0 ?_ ?a_0 ?b_0; (case b_0 => kernel_rfl!); (case a_0 => rfl); (case F_0 => k_asm); (case v_0 => rfl); k_whole)
      | (refine' nameX_B ?F_0 ?X_0 ?T_0 ?e_0 ?v_0 ?n_0 ?_ ?a_0 ?b_0; (case b_0 => kernel_rfl!); (case a_0 => rfl); (case F_0 => k_asm); (case X_0 => k_asm); (case T_0 => k_asm); (case e_0 => k_is); (case v_0 => boot_fast); (case n_0 => decide); k_whole))))
  k_with "12 callWith ref" => ((k_here; (with_reducible show wpAny _ _ (callWith _ (Value.ref _) _ (backTo _ (starEach (_ :: _) _)) (backToKw _ _)) _ _ _); k_dflt (refine' callWith_KW ?k1_0 ?k2_0 ?k3_0 ?_; (case k1_0 => k_asm); (case k2_0 => k_is); (case k3_0 => exact rfl); k_whole)))
  k_with "1 call ref" => ((k_here; (with_reducible show wpAny _ _ (call (Value.ref 113) [Value.ref _, Value.bytes (List.toArray _) _, Value.int _ _]) _ _ _); refine' use_con (code_ok _ _ _ _ _ _ _ _ ?h1_22 ?h2_22 ?hi_22 ?ho_22 ?hm_22 _ ?hp_22) ?B_22 ?F_22 ?X_22 ?N_22 ?T_22 ?hk_22 ?hd_22 ?hu_22 ?_; (case B_22 => k_asm); (case F_22 => k_asm); (case X_22 => k_asm); (case N_22 => k_asm); (case T_22 => k_asm); (case hk_22 => rfl); (case hd_22 => omega); (case hu_22 => omega); (case h1_22 => omega); (case h2_22 => omega); (case hp_22 => (repeat (first | assumption | refine PadsAt.cons ?_))); (case hi_22 => omega); (case ho_22 => omega); (case hm_22 => ((try simp only [List.length_append, codeF_length, tp1]); (try show _ + 4 ≤ _); omega)); (intro r9 new9 h9 tk9 hR9 hA9 F9 N9; obtain ⟨hnew9, t9, hr9⟩ := hR9; subst hnew9; subst hr9; simp only [List.nil_append] at N9)))
  k_with "1 call type:bytes" => ((k_here; k_dflt (refine r_num4 (by rfl) (by k_asm) (by k_asm) (by k_mem) (by omega) ?_); intro h9 t9 k9 F9 N9))
  k_with "1 binaryOp Add bytes bytes" => ((k_here; (refine' r_add ?hlen_22 ?_; (case hlen_22 => ((try simp only [List.length_append, hsh_length]); (try show _ + 4 ≤ _); omega)); intro _ _)))
  k_with "2 exec Assign cons ListComp" => ((k_here; (with_reducible show wpAny _ _ (exec (Stmt.Assign _ (Expr.ListComp (Expr.Name _ _) _ _ _) _) _) _ _ _); k_dflt (refine assign_comp_b (F₀ := by k_asm) (by rfl) (by with_unfolding_all rfl) (by with_unfolding_all rfl) (by decide) (by rfl) (by decide) (by rfl) (by rfl) (by rfl) ?_)))
  k_with "1 exec Assign cons ListComp" => ((k_here; (with_reducible show wpAny _ _ (exec (Stmt.Assign _ (Expr.ListComp (Expr.BinOp _ _ _ _) _ _ _) _) _) _ _ _); k_dflt (refine assign_comp_z (F₀ := by k_asm) (by rfl) (by with_unfolding_all rfl) (by with_unfolding_all rfl) (by decide) (by rfl) (by decide) (by rfl) (by rfl) (by decide) (by rfl) (by rfl) ?_)))
  k_with "1 CompB" => ((k_here; k_dflt (refine' comp_bi oct ?hh_22 ?F_22 ?N_22 ?sz_22 (fun c9 t9 I9 oI9 C9 oC9 D9 oD9 m9 h9 tk9 E9 hc9 hC9 hx9 F9 N9 off9 ne9 => ?_) (fun g9 ys9 hI9 D9 h9 tk9 F9 N9 o9 => ?_)); (case hh_22 => rfl); (case F_22 => k_asm); (case N_22 => k_asm); (case sz_22 => (rw [PySem.sizeLine_eq, codeF_length]; omega))))
  k_with "1 EltEnd" => ((refine elt_end (by k_asm) (by k_asm) (fun p hp => hp) ⟨_, rfl⟩))
  trivial
/-- between the turns of a loop that stores a code and a list of its octets -/
noncomputable def JP (k c d : Str) (led : List (Addr × Obj)) (m₀ : Str → Option Value) (f : Nat → List UInt8 × List UInt8) (i : Nat) (m : Str → Option Value) (nx : List (Addr × Obj)) : Prop :=
  ∃ D ys kk tc, nx = (D, ({ cls := .type "list", data := .seq (List.toArray ys) kk } : Obj)) :: led ∧ IntsAre ys ((f i).2.map oct) ∧ m c = some (.bytes (f i).1.toArray tc) ∧ m d = some (.ref D) ∧ ∀ z, z ≠ k → z ≠ c → z ≠ d → m z = m₀ z
theorem range_sub1 {r : Nat} (h : 1 ≤ r) : Builtin.Range.rangeSize 0 ((r : Int) - 1) 1 = ((r - 1 : Nat) : Int) := by
  rw [rangeSize_nat]
  omega
theorem ru14 : True := by
  k_with_none
  k_with "12 eval Name" => ((k_here; (first | (with_reducible show wpAny _ _ (eval (Expr.Name _ _) (envOf _ _ _ _ _)) _ _ _) | (with_reducible show wpAny _ _ (eval (Expr.Name _ _) (envOfC _ _ _ _ _)) _ _ _) | (with_reducible show wpAny _ _ (eval (Expr.Name _ _) (envX _ _ _ _ _ _)) _ _ _)); k_dflt (first
      | (refine' nameX_K ?F_0 ?X_0 ?T_0 ?e_0 ?_ ?a_0 ?b_0; (case b_0 => kernel_rfl!); (case a_0 => rfl); (case F_0 => k_asm); (case X_0 => k_asm); (case T_0 => k_asm); (case e_0 => k_is); k_whole)
      | (refine' nameX_L ?F_0 ?v_0 ?_ ?a_0 ?b_0; (case b_0 => kernel_rfl!); (case a_0 => rfl); (case F_0 => k_asm); (case v_0 => rfl); k_whole)
      | (refine' nameX_B ?F_0 ?X_0 ?T_0 ?e_0 ?v_0 ?n_0 ?_ ?a_0 ?b_0; (case b_0 => kernel_rfl!); (case a_0 => rfl); (case F_0 => k_asm); (case X_0 => k_asm); (case T_0 => k_asm); (case e_0 => k_is); (case v_0 => boot_fast); (case n_0 => decide); k_whole))))
  k_with "12 callWith ref" => ((k_here; (with_reducible show wpAny _ _ (callWith _ (Value.ref _) _ (backTo _ (starEach (_ :: _) _)) (backToKw _ _)) _ _ _); k_dflt (refine' callWith_KW ?k1_0 ?k2_0 ?k3_0 ?_; (case k1_0 => k_asm); (case k2_0 => k_is); (case k3_0 => exact rfl); k_whole)))
  k_with "1 call ref" => ((k_here; (with_reducible show wpAny _ _ (call (Value.ref 113) [Value.ref _, Value.bytes (List.toArray _) _, Value.int _ _]) _ _ _); refine' use_con (code_ok _ _ _ _ _ _ _ _ ?h1_22 ?h2_22 ?hi_22 ?ho_22 ?hm_22 _ ?hp_22) ?B_22 ?F_22 ?X_22 ?N_22 ?T_22 ?hk_22 ?hd_22 ?hu_22 ?_; (case B_22 => k_asm); (case F_22 => k_asm); (case X_22 => k_asm); (case N_22 => k_asm); (case T_22 => k_asm); (case hk_22 => rfl); (case hd_22 => omega); (case hu_22 => omega); (case h1_22 => omega); (case h2_22 => omega); (case hp_22 => (repeat (first | assumption | refine PadsAt.cons ?_))); (case hi_22 => omega); (case ho_22 => omega); (case hm_22 => ((try simp only [List.length_append, codeF_length, tp1]); (try show _ + 4 ≤ _); omega)); (intro r9 new9 h9 tk9 hR9 hA9 F9 N9; obtain ⟨hnew9, t9, hr9⟩ := hR9; subst hnew9; subst hr9; simp only [List.nil_append] at N9)))
  k_with "1 call type:bytes" => ((k_here; k_dflt (refine r_num4 (by rfl) (by k_asm) (by k_asm) (by k_mem) (by omega) ?_); intro h9 t9 k9 F9 N9))
  k_with "1 binaryOp Add bytes bytes" => ((k_here; (refine' r_add ?hlen_22 ?_; (case hlen_22 => ((try simp only [List.length_append, hsh_length]); (try show _ + 4 ≤ _); omega)); intro _ _)))
  k_with "2 exec Assign cons ListComp" => ((k_here; (with_reducible show wpAny _ _ (exec (Stmt.Assign _ (Expr.ListComp (Expr.Name _ _) _ _ _) _) _) _ _ _); k_dflt (refine assign_comp_b (F₀ := by k_asm) (by rfl) (by with_unfolding_all rfl) (by with_unfolding_all rfl) (by decide) (by rfl) (by decide) (by rfl) (by rfl) (by rfl) ?_)))
  k_with "1 exec Assign cons ListComp" => ((k_here; (with_reducible show wpAny _ _ (exec (Stmt.Assign _ (Expr.ListComp (Expr.BinOp _ _ _ _) _ _ _) _) _) _ _ _); k_dflt (refine assign_comp_z (F₀ := by k_asm) (by rfl) (by with_unfolding_all rfl) (by with_unfolding_all rfl) (by decide) (by rfl) (by decide) (by rfl) (by rfl) (by decide) (by rfl) (by rfl) ?_)))
  k_with "1 CompB" => ((k_here; k_dflt (refine' comp_bi oct ?hh_22 ?F_22 ?N_22 ?sz_22 (fun c9 t9 I9 oI9 C9 oC9 D9 oD9 m9 h9 tk9 E9 hc9 hC9 hx9 F9 N9 off9 ne9 => ?_) (fun g9 ys9 hI9 D9 h9 tk9 F9 N9 o9 => ?_)); (case hh_22 => rfl); (case F_22 => k_asm); (case N_22 => k_asm); (case sz_22 => (rw [PySem.sizeLine_eq, codeF_length]; omega))))
  k_with "1 EltEnd" => ((refine elt_end (by k_asm) (by k_asm) (fun p hp => hp) ⟨_, rfl⟩))
  k_with "1 my loop" => ((k_here; (rename Fr _ _ _ _ => lF9); (rename News _ _ _ _ => lN9); (rename IsRange _ _ _ _ _ _ _ _ => rg9); (rename IntsAre _ _ => iA9); (with_unfolding_all refine' range_invG (n := rounds - 1) (JP (Str.ofString "k") (Str.ofString "code") (Str.ofString "crossed") _ _ (fun j => turnsP size i o j (firstP size i o salt piece, firstP size i o salt piece))) (by rfl) rg9 ?sm9_22 ?rs9_22 lF9 lN9 ⟨_, _, _, _, rfl, iA9, rfl, rfl, fun z _ _ _ => rfl⟩ (fun i9 t9 m9 nx9 h9 tk9 I9 oI9 hi9 hj9 ho9 F9 N9 => ?_) (fun m9 nx9 h9 tk9 hj9 F9 N9 => ?_)); (case sm9_22 => exact small_one (by omega) (by omega) (by omega) (by omega)); (case rs9_22 => exact range_sub1 (by omega)); (all_goals (obtain ⟨D9, ys9, k9, tc9, rfl, hI9, hc9, hd9, hz9⟩ := hj9)); (all_goals (first | rw [map_two hc9 hd9 hz9] at F9 | rw [← done_two hc9 hd9 hz9] at F9)); (all_goals clear lF9 lN9); (all_goals (try dsimp only at hI9))))
  k_with "1 pyIter ref" => (((with_reducible show wpAny _ _ (pyIter (Value.ref _)) (fun it s₂ => LoopAtV _ _ _ _ _ _ _ _ _ it s₂) _ _); k_dflt walk_at "my loop"))
  k_with "1 exec For Name Call cons nil" => ((k_here; (rename Fr _ _ _ _ => lF'); (with_unfolding_all refine' For_invVF lF' ?k1_22 ?k2_22 ?_; (case k1_22 => exact rfl); (case k2_22 => exact rfl); k_whole)))
  trivial
theorem zip_oct : ∀ (a b : List UInt8), List.zipWith (fun n (c : UInt8) => Builtin.bitXor n (c.toNat : Int)) (a.map oct) b = (List.zipWith (· ^^^ ·) a b).map oct
  | [], _ => by simp
  | _ :: _, [] => by simp
  | x :: a, y :: b => by
    rw [List.map_cons, List.zipWith_cons_cons, List.zipWith_cons_cons, List.map_cons, zip_oct a b]
    congr 1
    show Builtin.bitXor (x.toNat : Int) (y.toNat : Int) = ((x ^^^ y).toNat : Int)
    rw [bitXor_nat, UInt8.toNat_xor]
theorem ru15 : True := by
  k_with_none
  k_with "12 eval Name" => ((k_here; (first | (with_reducible show wpAny _ _ (eval (Expr.Name _ _) (envOf _ _ _ _ _)) _ _ _) | (with_reducible show wpAny _ _ (eval (Expr.Name _ _) (envOfC _ _ _ _ _)) _ _ _) | (with_reducible show wpAny _ _ (eval (Expr.Name _ _) (envX _ _ _ _ _ _)) _ _ _)); k_dflt (first
      | (refine' nameX_K ?F_0 ?X_0 ?T_0 ?e_0 ?_ ?a_0 ?b_0; (case b_0 => kernel_rfl!); (case a_0 => rfl); (case F_0 => k_asm); (case X_0 => k_asm); (case T_0 => k_asm); (case e_0 => k_is); k_whole)
      | (refine' nameX_L ?F_0 ?v_0 ?_ ?a_0 ?b_0; (case b_0 => kernel_rfl!); (case a_0 => rfl); (case F_0 => k_asm); (case v_0 => rfl); k_whole)
      | (refine' nameX_B ?F_0 ?X_0 ?T_0 ?e_0 ?v_0 ?n_0 ?_ ?a_0 ?b_0; (case b_0 => kernel_rfl!); (case a_0 => rfl); (case F_0 => k_asm); (case X_0 => k_asm); (case T_0 => k_asm); (case e_0 => k_is); (case v_0 => boot_fast); (case n_0 => decide); k_whole))))
  k_with "12 callWith ref" => ((k_here; (with_reducible show wpAny _ _ (callWith _ (Value.ref _) _ (backTo _ (starEach (_ :: _) _)) (backToKw _ _)) _ _ _); k_dflt (refine' callWith_KW ?k1_0 ?k2_0 ?k3_0 ?_; (case k1_0 => k_asm); (case k2_0 => k_is); (case k3_0 => exact rfl); k_whole)))
  k_with "1 call ref" => ((k_here; (with_reducible show wpAny _ _ (call (Value.ref 113) [Value.ref _, Value.bytes (List.toArray _) _, Value.int _ _]) _ _ _); refine' use_con (code_ok _ _ _ _ _ _ _ _ ?h1_22 ?h2_22 ?hi_22 ?ho_22 ?hm_22 _ ?hp_22) ?B_22 ?F_22 ?X_22 ?N_22 ?T_22 ?hk_22 ?hd_22 ?hu_22 ?_; (case B_22 => k_asm); (case F_22 => k_asm); (case X_22 => k_asm); (case N_22 => k_asm); (case T_22 => k_asm); (case hk_22 => rfl); (case hd_22 => omega); (case hu_22 => omega); (case h1_22 => omega); (case h2_22 => omega); (case hp_22 => (repeat (first | assumption | refine PadsAt.cons ?_))); (case hi_22 => omega); (case ho_22 => omega); (case hm_22 => ((try simp only [List.length_append, codeF_length, tp1]); (try show _ + 4 ≤ _); omega)); (intro r9 new9 h9 tk9 hR9 hA9 F9 N9; obtain ⟨hnew9, t9, hr9⟩ := hR9; subst hnew9; subst hr9; simp only [List.nil_append] at N9)))
  k_with "2 call type:bytes" => ((k_here; k_dflt (refine r_num4 (by rfl) (by k_asm) (by k_asm) (by k_mem) (by omega) ?_); intro h9 t9 k9 F9 N9))
  k_with "1 binaryOp Add bytes bytes" => ((k_here; (refine' r_add ?hlen_22 ?_; (case hlen_22 => ((try simp only [List.length_append, hsh_length]); (try show _ + 4 ≤ _); omega)); intro _ _)))
  k_with "2 exec Assign cons ListComp" => ((k_here; (with_reducible show wpAny _ _ (exec (Stmt.Assign _ (Expr.ListComp (Expr.Name _ _) _ _ _) _) _) _ _ _); k_dflt (refine assign_comp_b (F₀ := by k_asm) (by rfl) (by with_unfolding_all rfl) (by with_unfolding_all rfl) (by decide) (by rfl) (by decide) (by rfl) (by rfl) (by rfl) ?_)))
  k_with "1 exec Assign cons ListComp" => ((k_here; (with_reducible show wpAny _ _ (exec (Stmt.Assign _ (Expr.ListComp (Expr.BinOp _ _ _ _) _ _ _) _) _) _ _ _); k_dflt (refine assign_comp_z (F₀ := by k_asm) (by rfl) (by with_unfolding_all rfl) (by with_unfolding_all rfl) (by decide) (by rfl) (by decide) (by rfl) (by rfl) (by decide) (by rfl) (by rfl) ?_)))
  k_with "1 CompB" => ((k_here; k_dflt (refine' comp_bi oct ?hh_22 ?F_22 ?N_22 ?sz_22 (fun c9 t9 I9 oI9 C9 oC9 D9 oD9 m9 h9 tk9 E9 hc9 hC9 hx9 F9 N9 off9 ne9 => ?_) (fun g9 ys9 hI9 D9 h9 tk9 F9 N9 o9 => ?_)); (case hh_22 => rfl); (case F_22 => k_asm); (case N_22 => k_asm); (case sz_22 => (rw [PySem.sizeLine_eq, codeF_length]; omega))))
  k_with "1 EltEnd" => ((refine elt_end (by k_asm) (by k_asm) (fun p hp => hp) ⟨_, rfl⟩))
  k_with "1 my loop" => ((k_here; (rename Fr _ _ _ _ => lF9); (rename News _ _ _ _ => lN9); (rename IsRange _ _ _ _ _ _ _ _ => rg9); (rename IntsAre _ _ => iA9); (with_unfolding_all refine' range_invG (n := rounds - 1) (JP (Str.ofString "k") (Str.ofString "code") (Str.ofString "crossed") _ _ (fun j => turnsP size i o j (firstP size i o salt piece, firstP size i o salt piece))) (by rfl) rg9 ?sm9_22 ?rs9_22 lF9 lN9 ⟨_, _, _, _, rfl, iA9, rfl, rfl, fun z _ _ _ => rfl⟩ (fun i9 t9 m9 nx9 h9 tk9 I9 oI9 hi9 hj9 ho9 F9 N9 => ?_) (fun m9 nx9 h9 tk9 hj9 F9 N9 => ?_)); (case sm9_22 => exact small_one (by omega) (by omega) (by omega) (by omega)); (case rs9_22 => exact range_sub1 (by omega)); (all_goals (obtain ⟨D9, ys9, k9, tc9, rfl, hI9, hc9, hd9, hz9⟩ := hj9)); (all_goals (first | rw [map_two hc9 hd9 hz9] at F9 | rw [← done_two hc9 hd9 hz9] at F9)); (all_goals clear lF9 lN9); (all_goals (try dsimp only at hI9))))
  k_with "1 pyIter ref" => (((with_reducible show wpAny _ _ (pyIter (Value.ref _)) (fun it s₂ => LoopAtV _ _ _ _ _ _ _ _ _ it s₂) _ _); k_dflt walk_at "my loop"))
  k_with "1 exec For Name Call cons nil" => ((k_here; (rename Fr _ _ _ _ => lF'); (with_unfolding_all refine' For_invVF lF' ?k1_22 ?k2_22 ?_; (case k1_22 => exact rfl); (case k2_22 => exact rfl); k_whole)))
  k_with "1 call type:zip" => ((k_here; k_dflt (refine' zb_src (fun n c => Builtin.bitXor n (c.toNat : Int)) ?hh_22 ?F_22 ?N_22 ?hm_22 ?hi_22 ?hlen_22 ?sz_22 (fun i9 n9 c9 tn9 tc9 C9 oC9 m9 h9 tk9 E9 hn9 hc9 hC9 hx9 hy9 F9 N9 off9 => ?_) (fun g9 ys9 hI9 D9 h9 tk9 F9 N9 o9 => ?_)); (case hh_22 => rfl); (case F_22 => k_asm); (case N_22 => k_asm); (case hm_22 => k_mem); (case hi_22 => assumption); (case hlen_22 => rw [List.length_map, tp2, codeF_length]); (case sz_22 => (rw [PySem.sizeLine_eq, codeF_length]; omega))))
  k_with "1 call type:bytes" => ((k_here; k_dflt (refine r_bytes (by rfl) (by k_asm) (by k_asm) (by k_mem) (by assumption) rfl (by rw [PySem.sizeLine_eq, tp2]; omega) ?_); intro h9 t9 k9 F9 N9))
  k_with "1 SameEnd" => (exact ⟨_, rfl, _, rfl⟩)
  trivial
theorem piece_ok (w : World) (l : Addr) (i o salt : List UInt8) (t t' t'' t3 : Tok) (size rounds piece : Nat) (h1 : 1 ≤ size) (h2 : size ≤ 32) (hi : i.length ≤ 64) (ho : o.length ≤ 64) (hm : salt.length ≤ 900) (hr1 : 1 ≤ rounds) (hr2 : rounds ≤ 6) (hpc : piece ≤ 1000) (news : List (Addr × Obj)) (hp : PadsAt l i o news) :
    Con w 3 80 (.ref 118) [.ref l, .bytes salt.toArray t, .int (rounds : Int) t', .int (piece : Int) t'', .int (size : Int) t3] news (fun r => ∃ tc, r = .bytes (pieceF size i o salt rounds piece).toArray tc) := by
  refine c_118 ?_
  intro dp un gd outer A₀ base g L' h₁ tk s p loose mean mg mb B F X N T hd hu
  k_fold
  k_steps
  · show TurnEnd _ _ _ _ _ _ _
    rename IntsAre _ (List.zipWith _ _ _) => hI'
    rw [zip_oct] at hI'
    rename Off1 _ _ => o9'
    rename Fr _ _ _ _ => F0
    rename News _ _ _ _ => N0
    refine' turn_end _ F0 N0 ?hs ?ho ⟨_, _, _, _, rfl, hI', rfl, rfl, fun z h1 h2 h3 => by simp [h1, h2, h3]⟩
    case hs => (intro p hp; rcases List.mem_cons.mp hp with rfl | hp; exact List.Mem.tail _ (List.Mem.head _); rcases List.mem_cons.mp hp with rfl | hp; exact List.Mem.head _; (repeat (first | exact hp | refine List.Mem.tail _ ?_)))
    case ho => (intro p hp; rcases List.mem_cons.mp hp with rfl | hp; exact Ne.symm o9'.1; exact ho9 p (List.Mem.tail _ hp))
  · show EndsN _ _ _ _ _ _ _
    refine ends_ret (by k_asm) (by k_asm) ?_ ⟨_, rfl⟩
    intro p hp; (repeat (first | exact hp | refine List.Mem.tail _ ?_))
end Mine
end
-- R3
section
open PySem PySem.W PySem.Spec PySem.Calls PyProof.Rows PyProof.Rows.LCg
set_option maxRecDepth 100000
set_option maxHeartbeats 4000000
set_option linter.unusedVariables false
namespace Mine
theorem ru16 : True := by
  k_with_none
  k_with "12 eval Name" => ((k_here; (first | (with_reducible show wpAny _ _ (eval (Expr.Name _ _) (envOf _ _ _ _ _)) _ _ _) | (with_reducible show wpAny _ _ (eval (Expr.Name _ _) (envOfC _ _ _ _ _)) _ _ _) | (with_reducible show wpAny _ _ (eval (Expr.Name _ _) (envX _ _ _ _ _ _)) _ _ _)); k_dflt (first
      | (refine' nameX_K ?F_0 ?X_0 ?T_0 ?e_0 ?_ ?a_0 ?b_0; (case b_0 => kernel_rfl!); (case a_0 => rfl); (case F_0 => k_asm); (case X_0 => k_asm); (case T_0 => k_asm); (case e_0 => k_is); k_whole)
      | (refine' nameX_L ?F_0 ?v_0 ?_ ?a_0 ?b_0; (case b_0 => kernel_rfl!); (case a_0 => rfl); (case F_0 => k_asm); (case v_0 => rfl); k_whole)
      | (refine' nameX_B ?F_0 ?X_0 ?T_0 ?e_0 ?v_0 ?n_0 ?_ ?a_0 ?b_0; (case b_0 => kernel_rfl!); (case a_0 => rfl); (case F_0 => k_asm); (case X_0 => k_asm); (case T_0 => k_asm); (case e_0 => k_is); (case v_0 => boot_fast); (case n_0 => decide); k_whole))))
  k_with "12 callWith ref" => ((k_here; (with_reducible show wpAny _ _ (callWith _ (Value.ref _) _ (backTo _ (starEach (_ :: _) _)) (backToKw _ _)) _ _ _); k_dflt (refine' callWith_KW ?k1_0 ?k2_0 ?k3_0 ?_; (case k1_0 => k_asm); (case k2_0 => k_is); (case k3_0 => exact rfl); k_whole)))
  trivial
section
variable {prog : Program} {w : World} {A : Around} {E : Value → Shared → Prop} {s : Shared} {value slice : PySem.Expr} {h₀ : Heap} {L : Addr} {m : PySem.Str → Option Value} {news : List (Addr × Obj)} {Q : Value → Shared → Prop}
theorem r_cut {b : List UInt8} {k : Nat} {t u : Tok} (hF : Fr h₀ L s.heap m) (hN : News h₀ L s.heap news) (hz : b.length ≤ 16777216)
    (hs : subscripted slice false (.bytes b.toArray t) (.ref s.heap.objs.size) = operate [.ref s.heap.objs.size, .bytes b.toArray t] (getItem (.bytes b.toArray t) (.ref s.heap.objs.size)))
    (ht : ∀ r, letTemporaryGo value (.bytes b.toArray t) r = pure ())
    (h : ∀ h' t' k', Fr h₀ L h' m → News h₀ L h' news → Q (.bytes (b.take k).toArray t') { s with heap := h', toks := k' }) :
    wpAny (model prog w) A (subscriptTail value slice (.bytes b.toArray t) (.ref s.heap.objs.size)) Q E { s with heap := s.heap.push { cls := .type "slice", data := .fields #[.none, .int (k : Int) u, .none] } } := by
  refine KBc.slice_K hF hN rfl .none (.int _ _) (by rw [KBw.ints_length]; simpa using hz) (fun h' t' k' F' N' _ => ?_) hs ht
  have e : KBy.picked b.toArray none (some (k : Int)) = (b.take k).toArray := by
    rw [KBc.picked_eq]
    simp only [Option.elim, List.drop_zero, Nat.sub_zero, clipAt_nat, List.size_toArray]
    rw [← List.take_eq_take_min]
  rw [e]
  exact h _ _ _ F' N'
theorem r_cutFrom {b : List UInt8} {k : Nat} {t u : Tok} (hF : Fr h₀ L s.heap m) (hN : News h₀ L s.heap news) (hz : b.length ≤ 16777216)
    (hs : subscripted slice false (.bytes b.toArray t) (.ref s.heap.objs.size) = operate [.ref s.heap.objs.size, .bytes b.toArray t] (getItem (.bytes b.toArray t) (.ref s.heap.objs.size)))
    (ht : ∀ r, letTemporaryGo value (.bytes b.toArray t) r = pure ())
    (h : ∀ h' t' k', Fr h₀ L h' m → News h₀ L h' news → Q (.bytes (b.drop k).toArray t') { s with heap := h', toks := k' }) :
    wpAny (model prog w) A (subscriptTail value slice (.bytes b.toArray t) (.ref s.heap.objs.size)) Q E { s with heap := s.heap.push { cls := .type "slice", data := .fields #[.int (k : Int) u, .none, .none] } } := by
  refine KBc.slice_K hF hN rfl (.int _ _) .none (by rw [KBw.ints_length]; simpa using hz) (fun h' t' k' F' N' _ => ?_) hs ht
  have e : KBy.picked b.toArray (some (k : Int)) none = (b.drop k).toArray := by
    rw [KBc.picked_eq]
    simp only [Option.elim, clipAt_nat, List.size_toArray]
    congr 1
    by_cases hk : k ≤ b.length
    · rw [Nat.min_eq_left hk, List.take_of_length_le (by rw [List.length_drop]; exact Nat.le_refl _)]
    · rw [Nat.min_eq_right (by omega), List.drop_of_length_le (Nat.le_refl _), List.drop_of_length_le (by omega), List.take_nil]
  rw [e]
  exact h _ _ _ F' N'
end
end Mine
end
-- C5
section
open PySem PySem.W PySem.Spec PySem.Calls PyProof.Rows PyProof.Rows.LCg
set_option maxRecDepth 100000
set_option maxHeartbeats 1000000
set_option linter.unusedVariables false
namespace Mine
noncomputable def hashes (size : Nat) : Nat → List UInt8 → List UInt8
  | 0, b => b
  | n + 1, b => hsh size (hashes size n b)
theorem hashes_len {size : Nat} {b : List UInt8} (h : size ≤ 900) (hb : b.length ≤ 900) : ∀ {n}, (hashes size n b).length ≤ 900
  | 0 => hb
  | n + 1 => by show (hsh size _).length ≤ 900; rw [hsh_length]; exact h
/-- between the turns of a loop that stores bytes under one name -/
noncomputable def J1 (k c : Str) (led : List (Addr × Obj)) (m₀ : Str → Option Value) (f : Nat → List UInt8) (i : Nat) (m : Str → Option Value) (nx : List (Addr × Obj)) : Prop :=
  nx = led ∧ (∃ tc, m c = some (.bytes (f i).toArray tc)) ∧ ∀ z, z ≠ k → z ≠ c → m z = m₀ z
theorem range_n {r : Nat} : Builtin.Range.rangeSize 0 (r : Int) 1 = (r : Int) := by
  rw [rangeSize_nat]
  omega
theorem ru17 : True := by
  k_with_none
  k_with "12 eval Name" => ((k_here; (first | (with_reducible show wpAny _ _ (eval (Expr.Name _ _) (envOf _ _ _ _ _)) _ _ _) | (with_reducible show wpAny _ _ (eval (Expr.Name _ _) (envOfC _ _ _ _ _)) _ _ _) | (with_reducible show wpAny _ _ (eval (Expr.Name _ _) (envX _ _ _ _ _ _)) _ _ _)); k_dflt (first
      | (refine' nameX_K ?F_0 ?X_0 ?T_0 ?e_0 ?_ ?a_0 ?b_0; (case b_0 => kernel_rfl!); (case a_0 => rfl); (case F_0 => k_asm); (case X_0 => k_asm); (case T_0 => k_asm); (case e_0 => k_is); k_whole)
      | (refine' nameX_L ?F_0 ?v_0 ?_ ?a_0 ?b_0; (case b_0 => kernel_rfl!); (case a_0 => rfl); (case F_0 => k_asm); (case v_0 => rfl); k_whole)
      | (refine' nameX_B ?F_0 ?X_0 ?T_0 ?e_0 ?v_0 ?n_0 ?_ ?a_0 ?b_0; (case b_0 => kernel_rfl!); (case a_0 => rfl); (case F_0 => k_asm); (case X_0 => k_asm); (case T_0 => k_asm); (case e_0 => k_is); (case v_0 => boot_fast); (case n_0 => decide); k_whole))))
  k_with "12 callWith ref" => ((k_here; (with_reducible show wpAny _ _ (callWith _ (Value.ref _) _ (backTo _ (starEach (_ :: _) _)) (backToKw _ _)) _ _ _); k_dflt (refine' callWith_KW ?k1_0 ?k2_0 ?k3_0 ?_; (case k1_0 => k_asm); (case k2_0 => k_is); (case k3_0 => exact rfl); k_whole)))
  k_with "1 my loop" => ((k_here; (rename Fr _ _ _ _ => lF9); (rename News _ _ _ _ => lN9); (rename IsRange _ _ _ _ _ _ _ _ => rg9); (with_unfolding_all refine' range_invG (n := rounds) (J1 (Str.ofString "k") (Str.ofString "code") _ _ (fun j => hashes size j (secret ++ salt))) (by rfl) rg9 ?sm9_24 ?rs9_24 lF9 lN9 ⟨rfl, ⟨_, rfl⟩, fun z _ _ => rfl⟩ (fun i9 t9 m9 nx9 h9 tk9 I9 oI9 hi9 hj9 ho9 F9 N9 => ?_) (fun m9 nx9 h9 tk9 hj9 F9 N9 => ?_)); (case sm9_24 => exact small_one (by omega) (by omega) (by omega) (by omega)); (case rs9_24 => exact range_n); (all_goals (obtain ⟨rfl, ⟨tc9, hc9⟩, hz9⟩ := hj9)); (all_goals (first | rw [map_one hc9 hz9] at F9 | rw [← done_one hc9 hz9] at F9)); (all_goals clear lF9 lN9)))
  k_with "1 pyIter ref" => (((with_reducible show wpAny _ _ (pyIter (Value.ref _)) (fun it s₂ => LoopAtV _ _ _ _ _ _ _ _ _ it s₂) _ _); k_dflt walk_at "my loop"))
  k_with "1 exec For Name Call cons nil" => ((k_here; (rename Fr _ _ _ _ => lF'); (with_unfolding_all refine' For_invVF lF' ?k1_24 ?k2_24 ?_; (case k1_24 => exact rfl); (case k2_24 => exact rfl); k_whole)))
  k_with "1 call ref" => ((k_here; (with_reducible show wpAny _ _ (call (Value.ref 101) [Value.bytes (List.toArray _) _, Value.int _ _]) _ _ _); refine' use_con (hash_ok _ _ _ _ _ ?h1_24 ?h2_24 ?hb_24 _) ?B_24 ?F_24 ?X_24 ?N_24 ?T_24 ?hk_24 ?hd_24 ?hu_24 ?_; (case B_24 => k_asm); (case F_24 => k_asm); (case X_24 => k_asm); (case N_24 => k_asm); (case T_24 => k_asm); (case hk_24 => rfl); (case hd_24 => omega); (case hu_24 => omega); (case h1_24 => omega); (case h2_24 => omega); (case hb_24 => exact Nat.le_trans (hashes_len (by omega) (by rw [List.length_append]; omega)) (by omega)); (intro r9 new9 h9 tk9 hR9 hA9 F9 N9; obtain ⟨hnew9, t9, hr9⟩ := hR9; subst hnew9; subst hr9; simp only [List.nil_append] at N9)))
  k_with "1 binaryOp Add bytes bytes" => ((k_here; (refine' r_add ?hlen_24 ?_; (case hlen_24 => omega); intro _ _)))
  k_with "1 subscriptTail" => ((k_here; (with_reducible show wpAny _ _ (subscriptTail _ _ (Value.bytes _ _) (Value.ref _)) _ _ _); k_dflt (refine r_cut (by k_asm) (by k_asm) (Nat.le_trans (hashes_len (by omega) (by rw [List.length_append]; omega)) (by omega)) (by with_unfolding_all rfl) (by intro _; with_unfolding_all rfl) ?_); intro h9 t9 k9 F9 N9))
  trivial
theorem first_ok (w : World) (secret salt : List UInt8) (t t' t'' t3 t4 : Tok) (size rounds length : Nat) (h1 : 1 ≤ size) (h2 : size ≤ 32) (hs : secret.length ≤ 300) (hm : salt.length ≤ 300) (hr2 : rounds ≤ 6) (hlen : length ≤ 1000) (news : List (Addr × Obj)) :
    Con w 2 40 (.ref 130) [.bytes secret.toArray t, .bytes salt.toArray t', .int (rounds : Int) t'', .int (length : Int) t3, .int (size : Int) t4] news (fun r => ∃ tc, r = .bytes ((hashes size rounds (secret ++ salt)).take length).toArray tc) := by
  refine c_130 ?_
  intro dp un gd outer A₀ base g L' h₁ tk s p loose mean mg mb B F X N T hd hu
  k_fold
  k_steps
  · show TurnEnd _ _ _ _ _ _ _
    rename Fr _ _ _ _ => F0
    rename News _ _ _ _ => N0
    refine' turn_end _ F0 N0 ?hs ho9 ⟨rfl, ⟨_, rfl⟩, fun z h1 h2 => by simp [h1, h2]⟩
    case hs => (intro p hp; (repeat (first | exact hp | refine List.Mem.tail _ ?_)))
  · show EndsN _ _ _ _ _ _ _
    refine ends_ret (by k_asm) (by k_asm) ?_ ⟨_, rfl⟩
    intro p hp; (repeat (first | exact hp | refine List.Mem.tail _ ?_))
end Mine
end
-- C0c
section
open PySem PySem.W PySem.Spec PySem.Calls PyProof.Rows
set_option maxRecDepth 100000
set_option maxHeartbeats 4000000
set_option linter.unusedVariables false
namespace Mine
theorem ru18 : True := by
  k_with_none
  k_with "12 eval Name" => ((k_here; (first | (with_reducible show wpAny _ _ (eval (Expr.Name _ _) (envOf _ _ _ _ _)) _ _ _) | (with_reducible show wpAny _ _ (eval (Expr.Name _ _) (envOfC _ _ _ _ _)) _ _ _) | (with_reducible show wpAny _ _ (eval (Expr.Name _ _) (envX _ _ _ _ _ _)) _ _ _)); k_dflt (first
      | (refine' nameX_K ?F_0 ?X_0 ?T_0 ?e_0 ?_ ?a_0 ?b_0; (case b_0 => kernel_rfl!); (case a_0 => rfl); (case F_0 => k_asm); (case X_0 => k_asm); (case T_0 => k_asm); (case e_0 => k_is); k_whole)
      | (refine' nameX_L ?F_0 ?v_0 ?_ ?a_0 ?b_0; (case b_0 => kernel_rfl!); (case a_0 => rfl); (case F_0 => k_asm); (case v_0 => rfl); k_whole)
      | (refine' nameX_B ?F_0 ?X_0 ?T_0 ?e_0 ?v_0 ?n_0 ?_ ?a_0 ?b_0; (case b_0 => kernel_rfl!); (case a_0 => rfl); (case F_0 => k_asm); (case X_0 => k_asm); (case T_0 => k_asm); (case e_0 => k_is); (case v_0 => boot_fast); (case n_0 => decide); k_whole))))
  k_with "12 callWith ref" => ((k_here; (with_reducible show wpAny _ _ (callWith _ (Value.ref _) _ (backTo _ (starEach (_ :: _) _)) (backToKw _ _)) _ _ _); k_dflt (refine' callWith_KW ?k1_0 ?k2_0 ?k3_0 ?_; (case k1_0 => k_asm); (case k2_0 => k_is); (case k3_0 => exact rfl); k_whole)))
  trivial
/-- the walk of the body of a def whose frame has cells -/
noncomputable def BodyC (w : World) (D U : Nat) (qual : Str) (scope : Scope) (f : Addr) (cdv : Value) (body : List Stmt) (binds : List (Str × Value)) (news : List (Addr × Obj)) (R : Value → List (Addr × Obj) → Prop) : Prop :=
  ∀ (dp un : Nat) (gd : Option (List Code)) (outer : List Env) (A₀ : Around) (base g : Heap) (L' : Addr) (h₁ : Heap) (tk : Nat) (s : Shared) (p : Program) (loose : List Str) (mean : ExcName → Option Value) (mg mb : Str → Option Value) (cells : List (Addr × Obj)),
    Below A₀ base outer g → Fr g L' h₁ (bindL (envOfC qual scope L' f cdv).kindOf binds fun _ => none) → (K w.params).In g → News g L' h₁ (cells ++ news) → CellsAre (bindC (envOfC qual scope L' f cdv).kindOf binds fun _ => none) (cellsFrom (L' + 1) scope.names []) cells →
    Top p loose mean mg mb g → (∀ p ∈ news, p.1 < L') → dp + D < recursionLimit → un + U < cLine →
    wpAny (model pw w) (ktrTop dp un gd qual scope L' f cdv (cellsFrom (L' + 1) scope.names []) outer) (execs body (envOfC qual scope L' f cdv)) (EndsN g L' s news R) (fun _ _ => False) { s with heap := h₁, toks := tk }
theorem con_ofC {w : World} {D U : Nat} {news : List (Addr × Obj)} {R : Value → List (Addr × Obj) → Prop} {name qual : Str} {params : Arguments} {body : List Stmt} {scope : Scope} {dV kV doc pm cdv ct oc : Value} {an od : Option Addr} {osl : Array (Option Value)} {f : Addr} {vs : List Value} {binds : List (Str × Value)}
    (ho : (K w.params).lookup f = some ⟨oc, od, .func (fnOf name qual params body scope dV kV doc pm an cdv ct), osl⟩) (hcd : codeIn (K w.params) cdv qual = true)
    (hbind : ∀ s : Shared, (K w.params).In s.heap → BindsTo s (fnOf name qual params body scope dV kV doc pm an cdv ct) ⟨vs, []⟩ binds) (hkind : (binds.all fun y => scope.names.lookup y.1 == some .local || scope.names.lookup y.1 == some .cell) = true)
    (hnd : ((cellsFrom 0 scope.names []).map (·.1)).Nodup)
    (hco : scope.isCoroutine = false) (hgen : scope.isGenerator = false) (hk : scope.kind = .function)
    (hb : BodyC w D (U + 3) qual scope f cdv body binds news R) : ConN w (D + 1) (U + 6) (.ref f) vs news R := by
  intro dp un gd cn cs a ccd cl outer A₀ base h₀ L m s Q E p loose mean mg mb B F X N T hk' hd hu hret
  refine wpAny_call ?_
  refine code_defC B F X N T rfl rfl hk' ho hcd (by show dp < recursionLimit; omega) (hbind s (X.keeps F.keep)) hkind hnd (fun g L' h₁ tk cells FG F' N' Y B' X' T' l => ?_) hco hgen hk
  refine wpAny_mono (hb (dp + 1) (un + 3) gd (envX cn cs L a ccd cl :: outer) _ base g L' h₁ _ s p loose mean mg mb cells B' F' X' N' Y T' l (by omega) (by omega)) (fun fl s' h => ?_) fun _ _ h => h.elim
  obtain ⟨v, h', tk, m', news', new, e, rfl, r, ha, Fz, Nz, hs⟩ := h
  cases fl <;> cases e <;> exact leaveK_ Fz (news_sub Nz hs) fun kF kN => hret _ new h' tk r ha kF kN
end Mine
end
-- R4
section
open PySem PySem.W PySem.Spec PySem.Calls PyProof.Rows PyProof.Rows.LCg
set_option maxRecDepth 100000
set_option maxHeartbeats 4000000
set_option linter.unusedVariables false
namespace Mine
/-- values that are bytes -/
noncomputable def BytesAre (ys : List Value) (ls : List (List UInt8)) : Prop := Each ls.length (fun i v => ∃ b t, ls[i]? = some b ∧ v = .bytes (List.toArray b) t) ys
section
variable {prog : Program} {w : World} {A : Around} {E : Value → Shared → Prop} {s : Shared} {h₀ : Heap} {L : Addr} {m : Str → Option Value} {env : Env} {elt : PySem.Expr} {x : Str} {scope : Scope} {cl : List (Str × Addr)} {news : List (Addr × Obj)} {Fin : Shared → List Value → List (Addr × Obj) → Prop} {s₁ : Shared}
theorem comp_rb (G : Nat → List UInt8) {r : Addr} {a b : Int} {t u v : Tok} {n : Nat} (hh : A.handled = none) (F : Fr h₀ L s₁.heap m) (N : News h₀ L s₁.heap news) (hr : IsRange s₁.heap r a b 1 t u v) (hsm : Builtin.Range.small a b 1 = true) (hn : Builtin.Range.rangeSize a b 1 = (n : Int)) (hsz : n ≤ sizeLine)
    (turn : ∀ (i : Nat) t I oI C oC D oD m₂ h tk (E' : Value → Shared → Prop), i < n → NsObj oC m₂ → m₂ x = some (.int (a + (i : Int)) t) → Fr h₀ L h m → News h₀ L h ((I, oI) :: (C, oC) :: (D, oD) :: news) → Off3 I C D news → ((@Ne Nat I C) ∧ (@Ne Nat I D) ∧ (@Ne Nat C D)) →
      wpAny (model prog w) A (eval elt (compEnvC scope cl C env)) (EltEnd h₀ L m { s₁ with heap := h, toks := tk } ((I, oI) :: (C, oC) :: (D, oD) :: news) (fun y => ∃ t, y = .bytes (G i).toArray t)) E' { s₁ with heap := h, toks := tk })
    (fin : ∀ g ys, BytesAre ys ((List.range n).map G) → Fin { s₁ with heap := g } ys news) : CompSrc prog w A h₀ L m env elt x scope cl Fin (.ref r) s₁ := by
  refine CompSrc.range (n := n) hh F N hr hsm hn hsz fun g => ?_
  refine comp_rest (fun i v => ∃ b t, ((List.range n).map G)[i]? = some b ∧ v = .bytes (List.toArray b) t) ?_ trivial fun ys hy => fin g ys (by unfold BytesAre; rw [List.length_map, List.length_range]; exact hy)
  rintro i v I oI C oC D oD m₂ h tk E' hi ⟨t, rfl⟩ hC hx F' N' off ne _
  refine wpAny_mono (turn i t I oI C oC D oD m₂ h tk E' hi hC hx F' N' off ne) (fun y s₂ hq => ?_) fun _ _ e => e
  obtain ⟨h', tk', rfl, F2, N2, t, rfl⟩ := hq
  exact ⟨h', tk', rfl, F2, N2, G i, t, by simp [hi], rfl⟩
theorem comp_rb1 (G : Nat → List UInt8) {r : Addr} {b : Int} {t u v : Tok} {n : Nat} (hh : A.handled = none) (F : Fr h₀ L s₁.heap m) (N : News h₀ L s₁.heap news) (hr : IsRange s₁.heap r 1 b 1 t u v) (hb : b = (n : Int) + 1) (hsz : n ≤ 16777216)
    (turn : ∀ (i : Nat) t I oI C oC D oD m₂ h tk (E' : Value → Shared → Prop), i < n → NsObj oC m₂ → m₂ x = some (.int ((i + 1 : Nat) : Int) t) → Fr h₀ L h m → News h₀ L h ((I, oI) :: (C, oC) :: (D, oD) :: news) → Off3 I C D news → ((@Ne Nat I C) ∧ (@Ne Nat I D) ∧ (@Ne Nat C D)) →
      wpAny (model prog w) A (eval elt (compEnvC scope cl C env)) (EltEnd h₀ L m { s₁ with heap := h, toks := tk } ((I, oI) :: (C, oC) :: (D, oD) :: news) (fun y => ∃ t, y = .bytes (G (i + 1)).toArray t)) E' { s₁ with heap := h, toks := tk })
    (fin : ∀ g ys, BytesAre ys ((List.range n).map fun i => G (i + 1)) → Fin { s₁ with heap := g } ys news) : CompSrc prog w A h₀ L m env elt x scope cl Fin (.ref r) s₁ := by
  subst hb
  refine comp_rb (fun i => G (i + 1)) hh F N hr (small_one (by omega) (by omega) (by omega) (by omega)) (by rw [rangeSize_nat]; omega) (by rw [PySem.sizeLine_eq]; exact hsz) (fun i t I oI C oC D oD m₂ h tk E' hi hC hx => ?_) fin
  rw [show (1 : Int) + (i : Int) = ((i + 1 : Nat) : Int) by omega] at hx
  exact turn i t I oI C oC D oD m₂ h tk E' hi hC hx
end
end Mine
end
-- R5
section
open PySem PySem.W PySem.Spec PySem.Calls PyProof.Rows PyProof.Rows.LCg
set_option maxRecDepth 100000
set_option maxHeartbeats 4000000
set_option linter.unusedVariables false
namespace Mine
open Builtin
theorem slot_join : Slot "bytes" "join" "bytes.join" :=
  .of (owner := "bytes") (n := "join") (by rw [typeLookup_type, builtinLookup_eq_fast]; kernel_rfl) (by decide +kernel) (by decide +kernel) (by decide +kernel)
    (by first | exact .inl (by decide +kernel) | exact .inr (by decide +kernel)) (by rw [isSubtype_type]; kernel_rfl)
theorem type_join : typeOf (.builtin "bytes.join") = pure (.type "method_descriptor") := by show builtinType _ = _; rw [builtinType_eq_fast]; kernel_rfl
theorem entry_join : entryFor table "bytes.join" = some Builtin.«bytes.join» := entryFor_of_tree (by kernel_rfl)
theorem args_join (a b : Value) : argsOk "bytes.join" ⟨[a, b], []⟩ := by
  unfold argsOk; rw [signature?_of (id := "bytes.join") (n := ['n', 'i', 'o', 'j']) (o := ['s', 'e', 't', 'y', 'b']) (by kernel_rfl) FB.owner_bytes]; kernel_rfl
theorem take_eq {id : String} {b : Array UInt8} {t : Tok} : Bytes.takeBuffer? id (.bytes b t) 0 = pure (some (b, none)) := by
  unfold Bytes.takeBuffer?
  rw [KBy.special_eq KBy.look_buffer, KBy.own_buffer]
  simp only [pure_bind]
  show (Bytes.buffer? id (.bytes b t) (full := (0 : Int) == Bytes.fullReadOnly) >>= _) = _
  have e : ((0 : Int) == Bytes.fullReadOnly) = false := by decide +kernel
  rw [e, KBy.buffer_eq]
  rfl
theorem takeQ_eq {id : String} {b : Array UInt8} {t : Tok} : Bytes.takeBufferQuiet? id (.bytes b t) 0 = pure (some (b, none)) := by
  unfold Bytes.takeBufferQuiet?
  rw [take_eq]
  rfl
section
variable {prog : Program} {w : World} {A : Around} {E : Value → Shared → Prop} {s : Shared}
theorem m_join {M : Model} {b : Array UInt8} {t : Tok} {pl : Sem Bool} {Q : Value × List Value → Shared → Prop} (h : Q (.builtin "bytes.join", [.bytes b t]) s) : wpAny M A (getMethod (.bytes b t) (Str.ofString "join") pl) Q E s := by
  with_reducible exact KBd.method_of (.bytes b t) (typeIs_bytes _ _ _) slot_join type_join KBd.noRef h
noncomputable def TakenOk (taken : List (Value × Option Value)) : Prop := ∀ p ∈ taken, p.2 = none ∧ ∃ b t, p.1 = .bytes b t
theorem taken_heap {taken : List (Value × Option Value)} (h : TakenOk taken) : (taken.any fun x => x.1.onHeap) = false := by
  rw [List.any_eq_false]
  intro p hp
  obtain ⟨_, b, t, e⟩ := h p hp
  rw [e]
  exact Bool.false_ne_true
theorem joinLetGo_ok {M : Model} {keep : List Value} {Q : Unit → Shared → Prop} : ∀ {taken : List (Value × Option Value)}, TakenOk taken → Q () s → wpAny M A (Bytes.joinLetGo taken keep) Q E s
  | [], _, h => by
    unfold Bytes.joinLetGo
    exact wpAny_pure h
  | (x, w) :: rest, ok, h => by
    unfold Bytes.joinLetGo
    obtain ⟨hw, b, t, hx⟩ := ok (x, w) List.mem_cons_self
    dsimp only at hw hx
    subst hw hx
    refine wpAny_bind (wpAny_letGo ?_)
    exact joinLetGo_ok (fun p hp => ok p (List.mem_cons_of_mem _ hp)) h
theorem joined_nil : ∀ (ps : List (Array UInt8)), Bytes.joined #[] ps = (ps.map (·.toList)).flatten.toArray := by
  intro ps
  unfold Bytes.joined
  suffices H : ∀ (ps : List (Array UInt8)) (k : Nat) (acc : Array UInt8), (ps.zipIdx k).foldl (fun out (p : Array UInt8 × Nat) => (if p.2 > 0 then out ++ #[] else out) ++ p.1) acc = acc ++ (ps.map (·.toList)).flatten.toArray by
    simpa using H ps 0 #[]
  intro ps
  induction ps with
  | nil => intro k acc; simp
  | cons p ps ih =>
    intro k acc
    rw [List.zipIdx_cons, List.foldl_cons, ih]
    apply Array.toList_inj.mp
    split <;> simp
theorem foldl_size : ∀ (ps : List (Array UInt8)) (a : Nat), ps.foldl (fun x y => x + y.size) a = a + (ps.map (·.toList)).flatten.length
  | [], a => by simp
  | p :: ps, a => by
    rw [List.foldl_cons, foldl_size ps]
    simp
    omega
theorem map_list (ls : List (List UInt8)) : (ls.map List.toArray).map (·.toList) = ls := by
  rw [List.map_map]
  exact List.map_id _
theorem jm1 (arr : Array Value) (h : ∀ x, arr ≠ #[x]) (f : Value → Sem PySem.Fin) (g : Array Value → Sem PySem.Fin) : Bytes.joinM.match_1 (fun _ => Sem PySem.Fin) arr f g = g arr := by
  rcases arr with ⟨_ | ⟨y1, _ | ⟨y2, ys⟩⟩⟩
  · rfl
  · exact absurd rfl (h y1)
  · rfl
/-- what the join does behind its one-item case -/
theorem join_body {t : Tok} {l : Addr} {ys : List Value} {ls : List (List UInt8)} {Q : Value → Shared → Prop} (hl : s.heap.IsList l ys.toArray) (hy : BytesAre ys ls) (hz : ls.flatten.length ≤ 16777216)
    (h : ∀ t' k, Q (.bytes ls.flatten.toArray t') { s with toks := k }) :
    wpAny (model prog w) A (Bytes.joinM .bytes ⟨[.bytes #[] t, .ref l], []⟩) (fun fin s' => ∃ v, fin = .done (.ret v) ∧ Q v s') E s := by
  obtain ⟨o, ho, hc, n, hd⟩ := hl
  have hT : s.TypeIs (.ref l) "list" := ⟨o, ho, hc⟩
  obtain ⟨hlen, hat⟩ := hy
  show wpAny _ _ (Bytes.joinItems (.ref l) >>= fun r => _) _ _ s
  refine wpAny_bind ?_
  unfold Bytes.joinItems
  refine wpAny_bind (wpAny_typeOf hT ?_)
  show wpAny _ _ (pure _) _ _ s
  refine wpAny_pure ?_
  show wpAny _ _ (seqItems? (.ref l) >>= fun r => _) _ _ s
  refine wpAny_bind (wpAny_seqItems ho hd ?_)
  dsimp only
  rw [if_pos (show (Bytes.Kind.bytes == Bytes.Kind.bytes) = true by decide)]
  by_cases h1 : ls.length = 1
  · obtain ⟨y, rfl⟩ := List.length_eq_one_iff.mp (hlen.trans h1)
    obtain ⟨b, rfl⟩ := List.length_eq_one_iff.mp h1
    obtain ⟨b', t', e1, rfl⟩ := hat 0 y rfl
    cases e1
    refine wpAny_bind (wpAny_typeOf (typeIs_bytes _ _ _) ?_)
    refine wpAny_ite (KBc.ite_yes rfl ?_)
    refine wpAny_bind (wpAny_rule (wpAny_pure ⟨_, rfl, ?_⟩))
    have := h t' s.toks
    rw [show [b].flatten = b by simp] at this
    exact this
  · generalize harr : ys.toArray = arr at hd ⊢
    have hne : ∀ x, arr ≠ #[x] := fun x e => by
      have := congrArg Array.size (harr.trans e)
      rw [List.size_toArray, hlen] at this
      exact h1 this
    rw [jm1 arr hne]
    subst harr
    · refine wpAny_bind ?_
      rw [Std.Legacy.Range.forIn_eq_forIn_range']
      simp only [Std.Legacy.Range.size, Nat.sub_zero, Nat.add_sub_cancel, Nat.div_one]
      refine wpAny_forIn_list _
        (fun rest b s' => ∃ i, s' = s ∧ rest = List.range' i (ys.toArray.size - i) ∧ i ≤ ls.length ∧ b.1.toList = (ls.take i).map List.toArray ∧ TakenOk b.2)
        _ ?_ ?_ _ _ ⟨0, rfl, by simp, Nat.zero_le _, by simp, fun p hp => nomatch hp⟩
      · rintro x rest ⟨parts, taken⟩ s' ⟨i, rfl, hr, hi, hp, hk⟩
        rw [List.size_toArray, hlen] at hr
        have hlt : i < ls.length := by
          rcases Nat.lt_or_ge i ls.length with h | h
          · exact h
          · rw [Nat.sub_eq_zero_of_le h] at hr; simp at hr
        obtain ⟨rfl, hrest⟩ : x = i ∧ rest = List.range' (i + 1) (ls.length - (i + 1)) := by
          have e : ls.length - i = (ls.length - (i + 1)) + 1 := by omega
          rw [e, List.range'_succ] at hr
          injection hr with h1 h2
          exact ⟨h1, h2⟩
        have hv : x < ys.length := by omega
        obtain ⟨b, tb, hb, hyv⟩ := hat x ys[x] (by simp [hv])
        refine wpAny_bind (wpAny_seqItems ho hd ?_)
        dsimp only
        have hx : ys.toArray.getD x .none = .bytes b.toArray tb := by
          rw [Array.getD_eq_getD_getElem?]
          simp [hv, hyv]
        rw [hx, taken_heap hk]
        refine wpAny_ite (KBy.ite_no (by decide) ?_)
        refine wpAny_bind (wpAny_holding ?_)
        rw [takeQ_eq]
        refine wpAny_pure ?_
        dsimp only
        refine wpAny_bind (wpAny_seqItems ho hd ?_)
        dsimp only
        refine wpAny_ite (KBy.ite_no (by simp) ?_)
        refine wpAny_pure ⟨x + 1, rfl, by rw [List.size_toArray, hlen]; exact hrest, hlt, ?_, ?_⟩
        · show (parts.push b.toArray).toList = _
          rw [Array.toList_push, hp, List.take_add_one, hb]
          simp
        · intro p hp'
          rcases List.mem_append.mp hp' with hp' | hp'
          · exact hk p hp'
          · rw [List.mem_singleton.mp hp']
            exact ⟨rfl, _, _, rfl⟩
      · rintro ⟨parts, taken⟩ s' ⟨i, rfl, hr, hi, hp, hk⟩
        rw [List.size_toArray, hlen] at hr
        have hi' : i = ls.length := by
          have := congrArg List.length hr
          rw [List.length_range'] at this
          simp at this
          omega
        subst hi'
        rw [List.take_length] at hp
        refine wpAny_bind (wpAny_of_eq (a := #[]) rfl ?_)
        dsimp only
        have hsz : parts.foldl (fun x y => x + y.size) (0 * (parts.size - 1)) = ls.flatten.length := by
          rw [← Array.foldl_toList, hp, foldl_size, map_list]; simp
        refine wpAny_ite (KBy.ite_no ?_ ?_)
        · show ¬ (Bytes.tooLong (parts.foldl (fun x y => x + y.size) (0 * (parts.size - 1))) = true)
          rw [hsz, KBy.tooLong_not hz]
          exact Bool.false_ne_true
        · have hj : Bytes.joined #[] parts.toList = ls.flatten.toArray := by rw [joined_nil, hp, map_list]
          rw [hj]
          refine wpAny_bind (wpAny_mkBytes ?_ (by rw [PySem.sizeLine_eq, List.size_toArray]; exact hz))
          refine wpAny_bind (wpAny_holding (wpAny_point ?_))
          refine wpAny_bind (joinLetGo_ok hk ?_)
          exact wpAny_pure ⟨_, rfl, h _ _⟩
theorem meets_join {t : Tok} {l : Addr} {ys : List Value} {ls : List (List UInt8)} (hy : BytesAre ys ls) (hz : ls.flatten.length ≤ 16777216) :
    Meets (Builtin.«bytes.join» ⟨[.bytes #[] t, .ref l], []⟩) (fun _ R s => s.heap.IsList l ys.toArray ∧ ∀ t' k, R (.ok (.ret (.bytes ls.flatten.toArray t'))) { s with toks := k }) := by
  refine .of_wp fun prog w A R s hS => ?_
  obtain ⟨hl, h⟩ := hS
  refine wpAny_mono (join_body hl hy hz (Q := fun v s' => R (.ok (.ret v)) s') h) (fun fin s' hq => ?_) (fun _ _ e => e)
  obtain ⟨v, rfl, hq⟩ := hq
  exact ⟨_, rfl, hq⟩
theorem r_join {h₀ : Heap} {L : Addr} {news : List (Addr × Obj)} {t : Tok} {l : Addr} {ys : List Value} {kk : Nat} {ls : List (List UInt8)} {Q : Value → Shared → Prop} (N : News h₀ L s.heap news) (hm : (l, ({ cls := .type "list", data := .seq ys.toArray kk } : Obj)) ∈ news) (hy : BytesAre ys ls) (hz : ls.flatten.length ≤ 16777216)
    (h : ∀ t' k, Q (.bytes ls.flatten.toArray t') { s with toks := k }) : wpAny (model prog w) A (call (.builtin "bytes.join") [.bytes #[] t, .ref l]) Q E s :=
  call_meets slot_join (typeIs_bytes _ _ _) entry_join (args_join _ _) (meets_join hy hz) ⟨⟨_, (N _ hm).1, rfl, kk, rfl⟩, h⟩
end
end Mine
end
-- C6
section
open PySem PySem.W PySem.Spec PySem.Calls PyProof.Rows PyProof.Rows.LCg
set_option maxRecDepth 100000
set_option maxHeartbeats 1000000
set_option linter.unusedVariables false
namespace Mine
noncomputable def piecesF (size : Nat) (i o salt : List UInt8) (rounds : Nat) (n : Nat) : List UInt8 := ((List.range n).map fun k => pieceF size i o salt rounds (k + 1)).flatten
theorem pieces_n {size length : Nat} (hl : 1 ≤ length) : ((length : Int) - 1).fdiv (size : Int) + 2 = (((length - 1) / size + 1 : Nat) : Int) + 1 := by
  rw [show (length : Int) - 1 = ((length - 1 : Nat) : Int) by omega, Int.fdiv_eq_ediv_of_nonneg _ (by omega)]
  omega
theorem ru19 : True := by
  k_with_none
  k_with "12 eval Name" => ((k_here; (first | (with_reducible show wpAny _ _ (eval (Expr.Name _ _) (envOf _ _ _ _ _)) _ _ _) | (with_reducible show wpAny _ _ (eval (Expr.Name _ _) (envOfC _ _ _ _ _)) _ _ _) | (with_reducible show wpAny _ _ (eval (Expr.Name _ _) (envX _ _ _ _ _ _)) _ _ _)); k_dflt (first
      | (refine' nameX_K ?F_0 ?X_0 ?T_0 ?e_0 ?_ ?a_0 ?b_0; (case b_0 => kernel_rfl!); (case a_0 => rfl); (case F_0 => k_asm); (case X_0 => k_asm); (case T_0 => k_asm); (case e_0 => k_is); k_whole)
      | (refine' nameX_L ?F_0 ?v_0 ?_ ?a_0 ?b_0; (case b_0 => kernel_rfl!); (case a_0 => rfl); (case F_0 => k_asm); (case v_0 => rfl); k_whole)
      | (refine' nameX_B ?F_0 ?X_0 ?T_0 ?e_0 ?v_0 ?n_0 ?_ ?a_0 ?b_0; (case b_0 => kernel_rfl!); (case a_0 => rfl); (case F_0 => k_asm); (case X_0 => k_asm); (case T_0 => k_asm); (case e_0 => k_is); (case v_0 => boot_fast); (case n_0 => decide); k_whole))))
  k_with "12 callWith ref" => ((k_here; (with_reducible show wpAny _ _ (callWith _ (Value.ref _) _ (backTo _ (starEach (_ :: _) _)) (backToKw _ _)) _ _ _); k_dflt (refine' callWith_KW ?k1_0 ?k2_0 ?k3_0 ?_; (case k1_0 => k_asm); (case k2_0 => k_is); (case k3_0 => exact rfl); k_whole)))
  k_with "1 my comp" => ((refine' comp_rb1 (n := (length - 1) / size + 1) (fun k => pieceF size i o salt rounds k) ?hh_28 ?F_28 ?N_28 ?hr_28 ?hb_28 ?sz_28 (fun i9 t9 I9 oI9 C9 oC9 D9 oD9 m9 h9 tk9 E9 hi9 hC9 hx9 F9 N9 off9 ne9 => ?_) (fun g9 ys9 hI9 D9 h9 tk9 F9 N9 o9 => ?_); (case hh_28 => rfl); (case F_28 => k_asm); (case N_28 => k_asm); (case hr_28 => assumption); (case hb_28 => exact pieces_n hl); (case sz_28 => have := Nat.div_le_self (length - 1) size; omega)))
  k_with "1 CompSrc" => ((k_here; k_dflt walk_at "my comp"))
  k_with "1 EltEnd" => ((refine elt_end (by k_asm) (by k_asm) (fun p hp => hp) ⟨_, rfl⟩))
  k_with "1 call ref" => ((k_here; (with_reducible show wpAny _ _ (call (Value.ref 118) [Value.ref _, Value.bytes (List.toArray _) _, Value.int _ _, Value.int _ _, Value.int _ _]) _ _ _); refine' use_con (piece_ok _ _ _ _ _ _ _ _ _ _ _ _ ?h1_28 ?h2_28 ?hi_28 ?ho_28 ?hm_28 ?hr1_28 ?hr2_28 ?hpc_28 _ ?hp_28) ?B_28 ?F_28 ?X_28 ?N_28 ?T_28 ?hk_28 ?hd_28 ?hu_28 ?_; (case B_28 => k_asm); (case F_28 => k_asm); (case X_28 => k_asm); (case N_28 => k_asm); (case T_28 => k_asm); (case hk_28 => rfl); (case hd_28 => omega); (case hu_28 => omega); (case h1_28 => omega); (case h2_28 => omega); (case hp_28 => (repeat (first | assumption | refine PadsAt.cons ?_))); (case hi_28 => omega); (case ho_28 => omega); (case hm_28 => omega); (case hr1_28 => omega); (case hr2_28 => omega); (case hpc_28 => have := Nat.div_le_self (length - 1) size; omega); (intro r9 new9 h9 tk9 hR9 hA9 F9 N9; obtain ⟨hnew9, t9, hr9⟩ := hR9; subst hnew9; subst hr9; simp only [List.nil_append] at N9)))
  k_with "1 getMethod bytes" => ((k_here; (with_reducible refine m_join ?_)))
  trivial
theorem flat_len {size : Nat} : ∀ {ls : List (List UInt8)}, (∀ b ∈ ls, b.length = size) → ls.flatten.length = ls.length * size
  | [], _ => by simp
  | b :: ls, h => by
    rw [List.flatten_cons, List.length_append, h b List.mem_cons_self, flat_len fun c hc => h c (List.mem_cons_of_mem _ hc), List.length_cons, Nat.succ_mul]
    omega
theorem pieceF_len {size : Nat} {i o salt : List UInt8} {rounds piece : Nat} : (pieceF size i o salt rounds piece).length = size := tp2
theorem pieces_len {size : Nat} {i o salt : List UInt8} {rounds n : Nat} : (piecesF size i o salt rounds n).length = n * size := by
  unfold piecesF
  rw [flat_len (size := size) (fun b hb => by obtain ⟨k, _, rfl⟩ := List.mem_map.mp hb; exact pieceF_len), List.length_map, List.length_range]
theorem pieces_small {size length : Nat} {i o salt : List UInt8} {rounds : Nat} (h2 : size ≤ 32) (hpc : length ≤ 900) : (piecesF size i o salt rounds ((length - 1) / size + 1)).length ≤ 16777216 := by
  rw [pieces_len]
  have a : (length - 1) / size + 1 ≤ 901 := by have := Nat.div_le_self (length - 1) size; omega
  have := Nat.mul_le_mul a h2
  omega
theorem ru20 : True := by
  k_with_none
  k_with "12 eval Name" => ((k_here; (first | (with_reducible show wpAny _ _ (eval (Expr.Name _ _) (envOf _ _ _ _ _)) _ _ _) | (with_reducible show wpAny _ _ (eval (Expr.Name _ _) (envOfC _ _ _ _ _)) _ _ _) | (with_reducible show wpAny _ _ (eval (Expr.Name _ _) (envX _ _ _ _ _ _)) _ _ _)); k_dflt (first
      | (refine' nameX_K ?F_0 ?X_0 ?T_0 ?e_0 ?_ ?a_0 ?b_0; (case b_0 => kernel_rfl!); (case a_0 => rfl); (case F_0 => k_asm); (case X_0 => k_asm); (case T_0 => k_asm); (case e_0 => k_is); k_whole)
      | (refine' nameX_L ?F_0 ?v_0 ?_ ?a_0 ?b_0; (case b_0 => kernel_rfl!); (case a_0 => rfl); (case F_0 => k_asm); (case v_0 => rfl); k_whole)
      | (refine' nameX_B ?F_0 ?X_0 ?T_0 ?e_0 ?v_0 ?n_0 ?_ ?a_0 ?b_0; (case b_0 => kernel_rfl!); (case a_0 => rfl); (case F_0 => k_asm); (case X_0 => k_asm); (case T_0 => k_asm); (case e_0 => k_is); (case v_0 => boot_fast); (case n_0 => decide); k_whole))))
  k_with "12 callWith ref" => ((k_here; (with_reducible show wpAny _ _ (callWith _ (Value.ref _) _ (backTo _ (starEach (_ :: _) _)) (backToKw _ _)) _ _ _); k_dflt (refine' callWith_KW ?k1_0 ?k2_0 ?k3_0 ?_; (case k1_0 => k_asm); (case k2_0 => k_is); (case k3_0 => exact rfl); k_whole)))
  k_with "1 my comp" => ((refine' comp_rb1 (n := (length - 1) / size + 1) (fun k => pieceF size i o salt rounds k) ?hh_28 ?F_28 ?N_28 ?hr_28 ?hb_28 ?sz_28 (fun i9 t9 I9 oI9 C9 oC9 D9 oD9 m9 h9 tk9 E9 hi9 hC9 hx9 F9 N9 off9 ne9 => ?_) (fun g9 ys9 hI9 D9 h9 tk9 F9 N9 o9 => ?_); (case hh_28 => rfl); (case F_28 => k_asm); (case N_28 => k_asm); (case hr_28 => assumption); (case hb_28 => exact pieces_n hl); (case sz_28 => have := Nat.div_le_self (length - 1) size; omega)))
  k_with "1 CompSrc" => ((k_here; k_dflt walk_at "my comp"))
  k_with "1 EltEnd" => ((refine elt_end (by k_asm) (by k_asm) (fun p hp => hp) ⟨_, rfl⟩))
  k_with "1 call ref" => ((k_here; (with_reducible show wpAny _ _ (call (Value.ref 118) [Value.ref _, Value.bytes (List.toArray _) _, Value.int _ _, Value.int _ _, Value.int _ _]) _ _ _); refine' use_con (piece_ok _ _ _ _ _ _ _ _ _ _ _ _ ?h1_28 ?h2_28 ?hi_28 ?ho_28 ?hm_28 ?hr1_28 ?hr2_28 ?hpc_28 _ ?hp_28) ?B_28 ?F_28 ?X_28 ?N_28 ?T_28 ?hk_28 ?hd_28 ?hu_28 ?_; (case B_28 => k_asm); (case F_28 => k_asm); (case X_28 => k_asm); (case N_28 => k_asm); (case T_28 => k_asm); (case hk_28 => rfl); (case hd_28 => omega); (case hu_28 => omega); (case h1_28 => omega); (case h2_28 => omega); (case hp_28 => (repeat (first | assumption | refine PadsAt.cons ?_))); (case hi_28 => omega); (case ho_28 => omega); (case hm_28 => omega); (case hr1_28 => omega); (case hr2_28 => omega); (case hpc_28 => have := Nat.div_le_self (length - 1) size; omega); (intro r9 new9 h9 tk9 hR9 hA9 F9 N9; obtain ⟨hnew9, t9, hr9⟩ := hR9; subst hnew9; subst hr9; simp only [List.nil_append] at N9)))
  k_with "1 getMethod bytes" => ((k_here; (with_reducible refine m_join ?_)))
  k_with "1 call builtin:bytes.join" => ((k_here; k_dflt (refine r_join (by k_asm) (by k_mem) (by assumption) (pieces_small (by assumption) (by assumption)) ?_); intro t9 k9))
  k_with "1 subscriptTail" => ((k_here; (with_reducible show wpAny _ _ (subscriptTail _ _ (Value.bytes _ _) (Value.ref _)) _ _ _); k_dflt (refine r_cut (by k_asm) (by k_asm) (pieces_small (by assumption) (by assumption)) (by with_unfolding_all rfl) (by intro _; with_unfolding_all rfl) ?_); intro h9 t9 k9 F9 N9))
  trivial
theorem second_ok (w : World) (l : Addr) (i o salt : List UInt8) (t t' t'' t3 : Tok) (size rounds length : Nat) (h1 : 1 ≤ size) (h2 : size ≤ 32) (hi : i.length ≤ 64) (ho : o.length ≤ 64) (hm : salt.length ≤ 900) (hr1 : 1 ≤ rounds) (hr2 : rounds ≤ 6) (hl : 1 ≤ length) (hpc : length ≤ 900) (news : List (Addr × Obj)) (hp : PadsAt l i o news) :
    Con w 4 120 (.ref 123) [.ref l, .bytes salt.toArray t, .int (rounds : Int) t', .int (length : Int) t'', .int (size : Int) t3] news (fun r => ∃ tc, r = .bytes ((piecesF size i o salt rounds ((length - 1) / size + 1)).take length).toArray tc) := by
  refine' con_ofC (binds := [(Str.ofString "pads", .ref l), (Str.ofString "salt", .bytes salt.toArray t), (Str.ofString "rounds", .int (rounds : Int) t'), (Str.ofString "length", .int (length : Int) t''), (Str.ofString "size", .int (size : Int) t3)]) ?qo ?qcd ?qbind ?qkind ?qnd ?q1 ?q2 ?q3 ?_
  case qo => k_is
  case qcd => k_is
  case qbind => exact fun s _ => BindsTo.of_eq rfl
  case qkind => exact rfl
  case qnd => decide +kernel
  case q1 => exact rfl
  case q2 => exact rfl
  case q3 => exact rfl
  intro dp un gd outer A₀ base g L' h₁ tk s p loose mean mg mb cells B F X N Y T l1 hd hu
  (try k_lt l1)
  k_cells Y
  (try simp only [List.cons_append, List.nil_append] at N)
  (try dsimp only)
  show wpAny _ _ _ _ _ _
  k_fold
  k_steps
  · show EndsN _ _ _ _ _ _ _
    refine ends_ret (by k_asm) (by k_asm) ?_ ⟨_, rfl⟩
    intro p hp; (repeat (first | exact hp | refine List.Mem.tail _ ?_))
end Mine
end
-- C7
section
open PySem PySem.W PySem.Spec PySem.Calls PyProof.Rows PyProof.Rows.LCg
set_option maxRecDepth 100000
set_option maxHeartbeats 1000000
set_option linter.unusedVariables false
namespace Mine
theorem ru22 : True := by
  k_with_none
  k_with "12 eval Name" => ((k_here; (first | (with_reducible show wpAny _ _ (eval (Expr.Name _ _) (envOf _ _ _ _ _)) _ _ _) | (with_reducible show wpAny _ _ (eval (Expr.Name _ _) (envOfC _ _ _ _ _)) _ _ _) | (with_reducible show wpAny _ _ (eval (Expr.Name _ _) (envX _ _ _ _ _ _)) _ _ _)); k_dflt (first
      | (refine' nameX_K ?F_0 ?X_0 ?T_0 ?e_0 ?_ ?a_0 ?b_0; (case b_0 => kernel_rfl!); (case a_0 => rfl); (case F_0 => k_asm); (case X_0 => k_asm); (case T_0 => k_asm); (case e_0 => k_is); k_whole)
      | (refine' nameX_L ?F_0 ?v_0 ?_ ?a_0 ?b_0; (case b_0 => kernel_rfl!); (case a_0 => rfl); (case F_0 => k_asm); (case v_0 => rfl); k_whole)
      | (refine' nameX_B ?F_0 ?X_0 ?T_0 ?e_0 ?v_0 ?n_0 ?_ ?a_0 ?b_0; (case b_0 => kernel_rfl!); (case a_0 => rfl); (case F_0 => k_asm); (case X_0 => k_asm); (case T_0 => k_asm); (case e_0 => k_is); (case v_0 => boot_fast); (case n_0 => decide); k_whole))))
  k_with "12 callWith ref" => ((k_here; (with_reducible show wpAny _ _ (callWith _ (Value.ref _) _ (backTo _ (starEach (_ :: _) _)) (backToKw _ _)) _ _ _); k_dflt (refine' callWith_KW ?k1_0 ?k2_0 ?k3_0 ?_; (case k1_0 => k_asm); (case k2_0 => k_is); (case k3_0 => exact rfl); k_whole)))
  trivial
theorem ru21 : True := by
  k_with_none
  k_with "12 eval Name" => ((k_here; (first | (with_reducible show wpAny _ _ (eval (Expr.Name _ _) (envOf _ _ _ _ _)) _ _ _) | (with_reducible show wpAny _ _ (eval (Expr.Name _ _) (envOfC _ _ _ _ _)) _ _ _) | (with_reducible show wpAny _ _ (eval (Expr.Name _ _) (envX _ _ _ _ _ _)) _ _ _)); k_dflt (first
      | (refine' nameX_K ?F_0 ?X_0 ?T_0 ?e_0 ?_ ?a_0 ?b_0; (case b_0 => kernel_rfl!); (case a_0 => rfl); (case F_0 => k_asm); (case X_0 => k_asm); (case T_0 => k_asm); (case e_0 => k_is); k_whole)
      | (refine' nameX_L ?F_0 ?v_0 ?_ ?a_0 ?b_0; (case b_0 => kernel_rfl!); (case a_0 => rfl); (case F_0 => k_asm); (case v_0 => rfl); k_whole)
      | (refine' nameX_B ?F_0 ?X_0 ?T_0 ?e_0 ?v_0 ?n_0 ?_ ?a_0 ?b_0; (case b_0 => kernel_rfl!); (case a_0 => rfl); (case F_0 => k_asm); (case X_0 => k_asm); (case T_0 => k_asm); (case e_0 => k_is); (case v_0 => boot_fast); (case n_0 => decide); k_whole))))
  k_with "12 callWith ref" => ((k_here; (with_reducible show wpAny _ _ (callWith _ (Value.ref _) _ (backTo _ (starEach (_ :: _) _)) (backToKw _ _)) _ _ _); k_dflt (refine' callWith_KW ?k1_0 ?k2_0 ?k3_0 ?_; (case k1_0 => k_asm); (case k2_0 => k_is); (case k3_0 => exact rfl); k_whole)))
  k_with "1 call builtin:int.to_bytes" => ((k_here; k_dflt (refine r_to (k := 4) (by omega) (by omega) ?_); intro _ _))
  trivial
theorem pack_ok (w : World) (piece : Nat) (t : Tok) (h : piece ≤ 65535) (news : List (Addr × Obj)) :
    Con w 1 20 (.ref 76) [.int (piece : Int) t] news (fun r => ∃ tc, r = .bytes (tob 4 piece).toArray tc) := by
  refine c_76 ?_
  intro dp un gd outer A₀ base g L' h₁ tk s p loose mean mg mb B F X N T hd hu
  k_fold
  k_steps
  · show EndsN _ _ _ _ _ _ _
    refine ends_ret (by k_asm) (by k_asm) ?_ ⟨_, rfl⟩
    intro p hp; (repeat (first | exact hp | refine List.Mem.tail _ ?_))
end Mine
end
-- C0k
section
open PySem PySem.W PySem.Spec PySem.Calls PyProof.Rows
set_option maxRecDepth 100000
set_option maxHeartbeats 4000000
set_option linter.unusedVariables false
namespace Mine
theorem ru23 : True := by
  k_with_none
  k_with "12 eval Name" => ((k_here; (first | (with_reducible show wpAny _ _ (eval (Expr.Name _ _) (envOf _ _ _ _ _)) _ _ _) | (with_reducible show wpAny _ _ (eval (Expr.Name _ _) (envOfC _ _ _ _ _)) _ _ _) | (with_reducible show wpAny _ _ (eval (Expr.Name _ _) (envX _ _ _ _ _ _)) _ _ _)); k_dflt (first
      | (refine' nameX_K ?F_0 ?X_0 ?T_0 ?e_0 ?_ ?a_0 ?b_0; (case b_0 => kernel_rfl!); (case a_0 => rfl); (case F_0 => k_asm); (case X_0 => k_asm); (case T_0 => k_asm); (case e_0 => k_is); k_whole)
      | (refine' nameX_L ?F_0 ?v_0 ?_ ?a_0 ?b_0; (case b_0 => kernel_rfl!); (case a_0 => rfl); (case F_0 => k_asm); (case v_0 => rfl); k_whole)
      | (refine' nameX_B ?F_0 ?X_0 ?T_0 ?e_0 ?v_0 ?n_0 ?_ ?a_0 ?b_0; (case b_0 => kernel_rfl!); (case a_0 => rfl); (case F_0 => k_asm); (case X_0 => k_asm); (case T_0 => k_asm); (case e_0 => k_is); (case v_0 => boot_fast); (case n_0 => decide); k_whole))))
  k_with "12 callWith ref" => ((k_here; (with_reducible show wpAny _ _ (callWith _ (Value.ref _) _ (backTo _ (starEach (_ :: _) _)) (backToKw _ _)) _ _ _); k_dflt (refine' callWith_KW ?k1_0 ?k2_0 ?k3_0 ?_; (case k1_0 => k_asm); (case k2_0 => k_is); (case k3_0 => exact rfl); k_whole)))
  trivial
/-- a call with keywords: as ConN -/
noncomputable def ConKw (w : World) (D U : Nat) (f : Value) (vs : List Value) (kw : List (Str × Value)) (news : List (Addr × Obj)) (R : Value → List (Addr × Obj) → Prop) : Prop :=
  ∀ (dp un : Nat) (gd : Option (List Code)) (cn : Str) (cs : Scope) (a : Addr) (ccd : Value) (cl : List (Str × Addr)) (outer : List Env) (A₀ : Around) (base h₀ : Heap) (L : Addr) (m : Str → Option Value) (s : Shared) (Q E : Value → Shared → Prop)
    (p : Program) (loose : List Str) (mean : ExcName → Option Value) (mg mb : Str → Option Value),
    Below A₀ base outer h₀ → Fr h₀ L s.heap m → (K w.params).In h₀ → News h₀ L s.heap news → Top p loose mean mg mb h₀ → cs.kind = .function → dp + D < recursionLimit → un + U < cLine →
    (∀ r new h' tk', R r new → Above new news → Fr h₀ L h' m → News h₀ L h' (new ++ news) → Q r { s with heap := h', toks := tk' }) →
    wpAny (model pw w) (ktrTop dp un gd cn cs L a ccd cl outer) (call f vs kw) Q E s
theorem conKw_of {w : World} {D U : Nat} {news : List (Addr × Obj)} {R : Value → List (Addr × Obj) → Prop} {name qual : Str} {params : Arguments} {body : List Stmt} {scope : Scope} {dV kV doc pm cdv ct oc : Value} {an od : Option Addr} {osl : Array (Option Value)} {f : Addr} {vs : List Value} {kw : List (Str × Value)} {binds : List (Str × Value)}
    (ho : (K w.params).lookup f = some ⟨oc, od, .func (fnOf name qual params body scope dV kV doc pm an cdv ct), osl⟩) (hcd : codeIn (K w.params) cdv qual = true)
    (hbind : ∀ s : Shared, (K w.params).In s.heap → BindsTo s (fnOf name qual params body scope dV kV doc pm an cdv ct) ⟨vs, kw⟩ binds) (hloc : ∀ y ∈ binds, scope.names.lookup y.1 = some .local)
    (hco : scope.isCoroutine = false) (hgen : scope.isGenerator = false) (hk : scope.kind = .function) (hcell : ∀ x ∈ scope.names, x.2 ≠ .cell)
    (hb : BodyN w D (U + 3) qual scope f cdv body binds news R) : ConKw w (D + 1) (U + 6) (.ref f) vs kw news R := by
  intro dp un gd cn cs a ccd cl outer A₀ base h₀ L m s Q E p loose mean mg mb B F X N T hk' hd hu hret
  refine wpAny_call ?_
  refine code_def B F X N T rfl rfl hk' ho hcd (by show dp < recursionLimit; omega) (hbind s (X.keeps F.keep)) hloc (fun g L' h₁ FG F' N' B' X' T' => ?_) hco hgen hk hcell
  refine wpAny_mono (hb (dp + 1) (un + 3) gd (envX cn cs L a ccd cl :: outer) _ base g L' h₁ _ s p loose mean mg mb B' F' X' N' T' (by omega) (by omega)) (fun fl s' h => ?_) fun _ _ h => h.elim
  obtain ⟨v, h', tk, m', news', new, e, rfl, r, ha, Fz, Nz, hs⟩ := h
  cases fl <;> cases e <;> exact leaveK_ Fz (news_sub Nz hs) fun kF kN => hret _ new h' tk r ha kF kN
end Mine
end
-- C8
section
open PySem PySem.W PySem.Spec PySem.Calls PyProof.Rows PyProof.Rows.LCg
set_option maxRecDepth 100000
set_option maxHeartbeats 1000000
set_option linter.unusedVariables false
namespace Mine
theorem bytes_ok (w : World) (b : List UInt8) (t : Tok) (pn : Str) (u : Tok) (news : List (Addr × Obj)) :
    ConKw w 2 40 (.ref 36) [.bytes b.toArray t] [(Str.ofString "param", .str pn u)] news (fun r new => new = [] ∧ r = .bytes b.toArray t) := by
  refine' conKw_of (binds := [(Str.ofString "source", .bytes b.toArray t), (Str.ofString "encoding", .str (Str.ofString "utf-8") 208), (Str.ofString "param", .str pn u)]) ?qo ?qcd ?qbind ?qloc ?q1 ?q2 ?q3 ?q4 ?_
  case qo => k_is
  case qcd => k_is
  case qbind => exact fun s X => by first | exact BindsTo.of_eq rfl | exact binds_K (by k_in) rfl (by k_is) rfl rfl rfl
  case qloc => exact locs rfl
  case q1 => exact rfl
  case q2 => exact rfl
  case q3 => exact rfl
  case q4 => decide
  intro dp un gd outer A₀ base g L' h₁ tk s p loose mean mg mb B F X N T hd hu
  k_fold
  k_steps
  · show EndsN _ _ _ _ _ _ _
    refine ends_ret (by k_asm) (by k_asm) ?_ rfl
    intro p hp; (repeat (first | exact hp | refine List.Mem.tail _ ?_))
end Mine
end
-- R6
section
open PySem PySem.W PySem.Spec PySem.Calls PyProof.Rows PyProof.Rows.LCg
set_option maxRecDepth 100000
set_option maxHeartbeats 4000000
set_option linter.unusedVariables false
namespace Mine
open Builtin Builtin._codecs
/-- the utf-8 octets of a text without surrogates -/
noncomputable def utf (cs : List Nat) : List UInt8 := cs.flatMap Str.utf8Of
theorem utf_fold (cs : List Nat) : cs.foldl (fun (acc : Array UInt8) y => acc ++ (Str.utf8Of y).toArray) #[] = (utf cs).toArray := by
  suffices H : ∀ (cs : List Nat) (acc : Array UInt8), cs.foldl (fun (acc : Array UInt8) y => acc ++ (Str.utf8Of y).toArray) acc = acc ++ (utf cs).toArray by
    simpa using H cs #[]
  intro cs
  induction cs with
  | nil => intro acc; simp [utf]
  | cons c cs ih =>
    intro acc
    rw [List.foldl_cons, ih]
    apply Array.toList_inj.mp
    simp [utf]
section
variable {prog : Program} {w : World} {A : Around} {E : Value → Shared → Prop} {s : Shared}
theorem narrow_ok {id : String} {v : Value} {x : Str} {Q : Array UInt8 → Shared → Prop} (hx : ∀ c ∈ x.cps.toList, Str.isSurrogate c = false) (hz : (utf x.cps.toList).length ≤ 16777216) (h : Q (utf x.cps.toList).toArray s) :
    wpAny (model prog w) A (encodeNarrow id utf8Codec none v x) Q E s := by
  unfold encodeNarrow
  dsimp only
  refine wpAny_bind ?_
  rw [Std.Legacy.Range.forIn_eq_forIn_range']
  simp only [Std.Legacy.Range.size, Nat.sub_zero, Nat.add_sub_cancel, Nat.div_one]
  refine wpAny_forIn_list _
    (fun rest b s' => s' = s ∧ ((b.1 = 0 ∧ b.2.1 = #[] ∧ rest.length = x.cps.size) ∨ (b.1 = x.cps.size ∧ b.2.1 = (utf x.cps.toList).toArray)))
    _ ?_ ?_ _ _ ⟨rfl, .inl ⟨rfl, rfl, by rw [List.length_range']; rfl⟩⟩
  · rintro k rest ⟨i, out, st⟩ s' ⟨e0, hor⟩
    subst s'
    dsimp only at hor ⊢
    rcases hor with ⟨rfl, rfl, hr⟩ | ⟨rfl, rfl⟩
    · have hpos : 0 < x.cps.size := by rw [← hr]; exact Nat.succ_pos _
      have hb : Str.isSurrogate x.cps[0] = false := hx _ (by simp)
      refine wpAny_ite (KBy.ite_no (by simp) ?_)
      rw [Array.getElem?_eq_getElem hpos]
      dsimp only
      refine wpAny_ite (KBc.ite_yes (by show (!Str.isSurrogate x.cps[0]) = true; rw [hb]; rfl) ?_)
      have hall : x.cps.extract 0 = x.cps := by simp
      have hf : Array.findIdx? utf8Codec.bad x.cps = none := by
        rw [Array.findIdx?_eq_none_iff]
        intro c hc
        exact hx c (by simpa using hc)
      rw [hall, hf]
      refine wpAny_pure ⟨rfl, .inr ⟨by simp, ?_⟩⟩
      show Array.foldl (fun acc y => acc ++ (Str.utf8Of y).toArray) #[] (x.cps.extract 0 x.cps.size) = _
      rw [show x.cps.extract 0 x.cps.size = x.cps by simp, ← Array.foldl_toList]
      exact utf_fold _
    · refine wpAny_ite (KBy.ite_no (by rw [PySem.sizeLine_eq, List.size_toArray]; omega) ?_)
      rw [Array.getElem?_eq_none (Nat.le_refl _)]
      dsimp only
      refine wpAny_pure ?_
      exact wpAny_pure h
  · rintro ⟨i, out, st⟩ s' ⟨e0, hor⟩
    subst s'
    dsimp only at hor ⊢
    rcases hor with ⟨_, rfl, hr⟩ | ⟨_, rfl⟩
    · have e : x.cps = #[] := Array.size_eq_zero_iff.mp hr.symm
      rw [e] at h
      exact wpAny_pure h
    · exact wpAny_pure h
theorem encode_tree2 (x : Str) (t u : Tok) : «str.encode» ⟨[.str x t, .str (Str.ofString "utf-8") u], []⟩ = (do ret (← encodeRoad "str.encode" (.str x t) x (Str.ofString "utf-8") none)) := by kernel_rfl
theorem meets_encode {x : Str} {t u : Tok} (hx : ∀ c ∈ x.cps.toList, Str.isSurrogate c = false) (hz : (utf x.cps.toList).length ≤ 16777216) :
    Meets («str.encode» ⟨[.str x t, .str (Str.ofString "utf-8") u], []⟩) (fun _ R s => ∀ t' k, R (.ok (.ret (.bytes (utf x.cps.toList).toArray t'))) { s with toks := k }) := by
  refine .of_wp fun prog w A R s h => ?_
  rw [encode_tree2, encodeRoad_utf8]
  refine wpAny_bind (wpAny_bind (narrow_ok hx hz ?_))
  exact wpAny_mkBytes (wpAny_pure ⟨_, rfl, h _ _⟩) (by rw [PySem.sizeLine_eq, List.size_toArray]; exact hz)
theorem r_encode {x : Str} {t u : Tok} {Q : Value → Shared → Prop} (hx : ∀ c ∈ x.cps.toList, Str.isSurrogate c = false) (hz : (utf x.cps.toList).length ≤ 16777216) (h : ∀ t' k, Q (.bytes (utf x.cps.toList).toArray t') { s with toks := k }) :
    wpAny (model prog w) A (call (.builtin "str.encode") [.str x t, .str (Str.ofString "utf-8") u]) Q E s :=
  call_meets PySem.F.slot_str_encode (typeIs_str _ _ _) PySem.F.entry_str_encode (PySem.F.args_str_encode_2 _ _) (meets_encode hx hz) h
end
end Mine
end
-- C9
section
open PySem PySem.W PySem.Spec PySem.Calls PyProof.Rows PyProof.Rows.LCg
set_option maxRecDepth 100000
set_option maxHeartbeats 1000000
set_option linter.unusedVariables false
namespace Mine
theorem m_encode {M : Model} {A : Around} {E : Value → Shared → Prop} {s : Shared} {x : Str} {t : Tok} {pl : Sem Bool} {Q : Value × List Value → Shared → Prop} (h : Q (.builtin "str.encode", [.str x t]) s) : wpAny M A (getMethod (.str x t) (Str.ofString "encode") pl) Q E s :=
  getMethod_builtin (typeIs_str _ _ _) PySem.F.plainAttrs_str PySem.F.slot_str_encode PySem.F.type_str_encode (fun _ e => nomatch e) h
theorem ru24 : True := by
  k_with_none
  k_with "12 eval Name" => ((k_here; (first | (with_reducible show wpAny _ _ (eval (Expr.Name _ _) (envOf _ _ _ _ _)) _ _ _) | (with_reducible show wpAny _ _ (eval (Expr.Name _ _) (envOfC _ _ _ _ _)) _ _ _) | (with_reducible show wpAny _ _ (eval (Expr.Name _ _) (envX _ _ _ _ _ _)) _ _ _)); k_dflt (first
      | (refine' nameX_K ?F_0 ?X_0 ?T_0 ?e_0 ?_ ?a_0 ?b_0; (case b_0 => kernel_rfl!); (case a_0 => rfl); (case F_0 => k_asm); (case X_0 => k_asm); (case T_0 => k_asm); (case e_0 => k_is); k_whole)
      | (refine' nameX_L ?F_0 ?v_0 ?_ ?a_0 ?b_0; (case b_0 => kernel_rfl!); (case a_0 => rfl); (case F_0 => k_asm); (case v_0 => rfl); k_whole)
      | (refine' nameX_B ?F_0 ?X_0 ?T_0 ?e_0 ?v_0 ?n_0 ?_ ?a_0 ?b_0; (case b_0 => kernel_rfl!); (case a_0 => rfl); (case F_0 => k_asm); (case X_0 => k_asm); (case T_0 => k_asm); (case e_0 => k_is); (case v_0 => boot_fast); (case n_0 => decide); k_whole))))
  k_with "12 callWith ref" => ((k_here; (with_reducible show wpAny _ _ (callWith _ (Value.ref _) _ (backTo _ (starEach (_ :: _) _)) (backToKw _ _)) _ _ _); k_dflt (refine' callWith_KW ?k1_0 ?k2_0 ?k3_0 ?_; (case k1_0 => k_asm); (case k2_0 => k_is); (case k3_0 => exact rfl); k_whole)))
  k_with "1 getMethod str" => ((k_here; (with_reducible refine m_encode ?_)))
  k_with "1 call builtin:str.encode" => ((k_here; k_dflt (refine r_encode (by assumption) (by assumption) ?_); intro t9 k9))
  trivial
theorem text_ok (w : World) (x : Str) (t : Tok) (pn : Str) (u : Tok) (hx : ∀ c ∈ x.cps.toList, Str.isSurrogate c = false) (hz : (utf x.cps.toList).length ≤ 16777216) (news : List (Addr × Obj)) :
    ConKw w 2 40 (.ref 36) [.str x t] [(Str.ofString "param", .str pn u)] news (fun r new => new = [] ∧ ∃ t', r = .bytes (utf x.cps.toList).toArray t') := by
  refine' conKw_of (binds := [(Str.ofString "source", .str x t), (Str.ofString "encoding", .str (Str.ofString "utf-8") 208), (Str.ofString "param", .str pn u)]) ?qo ?qcd ?qbind ?qloc ?q1 ?q2 ?q3 ?q4 ?_
  case qo => k_is
  case qcd => k_is
  case qbind => exact fun s X => by first | exact BindsTo.of_eq rfl | exact binds_K (by k_in) rfl (by k_is) rfl rfl rfl
  case qloc => exact locs rfl
  case q1 => exact rfl
  case q2 => exact rfl
  case q3 => exact rfl
  case q4 => decide
  intro dp un gd outer A₀ base g L' h₁ tk s p loose mean mg mb B F X N T hd hu
  k_fold
  k_steps
  · show EndsN _ _ _ _ _ _ _
    refine ends_ret (by k_asm) (by k_asm) ?_ ⟨_, rfl⟩
    intro p hp; (repeat (first | exact hp | refine List.Mem.tail _ ?_))
end Mine
end
-- D0
section
open PySem PySem.W PySem.Spec PySem.Calls PyProof.Rows
set_option maxRecDepth 100000
set_option maxHeartbeats 4000000
set_option linter.unusedVariables false
namespace Mine
theorem ru25 : True := by
  k_with_none
  k_with "12 eval Name" => ((k_here; (first | (with_reducible show wpAny _ _ (eval (Expr.Name _ _) (envOf _ _ _ _ _)) _ _ _) | (with_reducible show wpAny _ _ (eval (Expr.Name _ _) (envOfC _ _ _ _ _)) _ _ _) | (with_reducible show wpAny _ _ (eval (Expr.Name _ _) (envX _ _ _ _ _ _)) _ _ _)); k_dflt (first
      | (refine' nameX_K ?F_0 ?X_0 ?T_0 ?e_0 ?_ ?a_0 ?b_0; (case b_0 => kernel_rfl!); (case a_0 => rfl); (case F_0 => k_asm); (case X_0 => k_asm); (case T_0 => k_asm); (case e_0 => k_is); k_whole)
      | (refine' nameX_L ?F_0 ?v_0 ?_ ?a_0 ?b_0; (case b_0 => kernel_rfl!); (case a_0 => rfl); (case F_0 => k_asm); (case v_0 => rfl); k_whole)
      | (refine' nameX_B ?F_0 ?X_0 ?T_0 ?e_0 ?v_0 ?n_0 ?_ ?a_0 ?b_0; (case b_0 => kernel_rfl!); (case a_0 => rfl); (case F_0 => k_asm); (case X_0 => k_asm); (case T_0 => k_asm); (case e_0 => k_is); (case v_0 => boot_fast); (case n_0 => decide); k_whole))))
  k_with "12 callWith ref" => ((k_here; (with_reducible show wpAny _ _ (callWith _ (Value.ref _) _ (backTo _ (starEach (_ :: _) _)) (backToKw _ _)) _ _ _); k_dflt (refine' callWith_KW ?k1_0 ?k2_0 ?k3_0 ?_; (case k1_0 => k_asm); (case k2_0 => k_is); (case k3_0 => exact rfl); k_whole)))
  trivial
/-- the end of a lambda's body -/
noncomputable def EndsV (g : Heap) (L' : Addr) (s₀ : Shared) (news : List (Addr × Obj)) (R : Value → List (Addr × Obj) → Prop) (v : Value) (s' : Shared) : Prop := EndsN g L' s₀ news R (.ret v) s'
/-- the walk of the body of a lambda that lies in the ledger -/
noncomputable def BodyE (w : World) (D U : Nat) (qual : Str) (scope : Scope) (f : Addr) (cdv : Value) (cl : List (Str × Addr)) (body : PySem.Expr) (binds : List (Str × Value)) (news : List (Addr × Obj)) (R : Value → List (Addr × Obj) → Prop) : Prop :=
  ∀ (dp un : Nat) (gd : Option (List Code)) (outer : List Env) (A₀ : Around) (base g : Heap) (L' : Addr) (h₁ : Heap) (tk : Nat) (s : Shared) (p : Program) (loose : List Str) (mean : ExcName → Option Value) (mg mb : Str → Option Value),
    Below A₀ base outer g → Fr g L' h₁ (fun y => binds.reverse.lookup y) → (K w.params).In g → News g L' h₁ news → Top p loose mean mg mb g → dp + D < recursionLimit → un + U < cLine →
    wpAny (model pw w) (ktrTop dp un gd qual scope L' f cdv cl outer) (eval body (envX qual scope L' f cdv cl)) (EndsV g L' s news R) (fun _ _ => False) { s with heap := h₁, toks := tk }
/-- the walk of the body of a def that lies in the ledger -/
noncomputable def BodyL (w : World) (D U : Nat) (qual : Str) (scope : Scope) (f : Addr) (cdv : Value) (cl : List (Str × Addr)) (body : List Stmt) (binds : List (Str × Value)) (news : List (Addr × Obj)) (R : Value → List (Addr × Obj) → Prop) : Prop :=
  ∀ (dp un : Nat) (gd : Option (List Code)) (outer : List Env) (A₀ : Around) (base g : Heap) (L' : Addr) (h₁ : Heap) (tk : Nat) (s : Shared) (p : Program) (loose : List Str) (mean : ExcName → Option Value) (mg mb : Str → Option Value),
    Below A₀ base outer g → Fr g L' h₁ (fun y => binds.reverse.lookup y) → (K w.params).In g → News g L' h₁ news → Top p loose mean mg mb g → dp + D < recursionLimit → un + U < cLine →
    wpAny (model pw w) (ktrTop dp un gd qual scope L' f cdv cl outer) (execs body (envX qual scope L' f cdv cl)) (EndsN g L' s news R) (fun _ _ => False) { s with heap := h₁, toks := tk }
theorem con_lam {w : World} {D U : Nat} {news : List (Addr × Obj)} {R : Value → List (Addr × Obj) → Prop} {name qual : Str} {params : Arguments} {body : PySem.Expr} {scope : Scope} {cl : List (Str × Addr)} {pm ctv : Value} {c' f : Addr} {vs : List Value} {binds : List (Str × Value)} {oc : Obj} {ws : Array Value} {t : Tok}
    (hf : (f, kla_obj name qual params body scope cl pm c' ctv) ∈ news) (hc : (c', oc) ∈ news) (hd' : oc.data = .fields ws) (hv : ws[1]? = some (.str qual t))
    (hbind : bindArgs (kla_fn name qual params body scope cl pm (.ref c') ctv) ⟨vs, []⟩ = pure binds) (hloc : ∀ y ∈ binds, scope.names.lookup y.1 = some .local)
    (hco : scope.isCoroutine = false) (hgen : scope.isGenerator = false) (hk : scope.kind = .function) (hcell : ∀ x ∈ scope.names, x.2 ≠ .cell)
    (hb : BodyE w D (U + 3) qual scope f (.ref c') cl body binds news R) : ConN w (D + 1) (U + 6) (.ref f) vs news R := by
  intro dp un gd cn cs a ccd cl' outer A₀ base h₀ L m s Q E p loose mean mg mb B F X N T hk' hd hu hret
  refine wpAny_call ?_
  refine kla_code B F X N T rfl rfl hk' hf (codeRec_news N hc hd' hv) (by show dp < recursionLimit; omega) hbind hloc (fun g L' h₁ FG F' N' B' X' T' => ?_) hco hgen hk hcell
  refine wpAny_mono (hb (dp + 1) (un + 3) gd (envX cn cs L a ccd cl' :: outer) _ base g L' h₁ _ s p loose mean mg mb B' F' X' N' T' (by omega) (by omega)) (fun v s' h => ?_) fun _ _ h => h.elim
  obtain ⟨v', h', tk, m', news', new, e, rfl, r, ha, Fz, Nz, hs⟩ := h
  cases e
  exact leaveK_ Fz (news_sub Nz hs) fun kF kN => hret _ new h' tk r ha kF kN
theorem con_nest {w : World} {D U : Nat} {news : List (Addr × Obj)} {R : Value → List (Addr × Obj) → Prop} {name qual : Str} {params : Arguments} {body : List Stmt} {scope : Scope} {cl : List (Str × Addr)} {doc pm ctv : Value} {c' f : Addr} {vs : List Value} {binds : List (Str × Value)} {oc : Obj} {ws : Array Value} {t : Tok}
    (hf : (f, fnMade name qual params body scope cl doc pm c' ctv) ∈ news) (hc : (c', oc) ∈ news) (hd' : oc.data = .fields ws) (hv : ws[1]? = some (.str qual t))
    (hbind : ∀ s : Shared, BindsTo s (fnX name qual params body scope cl .none .none doc pm none (.ref c') ctv) ⟨vs, []⟩ binds) (hloc : ∀ y ∈ binds, scope.names.lookup y.1 = some .local)
    (hco : scope.isCoroutine = false) (hgen : scope.isGenerator = false) (hk : scope.kind = .function) (hcell : ∀ x ∈ scope.names, x.2 ≠ .cell)
    (hb : BodyL w D (U + 3) qual scope f (.ref c') cl body binds news R) : ConN w (D + 1) (U + 6) (.ref f) vs news R := by
  intro dp un gd cn cs a ccd cl' outer A₀ base h₀ L m s Q E p loose mean mg mb B F X N T hk' hd hu hret
  refine wpAny_call ?_
  refine code_nest B F X N T rfl rfl hk' hf (codeRec_news N hc hd' hv) (by show dp < recursionLimit; omega) (hbind s) hloc (fun g L' h₁ FG F' N' B' X' T' => ?_) hco hgen hk hcell
  refine wpAny_mono (hb (dp + 1) (un + 3) gd (envX cn cs L a ccd cl' :: outer) _ base g L' h₁ _ s p loose mean mg mb B' F' X' N' T' (by omega) (by omega)) (fun fl s' h => ?_) fun _ _ h => h.elim
  obtain ⟨v', h', tk, m', news', new, e, rfl, r, ha, Fz, Nz, hs⟩ := h
  cases fl <;> cases e <;> exact leaveK_ Fz (news_sub Nz hs) fun kF kN => hret _ new h' tk r ha kF kN
theorem use_conKw_dummy : True := trivial
/-- the parts of the two defs that the program makes as it runs, taken out of the given program -/
noncomputable def innerB (i : Nat) : List Stmt := match (fdB i).find? fun x => match x with | .FunctionDef .. => true | _ => false with | some (.FunctionDef _ _ b _ _ _ _ _ _ _) => b | _ => []
noncomputable def innerP (i : Nat) : Arguments := match (fdB i).find? fun x => match x with | .FunctionDef .. => true | _ => false with | some (.FunctionDef _ a _ _ _ _ _ _ _ _) => a | _ => default
noncomputable def innerS (i : Nat) : Scope := match (fdB i).find? fun x => match x with | .FunctionDef .. => true | _ => false with | some (.FunctionDef _ _ _ _ _ _ s _ _ _) => s | _ => default
noncomputable def lamOf (l : List Stmt) : Option (Arguments × PySem.Expr × Scope) := l.findSome? fun x => match x with | .Assign _ (.Tuple (.Lambda a b s _ :: _) _ _) _ => some (a, b, s) | _ => none
noncomputable def lamB : PySem.Expr := ((lamOf (fdB 26)).getD default).2.1
noncomputable def lamP : Arguments := ((lamOf (fdB 26)).getD default).1
noncomputable def lamS : Scope := ((lamOf (fdB 26)).getD default).2.2
@[reducible] noncomputable def hmB : List Stmt := by
  refine (fun (l : List Stmt) (_ : innerB 9 = l) => l) ?l ?h
  rotate_left
  conv => lhs; whnf
@[reducible] noncomputable def hmP : Arguments := by
  refine (fun (l : Arguments) (_ : innerP 9 = l) => l) ?l ?h
  rotate_left
  conv => lhs; whnf
@[reducible] noncomputable def hmS : Scope := by
  refine (fun (l : Scope) (_ : innerS 9 = l) => l) ?l ?h
  rotate_left
  conv => lhs; whnf
@[reducible] noncomputable def lmB : PySem.Expr := by
  refine (fun (l : PySem.Expr) (_ : lamB = l) => l) ?l ?h
  rotate_left
  conv => lhs; whnf
@[reducible] noncomputable def lmP : Arguments := by
  refine (fun (l : Arguments) (_ : lamP = l) => l) ?l ?h
  rotate_left
  conv => lhs; whnf
@[reducible] noncomputable def lmS : Scope := by
  refine (fun (l : Scope) (_ : lamS = l) => l) ?l ?h
  rotate_left
  conv => lhs; whnf
end Mine
end
-- D1
section
open PySem PySem.W PySem.Spec PySem.Calls PyProof.Rows
set_option maxRecDepth 100000
set_option maxHeartbeats 1000000
set_option linter.unusedVariables false
namespace Mine
noncomputable abbrev lmQ : Str := (Str.ofString "law" ++ ".<locals>.") ++ "<lambda>"
noncomputable abbrev hmQ : Str := (Str.ofString "compile_hmac" ++ ".<locals>.") ++ "hmac"
/-- the row's hash in the ledger: the lambda, its code, and the cell it reads -/
noncomputable def HashAt (f : Addr) (size : Nat) (news : List (Addr × Obj)) : Prop :=
  ∃ (c c' : Addr) (pm ctv : Value) (oc o : Obj) (ws : Array Value) (t t' : Tok), (f, kla_obj (Str.ofString "<lambda>") lmQ lmP lmB lmS [(Str.ofString "size", c)] pm c' ctv) ∈ news ∧ (c', oc) ∈ news ∧ oc.data = .fields ws ∧ ws[1]? = some (.str lmQ t) ∧ (c, o) ∈ news ∧ o.data = .cell (some (.int (size : Int) t'))
theorem HashAt.sub {f : Addr} {size : Nat} {news news' : List (Addr × Obj)} (h : HashAt f size news) (hs : ∀ p ∈ news, p ∈ news') : HashAt f size news' := by
  obtain ⟨c, c', pm, ctv, oc, o, ws, t, t', h1, h2, h3, h4, h5, h6⟩ := h
  exact ⟨c, c', pm, ctv, oc, o, ws, t, t', hs _ h1, hs _ h2, h3, h4, hs _ h5, h6⟩
section
theorem ru26 : True := by
  k_with_none
  k_with "12 eval Name" => ((k_here; (first | (with_reducible show wpAny _ _ (eval (Expr.Name _ _) (envOf _ _ _ _ _)) _ _ _) | (with_reducible show wpAny _ _ (eval (Expr.Name _ _) (envOfC _ _ _ _ _)) _ _ _) | (with_reducible show wpAny _ _ (eval (Expr.Name _ _) (envX _ _ _ _ _ _)) _ _ _)); k_dflt (first
      | (refine' nameX_K ?F_0 ?X_0 ?T_0 ?e_0 ?_ ?a_0 ?b_0; (case b_0 => kernel_rfl!); (case a_0 => rfl); (case F_0 => k_asm); (case X_0 => k_asm); (case T_0 => k_asm); (case e_0 => k_is); k_whole)
      | (refine' nameX_L ?F_0 ?v_0 ?_ ?a_0 ?b_0; (case b_0 => kernel_rfl!); (case a_0 => rfl); (case F_0 => k_asm); (case v_0 => rfl); k_whole)
      | (refine' nameX_B ?F_0 ?X_0 ?T_0 ?e_0 ?v_0 ?n_0 ?_ ?a_0 ?b_0; (case b_0 => kernel_rfl!); (case a_0 => rfl); (case F_0 => k_asm); (case X_0 => k_asm); (case T_0 => k_asm); (case e_0 => k_is); (case v_0 => boot_fast); (case n_0 => decide); k_whole))))
  k_with "12 callWith ref" => ((k_here; (with_reducible show wpAny _ _ (callWith _ (Value.ref _) _ (backTo _ (starEach (_ :: _) _)) (backToKw _ _)) _ _ _); k_dflt (refine' callWith_KW ?k1_0 ?k2_0 ?k3_0 ?_; (case k1_0 => k_asm); (case k2_0 => k_is); (case k3_0 => exact rfl); k_whole)))
  k_with "1 eval Name" => ((k_here; k_dflt (refine' nameX_F ?zN_35 ?zc_35 ?zm_35 ?zd_35 ?_ ?za_35 ?zb_35; (case zb_35 => kernel_rfl!); (case za_35 => rfl); (case zN_35 => k_asm); (case zc_35 => rfl); (case zm_35 => assumption); (case zd_35 => assumption); k_whole)))
  k_with "1 call ref" => ((k_here; (with_reducible show wpAny _ _ (call (Value.ref 101) [Value.bytes (List.toArray _) _, Value.int _ _]) _ _ _); refine' use_con (hash_ok _ _ _ _ _ ?h1_35 ?h2_35 ?hb_35 _) ?B_35 ?F_35 ?X_35 ?N_35 ?T_35 ?hk_35 ?hd_35 ?hu_35 ?_; (case B_35 => k_asm); (case F_35 => k_asm); (case X_35 => k_asm); (case N_35 => k_asm); (case T_35 => k_asm); (case hk_35 => rfl); (case hd_35 => omega); (case hu_35 => omega); (case h1_35 => omega); (case h2_35 => omega); (case hb_35 => ((try simp only [List.length_append, hsh_length]); omega)); (intro r9 new9 h9 tk9 hR9 hA9 F9 N9; obtain ⟨hnew9, t9, hr9⟩ := hR9; subst hnew9; subst hr9; simp only [List.nil_append] at N9)))
  trivial
theorem hash_fn (w : World) (f : Addr) (b : List UInt8) (t : Tok) (size : Nat) (h1 : 1 ≤ size) (h2 : size ≤ 32) (hb : b.length ≤ 1048575) (news : List (Addr × Obj)) (H : HashAt f size news) :
    Con w 2 40 (.ref f) [.bytes b.toArray t] news (fun r => ∃ tc, r = .bytes (hsh size b).toArray tc) := by
  obtain ⟨c, c', pm, ctv, oc, o, ws, u, u', g1, g2, g3, g4, g5, g6⟩ := H
  refine' con_lam (binds := [(Str.ofString "octets", .bytes b.toArray t)]) g1 g2 g3 g4 ?qb ?ql ?q1 ?q2 ?q3 ?q4 ?_
  case qb => exact rfl
  case ql => exact locs rfl
  case q1 => exact rfl
  case q2 => exact rfl
  case q3 => exact rfl
  case q4 => decide
  intro dp un gd outer A₀ base g L' h₁ tk s p loose mean mg mb B F X N T hd hu
  k_fold
  k_steps
  · show EndsN _ _ _ _ _ _ _
    refine ends_ret (by k_asm) (by k_asm) (fun p hp => hp) ⟨_, rfl⟩
end
theorem ru27 : True := by
  k_with_none
  k_with "12 eval Name" => ((k_here; (first | (with_reducible show wpAny _ _ (eval (Expr.Name _ _) (envOf _ _ _ _ _)) _ _ _) | (with_reducible show wpAny _ _ (eval (Expr.Name _ _) (envOfC _ _ _ _ _)) _ _ _) | (with_reducible show wpAny _ _ (eval (Expr.Name _ _) (envX _ _ _ _ _ _)) _ _ _)); k_dflt (first
      | (refine' nameX_K ?F_0 ?X_0 ?T_0 ?e_0 ?_ ?a_0 ?b_0; (case b_0 => kernel_rfl!); (case a_0 => rfl); (case F_0 => k_asm); (case X_0 => k_asm); (case T_0 => k_asm); (case e_0 => k_is); k_whole)
      | (refine' nameX_L ?F_0 ?v_0 ?_ ?a_0 ?b_0; (case b_0 => kernel_rfl!); (case a_0 => rfl); (case F_0 => k_asm); (case v_0 => rfl); k_whole)
      | (refine' nameX_B ?F_0 ?X_0 ?T_0 ?e_0 ?v_0 ?n_0 ?_ ?a_0 ?b_0; (case b_0 => kernel_rfl!); (case a_0 => rfl); (case F_0 => k_asm); (case X_0 => k_asm); (case T_0 => k_asm); (case e_0 => k_is); (case v_0 => boot_fast); (case n_0 => decide); k_whole))))
  k_with "12 callWith ref" => ((k_here; (with_reducible show wpAny _ _ (callWith _ (Value.ref _) _ (backTo _ (starEach (_ :: _) _)) (backToKw _ _)) _ _ _); k_dflt (refine' callWith_KW ?k1_0 ?k2_0 ?k3_0 ?_; (case k1_0 => k_asm); (case k2_0 => k_is); (case k3_0 => exact rfl); k_whole)))
  trivial
/-- the code of a key in the ledger: the closure, its code, its cells, and the hash that it calls -/
noncomputable def HmacAt (f : Addr) (size : Nat) (i o : List UInt8) (news : List (Addr × Obj)) : Prop :=
  ∃ (fh cc ci co c' : Addr) (doc pm ctv : Value) (oc o1 o2 o3 : Obj) (ws : Array Value) (t t1 t2 : Tok),
    (f, fnMade (Str.ofString "hmac") hmQ hmP hmB hmS [(Str.ofString "outer_key", co), (Str.ofString "inner_key", ci), (Str.ofString "const", cc)] doc pm c' ctv) ∈ news ∧ (c', oc) ∈ news ∧ oc.data = .fields ws ∧ ws[1]? = some (.str hmQ t) ∧
    (cc, o1) ∈ news ∧ o1.data = .cell (some (.ref fh)) ∧ (ci, o2) ∈ news ∧ o2.data = .cell (some (.bytes i.toArray t1)) ∧ (co, o3) ∈ news ∧ o3.data = .cell (some (.bytes o.toArray t2)) ∧ HashAt fh size news
end Mine
end
-- D2
section
open PySem PySem.W PySem.Spec PySem.Calls PyProof.Rows
set_option maxRecDepth 100000
set_option maxHeartbeats 1000000
set_option linter.unusedVariables false
namespace Mine
theorem HashAt.fnAt {f : Addr} {size : Nat} {news : List (Addr × Obj)} (H : HashAt f size news) {h₀ h : Heap} {L : Addr} (N : News h₀ L h news) : FnAt f h := by
  obtain ⟨_, _, _, _, _, _, _, _, _, h1, _⟩ := H
  exact FnAt.of N h1
theorem HmacAt.sub {f : Addr} {size : Nat} {i o : List UInt8} {news news' : List (Addr × Obj)} (h : HmacAt f size i o news) (hs : ∀ p ∈ news, p ∈ news') : HmacAt f size i o news' := by
  obtain ⟨fh, cc, ci, co, c', doc, pm, ctv, oc, o1, o2, o3, ws, t, t1, t2, h1, h2, h3, h4, h5, h6, h7, h8, h9, h10, h11⟩ := h
  exact ⟨fh, cc, ci, co, c', doc, pm, ctv, oc, o1, o2, o3, ws, t, t1, t2, hs _ h1, hs _ h2, h3, h4, hs _ h5, h6, hs _ h7, h8, hs _ h9, h10, h11.sub hs⟩
theorem HmacAt.fnAt {f : Addr} {size : Nat} {i o : List UInt8} {news : List (Addr × Obj)} (H : HmacAt f size i o news) {h₀ h : Heap} {L : Addr} (N : News h₀ L h news) : FnAt f h := by
  obtain ⟨_, _, _, _, _, _, _, _, _, _, _, _, _, _, _, _, h1, _⟩ := H
  exact FnAt.of N h1
section
theorem ru28 : True := by
  k_with_none
  k_with "12 eval Name" => ((k_here; (first | (with_reducible show wpAny _ _ (eval (Expr.Name _ _) (envOf _ _ _ _ _)) _ _ _) | (with_reducible show wpAny _ _ (eval (Expr.Name _ _) (envOfC _ _ _ _ _)) _ _ _) | (with_reducible show wpAny _ _ (eval (Expr.Name _ _) (envX _ _ _ _ _ _)) _ _ _)); k_dflt (first
      | (refine' nameX_K ?F_0 ?X_0 ?T_0 ?e_0 ?_ ?a_0 ?b_0; (case b_0 => kernel_rfl!); (case a_0 => rfl); (case F_0 => k_asm); (case X_0 => k_asm); (case T_0 => k_asm); (case e_0 => k_is); k_whole)
      | (refine' nameX_L ?F_0 ?v_0 ?_ ?a_0 ?b_0; (case b_0 => kernel_rfl!); (case a_0 => rfl); (case F_0 => k_asm); (case v_0 => rfl); k_whole)
      | (refine' nameX_B ?F_0 ?X_0 ?T_0 ?e_0 ?v_0 ?n_0 ?_ ?a_0 ?b_0; (case b_0 => kernel_rfl!); (case a_0 => rfl); (case F_0 => k_asm); (case X_0 => k_asm); (case T_0 => k_asm); (case e_0 => k_is); (case v_0 => boot_fast); (case n_0 => decide); k_whole))))
  k_with "12 callWith ref" => ((k_here; (with_reducible show wpAny _ _ (callWith _ (Value.ref _) _ (backTo _ (starEach (_ :: _) _)) (backToKw _ _)) _ _ _); k_dflt (refine' callWith_KW ?k1_0 ?k2_0 ?k3_0 ?_; (case k1_0 => k_asm); (case k2_0 => k_is); (case k3_0 => exact rfl); k_whole)))
  k_with "1 eval Name" => ((k_here; k_dflt (refine' nameX_F ?zN_36 ?zc_36 ?zm_36 ?zd_36 ?_ ?za_36 ?zb_36; (case zb_36 => kernel_rfl!); (case za_36 => rfl); (case zN_36 => k_asm); (case zc_36 => rfl); (case zm_36 => assumption); (case zd_36 => assumption); k_whole)))
  k_with "1 callWith ref" => ((k_here; k_dflt (refine' callWith_F ?k1_36 ?_; (case k1_36 => exact HashAt.fnAt (by assumption) (by k_asm)); k_whole)))
  k_with "1 FnAt" => ((k_dflt (exact HashAt.fnAt (by assumption) (by k_asm))))
  k_with "1 call ref" => ((k_here; (with_reducible show wpAny _ _ (call (Value.ref _) _) _ _ _); k_dflt (show wpAny _ _ (call (Value.ref _) [Value.bytes (List.toArray _) _]) _ _ _); refine' use_con (hash_fn _ _ _ _ _ ?h1_36 ?h2_36 ?hb_36 _ ?hH_36) ?B_36 ?F_36 ?X_36 ?N_36 ?T_36 ?hk_36 ?hd_36 ?hu_36 ?_; (case hH_36 => assumption); (case B_36 => k_asm); (case F_36 => k_asm); (case X_36 => k_asm); (case N_36 => k_asm); (case T_36 => k_asm); (case hk_36 => rfl); (case hd_36 => omega); (case hu_36 => omega); (case h1_36 => omega); (case h2_36 => omega); (case hb_36 => ((try simp only [List.length_append, hsh_length]); omega)); (intro r9 new9 h9 tk9 hR9 hA9 F9 N9; obtain ⟨hnew9, t9, hr9⟩ := hR9; subst hnew9; subst hr9; simp only [List.nil_append] at N9)))
  k_with "1 binaryOp Add bytes bytes" => ((k_here; (refine' r_add ?hlen_36 ?_; (case hlen_36 => ((try simp only [List.length_append, hsh_length]); omega)); intro _ _)))
  trivial
theorem hmac_ok (w : World) (f : Addr) (i o msg : List UInt8) (t : Tok) (size : Nat) (h1 : 1 ≤ size) (h2 : size ≤ 32) (hi : i.length ≤ 64) (ho : o.length ≤ 64) (hm : msg.length ≤ 1000) (news : List (Addr × Obj)) (H : HmacAt f size i o news) :
    Con w 3 60 (.ref f) [.bytes msg.toArray t] news (fun r => ∃ tc, r = .bytes (codeF size i o msg).toArray tc) := by
  obtain ⟨fh, cc, ci, co, c', doc, pm, ctv, oc, o1, o2, o3, ws, u, t1, t2, g1, g2, g3, g4, g5, g6, g7, g8, g9, g10, g11⟩ := H
  refine' con_nest (binds := [(Str.ofString "msg", .bytes msg.toArray t)]) g1 g2 g3 g4 ?qb ?ql ?q1 ?q2 ?q3 ?q4 ?_
  case qb => exact fun s => BindsTo.of_eq rfl
  case ql => exact locs rfl
  case q1 => exact rfl
  case q2 => exact rfl
  case q3 => exact rfl
  case q4 => decide
  intro dp un gd outer A₀ base g L' h₁ tk s p loose mean mg mb B F X N T hd hu
  k_fold
  k_steps
  · show EndsN _ _ _ _ _ _ _
    refine ends_ret (by k_asm) (by k_asm) (fun p hp => hp) ⟨_, rfl⟩
end
end Mine
end
-- D3
section
open PySem PySem.W PySem.Spec PySem.Calls PyProof.Rows PyProof.Rows.LCg
set_option maxRecDepth 100000
set_option maxHeartbeats 1000000
set_option linter.unusedVariables false
namespace Mine
theorem ru29 : True := by
  k_with_none
  k_with "12 eval Name" => ((k_here; (first | (with_reducible show wpAny _ _ (eval (Expr.Name _ _) (envOf _ _ _ _ _)) _ _ _) | (with_reducible show wpAny _ _ (eval (Expr.Name _ _) (envOfC _ _ _ _ _)) _ _ _) | (with_reducible show wpAny _ _ (eval (Expr.Name _ _) (envX _ _ _ _ _ _)) _ _ _)); k_dflt (first
      | (refine' nameX_K ?F_0 ?X_0 ?T_0 ?e_0 ?_ ?a_0 ?b_0; (case b_0 => kernel_rfl!); (case a_0 => rfl); (case F_0 => k_asm); (case X_0 => k_asm); (case T_0 => k_asm); (case e_0 => k_is); k_whole)
      | (refine' nameX_L ?F_0 ?v_0 ?_ ?a_0 ?b_0; (case b_0 => kernel_rfl!); (case a_0 => rfl); (case F_0 => k_asm); (case v_0 => rfl); k_whole)
      | (refine' nameX_B ?F_0 ?X_0 ?T_0 ?e_0 ?v_0 ?n_0 ?_ ?a_0 ?b_0; (case b_0 => kernel_rfl!); (case a_0 => rfl); (case F_0 => k_asm); (case X_0 => k_asm); (case T_0 => k_asm); (case e_0 => k_is); (case v_0 => boot_fast); (case n_0 => decide); k_whole))))
  k_with "12 callWith ref" => ((k_here; (with_reducible show wpAny _ _ (callWith _ (Value.ref _) _ (backTo _ (starEach (_ :: _) _)) (backToKw _ _)) _ _ _); k_dflt (refine' callWith_KW ?k1_0 ?k2_0 ?k3_0 ?_; (case k1_0 => k_asm); (case k2_0 => k_is); (case k3_0 => exact rfl); k_whole)))
  trivial
theorem trans_get (c : UInt8) (x : Nat) : (transL x 256).getD c.toNat 0 = c ^^^ UInt8.ofNat x := by
  have hc := c.toNat_lt
  have e : (transL x 256)[c.toNat]? = some (UInt8.ofNat (Nat.xor c.toNat x)) := by
    unfold transL
    rw [List.getElem?_map, List.getElem?_range (by omega)]
    rfl
  rw [List.getD_eq_getElem?_getD, e]
  show UInt8.ofNat (c.toNat ^^^ x) = _
  apply UInt8.toNat_inj.mp
  simp [UInt8.toNat_xor]
theorem trans_len (x : Nat) : (transL x 256).length = 256 := by simp [transL]
theorem r_trans {prog : Program} {w : World} {A : Around} {E : Value → Shared → Prop} {s : Shared} {value slice : PySem.Expr} {c : UInt8} {x : Nat} {t u : Tok} {Q : Value → Shared → Prop}
    (hs : subscripted slice false (.bytes (transA x) t) (.int (c.toNat : Int) u) = operate [.bytes (transA x) t, .int (c.toNat : Int) u] (getItem (.bytes (transA x) t) (.int (c.toNat : Int) u)))
    (h : ∀ t' k, Q (.int (oct (c ^^^ UInt8.ofNat x)) t') { s with toks := k }) : wpAny (model prog w) A (subscriptTail value slice (.bytes (transA x) t) (.int (c.toNat : Int) u)) Q E s := by
  have hc := c.toNat_lt
  refine tail_any (typeIs_bytes _ _ _) FB.slot_bytes_getitem.lookup ?_ hs
  refine getItem_bytes (l := transL x 256) (by rw [trans_len]; omega) (by omega) (by rw [trans_len]; omega) ?_
  rw [Int.toNat_natCast, trans_get]
  exact h _ _
theorem noI_bytes_add : typeLookup (.type "bytes") (dunderI "add") = pure none := by rw [typeLookup_type, builtinLookup_eq_fast]; kernel_rfl
theorem r_iadd {prog : Program} {w : World} {A : Around} {E : Value → Shared → Prop} {s : Shared} {b c : List UInt8} {t u : Tok} {Q : Value → Shared → Prop} (hl : b.length + c.length ≤ 16777216) (h : ∀ t' k, Q (.bytes (b ++ c).toArray t') { s with toks := k }) : wpAny (model prog w) A (inplaceOp .Add (.bytes b.toArray t) (.bytes c.toArray u)) Q E s := by
  have hsz : b.toArray.size + c.toArray.size ≤ 16777216 := by simpa using hl
  refine wpAny_inplaceOp_concat (typeIs_bytes s _ t) (typeIs_bytes s _ u) noI_bytes_add KBy.noFill_bytes_add KBy.seq_bytes_add (call_gives FB.slot_bytes_add (typeIs_bytes s _ t) FB.entry_bytes_add (FB.args_bytes_add_2 _ _) (KBy.gives_bytes_add (KBy.tooLong_not hsz)) ?_)
  have h2 : ∀ t' k, Q (.bytes (b.toArray ++ c.toArray) t') { s with toks := k } := fun t' k => by
    have := h t' k
    rwa [← List.append_toArray] at this
  by_cases hb : b.toArray.isEmpty = true
  · rw [if_pos hb]
    have e : b.toArray = #[] := Array.isEmpty_iff.1 hb
    have h' := h2 u s.toks
    rw [e, Array.empty_append] at h'
    exact h'
  · rw [if_neg hb]
    by_cases hc : c.toArray.isEmpty = true
    · rw [if_pos hc]
      have e : c.toArray = #[] := Array.isEmpty_iff.1 hc
      have h' := h2 t s.toks
      rw [e, Array.append_empty] at h'
      exact h'
    · rw [if_neg hc]
      exact ⟨by rw [Array.size_append, sizeLine_eq]; exact hsz, h2 s.toks (s.toks + 1)⟩
theorem flat_one {α : Type} (x : α) : ∀ n, (List.replicate n [x]).flatten = List.replicate n x
  | 0 => rfl
  | n + 1 => by rw [List.replicate_succ, List.flatten_cons, flat_one x n]; rfl
theorem r_nuls {prog : Program} {w : World} {A : Around} {E : Value → Shared → Prop} {s : Shared} {n : Nat} {t u : Tok} {Q : Value → Shared → Prop} (hn : n ≤ 1048576) (h : ∀ t' k, Q (.bytes (List.replicate n 0).toArray t') { s with toks := k }) : wpAny (model prog w) A (binaryOp .Mult (.bytes [(0 : UInt8)].toArray t) (.int (n : Int) u)) Q E s := by
  refine bytes_mul_any (List.cons_ne_nil _ _) (by omega) (by omega) (by decide) fun t' k => ?_
  rw [Int.toNat_natCast, flat_one]
  exact h t' k
theorem hash_fnAt {f : Addr} {size : Nat} {news news' : List (Addr × Obj)} {h₀ h : Heap} {L : Addr} (N : News h₀ L h news') (H : HashAt f size news) (hs : ∀ p ∈ news, p ∈ news') : FnAt f h := HashAt.fnAt (H.sub hs) N
theorem map_oct (l : List UInt8) (x : UInt8) : l.map (fun c => oct (c ^^^ x)) = (l.map (· ^^^ x)).map oct := by rw [List.map_map]; rfl
end Mine
end
-- D5
section
open PySem PySem.W PySem.Spec PySem.Calls PyProof.Rows
set_option maxRecDepth 100000
set_option maxHeartbeats 4000000
set_option linter.unusedVariables false
namespace Mine
/-- a call that may change the ledger: it comes back with an r, the ledger afterwards one of R -/
noncomputable def ConU (w : World) (D U : Nat) (f : Value) (vs : List Value) (news : List (Addr × Obj)) (R : Value → List (Addr × Obj) → Prop) : Prop :=
  ∀ (dp un : Nat) (gd : Option (List Code)) (cn : Str) (cs : Scope) (a : Addr) (ccd : Value) (cl : List (Str × Addr)) (outer : List Env) (A₀ : Around) (base h₀ : Heap) (L : Addr) (m : Str → Option Value) (s : Shared) (Q E : Value → Shared → Prop)
    (p : Program) (loose : List Str) (mean : ExcName → Option Value) (mg mb : Str → Option Value),
    Below A₀ base outer h₀ → Fr h₀ L s.heap m → (K w.params).In h₀ → News h₀ L s.heap news → Top p loose mean mg mb h₀ → cs.kind = .function → dp + D < recursionLimit → un + U < cLine →
    (∀ r post h' tk', R r post → Fr h₀ L h' m → News h₀ L h' post → Q r { s with heap := h', toks := tk' }) →
    wpAny (model pw w) (ktrTop dp un gd cn cs L a ccd cl outer) (call f vs) Q E s
noncomputable def EndsU (g : Heap) (L' : Addr) (s₀ : Shared) (R : Value → List (Addr × Obj) → Prop) (fl : Flow) (s' : Shared) : Prop :=
  ∃ v h' tk m' news' post, flV fl = v ∧ s' = { s₀ with heap := h', toks := tk } ∧ R v post ∧ Fr g L' h' m' ∧ News g L' h' news' ∧ ∀ p ∈ post, p ∈ news'
theorem endsU {g : Heap} {L' : Addr} {s₀ : Shared} {news' : List (Addr × Obj)} {R : Value → List (Addr × Obj) → Prop} {v : Value} {h' : Heap} {tk : Nat} {m' : Str → Option Value} (post : List (Addr × Obj)) (F : Fr g L' h' m') (N : News g L' h' news') (hs : ∀ p ∈ post, p ∈ news') (r : R v post) :
    EndsU g L' s₀ R (.ret v) { s₀ with heap := h', toks := tk } := ⟨v, h', tk, m', news', post, rfl, rfl, r, F, N, hs⟩
noncomputable def BodyCU (w : World) (D U : Nat) (qual : Str) (scope : Scope) (f : Addr) (cdv : Value) (body : List Stmt) (binds : List (Str × Value)) (news : List (Addr × Obj)) (R : Value → List (Addr × Obj) → Prop) : Prop :=
  ∀ (dp un : Nat) (gd : Option (List Code)) (outer : List Env) (A₀ : Around) (base g : Heap) (L' : Addr) (h₁ : Heap) (tk : Nat) (s : Shared) (p : Program) (loose : List Str) (mean : ExcName → Option Value) (mg mb : Str → Option Value) (cells : List (Addr × Obj)),
    Below A₀ base outer g → Fr g L' h₁ (bindL (envOfC qual scope L' f cdv).kindOf binds fun _ => none) → (K w.params).In g → News g L' h₁ (cells ++ news) → CellsAre (bindC (envOfC qual scope L' f cdv).kindOf binds fun _ => none) (cellsFrom (L' + 1) scope.names []) cells →
    Top p loose mean mg mb g → (∀ p ∈ news, p.1 < L') → dp + D < recursionLimit → un + U < cLine →
    wpAny (model pw w) (ktrTop dp un gd qual scope L' f cdv (cellsFrom (L' + 1) scope.names []) outer) (execs body (envOfC qual scope L' f cdv)) (EndsU g L' s R) (fun _ _ => False) { s with heap := h₁, toks := tk }
theorem con_ofCU {w : World} {D U : Nat} {news : List (Addr × Obj)} {R : Value → List (Addr × Obj) → Prop} {name qual : Str} {params : Arguments} {body : List Stmt} {scope : Scope} {dV kV doc pm cdv ct oc : Value} {an od : Option Addr} {osl : Array (Option Value)} {f : Addr} {vs : List Value} {binds : List (Str × Value)}
    (ho : (K w.params).lookup f = some ⟨oc, od, .func (fnOf name qual params body scope dV kV doc pm an cdv ct), osl⟩) (hcd : codeIn (K w.params) cdv qual = true)
    (hbind : ∀ s : Shared, (K w.params).In s.heap → BindsTo s (fnOf name qual params body scope dV kV doc pm an cdv ct) ⟨vs, []⟩ binds) (hkind : (binds.all fun y => scope.names.lookup y.1 == some .local || scope.names.lookup y.1 == some .cell) = true)
    (hnd : ((cellsFrom 0 scope.names []).map (·.1)).Nodup)
    (hco : scope.isCoroutine = false) (hgen : scope.isGenerator = false) (hk : scope.kind = .function)
    (hb : BodyCU w D (U + 3) qual scope f cdv body binds news R) : ConU w (D + 1) (U + 6) (.ref f) vs news R := by
  intro dp un gd cn cs a ccd cl outer A₀ base h₀ L m s Q E p loose mean mg mb B F X N T hk' hd hu hret
  refine wpAny_call ?_
  refine code_defC B F X N T rfl rfl hk' ho hcd (by show dp < recursionLimit; omega) (hbind s (X.keeps F.keep)) hkind hnd (fun g L' h₁ tk cells FG F' N' Y B' X' T' l => ?_) hco hgen hk
  refine wpAny_mono (hb (dp + 1) (un + 3) gd (envX cn cs L a ccd cl :: outer) _ base g L' h₁ _ s p loose mean mg mb cells B' F' X' N' Y T' l (by omega) (by omega)) (fun fl s' h => ?_) fun _ _ h => h.elim
  obtain ⟨v, h', tk, m', news', post, e, rfl, r, Fz, Nz, hs⟩ := h
  cases fl <;> cases e <;> exact leaveK_ Fz (news_sub Nz hs) fun kF kN => hret _ post h' tk r kF kN
theorem use_conU {w : World} {D U : Nat} {f : Value} {vs : List Value} {news : List (Addr × Obj)} {R : Value → List (Addr × Obj) → Prop} {dp un : Nat} {gd : Option (List Code)} {cn : Str} {cs : Scope} {a : Addr} {ccd : Value} {cl : List (Str × Addr)} {outer : List Env} {A₀ : Around} {base h₀ : Heap} {L : Addr} {m : Str → Option Value} {s : Shared} {Q E : Value → Shared → Prop}
    {p : Program} {loose : List Str} {mean : ExcName → Option Value} {mg mb : Str → Option Value} (C : ConU w D U f vs news R) (B : Below A₀ base outer h₀) (F : Fr h₀ L s.heap m) (X : (K w.params).In h₀) (N : News h₀ L s.heap news) (T : Top p loose mean mg mb h₀) (hk : cs.kind = .function) (hd : dp + D < recursionLimit) (hu : un + U < cLine)
    (h : ∀ r post h' tk', R r post → Fr h₀ L h' m → News h₀ L h' post → Q r { s with heap := h', toks := tk' }) : wpAny (model pw w) (ktrTop dp un gd cn cs L a ccd cl outer) (call f vs) Q E s :=
  C dp un gd cn cs a ccd cl outer A₀ base h₀ L m s Q E p loose mean mg mb B F X N T hk hd hu h
theorem use_conKw {w : World} {D U : Nat} {f : Value} {vs : List Value} {kw : List (Str × Value)} {news : List (Addr × Obj)} {R : Value → List (Addr × Obj) → Prop} {dp un : Nat} {gd : Option (List Code)} {cn : Str} {cs : Scope} {a : Addr} {ccd : Value} {cl : List (Str × Addr)} {outer : List Env} {A₀ : Around} {base h₀ : Heap} {L : Addr} {m : Str → Option Value} {s : Shared} {Q E : Value → Shared → Prop}
    {p : Program} {loose : List Str} {mean : ExcName → Option Value} {mg mb : Str → Option Value} (C : ConKw w D U f vs kw news R) (B : Below A₀ base outer h₀) (F : Fr h₀ L s.heap m) (X : (K w.params).In h₀) (N : News h₀ L s.heap news) (T : Top p loose mean mg mb h₀) (hk : cs.kind = .function) (hd : dp + D < recursionLimit) (hu : un + U < cLine)
    (h : ∀ r new h' tk', R r new → Above new news → Fr h₀ L h' m → News h₀ L h' (new ++ news) → Q r { s with heap := h', toks := tk' }) : wpAny (model pw w) (ktrTop dp un gd cn cs L a ccd cl outer) (call f vs kw) Q E s :=
  C dp un gd cn cs a ccd cl outer A₀ base h₀ L m s Q E p loose mean mg mb B F X N T hk hd hu h
theorem g36 {w : World} : nsIn (K w.params) mainGlobals (Str.ofString "_TRANS_36") = some (some (.bytes (transA 54) 2283)) := by rfl
theorem g5C {w : World} : nsIn (K w.params) mainGlobals (Str.ofString "_TRANS_5C") = some (some (.bytes (transA 92) 1254)) := by rfl
/-- octets, or a text whose utf-8 they are -/
noncomputable def KeyIs (v : Value) (key : List UInt8) : Prop := (∃ t, v = .bytes key.toArray t) ∨ ∃ (x : Str) (t : Tok), v = .str x t ∧ utf x.cps.toList = key ∧ ∀ c ∈ x.cps.toList, Str.isSurrogate c = false
/-- to_bytes of either -/
theorem bytes_of (w : World) (v : Value) (key : List UInt8) (hk : KeyIs v key) (hz : key.length ≤ 16777216) (pn : Str) (u : Tok) (news : List (Addr × Obj)) :
    ConKw w 2 40 (.ref 36) [v] [(Str.ofString "param", .str pn u)] news (fun r new => new = [] ∧ ∃ t', r = .bytes key.toArray t') := by
  rcases hk with ⟨t, rfl⟩ | ⟨x, t, rfl, rfl, hx⟩
  · intro dp un gd cn cs a ccd cl outer A₀ base h₀ L m s Q E p loose mean mg mb B F X N T hk' hd hu hret
    exact bytes_ok w key t pn u news dp un gd cn cs a ccd cl outer A₀ base h₀ L m s Q E p loose mean mg mb B F X N T hk' hd hu fun r new h' tk' hr => hret r new h' tk' ⟨hr.1, t, hr.2⟩
  · exact text_ok w x t pn u hx hz news
end Mine
end
-- D4
section
open PySem PySem.W PySem.Spec PySem.Calls PyProof.Rows PyProof.Rows.LCg
set_option maxRecDepth 100000
set_option maxHeartbeats 1000000
set_option linter.unusedVariables false
namespace Mine
noncomputable def innerPos (i : Nat) : Pos := match (fdB i).find? fun x => match x with | .FunctionDef .. => true | _ => false with | some (.FunctionDef _ _ _ _ _ _ _ _ _ p) => p | _ => default
@[reducible] noncomputable def hmPos : Pos := by
  refine (fun (l : Pos) (_ : innerPos 9 = l) => l) ?l ?h
  rotate_left
  conv => lhs; whnf
@[reducible] noncomputable def hmT3 : List Stmt := by
  refine (fun (l : List Stmt) (_ : (fdB 9).drop 3 = l) => l) ?l ?h
  rotate_left
  conv => lhs; whnf
@[reducible] noncomputable def hmT6 : List Stmt := by
  refine (fun (l : List Stmt) (_ : (fdB 9).drop 6 = l) => l) ?l ?h
  rotate_left
  conv => lhs; whnf
theorem code60 {w : World} {h : Heap} (X : (K w.params).In h) : CodeHd h 60 58 := codeHd_of_K X (by kernel_rfl)
/-- the row: the tuple of the hash, its size and its block -/
noncomputable def RowAt (a f : Addr) (size block : Nat) (news : List (Addr × Obj)) : Prop := ∃ t1 t2, (a, ({ cls := .type "tuple", data := .seq #[.ref f, .int (size : Int) t1, .int (block : Int) t2] } : Obj)) ∈ news
theorem RowAt.sub {a f : Addr} {size block : Nat} {news news' : List (Addr × Obj)} (h : RowAt a f size block news) (hs : ∀ p ∈ news, p ∈ news') : RowAt a f size block news' := let ⟨t1, t2, h⟩ := h; ⟨t1, t2, hs _ h⟩
noncomputable abbrev madeTab (c' : Addr) : Obj := tabObj (#[] ++ #[rawInt hmPos.line, rawInt hmPos.col, .ref c'])
/-- the def's table when the inner def's code has been made -/
noncomputable def MadeAt (c' : Addr) (news : List (Addr × Obj)) : Prop := ∃ (oc : Obj) (ws : Array Value) (t : Tok), (58, madeTab c') ∈ news ∧ (c', oc) ∈ news ∧ oc.data = .fields ws ∧ ws[1]? = some (.str hmQ t)
theorem MadeAt.sub {c' : Addr} {news news' : List (Addr × Obj)} (h : MadeAt c' news) (hs : ∀ p ∈ news, p ∈ news') : MadeAt c' news' := let ⟨oc, ws, t, h1, h2, h3, h4⟩ := h; ⟨oc, ws, t, hs _ h1, hs _ h2, h3, h4⟩
theorem ne_of_lts {c L : Addr} {news : List (Addr × Obj)} (l : ∀ p ∈ news, p.1 < L) (h : @LE.le Nat _ L c) : ∀ p ∈ news, p.1 ≠ c := fun p hp q => by
  have := l p hp
  rw [q] at this
  exact Nat.lt_irrefl _ (Nat.lt_of_lt_of_le this h)
/-- the table as it is found: empty, or with the inner def's code; Bs tells the old part of the ledger afterwards -/
noncomputable def TabSt (Bs : List (Addr × Obj) → Addr → Prop) (news : List (Addr × Obj)) : Prop :=
  (∃ g, UpdF 58 (tabObj #[]) news g ∧ ∀ c', Bs (g (madeTab c')) c') ∨ ∃ c', MadeAt c' news ∧ Bs news c'
/-- what compile_hmac leaves behind -/
noncomputable def MakesR (fh : Addr) (Bs : List (Addr × Obj) → Addr → Prop) (size block : Nat) (key : List UInt8) (news : List (Addr × Obj)) (r : Value) (post : List (Addr × Obj)) : Prop :=
  ∃ f c' new base, r = .ref f ∧ post = new ++ base ∧ Above new news ∧ HmacAt f size (padI size block key) (padO size block key) post ∧ MadeAt c' post ∧ Bs base c' ∧ ∀ sub, HashAt fh size sub → MadeAt c' sub → HmacAt f size (padI size block key) (padO size block key) (new ++ sub)
theorem r_bytesD {prog : Program} {w : World} {A : Around} {E : Value → Shared → Prop} {s : Shared} {h₀ : Heap} {L : Addr} {m : Str → Option Value} {l : Addr} {ys : List Value} {k : Nat} {os : List UInt8} {ns : List Int} {rest : List (Addr × Obj)} {Q : Value → Shared → Prop} (hh : A.handled = none) (F : Fr h₀ L s.heap m)
    (N : News h₀ L s.heap ((l, ({ cls := .type "list", data := .seq ys.toArray k } : Obj)) :: rest))
    (hi : IntsAre ys ns) (hn : ns = os.map oct) (hz : os.length ≤ sizeLine) (h : ∀ h' t' k', Fr h₀ L h' m → News h₀ L h' rest → Q (.bytes os.toArray t') { s with heap := h', toks := k' }) : wpAny (model prog w) A (call (.type "bytes") [.ref l]) Q E s :=
  r_bytes hh F N (List.Mem.head _) hi hn hz fun h' t' k' F' N' => h h' t' k' F' (news_sub N' fun p hp => List.Mem.tail _ hp)
theorem UpdF.kept {d : Addr} {o : Obj} {l : List (Addr × Obj)} {g : Obj → List (Addr × Obj)} (U : UpdF d o l g) {p : Addr × Obj} (hp : p ∈ l) (hn : p.2 ≠ o) (o' : Obj) : p ∈ g o' := by
  obtain ⟨pre, post, rfl, e, _, _⟩ := U.split
  rw [e]
  rcases List.mem_append.mp hp with hp | hp
  · exact List.mem_append_left _ hp
  · rcases List.mem_cons.mp hp with rfl | hp
    · exact absurd rfl hn
    · exact List.mem_append_right _ (List.Mem.tail _ hp)
theorem UpdF.old {d : Addr} {o : Obj} {l : List (Addr × Obj)} {g : Obj → List (Addr × Obj)} (U : UpdF d o l g) : (d, o) ∈ l := by
  obtain ⟨pre, post, rfl, e, _, _⟩ := U.split
  exact List.mem_append_right _ (List.Mem.head _)
theorem UpdF.made {d : Addr} {o : Obj} {l : List (Addr × Obj)} {g : Obj → List (Addr × Obj)} (U : UpdF d o l g) (o' : Obj) : (d, o') ∈ g o' := by
  obtain ⟨pre, post, rfl, e, _, _⟩ := U.split
  rw [e]
  exact List.mem_append_right _ (List.Mem.head _)
theorem HashAt.upd {f : Addr} {size : Nat} {news : List (Addr × Obj)} {g : Obj → List (Addr × Obj)} (U : UpdF 58 (tabObj #[]) news g) (h : HashAt f size news) (o' : Obj) : HashAt f size (g o') := by
  obtain ⟨c, c', pm, ctv, oc, o, ws, t, t', h1, h2, h3, h4, h5, h6⟩ := h
  refine ⟨c, c', pm, ctv, oc, o, ws, t, t', UpdF.kept U h1 (fun q => ?_) o', UpdF.kept U h2 (fun q => ?_) o', h3, h4, UpdF.kept U h5 (fun q => ?_) o', h6⟩
  · exact absurd (congrArg Obj.cls q) (fun e => nomatch e)
  · have e : oc.data = (tabObj #[]).data := congrArg Obj.data q
    rw [h3] at e
    cases e
    cases h4
  · have e : o.data = (tabObj #[]).data := congrArg Obj.data q
    rw [h6] at e
    cases e
section
local macro_rules | `(tactic| k_all) => `(tactic| exact ne_of_lts (by assumption) (by omega))
theorem ru30 : True := by
  k_with_none
  k_with "12 eval Name" => ((k_here; (first | (with_reducible show wpAny _ _ (eval (Expr.Name _ _) (envOf _ _ _ _ _)) _ _ _) | (with_reducible show wpAny _ _ (eval (Expr.Name _ _) (envOfC _ _ _ _ _)) _ _ _) | (with_reducible show wpAny _ _ (eval (Expr.Name _ _) (envX _ _ _ _ _ _)) _ _ _)); k_dflt (first
      | (refine' nameX_K ?F_0 ?X_0 ?T_0 ?e_0 ?_ ?a_0 ?b_0; (case b_0 => kernel_rfl!); (case a_0 => rfl); (case F_0 => k_asm); (case X_0 => k_asm); (case T_0 => k_asm); (case e_0 => k_is); k_whole)
      | (refine' nameX_L ?F_0 ?v_0 ?_ ?a_0 ?b_0; (case b_0 => kernel_rfl!); (case a_0 => rfl); (case F_0 => k_asm); (case v_0 => rfl); k_whole)
      | (refine' nameX_B ?F_0 ?X_0 ?T_0 ?e_0 ?v_0 ?n_0 ?_ ?a_0 ?b_0; (case b_0 => kernel_rfl!); (case a_0 => rfl); (case F_0 => k_asm); (case X_0 => k_asm); (case T_0 => k_asm); (case e_0 => k_is); (case v_0 => boot_fast); (case n_0 => decide); k_whole))))
  k_with "12 callWith ref" => ((k_here; (with_reducible show wpAny _ _ (callWith _ (Value.ref _) _ (backTo _ (starEach (_ :: _) _)) (backToKw _ _)) _ _ _); k_dflt (refine' callWith_KW ?k1_0 ?k2_0 ?k3_0 ?_; (case k1_0 => k_asm); (case k2_0 => k_is); (case k3_0 => exact rfl); k_whole)))
  k_with "3 eval Name" => ((k_here; k_dflt (refine' nameX_L ?zF_39 ?zv_39 ?_ ?za_39 ?zb_39; (case zb_39 => kernel_rfl!); (case zF_39 => k_asm); (case za_39 => rfl); (case zv_39 => with_reducible assumption); k_whole)))
  k_with "2 eval Name" => ((k_here; (with_reducible show wpAny _ _ (eval (Expr.Name (Str.ofString "_TRANS_36") _) (compEnvC _ _ _ _)) _ _ _); k_dflt (refine LCgL.ld_global (by k_asm) (by k_asm) (by k_asm) g36 ?_)))
  k_with "1 eval Name" => ((k_here; (with_reducible show wpAny _ _ (eval (Expr.Name (Str.ofString "_TRANS_5C") _) (compEnvC _ _ _ _)) _ _ _); k_dflt (refine LCgL.ld_global (by k_asm) (by k_asm) (by k_asm) g5C ?_)))
  k_with "1 eval ListComp" => ((k_here; (with_reducible show wpAny _ _ (eval (Expr.ListComp (Expr.Subscript _ _ _) _ _ _) _) _ _ _); k_dflt (refine listComp_b (F₀ := by k_asm) (by with_unfolding_all rfl) (by decide) (by rfl) (by decide) (by rfl) ?_)))
  k_with "2 CompB" => ((k_here; (with_reducible show CompB _ _ _ _ _ _ _ (Expr.Subscript (Expr.Name (Str.ofString "_TRANS_36") _) _ _) _ _ _ _ _ _); k_dflt (refine' comp_bi (fun c => oct (c ^^^ 54)) ?hh_39 ?F_39 ?N_39 ?sz_39 (fun c9 t9 I9 oI9 C9 oC9 D9 oD9 m9 h9 tk9 E9 hc9 hC9 hx9 F9 N9 off9 ne9 => ?_) (fun g9 ys9 hI9 D9 h9 tk9 F9 N9 o9 => ?_)); (case hh_39 => rfl); (case F_39 => k_asm); (case N_39 => k_asm); (case sz_39 => (rw [PySem.sizeLine_eq]; omega))))
  k_with "1 CompB" => ((k_here; (with_reducible show CompB _ _ _ _ _ _ _ (Expr.Subscript (Expr.Name (Str.ofString "_TRANS_5C") _) _ _) _ _ _ _ _ _); k_dflt (refine' comp_bi (fun c => oct (c ^^^ 92)) ?hh_39 ?F_39 ?N_39 ?sz_39 (fun c9 t9 I9 oI9 C9 oC9 D9 oD9 m9 h9 tk9 E9 hc9 hC9 hx9 F9 N9 off9 ne9 => ?_) (fun g9 ys9 hI9 D9 h9 tk9 F9 N9 o9 => ?_)); (case hh_39 => rfl); (case F_39 => k_asm); (case N_39 => k_asm); (case sz_39 => (rw [PySem.sizeLine_eq]; omega))))
  k_with "1 subscriptTail" => ((k_here; (with_reducible show wpAny _ _ (subscriptTail _ _ (Value.bytes (transA _) _) (Value.int _ _)) _ _ _); k_dflt (refine r_trans (by with_unfolding_all rfl) ?_); intro t9 k9))
  k_with "1 EltEnd" => ((refine elt_end (by k_asm) (by k_asm) (fun p hp => hp) ⟨_, rfl⟩))
  k_with "1 call type:bytes" => ((k_here; k_dflt (refine r_bytesD (by rfl) (by k_asm) (by k_asm) (by assumption) (map_oct _ _) (by (rw [PySem.sizeLine_eq]; simp only [List.length_map]; omega)) ?_); intro h9 t9 k9 F9 N9))
  trivial
theorem tail6 (w : World) (fh : Addr) (key full : List UInt8) (t : Tok) (size block : Nat) (hfull : full = filled size block key) (hlen : full.length ≤ 64) (news : List (Addr × Obj)) (HH : HashAt fh size news) (Bs : List (Addr × Obj) → Addr → Prop) (HT : TabSt Bs news)
    (dp un : Nat) (gd : Option (List Code)) (outer : List Env) (A₀ : Around) (base g : Heap) (L' : Addr) (h₁ : Heap) (tk : Nat) (s : Shared) (p : Program) (loose : List Str) (mean : ExcName → Option Value) (mg mb : Str → Option Value) (m : Str → Option Value) (o1 o2 o3 : Obj) (v1 v2 : Option Value)
    (B : Below A₀ base outer g) (F : Fr g L' h₁ m) (hm : m (Str.ofString "key") = some (.bytes full.toArray t)) (X : (K w.params).In g) (N : News g L' h₁ ((L' + 1 + 1 + 1, o1) :: (L' + 1 + 1, o2) :: (L' + 1, o3) :: news)) (d1 : o1.data = .cell v1) (d2 : o2.data = .cell v2) (d3 : o3.data = .cell (some (.ref fh)))
    (T : Top p loose mean mg mb g) (l1 : ∀ p ∈ news, p.1 < L') (hd : dp < recursionLimit) (hu : un < cLine) :
    wpAny (model pw w) (ktrTop dp un gd (Str.ofString "compile_hmac") fS9 L' 61 (.ref 60) (cellsFrom (L' + 1) fS9.names []) outer) (execs hmT6 (envOfC (Str.ofString "compile_hmac") fS9 L' 61 (.ref 60))) (EndsU g L' s (MakesR fh Bs size block key news)) (fun _ _ => False) { s with heap := h₁, toks := tk } := by
  have C60 := code60 X
  show wpAny _ _ _ _ _ _
  k_fold
  k_steps
  have e1 : padI size block key = full.map (· ^^^ 54) := by rw [hfull]; rfl
  have e2 : padO size block key = full.map (· ^^^ 92) := by rw [hfull]; rfl
  rename Fr _ _ _ _ => F9
  rename News _ _ _ _ => N9
  rcases HT with ⟨gg, U, hB⟩ | ⟨c', HM, hB⟩
  · have h58 : @LT.lt Nat _ 58 L' := l1 _ (UpdF.old U)
    k_dflt (refine' nestDef_K rfl rfl rfl ?_)
    k_dflt (refine' nest_K (ps := #[]) F9 N9 T C60 rfl (UpdF.tail (by k_ne) (UpdF.tail (by k_ne) (UpdF.tail (by k_ne) U))) True.intro rfl rfl ?_)
    intro f' c' oc' vs' t' ct' dc' h' tk' F' N' d1' d2' l3 l4
    (try dsimp only at N')
    clear F9 N9
    k_steps
    rename Fr _ _ _ _ => F9
    rename News _ _ _ _ => N9
    rename_i tkz
    show EndsU _ _ _ _ _ _
    refine endsU _ F9 N9 (fun p hp => hp) ?_
    refine ⟨f', c', [_, _, _, _, _], gg (madeTab c'), rfl, rfl, ?_, ?_, ?_, hB c', ?_⟩
    · intro q hq p hp
      have hp' := l1 p hp
      have l5 : @LT.lt Nat _ (L' + 1 + 1 + 1) c' := l3 _ (List.Mem.head _)
      have l6 : @LT.lt Nat _ c' f' := l4
      simp only [List.mem_cons, List.not_mem_nil, or_false] at hq
      have hq' : @LT.lt Nat _ L' q.1 := by
        rcases hq with rfl | rfl | rfl | rfl | rfl
        · show @LT.lt Nat _ L' f'; omega
        · show @LT.lt Nat _ L' c'; omega
        · show @LT.lt Nat _ L' (L' + 1 + 1 + 1); omega
        · show @LT.lt Nat _ L' (L' + 1 + 1); omega
        · show @LT.lt Nat _ L' (L' + 1); omega
      exact Nat.lt_trans hp' hq'
    · rw [e1, e2]
      exact ⟨fh, L' + 1, L' + 1 + 1, L' + 1 + 1 + 1, c', dc', _, ct', oc', _, _, _, vs', t', _, _, List.Mem.head _, List.Mem.tail _ (List.Mem.head _), d1', d2', List.Mem.tail _ (List.Mem.tail _ (List.Mem.tail _ (List.Mem.tail _ (List.Mem.head _)))), d3,
        List.Mem.tail _ (List.Mem.tail _ (List.Mem.tail _ (List.Mem.head _))), by assumption, List.Mem.tail _ (List.Mem.tail _ (List.Mem.head _)), by assumption, HashAt.sub (HashAt.upd U HH _) fun p hp => List.mem_append_right [_, _, _, _, _] hp⟩
    · exact ⟨oc', vs', t', List.mem_append_right [_, _, _, _, _] (UpdF.made U _), List.Mem.tail _ (List.Mem.head _), d1', d2'⟩
    · intro sub hH _
      rw [e1, e2]
      exact ⟨fh, L' + 1, L' + 1 + 1, L' + 1 + 1 + 1, c', dc', _, ct', oc', _, _, _, vs', t', _, _, List.Mem.head _, List.Mem.tail _ (List.Mem.head _), d1', d2', List.Mem.tail _ (List.Mem.tail _ (List.Mem.tail _ (List.Mem.tail _ (List.Mem.head _)))), d3,
        List.Mem.tail _ (List.Mem.tail _ (List.Mem.tail _ (List.Mem.head _))), by assumption, List.Mem.tail _ (List.Mem.tail _ (List.Mem.head _)), by assumption, HashAt.sub hH fun p hp => List.mem_append_right [_, _, _, _, _] hp⟩
  · obtain ⟨oc', vs', t', m1, m2, m3, m4⟩ := HM
    k_dflt (refine' nestDef_K rfl rfl rfl ?_)
    k_dflt (refine' nestHit_K (c' := c') F9 N9 T C60 rfl (List.Mem.tail _ (List.Mem.tail _ (List.Mem.tail _ m1))) ?t ?n rfl ?_)
    case t => kn_triples
    case n => kn_hit
    intro f' ct' dc' h' tk' F' N' l3
    (try dsimp only at N')
    clear F9 N9
    k_steps
    rename Fr _ _ _ _ => F9
    rename News _ _ _ _ => N9
    show EndsU _ _ _ _ _ _
    refine endsU _ F9 N9 (fun p hp => hp) ?_
    refine ⟨f', c', [_, _, _, _], news, rfl, rfl, ?_, ?_, ?_, hB, ?_⟩
    · intro q hq p hp
      have hp' := l1 p hp
      have l5 : @LT.lt Nat _ (L' + 1 + 1 + 1) f' := l3 _ (List.Mem.head _)
      simp only [List.mem_cons, List.not_mem_nil, or_false] at hq
      have hq' : @LT.lt Nat _ L' q.1 := by
        rcases hq with rfl | rfl | rfl | rfl
        · show @LT.lt Nat _ L' f'; omega
        · show @LT.lt Nat _ L' (L' + 1 + 1 + 1); omega
        · show @LT.lt Nat _ L' (L' + 1 + 1); omega
        · show @LT.lt Nat _ L' (L' + 1); omega
      exact Nat.lt_trans hp' hq'
    · rw [e1, e2]
      exact ⟨fh, L' + 1, L' + 1 + 1, L' + 1 + 1 + 1, c', dc', _, ct', oc', _, _, _, vs', t', _, _, List.Mem.head _, List.mem_append_right [_, _, _, _] m2, m3, m4, List.Mem.tail _ (List.Mem.tail _ (List.Mem.tail _ (List.Mem.head _))), d3,
        List.Mem.tail _ (List.Mem.tail _ (List.Mem.head _)), by assumption, List.Mem.tail _ (List.Mem.head _), by assumption, HashAt.sub HH fun p hp => List.mem_append_right [_, _, _, _] hp⟩
    · exact ⟨oc', vs', t', List.mem_append_right [_, _, _, _] m1, List.mem_append_right [_, _, _, _] m2, m3, m4⟩
    · intro sub hH hM
      obtain ⟨oc2, vs2, t2', k1, k2, k3, k4⟩ := hM
      rw [e1, e2]
      exact ⟨fh, L' + 1, L' + 1 + 1, L' + 1 + 1 + 1, c', dc', _, ct', oc2, _, _, _, vs2, t2', _, _, List.Mem.head _, List.mem_append_right [_, _, _, _] k2, k3, k4, List.Mem.tail _ (List.Mem.tail _ (List.Mem.tail _ (List.Mem.head _))), d3,
        List.Mem.tail _ (List.Mem.tail _ (List.Mem.head _)), by assumption, List.Mem.tail _ (List.Mem.head _), by assumption, HashAt.sub hH fun p hp => List.mem_append_right [_, _, _, _] hp⟩
end
end Mine
end
-- D6
section
open PySem PySem.W PySem.Spec PySem.Calls PyProof.Rows PyProof.Rows.LCg
set_option maxRecDepth 100000
set_option maxHeartbeats 1000000
set_option linter.unusedVariables false
namespace Mine
theorem ru32 : True := by
  k_with_none
  k_with "12 eval Name" => ((k_here; (first | (with_reducible show wpAny _ _ (eval (Expr.Name _ _) (envOf _ _ _ _ _)) _ _ _) | (with_reducible show wpAny _ _ (eval (Expr.Name _ _) (envOfC _ _ _ _ _)) _ _ _) | (with_reducible show wpAny _ _ (eval (Expr.Name _ _) (envX _ _ _ _ _ _)) _ _ _)); k_dflt (first
      | (refine' nameX_K ?F_0 ?X_0 ?T_0 ?e_0 ?_ ?a_0 ?b_0; (case b_0 => kernel_rfl!); (case a_0 => rfl); (case F_0 => k_asm); (case X_0 => k_asm); (case T_0 => k_asm); (case e_0 => k_is); k_whole)
      | (refine' nameX_L ?F_0 ?v_0 ?_ ?a_0 ?b_0; (case b_0 => kernel_rfl!); (case a_0 => rfl); (case F_0 => k_asm); (case v_0 => rfl); k_whole)
      | (refine' nameX_B ?F_0 ?X_0 ?T_0 ?e_0 ?v_0 ?n_0 ?_ ?a_0 ?b_0; (case b_0 => kernel_rfl!); (case a_0 => rfl); (case F_0 => k_asm); (case X_0 => k_asm); (case T_0 => k_asm); (case e_0 => k_is); (case v_0 => boot_fast); (case n_0 => decide); k_whole))))
  k_with "12 callWith ref" => ((k_here; (with_reducible show wpAny _ _ (callWith _ (Value.ref _) _ (backTo _ (starEach (_ :: _) _)) (backToKw _ _)) _ _ _); k_dflt (refine' callWith_KW ?k1_0 ?k2_0 ?k3_0 ?_; (case k1_0 => k_asm); (case k2_0 => k_is); (case k3_0 => exact rfl); k_whole)))
  trivial
noncomputable def Hold (p : Prop) : Prop := p
theorem hold {p : Prop} (h : Hold p) : p := h
theorem filled_gt {size block : Nat} {key : List UInt8} (h : block < key.length) : filled size block key = hsh size key ++ List.replicate (block - size) 0 := by
  have e : keyOf size block key = hsh size key := by unfold keyOf; rw [if_pos h]
  unfold filled
  rw [e, hsh_length]
theorem filled_ge {size block : Nat} {key : List UInt8} (h : block < key.length) (h' : block ≤ size) : filled size block key = hsh size key := by
  rw [filled_gt h, show block - size = 0 by omega]
  exact List.append_nil _
theorem filled_lt {size block : Nat} {key : List UInt8} (h : ¬ block < key.length) : filled size block key = key ++ List.replicate (block - key.length) 0 := by
  have e : keyOf size block key = key := by unfold keyOf; rw [if_neg h]
  unfold filled
  rw [e]
theorem filled_eq {size block : Nat} {key : List UInt8} (h : ¬ block < key.length) (h' : block ≤ key.length) : filled size block key = key := by
  rw [filled_lt h, show block - key.length = 0 by omega]
  exact List.append_nil _
section
local macro_rules | `(tactic| k_all) => `(tactic| exact ne_of_lts (by assumption) (by omega))
theorem ru31 : True := by
  k_with_none
  k_with "12 eval Name" => ((k_here; (first | (with_reducible show wpAny _ _ (eval (Expr.Name _ _) (envOf _ _ _ _ _)) _ _ _) | (with_reducible show wpAny _ _ (eval (Expr.Name _ _) (envOfC _ _ _ _ _)) _ _ _) | (with_reducible show wpAny _ _ (eval (Expr.Name _ _) (envX _ _ _ _ _ _)) _ _ _)); k_dflt (first
      | (refine' nameX_K ?F_0 ?X_0 ?T_0 ?e_0 ?_ ?a_0 ?b_0; (case b_0 => kernel_rfl!); (case a_0 => rfl); (case F_0 => k_asm); (case X_0 => k_asm); (case T_0 => k_asm); (case e_0 => k_is); k_whole)
      | (refine' nameX_L ?F_0 ?v_0 ?_ ?a_0 ?b_0; (case b_0 => kernel_rfl!); (case a_0 => rfl); (case F_0 => k_asm); (case v_0 => rfl); k_whole)
      | (refine' nameX_B ?F_0 ?X_0 ?T_0 ?e_0 ?v_0 ?n_0 ?_ ?a_0 ?b_0; (case b_0 => kernel_rfl!); (case a_0 => rfl); (case F_0 => k_asm); (case X_0 => k_asm); (case T_0 => k_asm); (case e_0 => k_is); (case v_0 => boot_fast); (case n_0 => decide); k_whole))))
  k_with "12 callWith ref" => ((k_here; (with_reducible show wpAny _ _ (callWith _ (Value.ref _) _ (backTo _ (starEach (_ :: _) _)) (backToKw _ _)) _ _ _); k_dflt (refine' callWith_KW ?k1_0 ?k2_0 ?k3_0 ?_; (case k1_0 => k_asm); (case k2_0 => k_is); (case k3_0 => exact rfl); k_whole)))
  k_with "1 execs cons" => ((k_here; (with_reducible show wpAny _ _ (execs (Stmt.Assign [Expr.Name (Str.ofString "inner_key") _] _ _ :: _) _) _ _ _); refine hold ?_))
  k_with "1 eval Name" => ((k_here; k_dflt (refine' nameX_L ?zF_40 ?zv_40 ?_ ?za_40 ?zb_40; (case zb_40 => kernel_rfl!); (case zF_40 => k_asm); (case za_40 => rfl); (case zv_40 => first | with_reducible assumption | rfl | assumption); k_whole)))
  k_with "1 loadName" => ((k_here; k_dflt (refine' wpAny_loadName_local ?za_40 ?zb_40 (Fr.ns ?zF_40) ?zv_40 ?_; (case zF_40 => k_asm); (case za_40 => rfl); (case zb_40 => rfl); (case zv_40 => first | with_reducible assumption | rfl | assumption); k_whole)))
  k_with "1 callWith ref" => ((k_here; k_dflt (refine' callWith_F ?k1_40 ?_; (case k1_40 => exact hash_fnAt (by k_asm) (by assumption) (by (intro p hp; repeat (first | exact hp | refine List.Mem.tail _ ?_)))); k_whole)))
  k_with "1 FnAt" => ((k_dflt (exact hash_fnAt (by k_asm) (by assumption) (by (intro p hp; repeat (first | exact hp | refine List.Mem.tail _ ?_))))))
  k_with "1 call ref" => ((k_here; (with_reducible show wpAny _ _ (call (Value.ref _) _) _ _ _); k_dflt (show wpAny _ _ (call (Value.ref _) [Value.bytes (List.toArray _) _]) _ _ _); refine' use_con (hash_fn _ _ _ _ _ ?h1_40 ?h2_40 ?hb_40 _ ?hH_40) ?B_40 ?F_40 ?X_40 ?N_40 ?T_40 ?hk_40 ?hd_40 ?hu_40 ?_; (case N_40 => k_asm); (case hH_40 => exact HashAt.sub (by assumption) (by (intro p hp; repeat (first | exact hp | refine List.Mem.tail _ ?_)))); (case B_40 => k_asm); (case F_40 => k_asm); (case X_40 => k_asm); (case T_40 => k_asm); (case hk_40 => rfl); (case hd_40 => omega); (case hu_40 => omega); (case h1_40 => omega); (case h2_40 => omega); (case hb_40 => omega); (intro r9 new9 h9 tk9 hR9 hA9 F9 N9; obtain ⟨hnew9, t9, hr9⟩ := hR9; subst hnew9; subst hr9; simp only [List.nil_append] at N9)))
  k_with "1 call builtin:len" => ((k_here; (with_reducible show wpAny _ _ (call (Value.builtin "len") [Value.bytes (List.toArray _) _]) _ _ _); (refine' r_len ?hl_40 ?_; (case hl_40 => omega); intro _ _)))
  k_with "1 binaryOp Sub int int" => ((k_here; (refine' r_subN ?hl_40 ?_; (case hl_40 => omega); intro _ _)))
  k_with "1 inplaceOp Add bytes bytes" => ((k_here; (refine' r_iadd ?hlen_40 ?_; (case hlen_40 => ((try simp only [List.length_replicate, hsh_length]); omega)); intro _ _)))
  k_with "1 binaryOp Mult bytes int" => ((k_here; k_dflt (refine' r_nuls ?hlen_40 ?_; (case hlen_40 => omega); intro _ _)))
  trivial
theorem tail3 (w : World) (fh : Addr) (key : List UInt8) (t t1 t2 : Tok) (size block : Nat) (h1 : 1 ≤ size) (h2 : size ≤ 32) (h3 : size ≤ block) (h4 : block ≤ 64) (hb : key.length ≤ 1000) (news : List (Addr × Obj)) (HH : HashAt fh size news) (Bs : List (Addr × Obj) → Addr → Prop) (HT : TabSt Bs news)
    (dp un : Nat) (gd : Option (List Code)) (outer : List Env) (A₀ : Around) (base g : Heap) (L' : Addr) (h₁ : Heap) (tk : Nat) (s : Shared) (p : Program) (loose : List Str) (mean : ExcName → Option Value) (mg mb : Str → Option Value) (m : Str → Option Value) (o1 o2 o3 : Obj) (v1 v2 : Option Value)
    (B : Below A₀ base outer g) (F : Fr g L' h₁ m) (hm : m (Str.ofString "key") = some (.bytes key.toArray t)) (hm1 : m (Str.ofString "digest_size") = some (.int (size : Int) t1)) (hm2 : m (Str.ofString "block_size") = some (.int (block : Int) t2)) (X : (K w.params).In g) (N : News g L' h₁ ((L' + 1 + 1 + 1, o1) :: (L' + 1 + 1, o2) :: (L' + 1, o3) :: news)) (d1 : o1.data = .cell v1) (d2 : o2.data = .cell v2) (d3 : o3.data = .cell (some (.ref fh)))
    (T : Top p loose mean mg mb g) (l1 : ∀ p ∈ news, p.1 < L') (hd : dp + 2 < recursionLimit) (hu : un + 60 < cLine) :
    wpAny (model pw w) (ktrTop dp un gd (Str.ofString "compile_hmac") fS9 L' 61 (.ref 60) (cellsFrom (L' + 1) fS9.names []) outer) (execs hmT3 (envOfC (Str.ofString "compile_hmac") fS9 L' 61 (.ref 60))) (EndsU g L' s (MakesR fh Bs size block key news)) (fun _ _ => False) { s with heap := h₁, toks := tk } := by
  have C60 := code60 X
  show wpAny _ _ _ _ _ _
  k_fold
  k_steps
  all_goals (
    show wpAny _ _ _ _ _ _
    rename Fr _ _ _ _ => F9
    rename News _ _ _ _ => N9
    refine' tail6 w fh key _ _ size block ?hfull ?hlen news HH Bs HT dp un gd outer A₀ base g L' _ _ s p loose mean mg mb _ _ _ _ _ _ B F9 ?hm9 X N9 d1 d2 d3 T l1 (by omega) (by omega)
    (case hm9 => first | rfl | exact hm)
    (case hfull => first | exact (filled_gt (by omega)).symm | exact (filled_ge (by omega) (by omega)).symm | exact (filled_lt (by omega)).symm | exact (filled_eq (by omega) (by omega)).symm)
    (case hlen => (try simp only [List.length_append, List.length_replicate, hsh_length]); omega))
end
end Mine
end
-- D7
section
open PySem PySem.W PySem.Spec PySem.Calls PyProof.Rows PyProof.Rows.LCg
set_option maxRecDepth 100000
set_option maxHeartbeats 1000000
set_option linter.unusedVariables false
namespace Mine
theorem ru34 : True := by
  k_with_none
  k_with "12 eval Name" => ((k_here; (first | (with_reducible show wpAny _ _ (eval (Expr.Name _ _) (envOf _ _ _ _ _)) _ _ _) | (with_reducible show wpAny _ _ (eval (Expr.Name _ _) (envOfC _ _ _ _ _)) _ _ _) | (with_reducible show wpAny _ _ (eval (Expr.Name _ _) (envX _ _ _ _ _ _)) _ _ _)); k_dflt (first
      | (refine' nameX_K ?F_0 ?X_0 ?T_0 ?e_0 ?_ ?a_0 ?b_0; (case b_0 => kernel_rfl!); (case a_0 => rfl); (case F_0 => k_asm); (case X_0 => k_asm); (case T_0 => k_asm); (case e_0 => k_is); k_whole)
      | (refine' nameX_L ?F_0 ?v_0 ?_ ?a_0 ?b_0; (case b_0 => kernel_rfl!); (case a_0 => rfl); (case F_0 => k_asm); (case v_0 => rfl); k_whole)
      | (refine' nameX_B ?F_0 ?X_0 ?T_0 ?e_0 ?v_0 ?n_0 ?_ ?a_0 ?b_0; (case b_0 => kernel_rfl!); (case a_0 => rfl); (case F_0 => k_asm); (case X_0 => k_asm); (case T_0 => k_asm); (case e_0 => k_is); (case v_0 => boot_fast); (case n_0 => decide); k_whole))))
  k_with "12 callWith ref" => ((k_here; (with_reducible show wpAny _ _ (callWith _ (Value.ref _) _ (backTo _ (starEach (_ :: _) _)) (backToKw _ _)) _ _ _); k_dflt (refine' callWith_KW ?k1_0 ?k2_0 ?k3_0 ?_; (case k1_0 => k_asm); (case k2_0 => k_is); (case k3_0 => exact rfl); k_whole)))
  trivial
section
local macro_rules | `(tactic| k_all) => `(tactic| exact ne_of_lts (by assumption) (by omega))
theorem ru33 : True := by
  k_with_none
  k_with "12 eval Name" => ((k_here; (first | (with_reducible show wpAny _ _ (eval (Expr.Name _ _) (envOf _ _ _ _ _)) _ _ _) | (with_reducible show wpAny _ _ (eval (Expr.Name _ _) (envOfC _ _ _ _ _)) _ _ _) | (with_reducible show wpAny _ _ (eval (Expr.Name _ _) (envX _ _ _ _ _ _)) _ _ _)); k_dflt (first
      | (refine' nameX_K ?F_0 ?X_0 ?T_0 ?e_0 ?_ ?a_0 ?b_0; (case b_0 => kernel_rfl!); (case a_0 => rfl); (case F_0 => k_asm); (case X_0 => k_asm); (case T_0 => k_asm); (case e_0 => k_is); k_whole)
      | (refine' nameX_L ?F_0 ?v_0 ?_ ?a_0 ?b_0; (case b_0 => kernel_rfl!); (case a_0 => rfl); (case F_0 => k_asm); (case v_0 => rfl); k_whole)
      | (refine' nameX_B ?F_0 ?X_0 ?T_0 ?e_0 ?v_0 ?n_0 ?_ ?a_0 ?b_0; (case b_0 => kernel_rfl!); (case a_0 => rfl); (case F_0 => k_asm); (case X_0 => k_asm); (case T_0 => k_asm); (case e_0 => k_is); (case v_0 => boot_fast); (case n_0 => decide); k_whole))))
  k_with "12 callWith ref" => ((k_here; (with_reducible show wpAny _ _ (callWith _ (Value.ref _) _ (backTo _ (starEach (_ :: _) _)) (backToKw _ _)) _ _ _); k_dflt (refine' callWith_KW ?k1_0 ?k2_0 ?k3_0 ?_; (case k1_0 => k_asm); (case k2_0 => k_is); (case k3_0 => exact rfl); k_whole)))
  k_with "1 execs cons" => ((k_here; (with_reducible show wpAny _ _ (execs (Stmt.Assign [Expr.Name (Str.ofString "klen") _] _ _ :: _) _) _ _ _); refine hold ?_))
  k_with "1 assign Tuple" => ((k_here; k_dflt (refine' unpackN_ ?k1_41 ?k2_41 ?k3_41 ?k4_41 ?k5_41 ?k6_41 ?_; (case k1_41 => k_asm); (case k2_41 => k_asm); (case k3_41 => exact News.isTup (by k_asm) (by (repeat (first | assumption | refine List.Mem.tail _ ?_)))); (case k4_41 => exact rfl); (case k5_41 => exact rfl); (case k6_41 => exact rfl); k_whole); intro h' F' N'; (try k_sweep)))
  k_with "1 call ref" => ((k_here; (with_reducible show wpAny _ _ (call (Value.ref 36) [_] _) _ _ _); refine' use_conKw (bytes_of _ _ _ ?hK_41 ?hz_41 _ _ _) ?B_41 ?F_41 ?X_41 ?N_41 ?T_41 ?hk_41 ?hd_41 ?hu_41 ?_; (case hK_41 => with_reducible assumption); (case hz_41 => omega); (case N_41 => k_asm); (case B_41 => k_asm); (case F_41 => k_asm); (case X_41 => k_asm); (case T_41 => k_asm); (case hk_41 => rfl); (case hd_41 => omega); (case hu_41 => omega); (intro r9 new9 h9 tk9 hR9 hA9 F9 N9; obtain ⟨hnew9, t9, hr9⟩ := hR9; subst hnew9; subst hr9; simp only [List.nil_append] at N9)))
  trivial
theorem make_ok (w : World) (ra fh : Addr) (kv : Value) (key : List UInt8) (hkv : KeyIs kv key) (size block : Nat) (h1 : 1 ≤ size) (h2 : size ≤ 32) (h3 : size ≤ block) (h4 : block ≤ 64) (h5 : 16 ≤ block) (hb : key.length ≤ 1000) (news : List (Addr × Obj)) (HR : RowAt ra fh size block news) (HH : HashAt fh size news) (Bs : List (Addr × Obj) → Addr → Prop) (HT : TabSt Bs news) :
    ConU w 3 80 (.ref 61) [.ref ra, kv] news (MakesR fh Bs size block key news) := by
  obtain ⟨t1, t2, HR⟩ := HR
  refine' con_ofCU (binds := [(Str.ofString "digest", .ref ra), (Str.ofString "key", kv)]) ?qo ?qcd ?qbind ?qkind ?qnd ?q1 ?q2 ?q3 ?_
  case qo => k_is
  case qcd => k_is
  case qbind => exact fun s _ => BindsTo.of_eq rfl
  case qkind => exact rfl
  case qnd => decide +kernel
  case q1 => exact rfl
  case q2 => exact rfl
  case q3 => exact rfl
  intro dp un gd outer A₀ base g L' h₁ tk s p loose mean mg mb cells B F X N Y T l1 hd hu
  have C60 := code60 X
  k_cells Y
  (try simp only [List.cons_append, List.nil_append] at N)
  (try dsimp only)
  have hkv2 := hkv
  rcases hkv2 with ⟨t, hkk⟩ | ⟨x, t, hkk, _, _⟩
  all_goals (
    subst hkk
    show wpAny _ _ _ _ _ _
    k_fold
    k_steps)
  all_goals (
    show wpAny _ _ _ _ _ _
    rename Fr _ _ _ _ => F9
    rename News _ _ _ _ => N9
    refine' tail3 w fh key _ _ _ size block h1 h2 h3 h4 hb news HH Bs HT dp un gd outer A₀ base g L' _ _ s p loose mean mg mb _ _ _ _ _ _ B F9 ?hm1 ?hm2 ?hm3 X N9 (by assumption) (by assumption) (by assumption) T l1 (by omega) (by omega)
    (case hm1 => exact rfl)
    (case hm2 => exact rfl)
    (case hm3 => exact rfl))
end
end Mine
end
-- E0
section
open PySem PySem.W
set_option linter.unusedVariables false
namespace Mine
theorem ru35 : True := by
  k_with_none
  k_with "12 eval Name" => ((k_here; (first | (with_reducible show wpAny _ _ (eval (Expr.Name _ _) (envOf _ _ _ _ _)) _ _ _) | (with_reducible show wpAny _ _ (eval (Expr.Name _ _) (envOfC _ _ _ _ _)) _ _ _) | (with_reducible show wpAny _ _ (eval (Expr.Name _ _) (envX _ _ _ _ _ _)) _ _ _)); k_dflt (first
      | (refine' nameX_K ?F_0 ?X_0 ?T_0 ?e_0 ?_ ?a_0 ?b_0; (case b_0 => kernel_rfl!); (case a_0 => rfl); (case F_0 => k_asm); (case X_0 => k_asm); (case T_0 => k_asm); (case e_0 => k_is); k_whole)
      | (refine' nameX_L ?F_0 ?v_0 ?_ ?a_0 ?b_0; (case b_0 => kernel_rfl!); (case a_0 => rfl); (case F_0 => k_asm); (case v_0 => rfl); k_whole)
      | (refine' nameX_B ?F_0 ?X_0 ?T_0 ?e_0 ?v_0 ?n_0 ?_ ?a_0 ?b_0; (case b_0 => kernel_rfl!); (case a_0 => rfl); (case F_0 => k_asm); (case X_0 => k_asm); (case T_0 => k_asm); (case e_0 => k_is); (case v_0 => boot_fast); (case n_0 => decide); k_whole))))
  k_with "12 callWith ref" => ((k_here; (with_reducible show wpAny _ _ (callWith _ (Value.ref _) _ (backTo _ (starEach (_ :: _) _)) (backToKw _ _)) _ _ _); k_dflt (refine' callWith_KW ?k1_0 ?k2_0 ?k3_0 ?_; (case k1_0 => k_asm); (case k2_0 => k_is); (case k3_0 => exact rfl); k_whole)))
  trivial
theorem be_snoc (l : List UInt8) (x : UInt8) : be (l ++ [x]) = be l * 256 + x.toNat := by unfold be; rw [List.foldl_append]; rfl
theorem xor_step (a b x y : Nat) (hx : x < 256) (hy : y < 256) : (a * 256 + x) ^^^ (b * 256 + y) = (a ^^^ b) * 256 + (x ^^^ y) := by
  have hxy : x ^^^ y < 2 ^ 8 := Nat.xor_lt_two_pow (n := 8) hx hy
  have e : ∀ c, c * 256 = 2 ^ 8 * c := fun c => by rw [Nat.mul_comm]
  rw [e, e, e]
  apply Nat.eq_of_testBit_eq
  intro j
  rw [Nat.testBit_xor, Nat.testBit_two_pow_mul_add _ hx, Nat.testBit_two_pow_mul_add _ hy, Nat.testBit_two_pow_mul_add _ hxy]
  split
  · rw [Nat.testBit_xor]
  · rw [Nat.testBit_xor]
theorem be_xor_rev : ∀ (a b : List UInt8), a.length = b.length → be a.reverse ^^^ be b.reverse = be (List.zipWith (· ^^^ ·) a b).reverse
  | [], [], _ => rfl
  | x :: a, y :: b, h => by
    have h' : a.length = b.length := by simpa using h
    rw [List.reverse_cons, List.reverse_cons, List.zipWith_cons_cons, List.reverse_cons, be_snoc, be_snoc, be_snoc, xor_step _ _ _ _ x.toNat_lt y.toNat_lt, be_xor_rev a b h', UInt8.toNat_xor]
theorem be_xor (a b : List UInt8) (h : a.length = b.length) : be a ^^^ be b = be (List.zipWith (· ^^^ ·) a b) := by
  have e := be_xor_rev a.reverse b.reverse (by simpa using h)
  rw [List.reverse_reverse, List.reverse_reverse] at e
  rw [e]
  congr 1
  rw [← List.reverse_zipWith h, List.reverse_reverse]
theorem digits_rev : ∀ (a : List UInt8), a.map (fun c => ((c.toNat : Nat) : Int)) = (List.range a.length).map fun i => ((be a.reverse : Nat) : Int) / 256 ^ i % 256
  | [] => rfl
  | x :: a => by
    have hx := x.toNat_lt
    rw [List.map_cons, List.length_cons, List.range_succ_eq_map, List.map_cons, List.map_map, List.reverse_cons, be_snoc, digits_rev a]
    congr 1
    · rw [Int.pow_zero, Int.ediv_one]; omega
    · apply List.map_congr_left
      intro i _
      show _ = (((be a.reverse * 256 + x.toNat : Nat) : Int)) / 256 ^ (i + 1) % 256
      congr 1
      rw [Int.pow_succ, Int.mul_comm, ← Int.ediv_ediv_of_nonneg (by omega)]
      congr 1
      omega
theorem be_lt' (l : List UInt8) (n : Nat) (h : l.length = n) : ((be l : Nat) : Int) < 256 ^ n := by
  have := be_lt l
  rw [h] at this
  rw [KTBy.p256]
  exact Int.ofNat_lt.mpr this
theorem toNat_inj_list : ∀ (a b : List UInt8), a.map (fun c => ((c.toNat : Nat) : Int)) = b.map (fun c => ((c.toNat : Nat) : Int)) → a = b
  | [], [], _ => rfl
  | x :: a, y :: b, h => by
    rw [List.map_cons, List.map_cons] at h
    injection h with h1 h2
    rw [toNat_inj_list a b h2, UInt8.toNat_inj.mp (show x.toNat = y.toNat by omega)]
theorem tob_be (l : List UInt8) : tob l.length (be l) = l := by
  unfold tob
  have e : KTBy.low ((be l : Nat) : Int) l.length = l.reverse := by
    apply toNat_inj_list
    rw [KTBy.low_ints (by omega) (be_lt' l _ rfl), digits_rev l.reverse, List.reverse_reverse, List.length_reverse]
  rw [e, List.reverse_reverse]
theorem tob4 {p : Nat} (h : p ≤ 65535) : tob 4 p = num4 p := by
  have e : be (num4 p) = p := by
    have h1 : (p / 256).toUInt8.toNat = p / 256 := Nat.mod_eq_of_lt (by omega)
    have h2 : (p % 256).toUInt8.toNat = p % 256 := Nat.mod_eq_of_lt (by omega)
    show (((0 * 256 + (0 : UInt8).toNat) * 256 + (0 : UInt8).toNat) * 256 + (p / 256).toUInt8.toNat) * 256 + (p % 256).toUInt8.toNat = p
    rw [h1, h2]
    show (((0 * 256 + 0) * 256 + 0) * 256 + p / 256) * 256 + p % 256 = p
    omega
  have := tob_be (num4 p)
  rw [e] at this
  exact this
end Mine
end
-- E1
section
open PySem PySem.W PySem.Spec PySem.Calls PyProof.Rows PyProof.Rows.LCg
set_option maxRecDepth 100000
set_option maxHeartbeats 1000000
set_option linter.unusedVariables false
namespace Mine
theorem hmac_fnAt {f : Addr} {size : Nat} {i o : List UInt8} {news news' : List (Addr × Obj)} {h₀ h : Heap} {L : Addr} (N : News h₀ L h news') (H : HmacAt f size i o news) (hs : ∀ p ∈ news, p ∈ news') : FnAt f h := HmacAt.fnAt (H.sub hs) N
noncomputable def JL (k c d : Str) (led : List (Addr × Obj)) (m₀ : Str → Option Value) (f : Nat → List UInt8 × List UInt8) (i : Nat) (m : Str → Option Value) (nx : List (Addr × Obj)) : Prop :=
  nx = led ∧ (∃ tc, m c = some (.bytes (f i).1.toArray tc)) ∧ (∃ td, m d = some (.int ((be (f i).2 : Nat) : Int) td)) ∧ ∀ z, z ≠ k → z ≠ c → z ≠ d → m z = m₀ z
theorem be_turns {size n : Nat} {i o d0 : List UInt8} (h : d0.length = size) : be (turnsP size i o n (d0, d0)).2 < 256 ^ size := by
  have := be_lt (turnsP size i o n (d0, d0)).2
  rwa [(turnsP_len size i o (d0, d0) h h n).2] at this
section
theorem ru36 : True := by
  k_with_none
  k_with "12 eval Name" => ((k_here; (first | (with_reducible show wpAny _ _ (eval (Expr.Name _ _) (envOf _ _ _ _ _)) _ _ _) | (with_reducible show wpAny _ _ (eval (Expr.Name _ _) (envOfC _ _ _ _ _)) _ _ _) | (with_reducible show wpAny _ _ (eval (Expr.Name _ _) (envX _ _ _ _ _ _)) _ _ _)); k_dflt (first
      | (refine' nameX_K ?F_0 ?X_0 ?T_0 ?e_0 ?_ ?a_0 ?b_0; (case b_0 => kernel_rfl!); (case a_0 => rfl); (case F_0 => k_asm); (case X_0 => k_asm); (case T_0 => k_asm); (case e_0 => k_is); k_whole)
      | (refine' nameX_L ?F_0 ?v_0 ?_ ?a_0 ?b_0; (case b_0 => kernel_rfl!); (case a_0 => rfl); (case F_0 => k_asm); (case v_0 => rfl); k_whole)
      | (refine' nameX_B ?F_0 ?X_0 ?T_0 ?e_0 ?v_0 ?n_0 ?_ ?a_0 ?b_0; (case b_0 => kernel_rfl!); (case a_0 => rfl); (case F_0 => k_asm); (case X_0 => k_asm); (case T_0 => k_asm); (case e_0 => k_is); (case v_0 => boot_fast); (case n_0 => decide); k_whole))))
  k_with "12 callWith ref" => ((k_here; (with_reducible show wpAny _ _ (callWith _ (Value.ref _) _ (backTo _ (starEach (_ :: _) _)) (backToKw _ _)) _ _ _); k_dflt (refine' callWith_KW ?k1_0 ?k2_0 ?k3_0 ?_; (case k1_0 => k_asm); (case k2_0 => k_is); (case k3_0 => exact rfl); k_whole)))
  k_with "1 call builtin:int.to_bytes" => ((k_here; k_dflt (refine r_to (by omega) (be_turns (by assumption)) ?_); intro _ _))
  k_with "1 my looper" => ((k_here; (rename Fr _ _ _ _ => lF9); (rename News _ _ _ _ => lN9); (rename IsRange _ _ _ _ _ _ _ _ => rg9); (with_unfolding_all refine' range_invG (n := rounds - 1) (JL (Str.ofString "_") (Str.ofString "digest") (Str.ofString "accum") _ _ (fun j => turnsP size i o j (d0, d0))) (by rfl) rg9 ?sm9_43 ?rs9_43 lF9 lN9 ⟨rfl, ⟨_, rfl⟩, ⟨_, rfl⟩, fun z _ _ _ => rfl⟩ (fun i9 t9 m9 nx9 h9 tk9 I9 oI9 hi9 hj9 ho9 F9 N9 => ?_) (fun m9 nx9 h9 tk9 hj9 F9 N9 => ?_)); (case sm9_43 => exact small_one (by omega) (by omega) (by omega) (by omega)); (case rs9_43 => exact range_sub1 (by omega)); (all_goals (obtain ⟨rfl, ⟨tc9, hc9⟩, ⟨td9, hd9⟩, hz9⟩ := hj9)); (all_goals (first | rw [map_two hc9 hd9 hz9] at F9 | rw [← done_two hc9 hd9 hz9] at F9)); (all_goals clear lF9 lN9)))
  k_with "1 pyIter ref" => (((with_reducible show wpAny _ _ (pyIter (Value.ref _)) (fun it s₂ => LoopAtV _ _ _ _ _ _ _ _ _ it s₂) _ _); k_dflt walk_at "my looper"))
  k_with "1 exec For Name Call cons nil" => ((k_here; (rename Fr _ _ _ _ => lF'); (with_unfolding_all refine' For_invVF lF' ?k1_43 ?k2_43 ?_; (case k1_43 => exact rfl); (case k2_43 => exact rfl); k_whole)))
  k_with "1 callWith ref" => ((k_here; k_dflt (refine' callWith_F ?k1_43 ?_; (case k1_43 => exact hmac_fnAt (by k_asm) (by assumption) (by (intro p hp; repeat (first | exact hp | refine List.Mem.tail _ ?_)))); k_whole)))
  k_with "1 FnAt" => ((k_dflt (exact hmac_fnAt (by k_asm) (by assumption) (by (intro p hp; repeat (first | exact hp | refine List.Mem.tail _ ?_))))))
  k_with "2 call ref" => ((k_here; (with_reducible show wpAny _ _ (call (Value.ref _) [Value.bytes (List.toArray _) _, Value.str _ _]) _ _ _); k_dflt (refine r_from (by k_asm) (by k_mem) ?hlen_43 ?_; (case hlen_43 => first | omega | (rw [codeF_length]; omega)); intro _ _)))
  k_with "1 call ref" => ((k_here; (with_reducible show wpAny _ _ (call (Value.ref _) [_]) _ _ _); k_dflt (show wpAny _ _ (call (Value.ref _) [Value.bytes (List.toArray _) _]) _ _ _); refine' use_con (hmac_ok _ _ _ _ _ _ _ ?h1_43 ?h2_43 ?hi_43 ?ho_43 ?hb_43 _ ?hH_43) ?B_43 ?F_43 ?X_43 ?N_43 ?T_43 ?hk_43 ?hd_43 ?hu_43 ?_; (case N_43 => k_asm); (case hH_43 => exact HmacAt.sub (by assumption) (by (intro p hp; repeat (first | exact hp | refine List.Mem.tail _ ?_)))); (case B_43 => k_asm); (case F_43 => k_asm); (case X_43 => k_asm); (case T_43 => k_asm); (case hk_43 => rfl); (case hd_43 => omega); (case hu_43 => omega); (case h1_43 => omega); (case h2_43 => omega); (case hi_43 => omega); (case ho_43 => omega); (case hb_43 => (rw [(turnsP_len _ _ _ _ (by assumption) (by assumption) _).1]; omega)); (intro r9 new9 h9 tk9 hR9 hA9 F9 N9; obtain ⟨hnew9, t9, hr9⟩ := hR9; subst hnew9; subst hr9; simp only [List.nil_append] at N9)))
  trivial
theorem looper_tob (w : World) (f : Addr) (i o d0 : List UInt8) (t t' t'' : Tok) (size rounds : Nat) (h1 : 1 ≤ size) (h2 : size ≤ 32) (hi : i.length ≤ 64) (ho : o.length ≤ 64) (hd0 : d0.length = size) (hr1 : 1 ≤ rounds) (hr2 : rounds ≤ 6) (news : List (Addr × Obj)) (H : HmacAt f size i o news) :
    Con w 4 80 (.ref 89) [.int (size : Int) t, .ref f, .bytes d0.toArray t', .int (rounds : Int) t''] news (fun r => ∃ tc, r = .bytes (tob size (be (turnsP size i o (rounds - 1) (d0, d0)).2)).toArray tc) := by
  refine c_89 ?_
  intro dp un gd outer A₀ base g L' h₁ tk s p loose mean mg mb B F X N T hd hu
  k_fold
  k_steps
  · show TurnEnd _ _ _ _ _ _ _
    rename Fr _ _ _ _ => F0
    rename News _ _ _ _ => N0
    refine' turn_end _ F0 N0 ?hs ho9 ⟨rfl, ⟨_, rfl⟩, ⟨_, ?hx⟩, fun z h1 h2 h3 => by simp [h1, h2, h3]⟩
    case hs => (intro p hp; (repeat (first | exact hp | refine List.Mem.tail _ ?_)))
    case hx =>
      show some (Value.int (Builtin.bitXor ((be (turnsP size i o i9 (d0, d0)).2 : Nat) : Int) ((be (codeF size i o (turnsP size i o i9 (d0, d0)).1) : Nat) : Int)) _) = _
      rw [bitXor_nat, be_xor _ _ (by rw [codeF_length]; exact (turnsP_len _ _ _ _ hd0 hd0 _).2)]
      rfl
  · show EndsN _ _ _ _ _ _ _
    refine ends_ret (by k_asm) (by k_asm) ?_ ⟨_, rfl⟩
    intro p hp; (repeat (first | exact hp | refine List.Mem.tail _ ?_))
theorem looper_ok (w : World) (f : Addr) (i o d0 : List UInt8) (t t' t'' : Tok) (size rounds : Nat) (h1 : 1 ≤ size) (h2 : size ≤ 32) (hi : i.length ≤ 64) (ho : o.length ≤ 64) (hd0 : d0.length = size) (hr1 : 1 ≤ rounds) (hr2 : rounds ≤ 6) (news : List (Addr × Obj)) (H : HmacAt f size i o news) :
    Con w 4 80 (.ref 89) [.int (size : Int) t, .ref f, .bytes d0.toArray t', .int (rounds : Int) t''] news (fun r => ∃ tc, r = .bytes (turnsP size i o (rounds - 1) (d0, d0)).2.toArray tc) := by
  have e := tob_be (turnsP size i o (rounds - 1) (d0, d0)).2
  rw [(turnsP_len size i o (d0, d0) hd0 hd0 _).2] at e
  rw [← e]
  exact looper_tob w f i o d0 t t' t'' size rounds h1 h2 hi ho hd0 hr1 hr2 news H
end
end Mine
end
-- E2
section
open PySem PySem.W PySem.Spec PySem.Calls PyProof.Rows PyProof.Rows.LCg
set_option maxRecDepth 100000
set_option maxHeartbeats 1000000
set_option linter.unusedVariables false
namespace Mine
theorem ru38 : True := by
  k_with_none
  k_with "12 eval Name" => ((k_here; (first | (with_reducible show wpAny _ _ (eval (Expr.Name _ _) (envOf _ _ _ _ _)) _ _ _) | (with_reducible show wpAny _ _ (eval (Expr.Name _ _) (envOfC _ _ _ _ _)) _ _ _) | (with_reducible show wpAny _ _ (eval (Expr.Name _ _) (envX _ _ _ _ _ _)) _ _ _)); k_dflt (first
      | (refine' nameX_K ?F_0 ?X_0 ?T_0 ?e_0 ?_ ?a_0 ?b_0; (case b_0 => kernel_rfl!); (case a_0 => rfl); (case F_0 => k_asm); (case X_0 => k_asm); (case T_0 => k_asm); (case e_0 => k_is); k_whole)
      | (refine' nameX_L ?F_0 ?v_0 ?_ ?a_0 ?b_0; (case b_0 => kernel_rfl!); (case a_0 => rfl); (case F_0 => k_asm); (case v_0 => rfl); k_whole)
      | (refine' nameX_B ?F_0 ?X_0 ?T_0 ?e_0 ?v_0 ?n_0 ?_ ?a_0 ?b_0; (case b_0 => kernel_rfl!); (case a_0 => rfl); (case F_0 => k_asm); (case X_0 => k_asm); (case T_0 => k_asm); (case e_0 => k_is); (case v_0 => boot_fast); (case n_0 => decide); k_whole))))
  k_with "12 callWith ref" => ((k_here; (with_reducible show wpAny _ _ (callWith _ (Value.ref _) _ (backTo _ (starEach (_ :: _) _)) (backToKw _ _)) _ _ _); k_dflt (refine' callWith_KW ?k1_0 ?k2_0 ?k3_0 ?_; (case k1_0 => k_asm); (case k2_0 => k_is); (case k3_0 => exact rfl); k_whole)))
  trivial
/-- the length that is asked: none, or an int -/
noncomputable def LenIs (v : Value) (size length : Nat) : Prop := (v = .none ∧ length = size) ∨ ∃ t, v = .int (length : Int) t
theorem r_titem {prog : Program} {w : World} {A : Around} {E : Value → Shared → Prop} {s : Shared} {h₀ : Heap} {L : Addr} {news : List (Addr × Obj)} {value slice : PySem.Expr} {l : Addr} {items : Array Value} {n : Nat} {k : Int} {u : Tok} {v : Value} {Q : Value → Shared → Prop}
    (N : News h₀ L s.heap news) (hm : (l, ({ cls := .type "tuple", data := .seq items n } : Obj)) ∈ news) (h0 : 0 ≤ k) (hk : k < items.size) (hz : items.size ≤ 16384) (hx : items[k.toNat]? = some v) (hs : subscripted slice false (.ref l) (.int k u) = operate [.ref l, .int k u] (getItem (.ref l) (.int k u))) (h : Q v s) : wpAny (model prog w) A (subscriptTail value slice (.ref l) (.int k u)) Q E s := by
  have ht : IsTup s.heap l items := News.isTup N hm
  exact tail_any ht.typeIs slot_tuple_getitem.lookup (getItem_tuple ht (by omega) (by omega) (seqIndex_of h0 hk) hx h) hs
theorem r_row1 {prog : Program} {w : World} {A : Around} {E : Value → Shared → Prop} {s : Shared} {h₀ : Heap} {L : Addr} {news : List (Addr × Obj)} {value slice : PySem.Expr} {l : Addr} {a b c : Value} {n : Nat} {u : Tok} {Q : Value → Shared → Prop}
    (N : News h₀ L s.heap news) (hm : (l, ({ cls := .type "tuple", data := .seq #[a, b, c] n } : Obj)) ∈ news) (hs : subscripted slice false (.ref l) (.int 1 u) = operate [.ref l, .int 1 u] (getItem (.ref l) (.int 1 u))) (h : Q b s) : wpAny (model prog w) A (subscriptTail value slice (.ref l) (.int 1 u)) Q E s :=
  r_titem N hm (by decide) (show (1 : Int) < ((3 : Nat) : Int) by decide) (show (3 : Nat) ≤ 16384 by decide) rfl hs h
theorem r_fdivN {prog : Program} {w : World} {A : Around} {E : Value → Shared → Prop} {s : Shared} {a b : Int} {n : Nat} {t u : Tok} {Q : Value → Shared → Prop} (hb : b ≠ 0) (hs : b.natAbs < 1073741824) (e : a.fdiv b = (n : Int)) (h : ∀ t' k, Q (.int (n : Int) t') { s with toks := k }) : wpAny (model prog w) A (binaryOp .FloorDiv (.int a t) (.int b u)) Q E s := by
  refine floordiv_int hb ?_ (Or.inl (PyProof.noPylong_small hs))
  rw [e]
  exact h _ _
theorem count_eq {size length : Nat} (h1 : 1 ≤ size) (hl : 1 ≤ length) : ((length : Int) + (size : Int) - 1).fdiv (size : Int) = (((length - 1) / size + 1 : Nat) : Int) := by
  rw [show (length : Int) + (size : Int) - 1 = ((length - 1 + size : Nat) : Int) by omega, Int.fdiv_eq_ediv_of_nonneg _ (by omega), ← Int.natCast_ediv, Nat.add_div_right _ (by omega)]
theorem pack_num (w : World) (piece : Nat) (t : Tok) (h : piece ≤ 65535) (news : List (Addr × Obj)) :
    Con w 1 20 (.ref 76) [.int (piece : Int) t] news (fun r => ∃ tc, r = .bytes (num4 piece).toArray tc) := by
  rw [← tob4 h]
  exact pack_ok w piece t h news
theorem ne_out {lo hi c : Addr} {l : List (Addr × Obj)} (h : ∀ p ∈ l, @LT.lt Nat _ p.1 lo ∨ @LT.lt Nat _ hi p.1) (h1 : @LE.le Nat _ lo c) (h2 : @LE.le Nat _ c hi) : ∀ p ∈ l, p.1 ≠ c := fun p hp q => by
  have := h p hp
  rw [q] at this
  rcases this with x | x
  · exact Nat.lt_irrefl _ (Nat.lt_of_lt_of_le x h1)
  · exact Nat.lt_irrefl _ (Nat.lt_of_lt_of_le x h2)
theorem perm4 {a b c d : Addr × Obj} {n l : List (Addr × Obj)} : ∀ p ∈ a :: b :: c :: d :: (n ++ l), p ∈ n ++ (a :: b :: c :: d :: l) := by
  intro p hp
  simp only [List.mem_cons, List.mem_append] at hp ⊢
  rcases hp with h | h | h | h | h | h <;> simp [h]
theorem out4 {L : Addr} {a b c d : Obj} {n l : List (Addr × Obj)} (l1 : ∀ p ∈ l, p.1 < L) (hA : Above n ((L + 1 + 1 + 1 + 1, a) :: (L + 1 + 1 + 1, b) :: (L + 1 + 1, c) :: (L + 1, d) :: l)) : ∀ p ∈ n ++ l, @LT.lt Nat _ p.1 (L + 1) ∨ @LT.lt Nat _ (L + 1 + 1 + 1 + 1) p.1 := by
  intro p hp
  rcases List.mem_append.mp hp with hp | hp
  · exact .inr (hA p hp _ (List.Mem.head _))
  · exact .inl (Nat.lt_succ_of_lt (l1 p hp))
theorem make_hit (w : World) (ra fh c' : Addr) (kv : Value) (key : List UInt8) (hkv : KeyIs kv key) (size block : Nat) (h1 : 1 ≤ size) (h2 : size ≤ 32) (h3 : size ≤ block) (h4 : block ≤ 64) (h5 : 16 ≤ block) (hb : key.length ≤ 1000) (news : List (Addr × Obj)) (HR : RowAt ra fh size block news) (HH : HashAt fh size news) (HM : MadeAt c' news) :
    ConU w 3 80 (.ref 61) [.ref ra, kv] news (MakesR fh (fun b c => b = news ∧ c = c') size block key news) := make_ok w ra fh kv key hkv size block h1 h2 h3 h4 h5 hb news HR HH _ (.inr ⟨c', HM, rfl, rfl⟩)
@[reducible] noncomputable def pbT9 : List Stmt := by
  refine (fun (l : List Stmt) (_ : (fdB 12).drop 6 = l) => l) ?l ?h
  rotate_left
  conv => lhs; whnf
section
local macro_rules | `(tactic| k_all) => `(tactic| exact ne_out (by assumption) (by omega) (by omega))
theorem ru37 : True := by
  k_with_none
  k_with "12 eval Name" => ((k_here; (first | (with_reducible show wpAny _ _ (eval (Expr.Name _ _) (envOf _ _ _ _ _)) _ _ _) | (with_reducible show wpAny _ _ (eval (Expr.Name _ _) (envOfC _ _ _ _ _)) _ _ _) | (with_reducible show wpAny _ _ (eval (Expr.Name _ _) (envX _ _ _ _ _ _)) _ _ _)); k_dflt (first
      | (refine' nameX_K ?F_0 ?X_0 ?T_0 ?e_0 ?_ ?a_0 ?b_0; (case b_0 => kernel_rfl!); (case a_0 => rfl); (case F_0 => k_asm); (case X_0 => k_asm); (case T_0 => k_asm); (case e_0 => k_is); k_whole)
      | (refine' nameX_L ?F_0 ?v_0 ?_ ?a_0 ?b_0; (case b_0 => kernel_rfl!); (case a_0 => rfl); (case F_0 => k_asm); (case v_0 => rfl); k_whole)
      | (refine' nameX_B ?F_0 ?X_0 ?T_0 ?e_0 ?v_0 ?n_0 ?_ ?a_0 ?b_0; (case b_0 => kernel_rfl!); (case a_0 => rfl); (case F_0 => k_asm); (case X_0 => k_asm); (case T_0 => k_asm); (case e_0 => k_is); (case v_0 => boot_fast); (case n_0 => decide); k_whole))))
  k_with "12 callWith ref" => ((k_here; (with_reducible show wpAny _ _ (callWith _ (Value.ref _) _ (backTo _ (starEach (_ :: _) _)) (backToKw _ _)) _ _ _); k_dflt (refine' callWith_KW ?k1_0 ?k2_0 ?k3_0 ?_; (case k1_0 => k_asm); (case k2_0 => k_is); (case k3_0 => exact rfl); k_whole)))
  k_with "1 eval Name" => ((k_here; k_dflt (refine' nameX_L ?zF_44 ?zv_44 ?_ ?za_44 ?zb_44; (case zb_44 => kernel_rfl!); (case zF_44 => k_asm); (case za_44 => rfl); (case zv_44 => first | with_reducible assumption | rfl | assumption); k_whole)))
  k_with "1 binaryOp FloorDiv int int" => ((k_here; k_dflt (refine r_fdivN (by omega) (by omega) (count_eq (by assumption) (by assumption)) ?_); intro _ _))
  k_with "1 binaryOp Add bytes bytes" => ((k_here; (refine' r_add ?hlen_44 ?_; (case hlen_44 => (show _ + 4 ≤ _; omega)); intro _ _)))
  k_with "1 CompSrc" => ((k_here; k_dflt (refine' comp_rb1 (n := (length - 1) / size + 1) (fun k => pieceF size pI pO salt rounds k) ?hh_44 ?F_44 ?N_44 ?hr_44 ?hb_44 ?sz_44 (fun i9 t9 I9 oI9 C9 oC9 D9 oD9 m9 h9 tk9 E9 hi9 hC9 hx9 F9 N9 off9 ne9 => ?_) (fun g9 ys9 hI9 D9 h9 tk9 F9 N9 o9 => ?_); (case hh_44 => rfl); (case F_44 => k_asm); (case N_44 => k_asm); (case hr_44 => assumption); (case hb_44 => rfl); (case sz_44 => omega))))
  k_with "1 EltEnd" => ((refine elt_end (by k_asm) (by k_asm) (fun p hp => hp) ⟨_, rfl⟩))
  k_with "1 callWith ref" => ((k_here; k_dflt (refine' callWith_F ?k1_44 ?_; (case k1_44 => exact hmac_fnAt (by k_asm) (by with_reducible assumption) (by (intro p hp; repeat (first | exact hp | refine List.Mem.tail _ ?_)))); k_whole)))
  k_with "1 FnAt" => ((k_dflt (exact hmac_fnAt (by k_asm) (by with_reducible assumption) (by (intro p hp; repeat (first | exact hp | refine List.Mem.tail _ ?_))))))
  k_with "4 call ref" => ((k_here; (with_reducible show wpAny _ _ (call (Value.ref _) [Value.bytes (List.toArray _) _]) _ _ _); refine' use_con (hmac_ok _ _ _ _ _ _ _ ?h1_44 ?h2_44 ?hi_44 ?ho_44 ?hb_44 _ ?hH_44) ?B_44 ?F_44 ?X_44 ?N_44 ?T_44 ?hk_44 ?hd_44 ?hu_44 ?_; (case N_44 => k_asm); (case hH_44 => exact HmacAt.sub (by with_reducible assumption) (by (intro p hp; repeat (first | exact hp | refine List.Mem.tail _ ?_)))); (case B_44 => k_asm); (case F_44 => k_asm); (case X_44 => k_asm); (case T_44 => k_asm); (case hk_44 => rfl); (case hd_44 => omega); (case hu_44 => omega); (case h1_44 => omega); (case h2_44 => omega); (case hi_44 => omega); (case ho_44 => omega); (case hb_44 => (rw [List.length_append]; show _ + 4 ≤ _; omega)); (intro r9 new9 h9 tk9 hR9 hA9 F9 N9; obtain ⟨hnew9, t9, hr9⟩ := hR9; subst hnew9; subst hr9; simp only [List.nil_append] at N9)))
  k_with "3 call ref" => ((k_here; (with_reducible show wpAny _ _ (call (Value.ref 76) [Value.int _ _]) _ _ _); refine' use_con (pack_num _ _ _ ?h1_44 _) ?B_44 ?F_44 ?X_44 ?N_44 ?T_44 ?hk_44 ?hd_44 ?hu_44 ?_; (case N_44 => k_asm); (case B_44 => k_asm); (case F_44 => k_asm); (case X_44 => k_asm); (case T_44 => k_asm); (case hk_44 => rfl); (case hd_44 => omega); (case hu_44 => omega); (case h1_44 => omega); (intro r9 new9 h9 tk9 hR9 hA9 F9 N9; obtain ⟨hnew9, t9, hr9⟩ := hR9; subst hnew9; subst hr9; simp only [List.nil_append] at N9)))
  k_with "2 call ref" => ((k_here; (with_reducible show wpAny _ _ (call (Value.ref 89) [Value.int _ _, Value.ref _, Value.bytes (List.toArray _) _, Value.int _ _]) _ _ _); refine' use_con (looper_ok _ _ _ _ _ _ _ _ _ _ ?h1_44 ?h2_44 ?hi_44 ?ho_44 ?hd0_44 ?hr1_44 ?hr2_44 _ ?hH_44) ?B_44 ?F_44 ?X_44 ?N_44 ?T_44 ?hk_44 ?hd_44 ?hu_44 ?_; (case N_44 => k_asm); (case hH_44 => exact HmacAt.sub (by with_reducible assumption) (by (intro p hp; repeat (first | exact hp | refine List.Mem.tail _ ?_)))); (case B_44 => k_asm); (case F_44 => k_asm); (case X_44 => k_asm); (case T_44 => k_asm); (case hk_44 => rfl); (case hd_44 => omega); (case hu_44 => omega); (case h1_44 => omega); (case h2_44 => omega); (case hi_44 => omega); (case ho_44 => omega); (case hd0_44 => exact codeF_length _ _ _ _); (case hr1_44 => omega); (case hr2_44 => omega); (intro r9 new9 h9 tk9 hR9 hA9 F9 N9; obtain ⟨hnew9, t9, hr9⟩ := hR9; subst hnew9; subst hr9; simp only [List.nil_append] at N9)))
  k_with "1 call ref" => ((k_here; (with_reducible show wpAny _ _ (call (Value.ref 61) [Value.ref _, Value.bytes (List.toArray _) _]) _ _ _); (rename News _ _ _ _ => lN9); refine' use_conU (make_hit w ra fh c' _ secret (.inl ⟨_, rfl⟩) size block ?h1_44 ?h2_44 ?h3_44 ?h4_44 ?h5_44 ?hb_44 _ ?hR_44 ?hH_44 ?hT_44) ?B_44 ?F_44 ?X_44 lN9 ?T_44 ?hk_44 ?hd_44 ?hu_44 ?_; (case B_44 => k_asm); (case F_44 => k_asm); (case X_44 => k_asm); (case T_44 => k_asm); (case hk_44 => rfl); (case hd_44 => omega); (case hu_44 => omega); (case h1_44 => omega); (case h2_44 => omega); (case h3_44 => omega); (case h4_44 => omega); (case h5_44 => omega); (case hb_44 => omega); (case hR_44 => exact RowAt.sub HR (by (intro p hp; repeat (first | exact hp | refine List.Mem.tail _ ?_)))); (case hH_44 => exact HashAt.sub HH (by (intro p hp; repeat (first | exact hp | refine List.Mem.tail _ ?_)))); (case hT_44 => exact MadeAt.sub HM (by (intro p hp; repeat (first | exact hp | refine List.Mem.tail _ ?_)))); (intro r9 post9 h9 tk9 hR9 F9 N9; obtain ⟨f9, c9, new9, base9, hr9, hp9, hA9, _, _, ⟨hb9, hc9⟩, hs9⟩ := hR9; subst hr9; subst hp9; subst hb9; subst hc9; have H9 := hs9 _ HH HM; rw [← hpI, ← hpO] at H9; clear hs9; replace N9 := news_sub N9 perm4; have l9 := out4 l1 hA9; clear lN9 hA9)))
  k_with "1 getMethod bytes" => ((k_here; (with_reducible refine m_join ?_)))
  k_with "1 call builtin:bytes.join" => ((k_here; k_dflt (refine r_join (by k_asm) (by k_mem) (by assumption) (pieces_small (by assumption) (by assumption)) ?_); intro t9 k9))
  k_with "1 subscriptTail" => ((k_here; (with_reducible show wpAny _ _ (subscriptTail _ _ (Value.bytes _ _) (Value.ref _)) _ _ _); k_dflt (refine r_cut (by k_asm) (by k_asm) (pieces_small (by assumption) (by assumption)) (by with_unfolding_all rfl) (by intro _; with_unfolding_all rfl) ?_); intro h9 t9 k9 F9 N9))
  trivial
theorem tailB (w : World) (ra fh c' : Addr) (secret salt pI pO : List UInt8) (t t1 t2 t3 t4 : Tok) (size block rounds length : Nat) (hpI : pI = padI size block secret) (hpO : pO = padO size block secret) (hi : pI.length ≤ 64) (ho : pO.length ≤ 64) (h1 : 1 ≤ size) (h2 : size ≤ 32) (h3 : size ≤ block) (h4 : block ≤ 64) (h5 : 16 ≤ block) (hb : secret.length ≤ 900) (hb2 : salt.length ≤ 900) (hr1 : 1 ≤ rounds) (hr2 : rounds ≤ 6) (hl1 : 1 ≤ length) (hl2 : length ≤ 900) (hcn : (length - 1) / size + 1 ≤ 900)
    (news : List (Addr × Obj)) (HR : RowAt ra fh size block news) (HH : HashAt fh size news) (HM : MadeAt c' news)
    (dp un : Nat) (gd : Option (List Code)) (outer : List Env) (A₀ : Around) (base g : Heap) (L' : Addr) (h₁ : Heap) (tk : Nat) (s : Shared) (p : Program) (loose : List Str) (mean : ExcName → Option Value) (mg mb : Str → Option Value) (m : Str → Option Value) (o1 o2 o3 o4 : Obj) (v1 : Option Value)
    (B : Below A₀ base outer g) (F : Fr g L' h₁ m) (hm1 : m (Str.ofString "digest") = some (.ref ra)) (hm2 : m (Str.ofString "secret") = some (.bytes secret.toArray t)) (hm3 : m (Str.ofString "keylen") = some (.int (length : Int) t1)) (X : (K w.params).In g) (N : News g L' h₁ ((L' + 1 + 1 + 1 + 1, o1) :: (L' + 1 + 1 + 1, o2) :: (L' + 1 + 1, o3) :: (L' + 1, o4) :: news)) (d1 : o1.data = .cell v1) (d2 : o2.data = .cell (some (.int (size : Int) t2))) (d3 : o3.data = .cell (some (.int (rounds : Int) t3))) (d4 : o4.data = .cell (some (.bytes salt.toArray t4)))
    (T : Top p loose mean mg mb g) (l1 : ∀ p ∈ news, p.1 < L') (hd : dp + 6 < recursionLimit) (hu : un + 123 < cLine) :
    wpAny (model pw w) (ktrTop dp un gd (Str.ofString "pbkdf2_hmac") fS12 L' 82 (.ref 81) (cellsFrom (L' + 1) fS12.names []) outer) (execs pbT9 (envOfC (Str.ofString "pbkdf2_hmac") fS12 L' 82 (.ref 81))) (EndsN g L' s news (fun r new => new = [] ∧ ∃ tc, r = .bytes ((piecesF size pI pO salt rounds ((length - 1) / size + 1)).take length).toArray tc)) (fun _ _ => False) { s with heap := h₁, toks := tk } := by
  show wpAny _ _ _ _ _ _
  k_fold
  k_steps
  · show EndsN _ _ _ _ _ _ _
    refine ends_ret (by k_asm) (by k_asm) ?_ ⟨_, rfl⟩
    intro p hp
    exact List.Mem.tail _ (List.Mem.tail _ (List.Mem.tail _ (List.Mem.tail _ (List.Mem.tail _ (List.mem_append_right _ hp)))))
end
end Mine
end
-- E3
section
open PySem PySem.W PySem.Spec PySem.Calls PyProof.Rows PyProof.Rows.LCg
set_option maxRecDepth 100000
set_option maxHeartbeats 1000000
set_option linter.unusedVariables false
namespace Mine
theorem ru40 : True := by
  k_with_none
  k_with "12 eval Name" => ((k_here; (first | (with_reducible show wpAny _ _ (eval (Expr.Name _ _) (envOf _ _ _ _ _)) _ _ _) | (with_reducible show wpAny _ _ (eval (Expr.Name _ _) (envOfC _ _ _ _ _)) _ _ _) | (with_reducible show wpAny _ _ (eval (Expr.Name _ _) (envX _ _ _ _ _ _)) _ _ _)); k_dflt (first
      | (refine' nameX_K ?F_0 ?X_0 ?T_0 ?e_0 ?_ ?a_0 ?b_0; (case b_0 => kernel_rfl!); (case a_0 => rfl); (case F_0 => k_asm); (case X_0 => k_asm); (case T_0 => k_asm); (case e_0 => k_is); k_whole)
      | (refine' nameX_L ?F_0 ?v_0 ?_ ?a_0 ?b_0; (case b_0 => kernel_rfl!); (case a_0 => rfl); (case F_0 => k_asm); (case v_0 => rfl); k_whole)
      | (refine' nameX_B ?F_0 ?X_0 ?T_0 ?e_0 ?v_0 ?n_0 ?_ ?a_0 ?b_0; (case b_0 => kernel_rfl!); (case a_0 => rfl); (case F_0 => k_asm); (case X_0 => k_asm); (case T_0 => k_asm); (case e_0 => k_is); (case v_0 => boot_fast); (case n_0 => decide); k_whole))))
  k_with "12 callWith ref" => ((k_here; (with_reducible show wpAny _ _ (callWith _ (Value.ref _) _ (backTo _ (starEach (_ :: _) _)) (backToKw _ _)) _ _ _); k_dflt (refine' callWith_KW ?k1_0 ?k2_0 ?k3_0 ?_; (case k1_0 => k_asm); (case k2_0 => k_is); (case k3_0 => exact rfl); k_whole)))
  trivial
theorem padI_len {size block : Nat} {key : List UInt8} (h3 : size ≤ block) : (padI size block key).length = block := by unfold padI; rw [List.length_map, filled_len h3]
theorem padO_len {size block : Nat} {key : List UInt8} (h3 : size ≤ block) : (padO size block key).length = block := by unfold padO; rw [List.length_map, filled_len h3]
section
local macro_rules | `(tactic| k_all) => `(tactic| exact ne_of_lts (by assumption) (by omega))
theorem ru39 : True := by
  k_with_none
  k_with "12 eval Name" => ((k_here; (first | (with_reducible show wpAny _ _ (eval (Expr.Name _ _) (envOf _ _ _ _ _)) _ _ _) | (with_reducible show wpAny _ _ (eval (Expr.Name _ _) (envOfC _ _ _ _ _)) _ _ _) | (with_reducible show wpAny _ _ (eval (Expr.Name _ _) (envX _ _ _ _ _ _)) _ _ _)); k_dflt (first
      | (refine' nameX_K ?F_0 ?X_0 ?T_0 ?e_0 ?_ ?a_0 ?b_0; (case b_0 => kernel_rfl!); (case a_0 => rfl); (case F_0 => k_asm); (case X_0 => k_asm); (case T_0 => k_asm); (case e_0 => k_is); k_whole)
      | (refine' nameX_L ?F_0 ?v_0 ?_ ?a_0 ?b_0; (case b_0 => kernel_rfl!); (case a_0 => rfl); (case F_0 => k_asm); (case v_0 => rfl); k_whole)
      | (refine' nameX_B ?F_0 ?X_0 ?T_0 ?e_0 ?v_0 ?n_0 ?_ ?a_0 ?b_0; (case b_0 => kernel_rfl!); (case a_0 => rfl); (case F_0 => k_asm); (case X_0 => k_asm); (case T_0 => k_asm); (case e_0 => k_is); (case v_0 => boot_fast); (case n_0 => decide); k_whole))))
  k_with "12 callWith ref" => ((k_here; (with_reducible show wpAny _ _ (callWith _ (Value.ref _) _ (backTo _ (starEach (_ :: _) _)) (backToKw _ _)) _ _ _); k_dflt (refine' callWith_KW ?k1_0 ?k2_0 ?k3_0 ?_; (case k1_0 => k_asm); (case k2_0 => k_is); (case k3_0 => exact rfl); k_whole)))
  k_with "1 execs cons" => ((k_here; (with_reducible show wpAny _ _ (execs (Stmt.Assign [Expr.Name (Str.ofString "block_count") _] _ _ :: _) _) _ _ _); refine hold ?_))
  k_with "1 subscriptTail" => ((k_here; (with_reducible show wpAny _ _ (subscriptTail _ _ (Value.ref _) (Value.int 1 _)) _ _ _); k_dflt (refine r_row1 (by k_asm) (by (repeat (first | assumption | refine List.Mem.tail _ ?_))) (by with_unfolding_all rfl) ?_)))
  k_with "1 call ref" => ((k_here; (with_reducible show wpAny _ _ (call (Value.ref 36) [_] _) _ _ _); refine' use_conKw (bytes_of _ _ _ ?hK_45 ?hz_45 _ _ _) ?B_45 ?F_45 ?X_45 ?N_45 ?T_45 ?hk_45 ?hd_45 ?hu_45 ?_; (case hK_45 => with_reducible assumption); (case hz_45 => omega); (case N_45 => k_asm); (case B_45 => k_asm); (case F_45 => k_asm); (case X_45 => k_asm); (case T_45 => k_asm); (case hk_45 => rfl); (case hd_45 => omega); (case hu_45 => omega); (intro r9 new9 h9 tk9 hR9 hA9 F9 N9; obtain ⟨hnew9, t9, hr9⟩ := hR9; subst hnew9; subst hr9; simp only [List.nil_append] at N9)))
  trivial
theorem pb2_body (w : World) (ra fh c' : Addr) (sv tv kv : Value) (secret salt : List UInt8) (hsv : KeyIs sv secret) (htv : KeyIs tv salt) (t : Tok) (size block rounds length : Nat) (hkv : LenIs kv size length) (h1 : 1 ≤ size) (h2 : size ≤ 32) (h3 : size ≤ block) (h4 : block ≤ 64) (h5 : 16 ≤ block) (hb : secret.length ≤ 900) (hb2 : salt.length ≤ 900) (hr1 : 1 ≤ rounds) (hr2 : rounds ≤ 6) (hl1 : 1 ≤ length) (hl2 : length ≤ 890)
    (news : List (Addr × Obj)) (HR : RowAt ra fh size block news) (HH : HashAt fh size news) (HM : MadeAt c' news) :
    BodyC w 6 127 (Str.ofString "pbkdf2_hmac") fS12 82 (.ref 81) fB12 [(Str.ofString "digest", .ref ra), (Str.ofString "secret", sv), (Str.ofString "salt", tv), (Str.ofString "rounds", .int (rounds : Int) t), (Str.ofString "keylen", kv)] news (fun r new => new = [] ∧ ∃ tc, r = .bytes ((piecesF size (padI size block secret) (padO size block secret) salt rounds ((length - 1) / size + 1)).take length).toArray tc) := by
  intro dp un gd outer A₀ base g L' h₁ tk s p loose mean mg mb cells B F X N Y T l1 hd hu
  have HR2 := HR
  obtain ⟨t1, t2, HR2⟩ := HR2
  have hcn : (length - 1) / size + 1 ≤ 900 := by have := Nat.div_le_self (length - 1) size; omega
  k_cells Y
  (try simp only [List.cons_append, List.nil_append] at N)
  (try dsimp only)
  rcases hkv with ⟨hkk, hll⟩ | ⟨t3, hkk⟩
  all_goals (
    subst hkk
    show wpAny _ _ _ _ _ _
    k_fold
    k_steps)
  all_goals (
    show wpAny _ _ _ _ _ _
    rename Fr _ _ _ _ => F9
    rename News _ _ _ _ => N9
    refine' tailB w ra fh c' secret salt _ _ _ _ _ _ _ size block rounds length rfl rfl (by rw [padI_len h3]; exact h4) (by rw [padO_len h3]; exact h4) h1 h2 h3 h4 h5 hb hb2 hr1 hr2 hl1 (by omega) hcn news HR HH HM dp un gd outer A₀ base g L' _ _ s p loose mean mg mb _ _ _ _ _ _ B F9 ?hm1 ?hm2 ?hm3 X N9 (by assumption) (by assumption) (by assumption) (by assumption) T l1 (by omega) (by omega)
    (case hm1 => exact rfl)
    (case hm2 => exact rfl)
    (case hm3 => first | exact rfl | (rw [hll]; exact rfl)))
theorem pb2_ok (w : World) (ra fh c' : Addr) (sv tv : Value) (secret salt : List UInt8) (hsv : KeyIs sv secret) (htv : KeyIs tv salt) (t t' : Tok) (size block rounds length : Nat) (h1 : 1 ≤ size) (h2 : size ≤ 32) (h3 : size ≤ block) (h4 : block ≤ 64) (h5 : 16 ≤ block) (hb : secret.length ≤ 900) (hb2 : salt.length ≤ 900) (hr1 : 1 ≤ rounds) (hr2 : rounds ≤ 6) (hl1 : 1 ≤ length) (hl2 : length ≤ 890)
    (news : List (Addr × Obj)) (HR : RowAt ra fh size block news) (HH : HashAt fh size news) (HM : MadeAt c' news) :
    Con w 7 130 (.ref 82) [.ref ra, sv, tv, .int (rounds : Int) t, .int (length : Int) t'] news (fun r => ∃ tc, r = .bytes ((piecesF size (padI size block secret) (padO size block secret) salt rounds ((length - 1) / size + 1)).take length).toArray tc) := by
  refine' con_ofC (binds := [(Str.ofString "digest", .ref ra), (Str.ofString "secret", sv), (Str.ofString "salt", tv), (Str.ofString "rounds", .int (rounds : Int) t), (Str.ofString "keylen", .int (length : Int) t')]) ?qo ?qcd ?qbind ?qkind ?qnd ?q1 ?q2 ?q3 ?_
  case qo => k_is
  case qcd => k_is
  case qbind => exact fun s X => by first | exact BindsTo.of_eq rfl | exact binds_K (by k_in) rfl (by k_is) rfl rfl rfl
  case qkind => exact rfl
  case qnd => decide +kernel
  case q1 => exact rfl
  case q2 => exact rfl
  case q3 => exact rfl
  exact pb2_body w ra fh c' sv tv _ secret salt hsv htv t size block rounds length (.inr ⟨t', rfl⟩) h1 h2 h3 h4 h5 hb hb2 hr1 hr2 hl1 hl2 news HR HH HM
theorem pb2_def (w : World) (ra fh c' : Addr) (sv tv : Value) (secret salt : List UInt8) (hsv : KeyIs sv secret) (htv : KeyIs tv salt) (t : Tok) (size block rounds : Nat) (h1 : 1 ≤ size) (h2 : size ≤ 32) (h3 : size ≤ block) (h4 : block ≤ 64) (h5 : 16 ≤ block) (hb : secret.length ≤ 900) (hb2 : salt.length ≤ 900) (hr1 : 1 ≤ rounds) (hr2 : rounds ≤ 6)
    (news : List (Addr × Obj)) (HR : RowAt ra fh size block news) (HH : HashAt fh size news) (HM : MadeAt c' news) :
    Con w 7 130 (.ref 82) [.ref ra, sv, tv, .int (rounds : Int) t] news (fun r => ∃ tc, r = .bytes ((piecesF size (padI size block secret) (padO size block secret) salt rounds ((size - 1) / size + 1)).take size).toArray tc) := by
  refine' con_ofC (binds := [(Str.ofString "digest", .ref ra), (Str.ofString "secret", sv), (Str.ofString "salt", tv), (Str.ofString "rounds", .int (rounds : Int) t), (Str.ofString "keylen", .none)]) ?qo ?qcd ?qbind ?qkind ?qnd ?q1 ?q2 ?q3 ?_
  case qo => k_is
  case qcd => k_is
  case qbind => exact fun s X => by first | exact BindsTo.of_eq rfl | exact binds_K (by k_in) rfl (by k_is) rfl rfl rfl
  case qkind => exact rfl
  case qnd => decide +kernel
  case q1 => exact rfl
  case q2 => exact rfl
  case q3 => exact rfl
  exact pb2_body w ra fh c' sv tv _ secret salt hsv htv t size block rounds size (.inl ⟨rfl, rfl⟩) h1 h2 h3 h4 h5 hb hb2 hr1 hr2 h1 (by omega) news HR HH HM
end
end Mine
end
-- E4
section
open PySem PySem.W PySem.Spec PySem.Calls PyProof.Rows PyProof.Rows.LCg
set_option maxRecDepth 100000
set_option maxHeartbeats 1000000
set_option linter.unusedVariables false
namespace Mine
theorem ru42 : True := by
  k_with_none
  k_with "12 eval Name" => ((k_here; (first | (with_reducible show wpAny _ _ (eval (Expr.Name _ _) (envOf _ _ _ _ _)) _ _ _) | (with_reducible show wpAny _ _ (eval (Expr.Name _ _) (envOfC _ _ _ _ _)) _ _ _) | (with_reducible show wpAny _ _ (eval (Expr.Name _ _) (envX _ _ _ _ _ _)) _ _ _)); k_dflt (first
      | (refine' nameX_K ?F_0 ?X_0 ?T_0 ?e_0 ?_ ?a_0 ?b_0; (case b_0 => kernel_rfl!); (case a_0 => rfl); (case F_0 => k_asm); (case X_0 => k_asm); (case T_0 => k_asm); (case e_0 => k_is); k_whole)
      | (refine' nameX_L ?F_0 ?v_0 ?_ ?a_0 ?b_0; (case b_0 => kernel_rfl!); (case a_0 => rfl); (case F_0 => k_asm); (case v_0 => rfl); k_whole)
      | (refine' nameX_B ?F_0 ?X_0 ?T_0 ?e_0 ?v_0 ?n_0 ?_ ?a_0 ?b_0; (case b_0 => kernel_rfl!); (case a_0 => rfl); (case F_0 => k_asm); (case X_0 => k_asm); (case T_0 => k_asm); (case e_0 => k_is); (case v_0 => boot_fast); (case n_0 => decide); k_whole))))
  k_with "12 callWith ref" => ((k_here; (with_reducible show wpAny _ _ (callWith _ (Value.ref _) _ (backTo _ (starEach (_ :: _) _)) (backToKw _ _)) _ _ _); k_dflt (refine' callWith_KW ?k1_0 ?k2_0 ?k3_0 ?_; (case k1_0 => k_asm); (case k2_0 => k_is); (case k3_0 => exact rfl); k_whole)))
  trivial
section
theorem ru41 : True := by
  k_with_none
  k_with "12 eval Name" => ((k_here; (first | (with_reducible show wpAny _ _ (eval (Expr.Name _ _) (envOf _ _ _ _ _)) _ _ _) | (with_reducible show wpAny _ _ (eval (Expr.Name _ _) (envOfC _ _ _ _ _)) _ _ _) | (with_reducible show wpAny _ _ (eval (Expr.Name _ _) (envX _ _ _ _ _ _)) _ _ _)); k_dflt (first
      | (refine' nameX_K ?F_0 ?X_0 ?T_0 ?e_0 ?_ ?a_0 ?b_0; (case b_0 => kernel_rfl!); (case a_0 => rfl); (case F_0 => k_asm); (case X_0 => k_asm); (case T_0 => k_asm); (case e_0 => k_is); k_whole)
      | (refine' nameX_L ?F_0 ?v_0 ?_ ?a_0 ?b_0; (case b_0 => kernel_rfl!); (case a_0 => rfl); (case F_0 => k_asm); (case v_0 => rfl); k_whole)
      | (refine' nameX_B ?F_0 ?X_0 ?T_0 ?e_0 ?v_0 ?n_0 ?_ ?a_0 ?b_0; (case b_0 => kernel_rfl!); (case a_0 => rfl); (case F_0 => k_asm); (case X_0 => k_asm); (case T_0 => k_asm); (case e_0 => k_is); (case v_0 => boot_fast); (case n_0 => decide); k_whole))))
  k_with "12 callWith ref" => ((k_here; (with_reducible show wpAny _ _ (callWith _ (Value.ref _) _ (backTo _ (starEach (_ :: _) _)) (backToKw _ _)) _ _ _); k_dflt (refine' callWith_KW ?k1_0 ?k2_0 ?k3_0 ?_; (case k1_0 => k_asm); (case k2_0 => k_is); (case k3_0 => exact rfl); k_whole)))
  k_with "1 my hashes" => ((k_here; (rename Fr _ _ _ _ => lF9); (rename News _ _ _ _ => lN9); (rename IsRange _ _ _ _ _ _ _ _ => rg9); (with_unfolding_all refine' range_invG (n := rounds) (J1 (Str.ofString "_") (Str.ofString "block") _ _ (fun j => hashes size j (secret ++ salt))) (by rfl) rg9 ?sm9_46 ?rs9_46 lF9 lN9 ⟨rfl, ⟨_, rfl⟩, fun z _ _ => rfl⟩ (fun i9 t9 m9 nx9 h9 tk9 I9 oI9 hi9 hj9 ho9 F9 N9 => ?_) (fun m9 nx9 h9 tk9 hj9 F9 N9 => ?_)); (case sm9_46 => exact small_one (by omega) (by omega) (by omega) (by omega)); (case rs9_46 => exact range_n); (all_goals (obtain ⟨rfl, ⟨tc9, hc9⟩, hz9⟩ := hj9)); (all_goals (first | rw [map_one hc9 hz9] at F9 | rw [← done_one hc9 hz9] at F9)); (all_goals clear lF9 lN9)))
  k_with "1 pyIter ref" => (((with_reducible show wpAny _ _ (pyIter (Value.ref _)) (fun it s₂ => LoopAtV _ _ _ _ _ _ _ _ _ it s₂) _ _); k_dflt walk_at "my hashes"))
  k_with "1 exec For Name Call cons nil" => ((k_here; (rename Fr _ _ _ _ => lF'); (with_unfolding_all refine' For_invVF lF' ?k1_46 ?k2_46 ?_; (case k1_46 => exact rfl); (case k2_46 => exact rfl); k_whole)))
  k_with "1 assign Tuple" => ((k_here; k_dflt (refine' unpackN_ ?k1_46 ?k2_46 ?k3_46 ?k4_46 ?k5_46 ?k6_46 ?_; (case k1_46 => k_asm); (case k2_46 => k_asm); (case k3_46 => exact News.isTup (by k_asm) (by (repeat (first | assumption | refine List.Mem.tail _ ?_)))); (case k4_46 => exact rfl); (case k5_46 => exact rfl); (case k6_46 => exact rfl); k_whole); intro h' F' N'; (try k_sweep)))
  k_with "1 callWith ref" => ((k_here; k_dflt (refine' callWith_F ?k1_46 ?_; (case k1_46 => exact hash_fnAt (by k_asm) (by with_reducible assumption) (by (intro p hp; repeat (first | exact hp | refine List.Mem.tail _ ?_)))); k_whole)))
  k_with "1 FnAt" => ((k_dflt (exact hash_fnAt (by k_asm) (by with_reducible assumption) (by (intro p hp; repeat (first | exact hp | refine List.Mem.tail _ ?_))))))
  k_with "2 call ref" => ((k_here; (with_reducible show wpAny _ _ (call (Value.ref _) [_]) _ _ _); k_dflt (show wpAny _ _ (call (Value.ref _) [Value.bytes (List.toArray _) _]) _ _ _); refine' use_con (hash_fn _ _ _ _ _ ?h1_46 ?h2_46 ?hb_46 _ ?hH_46) ?B_46 ?F_46 ?X_46 ?N_46 ?T_46 ?hk_46 ?hd_46 ?hu_46 ?_; (case N_46 => k_asm); (case hH_46 => exact HashAt.sub (by with_reducible assumption) (by (intro p hp; repeat (first | exact hp | refine List.Mem.tail _ ?_)))); (case B_46 => k_asm); (case F_46 => k_asm); (case X_46 => k_asm); (case T_46 => k_asm); (case hk_46 => rfl); (case hd_46 => omega); (case hu_46 => omega); (case h1_46 => omega); (case h2_46 => omega); (case hb_46 => exact Nat.le_trans (hashes_len (by omega) (by rw [List.length_append]; omega)) (by omega)); (intro r9 new9 h9 tk9 hR9 hA9 F9 N9; obtain ⟨hnew9, t9, hr9⟩ := hR9; subst hnew9; subst hr9; simp only [List.nil_append] at N9)))
  k_with "1 call ref" => ((k_here; (with_reducible show wpAny _ _ (call (Value.ref 36) [_] _) _ _ _); refine' use_conKw (bytes_of _ _ _ ?hK_46 ?hz_46 _ _ _) ?B_46 ?F_46 ?X_46 ?N_46 ?T_46 ?hk_46 ?hd_46 ?hu_46 ?_; (case hK_46 => with_reducible assumption); (case hz_46 => omega); (case N_46 => k_asm); (case B_46 => k_asm); (case F_46 => k_asm); (case X_46 => k_asm); (case T_46 => k_asm); (case hk_46 => rfl); (case hd_46 => omega); (case hu_46 => omega); (intro r9 new9 h9 tk9 hR9 hA9 F9 N9; obtain ⟨hnew9, t9, hr9⟩ := hR9; subst hnew9; subst hr9; simp only [List.nil_append] at N9)))
  k_with "1 binaryOp Add bytes bytes" => ((k_here; (refine' r_add ?hlen_46 ?_; (case hlen_46 => omega); intro _ _)))
  k_with "1 subscriptTail" => ((k_here; (with_reducible show wpAny _ _ (subscriptTail _ _ (Value.bytes _ _) (Value.ref _)) _ _ _); k_dflt (refine r_cut (by k_asm) (by k_asm) (Nat.le_trans (hashes_len (by omega) (by rw [List.length_append]; omega)) (by omega)) (by with_unfolding_all rfl) (by intro _; with_unfolding_all rfl) ?_); intro h9 t9 k9 F9 N9))
  trivial
theorem pb1_body (w : World) (ra fh : Addr) (sv tv kv : Value) (secret salt : List UInt8) (hsv : KeyIs sv secret) (htv : KeyIs tv salt) (t : Tok) (size block rounds length : Nat) (hkv : LenIs kv size length) (h1 : 1 ≤ size) (h2 : size ≤ 32) (hs : secret.length ≤ 300) (hm : salt.length ≤ 300) (hr1 : 1 ≤ rounds) (hr2 : rounds ≤ 6) (hl2 : length ≤ size)
    (news : List (Addr × Obj)) (HR : RowAt ra fh size block news) (HH : HashAt fh size news) :
    BodyN w 4 97 (Str.ofString "pbkdf1") fS10 69 (.ref 68) fB10 [(Str.ofString "digest", .ref ra), (Str.ofString "secret", sv), (Str.ofString "salt", tv), (Str.ofString "rounds", .int (rounds : Int) t), (Str.ofString "keylen", kv)] news (fun r new => new = [] ∧ ∃ tc, r = .bytes ((hashes size rounds (secret ++ salt)).take length).toArray tc) := by
  intro dp un gd outer A₀ base g L' h₁ tk s p loose mean mg mb B F X N T hd hu
  have HR2 := HR
  obtain ⟨t1, t2, HR2⟩ := HR2
  rcases hkv with ⟨hkk, hll⟩ | ⟨t3, hkk⟩
  all_goals (
    subst hkk
    show wpAny _ _ _ _ _ _
    k_fold
    k_steps)
  all_goals first
    | (show TurnEnd _ _ _ _ _ _ _
       rename Fr _ _ _ _ => F0
       rename News _ _ _ _ => N0
       refine' turn_end _ F0 N0 ?hs (by assumption) ⟨rfl, ⟨_, rfl⟩, fun z h1 h2 => by simp [h1, h2]⟩
       case hs => (intro p hp; (repeat (first | exact hp | refine List.Mem.tail _ ?_))))
    | (show EndsN _ _ _ _ _ _ _
       (try rw [hll])
       refine ends_ret (by k_asm) (by k_asm) ?_ ⟨_, rfl⟩
       intro p hp; (repeat (first | exact hp | refine List.Mem.tail _ ?_)))
theorem pb1_ok (w : World) (ra fh : Addr) (sv tv : Value) (secret salt : List UInt8) (hsv : KeyIs sv secret) (htv : KeyIs tv salt) (t t' : Tok) (size block rounds length : Nat) (h1 : 1 ≤ size) (h2 : size ≤ 32) (hs : secret.length ≤ 300) (hm : salt.length ≤ 300) (hr1 : 1 ≤ rounds) (hr2 : rounds ≤ 6) (hl2 : length ≤ size)
    (news : List (Addr × Obj)) (HR : RowAt ra fh size block news) (HH : HashAt fh size news) :
    Con w 5 100 (.ref 69) [.ref ra, sv, tv, .int (rounds : Int) t, .int (length : Int) t'] news (fun r => ∃ tc, r = .bytes ((hashes size rounds (secret ++ salt)).take length).toArray tc) := by
  refine' con_of (binds := [(Str.ofString "digest", .ref ra), (Str.ofString "secret", sv), (Str.ofString "salt", tv), (Str.ofString "rounds", .int (rounds : Int) t), (Str.ofString "keylen", .int (length : Int) t')]) ?qo ?qcd ?qbind ?qloc ?q1 ?q2 ?q3 ?q4 ?_
  case qo => k_is
  case qcd => k_is
  case qbind => exact fun s X => by first | exact BindsTo.of_eq rfl | exact binds_K (by k_in) rfl (by k_is) rfl rfl rfl
  case qloc => exact locs rfl
  case q1 => exact rfl
  case q2 => exact rfl
  case q3 => exact rfl
  case q4 => decide
  exact pb1_body w ra fh sv tv _ secret salt hsv htv t size block rounds length (.inr ⟨t', rfl⟩) h1 h2 hs hm hr1 hr2 hl2 news HR HH
theorem pb1_def (w : World) (ra fh : Addr) (sv tv : Value) (secret salt : List UInt8) (hsv : KeyIs sv secret) (htv : KeyIs tv salt) (t : Tok) (size block rounds : Nat) (h1 : 1 ≤ size) (h2 : size ≤ 32) (hs : secret.length ≤ 300) (hm : salt.length ≤ 300) (hr1 : 1 ≤ rounds) (hr2 : rounds ≤ 6)
    (news : List (Addr × Obj)) (HR : RowAt ra fh size block news) (HH : HashAt fh size news) :
    Con w 5 100 (.ref 69) [.ref ra, sv, tv, .int (rounds : Int) t] news (fun r => ∃ tc, r = .bytes ((hashes size rounds (secret ++ salt)).take size).toArray tc) := by
  refine' con_of (binds := [(Str.ofString "digest", .ref ra), (Str.ofString "secret", sv), (Str.ofString "salt", tv), (Str.ofString "rounds", .int (rounds : Int) t), (Str.ofString "keylen", .none)]) ?qo ?qcd ?qbind ?qloc ?q1 ?q2 ?q3 ?q4 ?_
  case qo => k_is
  case qcd => k_is
  case qbind => exact fun s X => by first | exact BindsTo.of_eq rfl | exact binds_K (by k_in) rfl (by k_is) rfl rfl rfl
  case qloc => exact locs rfl
  case q1 => exact rfl
  case q2 => exact rfl
  case q3 => exact rfl
  case q4 => decide
  exact pb1_body w ra fh sv tv _ secret salt hsv htv t size block rounds size (.inl ⟨rfl, rfl⟩) h1 h2 hs hm hr1 hr2 (Nat.le_refl _) news HR HH
end
end Mine
end
-- F0
section
open PySem PySem.W PySem.Spec PySem.Calls PyProof.Rows
set_option maxRecDepth 100000
set_option maxHeartbeats 4000000
set_option linter.unusedVariables false
namespace Mine
theorem ru43 : True := by
  k_with_none
  k_with "12 eval Name" => ((k_here; (first | (with_reducible show wpAny _ _ (eval (Expr.Name _ _) (envOf _ _ _ _ _)) _ _ _) | (with_reducible show wpAny _ _ (eval (Expr.Name _ _) (envOfC _ _ _ _ _)) _ _ _) | (with_reducible show wpAny _ _ (eval (Expr.Name _ _) (envX _ _ _ _ _ _)) _ _ _)); k_dflt (first
      | (refine' nameX_K ?F_0 ?X_0 ?T_0 ?e_0 ?_ ?a_0 ?b_0; (case b_0 => kernel_rfl!); (case a_0 => rfl); (case F_0 => k_asm); (case X_0 => k_asm); (case T_0 => k_asm); (case e_0 => k_is); k_whole)
      | (refine' nameX_L ?F_0 ?v_0 ?_ ?a_0 ?b_0; (case b_0 => kernel_rfl!); (case a_0 => rfl); (case F_0 => k_asm); (case v_0 => rfl); k_whole)
      | (refine' nameX_B ?F_0 ?X_0 ?T_0 ?e_0 ?v_0 ?n_0 ?_ ?a_0 ?b_0; (case b_0 => kernel_rfl!); (case a_0 => rfl); (case F_0 => k_asm); (case X_0 => k_asm); (case T_0 => k_asm); (case e_0 => k_is); (case v_0 => boot_fast); (case n_0 => decide); k_whole))))
  k_with "12 callWith ref" => ((k_here; (with_reducible show wpAny _ _ (callWith _ (Value.ref _) _ (backTo _ (starEach (_ :: _) _)) (backToKw _ _)) _ _ _); k_dflt (refine' callWith_KW ?k1_0 ?k2_0 ?k3_0 ?_; (case k1_0 => k_asm); (case k2_0 => k_is); (case k3_0 => exact rfl); k_whole)))
  trivial
theorem mem_frames {env : Env} {L b : Addr} {outer : List Env} (hf : env.frame = some L) (hm : b ∈ (env :: outer).filterMap (·.frame)) : b = L ∨ b ∈ outer.filterMap (·.frame) := by
  obtain ⟨e, he, h⟩ := List.mem_filterMap.mp hm
  rcases List.mem_cons.mp he with rfl | he
  · rw [hf] at h; exact .inl (Option.some.inj h).symm
  · exact .inr (List.mem_filterMap.mpr ⟨e, he, h⟩)
section
variable {M : Model} {A : Around} {E : Value → Shared → Prop} {s' : Shared} {base g g₂ h : Heap} {outer : List Env} {L e : Addr} {m : Str → Option Value} {env : Env} {Q : Unit → Shared → Prop} {news : List (Addr × Obj)}
/-- as leave_newS, of any frame -/
theorem leave_newX {cls : String} (K : Below A base outer g) (hf : env.frame = some L) (hk : env.scope.kind = .function) (hx : Heap.NewExc h s'.heap e cls) (F : Fr g L h m) (N : News g L h news)
    (hQ : ∀ h', RaisedSN base g outer e (.type cls) news h' → g.UpToSlots h' → Q () { s' with heap := h' }) : wpAny M (A.deeper env) (leaving env (.ref e)) Q E s' := by
  have K' : Below (A.deeper env) base (env :: outer) h := pushX K F hf hk
  have hin : ∀ e' ∈ (env :: outer), ∀ b, e'.frame = some b → b ∈ (env :: outer).filterMap (·.frame) := fun e' he b hb => List.mem_filterMap.mpr ⟨e', he, hb⟩
  have st : base.StaysIn (hideAll h ((env :: outer).filterMap (·.frame))) := fun b o q => hideAll_get _ (K'.stays b o q) fun hm => by
    rw [(K'.frames.mem hm).1] at q; cases q
  have sg : ∀ b o, g.get? b = some o → b ∉ outer.filterMap (·.frame) → (hideAll h ((env :: outer).filterMap (·.frame))).get? b = some o := fun b o q nm => hideAll_get _ (F.keep b o q) fun hm => by
    rcases mem_frames hf hm with z | z
    · rw [z, kts_self F] at q
      cases q
    · exact nm z
  have hl : ∀ q ∈ news, (hideAll h ((env :: outer).filterMap (·.frame))).get? q.1 = some q.2 ∧ g.get? q.1 = none ∧ base.get? q.1 = none := fun q hq => by
    refine ⟨hideAll_get _ (N q hq).1 fun hm => ?_, (N q hq).2.2, fresh_of_stays K.stays (N q hq).2.2⟩
    rcases mem_frames hf hm with z | z
    · exact (N q hq).2.1 z
    · obtain ⟨o, ho, _⟩ := (K.frames.mem z).2
      rw [(N q hq).2.2] at ho; cases ho
  obtain ⟨ob, tp, he, hcls, hd⟩ := hx.there
  have hen : (hideAll h ((env :: outer).filterMap (·.frame))).get? e = none := by
    cases q : (hideAll h ((env :: outer).filterMap (·.frame))).get? e with
    | none => rfl
    | some o => have := of_hideAll _ q; rw [hx.new] at this; cases this
  refine wpAny_leaving_firstW (a0 := tp) K'.stack ((funFrames_hide K'.frames hin).of_keeps fun b o hb _ => ⟨o, hx.keeps b o hb, rfl⟩) hf he (fun b o hb => hx.keeps b o (of_hideAll _ hb)) hen hd rfl rfl fun h' hL => ?_
  obtain ⟨k1, ⟨_, _, k2⟩, k3, k4⟩ := hL
  exact hQ h' ⟨_, tp, st, sg, hl, k1, hen, k2, by rw [← hcls]; exact k3⟩ (((Heap.UpToSlots.of_keeps F.keep).trans (Heap.UpToSlots.of_keeps hx.keeps)).trans k4)
theorem leave_onX {cls : Value} (K : Below A base outer g) (hf : env.frame = some L) (F : Fr g L g₂ m) (R : RaisedSN base g₂ (env :: outer) e cls news s'.heap) (hsm : g₂.UpToSlots s'.heap)
    (hQ : ∀ h', RaisedSN base g outer e cls news h' → g.UpToSlots h' → Q () { s' with heap := h' }) : wpAny M (A.deeper env) (leaving env (.ref e)) Q E s' := by
  obtain ⟨B, a0, hB, hBG, hl, hfl⟩ := R
  exact wpAny_leaves_onW (Around.frames_deeper K.stack) hf hfl fun h' x1 x2 =>
    hQ h' ⟨B, a0, hB, fun b o q nm => hBG b o (F.keep b o q) (fun hm => by
      rcases mem_frames hf hm with z | z
      · rw [z, kts_self F] at q
        cases q
      · exact nm z), fun q hq => ⟨(hl q hq).1, kts_none F.keep (hl q hq).2.1, (hl q hq).2.2⟩, x1⟩ ((Heap.UpToSlots.of_keeps F.keep).trans (hsm.trans x2))
end
/-- an exception of cls has come up to the frame L of l, thrown by a callee -/
noncomputable def Up9 (base h₀ : Heap) (L : Addr) (m : Str → Option Value) (l : List Env) (cls : String) (news : List (Addr × Obj)) (e : Addr) (h' : Heap) : Prop := ∃ G, Fr h₀ L G m ∧ RaisedSN base G l e (.type cls) news h' ∧ G.UpToSlots h'
theorem raised_sub {base G : Heap} {l : List Env} {e : Addr} {cls : Value} {news news' : List (Addr × Obj)} {h : Heap} (R : RaisedSN base G l e cls news h) (hs : ∀ p ∈ news', p ∈ news) : RaisedSN base G l e cls news' h := by
  obtain ⟨B, a0, hB, hBG, hl, hfl⟩ := R
  exact ⟨B, a0, hB, hBG, fun q hq => hl q (hs q hq), hfl⟩
/-- a call that raises -/
noncomputable def ConX (w : World) (D U : Nat) (f : Value) (vs : List Value) (kw : List (Str × Value)) (news : List (Addr × Obj)) (cls : String) : Prop :=
  ∀ (dp un : Nat) (gd : Option (List Code)) (cn : Str) (cs : Scope) (a : Addr) (ccd : Value) (cl : List (Str × Addr)) (outer : List Env) (A₀ : Around) (base h₀ : Heap) (L : Addr) (m : Str → Option Value) (s : Shared) (Q E : Value → Shared → Prop)
    (p : Program) (loose : List Str) (mean : ExcName → Option Value) (mg mb : Str → Option Value),
    Below A₀ base outer h₀ → Fr h₀ L s.heap m → (K w.params).In h₀ → News h₀ L s.heap news → Top p loose mean mg mb h₀ → cs.kind = .function → dp + D < recursionLimit → un + U < cLine →
    (∀ e h' tk', Up9 base h₀ L m (envX cn cs L a ccd cl :: outer) cls news e h' → E (.ref e) { s with heap := h', toks := tk' }) →
    wpAny (model pw w) (ktrTop dp un gd cn cs L a ccd cl outer) (call f vs kw) Q E s
/-- how a def's body ends that raises: thrown here, or passing through -/
noncomputable def EndsX (base g : Heap) (L' : Addr) (l : List Env) (s₀ : Shared) (cls : String) (news : List (Addr × Obj)) (ev : Value) (s' : Shared) : Prop :=
  ∃ e h' tk, ev = .ref e ∧ s' = { s₀ with heap := h', toks := tk } ∧ ((∃ h m' news', Heap.NewExc h h' e cls ∧ Fr g L' h m' ∧ News g L' h news' ∧ ∀ p ∈ news, p ∈ news') ∨ ∃ m' news', Up9 base g L' m' l cls news' e h' ∧ ∀ p ∈ news, p ∈ news')
theorem leavesX {M : Model} {A : Around} {E : Value → Shared → Prop} {base g : Heap} {outer : List Env} {L' : Addr} {env : Env} {s₀ s' : Shared} {cls : String} {news : List (Addr × Obj)} {ev : Value} {Q : Unit → Shared → Prop} (K : Below A base outer g) (hf : env.frame = some L') (hk : env.scope.kind = .function)
    (h : EndsX base g L' (env :: outer) s₀ cls news ev s') (hQ : ∀ e h' tk, ev = .ref e → RaisedSN base g outer e (.type cls) news h' → g.UpToSlots h' → Q () { s₀ with heap := h', toks := tk }) : wpAny M (A.deeper env) (leaving env ev) Q E s' := by
  obtain ⟨e, h', tk, rfl, rfl, ⟨hh, m', news', hx, F, N, hs⟩ | ⟨m', news', ⟨G, F, R, hu⟩, hs⟩⟩ := h
  · exact leave_newX K hf hk hx F N fun h'' R hu => hQ e h'' tk rfl (raised_sub R hs) hu
  · exact leave_onX K hf F R hu fun h'' R hu => hQ e h'' tk rfl (raised_sub R hs) hu
noncomputable def BodyX (w : World) (D U : Nat) (qual : Str) (scope : Scope) (f : Addr) (cdv : Value) (body : List Stmt) (binds : List (Str × Value)) (news : List (Addr × Obj)) (cls : String) : Prop :=
  ∀ (dp un : Nat) (gd : Option (List Code)) (outer : List Env) (A₀ : Around) (base g : Heap) (L' : Addr) (h₁ : Heap) (tk : Nat) (s : Shared) (p : Program) (loose : List Str) (mean : ExcName → Option Value) (mg mb : Str → Option Value),
    Below A₀ base outer g → Fr g L' h₁ (fun y => binds.reverse.lookup y) → (K w.params).In g → News g L' h₁ news → Top p loose mean mg mb g → dp + D < recursionLimit → un + U < cLine →
    wpAny (model pw w) (ktrTop dp un gd qual scope L' f cdv [] outer) (execs body (envOf qual scope L' f cdv)) (fun _ _ => False) (EndsX base g L' (envOf qual scope L' f cdv :: outer) s cls news) { s with heap := h₁, toks := tk }
theorem conX_of {w : World} {D U : Nat} {news : List (Addr × Obj)} {cls : String} {name qual : Str} {params : Arguments} {body : List Stmt} {scope : Scope} {dV kV doc pm cdv ct oc : Value} {an od : Option Addr} {osl : Array (Option Value)} {f : Addr} {vs : List Value} {kw : List (Str × Value)} {binds : List (Str × Value)}
    (ho : (K w.params).lookup f = some ⟨oc, od, .func (fnOf name qual params body scope dV kV doc pm an cdv ct), osl⟩) (hcd : codeIn (K w.params) cdv qual = true)
    (hbind : ∀ s : Shared, (K w.params).In s.heap → BindsTo s (fnOf name qual params body scope dV kV doc pm an cdv ct) ⟨vs, kw⟩ binds) (hloc : ∀ y ∈ binds, scope.names.lookup y.1 = some .local)
    (hco : scope.isCoroutine = false) (hgen : scope.isGenerator = false) (hk : scope.kind = .function) (hcell : ∀ x ∈ scope.names, x.2 ≠ .cell)
    (hb : BodyX w D (U + 3) qual scope f cdv body binds news cls) : ConX w (D + 1) (U + 6) (.ref f) vs kw news cls := by
  intro dp un gd cn cs a ccd cl outer A₀ base h₀ L m s Q E p loose mean mg mb B F X N T hk' hd hu hret
  refine wpAny_call ?_
  refine code_def B F X N T rfl rfl hk' ho hcd (by show dp < recursionLimit; omega) (hbind s (X.keeps F.keep)) hloc (fun g L' h₁ FG F' N' B' X' T' => ?_) hco hgen hk hcell
  refine wpAny_mono (hb (dp + 1) (un + 3) gd (envX cn cs L a ccd cl :: outer) _ base g L' h₁ _ s p loose mean mg mb B' F' X' N' T' (by omega) (by omega)) (fun _ _ h => h.elim) fun ev s' h => ?_
  exact leavesX B' rfl hk h fun e h' tk hev R hu => by subst hev; exact hret e h' tk ⟨g, FG, R, hu⟩
noncomputable def BodyXC (w : World) (D U : Nat) (qual : Str) (scope : Scope) (f : Addr) (cdv : Value) (body : List Stmt) (binds : List (Str × Value)) (news : List (Addr × Obj)) (cls : String) : Prop :=
  ∀ (dp un : Nat) (gd : Option (List Code)) (outer : List Env) (A₀ : Around) (base g : Heap) (L' : Addr) (h₁ : Heap) (tk : Nat) (s : Shared) (p : Program) (loose : List Str) (mean : ExcName → Option Value) (mg mb : Str → Option Value) (cells : List (Addr × Obj)),
    Below A₀ base outer g → Fr g L' h₁ (bindL (envOfC qual scope L' f cdv).kindOf binds fun _ => none) → (K w.params).In g → News g L' h₁ (cells ++ news) → CellsAre (bindC (envOfC qual scope L' f cdv).kindOf binds fun _ => none) (cellsFrom (L' + 1) scope.names []) cells →
    Top p loose mean mg mb g → (∀ p ∈ news, p.1 < L') → dp + D < recursionLimit → un + U < cLine →
    wpAny (model pw w) (ktrTop dp un gd qual scope L' f cdv (cellsFrom (L' + 1) scope.names []) outer) (execs body (envOfC qual scope L' f cdv)) (fun _ _ => False) (EndsX base g L' (envOfC qual scope L' f cdv :: outer) s cls news) { s with heap := h₁, toks := tk }
theorem conX_ofC {w : World} {D U : Nat} {news : List (Addr × Obj)} {cls : String} {name qual : Str} {params : Arguments} {body : List Stmt} {scope : Scope} {dV kV doc pm cdv ct oc : Value} {an od : Option Addr} {osl : Array (Option Value)} {f : Addr} {vs : List Value} {kw : List (Str × Value)} {binds : List (Str × Value)}
    (ho : (K w.params).lookup f = some ⟨oc, od, .func (fnOf name qual params body scope dV kV doc pm an cdv ct), osl⟩) (hcd : codeIn (K w.params) cdv qual = true)
    (hbind : ∀ s : Shared, (K w.params).In s.heap → BindsTo s (fnOf name qual params body scope dV kV doc pm an cdv ct) ⟨vs, kw⟩ binds) (hkind : (binds.all fun y => scope.names.lookup y.1 == some .local || scope.names.lookup y.1 == some .cell) = true)
    (hnd : ((cellsFrom 0 scope.names []).map (·.1)).Nodup)
    (hco : scope.isCoroutine = false) (hgen : scope.isGenerator = false) (hk : scope.kind = .function)
    (hb : BodyXC w D (U + 3) qual scope f cdv body binds news cls) : ConX w (D + 1) (U + 6) (.ref f) vs kw news cls := by
  intro dp un gd cn cs a ccd cl outer A₀ base h₀ L m s Q E p loose mean mg mb B F X N T hk' hd hu hret
  refine wpAny_call ?_
  refine code_defC B F X N T rfl rfl hk' ho hcd (by show dp < recursionLimit; omega) (hbind s (X.keeps F.keep)) hkind hnd (fun g L' h₁ tk cells FG F' N' Y B' X' T' l => ?_) hco hgen hk
  refine wpAny_mono (hb (dp + 1) (un + 3) gd (envX cn cs L a ccd cl :: outer) _ base g L' h₁ _ s p loose mean mg mb cells B' F' X' N' Y T' l (by omega) (by omega)) (fun _ _ h => h.elim) fun ev s' h => ?_
  exact leavesX B' rfl hk h fun e h' tk hev R hu => by subst hev; exact hret e h' tk ⟨g, FG, R, hu⟩
theorem use_conX {w : World} {D U : Nat} {f : Value} {vs : List Value} {kw : List (Str × Value)} {news : List (Addr × Obj)} {cls : String} {dp un : Nat} {gd : Option (List Code)} {cn : Str} {cs : Scope} {a : Addr} {ccd : Value} {cl : List (Str × Addr)} {outer : List Env} {A₀ : Around} {base h₀ : Heap} {L : Addr} {m : Str → Option Value} {s : Shared} {Q E : Value → Shared → Prop}
    {p : Program} {loose : List Str} {mean : ExcName → Option Value} {mg mb : Str → Option Value} (C : ConX w D U f vs kw news cls) (B : Below A₀ base outer h₀) (F : Fr h₀ L s.heap m) (X : (K w.params).In h₀) (N : News h₀ L s.heap news) (T : Top p loose mean mg mb h₀) (hk : cs.kind = .function) (hd : dp + D < recursionLimit) (hu : un + U < cLine)
    (h : ∀ e h' tk', Up9 base h₀ L m (envX cn cs L a ccd cl :: outer) cls news e h' → E (.ref e) { s with heap := h', toks := tk' }) : wpAny (model pw w) (ktrTop dp un gd cn cs L a ccd cl outer) (call f vs kw) Q E s :=
  C dp un gd cn cs a ccd cl outer A₀ base h₀ L m s Q E p loose mean mg mb B F X N T hk hd hu h
end Mine
end
-- F1
section
open PySem PySem.W PySem.Spec PySem.Calls PyProof.Rows PyProof.Rows.LCg
set_option maxRecDepth 100000
set_option maxHeartbeats 1000000
set_option linter.unusedVariables false
namespace Mine
/-- an exception's object -/
noncomputable abbrev excO (cls : String) (t : Value) : Obj := { cls := .type cls, data := .fields #[t, .none, .none, .none, .bool false, .none] }
theorem r_exc {cls newId initId : String} (FE : ExcCallFacts cls newId initId) {w : World} {A : Around} {E : Value → Shared → Prop} {s : Shared} {h₀ : Heap} {L : Addr} {m : Str → Option Value} {news : List (Addr × Obj)} {a : Value} {Q : Value → Shared → Prop} (F : Fr h₀ L s.heap m) (N : News h₀ L s.heap news)
    (h : ∀ e (t : Addr) h', Fr h₀ L h' m → News h₀ L h' ((e, excO cls (.ref t)) :: news) → (∀ p ∈ news, p.1 ≠ e) → Q (.ref e) { s with heap := h' }) : wpAny (model pw w) A (call (.type cls) [a]) Q E s := by
  obtain ⟨hp, g, d, tk, os⟩ := s
  refine wpAny_call_exc FE (hrest := by rw [PySem.sizeLine_eq]; show 1 ≤ _; omega) fun h' e hm => ?_
  obtain ⟨t, ht, _, _⟩ := hm.there
  refine h e t h' ⟨F.ns.keeps hm.keeps, fun b o q => hm.keeps b o (F.keep b o q), F.above⟩ (fun p hp => ?_) fun p hp q => ?_
  · rcases List.mem_cons.mp hp with rfl | hp
    · refine ⟨ht, fun q => ?_, ?_⟩
      · obtain ⟨o, es, ep, e1, _⟩ := F.ns
        have := hm.new
        rw [show e = L from q, e1] at this
        cases this
      · cases z : h₀.get? e with
        | none => rfl
        | some o => have := F.keep _ _ z; rw [hm.new] at this; cases this
    · exact ⟨hm.keeps _ _ (N p hp).1, (N p hp).2⟩
  · have := (N p hp).1
    rw [q, hm.new] at this
    cases this
noncomputable def BodyU (w : World) (D U : Nat) (qual : Str) (scope : Scope) (f : Addr) (cdv : Value) (body : List Stmt) (binds : List (Str × Value)) (news : List (Addr × Obj)) (R : Value → List (Addr × Obj) → Prop) : Prop :=
  ∀ (dp un : Nat) (gd : Option (List Code)) (outer : List Env) (A₀ : Around) (base g : Heap) (L' : Addr) (h₁ : Heap) (tk : Nat) (s : Shared) (p : Program) (loose : List Str) (mean : ExcName → Option Value) (mg mb : Str → Option Value),
    Below A₀ base outer g → Fr g L' h₁ (fun y => binds.reverse.lookup y) → (K w.params).In g → News g L' h₁ news → Top p loose mean mg mb g → dp + D < recursionLimit → un + U < cLine →
    wpAny (model pw w) (ktrTop dp un gd qual scope L' f cdv [] outer) (execs body (envOf qual scope L' f cdv)) (EndsU g L' s R) (fun _ _ => False) { s with heap := h₁, toks := tk }
theorem con_ofU {w : World} {D U : Nat} {news : List (Addr × Obj)} {R : Value → List (Addr × Obj) → Prop} {name qual : Str} {params : Arguments} {body : List Stmt} {scope : Scope} {dV kV doc pm cdv ct oc : Value} {an od : Option Addr} {osl : Array (Option Value)} {f : Addr} {vs : List Value} {binds : List (Str × Value)}
    (ho : (K w.params).lookup f = some ⟨oc, od, .func (fnOf name qual params body scope dV kV doc pm an cdv ct), osl⟩) (hcd : codeIn (K w.params) cdv qual = true)
    (hbind : ∀ s : Shared, (K w.params).In s.heap → BindsTo s (fnOf name qual params body scope dV kV doc pm an cdv ct) ⟨vs, []⟩ binds) (hloc : ∀ y ∈ binds, scope.names.lookup y.1 = some .local)
    (hco : scope.isCoroutine = false) (hgen : scope.isGenerator = false) (hk : scope.kind = .function) (hcell : ∀ x ∈ scope.names, x.2 ≠ .cell)
    (hb : BodyU w D (U + 3) qual scope f cdv body binds news R) : ConU w (D + 1) (U + 6) (.ref f) vs news R := by
  intro dp un gd cn cs a ccd cl outer A₀ base h₀ L m s Q E p loose mean mg mb B F X N T hk' hd hu hret
  refine wpAny_call ?_
  refine code_def B F X N T rfl rfl hk' ho hcd (by show dp < recursionLimit; omega) (hbind s (X.keeps F.keep)) hloc (fun g L' h₁ FG F' N' B' X' T' => ?_) hco hgen hk hcell
  refine wpAny_mono (hb (dp + 1) (un + 3) gd (envX cn cs L a ccd cl :: outer) _ base g L' h₁ _ s p loose mean mg mb B' F' X' N' T' (by omega) (by omega)) (fun fl s' h => ?_) fun _ _ h => h.elim
  obtain ⟨v, h', tk, m', news', post, e, rfl, r, Fz, Nz, hs⟩ := h
  cases fl <;> cases e <;> exact leaveK_ Fz (news_sub Nz hs) fun kF kN => hret _ post h' tk r kF kN
/-- what a def that makes an exception hands back -/
noncomputable def ExcR (cls : String) (news : List (Addr × Obj)) (r : Value) (post : List (Addr × Obj)) : Prop := ∃ (e t : Addr), r = .ref e ∧ post = (e, excO cls (.ref t)) :: news ∧ ∀ p ∈ news, p.1 ≠ e
section
theorem ru44 : True := by
  k_with_none
  k_with "12 eval Name" => ((k_here; (first | (with_reducible show wpAny _ _ (eval (Expr.Name _ _) (envOf _ _ _ _ _)) _ _ _) | (with_reducible show wpAny _ _ (eval (Expr.Name _ _) (envOfC _ _ _ _ _)) _ _ _) | (with_reducible show wpAny _ _ (eval (Expr.Name _ _) (envX _ _ _ _ _ _)) _ _ _)); k_dflt (first
      | (refine' nameX_K ?F_0 ?X_0 ?T_0 ?e_0 ?_ ?a_0 ?b_0; (case b_0 => kernel_rfl!); (case a_0 => rfl); (case F_0 => k_asm); (case X_0 => k_asm); (case T_0 => k_asm); (case e_0 => k_is); k_whole)
      | (refine' nameX_L ?F_0 ?v_0 ?_ ?a_0 ?b_0; (case b_0 => kernel_rfl!); (case a_0 => rfl); (case F_0 => k_asm); (case v_0 => rfl); k_whole)
      | (refine' nameX_B ?F_0 ?X_0 ?T_0 ?e_0 ?v_0 ?n_0 ?_ ?a_0 ?b_0; (case b_0 => kernel_rfl!); (case a_0 => rfl); (case F_0 => k_asm); (case X_0 => k_asm); (case T_0 => k_asm); (case e_0 => k_is); (case v_0 => boot_fast); (case n_0 => decide); k_whole))))
  k_with "12 callWith ref" => ((k_here; (with_reducible show wpAny _ _ (callWith _ (Value.ref _) _ (backTo _ (starEach (_ :: _) _)) (backToKw _ _)) _ _ _); k_dflt (refine' callWith_KW ?k1_0 ?k2_0 ?k3_0 ?_; (case k1_0 => k_asm); (case k2_0 => k_is); (case k3_0 => exact rfl); k_whole)))
  k_with "1 call type:TypeError" => ((k_here; k_dflt (refine r_exc PySem.F.excCall_TypeError (by k_asm) (by k_asm) ?_); intro e9 t9 h9 F9 N9 n9))
  trivial
theorem errT_ok (w : World) (v : Value) (x y : Str) (tx ty : Tok) (hx : x.length ≤ 100) (hy : y.length ≤ 100) (news : List (Addr × Obj)) :
    ConU w 1 20 (.ref 21) [v, .str x tx, .str y ty] news (ExcR "TypeError" news) := by
  refine' con_ofU (binds := [(Str.ofString "value", v), (Str.ofString "expected", .str x tx), (Str.ofString "param", .str y ty)]) ?qo ?qcd ?qbind ?qloc ?q1 ?q2 ?q3 ?q4 ?_
  case qo => k_is
  case qcd => k_is
  case qbind => exact fun s X => by first | exact BindsTo.of_eq rfl | exact binds_K (by k_in) rfl (by k_is) rfl rfl rfl
  case qloc => exact locs rfl
  case q1 => exact rfl
  case q2 => exact rfl
  case q3 => exact rfl
  case q4 => decide
  intro dp un gd outer A₀ base g L' h₁ tk s p loose mean mg mb B F X N T hd hu
  show wpAny _ _ _ _ _ _
  k_fold
  k_steps
  · show EndsU _ _ _ _ _ _
    exact endsU _ (by k_asm) (by k_asm) (fun p hp => hp) ⟨_, _, rfl, rfl, by assumption⟩
end
end Mine
end
-- F2
section
open PySem PySem.W PySem.Spec PySem.Calls PyProof.Rows PyProof.Rows.LCg
set_option maxRecDepth 100000
set_option maxHeartbeats 1000000
set_option linter.unusedVariables false
namespace Mine
theorem ru47 : True := by
  k_with_none
  k_with "12 eval Name" => ((k_here; (first | (with_reducible show wpAny _ _ (eval (Expr.Name _ _) (envOf _ _ _ _ _)) _ _ _) | (with_reducible show wpAny _ _ (eval (Expr.Name _ _) (envOfC _ _ _ _ _)) _ _ _) | (with_reducible show wpAny _ _ (eval (Expr.Name _ _) (envX _ _ _ _ _ _)) _ _ _)); k_dflt (first
      | (refine' nameX_K ?F_0 ?X_0 ?T_0 ?e_0 ?_ ?a_0 ?b_0; (case b_0 => kernel_rfl!); (case a_0 => rfl); (case F_0 => k_asm); (case X_0 => k_asm); (case T_0 => k_asm); (case e_0 => k_is); k_whole)
      | (refine' nameX_L ?F_0 ?v_0 ?_ ?a_0 ?b_0; (case b_0 => kernel_rfl!); (case a_0 => rfl); (case F_0 => k_asm); (case v_0 => rfl); k_whole)
      | (refine' nameX_B ?F_0 ?X_0 ?T_0 ?e_0 ?v_0 ?n_0 ?_ ?a_0 ?b_0; (case b_0 => kernel_rfl!); (case a_0 => rfl); (case F_0 => k_asm); (case X_0 => k_asm); (case T_0 => k_asm); (case e_0 => k_is); (case v_0 => boot_fast); (case n_0 => decide); k_whole))))
  k_with "12 callWith ref" => ((k_here; (with_reducible show wpAny _ _ (callWith _ (Value.ref _) _ (backTo _ (starEach (_ :: _) _)) (backToKw _ _)) _ _ _); k_dflt (refine' callWith_KW ?k1_0 ?k2_0 ?k3_0 ?_; (case k1_0 => k_asm); (case k2_0 => k_is); (case k3_0 => exact rfl); k_whole)))
  trivial
/-- what a raise of a made exception asks -/
noncomputable def Thrown (cls : String) (E : Value → Shared → Prop) (v : Value) (s₁ : Shared) : Prop := ∃ (e t : Addr), v = .ref e ∧ s₁.heap.get? e = some (excO cls (.ref t)) ∧ E (.ref e) s₁
theorem raise_made {cls : String} (FR : ExcRaiseFacts cls) {M : Model} {A : Around} {E : Value → Shared → Prop} {s : Shared} {env : Env} {x : PySem.Expr} {pos : Pos} {Q : Flow → Shared → Prop} (hh : A.handled = none) (h : wpAny M A (eval x env) (Thrown cls E) E s) : wpAny M A (exec (.Raise (some x) none pos) env) Q E s :=
  wpAny_Raise_made FR hh h
theorem hide_ne {h : Heap} {e b : Addr} {o : Obj} (he : h.get? b = some o) (hn : b ≠ e) : (hideAll h [e]).get? b = some o := hideAll_get _ he fun hm => hn (List.mem_singleton.mp hm)
theorem ends_made {base g : Heap} {L' : Addr} {l : List Env} {s₀ : Shared} {cls : String} {news news' : List (Addr × Obj)} {e t : Addr} {h' : Heap} {tk : Nat} {m' : Str → Option Value} (F : Fr g L' h' m') (N : News g L' h' ((e, excO cls (.ref t)) :: news')) (hn : ∀ p ∈ news', p.1 ≠ e) (hs : ∀ p ∈ news, p ∈ news') :
    EndsX base g L' l s₀ cls news (.ref e) { s₀ with heap := h', toks := tk } := by
  have he := N _ (List.Mem.head _)
  have hne : L' ≠ e := Ne.symm he.2.1
  refine ⟨e, h', tk, rfl, rfl, .inl ⟨hideAll h' [e], m', news', ⟨fun b o q => of_hideAll _ q, hideAll_none _ (List.Mem.head _), _, _, he.1, rfl, rfl⟩, ⟨?_, fun b o q => hide_ne (F.keep b o q) fun z => ?_, F.above⟩, fun p hp => ?_, hs⟩⟩
  · obtain ⟨o, es, ep, e1, r⟩ := F.ns
    exact ⟨o, es, ep, hide_ne e1 hne, r⟩
  · rw [z, he.2.2] at q; cases q
  · have := N p (List.Mem.tail _ hp)
    exact ⟨hide_ne this.1 (hn p hp), this.2⟩
theorem ends_thrown {base g : Heap} {L' : Addr} {l : List Env} {s₀ : Shared} {cls : String} {news news' : List (Addr × Obj)} {e t : Addr} {h' : Heap} {tk : Nat} {m' : Str → Option Value} (F : Fr g L' h' m') (N : News g L' h' ((e, excO cls (.ref t)) :: news')) (hn : ∀ p ∈ news', p.1 ≠ e) (hs : ∀ p ∈ news, p ∈ news') :
    Thrown cls (EndsX base g L' l s₀ cls news) (.ref e) { s₀ with heap := h', toks := tk } := ⟨e, t, rfl, (N _ (List.Mem.head _)).1, ends_made F N hn hs⟩
/-- a value that is neither octets nor a text -/
noncomputable def BadV (v : Value) (news : List (Addr × Obj)) : Prop := v = .none ∨ (∃ n t, v = .int n t) ∨ (∃ l its k, v = .ref l ∧ (l, ({ cls := .type "list", data := .seq its k } : Obj)) ∈ news) ∨ ∃ l its k, v = .ref l ∧ (l, ({ cls := .type "tuple", data := .seq its k } : Obj)) ∈ news
section
theorem ru45 : True := by
  k_with_none
  k_with "12 eval Name" => ((k_here; (first | (with_reducible show wpAny _ _ (eval (Expr.Name _ _) (envOf _ _ _ _ _)) _ _ _) | (with_reducible show wpAny _ _ (eval (Expr.Name _ _) (envOfC _ _ _ _ _)) _ _ _) | (with_reducible show wpAny _ _ (eval (Expr.Name _ _) (envX _ _ _ _ _ _)) _ _ _)); k_dflt (first
      | (refine' nameX_K ?F_0 ?X_0 ?T_0 ?e_0 ?_ ?a_0 ?b_0; (case b_0 => kernel_rfl!); (case a_0 => rfl); (case F_0 => k_asm); (case X_0 => k_asm); (case T_0 => k_asm); (case e_0 => k_is); k_whole)
      | (refine' nameX_L ?F_0 ?v_0 ?_ ?a_0 ?b_0; (case b_0 => kernel_rfl!); (case a_0 => rfl); (case F_0 => k_asm); (case v_0 => rfl); k_whole)
      | (refine' nameX_B ?F_0 ?X_0 ?T_0 ?e_0 ?v_0 ?n_0 ?_ ?a_0 ?b_0; (case b_0 => kernel_rfl!); (case a_0 => rfl); (case F_0 => k_asm); (case X_0 => k_asm); (case T_0 => k_asm); (case e_0 => k_is); (case v_0 => boot_fast); (case n_0 => decide); k_whole))))
  k_with "12 callWith ref" => ((k_here; (with_reducible show wpAny _ _ (callWith _ (Value.ref _) _ (backTo _ (starEach (_ :: _) _)) (backToKw _ _)) _ _ _); k_dflt (refine' callWith_KW ?k1_0 ?k2_0 ?k3_0 ?_; (case k1_0 => k_asm); (case k2_0 => k_is); (case k3_0 => exact rfl); k_whole)))
  k_with "1 call ref" => ((k_here; (with_reducible show wpAny _ _ (call (Value.ref 21) [_, Value.str _ _, Value.str _ _]) _ _ _); refine' use_conU (errT_ok _ _ _ _ _ _ ?hx_49 ?hy_49 _) ?B_49 ?F_49 ?X_49 ?N_49 ?T_49 ?hk_49 ?hd_49 ?hu_49 ?_; (case N_49 => k_asm); (case B_49 => k_asm); (case F_49 => k_asm); (case X_49 => k_asm); (case T_49 => k_asm); (case hk_49 => rfl); (case hd_49 => omega); (case hu_49 => omega); (case hx_49 => first | with_reducible assumption | decide); (case hy_49 => first | with_reducible assumption | decide); (intro r9 post9 h9 tk9 hR9 F9 N9; obtain ⟨e9, t9, hr9, hp9, n9⟩ := hR9; subst hr9; subst hp9)))
  trivial
theorem strT_ok (w : World) (v : Value) (y : Str) (ty : Tok) (hy : y.length ≤ 100) (news : List (Addr × Obj)) :
    ConU w 2 40 (.ref 28) [v, .str y ty] news (ExcR "TypeError" news) := by
  refine' con_ofU (binds := [(Str.ofString "value", v), (Str.ofString "param", .str y ty)]) ?qo ?qcd ?qbind ?qloc ?q1 ?q2 ?q3 ?q4 ?_
  case qo => k_is
  case qcd => k_is
  case qbind => exact fun s X => by first | exact BindsTo.of_eq rfl | exact binds_K (by k_in) rfl (by k_is) rfl rfl rfl
  case qloc => exact locs rfl
  case q1 => exact rfl
  case q2 => exact rfl
  case q3 => exact rfl
  case q4 => decide
  intro dp un gd outer A₀ base g L' h₁ tk s p loose mean mg mb B F X N T hd hu
  show wpAny _ _ _ _ _ _
  k_fold
  k_steps
  · show EndsU _ _ _ _ _ _
    exact endsU _ (by k_asm) (by k_asm) (fun p hp => hp) ⟨_, _, rfl, rfl, by assumption⟩
end
section
theorem ru46 : True := by
  k_with_none
  k_with "12 eval Name" => ((k_here; (first | (with_reducible show wpAny _ _ (eval (Expr.Name _ _) (envOf _ _ _ _ _)) _ _ _) | (with_reducible show wpAny _ _ (eval (Expr.Name _ _) (envOfC _ _ _ _ _)) _ _ _) | (with_reducible show wpAny _ _ (eval (Expr.Name _ _) (envX _ _ _ _ _ _)) _ _ _)); k_dflt (first
      | (refine' nameX_K ?F_0 ?X_0 ?T_0 ?e_0 ?_ ?a_0 ?b_0; (case b_0 => kernel_rfl!); (case a_0 => rfl); (case F_0 => k_asm); (case X_0 => k_asm); (case T_0 => k_asm); (case e_0 => k_is); k_whole)
      | (refine' nameX_L ?F_0 ?v_0 ?_ ?a_0 ?b_0; (case b_0 => kernel_rfl!); (case a_0 => rfl); (case F_0 => k_asm); (case v_0 => rfl); k_whole)
      | (refine' nameX_B ?F_0 ?X_0 ?T_0 ?e_0 ?v_0 ?n_0 ?_ ?a_0 ?b_0; (case b_0 => kernel_rfl!); (case a_0 => rfl); (case F_0 => k_asm); (case X_0 => k_asm); (case T_0 => k_asm); (case e_0 => k_is); (case v_0 => boot_fast); (case n_0 => decide); k_whole))))
  k_with "12 callWith ref" => ((k_here; (with_reducible show wpAny _ _ (callWith _ (Value.ref _) _ (backTo _ (starEach (_ :: _) _)) (backToKw _ _)) _ _ _); k_dflt (refine' callWith_KW ?k1_0 ?k2_0 ?k3_0 ?_; (case k1_0 => k_asm); (case k2_0 => k_is); (case k3_0 => exact rfl); k_whole)))
  k_with "1 exec Raise some none" => ((k_here; (with_reducible show wpAny _ _ (exec (Stmt.Raise (some (Expr.Call (Expr.Name (Str.ofString "ExpectedStringError") _) _ _ _)) none _) _) _ _ _); k_dflt (refine raise_made PySem.F.excRaise_TypeError (by rfl) ?_)))
  k_with "1 call ref" => ((k_here; (with_reducible show wpAny _ _ (call (Value.ref 28) [_, Value.str _ _]) _ _ _); refine' use_conU (strT_ok _ _ _ _ ?hy_49 _) ?B_49 ?F_49 ?X_49 ?N_49 ?T_49 ?hk_49 ?hd_49 ?hu_49 ?_; (case N_49 => k_asm); (case B_49 => k_asm); (case F_49 => k_asm); (case X_49 => k_asm); (case T_49 => k_asm); (case hk_49 => rfl); (case hd_49 => omega); (case hu_49 => omega); (case hy_49 => with_reducible assumption); (intro r9 post9 h9 tk9 hR9 F9 N9; obtain ⟨e9, t9, hr9, hp9, n9⟩ := hR9; subst hr9; subst hp9)))
  trivial
theorem bad1 (w : World) (v : Value) (y : Str) (ty : Tok) (hy : y.length ≤ 100) (rest : List (Addr × Obj)) (l : Addr) (o : Obj)
    (hv : v = .none ∨ (∃ n t, v = .int n t) ∨ (∃ its k, v = .ref l ∧ o = { cls := .type "list", data := .seq its k }) ∨ ∃ its k, v = .ref l ∧ o = { cls := .type "tuple", data := .seq its k }) :
    ConX w 4 80 (.ref 36) [v] [(Str.ofString "param", .str y ty)] ((l, o) :: rest) "TypeError" := by
  refine' conX_of (binds := [(Str.ofString "source", v), (Str.ofString "encoding", .str (Str.ofString "utf-8") 208), (Str.ofString "param", .str y ty)]) ?qo ?qcd ?qbind ?qloc ?q1 ?q2 ?q3 ?q4 ?_
  case qo => k_is
  case qcd => k_is
  case qbind => exact fun s X => by first | exact BindsTo.of_eq rfl | exact binds_K (by k_in) rfl (by k_is) rfl rfl rfl
  case qloc => exact locs rfl
  case q1 => exact rfl
  case q2 => exact rfl
  case q3 => exact rfl
  case q4 => decide
  intro dp un gd outer A₀ base g L' h₁ tk s p loose mean mg mb B F X N T hd hu
  rcases hv with rfl | ⟨n, t, rfl⟩ | ⟨its, k, rfl, rfl⟩ | ⟨its, k, rfl, rfl⟩
  all_goals (
    show wpAny _ _ _ _ _ _
    k_fold
    k_steps)
  all_goals (show Thrown _ _ _ _; exact ends_thrown (by k_asm) (by k_asm) (by assumption) (by intro p hp; repeat (first | exact hp | refine List.Mem.tail _ ?_)))

end
end Mine
end
-- F3
section
open PySem PySem.W PySem.Spec PySem.Calls PyProof.Rows PyProof.Rows.LCg
set_option maxRecDepth 100000
set_option maxHeartbeats 1000000
set_option linter.unusedVariables false
namespace Mine
theorem ru49 : True := by
  k_with_none
  k_with "12 eval Name" => ((k_here; (first | (with_reducible show wpAny _ _ (eval (Expr.Name _ _) (envOf _ _ _ _ _)) _ _ _) | (with_reducible show wpAny _ _ (eval (Expr.Name _ _) (envOfC _ _ _ _ _)) _ _ _) | (with_reducible show wpAny _ _ (eval (Expr.Name _ _) (envX _ _ _ _ _ _)) _ _ _)); k_dflt (first
      | (refine' nameX_K ?F_0 ?X_0 ?T_0 ?e_0 ?_ ?a_0 ?b_0; (case b_0 => kernel_rfl!); (case a_0 => rfl); (case F_0 => k_asm); (case X_0 => k_asm); (case T_0 => k_asm); (case e_0 => k_is); k_whole)
      | (refine' nameX_L ?F_0 ?v_0 ?_ ?a_0 ?b_0; (case b_0 => kernel_rfl!); (case a_0 => rfl); (case F_0 => k_asm); (case v_0 => rfl); k_whole)
      | (refine' nameX_B ?F_0 ?X_0 ?T_0 ?e_0 ?v_0 ?n_0 ?_ ?a_0 ?b_0; (case b_0 => kernel_rfl!); (case a_0 => rfl); (case F_0 => k_asm); (case X_0 => k_asm); (case T_0 => k_asm); (case e_0 => k_is); (case v_0 => boot_fast); (case n_0 => decide); k_whole))))
  k_with "12 callWith ref" => ((k_here; (with_reducible show wpAny _ _ (callWith _ (Value.ref _) _ (backTo _ (starEach (_ :: _) _)) (backToKw _ _)) _ _ _); k_dflt (refine' callWith_KW ?k1_0 ?k2_0 ?k3_0 ?_; (case k1_0 => k_asm); (case k2_0 => k_is); (case k3_0 => exact rfl); k_whole)))
  trivial
theorem ends_up {base g : Heap} {L' : Addr} {l : List Env} {s₀ : Shared} {cls : String} {news news' : List (Addr × Obj)} {e : Addr} {h' : Heap} {tk : Nat} {m' : Str → Option Value} (u : Up9 base g L' m' l cls news' e h') (hs : ∀ p ∈ news, p ∈ news') : EndsX base g L' l s₀ cls news (.ref e) { s₀ with heap := h', toks := tk } := ⟨e, h', tk, rfl, rfl, .inr ⟨m', news', u, hs⟩⟩
theorem ends_new9 {base g : Heap} {L' : Addr} {l : List Env} {s₀ : Shared} {cls : String} {news news' : List (Addr × Obj)} {e : Addr} {h h' : Heap} {tk : Nat} {m' : Str → Option Value} (hx : Heap.NewExc h h' e cls) (F : Fr g L' h m') (N : News g L' h news') (hs : ∀ p ∈ news, p ∈ news') : EndsX base g L' l s₀ cls news (.ref e) { s₀ with heap := h', toks := tk } := ⟨e, h', tk, rfl, rfl, .inl ⟨h, m', news', hx, F, N, hs⟩⟩
theorem newExc_of {h h' : Heap} {e : Addr} {cls : String} {vs : List Value} (hx : Heap.MadeExc h h' e cls vs) : Heap.NewExc h h' e cls := by
  obtain ⟨t, ht, _, _⟩ := hx.there
  exact ⟨hx.keeps, hx.new, _, _, ht, rfl, rfl⟩
@[reducible] noncomputable def pbT3 : List Stmt := by
  refine (fun (l : List Stmt) (_ : (fdB 12).drop 3 = l) => l) ?l ?h
  rotate_left
  conv => lhs; whnf
section
local macro_rules | `(tactic| k_all) => `(tactic| exact ne_of_lts (by assumption) (by omega))
theorem ru48 : True := by
  k_with_none
  k_with "12 eval Name" => ((k_here; (first | (with_reducible show wpAny _ _ (eval (Expr.Name _ _) (envOf _ _ _ _ _)) _ _ _) | (with_reducible show wpAny _ _ (eval (Expr.Name _ _) (envOfC _ _ _ _ _)) _ _ _) | (with_reducible show wpAny _ _ (eval (Expr.Name _ _) (envX _ _ _ _ _ _)) _ _ _)); k_dflt (first
      | (refine' nameX_K ?F_0 ?X_0 ?T_0 ?e_0 ?_ ?a_0 ?b_0; (case b_0 => kernel_rfl!); (case a_0 => rfl); (case F_0 => k_asm); (case X_0 => k_asm); (case T_0 => k_asm); (case e_0 => k_is); k_whole)
      | (refine' nameX_L ?F_0 ?v_0 ?_ ?a_0 ?b_0; (case b_0 => kernel_rfl!); (case a_0 => rfl); (case F_0 => k_asm); (case v_0 => rfl); k_whole)
      | (refine' nameX_B ?F_0 ?X_0 ?T_0 ?e_0 ?v_0 ?n_0 ?_ ?a_0 ?b_0; (case b_0 => kernel_rfl!); (case a_0 => rfl); (case F_0 => k_asm); (case X_0 => k_asm); (case T_0 => k_asm); (case e_0 => k_is); (case v_0 => boot_fast); (case n_0 => decide); k_whole))))
  k_with "12 callWith ref" => ((k_here; (with_reducible show wpAny _ _ (callWith _ (Value.ref _) _ (backTo _ (starEach (_ :: _) _)) (backToKw _ _)) _ _ _); k_dflt (refine' callWith_KW ?k1_0 ?k2_0 ?k3_0 ?_; (case k1_0 => k_asm); (case k2_0 => k_is); (case k3_0 => exact rfl); k_whole)))
  k_with "1 execs cons" => ((k_here; (with_reducible show wpAny _ _ (execs (Stmt.If (Expr.UnaryOp _ (Expr.Call _ [Expr.Name (Str.ofString "rounds") _, _] _ _) _) _ _ _ :: _) _) _ _ _); refine hold ?_))
  k_with "1 subscriptTail" => ((k_here; (with_reducible show wpAny _ _ (subscriptTail _ _ (Value.ref _) (Value.int 1 _)) _ _ _); k_dflt (refine r_row1 (by k_asm) (by (repeat (first | assumption | refine List.Mem.tail _ ?_))) (by with_unfolding_all rfl) ?_)))
  k_with "1 call ref" => ((k_here; (with_reducible show wpAny _ _ (call (Value.ref 36) [_] _) _ _ _); refine' use_conKw (bytes_of _ _ _ ?hK_50 ?hz_50 _ _ _) ?B_50 ?F_50 ?X_50 ?N_50 ?T_50 ?hk_50 ?hd_50 ?hu_50 ?_; (case hK_50 => with_reducible assumption); (case hz_50 => omega); (case N_50 => k_asm); (case B_50 => k_asm); (case F_50 => k_asm); (case X_50 => k_asm); (case T_50 => k_asm); (case hk_50 => rfl); (case hd_50 => omega); (case hu_50 => omega); (intro r9 new9 h9 tk9 hR9 hA9 F9 N9; obtain ⟨hnew9, t9, hr9⟩ := hR9; subst hnew9; subst hr9; simp only [List.nil_append] at N9)))
  trivial
/-- pbkdf2_hmac up to its first check -/
theorem pb2_pre (w : World) (ra fh : Addr) (sv tv rv kv : Value) (secret salt : List UInt8) (hsv : KeyIs sv secret) (htv : KeyIs tv salt) (size block : Nat) (hb : secret.length ≤ 900) (hb2 : salt.length ≤ 900) (news : List (Addr × Obj)) (HR : RowAt ra fh size block news)
    (dp un : Nat) (gd : Option (List Code)) (outer : List Env) (A₀ : Around) (base g : Heap) (L' : Addr) (h₁ : Heap) (tk : Nat) (s : Shared) (p : Program) (loose : List Str) (mean : ExcName → Option Value) (mg mb : Str → Option Value) (cells : List (Addr × Obj)) (Q : Flow → Shared → Prop) (E : Value → Shared → Prop)
    (B : Below A₀ base outer g) (F : Fr g L' h₁ (bindL (envOfC (Str.ofString "pbkdf2_hmac") fS12 L' 82 (.ref 81)).kindOf [(Str.ofString "digest", .ref ra), (Str.ofString "secret", sv), (Str.ofString "salt", tv), (Str.ofString "rounds", rv), (Str.ofString "keylen", kv)] fun _ => none)) (X : (K w.params).In g) (N : News g L' h₁ (cells ++ news))
    (Y : CellsAre (bindC (envOfC (Str.ofString "pbkdf2_hmac") fS12 L' 82 (.ref 81)).kindOf [(Str.ofString "digest", .ref ra), (Str.ofString "secret", sv), (Str.ofString "salt", tv), (Str.ofString "rounds", rv), (Str.ofString "keylen", kv)] fun _ => none) (cellsFrom (L' + 1) fS12.names []) cells)
    (T : Top p loose mean mg mb g) (l1 : ∀ p ∈ news, p.1 < L') (hd : dp + 6 < recursionLimit) (hu : un + 50 < cLine)
    (k : ∀ h' tk' m o1 o2 o3 o4 v1 t t2 t4, Fr g L' h' m → m (Str.ofString "digest") = some (.ref ra) → m (Str.ofString "secret") = some (.bytes secret.toArray t) → m (Str.ofString "keylen") = some kv → News g L' h' ((L' + 1 + 1 + 1 + 1, o1) :: (L' + 1 + 1 + 1, o2) :: (L' + 1 + 1, o3) :: (L' + 1, o4) :: news) →
      o1.data = .cell v1 → o2.data = .cell (some (.int (size : Int) t2)) → o3.data = .cell (some rv) → o4.data = .cell (some (.bytes salt.toArray t4)) →
      wpAny (model pw w) (ktrTop dp un gd (Str.ofString "pbkdf2_hmac") fS12 L' 82 (.ref 81) (cellsFrom (L' + 1) fS12.names []) outer) (execs pbT3 (envOfC (Str.ofString "pbkdf2_hmac") fS12 L' 82 (.ref 81))) Q E { s with heap := h', toks := tk' }) :
    wpAny (model pw w) (ktrTop dp un gd (Str.ofString "pbkdf2_hmac") fS12 L' 82 (.ref 81) (cellsFrom (L' + 1) fS12.names []) outer) (execs fB12 (envOfC (Str.ofString "pbkdf2_hmac") fS12 L' 82 (.ref 81))) Q E { s with heap := h₁, toks := tk } := by
  obtain ⟨t1, t2, HR2⟩ := HR
  k_cells Y
  (try simp only [List.cons_append, List.nil_append] at N)
  (try dsimp only)
  show wpAny _ _ _ _ _ _
  k_steps
  · show wpAny _ _ _ _ _ _
    rename Fr _ _ _ _ => F9
    rename News _ _ _ _ => N9
    exact k _ _ _ _ _ _ _ _ _ _ _ F9 rfl rfl rfl N9 (by assumption) (by assumption) (by assumption) (by assumption)
end
end Mine
end
-- F4
section
open PySem PySem.W PySem.Spec PySem.Calls PyProof.Rows PyProof.Rows.LCg
set_option maxRecDepth 100000
set_option maxHeartbeats 1000000
set_option linter.unusedVariables false
namespace Mine
theorem ru51 : True := by
  k_with_none
  k_with "12 eval Name" => ((k_here; (first | (with_reducible show wpAny _ _ (eval (Expr.Name _ _) (envOf _ _ _ _ _)) _ _ _) | (with_reducible show wpAny _ _ (eval (Expr.Name _ _) (envOfC _ _ _ _ _)) _ _ _) | (with_reducible show wpAny _ _ (eval (Expr.Name _ _) (envX _ _ _ _ _ _)) _ _ _)); k_dflt (first
      | (refine' nameX_K ?F_0 ?X_0 ?T_0 ?e_0 ?_ ?a_0 ?b_0; (case b_0 => kernel_rfl!); (case a_0 => rfl); (case F_0 => k_asm); (case X_0 => k_asm); (case T_0 => k_asm); (case e_0 => k_is); k_whole)
      | (refine' nameX_L ?F_0 ?v_0 ?_ ?a_0 ?b_0; (case b_0 => kernel_rfl!); (case a_0 => rfl); (case F_0 => k_asm); (case v_0 => rfl); k_whole)
      | (refine' nameX_B ?F_0 ?X_0 ?T_0 ?e_0 ?v_0 ?n_0 ?_ ?a_0 ?b_0; (case b_0 => kernel_rfl!); (case a_0 => rfl); (case F_0 => k_asm); (case X_0 => k_asm); (case T_0 => k_asm); (case e_0 => k_is); (case v_0 => boot_fast); (case n_0 => decide); k_whole))))
  k_with "12 callWith ref" => ((k_here; (with_reducible show wpAny _ _ (callWith _ (Value.ref _) _ (backTo _ (starEach (_ :: _) _)) (backToKw _ _)) _ _ _); k_dflt (refine' callWith_KW ?k1_0 ?k2_0 ?k3_0 ?_; (case k1_0 => k_asm); (case k2_0 => k_is); (case k3_0 => exact rfl); k_whole)))
  trivial
/-- a value that is no int -/
noncomputable def BadI (v : Value) (l : Addr) (o : Obj) : Prop := (∃ x t, v = .str x t) ∨ (∃ (b : List UInt8) (t : Tok), v = .bytes b.toArray t) ∨ ∃ its k, v = .ref l ∧ o = { cls := .type "list", data := .seq its k }
theorem key_b {b : List UInt8} {t : Tok} : KeyIs (.bytes b.toArray t) b := .inl ⟨t, rfl⟩
theorem in_cons {p : Addr × Obj} {news : List (Addr × Obj)} : ∀ q ∈ news, q ∈ p :: news := fun _ h => List.Mem.tail _ h
section
local macro_rules | `(tactic| k_all) => `(tactic| exact ne_of_lts (by assumption) (by omega))
theorem ru50 : True := by
  k_with_none
  k_with "12 eval Name" => ((k_here; (first | (with_reducible show wpAny _ _ (eval (Expr.Name _ _) (envOf _ _ _ _ _)) _ _ _) | (with_reducible show wpAny _ _ (eval (Expr.Name _ _) (envOfC _ _ _ _ _)) _ _ _) | (with_reducible show wpAny _ _ (eval (Expr.Name _ _) (envX _ _ _ _ _ _)) _ _ _)); k_dflt (first
      | (refine' nameX_K ?F_0 ?X_0 ?T_0 ?e_0 ?_ ?a_0 ?b_0; (case b_0 => kernel_rfl!); (case a_0 => rfl); (case F_0 => k_asm); (case X_0 => k_asm); (case T_0 => k_asm); (case e_0 => k_is); k_whole)
      | (refine' nameX_L ?F_0 ?v_0 ?_ ?a_0 ?b_0; (case b_0 => kernel_rfl!); (case a_0 => rfl); (case F_0 => k_asm); (case v_0 => rfl); k_whole)
      | (refine' nameX_B ?F_0 ?X_0 ?T_0 ?e_0 ?v_0 ?n_0 ?_ ?a_0 ?b_0; (case b_0 => kernel_rfl!); (case a_0 => rfl); (case F_0 => k_asm); (case X_0 => k_asm); (case T_0 => k_asm); (case e_0 => k_is); (case v_0 => boot_fast); (case n_0 => decide); k_whole))))
  k_with "12 callWith ref" => ((k_here; (with_reducible show wpAny _ _ (callWith _ (Value.ref _) _ (backTo _ (starEach (_ :: _) _)) (backToKw _ _)) _ _ _); k_dflt (refine' callWith_KW ?k1_0 ?k2_0 ?k3_0 ?_; (case k1_0 => k_asm); (case k2_0 => k_is); (case k3_0 => exact rfl); k_whole)))
  k_with "1 eval Name" => ((k_here; k_dflt (refine' nameX_L ?zF_51 ?zv_51 ?_ ?za_51 ?zb_51; (case zb_51 => kernel_rfl!); (case zF_51 => k_asm); (case za_51 => rfl); (case zv_51 => first | with_reducible assumption | rfl | assumption); k_whole)))
  k_with "3 exec Raise some none" => ((k_here; (with_reducible show wpAny _ _ (exec (Stmt.Raise (some (Expr.Call (Expr.Name (Str.ofString "ExpectedTypeError") _) _ _ _)) none _) _) _ _ _); k_dflt (refine raise_made PySem.F.excRaise_TypeError (by rfl) ?_)))
  k_with "2 exec Raise some none" => ((k_here; (with_reducible show wpAny _ _ (exec (Stmt.Raise (some (Expr.Call (Expr.Name (Str.ofString "ValueError") _) _ _ _)) none _) _) _ _ _); k_dflt (refine raise_made PySem.F.excRaise_ValueError (by rfl) ?_)))
  k_with "1 exec Raise some none" => ((k_here; (with_reducible show wpAny _ _ (exec (Stmt.Raise (some (Expr.Call (Expr.Name (Str.ofString "OverflowError") _) _ _ _)) none _) _) _ _ _); k_dflt (refine raise_made PySem.F.excRaise_OverflowError (by rfl) ?_)))
  k_with "1 call type:ValueError" => ((k_here; k_dflt (refine r_exc PySem.F.excCall_ValueError (by k_asm) (by k_asm) ?_); intro e9 t9 h9 F9 N9 n9))
  k_with "1 call type:OverflowError" => ((k_here; k_dflt (refine r_exc PySem.F.excCall_OverflowError (by k_asm) (by k_asm) ?_); intro e9 t9 h9 F9 N9 n9))
  k_with "1 call ref" => ((k_here; (with_reducible show wpAny _ _ (call (Value.ref 21) [_, Value.str _ _, Value.str _ _]) _ _ _); refine' use_conU (errT_ok _ _ _ _ _ _ ?hx_51 ?hy_51 _) ?B_51 ?F_51 ?X_51 ?N_51 ?T_51 ?hk_51 ?hd_51 ?hu_51 ?_; (case N_51 => k_asm); (case B_51 => k_asm); (case F_51 => k_asm); (case X_51 => k_asm); (case T_51 => k_asm); (case hk_51 => rfl); (case hd_51 => omega); (case hu_51 => omega); (case hx_51 => first | with_reducible assumption | decide); (case hy_51 => first | with_reducible assumption | decide); (intro r9 post9 h9 tk9 hR9 F9 N9; obtain ⟨e9, t9, hr9, hp9, n9⟩ := hR9; subst hr9; subst hp9)))
  trivial
theorem pb2_x0_t (w : World) (ra : Addr) (secret salt : List UInt8) (size : Nat) (h1 : 1 ≤ size) (h2 : size ≤ 32) (r : Int) (tr : Tok) (hr : r < 1) (kv : Value) (news : List (Addr × Obj))
    (dp un : Nat) (gd : Option (List Code)) (outer : List Env) (A₀ : Around) (base g : Heap) (L' : Addr) (h₁ : Heap) (tk : Nat) (s : Shared) (p : Program) (loose : List Str) (mean : ExcName → Option Value) (mg mb : Str → Option Value) (m : Str → Option Value) (o1 o2 o3 o4 : Obj) (v1 : Option Value) (t t2 t4 : Tok)
    (B : Below A₀ base outer g) (F : Fr g L' h₁ m) (hm1 : m (Str.ofString "digest") = some (.ref ra)) (hm2 : m (Str.ofString "secret") = some (.bytes secret.toArray t)) (hm3 : m (Str.ofString "keylen") = some (kv)) (X : (K w.params).In g) (N : News g L' h₁ ((L' + 1 + 1 + 1 + 1, o1) :: (L' + 1 + 1 + 1, o2) :: (L' + 1 + 1, o3) :: (L' + 1, o4) :: news)) (d1 : o1.data = .cell v1) (d2 : o2.data = .cell (some (.int (size : Int) t2))) (d3 : o3.data = .cell (some (.int r tr))) (d4 : o4.data = .cell (some (.bytes salt.toArray t4)))
    (T : Top p loose mean mg mb g) (l1 : ∀ p ∈ news, p.1 < L') (hd : dp + 6 < recursionLimit) (hu : un + 123 < cLine) :
    wpAny (model pw w) (ktrTop dp un gd (Str.ofString "pbkdf2_hmac") fS12 L' 82 (.ref 81) (cellsFrom (L' + 1) fS12.names []) outer) (execs pbT3 (envOfC (Str.ofString "pbkdf2_hmac") fS12 L' 82 (.ref 81))) (fun _ _ => False) (EndsX base g L' (envOfC (Str.ofString "pbkdf2_hmac") fS12 L' 82 (.ref 81) :: outer) s "ValueError" (news)) { s with heap := h₁, toks := tk } := by
  show wpAny _ _ _ _ _ _
  k_fold
  k_steps
  all_goals
    first
    | (show Thrown _ _ _ _
       exact ends_thrown (by k_asm) (by k_asm) (by assumption) (by intro p hp; repeat (first | exact hp | refine List.Mem.tail _ ?_)))
    | (show EndsX _ _ _ _ _ _ _ _ _
       exact ends_new9 (by first | assumption | exact newExc_of (by assumption)) (by k_asm) (by k_asm) (by intro p hp; repeat (first | exact hp | refine List.Mem.tail _ ?_)))
    | (show EndsX _ _ _ _ _ _ _ _ _
       exact ends_up (by assumption) (by intro p hp; repeat (first | exact hp | refine List.Mem.tail _ ?_)))
theorem pb2_x0 (w : World) (ra fh : Addr) (size block : Nat) (h1 : 1 ≤ size) (h2 : size ≤ 32) (r : Int) (tr : Tok) (hr : r < 1) (kv : Value) (ts tt : Tok) (news : List (Addr × Obj)) (HR : RowAt ra fh size block news) :
    ConX w 7 130 (.ref 82) [.ref ra, .bytes [(115 : UInt8)].toArray ts, .bytes [(116 : UInt8)].toArray tt, .int r tr, kv] [] (news) "ValueError" := by
  refine' conX_ofC (binds := [(Str.ofString "digest", .ref ra), (Str.ofString "secret", .bytes [(115 : UInt8)].toArray ts), (Str.ofString "salt", .bytes [(116 : UInt8)].toArray tt), (Str.ofString "rounds", .int r tr), (Str.ofString "keylen", kv)]) ?qo ?qcd ?qbind ?qkind ?qnd ?q1 ?q2 ?q3 ?_
  case qo => k_is
  case qcd => k_is
  case qbind => exact fun s X => by first | exact BindsTo.of_eq rfl | exact binds_K (by k_in) rfl (by k_is) rfl rfl rfl
  case qkind => exact rfl
  case qnd => decide +kernel
  case q1 => exact rfl
  case q2 => exact rfl
  case q3 => exact rfl
  intro dp un gd outer A₀ base g L' h₁ tk s p loose mean mg mb cells B F X N Y T l1 hd hu
  exact pb2_pre w ra fh _ _ _ _ _ _ key_b key_b size block (by decide) (by decide) _ (HR) dp un gd outer A₀ base g L' h₁ tk s p loose mean mg mb cells _ _ B F X N Y T l1 (by omega) (by omega) fun h' tk' m o1 o2 o3 o4 v1 t t2 t4 F9 hm1 hm2 hm3 N9 d1 d2 d3 d4 => pb2_x0_t w ra _ _ size h1 h2 r tr hr kv news dp un gd outer A₀ base g L' h' tk' s p loose mean mg mb m o1 o2 o3 o4 v1 t t2 t4 B F9 hm1 hm2 hm3 X N9 d1 d2 d3 d4 T l1 (by omega) (by omega)
theorem pb2_x2_t (w : World) (ra : Addr) (secret salt : List UInt8) (size : Nat) (h1 : 1 ≤ size) (h2 : size ≤ 32) (n : Int) (tr tn : Tok) (hn : n < 1) (news : List (Addr × Obj))
    (dp un : Nat) (gd : Option (List Code)) (outer : List Env) (A₀ : Around) (base g : Heap) (L' : Addr) (h₁ : Heap) (tk : Nat) (s : Shared) (p : Program) (loose : List Str) (mean : ExcName → Option Value) (mg mb : Str → Option Value) (m : Str → Option Value) (o1 o2 o3 o4 : Obj) (v1 : Option Value) (t t2 t4 : Tok)
    (B : Below A₀ base outer g) (F : Fr g L' h₁ m) (hm1 : m (Str.ofString "digest") = some (.ref ra)) (hm2 : m (Str.ofString "secret") = some (.bytes secret.toArray t)) (hm3 : m (Str.ofString "keylen") = some (.int n tn)) (X : (K w.params).In g) (N : News g L' h₁ ((L' + 1 + 1 + 1 + 1, o1) :: (L' + 1 + 1 + 1, o2) :: (L' + 1 + 1, o3) :: (L' + 1, o4) :: news)) (d1 : o1.data = .cell v1) (d2 : o2.data = .cell (some (.int (size : Int) t2))) (d3 : o3.data = .cell (some (.int 1 tr))) (d4 : o4.data = .cell (some (.bytes salt.toArray t4)))
    (T : Top p loose mean mg mb g) (l1 : ∀ p ∈ news, p.1 < L') (hd : dp + 6 < recursionLimit) (hu : un + 123 < cLine) :
    wpAny (model pw w) (ktrTop dp un gd (Str.ofString "pbkdf2_hmac") fS12 L' 82 (.ref 81) (cellsFrom (L' + 1) fS12.names []) outer) (execs pbT3 (envOfC (Str.ofString "pbkdf2_hmac") fS12 L' 82 (.ref 81))) (fun _ _ => False) (EndsX base g L' (envOfC (Str.ofString "pbkdf2_hmac") fS12 L' 82 (.ref 81) :: outer) s "ValueError" (news)) { s with heap := h₁, toks := tk } := by
  show wpAny _ _ _ _ _ _
  k_fold
  k_steps
  all_goals
    first
    | (show Thrown _ _ _ _
       exact ends_thrown (by k_asm) (by k_asm) (by assumption) (by intro p hp; repeat (first | exact hp | refine List.Mem.tail _ ?_)))
    | (show EndsX _ _ _ _ _ _ _ _ _
       exact ends_new9 (by first | assumption | exact newExc_of (by assumption)) (by k_asm) (by k_asm) (by intro p hp; repeat (first | exact hp | refine List.Mem.tail _ ?_)))
    | (show EndsX _ _ _ _ _ _ _ _ _
       exact ends_up (by assumption) (by intro p hp; repeat (first | exact hp | refine List.Mem.tail _ ?_)))
theorem pb2_x2 (w : World) (ra fh : Addr) (size block : Nat) (h1 : 1 ≤ size) (h2 : size ≤ 32) (n : Int) (tr tn : Tok) (hn : n < 1) (ts tt : Tok) (news : List (Addr × Obj)) (HR : RowAt ra fh size block news) :
    ConX w 7 130 (.ref 82) [.ref ra, .bytes [(115 : UInt8)].toArray ts, .bytes [(116 : UInt8)].toArray tt, .int 1 tr, .int n tn] [] (news) "ValueError" := by
  refine' conX_ofC (binds := [(Str.ofString "digest", .ref ra), (Str.ofString "secret", .bytes [(115 : UInt8)].toArray ts), (Str.ofString "salt", .bytes [(116 : UInt8)].toArray tt), (Str.ofString "rounds", .int 1 tr), (Str.ofString "keylen", .int n tn)]) ?qo ?qcd ?qbind ?qkind ?qnd ?q1 ?q2 ?q3 ?_
  case qo => k_is
  case qcd => k_is
  case qbind => exact fun s X => by first | exact BindsTo.of_eq rfl | exact binds_K (by k_in) rfl (by k_is) rfl rfl rfl
  case qkind => exact rfl
  case qnd => decide +kernel
  case q1 => exact rfl
  case q2 => exact rfl
  case q3 => exact rfl
  intro dp un gd outer A₀ base g L' h₁ tk s p loose mean mg mb cells B F X N Y T l1 hd hu
  exact pb2_pre w ra fh _ _ _ _ _ _ key_b key_b size block (by decide) (by decide) _ (HR) dp un gd outer A₀ base g L' h₁ tk s p loose mean mg mb cells _ _ B F X N Y T l1 (by omega) (by omega) fun h' tk' m o1 o2 o3 o4 v1 t t2 t4 F9 hm1 hm2 hm3 N9 d1 d2 d3 d4 => pb2_x2_t w ra _ _ size h1 h2 n tr tn hn news dp un gd outer A₀ base g L' h' tk' s p loose mean mg mb m o1 o2 o3 o4 v1 t t2 t4 B F9 hm1 hm2 hm3 X N9 d1 d2 d3 d4 T l1 (by omega) (by omega)
theorem pb2_x10_t (w : World) (ra : Addr) (secret salt : List UInt8) (size : Nat) (h1 : 1 ≤ size) (h2 : size ≤ 32) (v kv : Value) (l : Addr) (o : Obj) (hv : BadI v l o) (news : List (Addr × Obj))
    (dp un : Nat) (gd : Option (List Code)) (outer : List Env) (A₀ : Around) (base g : Heap) (L' : Addr) (h₁ : Heap) (tk : Nat) (s : Shared) (p : Program) (loose : List Str) (mean : ExcName → Option Value) (mg mb : Str → Option Value) (m : Str → Option Value) (o1 o2 o3 o4 : Obj) (v1 : Option Value) (t t2 t4 : Tok)
    (B : Below A₀ base outer g) (F : Fr g L' h₁ m) (hm1 : m (Str.ofString "digest") = some (.ref ra)) (hm2 : m (Str.ofString "secret") = some (.bytes secret.toArray t)) (hm3 : m (Str.ofString "keylen") = some (kv)) (X : (K w.params).In g) (N : News g L' h₁ ((L' + 1 + 1 + 1 + 1, o1) :: (L' + 1 + 1 + 1, o2) :: (L' + 1 + 1, o3) :: (L' + 1, o4) :: (l, o) :: news)) (d1 : o1.data = .cell v1) (d2 : o2.data = .cell (some (.int (size : Int) t2))) (d3 : o3.data = .cell (some (v))) (d4 : o4.data = .cell (some (.bytes salt.toArray t4)))
    (T : Top p loose mean mg mb g) (l1 : ∀ p ∈ (l, o) :: news, p.1 < L') (hd : dp + 6 < recursionLimit) (hu : un + 123 < cLine) :
    wpAny (model pw w) (ktrTop dp un gd (Str.ofString "pbkdf2_hmac") fS12 L' 82 (.ref 81) (cellsFrom (L' + 1) fS12.names []) outer) (execs pbT3 (envOfC (Str.ofString "pbkdf2_hmac") fS12 L' 82 (.ref 81))) (fun _ _ => False) (EndsX base g L' (envOfC (Str.ofString "pbkdf2_hmac") fS12 L' 82 (.ref 81) :: outer) s "TypeError" ((l, o) :: news)) { s with heap := h₁, toks := tk } := by
  rcases hv with ⟨x, tx, rfl⟩ | ⟨b, tb, rfl⟩ | ⟨its, kk, rfl, rfl⟩
  all_goals (
    show wpAny _ _ _ _ _ _
    k_fold
    k_steps)
  all_goals
    first
    | (show Thrown _ _ _ _
       exact ends_thrown (by k_asm) (by k_asm) (by assumption) (by intro p hp; repeat (first | exact hp | refine List.Mem.tail _ ?_)))
    | (show EndsX _ _ _ _ _ _ _ _ _
       exact ends_new9 (by first | assumption | exact newExc_of (by assumption)) (by k_asm) (by k_asm) (by intro p hp; repeat (first | exact hp | refine List.Mem.tail _ ?_)))
    | (show EndsX _ _ _ _ _ _ _ _ _
       exact ends_up (by assumption) (by intro p hp; repeat (first | exact hp | refine List.Mem.tail _ ?_)))
theorem pb2_x10 (w : World) (ra fh : Addr) (size block : Nat) (h1 : 1 ≤ size) (h2 : size ≤ 32) (v : Value) (l : Addr) (o : Obj) (hv : BadI v l o) (ts tt : Tok) (news : List (Addr × Obj)) (HR : RowAt ra fh size block news) :
    ConX w 7 130 (.ref 82) [.ref ra, .bytes [(115 : UInt8)].toArray ts, .bytes [(116 : UInt8)].toArray tt, v] [] ((l, o) :: news) "TypeError" := by
  refine' conX_ofC (binds := [(Str.ofString "digest", .ref ra), (Str.ofString "secret", .bytes [(115 : UInt8)].toArray ts), (Str.ofString "salt", .bytes [(116 : UInt8)].toArray tt), (Str.ofString "rounds", v), (Str.ofString "keylen", .none)]) ?qo ?qcd ?qbind ?qkind ?qnd ?q1 ?q2 ?q3 ?_
  case qo => k_is
  case qcd => k_is
  case qbind => exact fun s X => by first | exact BindsTo.of_eq rfl | exact binds_K (by k_in) rfl (by k_is) rfl rfl rfl
  case qkind => exact rfl
  case qnd => decide +kernel
  case q1 => exact rfl
  case q2 => exact rfl
  case q3 => exact rfl
  intro dp un gd outer A₀ base g L' h₁ tk s p loose mean mg mb cells B F X N Y T l1 hd hu
  exact pb2_pre w ra fh _ _ _ _ _ _ key_b key_b size block (by decide) (by decide) _ (HR.sub in_cons) dp un gd outer A₀ base g L' h₁ tk s p loose mean mg mb cells _ _ B F X N Y T l1 (by omega) (by omega) fun h' tk' m o1 o2 o3 o4 v1 t t2 t4 F9 hm1 hm2 hm3 N9 d1 d2 d3 d4 => pb2_x10_t w ra _ _ size h1 h2 v .none l o hv news dp un gd outer A₀ base g L' h' tk' s p loose mean mg mb m o1 o2 o3 o4 v1 t t2 t4 B F9 hm1 hm2 hm3 X N9 d1 d2 d3 d4 T l1 (by omega) (by omega)
theorem pb2_x12_t (w : World) (ra : Addr) (secret salt : List UInt8) (size : Nat) (h1 : 1 ≤ size) (h2 : size ≤ 32) (v : Value) (tr : Tok) (l : Addr) (o : Obj) (hv : BadI v l o) (news : List (Addr × Obj))
    (dp un : Nat) (gd : Option (List Code)) (outer : List Env) (A₀ : Around) (base g : Heap) (L' : Addr) (h₁ : Heap) (tk : Nat) (s : Shared) (p : Program) (loose : List Str) (mean : ExcName → Option Value) (mg mb : Str → Option Value) (m : Str → Option Value) (o1 o2 o3 o4 : Obj) (v1 : Option Value) (t t2 t4 : Tok)
    (B : Below A₀ base outer g) (F : Fr g L' h₁ m) (hm1 : m (Str.ofString "digest") = some (.ref ra)) (hm2 : m (Str.ofString "secret") = some (.bytes secret.toArray t)) (hm3 : m (Str.ofString "keylen") = some (v)) (X : (K w.params).In g) (N : News g L' h₁ ((L' + 1 + 1 + 1 + 1, o1) :: (L' + 1 + 1 + 1, o2) :: (L' + 1 + 1, o3) :: (L' + 1, o4) :: (l, o) :: news)) (d1 : o1.data = .cell v1) (d2 : o2.data = .cell (some (.int (size : Int) t2))) (d3 : o3.data = .cell (some (.int 1 tr))) (d4 : o4.data = .cell (some (.bytes salt.toArray t4)))
    (T : Top p loose mean mg mb g) (l1 : ∀ p ∈ (l, o) :: news, p.1 < L') (hd : dp + 6 < recursionLimit) (hu : un + 123 < cLine) :
    wpAny (model pw w) (ktrTop dp un gd (Str.ofString "pbkdf2_hmac") fS12 L' 82 (.ref 81) (cellsFrom (L' + 1) fS12.names []) outer) (execs pbT3 (envOfC (Str.ofString "pbkdf2_hmac") fS12 L' 82 (.ref 81))) (fun _ _ => False) (EndsX base g L' (envOfC (Str.ofString "pbkdf2_hmac") fS12 L' 82 (.ref 81) :: outer) s "TypeError" ((l, o) :: news)) { s with heap := h₁, toks := tk } := by
  rcases hv with ⟨x, tx, rfl⟩ | ⟨b, tb, rfl⟩ | ⟨its, kk, rfl, rfl⟩
  all_goals (
    show wpAny _ _ _ _ _ _
    k_fold
    k_steps)
  all_goals
    first
    | (show Thrown _ _ _ _
       exact ends_thrown (by k_asm) (by k_asm) (by assumption) (by intro p hp; repeat (first | exact hp | refine List.Mem.tail _ ?_)))
    | (show EndsX _ _ _ _ _ _ _ _ _
       exact ends_new9 (by first | assumption | exact newExc_of (by assumption)) (by k_asm) (by k_asm) (by intro p hp; repeat (first | exact hp | refine List.Mem.tail _ ?_)))
    | (show EndsX _ _ _ _ _ _ _ _ _
       exact ends_up (by assumption) (by intro p hp; repeat (first | exact hp | refine List.Mem.tail _ ?_)))
theorem pb2_x12 (w : World) (ra fh : Addr) (size block : Nat) (h1 : 1 ≤ size) (h2 : size ≤ 32) (v : Value) (tr : Tok) (l : Addr) (o : Obj) (hv : BadI v l o) (ts tt : Tok) (news : List (Addr × Obj)) (HR : RowAt ra fh size block news) :
    ConX w 7 130 (.ref 82) [.ref ra, .bytes [(115 : UInt8)].toArray ts, .bytes [(116 : UInt8)].toArray tt, .int 1 tr, v] [] ((l, o) :: news) "TypeError" := by
  refine' conX_ofC (binds := [(Str.ofString "digest", .ref ra), (Str.ofString "secret", .bytes [(115 : UInt8)].toArray ts), (Str.ofString "salt", .bytes [(116 : UInt8)].toArray tt), (Str.ofString "rounds", .int 1 tr), (Str.ofString "keylen", v)]) ?qo ?qcd ?qbind ?qkind ?qnd ?q1 ?q2 ?q3 ?_
  case qo => k_is
  case qcd => k_is
  case qbind => exact fun s X => by first | exact BindsTo.of_eq rfl | exact binds_K (by k_in) rfl (by k_is) rfl rfl rfl
  case qkind => exact rfl
  case qnd => decide +kernel
  case q1 => exact rfl
  case q2 => exact rfl
  case q3 => exact rfl
  intro dp un gd outer A₀ base g L' h₁ tk s p loose mean mg mb cells B F X N Y T l1 hd hu
  exact pb2_pre w ra fh _ _ _ _ _ _ key_b key_b size block (by decide) (by decide) _ (HR.sub in_cons) dp un gd outer A₀ base g L' h₁ tk s p loose mean mg mb cells _ _ B F X N Y T l1 (by omega) (by omega) fun h' tk' m o1 o2 o3 o4 v1 t t2 t4 F9 hm1 hm2 hm3 N9 d1 d2 d3 d4 => pb2_x12_t w ra _ _ size h1 h2 v tr l o hv news dp un gd outer A₀ base g L' h' tk' s p loose mean mg mb m o1 o2 o3 o4 v1 t t2 t4 B F9 hm1 hm2 hm3 X N9 d1 d2 d3 d4 T l1 (by omega) (by omega)
end
end Mine
end
-- F5
section
open PySem PySem.W PySem.Spec PySem.Calls PyProof.Rows PyProof.Rows.LCg
set_option maxRecDepth 100000
set_option maxHeartbeats 400000
set_option linter.unusedVariables false
namespace Mine
theorem ru54 : True := by
  k_with_none
  k_with "12 eval Name" => ((k_here; (first | (with_reducible show wpAny _ _ (eval (Expr.Name _ _) (envOf _ _ _ _ _)) _ _ _) | (with_reducible show wpAny _ _ (eval (Expr.Name _ _) (envOfC _ _ _ _ _)) _ _ _) | (with_reducible show wpAny _ _ (eval (Expr.Name _ _) (envX _ _ _ _ _ _)) _ _ _)); k_dflt (first
      | (refine' nameX_K ?F_0 ?X_0 ?T_0 ?e_0 ?_ ?a_0 ?b_0; (case b_0 => kernel_rfl!); (case a_0 => rfl); (case F_0 => k_asm); (case X_0 => k_asm); (case T_0 => k_asm); (case e_0 => k_is); k_whole)
      | (refine' nameX_L ?F_0 ?v_0 ?_ ?a_0 ?b_0; (case b_0 => kernel_rfl!); (case a_0 => rfl); (case F_0 => k_asm); (case v_0 => rfl); k_whole)
      | (refine' nameX_B ?F_0 ?X_0 ?T_0 ?e_0 ?v_0 ?n_0 ?_ ?a_0 ?b_0; (case b_0 => kernel_rfl!); (case a_0 => rfl); (case F_0 => k_asm); (case X_0 => k_asm); (case T_0 => k_asm); (case e_0 => k_is); (case v_0 => boot_fast); (case n_0 => decide); k_whole))))
  k_with "12 callWith ref" => ((k_here; (with_reducible show wpAny _ _ (callWith _ (Value.ref _) _ (backTo _ (starEach (_ :: _) _)) (backToKw _ _)) _ _ _); k_dflt (refine' callWith_KW ?k1_0 ?k2_0 ?k3_0 ?_; (case k1_0 => k_asm); (case k2_0 => k_is); (case k3_0 => exact rfl); k_whole)))
  trivial
theorem many {size : Nat} {far : Nat} (h1 : 1 ≤ size) : ∃ n : Nat, ((size : Int) * 4294967295 + 1 + (far : Int) + (size : Int) - 1).fdiv (size : Int) = (n : Int) ∧ 4294967295 < n := by
  refine ⟨(size * 4294967295 + far + size) / size, ?_, ?_⟩
  · rw [show (size : Int) * 4294967295 + 1 + (far : Int) + (size : Int) - 1 = ((size * 4294967295 + far + size : Nat) : Int) by omega, Int.fdiv_eq_ediv_of_nonneg _ (by omega)]
    rfl
  · have : size * 4294967296 ≤ size * 4294967295 + far + size := by omega
    exact Nat.lt_of_lt_of_le (by decide : 4294967295 < 4294967296) ((Nat.le_div_iff_mul_le (by omega)).mpr (by rw [Nat.mul_comm]; exact this))
theorem conX_mem {w : World} {D U : Nat} {f : Value} {vs : List Value} {kw : List (Str × Value)} {news : List (Addr × Obj)} {cls : String} {q : Addr × Obj} (C : ConX w D U f vs kw (q :: news) cls) (hm : q ∈ news) : ConX w D U f vs kw news cls := by
  intro dp un gd cn cs a ccd cl outer A₀ base h₀ L m s Q E p loose mean mg mb B F X N T hk hd hu hE
  refine C dp un gd cn cs a ccd cl outer A₀ base h₀ L m s Q E p loose mean mg mb B F X (news_sub N fun p hp => ?_) T hk hd hu fun e h' tk' u => ?_
  · rcases List.mem_cons.mp hp with rfl | hp
    · exact hm
    · exact hp
  · obtain ⟨G, hF, R, hu⟩ := u
    exact hE e h' tk' ⟨G, hF, raised_sub R fun p hp => List.Mem.tail _ hp, hu⟩
theorem one_block {size : Nat} (h1 : 1 ≤ size) : ((size : Int) + (size : Int) - 1).fdiv (size : Int) = ((1 : Nat) : Int) := by
  have := count_eq h1 h1
  rw [this, Nat.div_eq_of_lt (by omega)]
section
local macro_rules | `(tactic| k_all) => `(tactic| exact ne_of_lts (by assumption) (by omega))
theorem ru52 : True := by
  k_with_none
  k_with "12 eval Name" => ((k_here; (first | (with_reducible show wpAny _ _ (eval (Expr.Name _ _) (envOf _ _ _ _ _)) _ _ _) | (with_reducible show wpAny _ _ (eval (Expr.Name _ _) (envOfC _ _ _ _ _)) _ _ _) | (with_reducible show wpAny _ _ (eval (Expr.Name _ _) (envX _ _ _ _ _ _)) _ _ _)); k_dflt (first
      | (refine' nameX_K ?F_0 ?X_0 ?T_0 ?e_0 ?_ ?a_0 ?b_0; (case b_0 => kernel_rfl!); (case a_0 => rfl); (case F_0 => k_asm); (case X_0 => k_asm); (case T_0 => k_asm); (case e_0 => k_is); k_whole)
      | (refine' nameX_L ?F_0 ?v_0 ?_ ?a_0 ?b_0; (case b_0 => kernel_rfl!); (case a_0 => rfl); (case F_0 => k_asm); (case v_0 => rfl); k_whole)
      | (refine' nameX_B ?F_0 ?X_0 ?T_0 ?e_0 ?v_0 ?n_0 ?_ ?a_0 ?b_0; (case b_0 => kernel_rfl!); (case a_0 => rfl); (case F_0 => k_asm); (case X_0 => k_asm); (case T_0 => k_asm); (case e_0 => k_is); (case v_0 => boot_fast); (case n_0 => decide); k_whole))))
  k_with "12 callWith ref" => ((k_here; (with_reducible show wpAny _ _ (callWith _ (Value.ref _) _ (backTo _ (starEach (_ :: _) _)) (backToKw _ _)) _ _ _); k_dflt (refine' callWith_KW ?k1_0 ?k2_0 ?k3_0 ?_; (case k1_0 => k_asm); (case k2_0 => k_is); (case k3_0 => exact rfl); k_whole)))
  k_with "1 eval Name" => ((k_here; k_dflt (refine' nameX_L ?zF_52 ?zv_52 ?_ ?za_52 ?zb_52; (case zb_52 => kernel_rfl!); (case zF_52 => k_asm); (case za_52 => rfl); (case zv_52 => first | with_reducible assumption | rfl | assumption); k_whole)))
  k_with "3 exec Raise some none" => ((k_here; (with_reducible show wpAny _ _ (exec (Stmt.Raise (some (Expr.Call (Expr.Name (Str.ofString "ExpectedTypeError") _) _ _ _)) none _) _) _ _ _); k_dflt (refine raise_made PySem.F.excRaise_TypeError (by rfl) ?_)))
  k_with "2 exec Raise some none" => ((k_here; (with_reducible show wpAny _ _ (exec (Stmt.Raise (some (Expr.Call (Expr.Name (Str.ofString "ValueError") _) _ _ _)) none _) _) _ _ _); k_dflt (refine raise_made PySem.F.excRaise_ValueError (by rfl) ?_)))
  k_with "1 exec Raise some none" => ((k_here; (with_reducible show wpAny _ _ (exec (Stmt.Raise (some (Expr.Call (Expr.Name (Str.ofString "OverflowError") _) _ _ _)) none _) _) _ _ _); k_dflt (refine raise_made PySem.F.excRaise_OverflowError (by rfl) ?_)))
  k_with "1 call type:ValueError" => ((k_here; k_dflt (refine r_exc PySem.F.excCall_ValueError (by k_asm) (by k_asm) ?_); intro e9 t9 h9 F9 N9 n9))
  k_with "1 call type:OverflowError" => ((k_here; k_dflt (refine r_exc PySem.F.excCall_OverflowError (by k_asm) (by k_asm) ?_); intro e9 t9 h9 F9 N9 n9))
  k_with "1 call ref" => ((k_here; (with_reducible show wpAny _ _ (call (Value.ref 21) [_, Value.str _ _, Value.str _ _]) _ _ _); refine' use_conU (errT_ok _ _ _ _ _ _ ?hx_52 ?hy_52 _) ?B_52 ?F_52 ?X_52 ?N_52 ?T_52 ?hk_52 ?hd_52 ?hu_52 ?_; (case N_52 => k_asm); (case B_52 => k_asm); (case F_52 => k_asm); (case X_52 => k_asm); (case T_52 => k_asm); (case hk_52 => rfl); (case hd_52 => omega); (case hu_52 => omega); (case hx_52 => first | with_reducible assumption | decide); (case hy_52 => first | with_reducible assumption | decide); (intro r9 post9 h9 tk9 hR9 F9 N9; obtain ⟨e9, t9, hr9, hp9, n9⟩ := hR9; subst hr9; subst hp9)))
  k_with "1 binaryOp FloorDiv int int" => ((k_here; k_dflt (refine r_fdivN (by omega) (by omega) (by assumption) ?_); intro _ _))
  trivial
theorem pb2_x5_t (w : World) (ra : Addr) (secret salt : List UInt8) (size : Nat) (h1 : 1 ≤ size) (h2 : size ≤ 32) (far n : Nat) (tr tn : Tok) (hn : ((size : Int) * 4294967295 + 1 + (far : Int) + (size : Int) - 1).fdiv (size : Int) = (n : Int)) (hn2 : 4294967295 < n) (news : List (Addr × Obj))
    (dp un : Nat) (gd : Option (List Code)) (outer : List Env) (A₀ : Around) (base g : Heap) (L' : Addr) (h₁ : Heap) (tk : Nat) (s : Shared) (p : Program) (loose : List Str) (mean : ExcName → Option Value) (mg mb : Str → Option Value) (m : Str → Option Value) (o1 o2 o3 o4 : Obj) (v1 : Option Value) (t t2 t4 : Tok)
    (B : Below A₀ base outer g) (F : Fr g L' h₁ m) (hm1 : m (Str.ofString "digest") = some (.ref ra)) (hm2 : m (Str.ofString "secret") = some (.bytes secret.toArray t)) (hm3 : m (Str.ofString "keylen") = some (.int ((size : Int) * 4294967295 + 1 + (far : Int)) tn)) (X : (K w.params).In g) (N : News g L' h₁ ((L' + 1 + 1 + 1 + 1, o1) :: (L' + 1 + 1 + 1, o2) :: (L' + 1 + 1, o3) :: (L' + 1, o4) :: news)) (d1 : o1.data = .cell v1) (d2 : o2.data = .cell (some (.int (size : Int) t2))) (d3 : o3.data = .cell (some (.int 1 tr))) (d4 : o4.data = .cell (some (.bytes salt.toArray t4)))
    (T : Top p loose mean mg mb g) (l1 : ∀ p ∈ news, p.1 < L') (hd : dp + 6 < recursionLimit) (hu : un + 123 < cLine) :
    wpAny (model pw w) (ktrTop dp un gd (Str.ofString "pbkdf2_hmac") fS12 L' 82 (.ref 81) (cellsFrom (L' + 1) fS12.names []) outer) (execs pbT3 (envOfC (Str.ofString "pbkdf2_hmac") fS12 L' 82 (.ref 81))) (fun _ _ => False) (EndsX base g L' (envOfC (Str.ofString "pbkdf2_hmac") fS12 L' 82 (.ref 81) :: outer) s "OverflowError" (news)) { s with heap := h₁, toks := tk } := by
  show wpAny _ _ _ _ _ _
  k_fold
  k_steps
  all_goals
    first
    | (show Thrown _ _ _ _
       exact ends_thrown (by k_asm) (by k_asm) (by assumption) (by intro p hp; repeat (first | exact hp | refine List.Mem.tail _ ?_)))
    | (show EndsX _ _ _ _ _ _ _ _ _
       exact ends_new9 (by first | assumption | exact newExc_of (by assumption)) (by k_asm) (by k_asm) (by intro p hp; repeat (first | exact hp | refine List.Mem.tail _ ?_)))
    | (show EndsX _ _ _ _ _ _ _ _ _
       exact ends_up (by assumption) (by intro p hp; repeat (first | exact hp | refine List.Mem.tail _ ?_)))
theorem pb2_x5 (w : World) (ra fh : Addr) (size block : Nat) (h1 : 1 ≤ size) (h2 : size ≤ 32) (far : Nat) (tr tn : Tok) (ts tt : Tok) (news : List (Addr × Obj)) (HR : RowAt ra fh size block news) :
    ConX w 7 130 (.ref 82) [.ref ra, .bytes [(115 : UInt8)].toArray ts, .bytes [(116 : UInt8)].toArray tt, .int 1 tr, .int ((size : Int) * 4294967295 + 1 + (far : Int)) tn] [] (news) "OverflowError" := by
  have hn := many (far := far) h1
  refine' conX_ofC (binds := [(Str.ofString "digest", .ref ra), (Str.ofString "secret", .bytes [(115 : UInt8)].toArray ts), (Str.ofString "salt", .bytes [(116 : UInt8)].toArray tt), (Str.ofString "rounds", .int 1 tr), (Str.ofString "keylen", .int ((size : Int) * 4294967295 + 1 + (far : Int)) tn)]) ?qo ?qcd ?qbind ?qkind ?qnd ?q1 ?q2 ?q3 ?_
  case qo => k_is
  case qcd => k_is
  case qbind => exact fun s X => by first | exact BindsTo.of_eq rfl | exact binds_K (by k_in) rfl (by k_is) rfl rfl rfl
  case qkind => exact rfl
  case qnd => decide +kernel
  case q1 => exact rfl
  case q2 => exact rfl
  case q3 => exact rfl
  intro dp un gd outer A₀ base g L' h₁ tk s p loose mean mg mb cells B F X N Y T l1 hd hu
  exact pb2_pre w ra fh _ _ _ _ _ _ key_b key_b size block (by decide) (by decide) _ (HR) dp un gd outer A₀ base g L' h₁ tk s p loose mean mg mb cells _ _ B F X N Y T l1 (by omega) (by omega) fun h' tk' m o1 o2 o3 o4 v1 t t2 t4 F9 hm1 hm2 hm3 N9 d1 d2 d3 d4 => pb2_x5_t w ra _ _ size h1 h2 far _ tr tn hn.choose_spec.1 hn.choose_spec.2 news dp un gd outer A₀ base g L' h' tk' s p loose mean mg mb m o1 o2 o3 o4 v1 t t2 t4 B F9 hm1 hm2 hm3 X N9 d1 d2 d3 d4 T l1 (by omega) (by omega)
end
section
local macro_rules | `(tactic| k_all) => `(tactic| exact ne_of_lts (by assumption) (by omega))
theorem ru53 : True := by
  k_with_none
  k_with "12 eval Name" => ((k_here; (first | (with_reducible show wpAny _ _ (eval (Expr.Name _ _) (envOf _ _ _ _ _)) _ _ _) | (with_reducible show wpAny _ _ (eval (Expr.Name _ _) (envOfC _ _ _ _ _)) _ _ _) | (with_reducible show wpAny _ _ (eval (Expr.Name _ _) (envX _ _ _ _ _ _)) _ _ _)); k_dflt (first
      | (refine' nameX_K ?F_0 ?X_0 ?T_0 ?e_0 ?_ ?a_0 ?b_0; (case b_0 => kernel_rfl!); (case a_0 => rfl); (case F_0 => k_asm); (case X_0 => k_asm); (case T_0 => k_asm); (case e_0 => k_is); k_whole)
      | (refine' nameX_L ?F_0 ?v_0 ?_ ?a_0 ?b_0; (case b_0 => kernel_rfl!); (case a_0 => rfl); (case F_0 => k_asm); (case v_0 => rfl); k_whole)
      | (refine' nameX_B ?F_0 ?X_0 ?T_0 ?e_0 ?v_0 ?n_0 ?_ ?a_0 ?b_0; (case b_0 => kernel_rfl!); (case a_0 => rfl); (case F_0 => k_asm); (case X_0 => k_asm); (case T_0 => k_asm); (case e_0 => k_is); (case v_0 => boot_fast); (case n_0 => decide); k_whole))))
  k_with "12 callWith ref" => ((k_here; (with_reducible show wpAny _ _ (callWith _ (Value.ref _) _ (backTo _ (starEach (_ :: _) _)) (backToKw _ _)) _ _ _); k_dflt (refine' callWith_KW ?k1_0 ?k2_0 ?k3_0 ?_; (case k1_0 => k_asm); (case k2_0 => k_is); (case k3_0 => exact rfl); k_whole)))
  k_with "1 assign Tuple" => ((k_here; k_dflt (refine' unpackN_ ?k1_52 ?k2_52 ?k3_52 ?k4_52 ?k5_52 ?k6_52 ?_; (case k1_52 => k_asm); (case k2_52 => k_asm); (case k3_52 => exact News.isTup (by k_asm) (by (repeat (first | assumption | refine List.Mem.tail _ ?_)))); (case k4_52 => exact rfl); (case k5_52 => exact rfl); (case k6_52 => exact rfl); k_whole); intro h' F' N'; (try k_sweep)))
  k_with "1 call ref" => ((k_here; (with_reducible show wpAny _ _ (call (Value.ref 36) [_] _) _ _ _); refine' use_conX (conX_mem (bad1 w _ _ _ ?hy_52 _ l _ hv) ?hm_52) ?B_52 ?F_52 ?X_52 ?N_52 ?T_52 ?hk_52 ?hd_52 ?hu_52 ?_; (case hy_52 => decide); (case N_52 => k_asm); (case hm_52 => (repeat (first | exact List.Mem.head _ | refine List.Mem.tail _ ?_))); (case B_52 => k_asm); (case F_52 => k_asm); (case X_52 => k_asm); (case T_52 => k_asm); (case hk_52 => rfl); (case hd_52 => omega); (case hu_52 => omega); (intro e9 h9 tk9 u9)))
  trivial
theorem make_x14 (w : World) (ra fh : Addr) (v : Value) (l : Addr) (o : Obj) (size block : Nat) (h5 : 16 ≤ block) (rest : List (Addr × Obj)) (HR : RowAt ra fh size block rest)
    (hv : v = .none ∨ (∃ n t, v = .int n t) ∨ (∃ its k, v = .ref l ∧ o = { cls := .type "list", data := .seq its k }) ∨ ∃ its k, v = .ref l ∧ o = { cls := .type "tuple", data := .seq its k }) :
    ConX w 6 120 (.ref 61) [.ref ra, v] [] ((l, o) :: rest) "TypeError" := by
  obtain ⟨t1, t2, HR⟩ := HR
  refine' conX_ofC (binds := [(Str.ofString "digest", .ref ra), (Str.ofString "key", v)]) ?qo ?qcd ?qbind ?qkind ?qnd ?q1 ?q2 ?q3 ?_
  case qo => k_is
  case qcd => k_is
  case qbind => exact fun s _ => BindsTo.of_eq rfl
  case qkind => exact rfl
  case qnd => decide +kernel
  case q1 => exact rfl
  case q2 => exact rfl
  case q3 => exact rfl
  intro dp un gd outer A₀ base g L' h₁ tk s p loose mean mg mb cells B F X N Y T l1 hd hu
  k_cells Y
  (try simp only [List.cons_append, List.nil_append] at N)
  (try dsimp only)
  have hv2 := hv
  rcases hv2 with hkk | ⟨n, t, hkk⟩ | ⟨its, k, hkk, hoo⟩ | ⟨its, k, hkk, hoo⟩
  all_goals (
    subst hkk
    (try subst hoo)
    show wpAny _ _ _ _ _ _
    k_fold
    k_steps)
  all_goals
    first
    | (show EndsX _ _ _ _ _ _ _ _ _
       exact ends_up (by assumption) (by intro p hp; repeat (first | exact hp | refine List.Mem.tail _ ?_)))
theorem make_x15 (w : World) (ra fh : Addr) (kv : Value) (size block : Nat) (h5 : block < 16) (news : List (Addr × Obj)) (HR : RowAt ra fh size block news) :
    ConX w 6 120 (.ref 61) [.ref ra, kv] [] news "AssertionError" := by
  obtain ⟨t1, t2, HR⟩ := HR
  refine' conX_ofC (binds := [(Str.ofString "digest", .ref ra), (Str.ofString "key", kv)]) ?qo ?qcd ?qbind ?qkind ?qnd ?q1 ?q2 ?q3 ?_
  case qo => k_is
  case qcd => k_is
  case qbind => exact fun s _ => BindsTo.of_eq rfl
  case qkind => exact rfl
  case qnd => decide +kernel
  case q1 => exact rfl
  case q2 => exact rfl
  case q3 => exact rfl
  intro dp un gd outer A₀ base g L' h₁ tk s p loose mean mg mb cells B F X N Y T l1 hd hu
  k_cells Y
  (try simp only [List.cons_append, List.nil_append] at N)
  (try dsimp only)
  show wpAny _ _ _ _ _ _
  k_fold
  k_steps
  all_goals
    exact ends_new9 (by assumption) (by k_asm) (by k_asm) (by intro p hp; repeat (first | exact hp | refine List.Mem.tail _ ?_))
end
end Mine
end
-- F6
section
open PySem PySem.W PySem.Spec PySem.Calls PyProof.Rows PyProof.Rows.LCg
set_option maxRecDepth 100000
set_option maxHeartbeats 400000
set_option linter.unusedVariables false
namespace Mine
theorem ru57 : True := by
  k_with_none
  k_with "12 eval Name" => ((k_here; (first | (with_reducible show wpAny _ _ (eval (Expr.Name _ _) (envOf _ _ _ _ _)) _ _ _) | (with_reducible show wpAny _ _ (eval (Expr.Name _ _) (envOfC _ _ _ _ _)) _ _ _) | (with_reducible show wpAny _ _ (eval (Expr.Name _ _) (envX _ _ _ _ _ _)) _ _ _)); k_dflt (first
      | (refine' nameX_K ?F_0 ?X_0 ?T_0 ?e_0 ?_ ?a_0 ?b_0; (case b_0 => kernel_rfl!); (case a_0 => rfl); (case F_0 => k_asm); (case X_0 => k_asm); (case T_0 => k_asm); (case e_0 => k_is); k_whole)
      | (refine' nameX_L ?F_0 ?v_0 ?_ ?a_0 ?b_0; (case b_0 => kernel_rfl!); (case a_0 => rfl); (case F_0 => k_asm); (case v_0 => rfl); k_whole)
      | (refine' nameX_B ?F_0 ?X_0 ?T_0 ?e_0 ?v_0 ?n_0 ?_ ?a_0 ?b_0; (case b_0 => kernel_rfl!); (case a_0 => rfl); (case F_0 => k_asm); (case X_0 => k_asm); (case T_0 => k_asm); (case e_0 => k_is); (case v_0 => boot_fast); (case n_0 => decide); k_whole))))
  k_with "12 callWith ref" => ((k_here; (with_reducible show wpAny _ _ (callWith _ (Value.ref _) _ (backTo _ (starEach (_ :: _) _)) (backToKw _ _)) _ _ _); k_dflt (refine' callWith_KW ?k1_0 ?k2_0 ?k3_0 ?_; (case k1_0 => k_asm); (case k2_0 => k_is); (case k3_0 => exact rfl); k_whole)))
  trivial
/-- a value that is neither octets nor a text, with its object -/
noncomputable abbrev BadK (v : Value) (l : Addr) (o : Obj) : Prop := v = .none ∨ (∃ n t, v = .int n t) ∨ (∃ its k, v = .ref l ∧ o = { cls := .type "list", data := .seq its k }) ∨ ∃ its k, v = .ref l ∧ o = { cls := .type "tuple", data := .seq its k }
section
local macro_rules | `(tactic| k_all) => `(tactic| exact ne_of_lts (by assumption) (by omega))
theorem ru55 : True := by
  k_with_none
  k_with "12 eval Name" => ((k_here; (first | (with_reducible show wpAny _ _ (eval (Expr.Name _ _) (envOf _ _ _ _ _)) _ _ _) | (with_reducible show wpAny _ _ (eval (Expr.Name _ _) (envOfC _ _ _ _ _)) _ _ _) | (with_reducible show wpAny _ _ (eval (Expr.Name _ _) (envX _ _ _ _ _ _)) _ _ _)); k_dflt (first
      | (refine' nameX_K ?F_0 ?X_0 ?T_0 ?e_0 ?_ ?a_0 ?b_0; (case b_0 => kernel_rfl!); (case a_0 => rfl); (case F_0 => k_asm); (case X_0 => k_asm); (case T_0 => k_asm); (case e_0 => k_is); k_whole)
      | (refine' nameX_L ?F_0 ?v_0 ?_ ?a_0 ?b_0; (case b_0 => kernel_rfl!); (case a_0 => rfl); (case F_0 => k_asm); (case v_0 => rfl); k_whole)
      | (refine' nameX_B ?F_0 ?X_0 ?T_0 ?e_0 ?v_0 ?n_0 ?_ ?a_0 ?b_0; (case b_0 => kernel_rfl!); (case a_0 => rfl); (case F_0 => k_asm); (case X_0 => k_asm); (case T_0 => k_asm); (case e_0 => k_is); (case v_0 => boot_fast); (case n_0 => decide); k_whole))))
  k_with "12 callWith ref" => ((k_here; (with_reducible show wpAny _ _ (callWith _ (Value.ref _) _ (backTo _ (starEach (_ :: _) _)) (backToKw _ _)) _ _ _); k_dflt (refine' callWith_KW ?k1_0 ?k2_0 ?k3_0 ?_; (case k1_0 => k_asm); (case k2_0 => k_is); (case k3_0 => exact rfl); k_whole)))
  k_with "1 eval Name" => ((k_here; k_dflt (refine' nameX_L ?zF_53 ?zv_53 ?_ ?za_53 ?zb_53; (case zb_53 => kernel_rfl!); (case zF_53 => k_asm); (case za_53 => rfl); (case zv_53 => first | with_reducible assumption | rfl | assumption); k_whole)))
  k_with "3 exec Raise some none" => ((k_here; (with_reducible show wpAny _ _ (exec (Stmt.Raise (some (Expr.Call (Expr.Name (Str.ofString "ExpectedTypeError") _) _ _ _)) none _) _) _ _ _); k_dflt (refine raise_made PySem.F.excRaise_TypeError (by rfl) ?_)))
  k_with "2 exec Raise some none" => ((k_here; (with_reducible show wpAny _ _ (exec (Stmt.Raise (some (Expr.Call (Expr.Name (Str.ofString "ValueError") _) _ _ _)) none _) _) _ _ _); k_dflt (refine raise_made PySem.F.excRaise_ValueError (by rfl) ?_)))
  k_with "1 exec Raise some none" => ((k_here; (with_reducible show wpAny _ _ (exec (Stmt.Raise (some (Expr.Call (Expr.Name (Str.ofString "OverflowError") _) _ _ _)) none _) _) _ _ _); k_dflt (refine raise_made PySem.F.excRaise_OverflowError (by rfl) ?_)))
  k_with "1 call type:ValueError" => ((k_here; k_dflt (refine r_exc PySem.F.excCall_ValueError (by k_asm) (by k_asm) ?_); intro e9 t9 h9 F9 N9 n9))
  k_with "1 call type:OverflowError" => ((k_here; k_dflt (refine r_exc PySem.F.excCall_OverflowError (by k_asm) (by k_asm) ?_); intro e9 t9 h9 F9 N9 n9))
  k_with "2 call ref" => ((k_here; (with_reducible show wpAny _ _ (call (Value.ref 21) [_, Value.str _ _, Value.str _ _]) _ _ _); refine' use_conU (errT_ok _ _ _ _ _ _ ?hx_53 ?hy_53 _) ?B_53 ?F_53 ?X_53 ?N_53 ?T_53 ?hk_53 ?hd_53 ?hu_53 ?_; (case N_53 => k_asm); (case B_53 => k_asm); (case F_53 => k_asm); (case X_53 => k_asm); (case T_53 => k_asm); (case hk_53 => rfl); (case hd_53 => omega); (case hu_53 => omega); (case hx_53 => first | with_reducible assumption | decide); (case hy_53 => first | with_reducible assumption | decide); (intro r9 post9 h9 tk9 hR9 F9 N9; obtain ⟨e9, t9, hr9, hp9, n9⟩ := hR9; subst hr9; subst hp9)))
  k_with "1 binaryOp FloorDiv int int" => ((k_here; k_dflt (refine r_fdivN (by omega) (by omega) (one_block (by assumption)) ?_); intro _ _))
  k_with "1 call ref" => ((k_here; (with_reducible show wpAny _ _ (call (Value.ref 61) [_, _]) _ _ _); refine' use_conX (make_x15 w ra fh _ size block h5 _ (HR.sub ?hR_53)) ?B_53 ?F_53 ?X_53 ?N_53 ?T_53 ?hk_53 ?hd_53 ?hu_53 ?_; (case N_53 => k_asm); (case hR_53 => (intro p hp; repeat (first | exact hp | refine List.Mem.tail _ ?_))); (case B_53 => k_asm); (case F_53 => k_asm); (case X_53 => k_asm); (case T_53 => k_asm); (case hk_53 => rfl); (case hd_53 => omega); (case hu_53 => omega); (intro e9 h9 tk9 u9)))
  trivial
theorem pb2_x16_t (w : World) (ra : Addr) (secret salt : List UInt8) (size : Nat) (h1 : 1 ≤ size) (h2 : size ≤ 32) (fh : Addr) (block : Nat) (h5 : block < 16) (tr : Tok) (news : List (Addr × Obj)) (HR : RowAt ra fh size block news)
    (dp un : Nat) (gd : Option (List Code)) (outer : List Env) (A₀ : Around) (base g : Heap) (L' : Addr) (h₁ : Heap) (tk : Nat) (s : Shared) (p : Program) (loose : List Str) (mean : ExcName → Option Value) (mg mb : Str → Option Value) (m : Str → Option Value) (o1 o2 o3 o4 : Obj) (v1 : Option Value) (t t2 t4 : Tok)
    (B : Below A₀ base outer g) (F : Fr g L' h₁ m) (hm1 : m (Str.ofString "digest") = some (.ref ra)) (hm2 : m (Str.ofString "secret") = some (.bytes secret.toArray t)) (hm3 : m (Str.ofString "keylen") = some (.none)) (X : (K w.params).In g) (N : News g L' h₁ ((L' + 1 + 1 + 1 + 1, o1) :: (L' + 1 + 1 + 1, o2) :: (L' + 1 + 1, o3) :: (L' + 1, o4) :: news)) (d1 : o1.data = .cell v1) (d2 : o2.data = .cell (some (.int (size : Int) t2))) (d3 : o3.data = .cell (some (.int 1 tr))) (d4 : o4.data = .cell (some (.bytes salt.toArray t4)))
    (T : Top p loose mean mg mb g) (l1 : ∀ p ∈ news, p.1 < L') (hd : dp + 6 < recursionLimit) (hu : un + 123 < cLine) :
    wpAny (model pw w) (ktrTop dp un gd (Str.ofString "pbkdf2_hmac") fS12 L' 82 (.ref 81) (cellsFrom (L' + 1) fS12.names []) outer) (execs pbT3 (envOfC (Str.ofString "pbkdf2_hmac") fS12 L' 82 (.ref 81))) (fun _ _ => False) (EndsX base g L' (envOfC (Str.ofString "pbkdf2_hmac") fS12 L' 82 (.ref 81) :: outer) s "AssertionError" (news)) { s with heap := h₁, toks := tk } := by
  show wpAny _ _ _ _ _ _
  k_fold
  k_steps
  all_goals
    first
    | (show Thrown _ _ _ _
       exact ends_thrown (by k_asm) (by k_asm) (by assumption) (by intro p hp; repeat (first | exact hp | refine List.Mem.tail _ ?_)))
    | (show EndsX _ _ _ _ _ _ _ _ _
       exact ends_new9 (by first | assumption | exact newExc_of (by assumption)) (by k_asm) (by k_asm) (by intro p hp; repeat (first | exact hp | refine List.Mem.tail _ ?_)))
    | (show EndsX _ _ _ _ _ _ _ _ _
       exact ends_up (by assumption) (by intro p hp; repeat (first | exact hp | refine List.Mem.tail _ ?_)))
theorem pb2_x16 (w : World) (ra fh : Addr) (size block : Nat) (h1 : 1 ≤ size) (h2 : size ≤ 32) (h5 : block < 16) (tr : Tok) (ts tt : Tok) (news : List (Addr × Obj)) (HR : RowAt ra fh size block news) :
    ConX w 7 130 (.ref 82) [.ref ra, .bytes [(115 : UInt8)].toArray ts, .bytes [(116 : UInt8)].toArray tt, .int 1 tr] [] (news) "AssertionError" := by
  refine' conX_ofC (binds := [(Str.ofString "digest", .ref ra), (Str.ofString "secret", .bytes [(115 : UInt8)].toArray ts), (Str.ofString "salt", .bytes [(116 : UInt8)].toArray tt), (Str.ofString "rounds", .int 1 tr), (Str.ofString "keylen", .none)]) ?qo ?qcd ?qbind ?qkind ?qnd ?q1 ?q2 ?q3 ?_
  case qo => k_is
  case qcd => k_is
  case qbind => exact fun s X => by first | exact BindsTo.of_eq rfl | exact binds_K (by k_in) rfl (by k_is) rfl rfl rfl
  case qkind => exact rfl
  case qnd => decide +kernel
  case q1 => exact rfl
  case q2 => exact rfl
  case q3 => exact rfl
  intro dp un gd outer A₀ base g L' h₁ tk s p loose mean mg mb cells B F X N Y T l1 hd hu
  exact pb2_pre w ra fh _ _ _ _ _ _ key_b key_b size block (by decide) (by decide) _ (HR) dp un gd outer A₀ base g L' h₁ tk s p loose mean mg mb cells _ _ B F X N Y T l1 (by omega) (by omega) fun h' tk' m o1 o2 o3 o4 v1 t t2 t4 F9 hm1 hm2 hm3 N9 d1 d2 d3 d4 => pb2_x16_t w ra _ _ size h1 h2 fh block h5 tr news HR dp un gd outer A₀ base g L' h' tk' s p loose mean mg mb m o1 o2 o3 o4 v1 t t2 t4 B F9 hm1 hm2 hm3 X N9 d1 d2 d3 d4 T l1 (by omega) (by omega)
end
section
local macro_rules | `(tactic| k_all) => `(tactic| exact ne_of_lts (by assumption) (by omega))
theorem ru56 : True := by
  k_with_none
  k_with "12 eval Name" => ((k_here; (first | (with_reducible show wpAny _ _ (eval (Expr.Name _ _) (envOf _ _ _ _ _)) _ _ _) | (with_reducible show wpAny _ _ (eval (Expr.Name _ _) (envOfC _ _ _ _ _)) _ _ _) | (with_reducible show wpAny _ _ (eval (Expr.Name _ _) (envX _ _ _ _ _ _)) _ _ _)); k_dflt (first
      | (refine' nameX_K ?F_0 ?X_0 ?T_0 ?e_0 ?_ ?a_0 ?b_0; (case b_0 => kernel_rfl!); (case a_0 => rfl); (case F_0 => k_asm); (case X_0 => k_asm); (case T_0 => k_asm); (case e_0 => k_is); k_whole)
      | (refine' nameX_L ?F_0 ?v_0 ?_ ?a_0 ?b_0; (case b_0 => kernel_rfl!); (case a_0 => rfl); (case F_0 => k_asm); (case v_0 => rfl); k_whole)
      | (refine' nameX_B ?F_0 ?X_0 ?T_0 ?e_0 ?v_0 ?n_0 ?_ ?a_0 ?b_0; (case b_0 => kernel_rfl!); (case a_0 => rfl); (case F_0 => k_asm); (case X_0 => k_asm); (case T_0 => k_asm); (case e_0 => k_is); (case v_0 => boot_fast); (case n_0 => decide); k_whole))))
  k_with "12 callWith ref" => ((k_here; (with_reducible show wpAny _ _ (callWith _ (Value.ref _) _ (backTo _ (starEach (_ :: _) _)) (backToKw _ _)) _ _ _); k_dflt (refine' callWith_KW ?k1_0 ?k2_0 ?k3_0 ?_; (case k1_0 => k_asm); (case k2_0 => k_is); (case k3_0 => exact rfl); k_whole)))
  k_with "2 call ref" => ((k_here; (with_reducible show wpAny _ _ (call (Value.ref 36) [_] _) _ _ _); refine' use_conKw (bytes_of _ _ _ ?hK_53 ?hz_53 _ _ _) ?B_53 ?F_53 ?X_53 ?N_53 ?T_53 ?hk_53 ?hd_53 ?hu_53 ?_; (case hK_53 => exact key_b); (case hz_53 => decide); (case N_53 => k_asm); (case B_53 => k_asm); (case F_53 => k_asm); (case X_53 => k_asm); (case T_53 => k_asm); (case hk_53 => rfl); (case hd_53 => omega); (case hu_53 => omega); (intro r9 new9 h9 tk9 hR9 hA9 F9 N9; obtain ⟨hnew9, t9, hr9⟩ := hR9; subst hnew9; subst hr9; simp only [List.nil_append] at N9)))
  k_with "1 call ref" => ((k_here; (with_reducible show wpAny _ _ (call (Value.ref 36) [_] _) _ _ _); refine' use_conX (conX_mem (bad1 w v _ _ ?hy_53 _ l _ hv) ?hm_53) ?B_53 ?F_53 ?X_53 ?N_53 ?T_53 ?hk_53 ?hd_53 ?hu_53 ?_; (case hy_53 => decide); (case N_53 => k_asm); (case hm_53 => (repeat (first | assumption | refine List.Mem.tail _ ?_))); (case B_53 => k_asm); (case F_53 => k_asm); (case X_53 => k_asm); (case T_53 => k_asm); (case hk_53 => rfl); (case hd_53 => omega); (case hu_53 => omega); (intro e9 h9 tk9 u9)))
  trivial
theorem pb2_x6 (w : World) (ra : Addr) (v : Value) (l : Addr) (o : Obj) (hv : BadK v l o) (tt : Tok) (tr : Tok) (news : List (Addr × Obj)) (hl : (l, o) ∈ news) :
    ConX w 7 130 (.ref 82) [.ref ra, v, .bytes [(116 : UInt8)].toArray tt, .int 1 tr] [] news "TypeError" := by
  refine' conX_ofC (binds := [(Str.ofString "digest", .ref ra), (Str.ofString "secret", v), (Str.ofString "salt", .bytes [(116 : UInt8)].toArray tt), (Str.ofString "rounds", .int 1 tr), (Str.ofString "keylen", .none)]) ?qo ?qcd ?qbind ?qkind ?qnd ?q1 ?q2 ?q3 ?_
  case qo => k_is
  case qcd => k_is
  case qbind => exact fun s X => by first | exact BindsTo.of_eq rfl | exact binds_K (by k_in) rfl (by k_is) rfl rfl rfl
  case qkind => exact rfl
  case qnd => decide +kernel
  case q1 => exact rfl
  case q2 => exact rfl
  case q3 => exact rfl
  intro dp un gd outer A₀ base g L' h₁ tk s p loose mean mg mb cells B F X N Y T l1 hd hu
  k_cells Y
  (try simp only [List.cons_append, List.nil_append] at N)
  (try dsimp only)
  show wpAny _ _ _ _ _ _
  k_fold
  k_steps
  all_goals
    first
    | (show Thrown _ _ _ _
       exact ends_thrown (by k_asm) (by k_asm) (by assumption) (by intro p hp; repeat (first | exact hp | refine List.Mem.tail _ ?_)))
    | (show EndsX _ _ _ _ _ _ _ _ _
       exact ends_new9 (by first | assumption | exact newExc_of (by assumption)) (by k_asm) (by k_asm) (by intro p hp; repeat (first | exact hp | refine List.Mem.tail _ ?_)))
    | (show EndsX _ _ _ _ _ _ _ _ _
       exact ends_up (by assumption) (by intro p hp; repeat (first | exact hp | refine List.Mem.tail _ ?_)))
theorem pb2_x7 (w : World) (ra : Addr) (v : Value) (l : Addr) (o : Obj) (hv : BadK v l o) (ts : Tok) (tr : Tok) (news : List (Addr × Obj)) (hl : (l, o) ∈ news) :
    ConX w 7 130 (.ref 82) [.ref ra, .bytes [(115 : UInt8)].toArray ts, v, .int 1 tr] [] news "TypeError" := by
  refine' conX_ofC (binds := [(Str.ofString "digest", .ref ra), (Str.ofString "secret", .bytes [(115 : UInt8)].toArray ts), (Str.ofString "salt", v), (Str.ofString "rounds", .int 1 tr), (Str.ofString "keylen", .none)]) ?qo ?qcd ?qbind ?qkind ?qnd ?q1 ?q2 ?q3 ?_
  case qo => k_is
  case qcd => k_is
  case qbind => exact fun s X => by first | exact BindsTo.of_eq rfl | exact binds_K (by k_in) rfl (by k_is) rfl rfl rfl
  case qkind => exact rfl
  case qnd => decide +kernel
  case q1 => exact rfl
  case q2 => exact rfl
  case q3 => exact rfl
  intro dp un gd outer A₀ base g L' h₁ tk s p loose mean mg mb cells B F X N Y T l1 hd hu
  k_cells Y
  (try simp only [List.cons_append, List.nil_append] at N)
  (try dsimp only)
  show wpAny _ _ _ _ _ _
  k_fold
  k_steps
  all_goals
    first
    | (show Thrown _ _ _ _
       exact ends_thrown (by k_asm) (by k_asm) (by assumption) (by intro p hp; repeat (first | exact hp | refine List.Mem.tail _ ?_)))
    | (show EndsX _ _ _ _ _ _ _ _ _
       exact ends_new9 (by first | assumption | exact newExc_of (by assumption)) (by k_asm) (by k_asm) (by intro p hp; repeat (first | exact hp | refine List.Mem.tail _ ?_)))
    | (show EndsX _ _ _ _ _ _ _ _ _
       exact ends_up (by assumption) (by intro p hp; repeat (first | exact hp | refine List.Mem.tail _ ?_)))
end
end Mine
end
-- F7
section
open PySem PySem.W PySem.Spec PySem.Calls PyProof.Rows PyProof.Rows.LCg
set_option maxRecDepth 100000
set_option maxHeartbeats 1000000
set_option linter.unusedVariables false
namespace Mine
theorem ru61 : True := by
  k_with_none
  k_with "12 eval Name" => ((k_here; (first | (with_reducible show wpAny _ _ (eval (Expr.Name _ _) (envOf _ _ _ _ _)) _ _ _) | (with_reducible show wpAny _ _ (eval (Expr.Name _ _) (envOfC _ _ _ _ _)) _ _ _) | (with_reducible show wpAny _ _ (eval (Expr.Name _ _) (envX _ _ _ _ _ _)) _ _ _)); k_dflt (first
      | (refine' nameX_K ?F_0 ?X_0 ?T_0 ?e_0 ?_ ?a_0 ?b_0; (case b_0 => kernel_rfl!); (case a_0 => rfl); (case F_0 => k_asm); (case X_0 => k_asm); (case T_0 => k_asm); (case e_0 => k_is); k_whole)
      | (refine' nameX_L ?F_0 ?v_0 ?_ ?a_0 ?b_0; (case b_0 => kernel_rfl!); (case a_0 => rfl); (case F_0 => k_asm); (case v_0 => rfl); k_whole)
      | (refine' nameX_B ?F_0 ?X_0 ?T_0 ?e_0 ?v_0 ?n_0 ?_ ?a_0 ?b_0; (case b_0 => kernel_rfl!); (case a_0 => rfl); (case F_0 => k_asm); (case X_0 => k_asm); (case T_0 => k_asm); (case e_0 => k_is); (case v_0 => boot_fast); (case n_0 => decide); k_whole))))
  k_with "12 callWith ref" => ((k_here; (with_reducible show wpAny _ _ (callWith _ (Value.ref _) _ (backTo _ (starEach (_ :: _) _)) (backToKw _ _)) _ _ _); k_dflt (refine' callWith_KW ?k1_0 ?k2_0 ?k3_0 ?_; (case k1_0 => k_asm); (case k2_0 => k_is); (case k3_0 => exact rfl); k_whole)))
  trivial
@[reducible] noncomputable def p1T3 : List Stmt := by
  refine (fun (l : List Stmt) (_ : (fdB 10).drop 3 = l) => l) ?l ?h
  rotate_left
  conv => lhs; whnf
section
theorem ru58 : True := by
  k_with_none
  k_with "12 eval Name" => ((k_here; (first | (with_reducible show wpAny _ _ (eval (Expr.Name _ _) (envOf _ _ _ _ _)) _ _ _) | (with_reducible show wpAny _ _ (eval (Expr.Name _ _) (envOfC _ _ _ _ _)) _ _ _) | (with_reducible show wpAny _ _ (eval (Expr.Name _ _) (envX _ _ _ _ _ _)) _ _ _)); k_dflt (first
      | (refine' nameX_K ?F_0 ?X_0 ?T_0 ?e_0 ?_ ?a_0 ?b_0; (case b_0 => kernel_rfl!); (case a_0 => rfl); (case F_0 => k_asm); (case X_0 => k_asm); (case T_0 => k_asm); (case e_0 => k_is); k_whole)
      | (refine' nameX_L ?F_0 ?v_0 ?_ ?a_0 ?b_0; (case b_0 => kernel_rfl!); (case a_0 => rfl); (case F_0 => k_asm); (case v_0 => rfl); k_whole)
      | (refine' nameX_B ?F_0 ?X_0 ?T_0 ?e_0 ?v_0 ?n_0 ?_ ?a_0 ?b_0; (case b_0 => kernel_rfl!); (case a_0 => rfl); (case F_0 => k_asm); (case X_0 => k_asm); (case T_0 => k_asm); (case e_0 => k_is); (case v_0 => boot_fast); (case n_0 => decide); k_whole))))
  k_with "12 callWith ref" => ((k_here; (with_reducible show wpAny _ _ (callWith _ (Value.ref _) _ (backTo _ (starEach (_ :: _) _)) (backToKw _ _)) _ _ _); k_dflt (refine' callWith_KW ?k1_0 ?k2_0 ?k3_0 ?_; (case k1_0 => k_asm); (case k2_0 => k_is); (case k3_0 => exact rfl); k_whole)))
  k_with "1 execs cons" => ((k_here; (with_reducible show wpAny _ _ (execs (Stmt.If (Expr.UnaryOp _ (Expr.Call _ [Expr.Name (Str.ofString "rounds") _, _] _ _) _) _ _ _ :: _) _) _ _ _); refine hold ?_))
  k_with "1 assign Tuple" => ((k_here; k_dflt (refine' unpackN_ ?k1_54 ?k2_54 ?k3_54 ?k4_54 ?k5_54 ?k6_54 ?_; (case k1_54 => k_asm); (case k2_54 => k_asm); (case k3_54 => exact News.isTup (by k_asm) (by (repeat (first | assumption | refine List.Mem.tail _ ?_)))); (case k4_54 => exact rfl); (case k5_54 => exact rfl); (case k6_54 => exact rfl); k_whole); intro h' F' N'; (try k_sweep)))
  k_with "1 call ref" => ((k_here; (with_reducible show wpAny _ _ (call (Value.ref 36) [_] _) _ _ _); refine' use_conKw (bytes_of _ _ _ ?hK_54 ?hz_54 _ _ _) ?B_54 ?F_54 ?X_54 ?N_54 ?T_54 ?hk_54 ?hd_54 ?hu_54 ?_; (case hK_54 => with_reducible assumption); (case hz_54 => omega); (case N_54 => k_asm); (case B_54 => k_asm); (case F_54 => k_asm); (case X_54 => k_asm); (case T_54 => k_asm); (case hk_54 => rfl); (case hd_54 => omega); (case hu_54 => omega); (intro r9 new9 h9 tk9 hR9 hA9 F9 N9; obtain ⟨hnew9, t9, hr9⟩ := hR9; subst hnew9; subst hr9; simp only [List.nil_append] at N9)))
  trivial
/-- pbkdf1 up to its first check -/
theorem pb1_pre (w : World) (ra fh : Addr) (sv tv rv kv : Value) (secret salt : List UInt8) (hsv : KeyIs sv secret) (htv : KeyIs tv salt) (size block : Nat) (hb : secret.length ≤ 900) (hb2 : salt.length ≤ 900) (news : List (Addr × Obj)) (HR : RowAt ra fh size block news)
    (dp un : Nat) (gd : Option (List Code)) (outer : List Env) (A₀ : Around) (base g : Heap) (L' : Addr) (h₁ : Heap) (tk : Nat) (s : Shared) (p : Program) (loose : List Str) (mean : ExcName → Option Value) (mg mb : Str → Option Value) (Q : Flow → Shared → Prop) (E : Value → Shared → Prop)
    (B : Below A₀ base outer g) (F : Fr g L' h₁ (fun y => [(Str.ofString "digest", .ref ra), (Str.ofString "secret", sv), (Str.ofString "salt", tv), (Str.ofString "rounds", rv), (Str.ofString "keylen", kv)].reverse.lookup y)) (X : (K w.params).In g) (N : News g L' h₁ news)
    (T : Top p loose mean mg mb g) (hd : dp + 6 < recursionLimit) (hu : un + 50 < cLine)
    (k : ∀ h' tk' m t, Fr g L' h' m → m (Str.ofString "digest_size") = some (.int (size : Int) t) → m (Str.ofString "rounds") = some rv → m (Str.ofString "keylen") = some kv → News g L' h' news →
      wpAny (model pw w) (ktrTop dp un gd (Str.ofString "pbkdf1") fS10 L' 69 (.ref 68) [] outer) (execs p1T3 (envOf (Str.ofString "pbkdf1") fS10 L' 69 (.ref 68))) Q E { s with heap := h', toks := tk' }) :
    wpAny (model pw w) (ktrTop dp un gd (Str.ofString "pbkdf1") fS10 L' 69 (.ref 68) [] outer) (execs fB10 (envOf (Str.ofString "pbkdf1") fS10 L' 69 (.ref 68))) Q E { s with heap := h₁, toks := tk } := by
  obtain ⟨t1, t2, HR2⟩ := HR
  show wpAny _ _ _ _ _ _
  k_steps
  · show wpAny _ _ _ _ _ _
    rename Fr _ _ _ _ => F9
    rename News _ _ _ _ => N9
    exact k _ _ _ _ F9 rfl rfl rfl N9
end
section
local macro_rules | `(tactic| k_all) => `(tactic| exact ne_of_lts (by assumption) (by omega))
theorem ru59 : True := by
  k_with_none
  k_with "12 eval Name" => ((k_here; (first | (with_reducible show wpAny _ _ (eval (Expr.Name _ _) (envOf _ _ _ _ _)) _ _ _) | (with_reducible show wpAny _ _ (eval (Expr.Name _ _) (envOfC _ _ _ _ _)) _ _ _) | (with_reducible show wpAny _ _ (eval (Expr.Name _ _) (envX _ _ _ _ _ _)) _ _ _)); k_dflt (first
      | (refine' nameX_K ?F_0 ?X_0 ?T_0 ?e_0 ?_ ?a_0 ?b_0; (case b_0 => kernel_rfl!); (case a_0 => rfl); (case F_0 => k_asm); (case X_0 => k_asm); (case T_0 => k_asm); (case e_0 => k_is); k_whole)
      | (refine' nameX_L ?F_0 ?v_0 ?_ ?a_0 ?b_0; (case b_0 => kernel_rfl!); (case a_0 => rfl); (case F_0 => k_asm); (case v_0 => rfl); k_whole)
      | (refine' nameX_B ?F_0 ?X_0 ?T_0 ?e_0 ?v_0 ?n_0 ?_ ?a_0 ?b_0; (case b_0 => kernel_rfl!); (case a_0 => rfl); (case F_0 => k_asm); (case X_0 => k_asm); (case T_0 => k_asm); (case e_0 => k_is); (case v_0 => boot_fast); (case n_0 => decide); k_whole))))
  k_with "12 callWith ref" => ((k_here; (with_reducible show wpAny _ _ (callWith _ (Value.ref _) _ (backTo _ (starEach (_ :: _) _)) (backToKw _ _)) _ _ _); k_dflt (refine' callWith_KW ?k1_0 ?k2_0 ?k3_0 ?_; (case k1_0 => k_asm); (case k2_0 => k_is); (case k3_0 => exact rfl); k_whole)))
  k_with "1 eval Name" => ((k_here; k_dflt (refine' nameX_L ?zF_54 ?zv_54 ?_ ?za_54 ?zb_54; (case zb_54 => kernel_rfl!); (case zF_54 => k_asm); (case za_54 => rfl); (case zv_54 => first | with_reducible assumption | rfl | assumption); k_whole)))
  k_with "3 exec Raise some none" => ((k_here; (with_reducible show wpAny _ _ (exec (Stmt.Raise (some (Expr.Call (Expr.Name (Str.ofString "ExpectedTypeError") _) _ _ _)) none _) _) _ _ _); k_dflt (refine raise_made PySem.F.excRaise_TypeError (by rfl) ?_)))
  k_with "2 exec Raise some none" => ((k_here; (with_reducible show wpAny _ _ (exec (Stmt.Raise (some (Expr.Call (Expr.Name (Str.ofString "ValueError") _) _ _ _)) none _) _) _ _ _); k_dflt (refine raise_made PySem.F.excRaise_ValueError (by rfl) ?_)))
  k_with "1 exec Raise some none" => ((k_here; (with_reducible show wpAny _ _ (exec (Stmt.Raise (some (Expr.Call (Expr.Name (Str.ofString "OverflowError") _) _ _ _)) none _) _) _ _ _); k_dflt (refine raise_made PySem.F.excRaise_OverflowError (by rfl) ?_)))
  k_with "1 call type:ValueError" => ((k_here; k_dflt (refine r_exc PySem.F.excCall_ValueError (by k_asm) (by k_asm) ?_); intro e9 t9 h9 F9 N9 n9))
  k_with "1 call type:OverflowError" => ((k_here; k_dflt (refine r_exc PySem.F.excCall_OverflowError (by k_asm) (by k_asm) ?_); intro e9 t9 h9 F9 N9 n9))
  k_with "1 call ref" => ((k_here; (with_reducible show wpAny _ _ (call (Value.ref 21) [_, Value.str _ _, Value.str _ _]) _ _ _); refine' use_conU (errT_ok _ _ _ _ _ _ ?hx_54 ?hy_54 _) ?B_54 ?F_54 ?X_54 ?N_54 ?T_54 ?hk_54 ?hd_54 ?hu_54 ?_; (case N_54 => k_asm); (case B_54 => k_asm); (case F_54 => k_asm); (case X_54 => k_asm); (case T_54 => k_asm); (case hk_54 => rfl); (case hd_54 => omega); (case hu_54 => omega); (case hx_54 => first | with_reducible assumption | decide); (case hy_54 => first | with_reducible assumption | decide); (intro r9 post9 h9 tk9 hR9 F9 N9; obtain ⟨e9, t9, hr9, hp9, n9⟩ := hR9; subst hr9; subst hp9)))
  trivial
theorem pb1_x1_t (w : World) (size : Nat) (h1 : 1 ≤ size) (h2 : size ≤ 32) (r : Int) (tr : Tok) (hr : r < 1) (kv : Value) (news : List (Addr × Obj))
    (dp un : Nat) (gd : Option (List Code)) (outer : List Env) (A₀ : Around) (base g : Heap) (L' : Addr) (h₁ : Heap) (tk : Nat) (s : Shared) (p : Program) (loose : List Str) (mean : ExcName → Option Value) (mg mb : Str → Option Value) (m : Str → Option Value) (t : Tok)
    (B : Below A₀ base outer g) (F : Fr g L' h₁ m) (hm1 : m (Str.ofString "digest_size") = some (.int (size : Int) t)) (hm2 : m (Str.ofString "rounds") = some (.int r tr)) (hm3 : m (Str.ofString "keylen") = some (kv)) (X : (K w.params).In g) (N : News g L' h₁ (news))
    (T : Top p loose mean mg mb g) (hd : dp + 6 < recursionLimit) (hu : un + 100 < cLine) :
    wpAny (model pw w) (ktrTop dp un gd (Str.ofString "pbkdf1") fS10 L' 69 (.ref 68) [] outer) (execs p1T3 (envOf (Str.ofString "pbkdf1") fS10 L' 69 (.ref 68))) (fun _ _ => False) (EndsX base g L' (envOf (Str.ofString "pbkdf1") fS10 L' 69 (.ref 68) :: outer) s "ValueError" (news)) { s with heap := h₁, toks := tk } := by
  show wpAny _ _ _ _ _ _
  k_fold
  k_steps
  all_goals
    first
    | (show Thrown _ _ _ _
       exact ends_thrown (by k_asm) (by k_asm) (by assumption) (by intro p hp; repeat (first | exact hp | refine List.Mem.tail _ ?_)))
    | (show EndsX _ _ _ _ _ _ _ _ _
       exact ends_new9 (by first | assumption | exact newExc_of (by assumption)) (by k_asm) (by k_asm) (by intro p hp; repeat (first | exact hp | refine List.Mem.tail _ ?_)))
    | (show EndsX _ _ _ _ _ _ _ _ _
       exact ends_up (by assumption) (by intro p hp; repeat (first | exact hp | refine List.Mem.tail _ ?_)))
theorem pb1_x1 (w : World) (ra fh : Addr) (size block : Nat) (h1 : 1 ≤ size) (h2 : size ≤ 32) (r : Int) (tr : Tok) (hr : r < 1) (kv : Value) (ts tt : Tok) (news : List (Addr × Obj)) (HR : RowAt ra fh size block news) :
    ConX w 7 130 (.ref 69) [.ref ra, .bytes [(115 : UInt8)].toArray ts, .bytes [(116 : UInt8)].toArray tt, .int r tr, kv] [] (news) "ValueError" := by
  refine' conX_of (binds := [(Str.ofString "digest", .ref ra), (Str.ofString "secret", .bytes [(115 : UInt8)].toArray ts), (Str.ofString "salt", .bytes [(116 : UInt8)].toArray tt), (Str.ofString "rounds", .int r tr), (Str.ofString "keylen", kv)]) ?qo ?qcd ?qbind ?qloc ?q1 ?q2 ?q3 ?q4 ?_
  case qo => k_is
  case qcd => k_is
  case qbind => exact fun s X => by first | exact BindsTo.of_eq rfl | exact binds_K (by k_in) rfl (by k_is) rfl rfl rfl
  case qloc => exact locs rfl
  case q1 => exact rfl
  case q2 => exact rfl
  case q3 => exact rfl
  case q4 => decide
  intro dp un gd outer A₀ base g L' h₁ tk s p loose mean mg mb B F X N T hd hu
  exact pb1_pre w ra fh _ _ _ _ _ _ key_b key_b size block (by decide) (by decide) _ (HR) dp un gd outer A₀ base g L' h₁ tk s p loose mean mg mb _ _ B F X N T (by omega) (by omega) fun h' tk' m t F9 hm1 hm2 hm3 N9 => pb1_x1_t w size h1 h2 r tr hr kv news dp un gd outer A₀ base g L' h' tk' s p loose mean mg mb m t B F9 hm1 hm2 hm3 X N9 T (by omega) (by omega)
theorem pb1_x3_t (w : World) (size : Nat) (h1 : 1 ≤ size) (h2 : size ≤ 32) (n : Int) (tr tn : Tok) (hn : n < 0) (news : List (Addr × Obj))
    (dp un : Nat) (gd : Option (List Code)) (outer : List Env) (A₀ : Around) (base g : Heap) (L' : Addr) (h₁ : Heap) (tk : Nat) (s : Shared) (p : Program) (loose : List Str) (mean : ExcName → Option Value) (mg mb : Str → Option Value) (m : Str → Option Value) (t : Tok)
    (B : Below A₀ base outer g) (F : Fr g L' h₁ m) (hm1 : m (Str.ofString "digest_size") = some (.int (size : Int) t)) (hm2 : m (Str.ofString "rounds") = some (.int 1 tr)) (hm3 : m (Str.ofString "keylen") = some (.int n tn)) (X : (K w.params).In g) (N : News g L' h₁ (news))
    (T : Top p loose mean mg mb g) (hd : dp + 6 < recursionLimit) (hu : un + 100 < cLine) :
    wpAny (model pw w) (ktrTop dp un gd (Str.ofString "pbkdf1") fS10 L' 69 (.ref 68) [] outer) (execs p1T3 (envOf (Str.ofString "pbkdf1") fS10 L' 69 (.ref 68))) (fun _ _ => False) (EndsX base g L' (envOf (Str.ofString "pbkdf1") fS10 L' 69 (.ref 68) :: outer) s "ValueError" (news)) { s with heap := h₁, toks := tk } := by
  show wpAny _ _ _ _ _ _
  k_fold
  k_steps
  all_goals
    first
    | (show Thrown _ _ _ _
       exact ends_thrown (by k_asm) (by k_asm) (by assumption) (by intro p hp; repeat (first | exact hp | refine List.Mem.tail _ ?_)))
    | (show EndsX _ _ _ _ _ _ _ _ _
       exact ends_new9 (by first | assumption | exact newExc_of (by assumption)) (by k_asm) (by k_asm) (by intro p hp; repeat (first | exact hp | refine List.Mem.tail _ ?_)))
    | (show EndsX _ _ _ _ _ _ _ _ _
       exact ends_up (by assumption) (by intro p hp; repeat (first | exact hp | refine List.Mem.tail _ ?_)))
theorem pb1_x3 (w : World) (ra fh : Addr) (size block : Nat) (h1 : 1 ≤ size) (h2 : size ≤ 32) (n : Int) (tr tn : Tok) (hn : n < 0) (ts tt : Tok) (news : List (Addr × Obj)) (HR : RowAt ra fh size block news) :
    ConX w 7 130 (.ref 69) [.ref ra, .bytes [(115 : UInt8)].toArray ts, .bytes [(116 : UInt8)].toArray tt, .int 1 tr, .int n tn] [] (news) "ValueError" := by
  refine' conX_of (binds := [(Str.ofString "digest", .ref ra), (Str.ofString "secret", .bytes [(115 : UInt8)].toArray ts), (Str.ofString "salt", .bytes [(116 : UInt8)].toArray tt), (Str.ofString "rounds", .int 1 tr), (Str.ofString "keylen", .int n tn)]) ?qo ?qcd ?qbind ?qloc ?q1 ?q2 ?q3 ?q4 ?_
  case qo => k_is
  case qcd => k_is
  case qbind => exact fun s X => by first | exact BindsTo.of_eq rfl | exact binds_K (by k_in) rfl (by k_is) rfl rfl rfl
  case qloc => exact locs rfl
  case q1 => exact rfl
  case q2 => exact rfl
  case q3 => exact rfl
  case q4 => decide
  intro dp un gd outer A₀ base g L' h₁ tk s p loose mean mg mb B F X N T hd hu
  exact pb1_pre w ra fh _ _ _ _ _ _ key_b key_b size block (by decide) (by decide) _ (HR) dp un gd outer A₀ base g L' h₁ tk s p loose mean mg mb _ _ B F X N T (by omega) (by omega) fun h' tk' m t F9 hm1 hm2 hm3 N9 => pb1_x3_t w size h1 h2 n tr tn hn news dp un gd outer A₀ base g L' h' tk' s p loose mean mg mb m t B F9 hm1 hm2 hm3 X N9 T (by omega) (by omega)
theorem pb1_x11_t (w : World) (size : Nat) (h1 : 1 ≤ size) (h2 : size ≤ 32) (v kv : Value) (l : Addr) (o : Obj) (hv : BadI v l o) (news : List (Addr × Obj))
    (dp un : Nat) (gd : Option (List Code)) (outer : List Env) (A₀ : Around) (base g : Heap) (L' : Addr) (h₁ : Heap) (tk : Nat) (s : Shared) (p : Program) (loose : List Str) (mean : ExcName → Option Value) (mg mb : Str → Option Value) (m : Str → Option Value) (t : Tok)
    (B : Below A₀ base outer g) (F : Fr g L' h₁ m) (hm1 : m (Str.ofString "digest_size") = some (.int (size : Int) t)) (hm2 : m (Str.ofString "rounds") = some (v)) (hm3 : m (Str.ofString "keylen") = some (kv)) (X : (K w.params).In g) (N : News g L' h₁ ((l, o) :: news))
    (T : Top p loose mean mg mb g) (hd : dp + 6 < recursionLimit) (hu : un + 100 < cLine) :
    wpAny (model pw w) (ktrTop dp un gd (Str.ofString "pbkdf1") fS10 L' 69 (.ref 68) [] outer) (execs p1T3 (envOf (Str.ofString "pbkdf1") fS10 L' 69 (.ref 68))) (fun _ _ => False) (EndsX base g L' (envOf (Str.ofString "pbkdf1") fS10 L' 69 (.ref 68) :: outer) s "TypeError" ((l, o) :: news)) { s with heap := h₁, toks := tk } := by
  rcases hv with ⟨x, tx, rfl⟩ | ⟨b, tb, rfl⟩ | ⟨its, kk, rfl, rfl⟩
  all_goals (
    show wpAny _ _ _ _ _ _
    k_fold
    k_steps)
  all_goals
    first
    | (show Thrown _ _ _ _
       exact ends_thrown (by k_asm) (by k_asm) (by assumption) (by intro p hp; repeat (first | exact hp | refine List.Mem.tail _ ?_)))
    | (show EndsX _ _ _ _ _ _ _ _ _
       exact ends_new9 (by first | assumption | exact newExc_of (by assumption)) (by k_asm) (by k_asm) (by intro p hp; repeat (first | exact hp | refine List.Mem.tail _ ?_)))
    | (show EndsX _ _ _ _ _ _ _ _ _
       exact ends_up (by assumption) (by intro p hp; repeat (first | exact hp | refine List.Mem.tail _ ?_)))
theorem pb1_x11 (w : World) (ra fh : Addr) (size block : Nat) (h1 : 1 ≤ size) (h2 : size ≤ 32) (v : Value) (l : Addr) (o : Obj) (hv : BadI v l o) (ts tt : Tok) (news : List (Addr × Obj)) (HR : RowAt ra fh size block news) :
    ConX w 7 130 (.ref 69) [.ref ra, .bytes [(115 : UInt8)].toArray ts, .bytes [(116 : UInt8)].toArray tt, v] [] ((l, o) :: news) "TypeError" := by
  refine' conX_of (binds := [(Str.ofString "digest", .ref ra), (Str.ofString "secret", .bytes [(115 : UInt8)].toArray ts), (Str.ofString "salt", .bytes [(116 : UInt8)].toArray tt), (Str.ofString "rounds", v), (Str.ofString "keylen", .none)]) ?qo ?qcd ?qbind ?qloc ?q1 ?q2 ?q3 ?q4 ?_
  case qo => k_is
  case qcd => k_is
  case qbind => exact fun s X => by first | exact BindsTo.of_eq rfl | exact binds_K (by k_in) rfl (by k_is) rfl rfl rfl
  case qloc => exact locs rfl
  case q1 => exact rfl
  case q2 => exact rfl
  case q3 => exact rfl
  case q4 => decide
  intro dp un gd outer A₀ base g L' h₁ tk s p loose mean mg mb B F X N T hd hu
  exact pb1_pre w ra fh _ _ _ _ _ _ key_b key_b size block (by decide) (by decide) _ (HR.sub in_cons) dp un gd outer A₀ base g L' h₁ tk s p loose mean mg mb _ _ B F X N T (by omega) (by omega) fun h' tk' m t F9 hm1 hm2 hm3 N9 => pb1_x11_t w size h1 h2 v .none l o hv news dp un gd outer A₀ base g L' h' tk' s p loose mean mg mb m t B F9 hm1 hm2 hm3 X N9 T (by omega) (by omega)
theorem pb1_x13_t (w : World) (size : Nat) (h1 : 1 ≤ size) (h2 : size ≤ 32) (v : Value) (tr : Tok) (l : Addr) (o : Obj) (hv : BadI v l o) (news : List (Addr × Obj))
    (dp un : Nat) (gd : Option (List Code)) (outer : List Env) (A₀ : Around) (base g : Heap) (L' : Addr) (h₁ : Heap) (tk : Nat) (s : Shared) (p : Program) (loose : List Str) (mean : ExcName → Option Value) (mg mb : Str → Option Value) (m : Str → Option Value) (t : Tok)
    (B : Below A₀ base outer g) (F : Fr g L' h₁ m) (hm1 : m (Str.ofString "digest_size") = some (.int (size : Int) t)) (hm2 : m (Str.ofString "rounds") = some (.int 1 tr)) (hm3 : m (Str.ofString "keylen") = some (v)) (X : (K w.params).In g) (N : News g L' h₁ ((l, o) :: news))
    (T : Top p loose mean mg mb g) (hd : dp + 6 < recursionLimit) (hu : un + 100 < cLine) :
    wpAny (model pw w) (ktrTop dp un gd (Str.ofString "pbkdf1") fS10 L' 69 (.ref 68) [] outer) (execs p1T3 (envOf (Str.ofString "pbkdf1") fS10 L' 69 (.ref 68))) (fun _ _ => False) (EndsX base g L' (envOf (Str.ofString "pbkdf1") fS10 L' 69 (.ref 68) :: outer) s "TypeError" ((l, o) :: news)) { s with heap := h₁, toks := tk } := by
  rcases hv with ⟨x, tx, rfl⟩ | ⟨b, tb, rfl⟩ | ⟨its, kk, rfl, rfl⟩
  all_goals (
    show wpAny _ _ _ _ _ _
    k_fold
    k_steps)
  all_goals
    first
    | (show Thrown _ _ _ _
       exact ends_thrown (by k_asm) (by k_asm) (by assumption) (by intro p hp; repeat (first | exact hp | refine List.Mem.tail _ ?_)))
    | (show EndsX _ _ _ _ _ _ _ _ _
       exact ends_new9 (by first | assumption | exact newExc_of (by assumption)) (by k_asm) (by k_asm) (by intro p hp; repeat (first | exact hp | refine List.Mem.tail _ ?_)))
    | (show EndsX _ _ _ _ _ _ _ _ _
       exact ends_up (by assumption) (by intro p hp; repeat (first | exact hp | refine List.Mem.tail _ ?_)))
theorem pb1_x13 (w : World) (ra fh : Addr) (size block : Nat) (h1 : 1 ≤ size) (h2 : size ≤ 32) (v : Value) (tr : Tok) (l : Addr) (o : Obj) (hv : BadI v l o) (ts tt : Tok) (news : List (Addr × Obj)) (HR : RowAt ra fh size block news) :
    ConX w 7 130 (.ref 69) [.ref ra, .bytes [(115 : UInt8)].toArray ts, .bytes [(116 : UInt8)].toArray tt, .int 1 tr, v] [] ((l, o) :: news) "TypeError" := by
  refine' conX_of (binds := [(Str.ofString "digest", .ref ra), (Str.ofString "secret", .bytes [(115 : UInt8)].toArray ts), (Str.ofString "salt", .bytes [(116 : UInt8)].toArray tt), (Str.ofString "rounds", .int 1 tr), (Str.ofString "keylen", v)]) ?qo ?qcd ?qbind ?qloc ?q1 ?q2 ?q3 ?q4 ?_
  case qo => k_is
  case qcd => k_is
  case qbind => exact fun s X => by first | exact BindsTo.of_eq rfl | exact binds_K (by k_in) rfl (by k_is) rfl rfl rfl
  case qloc => exact locs rfl
  case q1 => exact rfl
  case q2 => exact rfl
  case q3 => exact rfl
  case q4 => decide
  intro dp un gd outer A₀ base g L' h₁ tk s p loose mean mg mb B F X N T hd hu
  exact pb1_pre w ra fh _ _ _ _ _ _ key_b key_b size block (by decide) (by decide) _ (HR.sub in_cons) dp un gd outer A₀ base g L' h₁ tk s p loose mean mg mb _ _ B F X N T (by omega) (by omega) fun h' tk' m t F9 hm1 hm2 hm3 N9 => pb1_x13_t w size h1 h2 v tr l o hv news dp un gd outer A₀ base g L' h' tk' s p loose mean mg mb m t B F9 hm1 hm2 hm3 X N9 T (by omega) (by omega)
theorem pb1_x4_t (w : World) (size : Nat) (h1 : 1 ≤ size) (h2 : size ≤ 32) (n : Int) (tr tn : Tok) (hn : (size : Int) < n) (hn2 : n < 2 ^ 100) (news : List (Addr × Obj))
    (dp un : Nat) (gd : Option (List Code)) (outer : List Env) (A₀ : Around) (base g : Heap) (L' : Addr) (h₁ : Heap) (tk : Nat) (s : Shared) (p : Program) (loose : List Str) (mean : ExcName → Option Value) (mg mb : Str → Option Value) (m : Str → Option Value) (t : Tok)
    (B : Below A₀ base outer g) (F : Fr g L' h₁ m) (hm1 : m (Str.ofString "digest_size") = some (.int (size : Int) t)) (hm2 : m (Str.ofString "rounds") = some (.int 1 tr)) (hm3 : m (Str.ofString "keylen") = some (.int n tn)) (X : (K w.params).In g) (N : News g L' h₁ (news))
    (T : Top p loose mean mg mb g) (hd : dp + 6 < recursionLimit) (hu : un + 100 < cLine) :
    wpAny (model pw w) (ktrTop dp un gd (Str.ofString "pbkdf1") fS10 L' 69 (.ref 68) [] outer) (execs p1T3 (envOf (Str.ofString "pbkdf1") fS10 L' 69 (.ref 68))) (fun _ _ => False) (EndsX base g L' (envOf (Str.ofString "pbkdf1") fS10 L' 69 (.ref 68) :: outer) s "ValueError" (news)) { s with heap := h₁, toks := tk } := by
  show wpAny _ _ _ _ _ _
  k_fold
  k_steps
  all_goals
    first
    | (show Thrown _ _ _ _
       exact ends_thrown (by k_asm) (by k_asm) (by assumption) (by intro p hp; repeat (first | exact hp | refine List.Mem.tail _ ?_)))
    | (show EndsX _ _ _ _ _ _ _ _ _
       exact ends_new9 (by first | assumption | exact newExc_of (by assumption)) (by k_asm) (by k_asm) (by intro p hp; repeat (first | exact hp | refine List.Mem.tail _ ?_)))
    | (show EndsX _ _ _ _ _ _ _ _ _
       exact ends_up (by assumption) (by intro p hp; repeat (first | exact hp | refine List.Mem.tail _ ?_)))
theorem pb1_x4 (w : World) (ra fh : Addr) (size block : Nat) (h1 : 1 ≤ size) (h2 : size ≤ 32) (n : Int) (tr tn : Tok) (hn : (size : Int) < n) (hn2 : n < 2 ^ 100) (ts tt : Tok) (news : List (Addr × Obj)) (HR : RowAt ra fh size block news) :
    ConX w 7 130 (.ref 69) [.ref ra, .bytes [(115 : UInt8)].toArray ts, .bytes [(116 : UInt8)].toArray tt, .int 1 tr, .int n tn] [] (news) "ValueError" := by
  refine' conX_of (binds := [(Str.ofString "digest", .ref ra), (Str.ofString "secret", .bytes [(115 : UInt8)].toArray ts), (Str.ofString "salt", .bytes [(116 : UInt8)].toArray tt), (Str.ofString "rounds", .int 1 tr), (Str.ofString "keylen", .int n tn)]) ?qo ?qcd ?qbind ?qloc ?q1 ?q2 ?q3 ?q4 ?_
  case qo => k_is
  case qcd => k_is
  case qbind => exact fun s X => by first | exact BindsTo.of_eq rfl | exact binds_K (by k_in) rfl (by k_is) rfl rfl rfl
  case qloc => exact locs rfl
  case q1 => exact rfl
  case q2 => exact rfl
  case q3 => exact rfl
  case q4 => decide
  intro dp un gd outer A₀ base g L' h₁ tk s p loose mean mg mb B F X N T hd hu
  exact pb1_pre w ra fh _ _ _ _ _ _ key_b key_b size block (by decide) (by decide) _ (HR) dp un gd outer A₀ base g L' h₁ tk s p loose mean mg mb _ _ B F X N T (by omega) (by omega) fun h' tk' m t F9 hm1 hm2 hm3 N9 => pb1_x4_t w size h1 h2 n tr tn hn hn2 news dp un gd outer A₀ base g L' h' tk' s p loose mean mg mb m t B F9 hm1 hm2 hm3 X N9 T (by omega) (by omega)
end
section
theorem ru60 : True := by
  k_with_none
  k_with "12 eval Name" => ((k_here; (first | (with_reducible show wpAny _ _ (eval (Expr.Name _ _) (envOf _ _ _ _ _)) _ _ _) | (with_reducible show wpAny _ _ (eval (Expr.Name _ _) (envOfC _ _ _ _ _)) _ _ _) | (with_reducible show wpAny _ _ (eval (Expr.Name _ _) (envX _ _ _ _ _ _)) _ _ _)); k_dflt (first
      | (refine' nameX_K ?F_0 ?X_0 ?T_0 ?e_0 ?_ ?a_0 ?b_0; (case b_0 => kernel_rfl!); (case a_0 => rfl); (case F_0 => k_asm); (case X_0 => k_asm); (case T_0 => k_asm); (case e_0 => k_is); k_whole)
      | (refine' nameX_L ?F_0 ?v_0 ?_ ?a_0 ?b_0; (case b_0 => kernel_rfl!); (case a_0 => rfl); (case F_0 => k_asm); (case v_0 => rfl); k_whole)
      | (refine' nameX_B ?F_0 ?X_0 ?T_0 ?e_0 ?v_0 ?n_0 ?_ ?a_0 ?b_0; (case b_0 => kernel_rfl!); (case a_0 => rfl); (case F_0 => k_asm); (case X_0 => k_asm); (case T_0 => k_asm); (case e_0 => k_is); (case v_0 => boot_fast); (case n_0 => decide); k_whole))))
  k_with "12 callWith ref" => ((k_here; (with_reducible show wpAny _ _ (callWith _ (Value.ref _) _ (backTo _ (starEach (_ :: _) _)) (backToKw _ _)) _ _ _); k_dflt (refine' callWith_KW ?k1_0 ?k2_0 ?k3_0 ?_; (case k1_0 => k_asm); (case k2_0 => k_is); (case k3_0 => exact rfl); k_whole)))
  k_with "1 assign Tuple" => ((k_here; k_dflt (refine' unpackN_ ?k1_54 ?k2_54 ?k3_54 ?k4_54 ?k5_54 ?k6_54 ?_; (case k1_54 => k_asm); (case k2_54 => k_asm); (case k3_54 => exact News.isTup (by k_asm) (by (repeat (first | assumption | refine List.Mem.tail _ ?_)))); (case k4_54 => exact rfl); (case k5_54 => exact rfl); (case k6_54 => exact rfl); k_whole); intro h' F' N'; (try k_sweep)))
  k_with "2 call ref" => ((k_here; (with_reducible show wpAny _ _ (call (Value.ref 36) [_] _) _ _ _); refine' use_conKw (bytes_of _ _ _ ?hK_54 ?hz_54 _ _ _) ?B_54 ?F_54 ?X_54 ?N_54 ?T_54 ?hk_54 ?hd_54 ?hu_54 ?_; (case hK_54 => exact key_b); (case hz_54 => decide); (case N_54 => k_asm); (case B_54 => k_asm); (case F_54 => k_asm); (case X_54 => k_asm); (case T_54 => k_asm); (case hk_54 => rfl); (case hd_54 => omega); (case hu_54 => omega); (intro r9 new9 h9 tk9 hR9 hA9 F9 N9; obtain ⟨hnew9, t9, hr9⟩ := hR9; subst hnew9; subst hr9; simp only [List.nil_append] at N9)))
  k_with "1 call ref" => ((k_here; (with_reducible show wpAny _ _ (call (Value.ref 36) [_] _) _ _ _); refine' use_conX (conX_mem (bad1 w v _ _ ?hy_54 _ l _ hv) ?hm_54) ?B_54 ?F_54 ?X_54 ?N_54 ?T_54 ?hk_54 ?hd_54 ?hu_54 ?_; (case hy_54 => decide); (case N_54 => k_asm); (case hm_54 => (repeat (first | assumption | refine List.Mem.tail _ ?_))); (case B_54 => k_asm); (case F_54 => k_asm); (case X_54 => k_asm); (case T_54 => k_asm); (case hk_54 => rfl); (case hd_54 => omega); (case hu_54 => omega); (intro e9 h9 tk9 u9)))
  trivial
theorem pb1_x8 (w : World) (ra fh : Addr) (size block : Nat) (v : Value) (l : Addr) (o : Obj) (hv : BadK v l o) (tt : Tok) (tr : Tok) (news : List (Addr × Obj)) (hl : (l, o) ∈ news) (HR : RowAt ra fh size block news) :
    ConX w 7 130 (.ref 69) [.ref ra, v, .bytes [(116 : UInt8)].toArray tt, .int 1 tr] [] news "TypeError" := by
  obtain ⟨t1, t2, HR2⟩ := HR
  refine' conX_of (binds := [(Str.ofString "digest", .ref ra), (Str.ofString "secret", v), (Str.ofString "salt", .bytes [(116 : UInt8)].toArray tt), (Str.ofString "rounds", .int 1 tr), (Str.ofString "keylen", .none)]) ?qo ?qcd ?qbind ?qloc ?q1 ?q2 ?q3 ?q4 ?_
  case qo => k_is
  case qcd => k_is
  case qbind => exact fun s X => by first | exact BindsTo.of_eq rfl | exact binds_K (by k_in) rfl (by k_is) rfl rfl rfl
  case qloc => exact locs rfl
  case q1 => exact rfl
  case q2 => exact rfl
  case q3 => exact rfl
  case q4 => decide
  intro dp un gd outer A₀ base g L' h₁ tk s p loose mean mg mb B F X N T hd hu
  show wpAny _ _ _ _ _ _
  k_fold
  k_steps
  all_goals
    first
    | (show Thrown _ _ _ _
       exact ends_thrown (by k_asm) (by k_asm) (by assumption) (by intro p hp; repeat (first | exact hp | refine List.Mem.tail _ ?_)))
    | (show EndsX _ _ _ _ _ _ _ _ _
       exact ends_new9 (by first | assumption | exact newExc_of (by assumption)) (by k_asm) (by k_asm) (by intro p hp; repeat (first | exact hp | refine List.Mem.tail _ ?_)))
    | (show EndsX _ _ _ _ _ _ _ _ _
       exact ends_up (by assumption) (by intro p hp; repeat (first | exact hp | refine List.Mem.tail _ ?_)))
theorem pb1_x9 (w : World) (ra fh : Addr) (size block : Nat) (v : Value) (l : Addr) (o : Obj) (hv : BadK v l o) (ts : Tok) (tr : Tok) (news : List (Addr × Obj)) (hl : (l, o) ∈ news) (HR : RowAt ra fh size block news) :
    ConX w 7 130 (.ref 69) [.ref ra, .bytes [(115 : UInt8)].toArray ts, v, .int 1 tr] [] news "TypeError" := by
  obtain ⟨t1, t2, HR2⟩ := HR
  refine' conX_of (binds := [(Str.ofString "digest", .ref ra), (Str.ofString "secret", .bytes [(115 : UInt8)].toArray ts), (Str.ofString "salt", v), (Str.ofString "rounds", .int 1 tr), (Str.ofString "keylen", .none)]) ?qo ?qcd ?qbind ?qloc ?q1 ?q2 ?q3 ?q4 ?_
  case qo => k_is
  case qcd => k_is
  case qbind => exact fun s X => by first | exact BindsTo.of_eq rfl | exact binds_K (by k_in) rfl (by k_is) rfl rfl rfl
  case qloc => exact locs rfl
  case q1 => exact rfl
  case q2 => exact rfl
  case q3 => exact rfl
  case q4 => decide
  intro dp un gd outer A₀ base g L' h₁ tk s p loose mean mg mb B F X N T hd hu
  show wpAny _ _ _ _ _ _
  k_fold
  k_steps
  all_goals
    first
    | (show Thrown _ _ _ _
       exact ends_thrown (by k_asm) (by k_asm) (by assumption) (by intro p hp; repeat (first | exact hp | refine List.Mem.tail _ ?_)))
    | (show EndsX _ _ _ _ _ _ _ _ _
       exact ends_new9 (by first | assumption | exact newExc_of (by assumption)) (by k_asm) (by k_asm) (by intro p hp; repeat (first | exact hp | refine List.Mem.tail _ ?_)))
    | (show EndsX _ _ _ _ _ _ _ _ _
       exact ends_up (by assumption) (by intro p hp; repeat (first | exact hp | refine List.Mem.tail _ ?_)))
end
end Mine
end
-- F8
section
open PySem PySem.W PySem.Spec PySem.Calls PyProof.Rows PyProof.Rows.LCg
set_option maxRecDepth 100000
set_option maxHeartbeats 400000
set_option linter.unusedVariables false
namespace Mine
theorem ru63 : True := by
  k_with_none
  k_with "12 eval Name" => ((k_here; (first | (with_reducible show wpAny _ _ (eval (Expr.Name _ _) (envOf _ _ _ _ _)) _ _ _) | (with_reducible show wpAny _ _ (eval (Expr.Name _ _) (envOfC _ _ _ _ _)) _ _ _) | (with_reducible show wpAny _ _ (eval (Expr.Name _ _) (envX _ _ _ _ _ _)) _ _ _)); k_dflt (first
      | (refine' nameX_K ?F_0 ?X_0 ?T_0 ?e_0 ?_ ?a_0 ?b_0; (case b_0 => kernel_rfl!); (case a_0 => rfl); (case F_0 => k_asm); (case X_0 => k_asm); (case T_0 => k_asm); (case e_0 => k_is); k_whole)
      | (refine' nameX_L ?F_0 ?v_0 ?_ ?a_0 ?b_0; (case b_0 => kernel_rfl!); (case a_0 => rfl); (case F_0 => k_asm); (case v_0 => rfl); k_whole)
      | (refine' nameX_B ?F_0 ?X_0 ?T_0 ?e_0 ?v_0 ?n_0 ?_ ?a_0 ?b_0; (case b_0 => kernel_rfl!); (case a_0 => rfl); (case F_0 => k_asm); (case X_0 => k_asm); (case T_0 => k_asm); (case e_0 => k_is); (case v_0 => boot_fast); (case n_0 => decide); k_whole))))
  k_with "12 callWith ref" => ((k_here; (with_reducible show wpAny _ _ (callWith _ (Value.ref _) _ (backTo _ (starEach (_ :: _) _)) (backToKw _ _)) _ _ _); k_dflt (refine' callWith_KW ?k1_0 ?k2_0 ?k3_0 ?_; (case k1_0 => k_asm); (case k2_0 => k_is); (case k3_0 => exact rfl); k_whole)))
  trivial
/-- a value of another kind, with the ledger after it is made -/
noncomputable def Odd (P : Value → Addr → Obj → Prop) (news : List (Addr × Obj)) (v : Value) (post : List (Addr × Obj)) : Prop := (∃ l o, P v l o ∧ post = (l, o) :: news) ∨ (post = news ∧ ∀ l o, P v l o)
section
theorem ru62 : True := by
  k_with_none
  k_with "12 eval Name" => ((k_here; (first | (with_reducible show wpAny _ _ (eval (Expr.Name _ _) (envOf _ _ _ _ _)) _ _ _) | (with_reducible show wpAny _ _ (eval (Expr.Name _ _) (envOfC _ _ _ _ _)) _ _ _) | (with_reducible show wpAny _ _ (eval (Expr.Name _ _) (envX _ _ _ _ _ _)) _ _ _)); k_dflt (first
      | (refine' nameX_K ?F_0 ?X_0 ?T_0 ?e_0 ?_ ?a_0 ?b_0; (case b_0 => kernel_rfl!); (case a_0 => rfl); (case F_0 => k_asm); (case X_0 => k_asm); (case T_0 => k_asm); (case e_0 => k_is); k_whole)
      | (refine' nameX_L ?F_0 ?v_0 ?_ ?a_0 ?b_0; (case b_0 => kernel_rfl!); (case a_0 => rfl); (case F_0 => k_asm); (case v_0 => rfl); k_whole)
      | (refine' nameX_B ?F_0 ?X_0 ?T_0 ?e_0 ?v_0 ?n_0 ?_ ?a_0 ?b_0; (case b_0 => kernel_rfl!); (case a_0 => rfl); (case F_0 => k_asm); (case X_0 => k_asm); (case T_0 => k_asm); (case e_0 => k_is); (case v_0 => boot_fast); (case n_0 => decide); k_whole))))
  k_with "12 callWith ref" => ((k_here; (with_reducible show wpAny _ _ (callWith _ (Value.ref _) _ (backTo _ (starEach (_ :: _) _)) (backToKw _ _)) _ _ _); k_dflt (refine' callWith_KW ?k1_0 ?k2_0 ?k3_0 ?_; (case k1_0 => k_asm); (case k2_0 => k_is); (case k3_0 => exact rfl); k_whole)))
  k_with "1 binaryOp Mod int int" => ((k_here; k_dflt (refine r_mod (by decide) ?_); intro _ _))
  trivial
theorem other_ok (w : World) (far : Nat) (t : Tok) (news : List (Addr × Obj)) : ConU w 1 30 (.ref 137) [.int (far : Int) t] news (Odd BadK news) := by
  refine' con_ofU (binds := [(Str.ofString "far", .int (far : Int) t)]) ?qo ?qcd ?qbind ?qloc ?q1 ?q2 ?q3 ?q4 ?_
  case qo => k_is
  case qcd => k_is
  case qbind => exact fun s X => by first | exact BindsTo.of_eq rfl | exact binds_K (by k_in) rfl (by k_is) rfl rfl rfl
  case qloc => exact locs rfl
  case q1 => exact rfl
  case q2 => exact rfl
  case q3 => exact rfl
  case q4 => decide
  intro dp un gd outer A₀ base g L' h₁ tk s p loose mean mg mb B F X N T hd hu
  show wpAny _ _ _ _ _ _
  k_fold
  k_steps
  · show EndsU _ _ _ _ _ _
    exact endsU _ (by k_asm) (by k_asm) (fun p hp => hp) (.inr ⟨rfl, fun l o => .inl rfl⟩)
  · show EndsU _ _ _ _ _ _
    exact endsU _ (by k_asm) (by k_asm) (fun p hp => hp) (.inr ⟨rfl, fun l o => .inr (.inl ⟨_, _, rfl⟩)⟩)
  · show EndsU _ _ _ _ _ _
    exact endsU _ (by k_asm) (by k_asm) (fun p hp => hp) (.inl ⟨_, _, .inr (.inr (.inl ⟨_, _, rfl, rfl⟩)), rfl⟩)
  · show EndsU _ _ _ _ _ _
    exact endsU _ (by k_asm) (by k_asm) (fun p hp => hp) (.inl ⟨_, _, .inr (.inr (.inr ⟨_, _, rfl, rfl⟩)), rfl⟩)
theorem signs_ok (w : World) (far : Nat) (t : Tok) (news : List (Addr × Obj)) : ConU w 1 30 (.ref 144) [.int (far : Int) t] news (Odd BadI news) := by
  refine' con_ofU (binds := [(Str.ofString "far", .int (far : Int) t)]) ?qo ?qcd ?qbind ?qloc ?q1 ?q2 ?q3 ?q4 ?_
  case qo => k_is
  case qcd => k_is
  case qbind => exact fun s X => by first | exact BindsTo.of_eq rfl | exact binds_K (by k_in) rfl (by k_is) rfl rfl rfl
  case qloc => exact locs rfl
  case q1 => exact rfl
  case q2 => exact rfl
  case q3 => exact rfl
  case q4 => decide
  intro dp un gd outer A₀ base g L' h₁ tk s p loose mean mg mb B F X N T hd hu
  show wpAny _ _ _ _ _ _
  k_fold
  k_steps
  · show EndsU _ _ _ _ _ _
    exact endsU _ (by k_asm) (by k_asm) (fun p hp => hp) (.inr ⟨rfl, fun l o => .inl ⟨_, _, rfl⟩⟩)
  · show EndsU _ _ _ _ _ _
    exact endsU _ (by k_asm) (by k_asm) (fun p hp => hp) (.inr ⟨rfl, fun l o => .inr (.inl ⟨_, _, rfl⟩)⟩)
  · show EndsU _ _ _ _ _ _
    exact endsU _ (by k_asm) (by k_asm) (fun p hp => hp) (.inl ⟨_, _, .inr (.inr ⟨_, _, rfl, rfl⟩), rfl⟩)
end
end Mine
end
-- F9
section
open PySem PySem.W PySem.Spec PySem.Calls PyProof.Rows PyProof.Rows.LCg
set_option maxRecDepth 100000
set_option maxHeartbeats 1000000
set_option linter.unusedVariables false
namespace Mine
theorem ru65 : True := by
  k_with_none
  k_with "12 eval Name" => ((k_here; (first | (with_reducible show wpAny _ _ (eval (Expr.Name _ _) (envOf _ _ _ _ _)) _ _ _) | (with_reducible show wpAny _ _ (eval (Expr.Name _ _) (envOfC _ _ _ _ _)) _ _ _) | (with_reducible show wpAny _ _ (eval (Expr.Name _ _) (envX _ _ _ _ _ _)) _ _ _)); k_dflt (first
      | (refine' nameX_K ?F_0 ?X_0 ?T_0 ?e_0 ?_ ?a_0 ?b_0; (case b_0 => kernel_rfl!); (case a_0 => rfl); (case F_0 => k_asm); (case X_0 => k_asm); (case T_0 => k_asm); (case e_0 => k_is); k_whole)
      | (refine' nameX_L ?F_0 ?v_0 ?_ ?a_0 ?b_0; (case b_0 => kernel_rfl!); (case a_0 => rfl); (case F_0 => k_asm); (case v_0 => rfl); k_whole)
      | (refine' nameX_B ?F_0 ?X_0 ?T_0 ?e_0 ?v_0 ?n_0 ?_ ?a_0 ?b_0; (case b_0 => kernel_rfl!); (case a_0 => rfl); (case F_0 => k_asm); (case X_0 => k_asm); (case T_0 => k_asm); (case e_0 => k_is); (case v_0 => boot_fast); (case n_0 => decide); k_whole))))
  k_with "12 callWith ref" => ((k_here; (with_reducible show wpAny _ _ (callWith _ (Value.ref _) _ (backTo _ (starEach (_ :: _) _)) (backToKw _ _)) _ _ _); k_dflt (refine' callWith_KW ?k1_0 ?k2_0 ?k3_0 ?_; (case k1_0 => k_asm); (case k2_0 => k_is); (case k3_0 => exact rfl); k_whole)))
  trivial
/-- the kind of the error that each of the seventeen calls is refused with -/
noncomputable def clsOf (kind : Nat) : String := if kind < 5 then "ValueError" else if kind = 5 then "OverflowError" else if kind < 15 then "TypeError" else "AssertionError"
theorem odd_use {P : Value → Addr → Obj → Prop} {news post : List (Addr × Obj)} {v : Value} {a : Addr} {ob : Obj} (hm : (a, ob) ∈ news) (h : Odd P news v post) : ∃ l o, P v l o ∧ (l, o) ∈ post ∧ ∀ p ∈ news, p ∈ post := by
  rcases h with ⟨l, o, hp, rfl⟩ | ⟨rfl, hp⟩
  · exact ⟨l, o, hp, List.Mem.head _, fun p h => List.Mem.tail _ h⟩
  · exact ⟨a, ob, hp _ _, hm, fun p h => h⟩
theorem pb2_x5' (w : World) (ra fh : Addr) (size block : Nat) (h1 : 1 ≤ size) (h2 : size ≤ 32) (far : Nat) (K5 : Int) (hK : K5 = (size : Int) * 4294967295 + 1 + (far : Int)) (tr tn : Tok) (ts tt : Tok) (news : List (Addr × Obj)) (HR : RowAt ra fh size block news) :
    ConX w 7 130 (.ref 82) [.ref ra, .bytes [(115 : UInt8)].toArray ts, .bytes [(116 : UInt8)].toArray tt, .int 1 tr, .int K5 tn] [] news "OverflowError" := by
  subst hK
  exact pb2_x5 w ra fh size block h1 h2 far tr tn ts tt news HR
theorem r_row0 {prog : Program} {w : World} {A : Around} {E : Value → Shared → Prop} {s : Shared} {h₀ : Heap} {L : Addr} {news : List (Addr × Obj)} {value slice : PySem.Expr} {l : Addr} {a b c : Value} {n : Nat} {u : Tok} {Q : Value → Shared → Prop}
    (N : News h₀ L s.heap news) (hm : (l, ({ cls := .type "tuple", data := .seq #[a, b, c] n } : Obj)) ∈ news) (hs : subscripted slice false (.ref l) (.int 0 u) = operate [.ref l, .int 0 u] (getItem (.ref l) (.int 0 u))) (h : Q a s) : wpAny (model prog w) A (subscriptTail value slice (.ref l) (.int 0 u)) Q E s :=
  r_titem N hm (by decide) (show (0 : Int) < ((3 : Nat) : Int) by decide) (show (3 : Nat) ≤ 16384 by decide) rfl hs h
section
-- pbkdf2_hmac, five arguments
-- pbkdf2_hmac, four arguments
-- pbkdf1, five arguments
-- compile_hmac
theorem ru64 : True := by
  k_with_none
  k_with "12 eval Name" => ((k_here; (first | (with_reducible show wpAny _ _ (eval (Expr.Name _ _) (envOf _ _ _ _ _)) _ _ _) | (with_reducible show wpAny _ _ (eval (Expr.Name _ _) (envOfC _ _ _ _ _)) _ _ _) | (with_reducible show wpAny _ _ (eval (Expr.Name _ _) (envX _ _ _ _ _ _)) _ _ _)); k_dflt (first
      | (refine' nameX_K ?F_0 ?X_0 ?T_0 ?e_0 ?_ ?a_0 ?b_0; (case b_0 => kernel_rfl!); (case a_0 => rfl); (case F_0 => k_asm); (case X_0 => k_asm); (case T_0 => k_asm); (case e_0 => k_is); k_whole)
      | (refine' nameX_L ?F_0 ?v_0 ?_ ?a_0 ?b_0; (case b_0 => kernel_rfl!); (case a_0 => rfl); (case F_0 => k_asm); (case v_0 => rfl); k_whole)
      | (refine' nameX_B ?F_0 ?X_0 ?T_0 ?e_0 ?v_0 ?n_0 ?_ ?a_0 ?b_0; (case b_0 => kernel_rfl!); (case a_0 => rfl); (case F_0 => k_asm); (case X_0 => k_asm); (case T_0 => k_asm); (case e_0 => k_is); (case v_0 => boot_fast); (case n_0 => decide); k_whole))))
  k_with "12 callWith ref" => ((k_here; (with_reducible show wpAny _ _ (callWith _ (Value.ref _) _ (backTo _ (starEach (_ :: _) _)) (backToKw _ _)) _ _ _); k_dflt (refine' callWith_KW ?k1_0 ?k2_0 ?k3_0 ?_; (case k1_0 => k_asm); (case k2_0 => k_is); (case k3_0 => exact rfl); k_whole)))
  k_with "1 binaryOp Mod int int" => ((k_here; k_dflt (refine r_mod (by decide) ?_); intro _ _))
  k_with "2 subscriptTail" => ((k_here; (with_reducible show wpAny _ _ (subscriptTail _ _ (Value.ref _) (Value.int 1 _)) _ _ _); k_dflt (refine r_row1 (by k_asm) (by (repeat (first | assumption | refine List.Mem.tail _ ?_))) (by with_unfolding_all rfl) ?_)))
  k_with "1 subscriptTail" => ((k_here; (with_reducible show wpAny _ _ (subscriptTail _ _ (Value.ref _) (Value.int 0 _)) _ _ _); k_dflt (refine r_row0 (by k_asm) (by (repeat (first | assumption | refine List.Mem.tail _ ?_))) (by with_unfolding_all rfl) ?_)))
  k_with "1 ux" => (((case N_56 => k_asm); (case B_56 => k_asm); (case F_56 => k_asm); (case X_56 => k_asm); (case T_56 => k_asm); (case hk_56 => rfl); (case hd_56 => omega); (case hu_56 => omega); (intro e9 h9 tk9 u9)))
  k_with "9 call ref" => ((k_here; (with_reducible show wpAny _ _ (call (Value.ref 137) [_]) _ _ _); k_dflt (refine' use_conU (other_ok w far _ _) ?B_56 ?F_56 ?X_56 ?N_56 ?T_56 ?hk_56 ?hd_56 ?hu_56 ?_); (case N_56 => k_asm); (case B_56 => k_asm); (case F_56 => k_asm); (case X_56 => k_asm); (case T_56 => k_asm); (case hk_56 => rfl); (case hd_56 => omega); (case hu_56 => omega); (intro r9 post9 h9 tk9 hR9 F9 N9; obtain ⟨l9, o9, hv9, hl9, hs9⟩ := odd_use HR2 hR9; clear hR9)))
  k_with "8 call ref" => ((k_here; (with_reducible show wpAny _ _ (call (Value.ref 144) [_]) _ _ _); k_dflt (refine' use_conU (signs_ok w far _ _) ?B_56 ?F_56 ?X_56 ?N_56 ?T_56 ?hk_56 ?hd_56 ?hu_56 ?_); (case N_56 => k_asm); (case B_56 => k_asm); (case F_56 => k_asm); (case X_56 => k_asm); (case T_56 => k_asm); (case hk_56 => rfl); (case hd_56 => omega); (case hu_56 => omega); (intro r9 post9 h9 tk9 hR9 F9 N9; obtain ⟨l9, o9, hv9, hl9, hs9⟩ := odd_use HR2 hR9; clear hR9)))
  k_with "7 call ref" => ((k_here; (with_reducible show wpAny _ _ (call (Value.ref 82) [_, Value.bytes _ _, Value.bytes _ _, Value.int _ _, Value.int _ _]) _ _ _); first
  | (k_dflt (refine' use_conX (pb2_x0 w ra fh size block h1 h2 _ _ ?hr_56 _ _ _ _ HR) ?B_56 ?F_56 ?X_56 ?N_56 ?T_56 ?hk_56 ?hd_56 ?hu_56 ?_); (case hr_56 => omega); walk_at "ux")
  | (k_dflt (refine' use_conX (pb2_x2 w ra fh size block h1 h2 _ _ _ ?hn_56 _ _ _ HR) ?B_56 ?F_56 ?X_56 ?N_56 ?T_56 ?hk_56 ?hd_56 ?hu_56 ?_); (case hn_56 => omega); walk_at "ux")
  | (k_dflt (refine' use_conX (pb2_x5' w ra fh size block h1 h2 far _ ?hK_56 _ _ _ _ _ HR) ?B_56 ?F_56 ?X_56 ?N_56 ?T_56 ?hk_56 ?hd_56 ?hu_56 ?_); (case hK_56 => rw [show ((2 : Int) ^ Int.toNat 32 - 1) = 4294967295 by decide]); walk_at "ux")))
  k_with "6 call ref" => ((k_here; (with_reducible show wpAny _ _ (call (Value.ref 82) [_, Value.bytes _ _, Value.bytes _ _, Value.int _ _, _]) _ _ _); k_dflt (refine' use_conX (conX_mem (pb2_x12 w ra fh size block h1 h2 _ _ l9 o9 hv9 _ _ _ (HR.sub hs9)) hl9) ?B_56 ?F_56 ?X_56 ?N_56 ?T_56 ?hk_56 ?hd_56 ?hu_56 ?_); walk_at "ux"))
  k_with "5 call ref" => ((k_here; (with_reducible show wpAny _ _ (call (Value.ref 82) [_, _, _, _]) _ _ _); first
  | (k_dflt (refine' use_conX (conX_mem (pb2_x10 w ra fh size block h1 h2 _ l9 o9 hv9 _ _ _ (HR.sub hs9)) hl9) ?B_56 ?F_56 ?X_56 ?N_56 ?T_56 ?hk_56 ?hd_56 ?hu_56 ?_); walk_at "ux")
  | (k_dflt (refine' use_conX (pb2_x6 w ra _ l9 o9 hv9 _ _ _ hl9) ?B_56 ?F_56 ?X_56 ?N_56 ?T_56 ?hk_56 ?hd_56 ?hu_56 ?_); walk_at "ux")
  | (k_dflt (refine' use_conX (pb2_x7 w ra _ l9 o9 hv9 _ _ _ hl9) ?B_56 ?F_56 ?X_56 ?N_56 ?T_56 ?hk_56 ?hd_56 ?hu_56 ?_); walk_at "ux")
  | (k_dflt (refine' use_conX (pb2_x16 w _ fh size (far % 16) h1 h2 ?h5_56 _ _ _ _ ⟨_, _, List.Mem.head _⟩) ?B_56 ?F_56 ?X_56 ?N_56 ?T_56 ?hk_56 ?hd_56 ?hu_56 ?_); (case h5_56 => omega); walk_at "ux")))
  k_with "4 call ref" => ((k_here; (with_reducible show wpAny _ _ (call (Value.ref 69) [_, Value.bytes _ _, Value.bytes _ _, Value.int _ _, Value.int _ _]) _ _ _); first
  | (k_dflt (refine' use_conX (pb1_x1 w ra fh size block h1 h2 _ _ ?hr_56 _ _ _ _ HR) ?B_56 ?F_56 ?X_56 ?N_56 ?T_56 ?hk_56 ?hd_56 ?hu_56 ?_); (case hr_56 => omega); walk_at "ux")
  | (k_dflt (refine' use_conX (pb1_x3 w ra fh size block h1 h2 _ _ _ ?hn_56 _ _ _ HR) ?B_56 ?F_56 ?X_56 ?N_56 ?T_56 ?hk_56 ?hd_56 ?hu_56 ?_); (case hn_56 => omega); walk_at "ux")
  | (k_dflt (refine' use_conX (pb1_x4 w ra fh size block h1 h2 _ _ _ ?hn_56 ?hn2_56 _ _ _ HR) ?B_56 ?F_56 ?X_56 ?N_56 ?T_56 ?hk_56 ?hd_56 ?hu_56 ?_); (case hn_56 => omega); (case hn2_56 => omega); walk_at "ux")))
  k_with "3 call ref" => ((k_here; (with_reducible show wpAny _ _ (call (Value.ref 69) [_, Value.bytes _ _, Value.bytes _ _, Value.int _ _, _]) _ _ _); k_dflt (refine' use_conX (conX_mem (pb1_x13 w ra fh size block h1 h2 _ _ l9 o9 hv9 _ _ _ (HR.sub hs9)) hl9) ?B_56 ?F_56 ?X_56 ?N_56 ?T_56 ?hk_56 ?hd_56 ?hu_56 ?_); walk_at "ux"))
  k_with "2 call ref" => ((k_here; (with_reducible show wpAny _ _ (call (Value.ref 69) [_, _, _, _]) _ _ _); first
  | (k_dflt (refine' use_conX (conX_mem (pb1_x11 w ra fh size block h1 h2 _ l9 o9 hv9 _ _ _ (HR.sub hs9)) hl9) ?B_56 ?F_56 ?X_56 ?N_56 ?T_56 ?hk_56 ?hd_56 ?hu_56 ?_); walk_at "ux")
  | (k_dflt (refine' use_conX (pb1_x8 w ra fh size block _ l9 o9 hv9 _ _ _ hl9 (HR.sub hs9)) ?B_56 ?F_56 ?X_56 ?N_56 ?T_56 ?hk_56 ?hd_56 ?hu_56 ?_); walk_at "ux")
  | (k_dflt (refine' use_conX (pb1_x9 w ra fh size block _ l9 o9 hv9 _ _ _ hl9 (HR.sub hs9)) ?B_56 ?F_56 ?X_56 ?N_56 ?T_56 ?hk_56 ?hd_56 ?hu_56 ?_); walk_at "ux")))
  k_with "1 call ref" => ((k_here; (with_reducible show wpAny _ _ (call (Value.ref 61) [_, _]) _ _ _); first
  | (k_dflt (refine' use_conX (conX_mem (make_x14 w ra fh _ l9 o9 size block h5 _ (HR.sub hs9) hv9) hl9) ?B_56 ?F_56 ?X_56 ?N_56 ?T_56 ?hk_56 ?hd_56 ?hu_56 ?_); walk_at "ux")
  | (k_dflt (refine' use_conX (make_x15 w _ fh _ size (far % 16) ?h5_56 _ ⟨_, _, List.Mem.head _⟩) ?B_56 ?F_56 ?X_56 ?N_56 ?T_56 ?hk_56 ?hd_56 ?hu_56 ?_); (case h5_56 => omega); walk_at "ux")))
  trivial
theorem wrong_ok (w : World) (ra fh : Addr) (kind far size block : Nat) (t t' : Tok) (hkind : kind ≤ 16) (hfar : far < 100000000000000000000) (h1 : 1 ≤ size) (h2 : size ≤ 32) (h5 : 16 ≤ block) (news : List (Addr × Obj)) (HR : RowAt ra fh size block news) :
    ConX w 9 150 (.ref 151) [.int (kind : Int) t, .ref ra, .int (far : Int) t'] [] news (clsOf kind) := by
  refine' conX_of (binds := [(Str.ofString "kind", .int (kind : Int) t), (Str.ofString "row", .ref ra), (Str.ofString "far", .int (far : Int) t')]) ?qo ?qcd ?qbind ?qloc ?q1 ?q2 ?q3 ?q4 ?_
  case qo => k_is
  case qcd => k_is
  case qbind => exact fun s X => by first | exact BindsTo.of_eq rfl | exact binds_K (by k_in) rfl (by k_is) rfl rfl rfl
  case qloc => exact locs rfl
  case q1 => exact rfl
  case q2 => exact rfl
  case q3 => exact rfl
  case q4 => decide
  intro dp un gd outer A₀ base g L' h₁ tk s p loose mean mg mb B F X N T hd hu
  have HR9 := HR
  obtain ⟨t1, t2, HR2⟩ := HR9
  show wpAny _ _ _ _ _ _
  k_fold
  k_steps
  all_goals (
    show EndsX _ _ _ _ _ _ _ _ _
    first | (have hk9 : kind = 0 := (by omega); subst hk9) | (have hk9 : kind = 1 := (by omega); subst hk9) | (have hk9 : kind = 2 := (by omega); subst hk9) | (have hk9 : kind = 3 := (by omega); subst hk9) | (have hk9 : kind = 4 := (by omega); subst hk9) | (have hk9 : kind = 5 := (by omega); subst hk9) | (have hk9 : kind = 6 := (by omega); subst hk9) | (have hk9 : kind = 7 := (by omega); subst hk9) | (have hk9 : kind = 8 := (by omega); subst hk9) | (have hk9 : kind = 9 := (by omega); subst hk9) | (have hk9 : kind = 10 := (by omega); subst hk9) | (have hk9 : kind = 11 := (by omega); subst hk9) | (have hk9 : kind = 12 := (by omega); subst hk9) | (have hk9 : kind = 13 := (by omega); subst hk9) | (have hk9 : kind = 14 := (by omega); subst hk9) | (have hk9 : kind = 15 := (by omega); subst hk9) | (have hk9 : kind = 16 := (by omega); subst hk9)
    exact ends_up u9 (by intro p hp; repeat (first | exact hp | exact hs9 p hp | refine List.Mem.tail _ ?_)))
end
end Mine
end
-- G0
section
open PySem PySem.W PySem.Spec PySem.Calls PyProof.Rows PyProof.Rows.LCg
set_option maxRecDepth 100000
set_option maxHeartbeats 1000000
set_option linter.unusedVariables false
namespace Mine
theorem ru66 : True := by
  k_with_none
  k_with "12 eval Name" => ((k_here; (first | (with_reducible show wpAny _ _ (eval (Expr.Name _ _) (envOf _ _ _ _ _)) _ _ _) | (with_reducible show wpAny _ _ (eval (Expr.Name _ _) (envOfC _ _ _ _ _)) _ _ _) | (with_reducible show wpAny _ _ (eval (Expr.Name _ _) (envX _ _ _ _ _ _)) _ _ _)); k_dflt (first
      | (refine' nameX_K ?F_0 ?X_0 ?T_0 ?e_0 ?_ ?a_0 ?b_0; (case b_0 => kernel_rfl!); (case a_0 => rfl); (case F_0 => k_asm); (case X_0 => k_asm); (case T_0 => k_asm); (case e_0 => k_is); k_whole)
      | (refine' nameX_L ?F_0 ?v_0 ?_ ?a_0 ?b_0; (case b_0 => kernel_rfl!); (case a_0 => rfl); (case F_0 => k_asm); (case v_0 => rfl); k_whole)
      | (refine' nameX_B ?F_0 ?X_0 ?T_0 ?e_0 ?v_0 ?n_0 ?_ ?a_0 ?b_0; (case b_0 => kernel_rfl!); (case a_0 => rfl); (case F_0 => k_asm); (case X_0 => k_asm); (case T_0 => k_asm); (case e_0 => k_is); (case v_0 => boot_fast); (case n_0 => decide); k_whole))))
  k_with "12 callWith ref" => ((k_here; (with_reducible show wpAny _ _ (callWith _ (Value.ref _) _ (backTo _ (starEach (_ :: _) _)) (backToKw _ _)) _ _ _); k_dflt (refine' callWith_KW ?k1_0 ?k2_0 ?k3_0 ?_; (case k1_0 => k_asm); (case k2_0 => k_is); (case k3_0 => exact rfl); k_whole)))
  trivial
/-- a call from the law's own frame of a def that catches: it comes back with an r of R, the ledger as it was -/
noncomputable def ConS (w : World) (D U : Nat) (f : Value) (vs : List Value) (news : List (Addr × Obj)) (R : Value → Prop) : Prop :=
  ∀ (dp un : Nat) (gd : Option (List Code)) (cn : Str) (cs : Scope) (a : Addr) (ccd : Value) (cl : List (Str × Addr)) (A₀ : Around) (h₀ : Heap) (L : Addr) (m : Str → Option Value) (s : Shared) (Q E : Value → Shared → Prop)
    (p : Program) (loose : List Str) (mean : ExcName → Option Value) (mg mb : Str → Option Value),
    Below A₀ h₀ [] h₀ → Fr h₀ L s.heap m → (K w.params).In h₀ → News h₀ L s.heap news → Top p loose mean mg mb h₀ → cs.kind = .function → dp + D < recursionLimit → un + U < cLine →
    (∀ r h' tk', R r → Fr h₀ L h' m → News h₀ L h' news → Q r { s with heap := h', toks := tk' }) →
    wpAny (model pw w) (ktrTop dp un gd cn cs L a ccd cl []) (call f vs) Q E s
/-- the end of the body of a def that catches -/
noncomputable def EndsS (fs : List Addr) (g : Heap) (s₀ : Shared) (news : List (Addr × Obj)) (R : Value → Prop) (fl : Flow) (s' : Shared) : Prop :=
  ∃ v h' tk g' L'' m' news', flV fl = v ∧ s' = { s₀ with heap := h', toks := tk } ∧ R v ∧ KtsTurn fs g g' ∧ Fr g' L'' h' m' ∧ News g' L'' h' news' ∧ ∀ p ∈ news, p ∈ news'
theorem endsS {fs : List Addr} {g g' : Heap} {s₀ : Shared} {news news' : List (Addr × Obj)} {R : Value → Prop} {v : Value} {h' : Heap} {tk : Nat} {L'' : Addr} {m' : Str → Option Value} (T : KtsTurn fs g g') (F : Fr g' L'' h' m') (N : News g' L'' h' news') (hs : ∀ p ∈ news, p ∈ news') (r : R v) :
    EndsS fs g s₀ news R (.ret v) { s₀ with heap := h', toks := tk } := ⟨v, h', tk, g', L'', m', news', rfl, rfl, r, T, F, N, hs⟩
noncomputable def BodyS (w : World) (D U : Nat) (qual : Str) (scope : Scope) (f : Addr) (cdv : Value) (body : List Stmt) (binds : List (Str × Value)) (news : List (Addr × Obj)) (R : Value → Prop) : Prop :=
  ∀ (dp un : Nat) (gd : Option (List Code)) (cn : Str) (cs : Scope) (L a : Addr) (ccd : Value) (cl : List (Str × Addr)) (base g : Heap) (L' : Addr) (h₁ : Heap) (tk : Nat) (s : Shared) (p : Program) (loose : List Str) (mean : ExcName → Option Value) (mg mb : Str → Option Value),
    Below (ktrTop dp un gd cn cs L a ccd cl []) base [envX cn cs L a ccd cl] g → Fr g L' h₁ (fun y => binds.reverse.lookup y) → (K w.params).In g → News g L' h₁ news → Top p loose mean mg mb g → (K w.params).In base → Top p loose mean mg mb base → KtsDicts ([envX cn cs L a ccd cl].filterMap (·.frame)) g → dp + 1 + D < recursionLimit → un + 3 + U < cLine →
    wpAny (model pw w) ((ktrTop dp un gd cn cs L a ccd cl []).deeper (envOf qual scope L' f cdv)) (execs body (envOf qual scope L' f cdv)) (EndsS ([envX cn cs L a ccd cl].filterMap (·.frame)) g s news R) (fun _ _ => False) { s with heap := h₁, toks := tk }
theorem conS_of {w : World} {D U : Nat} {news : List (Addr × Obj)} {R : Value → Prop} {name qual : Str} {params : Arguments} {body : List Stmt} {scope : Scope} {dV kV doc pm cdv ct oc : Value} {an od : Option Addr} {osl : Array (Option Value)} {f : Addr} {vs : List Value} {binds : List (Str × Value)}
    (ho : (K w.params).lookup f = some ⟨oc, od, .func (fnOf name qual params body scope dV kV doc pm an cdv ct), osl⟩) (hcd : codeIn (K w.params) cdv qual = true)
    (hbind : ∀ s : Shared, (K w.params).In s.heap → BindsTo s (fnOf name qual params body scope dV kV doc pm an cdv ct) ⟨vs, []⟩ binds) (hloc : ∀ y ∈ binds, scope.names.lookup y.1 = some .local)
    (hco : scope.isCoroutine = false) (hgen : scope.isGenerator = false) (hk : scope.kind = .function) (hcell : ∀ x ∈ scope.names, x.2 ≠ .cell)
    (hb : BodyS w D (U + 3) qual scope f cdv body binds news R) : ConS w (D + 1) (U + 6) (.ref f) vs news R := by
  intro dp un gd cn cs a ccd cl A₀ h₀ L m s Q E p loose mean mg mb B F X N T hk' hd hu hret
  refine wpAny_call ?_
  have XS := X.keeps F.keep
  refine codeAny_call_def (fd := fnOf name qual params body scope dV kV doc pm an cdv ct) (body := body) (binds := binds) (by show dp < recursionLimit; omega) (XS _ _ ho) rfl (T.nolimit.keeps F.keep) (codeRec_of XS hcd) rfl (hbind s XS) hcell hloc (fun h₁ hns hk₁ => ?_) hco hgen hk
  -- the ground of the callee: the caller's heap without its ledger
  have nm : ∀ b o, h₀.get? b = some o → b ∉ news.map (·.1) := fun b o e q => by
    obtain ⟨p, hp, rfl⟩ := List.mem_map.mp q
    rw [(N p hp).2.2] at e; cases e
  have st : h₀.StaysIn (hideAll s.heap (news.map (·.1))) := fun b o e => hideAll_get _ (F.keep b o e) (nm b o e)
  obtain ⟨oL, es, ep, hL, hLd, hLr⟩ := F.ns
  have nL : L ∉ news.map (·.1) := fun q => by
    obtain ⟨p, hp, e⟩ := List.mem_map.mp q
    exact (N p hp).2.1 e
  have hLg := hideAll_get (news.map (·.1)) hL nL
  have nL₀ : h₀.get? L = none := kts_self F
  have B₁ : Below (A₀.deeper (envX cn cs L a ccd cl)) h₀ [envX cn cs L a ccd cl] s.heap := pushX B F rfl hk'
  have B₂ : Below (ktrTop dp un gd cn cs L a ccd cl []) h₀ [envX cn cs L a ccd cl] (hideAll s.heap (news.map (·.1))) := ⟨rfl, st, funFrames_hideAll B₁.frames fun env he b hb hf => by
    rcases List.mem_singleton.mp he with rfl
    exact nL ((Option.some.inj hf : L = b) ▸ hb)⟩
  refine wpAny_mono (hb dp un gd cn cs L a ccd cl h₀ _ s.heap.objs.size h₁ _ s p loose mean mg mb B₂ ⟨hns, fun b o e => hk₁ b o (of_hideAll _ e), Nat.le_of_eq (hideAll_size _ _)⟩ (X.keeps st)
    (fun p hp => ⟨hk₁ _ _ (N p hp).1, Nat.ne_of_lt (Heap.lt_size (N p hp).1), hideAll_none _ (List.mem_map_of_mem hp)⟩) (T.keeps st) X T (fun b hb => by
      rcases List.mem_singleton.mp (show b ∈ [L] from hb) with rfl
      exact ⟨oL, es, ep, hLg, hLd⟩) (by omega) (by omega)) (fun fl s' h => ?_) fun _ _ h => h.elim
  obtain ⟨v, h', tk, g', L'', m', news', e, rfl, r, T', F', N', hs⟩ := h
  obtain ⟨sl, hsl⟩ := T'.up hLg
  have fin : Q v { s with heap := h', toks := tk } := by
    refine hret v h' tk r ⟨⟨_, es, ep, F'.keep _ _ hsl, hLd, hLr⟩, fun b o q => F'.keep b o (T'.other b o (st b o q) fun z => ?_), F.above⟩ fun p hp => ⟨(N' p (hs p hp)).1, fun q => ?_, (N p hp).2.2⟩
    · rcases List.mem_singleton.mp (show b ∈ [L] from z) with rfl
      rw [nL₀] at q
      cases q
    · have := (N' p (hs p hp)).2.2
      rw [q, hsl] at this
      cases this
  cases fl <;> cases e <;> exact fin
theorem use_conS {w : World} {D U : Nat} {f : Value} {vs : List Value} {news : List (Addr × Obj)} {R : Value → Prop} {dp un : Nat} {gd : Option (List Code)} {cn : Str} {cs : Scope} {a : Addr} {ccd : Value} {cl : List (Str × Addr)} {A₀ : Around} {h₀ : Heap} {L : Addr} {m : Str → Option Value} {s : Shared} {Q E : Value → Shared → Prop}
    {p : Program} {loose : List Str} {mean : ExcName → Option Value} {mg mb : Str → Option Value} (C : ConS w D U f vs news R) (B : Below A₀ h₀ [] h₀) (F : Fr h₀ L s.heap m) (X : (K w.params).In h₀) (N : News h₀ L s.heap news) (T : Top p loose mean mg mb h₀) (hk : cs.kind = .function) (hd : dp + D < recursionLimit) (hu : un + U < cLine)
    (h : ∀ r h' tk', R r → Fr h₀ L h' m → News h₀ L h' news → Q r { s with heap := h', toks := tk' }) : wpAny (model pw w) (ktrTop dp un gd cn cs L a ccd cl []) (call f vs) Q E s :=
  C dp un gd cn cs a ccd cl A₀ h₀ L m s Q E p loose mean mg mb B F X N T hk hd hu h
end Mine
end
-- G1
section
open PySem PySem.W PySem.Spec PySem.Calls PyProof.Rows PyProof.Rows.LCg
set_option maxRecDepth 100000
set_option maxHeartbeats 1000000
set_option linter.unusedVariables false
namespace Mine
section
theorem ru67 : True := by
  k_with_none
  k_with "12 eval Name" => ((k_here; (first | (with_reducible show wpAny _ _ (eval (Expr.Name _ _) (envOf _ _ _ _ _)) _ _ _) | (with_reducible show wpAny _ _ (eval (Expr.Name _ _) (envOfC _ _ _ _ _)) _ _ _) | (with_reducible show wpAny _ _ (eval (Expr.Name _ _) (envX _ _ _ _ _ _)) _ _ _)); k_dflt (first
      | (refine' nameX_K ?F_0 ?X_0 ?T_0 ?e_0 ?_ ?a_0 ?b_0; (case b_0 => kernel_rfl!); (case a_0 => rfl); (case F_0 => k_asm); (case X_0 => k_asm); (case T_0 => k_asm); (case e_0 => k_is); k_whole)
      | (refine' nameX_L ?F_0 ?v_0 ?_ ?a_0 ?b_0; (case b_0 => kernel_rfl!); (case a_0 => rfl); (case F_0 => k_asm); (case v_0 => rfl); k_whole)
      | (refine' nameX_B ?F_0 ?X_0 ?T_0 ?e_0 ?v_0 ?n_0 ?_ ?a_0 ?b_0; (case b_0 => kernel_rfl!); (case a_0 => rfl); (case F_0 => k_asm); (case X_0 => k_asm); (case T_0 => k_asm); (case e_0 => k_is); (case v_0 => boot_fast); (case n_0 => decide); k_whole))))
  k_with "12 callWith ref" => ((k_here; (with_reducible show wpAny _ _ (callWith _ (Value.ref _) _ (backTo _ (starEach (_ :: _) _)) (backToKw _ _)) _ _ _); k_dflt (refine' callWith_KW ?k1_0 ?k2_0 ?k3_0 ?_; (case k1_0 => k_asm); (case k2_0 => k_is); (case k3_0 => exact rfl); k_whole)))
  k_with "1 call ref" => ((k_here; (with_reducible show wpAny _ _ (call (Value.ref 151) [_, _, _]) _ _ _); (show wpAny (model pw w) (ktrTop (dp + 1) (un + 3) gd (Str.ofString "_law_answer") fS25 L' 158 (Value.ref 157) [] [envX cn cs L a ccd cl]) _ _ _ _); k_dflt (refine' use_conX (wrong_ok w ra fh kind far size block _ _ hkind hfar h1 h2 h5 _ HR) ?B_58 ?F_58 ?X_58 ?N_58 ?T_58 ?hk_58 ?hd_58 ?hu_58 ?_); (case N_58 => k_asm); (case B_58 => k_asm); (case F_58 => k_asm); (case X_58 => k_asm); (case T_58 => k_asm); (case hk_58 => rfl); (case hd_58 => omega); (case hu_58 => omega); (intro e9 h9 tk9 u9; rw [hcls] at u9; obtain ⟨G9, F9, R9, U9⟩ := u9; change RaisedSN _ _ (envOf (Str.ofString "_law_answer") fS25 L' 158 (Value.ref 157) :: [envX cn cs L a ccd cl]) _ _ _ _ at R9)))
  trivial
theorem answer1 (w : World) (ra fh : Addr) (kind far size block : Nat) (t t' : Tok) (hkind : kind ≤ 16) (hfar : far < 100000000000000000000) (h1 : 1 ≤ size) (h2 : size ≤ 32) (h5 : 16 ≤ block) (news : List (Addr × Obj)) (HR : RowAt ra fh size block news) (hcls : clsOf kind = "ValueError") :
    ConS w 10 160 (.ref 158) [.int (kind : Int) t, .ref ra, .int (far : Int) t'] news (fun r => ∃ tr, r = .str (Str.ofString "ValueError") tr) := by
  refine' conS_of (binds := [(Str.ofString "kind", .int (kind : Int) t), (Str.ofString "row", .ref ra), (Str.ofString "far", .int (far : Int) t')]) ?qo ?qcd ?qbind ?qloc ?q1 ?q2 ?q3 ?q4 ?_
  case qo => k_is
  case qcd => k_is
  case qbind => exact fun s X => by first | exact BindsTo.of_eq rfl | exact binds_K (by k_in) rfl (by k_is) rfl rfl rfl
  case qloc => exact locs rfl
  case q1 => exact rfl
  case q2 => exact rfl
  case q3 => exact rfl
  case q4 => decide
  intro dp un gd cn cs L a ccd cl base g L' h₁ tk s p loose mean mg mb B F X N T XB TB D hd hu
  show wpAny _ _ _ _ _ _
  k_fold
  k_steps
  · show EndsS _ _ _ _ _ _ _
    exact endsS (by assumption) (by k_asm) (by k_asm) (fun p hp => hp) ⟨_, rfl⟩
theorem answer2 (w : World) (ra fh : Addr) (kind far size block : Nat) (t t' : Tok) (hkind : kind ≤ 16) (hfar : far < 100000000000000000000) (h1 : 1 ≤ size) (h2 : size ≤ 32) (h5 : 16 ≤ block) (news : List (Addr × Obj)) (HR : RowAt ra fh size block news) (hcls : clsOf kind = "OverflowError") :
    ConS w 10 160 (.ref 158) [.int (kind : Int) t, .ref ra, .int (far : Int) t'] news (fun r => ∃ tr, r = .str (Str.ofString "OverflowError") tr) := by
  refine' conS_of (binds := [(Str.ofString "kind", .int (kind : Int) t), (Str.ofString "row", .ref ra), (Str.ofString "far", .int (far : Int) t')]) ?qo ?qcd ?qbind ?qloc ?q1 ?q2 ?q3 ?q4 ?_
  case qo => k_is
  case qcd => k_is
  case qbind => exact fun s X => by first | exact BindsTo.of_eq rfl | exact binds_K (by k_in) rfl (by k_is) rfl rfl rfl
  case qloc => exact locs rfl
  case q1 => exact rfl
  case q2 => exact rfl
  case q3 => exact rfl
  case q4 => decide
  intro dp un gd cn cs L a ccd cl base g L' h₁ tk s p loose mean mg mb B F X N T XB TB D hd hu
  show wpAny _ _ _ _ _ _
  k_fold
  k_steps
  · show EndsS _ _ _ _ _ _ _
    exact endsS (by assumption) (by k_asm) (by k_asm) (fun p hp => hp) ⟨_, rfl⟩
theorem answer3 (w : World) (ra fh : Addr) (kind far size block : Nat) (t t' : Tok) (hkind : kind ≤ 16) (hfar : far < 100000000000000000000) (h1 : 1 ≤ size) (h2 : size ≤ 32) (h5 : 16 ≤ block) (news : List (Addr × Obj)) (HR : RowAt ra fh size block news) (hcls : clsOf kind = "TypeError") :
    ConS w 10 160 (.ref 158) [.int (kind : Int) t, .ref ra, .int (far : Int) t'] news (fun r => ∃ tr, r = .str (Str.ofString "TypeError") tr) := by
  refine' conS_of (binds := [(Str.ofString "kind", .int (kind : Int) t), (Str.ofString "row", .ref ra), (Str.ofString "far", .int (far : Int) t')]) ?qo ?qcd ?qbind ?qloc ?q1 ?q2 ?q3 ?q4 ?_
  case qo => k_is
  case qcd => k_is
  case qbind => exact fun s X => by first | exact BindsTo.of_eq rfl | exact binds_K (by k_in) rfl (by k_is) rfl rfl rfl
  case qloc => exact locs rfl
  case q1 => exact rfl
  case q2 => exact rfl
  case q3 => exact rfl
  case q4 => decide
  intro dp un gd cn cs L a ccd cl base g L' h₁ tk s p loose mean mg mb B F X N T XB TB D hd hu
  show wpAny _ _ _ _ _ _
  k_fold
  k_steps
  · show EndsS _ _ _ _ _ _ _
    exact endsS (by assumption) (by k_asm) (by k_asm) (fun p hp => hp) ⟨_, rfl⟩
theorem answer4 (w : World) (ra fh : Addr) (kind far size block : Nat) (t t' : Tok) (hkind : kind ≤ 16) (hfar : far < 100000000000000000000) (h1 : 1 ≤ size) (h2 : size ≤ 32) (h5 : 16 ≤ block) (news : List (Addr × Obj)) (HR : RowAt ra fh size block news) (hcls : clsOf kind = "AssertionError") :
    ConS w 10 160 (.ref 158) [.int (kind : Int) t, .ref ra, .int (far : Int) t'] news (fun r => ∃ tr, r = .str (Str.ofString "AssertionError") tr) := by
  refine' conS_of (binds := [(Str.ofString "kind", .int (kind : Int) t), (Str.ofString "row", .ref ra), (Str.ofString "far", .int (far : Int) t')]) ?qo ?qcd ?qbind ?qloc ?q1 ?q2 ?q3 ?q4 ?_
  case qo => k_is
  case qcd => k_is
  case qbind => exact fun s X => by first | exact BindsTo.of_eq rfl | exact binds_K (by k_in) rfl (by k_is) rfl rfl rfl
  case qloc => exact locs rfl
  case q1 => exact rfl
  case q2 => exact rfl
  case q3 => exact rfl
  case q4 => decide
  intro dp un gd cn cs L a ccd cl base g L' h₁ tk s p loose mean mg mb B F X N T XB TB D hd hu
  show wpAny _ _ _ _ _ _
  k_fold
  k_steps
  · show EndsS _ _ _ _ _ _ _
    exact endsS (by assumption) (by k_asm) (by k_asm) (fun p hp => hp) ⟨_, rfl⟩
end
theorem ru68 : True := by
  k_with_none
  k_with "12 eval Name" => ((k_here; (first | (with_reducible show wpAny _ _ (eval (Expr.Name _ _) (envOf _ _ _ _ _)) _ _ _) | (with_reducible show wpAny _ _ (eval (Expr.Name _ _) (envOfC _ _ _ _ _)) _ _ _) | (with_reducible show wpAny _ _ (eval (Expr.Name _ _) (envX _ _ _ _ _ _)) _ _ _)); k_dflt (first
      | (refine' nameX_K ?F_0 ?X_0 ?T_0 ?e_0 ?_ ?a_0 ?b_0; (case b_0 => kernel_rfl!); (case a_0 => rfl); (case F_0 => k_asm); (case X_0 => k_asm); (case T_0 => k_asm); (case e_0 => k_is); k_whole)
      | (refine' nameX_L ?F_0 ?v_0 ?_ ?a_0 ?b_0; (case b_0 => kernel_rfl!); (case a_0 => rfl); (case F_0 => k_asm); (case v_0 => rfl); k_whole)
      | (refine' nameX_B ?F_0 ?X_0 ?T_0 ?e_0 ?v_0 ?n_0 ?_ ?a_0 ?b_0; (case b_0 => kernel_rfl!); (case a_0 => rfl); (case F_0 => k_asm); (case X_0 => k_asm); (case T_0 => k_asm); (case e_0 => k_is); (case v_0 => boot_fast); (case n_0 => decide); k_whole))))
  k_with "12 callWith ref" => ((k_here; (with_reducible show wpAny _ _ (callWith _ (Value.ref _) _ (backTo _ (starEach (_ :: _) _)) (backToKw _ _)) _ _ _); k_dflt (refine' callWith_KW ?k1_0 ?k2_0 ?k3_0 ?_; (case k1_0 => k_asm); (case k2_0 => k_is); (case k3_0 => exact rfl); k_whole)))
  trivial
theorem answer_ok (w : World) (ra fh : Addr) (kind far size block : Nat) (t t' : Tok) (hkind : kind ≤ 16) (hfar : far < 100000000000000000000) (h1 : 1 ≤ size) (h2 : size ≤ 32) (h5 : 16 ≤ block) (news : List (Addr × Obj)) (HR : RowAt ra fh size block news) :
    ConS w 10 160 (.ref 158) [.int (kind : Int) t, .ref ra, .int (far : Int) t'] news (fun r => ∃ tr, r = .str (Str.ofString (clsOf kind)) tr) := by
  by_cases c1 : kind < 5
  · have hc : clsOf kind = "ValueError" := by unfold clsOf; rw [if_pos c1]
    rw [hc]
    exact answer1 w ra fh kind far size block t t' hkind hfar h1 h2 h5 news HR hc
  by_cases c2 : kind = 5
  · have hc : clsOf kind = "OverflowError" := by unfold clsOf; rw [if_neg c1, if_pos c2]
    rw [hc]
    exact answer2 w ra fh kind far size block t t' hkind hfar h1 h2 h5 news HR hc
  by_cases c3 : kind < 15
  · have hc : clsOf kind = "TypeError" := by unfold clsOf; rw [if_neg c1, if_neg c2, if_pos c3]
    rw [hc]
    exact answer3 w ra fh kind far size block t t' hkind hfar h1 h2 h5 news HR hc
  · have hc : clsOf kind = "AssertionError" := by unfold clsOf; rw [if_neg c1, if_neg c2, if_neg c3]
    rw [hc]
    exact answer4 w ra fh kind far size block t t' hkind hfar h1 h2 h5 news HR hc
end Mine
end
-- J0
section
open PySem PySem.W PySem.Spec PySem.Calls PyProof.Rows PyProof.Rows.LCg
set_option maxRecDepth 100000
set_option maxHeartbeats 1000000
set_option linter.unusedVariables false
namespace Mine
@[reducible] noncomputable def lwS_unused : Scope := by
  refine (fun (l : Scope) (_ : fdS 26 = l) => l) ?l ?h
  rotate_left
  conv => lhs; whnf
@[reducible] noncomputable def lw20 : List Stmt := by
  refine (fun (l : List Stmt) (_ : (fdB 26).drop 20 = l) => l) ?l ?h
  rotate_left
  conv => lhs; whnf
@[reducible] noncomputable def lw18 : List Stmt := by
  refine (fun (l : List Stmt) (_ : (fdB 26).drop 18 = l) => l) ?l ?h
  rotate_left
  conv => lhs; whnf
@[reducible] noncomputable def lw17 : List Stmt := by
  refine (fun (l : List Stmt) (_ : (fdB 26).drop 17 = l) => l) ?l ?h
  rotate_left
  conv => lhs; whnf
@[reducible] noncomputable def lw15 : List Stmt := by
  refine (fun (l : List Stmt) (_ : (fdB 26).drop 15 = l) => l) ?l ?h
  rotate_left
  conv => lhs; whnf
@[reducible] noncomputable def lw12 : List Stmt := by
  refine (fun (l : List Stmt) (_ : (fdB 26).drop 12 = l) => l) ?l ?h
  rotate_left
  conv => lhs; whnf
noncomputable abbrev lwN : Str := Str.ofString "law"
/-- the law's end: True, and both tables still there -/
noncomputable def EndsLaw (g : Heap) (L : Addr) (s₀ : Shared) (fl : Flow) (s' : Shared) : Prop :=
  ∃ tb h' tk m' news' ps1 ps2, flV fl = .bool tb ∧ tb = true ∧ s' = { s₀ with heap := h', toks := tk } ∧ Fr g L h' m' ∧ News g L h' news' ∧ (58, tabObj ps1) ∈ news' ∧ (160, tabObj ps2) ∈ news'
section
variable {prog : Program} {w : World} {A : Around} {E : Value → Shared → Prop} {s : Shared} {h₀ : Heap} {L : Addr} {m : Str → Option Value} {env : Env} {elt : PySem.Expr} {x : Str} {scope : Scope} {cl : List (Str × Addr)} {news : List (Addr × Obj)} {Fin : Shared → List Value → List (Addr × Obj) → Prop} {s₁ : Shared}
theorem comp_ry (Y : Nat → Value → Prop) {r : Addr} {a b : Int} {t u v : Tok} {n : Nat} (hh : A.handled = none) (F : Fr h₀ L s₁.heap m) (N : News h₀ L s₁.heap news) (hr : IsRange s₁.heap r a b 1 t u v) (hsm : Builtin.Range.small a b 1 = true) (hn : Builtin.Range.rangeSize a b 1 = (n : Int)) (hsz : n ≤ sizeLine)
    (turn : ∀ (i : Nat) t I oI C oC D oD m₂ h tk (E' : Value → Shared → Prop), i < n → NsObj oC m₂ → m₂ x = some (.int (a + (i : Int)) t) → Fr h₀ L h m → News h₀ L h ((I, oI) :: (C, oC) :: (D, oD) :: news) → Off3 I C D news → ((@Ne Nat I C) ∧ (@Ne Nat I D) ∧ (@Ne Nat C D)) →
      wpAny (model prog w) A (eval elt (compEnvC scope cl C env)) (EltEnd h₀ L m { s₁ with heap := h, toks := tk } ((I, oI) :: (C, oC) :: (D, oD) :: news) (Y i)) E' { s₁ with heap := h, toks := tk })
    (fin : ∀ g ys, Each n Y ys → Fin { s₁ with heap := g } ys news) : CompSrc prog w A h₀ L m env elt x scope cl Fin (.ref r) s₁ := by
  refine CompSrc.range (n := n) hh F N hr hsm hn hsz fun g => ?_
  refine comp_rest Y ?_ trivial fun ys hy => fin g ys hy
  rintro i v I oI C oC D oD m₂ h tk E' hi ⟨t, rfl⟩ hC hx F' N' off ne _
  refine wpAny_mono (turn i t I oI C oC D oD m₂ h tk E' hi hC hx F' N' off ne) (fun y s₂ hq => ?_) fun _ _ e => e
  obtain ⟨h', tk', rfl, F2, N2, hy⟩ := hq
  exact ⟨h', tk', rfl, F2, N2, hy⟩
end
end Mine
end
-- J1
section
open PySem PySem.W PySem.Spec PySem.Calls PyProof.Rows PyProof.Rows.LCg
set_option maxRecDepth 100000
set_option maxHeartbeats 400000
set_option linter.unusedVariables false
namespace Mine
noncomputable def ansAt (i : Nat) (v : Value) : Prop := ∃ t, v = .str (Str.ofString (clsOf i)) t
theorem far_lt {d : Int} : d.natAbs % 100000000000000000000 < 100000000000000000000 := Nat.mod_lt _ (by decide)
theorem far_eq {d : Int} : (if d < 0 then -d else d).fmod (10 ^ Int.toNat 20) = ((d.natAbs % 100000000000000000000 : Nat) : Int) := by
  have e : (if d < 0 then -d else d) = ((d.natAbs : Nat) : Int) := by split <;> omega
  rw [e, show (10 : Int) ^ Int.toNat 20 = ((100000000000000000000 : Nat) : Int) by decide, Int.fmod_eq_emod_of_nonneg _ (by omega)]
  rfl
theorem answer_any (w : World) (ra fh : Addr) (kind far size block : Nat) (t t' : Tok) (kI fI : Int) (hkI : kI = (kind : Int)) (hfI : fI = (far : Int)) (hkind : kind ≤ 16) (hfar : far < 100000000000000000000) (h1 : 1 ≤ size) (h2 : size ≤ 32) (h5 : 16 ≤ block) (news : List (Addr × Obj)) (HR : RowAt ra fh size block news) :
    ConS w 10 160 (.ref 158) [.int kI t, .ref ra, .int fI t'] news (fun r => ∃ tr, r = .str (Str.ofString (clsOf kind)) tr) := by
  subst hkI hfI
  exact answer_ok w ra fh kind far size block t t' hkind hfar h1 h2 h5 news HR
noncomputable def told17 : List Str := (List.range 17).map fun i => Str.ofString (clsOf i)
theorem strs_each {f : Nat → Str} : ∀ {n : Nat} {ys : List Value}, ys.length = n → (∀ (i : Nat) (v : Value), ys[i]? = some v → ∃ t, v = Value.str (f i) t) → StrsAre ys ((List.range n).map f)
  | 0, [], _, _ => .nil
  | n + 1, y :: ys, hl, h => by
    obtain ⟨t, rfl⟩ := h 0 y rfl
    rw [List.range_succ_eq_map, List.map_cons, List.map_map]
    exact .cons _ t (strs_each (f := f ∘ Nat.succ) (by simpa using hl) fun i v hv => h (i + 1) v hv)
theorem strs17 {ys : List Value} (h : Each 17 ansAt ys) : StrsAre ys told17 := strs_each h.1 h.2
theorem r_eq17 {prog : Program} {w : World} {A : Around} {E : Value → Shared → Prop} {s : Shared} {a b : Addr} {vs us : List Value} {Q : Value → Shared → Prop} (hl : s.heap.IsList a vs.toArray) (hi : StrsAre vs told17) (hl' : s.heap.IsList b us.toArray) (hi' : StrsAre us told17) (hu : A.units + 64 < cLine) (h : Q (.bool true) s) : wpAny (model prog w) A (compareOp .Eq (.ref a) (.ref b)) Q E s := by
  obtain ⟨o, ho, hc, n, hd⟩ := hl
  obtain ⟨o', ho', hc', n', hd'⟩ := hl'
  refine eq_dataH_same (da := .list (told17.map PyData.str)) (db := .list (told17.map PyData.str)) (Reads.list ho hc hd (by simpa using StrsAre.reads s.heap hi)) (Reads.list ho' hc' hd' (by simpa using StrsAre.reads s.heap hi')) (by decide +kernel) (by decide +kernel) hu (by decide +kernel) ?_
  rw [show PySem.Spec.same (.list (told17.map PyData.str)) (.list (told17.map PyData.str)) = true by decide +kernel]
  exact h
section
theorem ru69 : True := by
  k_with_none
  k_with "12 eval Name" => ((k_here; (first | (with_reducible show wpAny _ _ (eval (Expr.Name _ _) (envOf _ _ _ _ _)) _ _ _) | (with_reducible show wpAny _ _ (eval (Expr.Name _ _) (envOfC _ _ _ _ _)) _ _ _) | (with_reducible show wpAny _ _ (eval (Expr.Name _ _) (envX _ _ _ _ _ _)) _ _ _)); k_dflt (first
      | (refine' nameX_K ?F_0 ?X_0 ?T_0 ?e_0 ?_ ?a_0 ?b_0; (case b_0 => kernel_rfl!); (case a_0 => rfl); (case F_0 => k_asm); (case X_0 => k_asm); (case T_0 => k_asm); (case e_0 => k_is); k_whole)
      | (refine' nameX_L ?F_0 ?v_0 ?_ ?a_0 ?b_0; (case b_0 => kernel_rfl!); (case a_0 => rfl); (case F_0 => k_asm); (case v_0 => rfl); k_whole)
      | (refine' nameX_B ?F_0 ?X_0 ?T_0 ?e_0 ?v_0 ?n_0 ?_ ?a_0 ?b_0; (case b_0 => kernel_rfl!); (case a_0 => rfl); (case F_0 => k_asm); (case X_0 => k_asm); (case T_0 => k_asm); (case e_0 => k_is); (case v_0 => boot_fast); (case n_0 => decide); k_whole))))
  k_with "12 callWith ref" => ((k_here; (with_reducible show wpAny _ _ (callWith _ (Value.ref _) _ (backTo _ (starEach (_ :: _) _)) (backToKw _ _)) _ _ _); k_dflt (refine' callWith_KW ?k1_0 ?k2_0 ?k3_0 ?_; (case k1_0 => k_asm); (case k2_0 => k_is); (case k3_0 => exact rfl); k_whole)))
  k_with "3 eval Name" => ((k_here; k_dflt (refine' nameX_L ?zF_60 ?zv_60 ?_ ?za_60 ?zb_60; (case zb_60 => kernel_rfl!); (case zF_60 => k_asm); (case za_60 => rfl); (case zv_60 => first | with_reducible assumption | rfl | assumption); k_whole)))
  k_with "2 eval Name" => ((k_here; k_dflt (refine' nameX_C ?zN_60 ?zc_60 ?zm_60 ?zd_60 ?_ ?za_60 ?zb_60; (case zb_60 => kernel_rfl!); (case za_60 => rfl); (case zN_60 => k_asm); (case zc_60 => rfl); (case zm_60 => (repeat (first | with_reducible assumption | refine List.mem_cons_of_mem _ ?_))); (case zd_60 => assumption); k_whole)))
  k_with "1 eval Name" => ((k_here; (with_reducible show wpAny _ _ (eval (Expr.Name _ _) (compEnvC _ _ _ _)) _ _ _); k_dflt (refine kcf_cell (by k_asm) (by rfl) (by (repeat (first | with_reducible assumption | refine List.mem_cons_of_mem _ ?_))) (by assumption) ?_)))
  k_with "1 CompSrc" => ((k_here; k_dflt (refine' comp_ry (n := 17) ansAt ?hh_60 ?F_60 ?N_60 ?hr_60 ?hsm_60 ?hn_60 ?sz_60 (fun i9 t9 I9 oI9 C9 oC9 D9 oD9 m9 h9 tk9 E9 hi9 hC9 hx9 F9 N9 off9 ne9 => ?_) (fun g9 ys9 hI9 D9 h9 tk9 F9 N9 o9 => ?_); (case hh_60 => rfl); (case F_60 => k_asm); (case N_60 => k_asm); (case hr_60 => assumption); (case hsm_60 => decide); (case hn_60 => decide); (case sz_60 => (rw [PySem.sizeLine_eq]; omega)))))
  trivial
set_option hygiene false in
theorem ru70 : True := by
  k_with_none
  k_with "12 eval Name" => ((k_here; (first | (with_reducible show wpAny _ _ (eval (Expr.Name _ _) (envOf _ _ _ _ _)) _ _ _) | (with_reducible show wpAny _ _ (eval (Expr.Name _ _) (envOfC _ _ _ _ _)) _ _ _) | (with_reducible show wpAny _ _ (eval (Expr.Name _ _) (envX _ _ _ _ _ _)) _ _ _)); k_dflt (first
      | (refine' nameX_K ?F_0 ?X_0 ?T_0 ?e_0 ?_ ?a_0 ?b_0; (case b_0 => kernel_rfl!); (case a_0 => rfl); (case F_0 => k_asm); (case X_0 => k_asm); (case T_0 => k_asm); (case e_0 => k_is); k_whole)
      | (refine' nameX_L ?F_0 ?v_0 ?_ ?a_0 ?b_0; (case b_0 => kernel_rfl!); (case a_0 => rfl); (case F_0 => k_asm); (case v_0 => rfl); k_whole)
      | (refine' nameX_B ?F_0 ?X_0 ?T_0 ?e_0 ?v_0 ?n_0 ?_ ?a_0 ?b_0; (case b_0 => kernel_rfl!); (case a_0 => rfl); (case F_0 => k_asm); (case X_0 => k_asm); (case T_0 => k_asm); (case e_0 => k_is); (case v_0 => boot_fast); (case n_0 => decide); k_whole))))
  k_with "12 callWith ref" => ((k_here; (with_reducible show wpAny _ _ (callWith _ (Value.ref _) _ (backTo _ (starEach (_ :: _) _)) (backToKw _ _)) _ _ _); k_dflt (refine' callWith_KW ?k1_0 ?k2_0 ?k3_0 ?_; (case k1_0 => k_asm); (case k2_0 => k_is); (case k3_0 => exact rfl); k_whole)))
  k_with "3 eval Name" => ((k_here; k_dflt (refine' nameX_L ?zF_60 ?zv_60 ?_ ?za_60 ?zb_60; (case zb_60 => kernel_rfl!); (case zF_60 => k_asm); (case za_60 => rfl); (case zv_60 => first | with_reducible assumption | rfl | assumption); k_whole)))
  k_with "2 eval Name" => ((k_here; k_dflt (refine' nameX_C ?zN_60 ?zc_60 ?zm_60 ?zd_60 ?_ ?za_60 ?zb_60; (case zb_60 => kernel_rfl!); (case za_60 => rfl); (case zN_60 => k_asm); (case zc_60 => rfl); (case zm_60 => (repeat (first | with_reducible assumption | refine List.mem_cons_of_mem _ ?_))); (case zd_60 => assumption); k_whole)))
  k_with "1 eval Name" => ((k_here; (with_reducible show wpAny _ _ (eval (Expr.Name _ _) (compEnvC _ _ _ _)) _ _ _); k_dflt (refine kcf_cell (by k_asm) (by rfl) (by (repeat (first | with_reducible assumption | refine List.mem_cons_of_mem _ ?_))) (by assumption) ?_)))
  k_with "1 CompSrc" => ((k_here; k_dflt (refine' comp_ry (n := 17) ansAt ?hh_60 ?F_60 ?N_60 ?hr_60 ?hsm_60 ?hn_60 ?sz_60 (fun i9 t9 I9 oI9 C9 oC9 D9 oD9 m9 h9 tk9 E9 hi9 hC9 hx9 F9 N9 off9 ne9 => ?_) (fun g9 ys9 hI9 D9 h9 tk9 F9 N9 o9 => ?_); (case hh_60 => rfl); (case F_60 => k_asm); (case N_60 => k_asm); (case hr_60 => assumption); (case hsm_60 => decide); (case hn_60 => decide); (case sz_60 => (rw [PySem.sizeLine_eq]; omega)))))
  k_with "1 call ref" => ((k_here; (with_reducible show wpAny _ _ (call (Value.ref 158) [_, _, _]) _ _ _); k_dflt (refine' use_conS (answer_any w ra fh i9 (d.natAbs % 100000000000000000000) size block _ _ _ _ (Int.zero_add _) far_eq ?h16_60 far_lt h1 h2 h5 _ ?hR_60) ?B_60 ?F_60 ?X_60 ?N_60 ?T_60 ?hk_60 ?hd_60 ?hu_60 ?_); (case N_60 => k_asm); (case hR_60 => exact HR.sub (by (intro p hp; repeat (first | exact hp | refine List.Mem.tail _ ?_)))); (case h16_60 => omega); (case B_60 => k_asm); (case F_60 => k_asm); (case X_60 => k_asm); (case T_60 => k_asm); (case hk_60 => rfl); (case hd_60 => omega); (case hu_60 => omega); (intro r9 h9 tk9 hR9 F9 N9; obtain ⟨t9, hr9⟩ := hR9; subst hr9)))
  k_with "1 EltEnd" => ((refine elt_end (by k_asm) (by k_asm) (fun p hp => hp) ⟨_, rfl⟩))
  k_with "1 binaryOp Mult ref int" => ((k_here; k_dflt (refine' KMa.mul ?F_60 ?N_60 ?hl_60 ?hlo_60 ?hhi_60 ?hsz_60 ?e_60 ?_; (case F_60 => k_asm); (case N_60 => k_asm); (case hl_60 => exact News.isList (by k_asm) (List.Mem.head _)); (case hlo_60 => decide); (case hhi_60 => decide); (case e_60 => first | exact (rfl : _ = [_, _, _, _, _]) | exact (rfl : _ = [_, _, _, _, _, _, _, _, _]) | exact (rfl : _ = [_, _])); (case hsz_60 => exact Nat.le_of_ble_eq_true rfl)); intro D' h' F' N' l1))
  k_with "1 binaryOp Add ref ref" => ((k_here; k_dflt (refine' kmk_add_lit ?F_60 ?N_60 ?a_60 ?b_60 ?e_60 ?_ ?z_60; (case F_60 => k_asm); (case N_60 => k_asm); (case a_60 => exact News.isList (by k_asm) (by k_mem)); (case b_60 => exact News.isList (by k_asm) (by k_mem)); (case e_60 => exact rfl); (case z_60 => (rw [PySem.sizeLine_eq]; exact Nat.le_of_ble_eq_true rfl))); intro D' h' F' N' l1))
  k_with "1 compareOp Eq ref ref" => ((k_here; k_dflt (refine' r_eq17 ?a_60 (strs17 hI9) ?b_60 ?hs_60 ?hu_60 ?_; (case a_60 => exact News.isList (by k_asm) (by k_mem)); (case b_60 => exact News.isList (by k_asm) (by k_mem)); (case hs_60 => (repeat (first | exact StrsAre.nil | refine StrsAre.cons _ _ ?_))); (case hu_60 => (show un + 64 < cLine; omega)))))
  trivial
theorem segH (w : World) (ra fh fa : Addr) (size block : Nat) (d : Int) (td : Tok) (h1 : 1 ≤ size) (h2 : size ≤ 32) (h5 : 16 ≤ block) (news : List (Addr × Obj)) (HR : RowAt ra fh size block news) (ps1 ps2 : Array Value) (H58 : (58, tabObj ps1) ∈ news) (H160 : (160, tabObj ps2) ∈ news)
    (dp un : Nat) (gd : Option (List Code)) (A₀ : Around) (g : Heap) (L : Addr) (h₁ : Heap) (tk : Nat) (s : Shared) (p : Program) (loose : List Str) (mean : ExcName → Option Value) (mg mb : Str → Option Value) (m : Str → Option Value) (o2 o4 : Obj)
    (B : Below A₀ g [] g) (F : Fr g L h₁ m) (X : (K w.params).In g) (N : News g L h₁ news) (T : Top p loose mean mg mb g) (c2 : (L + 1 + 1, o2) ∈ news) (e2 : o2.data = .cell (some (.int d td))) (c4 : (L + 1 + 1 + 1 + 1, o4) ∈ news) (e4 : o4.data = .cell (some (.ref ra)))
    (hd : dp + 20 < recursionLimit) (hu : un + 300 < cLine) :
    wpAny (model pw w) (ktrTop dp un gd lwN fS26 L fa (.ref 162) (cellsFrom (L + 1) fS26.names []) []) (execs lw20 (envOfC lwN fS26 L fa (.ref 162))) (EndsLaw g L s) (fun _ _ => False) { s with heap := h₁, toks := tk } := by
  show wpAny _ _ _ _ _ _
  k_fold
  k_steps
  all_goals first
    | (show EndsLaw _ _ _ _ _
       exact ⟨true, _, _, _, _, ps1, ps2, rfl, rfl, rfl, by k_asm, by k_asm, by (repeat (first | with_reducible assumption | refine List.mem_cons_of_mem _ ?_)), by (repeat (first | with_reducible assumption | refine List.mem_cons_of_mem _ ?_))⟩)
end
end Mine
end
-- J2
section
open PySem PySem.W PySem.Spec PySem.Calls PyProof.Rows PyProof.Rows.LCg
set_option maxRecDepth 100000
set_option maxHeartbeats 400000
set_option linter.unusedVariables false
namespace Mine
theorem ru72 : True := by
  k_with_none
  k_with "12 eval Name" => ((k_here; (first | (with_reducible show wpAny _ _ (eval (Expr.Name _ _) (envOf _ _ _ _ _)) _ _ _) | (with_reducible show wpAny _ _ (eval (Expr.Name _ _) (envOfC _ _ _ _ _)) _ _ _) | (with_reducible show wpAny _ _ (eval (Expr.Name _ _) (envX _ _ _ _ _ _)) _ _ _)); k_dflt (first
      | (refine' nameX_K ?F_0 ?X_0 ?T_0 ?e_0 ?_ ?a_0 ?b_0; (case b_0 => kernel_rfl!); (case a_0 => rfl); (case F_0 => k_asm); (case X_0 => k_asm); (case T_0 => k_asm); (case e_0 => k_is); k_whole)
      | (refine' nameX_L ?F_0 ?v_0 ?_ ?a_0 ?b_0; (case b_0 => kernel_rfl!); (case a_0 => rfl); (case F_0 => k_asm); (case v_0 => rfl); k_whole)
      | (refine' nameX_B ?F_0 ?X_0 ?T_0 ?e_0 ?v_0 ?n_0 ?_ ?a_0 ?b_0; (case b_0 => kernel_rfl!); (case a_0 => rfl); (case F_0 => k_asm); (case X_0 => k_asm); (case T_0 => k_asm); (case e_0 => k_is); (case v_0 => boot_fast); (case n_0 => decide); k_whole))))
  k_with "12 callWith ref" => ((k_here; (with_reducible show wpAny _ _ (callWith _ (Value.ref _) _ (backTo _ (starEach (_ :: _) _)) (backToKw _ _)) _ _ _); k_dflt (refine' callWith_KW ?k1_0 ?k2_0 ?k3_0 ?_; (case k1_0 => k_asm); (case k2_0 => k_is); (case k3_0 => exact rfl); k_whole)))
  trivial
theorem r_ne_same {prog : Program} {w : World} {A : Around} {E : Value → Shared → Prop} {s : Shared} {b : Array UInt8} {t u : Tok} {Q : Value → Shared → Prop} (h : Q (.bool false) s) : wpAny (model prog w) A (compareOp .NotEq (.bytes b t) (.bytes b u)) Q E s := by
  refine ne_bytes ?_
  simpa using h
section
theorem ru71 : True := by
  k_with_none
  k_with "12 eval Name" => ((k_here; (first | (with_reducible show wpAny _ _ (eval (Expr.Name _ _) (envOf _ _ _ _ _)) _ _ _) | (with_reducible show wpAny _ _ (eval (Expr.Name _ _) (envOfC _ _ _ _ _)) _ _ _) | (with_reducible show wpAny _ _ (eval (Expr.Name _ _) (envX _ _ _ _ _ _)) _ _ _)); k_dflt (first
      | (refine' nameX_K ?F_0 ?X_0 ?T_0 ?e_0 ?_ ?a_0 ?b_0; (case b_0 => kernel_rfl!); (case a_0 => rfl); (case F_0 => k_asm); (case X_0 => k_asm); (case T_0 => k_asm); (case e_0 => k_is); k_whole)
      | (refine' nameX_L ?F_0 ?v_0 ?_ ?a_0 ?b_0; (case b_0 => kernel_rfl!); (case a_0 => rfl); (case F_0 => k_asm); (case v_0 => rfl); k_whole)
      | (refine' nameX_B ?F_0 ?X_0 ?T_0 ?e_0 ?v_0 ?n_0 ?_ ?a_0 ?b_0; (case b_0 => kernel_rfl!); (case a_0 => rfl); (case F_0 => k_asm); (case X_0 => k_asm); (case T_0 => k_asm); (case e_0 => k_is); (case v_0 => boot_fast); (case n_0 => decide); k_whole))))
  k_with "12 callWith ref" => ((k_here; (with_reducible show wpAny _ _ (callWith _ (Value.ref _) _ (backTo _ (starEach (_ :: _) _)) (backToKw _ _)) _ _ _); k_dflt (refine' callWith_KW ?k1_0 ?k2_0 ?k3_0 ?_; (case k1_0 => k_asm); (case k2_0 => k_is); (case k3_0 => exact rfl); k_whole)))
  k_with "1 compareOp NotEq bytes bytes" => ((k_here; k_dflt (refine r_ne_same ?_)))
  k_with "1 execs cons" => ((k_here; (with_reducible show wpAny _ _ (execs (Stmt.Assign [Expr.Name (Str.ofString "told") _] _ _ :: _) _) _ _ _); refine hold ?_))
  k_with "2 eval Name" => ((k_here; k_dflt (refine' nameX_L ?zF_61 ?zv_61 ?_ ?za_61 ?zb_61; (case zb_61 => kernel_rfl!); (case zF_61 => k_asm); (case za_61 => rfl); (case zv_61 => first | with_reducible assumption | rfl | assumption); k_whole)))
  k_with "1 eval Name" => ((k_here; k_dflt (refine' nameX_C ?zN_61 ?zc_61 ?zm_61 ?zd_61 ?_ ?za_61 ?zb_61; (case zb_61 => kernel_rfl!); (case za_61 => rfl); (case zN_61 => k_asm); (case zc_61 => rfl); (case zm_61 => (repeat (first | with_reducible assumption | refine List.mem_cons_of_mem _ ?_))); (case zd_61 => assumption); k_whole)))
  k_with "3 call ref" => ((k_here; (with_reducible show wpAny _ _ (call (Value.ref 69) [_, _, _, _, _]) _ _ _); k_dflt (refine' use_con (pb1_ok w ra fh av bv secret salt hav hbv _ _ size block rounds short h1 h2 hs hm hr1 hr2 hsh _ HR HH) ?B_61 ?F_61 ?X_61 ?N_61 ?T_61 ?hk_61 ?hd_61 ?hu_61 ?_); (case N_61 => k_asm); (case B_61 => k_asm); (case F_61 => k_asm); (case X_61 => k_asm); (case T_61 => k_asm); (case hk_61 => rfl); (case hd_61 => omega); (case hu_61 => omega); (intro r9 new9 h9 tk9 hR9 hA9 F9 N9; obtain ⟨hnew9, t9, hr9⟩ := hR9; subst hnew9; subst hr9; simp only [List.nil_append] at N9)))
  k_with "2 call ref" => ((k_here; (with_reducible show wpAny _ _ (call (Value.ref 69) [_, _, _, _]) _ _ _); k_dflt (refine' use_con (pb1_def w ra fh av bv secret salt hav hbv _ size block rounds h1 h2 hs hm hr1 hr2 _ HR HH) ?B_61 ?F_61 ?X_61 ?N_61 ?T_61 ?hk_61 ?hd_61 ?hu_61 ?_); (case N_61 => k_asm); (case B_61 => k_asm); (case F_61 => k_asm); (case X_61 => k_asm); (case T_61 => k_asm); (case hk_61 => rfl); (case hd_61 => omega); (case hu_61 => omega); (intro r9 new9 h9 tk9 hR9 hA9 F9 N9; obtain ⟨hnew9, t9, hr9⟩ := hR9; subst hnew9; subst hr9; simp only [List.nil_append] at N9)))
  k_with "1 call ref" => ((k_here; (with_reducible show wpAny _ _ (call (Value.ref 130) [_, _, _, _, _]) _ _ _); k_dflt (refine' use_con (first_ok _ _ _ _ _ _ _ _ _ _ _ ?h1_61 ?h2_61 ?hs_61 ?hm_61 ?hr2_61 ?hlen_61 _) ?B_61 ?F_61 ?X_61 ?N_61 ?T_61 ?hk_61 ?hd_61 ?hu_61 ?_); (case N_61 => k_asm); (case B_61 => k_asm); (case F_61 => k_asm); (case X_61 => k_asm); (case T_61 => k_asm); (case hk_61 => rfl); (case hd_61 => omega); (case hu_61 => omega); (case h1_61 => omega); (case h2_61 => omega); (case hs_61 => omega); (case hm_61 => omega); (case hr2_61 => omega); (case hlen_61 => omega); (intro r9 new9 h9 tk9 hR9 hA9 F9 N9; obtain ⟨hnew9, t9, hr9⟩ := hR9; subst hnew9; subst hr9; simp only [List.nil_append] at N9)))
  trivial
theorem segG (w : World) (ra fh fa : Addr) (av bv : Value) (secret salt : List UInt8) (hav : KeyIs av secret) (hbv : KeyIs bv salt) (size block rounds short : Nat) (d : Int) (td tz ta tl te tr th : Tok) (h1 : 1 ≤ size) (h2 : size ≤ 32) (h5 : 16 ≤ block) (hs : secret.length ≤ 300) (hm : salt.length ≤ 300) (hr1 : 1 ≤ rounds) (hr2 : rounds ≤ 6) (hsh : short ≤ size)
    (news : List (Addr × Obj)) (HR : RowAt ra fh size block news) (HH : HashAt fh size news) (ps1 ps2 : Array Value) (H58 : (58, tabObj ps1) ∈ news) (H160 : (160, tabObj ps2) ∈ news)
    (dp un : Nat) (gd : Option (List Code)) (A₀ : Around) (g : Heap) (L : Addr) (h₁ : Heap) (tk : Nat) (s : Shared) (p : Program) (loose : List Str) (mean : ExcName → Option Value) (mg mb : Str → Option Value) (m : Str → Option Value) (o2 o4 o5 o7 : Obj)
    (B : Below A₀ g [] g) (F : Fr g L h₁ m) (X : (K w.params).In g) (N : News g L h₁ news) (T : Top p loose mean mg mb g) (c2 : (L + 1 + 1, o2) ∈ news) (e2 : o2.data = .cell (some (.int d td))) (c4 : (L + 1 + 1 + 1 + 1, o4) ∈ news) (e4 : o4.data = .cell (some (.ref ra)))
    (c5 : (L + 1 + 1 + 1 + 1 + 1, o5) ∈ news) (e5 : o5.data = .cell (some (.bytes salt.toArray tl))) (c7 : (L + 1 + 1 + 1 + 1 + 1 + 1 + 1, o7) ∈ news) (e7 : o7.data = .cell (some (.int (size : Int) tz)))
    (m1 : m (Str.ofString "asked") = some av) (m2 : m (Str.ofString "salted") = some bv) (m3 : m (Str.ofString "secret") = some (.bytes secret.toArray te)) (m4 : m (Str.ofString "rounds") = some (.int (rounds : Int) tr)) (m5 : m (Str.ofString "short") = some (.int (short : Int) th))
    (hd : dp + 20 < recursionLimit) (hu : un + 300 < cLine) :
    wpAny (model pw w) (ktrTop dp un gd lwN fS26 L fa (.ref 162) (cellsFrom (L + 1) fS26.names []) []) (execs lw18 (envOfC lwN fS26 L fa (.ref 162))) (EndsLaw g L s) (fun _ _ => False) { s with heap := h₁, toks := tk } := by
  show wpAny _ _ _ _ _ _
  k_fold
  k_steps
  · show wpAny _ _ _ _ _ _
    rename Fr _ _ _ _ => F9
    rename News _ _ _ _ => N9
    exact segH w ra fh fa size block d td h1 h2 h5 news HR ps1 ps2 H58 H160 dp un gd A₀ g L _ _ s p loose mean mg mb _ o2 o4 B F9 X N9 T c2 e2 c4 e4 hd hu
end
end Mine
end
-- J4
section
open PySem PySem.W PySem.Spec PySem.Calls PyProof.Rows PyProof.Rows.LCg
set_option maxRecDepth 100000
set_option maxHeartbeats 400000
set_option linter.unusedVariables false
namespace Mine
theorem ru74 : True := by
  k_with_none
  k_with "12 eval Name" => ((k_here; (first | (with_reducible show wpAny _ _ (eval (Expr.Name _ _) (envOf _ _ _ _ _)) _ _ _) | (with_reducible show wpAny _ _ (eval (Expr.Name _ _) (envOfC _ _ _ _ _)) _ _ _) | (with_reducible show wpAny _ _ (eval (Expr.Name _ _) (envX _ _ _ _ _ _)) _ _ _)); k_dflt (first
      | (refine' nameX_K ?F_0 ?X_0 ?T_0 ?e_0 ?_ ?a_0 ?b_0; (case b_0 => kernel_rfl!); (case a_0 => rfl); (case F_0 => k_asm); (case X_0 => k_asm); (case T_0 => k_asm); (case e_0 => k_is); k_whole)
      | (refine' nameX_L ?F_0 ?v_0 ?_ ?a_0 ?b_0; (case b_0 => kernel_rfl!); (case a_0 => rfl); (case F_0 => k_asm); (case v_0 => rfl); k_whole)
      | (refine' nameX_B ?F_0 ?X_0 ?T_0 ?e_0 ?v_0 ?n_0 ?_ ?a_0 ?b_0; (case b_0 => kernel_rfl!); (case a_0 => rfl); (case F_0 => k_asm); (case X_0 => k_asm); (case T_0 => k_asm); (case e_0 => k_is); (case v_0 => boot_fast); (case n_0 => decide); k_whole))))
  k_with "12 callWith ref" => ((k_here; (with_reducible show wpAny _ _ (callWith _ (Value.ref _) _ (backTo _ (starEach (_ :: _) _)) (backToKw _ _)) _ _ _); k_dflt (refine' callWith_KW ?k1_0 ?k2_0 ?k3_0 ?_; (case k1_0 => k_asm); (case k2_0 => k_is); (case k3_0 => exact rfl); k_whole)))
  trivial
theorem count_le {size length : Nat} (h1 : 1 ≤ size) (hl : 1 ≤ length) : (length - 1) / size + 1 ≤ length := by
  have := Nat.div_le_self (length - 1) size
  omega
section
theorem ru73 : True := by
  k_with_none
  k_with "12 eval Name" => ((k_here; (first | (with_reducible show wpAny _ _ (eval (Expr.Name _ _) (envOf _ _ _ _ _)) _ _ _) | (with_reducible show wpAny _ _ (eval (Expr.Name _ _) (envOfC _ _ _ _ _)) _ _ _) | (with_reducible show wpAny _ _ (eval (Expr.Name _ _) (envX _ _ _ _ _ _)) _ _ _)); k_dflt (first
      | (refine' nameX_K ?F_0 ?X_0 ?T_0 ?e_0 ?_ ?a_0 ?b_0; (case b_0 => kernel_rfl!); (case a_0 => rfl); (case F_0 => k_asm); (case X_0 => k_asm); (case T_0 => k_asm); (case e_0 => k_is); k_whole)
      | (refine' nameX_L ?F_0 ?v_0 ?_ ?a_0 ?b_0; (case b_0 => kernel_rfl!); (case a_0 => rfl); (case F_0 => k_asm); (case v_0 => rfl); k_whole)
      | (refine' nameX_B ?F_0 ?X_0 ?T_0 ?e_0 ?v_0 ?n_0 ?_ ?a_0 ?b_0; (case b_0 => kernel_rfl!); (case a_0 => rfl); (case F_0 => k_asm); (case X_0 => k_asm); (case T_0 => k_asm); (case e_0 => k_is); (case v_0 => boot_fast); (case n_0 => decide); k_whole))))
  k_with "12 callWith ref" => ((k_here; (with_reducible show wpAny _ _ (callWith _ (Value.ref _) _ (backTo _ (starEach (_ :: _) _)) (backToKw _ _)) _ _ _); k_dflt (refine' callWith_KW ?k1_0 ?k2_0 ?k3_0 ?_; (case k1_0 => k_asm); (case k2_0 => k_is); (case k3_0 => exact rfl); k_whole)))
  k_with "1 execs cons" => ((k_here; (with_reducible show wpAny _ _ (execs (Stmt.If (Expr.Name (Str.ofString "single") _) _ _ _ :: _) _) _ _ _); refine hold ?_))
  k_with "1 compareOp NotEq bytes bytes" => ((k_here; k_dflt (refine r_ne_same ?_)))
  k_with "2 eval Name" => ((k_here; k_dflt (refine' nameX_L ?zF_62 ?zv_62 ?_ ?za_62 ?zb_62; (case zb_62 => kernel_rfl!); (case zF_62 => k_asm); (case za_62 => rfl); (case zv_62 => first | with_reducible assumption | rfl | assumption); k_whole)))
  k_with "1 eval Name" => ((k_here; k_dflt (refine' nameX_C ?zN_62 ?zc_62 ?zm_62 ?zd_62 ?_ ?za_62 ?zb_62; (case zb_62 => kernel_rfl!); (case za_62 => rfl); (case zN_62 => k_asm); (case zc_62 => rfl); (case zm_62 => (repeat (first | with_reducible assumption | refine List.mem_cons_of_mem _ ?_))); (case zd_62 => assumption); k_whole)))
  k_with "3 call ref" => ((k_here; (with_reducible show wpAny _ _ (call (Value.ref 82) [_, _, _, _, _]) _ _ _); k_dflt (refine' use_con (pb2_ok w ra fh c' av bv secret salt hav hbv _ _ size block rounds long h1 h2 h3 h4 h5 (by omega) (by omega) hr1 hr2 hlo1 (by omega) _ HR HH HM) ?B_62 ?F_62 ?X_62 ?N_62 ?T_62 ?hk_62 ?hd_62 ?hu_62 ?_); (case N_62 => k_asm); (case B_62 => k_asm); (case F_62 => k_asm); (case X_62 => k_asm); (case T_62 => k_asm); (case hk_62 => rfl); (case hd_62 => omega); (case hu_62 => omega); (intro r9 new9 h9 tk9 hR9 hA9 F9 N9; obtain ⟨hnew9, t9, hr9⟩ := hR9; subst hnew9; subst hr9; simp only [List.nil_append] at N9)))
  k_with "2 call ref" => ((k_here; (with_reducible show wpAny _ _ (call (Value.ref 82) [_, _, _, _]) _ _ _); k_dflt (refine' use_con (pb2_def w ra fh c' av bv secret salt hav hbv _ size block 1 h1 h2 h3 h4 h5 (by omega) (by omega) (by omega) (by omega) _ HR HH HM) ?B_62 ?F_62 ?X_62 ?N_62 ?T_62 ?hk_62 ?hd_62 ?hu_62 ?_); (case N_62 => k_asm); (case B_62 => k_asm); (case F_62 => k_asm); (case X_62 => k_asm); (case T_62 => k_asm); (case hk_62 => rfl); (case hd_62 => omega); (case hu_62 => omega); (intro r9 new9 h9 tk9 hR9 hA9 F9 N9; obtain ⟨hnew9, t9, hr9⟩ := hR9; subst hnew9; subst hr9; simp only [List.nil_append] at N9)))
  k_with "1 call ref" => ((k_here; (with_reducible show wpAny _ _ (call (Value.ref 123) [_, _, _, _, _]) _ _ _); first
  | (k_dflt (refine' use_con (second_ok w l _ _ salt _ _ _ _ size rounds long h1 h2 (by rw [padI_len h3]; exact h4) (by rw [padO_len h3]; exact h4) (by omega) hr1 hr2 hlo1 (by omega) _ HP) ?B_62 ?F_62 ?X_62 ?N_62 ?T_62 ?hk_62 ?hd_62 ?hu_62 ?_); (case N_62 => k_asm); (case B_62 => k_asm); (case F_62 => k_asm); (case X_62 => k_asm); (case T_62 => k_asm); (case hk_62 => rfl); (case hd_62 => omega); (case hu_62 => omega); (intro r9 new9 h9 tk9 hR9 hA9 F9 N9; obtain ⟨hnew9, t9, hr9⟩ := hR9; subst hnew9; subst hr9; simp only [List.nil_append] at N9))
  | (k_dflt (refine' use_con (second_ok w l _ _ salt _ _ _ _ size 1 size h1 h2 (by rw [padI_len h3]; exact h4) (by rw [padO_len h3]; exact h4) (by omega) (by omega) (by omega) h1 (by omega) _ HP) ?B_62 ?F_62 ?X_62 ?N_62 ?T_62 ?hk_62 ?hd_62 ?hu_62 ?_); (case N_62 => k_asm); (case B_62 => k_asm); (case F_62 => k_asm); (case X_62 => k_asm); (case T_62 => k_asm); (case hk_62 => rfl); (case hd_62 => omega); (case hu_62 => omega); (intro r9 new9 h9 tk9 hR9 hA9 F9 N9; obtain ⟨hnew9, t9, hr9⟩ := hR9; subst hnew9; subst hr9; simp only [List.nil_append] at N9))))
  trivial
theorem segE (w : World) (ra fh fa c' l : Addr) (av bv : Value) (secret salt : List UInt8) (hav : KeyIs av secret) (hbv : KeyIs bv salt) (size block rounds long : Nat) (tz ta tl te tr tg tp : Tok) (h1 : 1 ≤ size) (h2 : size ≤ 32) (h3 : size ≤ block) (h4 : block ≤ 64) (h5 : 16 ≤ block) (hs : secret.length ≤ 300) (hm : salt.length ≤ 300) (hr1 : 1 ≤ rounds) (hr2 : rounds ≤ 6) (hlo1 : 1 ≤ long) (hlo2 : long ≤ 200)
    (news : List (Addr × Obj)) (HR : RowAt ra fh size block news) (HH : HashAt fh size news) (HM : MadeAt c' news) (HP : PadsAt l (padI size block secret) (padO size block secret) news)
    (dp un : Nat) (gd : Option (List Code)) (A₀ : Around) (g : Heap) (L : Addr) (h₁ : Heap) (tk : Nat) (s : Shared) (p : Program) (loose : List Str) (mean : ExcName → Option Value) (mg mb : Str → Option Value) (m : Str → Option Value) (o4 o5 o6 o7 : Obj)
    (B : Below A₀ g [] g) (F : Fr g L h₁ m) (X : (K w.params).In g) (N : News g L h₁ news) (T : Top p loose mean mg mb g) (c4 : (L + 1 + 1 + 1 + 1, o4) ∈ news) (e4 : o4.data = .cell (some (.ref ra)))
    (c5 : (L + 1 + 1 + 1 + 1 + 1, o5) ∈ news) (e5 : o5.data = .cell (some (.bytes salt.toArray tl))) (c6 : (L + 1 + 1 + 1 + 1 + 1 + 1, o6) ∈ news) (e6 : o6.data = .cell (some (.ref l))) (c7 : (L + 1 + 1 + 1 + 1 + 1 + 1 + 1, o7) ∈ news) (e7 : o7.data = .cell (some (.int (size : Int) tz)))
    (m1 : m (Str.ofString "asked") = some av) (m2 : m (Str.ofString "salted") = some bv) (m4 : m (Str.ofString "rounds") = some (.int (rounds : Int) tr)) (m5 : m (Str.ofString "long") = some (.int (long : Int) tg))
    (hd : dp + 20 < recursionLimit) (hu : un + 300 < cLine)
    (k : ∀ h' tk', Fr g L h' m → News g L h' news → wpAny (model pw w) (ktrTop dp un gd lwN fS26 L fa (.ref 162) (cellsFrom (L + 1) fS26.names []) []) (execs lw17 (envOfC lwN fS26 L fa (.ref 162))) (EndsLaw g L s) (fun _ _ => False) { s with heap := h', toks := tk' }) :
    wpAny (model pw w) (ktrTop dp un gd lwN fS26 L fa (.ref 162) (cellsFrom (L + 1) fS26.names []) []) (execs lw15 (envOfC lwN fS26 L fa (.ref 162))) (EndsLaw g L s) (fun _ _ => False) { s with heap := h₁, toks := tk } := by
  show wpAny _ _ _ _ _ _
  k_fold
  k_steps
  · show wpAny _ _ _ _ _ _
    rename Fr _ _ _ _ => F9
    rename News _ _ _ _ => N9
    exact k _ _ F9 N9
end
end Mine
end
-- J3
section
open PySem PySem.W PySem.Spec PySem.Calls PyProof.Rows PyProof.Rows.LCg
set_option maxRecDepth 100000
set_option maxHeartbeats 400000
set_option linter.unusedVariables false
namespace Mine
theorem ru75 : True := by
  k_with_none
  k_with "12 eval Name" => ((k_here; (first | (with_reducible show wpAny _ _ (eval (Expr.Name _ _) (envOf _ _ _ _ _)) _ _ _) | (with_reducible show wpAny _ _ (eval (Expr.Name _ _) (envOfC _ _ _ _ _)) _ _ _) | (with_reducible show wpAny _ _ (eval (Expr.Name _ _) (envX _ _ _ _ _ _)) _ _ _)); k_dflt (first
      | (refine' nameX_K ?F_0 ?X_0 ?T_0 ?e_0 ?_ ?a_0 ?b_0; (case b_0 => kernel_rfl!); (case a_0 => rfl); (case F_0 => k_asm); (case X_0 => k_asm); (case T_0 => k_asm); (case e_0 => k_is); k_whole)
      | (refine' nameX_L ?F_0 ?v_0 ?_ ?a_0 ?b_0; (case b_0 => kernel_rfl!); (case a_0 => rfl); (case F_0 => k_asm); (case v_0 => rfl); k_whole)
      | (refine' nameX_B ?F_0 ?X_0 ?T_0 ?e_0 ?v_0 ?n_0 ?_ ?a_0 ?b_0; (case b_0 => kernel_rfl!); (case a_0 => rfl); (case F_0 => k_asm); (case X_0 => k_asm); (case T_0 => k_asm); (case e_0 => k_is); (case v_0 => boot_fast); (case n_0 => decide); k_whole))))
  k_with "12 callWith ref" => ((k_here; (with_reducible show wpAny _ _ (callWith _ (Value.ref _) _ (backTo _ (starEach (_ :: _) _)) (backToKw _ _)) _ _ _); k_dflt (refine' callWith_KW ?k1_0 ?k2_0 ?k3_0 ?_; (case k1_0 => k_asm); (case k2_0 => k_is); (case k3_0 => exact rfl); k_whole)))
  trivial
section
variable {prog : Program} {w : World} {A : Around} {E : Value → Shared → Prop} {s : Shared} {env : Env} {h₀ : Heap} {target : PySem.Expr} {body : List Stmt} {Q : Flow → Shared → Prop}
/-- a loop over a tuple of the ledger, by an invariant of the turn's number, the frame and the ledger -/
theorem tup_invG {ax : Addr} {lo : Obj} {vs : List Value} {n : Nat} {m₀ : Str → Option Value} {news : List (Addr × Obj)} (J : Nat → (Str → Option Value) → List (Addr × Obj) → Prop)
    (hh : A.handled = none) (F : Fr h₀ env.locals s.heap m₀) (N : News h₀ env.locals s.heap news) (hm : (ax, lo) ∈ news) (hc : lo.cls = .type "tuple") (hd : lo.data = .seq vs.toArray n) (hj : J 0 m₀ news) (hJm : ∀ i m₁ nx, J i m₁ nx → (ax, lo) ∈ nx)
    (turn : ∀ i v m₁ nx h tk I oI, vs[i]? = some v → J i m₁ nx → (∀ p ∈ nx, p.1 ≠ I) → Fr h₀ env.locals h m₁ → News h₀ env.locals h ((I, oI) :: nx) →
      wpAny (model prog w) A (assign target env v) (fun _ s₂ => wpAny (model prog w) A (execs body env) (TurnPost h₀ env.locals (J (i + 1)) I oI { s with heap := h, toks := tk } Q) E s₂) E { s with heap := h, toks := tk })
    (done : ∀ m₁ nx h tk, J vs.length m₁ nx → Fr h₀ env.locals h m₁ → News h₀ env.locals h nx → Q .next { s with heap := h, toks := tk }) :
    wpAny (model prog w) A (pyIter (.ref ax)) (fun it s₂ => TurnsAt prog w A h₀ env target body Q E it s₂) E s := by
  have hax := N _ hm
  have hl : s.heap.IsTuple ax vs.toArray := ⟨lo, hax.1, hc, n, hd⟩
  have hlt : ax < s.heap.objs.size := Heap.lt_size hax.1
  have hne : ax ≠ s.heap.objs.size := Nat.ne_of_lt hlt
  refine wpAny_pyIter_tuple hl ?_
  have hI0 : h₀.get? s.heap.objs.size = none := next_is_new F
  refine ⟨s.heap.objs.size, _, _, _, _, _, _, m₀, news, J, rfl, KTurns.ofWalks (Walks.tuple hh s.heap.objs.size ax hne vs.toArray) fun i v s Q E st q => letGo_tupleiter st.1 q, ?_, ?_, ?_, ?_, F.push _, (fun p hp => ⟨Heap.get?_push_of_some _ (N p hp).1, (N p hp).2⟩), hj, ?_, ?_⟩
  · intro hI
    rcases List.mem_cons.mp hI with e | hI
    · exact absurd F.ns.lt (e ▸ Nat.lt_irrefl _)
    · exact hax.2.1 (List.mem_singleton.mp hI).symm
  · intro b hb
    rw [List.mem_singleton.mp hb]
    exact hI0
  · intro p hp hI
    exact absurd (Heap.lt_size (N p hp).1) ((List.mem_singleton.mp hI) ▸ Nat.lt_irrefl _)
  · exact ⟨⟨_, Heap.get?_push_size _ rfl, rfl, rfl⟩, hl.at fun o e => Heap.get?_push_of_some _ e⟩
  · intro i v m₁ news₁ h₁ tk₁ own hin hP hJ hoff hown hget hfp hst F₁ N₁
    obtain ⟨oI, hoI, _⟩ := hst.1
    have hIown := hfp s.heap.objs.size (List.Mem.head _) hI0 _ hoI
    have hofI : ∀ p ∈ news₁, p.1 ≠ s.heap.objs.size := fun p hp e => hoff p hp (List.mem_singleton.mpr e)
    have hv : vs[i]? = some v := by simpa using hP
    refine wpAny_mono (turn i v m₁ news₁ h₁ tk₁ s.heap.objs.size oI hv hJ hofI F₁ (fun p hp => ?_)) (fun _ s₂ hs => wpAny_mono hs (fun f s₃ hf => ?_) fun _ _ e => e) fun _ _ e => e
    · rcases List.mem_cons.mp hp with rfl | hp
      · exact N₁ _ (List.mem_append.mpr (.inl hIown))
      · exact N₁ p (List.mem_append.mpr (.inr hp))
    have heq : ∀ p ∈ own, p = (s.heap.objs.size, oI) ∨ p = (ax, lo) := fun p hp => by
      have h2 := (N₁ p (List.mem_append.mpr (.inl hp))).1
      rcases p with ⟨a, o⟩
      rcases List.mem_cons.mp (hown _ hp) with e | e
      · have e' : a = s.heap.objs.size := e
        subst e'
        rw [show h₁.get? s.heap.objs.size = some o from h2] at hoI
        cases hoI
        exact .inl rfl
      · have e' : a = ax := List.mem_singleton.mp e
        subst e'
        have h3 := (N₁ _ (List.mem_append.mpr (.inr (hJm i m₁ news₁ hJ)))).1
        rw [show h₁.get? a = some o from h2] at h3
        cases h3
        exact .inr rfl
    have fin : TurnEnd h₀ env.locals (J (i + 1)) s.heap.objs.size oI { s with heap := h₁, toks := tk₁ } s₃ → LoopStepU h₀ env.locals [s.heap.objs.size] own (J (i + 1)) { s with heap := h₁, toks := tk₁ } .next s₃ := by
      rintro ⟨h', tk, m', all, nx, e, F', N', hs, ho, hm'⟩
      refine ⟨rfl, h', tk, m', nx, e, F', fun p hp => N' p (hs p ?_), fun p hp hq => ho p hp (List.mem_singleton.mp hq), hm'⟩
      rcases List.mem_append.mp hp with hp | hp
      · rcases heq p hp with rfl | rfl
        · exact List.mem_cons_self
        · exact List.mem_cons_of_mem _ (hJm _ _ _ hm')
      · exact List.mem_cons_of_mem _ hp
    cases f with
    | ret v => exact .ret hf
    | brk => exact .brk hf
    | next => exact .next (fin hf)
    | cont => exact .cont (fin hf)
  · intro h' tk m' news' F' N' hoff hJ
    exact done m' news' h' tk (by simpa using hJ) F' N'
end
end Mine
end
-- J5
section
open PySem PySem.W PySem.Spec PySem.Calls PyProof.Rows PyProof.Rows.LCg
set_option maxRecDepth 100000
set_option maxHeartbeats 400000
set_option linter.unusedVariables false
namespace Mine
noncomputable def JT (led : List (Addr × Obj)) (m₀ : Str → Option Value) (i : Nat) (m : Str → Option Value) (nx : List (Addr × Obj)) : Prop := nx = led ∧ ∀ z, z ≠ Str.ofString "message" → m z = m₀ z
theorem three_msgs {a b : List UInt8} {t1 t2 t3 : Tok} {n : Nat} (ha : a.length ≤ 600) (hb : b.length ≤ 600) {i : Nat} {v : Value} (h : [Value.bytes a.toArray t1, Value.bytes b.toArray t2, Value.bytes a.toArray t3][i]? = some v) : ∃ (msg : List UInt8) (t : Tok), v = .bytes msg.toArray t ∧ msg.length ≤ 600 := by
  match i, h with
  | 0, h => exact ⟨a, t1, (Option.some.inj h).symm, ha⟩
  | 1, h => exact ⟨b, t2, (Option.some.inj h).symm, hb⟩
  | 2, h => exact ⟨a, t3, (Option.some.inj h).symm, ha⟩
  | n + 3, h => simp at h
theorem make_first (w : World) (ra fh : Addr) (kv : Value) (key : List UInt8) (hkv : KeyIs kv key) (size block : Nat) (h1 : 1 ≤ size) (h2 : size ≤ 32) (h3 : size ≤ block) (h4 : block ≤ 64) (h5 : 16 ≤ block) (hb : key.length ≤ 1000) (q1 q6 : Addr × Obj) (R : List (Addr × Obj)) (n1 : q1.1 ≠ 58) (n6 : q6.1 ≠ 58) (hne58 : ∀ p ∈ R, p.1 ≠ 58) (HR : RowAt ra fh size block R) (HH : HashAt fh size R) :
    ConU w 3 80 (.ref 61) [.ref ra, kv] (q1 :: q6 :: (58, tabObj #[]) :: R) (MakesR fh (fun b c => b = q1 :: q6 :: (58, madeTab c) :: R) size block key (q1 :: q6 :: (58, tabObj #[]) :: R)) :=
  make_ok w ra fh kv key hkv size block h1 h2 h3 h4 h5 hb _ (HR.sub fun p hp => List.Mem.tail _ (List.Mem.tail _ (List.Mem.tail _ hp))) (HH.sub fun p hp => List.Mem.tail _ (List.Mem.tail _ (List.Mem.tail _ hp))) _
    (.inl ⟨fun o' => q1 :: q6 :: (58, o') :: R, UpdF.tail n1 (UpdF.tail n6 (UpdF.head hne58)), fun c' => rfl⟩)
section
set_option hygiene false in
local macro_rules | `(tactic| k_all) => `(tactic| exact hne6)
theorem ru76 : True := by
  k_with_none
  k_with "12 eval Name" => ((k_here; (first | (with_reducible show wpAny _ _ (eval (Expr.Name _ _) (envOf _ _ _ _ _)) _ _ _) | (with_reducible show wpAny _ _ (eval (Expr.Name _ _) (envOfC _ _ _ _ _)) _ _ _) | (with_reducible show wpAny _ _ (eval (Expr.Name _ _) (envX _ _ _ _ _ _)) _ _ _)); k_dflt (first
      | (refine' nameX_K ?F_0 ?X_0 ?T_0 ?e_0 ?_ ?a_0 ?b_0; (case b_0 => kernel_rfl!); (case a_0 => rfl); (case F_0 => k_asm); (case X_0 => k_asm); (case T_0 => k_asm); (case e_0 => k_is); k_whole)
      | (refine' nameX_L ?F_0 ?v_0 ?_ ?a_0 ?b_0; (case b_0 => kernel_rfl!); (case a_0 => rfl); (case F_0 => k_asm); (case v_0 => rfl); k_whole)
      | (refine' nameX_B ?F_0 ?X_0 ?T_0 ?e_0 ?v_0 ?n_0 ?_ ?a_0 ?b_0; (case b_0 => kernel_rfl!); (case a_0 => rfl); (case F_0 => k_asm); (case X_0 => k_asm); (case T_0 => k_asm); (case e_0 => k_is); (case v_0 => boot_fast); (case n_0 => decide); k_whole))))
  k_with "12 callWith ref" => ((k_here; (with_reducible show wpAny _ _ (callWith _ (Value.ref _) _ (backTo _ (starEach (_ :: _) _)) (backToKw _ _)) _ _ _); k_dflt (refine' callWith_KW ?k1_0 ?k2_0 ?k3_0 ?_; (case k1_0 => k_asm); (case k2_0 => k_is); (case k3_0 => exact rfl); k_whole)))
  k_with "1 execs cons" => ((k_here; (with_reducible show wpAny _ _ (execs (Stmt.If (Expr.Compare _ _ _ _) _ _ _ :: Stmt.If (Expr.Compare _ _ _ _) _ _ _ :: _) _) _ _ _); refine hold ?_))
  k_with "1 compareOp NotEq bytes bytes" => ((k_here; k_dflt (refine r_ne_same ?_)))
  k_with "2 eval Name" => ((k_here; k_dflt (refine' nameX_L ?zF_64 ?zv_64 ?_ ?za_64 ?zb_64; (case zb_64 => kernel_rfl!); (case zF_64 => k_asm); (case za_64 => rfl); (case zv_64 => first | with_reducible assumption | rfl | assumption); k_whole)))
  k_with "1 eval Name" => ((k_here; k_dflt (refine' nameX_C ?zN_64 ?zc_64 ?zm_64 ?zd_64 ?_ ?za_64 ?zb_64; (case zb_64 => kernel_rfl!); (case za_64 => rfl); (case zN_64 => k_asm); (case zc_64 => rfl); (case zm_64 => (repeat (first | with_reducible assumption | exact List.mem_cons_self | refine List.mem_cons_of_mem _ ?_))); (case zd_64 => assumption); k_whole)))
  k_with "4 call ref" => ((k_here; (with_reducible show wpAny _ _ (call (Value.ref 106) [_, _, _]) _ _ _); k_dflt (refine' use_con (pads_ok w secret _ _ _ size block h1 h2 h3 h4 (by omega) _) ?B_64 ?F_64 ?X_64 ?N_64 ?T_64 ?hk_64 ?hd_64 ?hu_64 ?_); (case N_64 => k_asm); (case B_64 => k_asm); (case F_64 => k_asm); (case X_64 => k_asm); (case T_64 => k_asm); (case hk_64 => rfl); (case hd_64 => omega); (case hu_64 => omega); (intro r9 new9 h9 tk9 hR9 hA9 F9 N9; obtain ⟨l, p1, p2, p3, hr9, hnew9⟩ := hR9; subst hnew9; subst hr9; simp only [List.cons_append, List.nil_append] at N9; have l6 : @LT.lt Nat _ (L + 1 + 1 + 1 + 1 + 1 + 1) l := hA9 _ (List.Mem.head _) _ (List.Mem.head _); have l58 : @LT.lt Nat _ 58 l := hA9 _ (List.Mem.head _) _ (List.Mem.tail _ (List.Mem.head _)))))
  k_with "3 call ref" => ((k_here; (with_reducible show wpAny _ _ (call (Value.ref 61) [_, _]) _ _ _); refine hold ?_))
  k_with "1 callWith ref" => ((k_here; k_dflt (refine' callWith_F ?k1_64 ?_; (case k1_64 => exact hmac_fnAt (by k_asm) (by with_reducible assumption) (by (intro p hp; repeat (first | exact hp | refine List.Mem.tail _ ?_)))); k_whole)))
  k_with "1 FnAt" => ((k_dflt (exact hmac_fnAt (by k_asm) (by with_reducible assumption) (by (intro p hp; repeat (first | exact hp | refine List.Mem.tail _ ?_))))))
  k_with "1 binaryOp Add bytes bytes" => ((k_here; (refine' r_add ?hlen_64 ?_; (case hlen_64 => omega); intro _ _)))
  k_with "2 call ref" => ((k_here; (with_reducible show wpAny _ _ (call (Value.ref _) _) _ _ _); k_dflt (show wpAny _ _ (call (Value.ref _) [Value.bytes (List.toArray _) _]) _ _ _); refine' use_con (hmac_ok w f9 (padI size block secret) (padO size block secret) _ _ size h1 h2 ?hi9_64 ?ho9_64 ?hb_64 _ ?hH_64) ?B_64 ?F_64 ?X_64 ?N_64 ?T_64 ?hk_64 ?hd_64 ?hu_64 ?_; (case N_64 => k_asm); (case hi9_64 => (rw [padI_len h3]; exact h4)); (case ho9_64 => (rw [padO_len h3]; exact h4)); (case hH_64 => exact HmacAt.sub hH9 (by (intro p hp; repeat (first | exact hp | refine List.Mem.tail _ ?_)))); (case B_64 => k_asm); (case F_64 => k_asm); (case X_64 => k_asm); (case T_64 => k_asm); (case hk_64 => rfl); (case hd_64 => omega); (case hu_64 => omega); (case hb_64 => ((try rw [List.length_append]); omega)); (intro r9 new9 h9 tk9 hR9 hA9 F9 N9; obtain ⟨hnew9, t9, hr9⟩ := hR9; subst hnew9; subst hr9; simp only [List.nil_append] at N9)))
  k_with "1 call ref" => ((k_here; (with_reducible show wpAny _ _ (call (Value.ref 113) [_, Value.bytes (List.toArray _) _, _]) _ _ _); k_dflt (refine' use_con (code_ok w l (padI size block secret) (padO size block secret) _ _ _ size h1 h2 ?hi9_64 ?ho9_64 ?hm9_64 _ ?hp_64) ?B_64 ?F_64 ?X_64 ?N_64 ?T_64 ?hk_64 ?hd_64 ?hu_64 ?_); (case N_64 => k_asm); (case hi9_64 => (rw [padI_len h3]; exact h4)); (case ho9_64 => (rw [padO_len h3]; exact h4)); (case hp_64 => (repeat (first | exact HP9 | refine PadsAt.cons ?_))); (case B_64 => k_asm); (case F_64 => k_asm); (case X_64 => k_asm); (case T_64 => k_asm); (case hk_64 => rfl); (case hd_64 => omega); (case hu_64 => omega); (case hm9_64 => ((try rw [List.length_append]); omega)); (intro r9 new9 h9 tk9 hR9 hA9 F9 N9; obtain ⟨hnew9, t9, hr9⟩ := hR9; subst hnew9; subst hr9; simp only [List.nil_append] at N9)))
  k_with "1 my tuple" => (((rename Fr _ _ _ _ => lF9); (rename News _ _ _ _ => lN9); (with_unfolding_all refine' tup_invG (JT _ _) (by rfl) lF9 lN9 (List.Mem.head _) rfl rfl ⟨rfl, fun z _ => rfl⟩ (fun i m nx h => by rw [h.1]; exact List.Mem.head _) (fun i9 v9 m9 nx9 h9 tk9 I9 oI9 hv9 hj9 ho9 F9 N9 => ?_) (fun m9 nx9 h9 tk9 hj9 F9 N9 => ?_)); (all_goals (obtain ⟨hnx9, hz9⟩ := hj9)); (all_goals (have hk9 : m9 (Str.ofString "keyed") = some (Value.ref f9) := (hz9 _ (by decide)).trans rfl)); (all_goals clear lF9 lN9); (first | (obtain ⟨msg9, tm9, hv9', hml9⟩ := three_msgs (n := 0) (by omega) (by rw [List.length_append]; omega) hv9; subst hv9'; subst hnx9) | skip)))
  k_with "1 pyIter ref" => ((k_here; (with_reducible show wpAny _ _ (pyIter (Value.ref _)) (fun it s₂ => TurnsAt _ _ _ _ _ _ _ _ _ it s₂) _ _); k_dflt (walk_at "my tuple")))
  trivial
theorem segD (w : World) (ra fh fa : Addr) (av : Value) (secret salt : List UInt8) (hav : KeyIs av secret) (size block : Nat) (tz te tl tb : Tok) (h1 : 1 ≤ size) (h2 : size ≤ 32) (h3 : size ≤ block) (h4 : block ≤ 64) (h5 : 16 ≤ block) (hs : secret.length ≤ 300) (hm : salt.length ≤ 300)
    (R : List (Addr × Obj)) (HR : RowAt ra fh size block R) (HH : HashAt fh size R)
    (dp un : Nat) (gd : Option (List Code)) (A₀ : Around) (g : Heap) (L : Addr) (h₁ : Heap) (tk : Nat) (s : Shared) (p : Program) (loose : List Str) (mean : ExcName → Option Value) (mg mb : Str → Option Value) (m : Str → Option Value) (o4 o5 o6 o7 : Obj) (v6 : Option Value)
    (B : Below A₀ g [] g) (F : Fr g L h₁ m) (X : (K w.params).In g) (N : News g L h₁ ((L + 1 + 1 + 1 + 1 + 1 + 1, o6) :: (58, tabObj #[]) :: R)) (T : Top p loose mean mg mb g) (c4 : (L + 1 + 1 + 1 + 1, o4) ∈ R) (e4 : o4.data = .cell (some (.ref ra)))
    (c5 : (L + 1 + 1 + 1 + 1 + 1, o5) ∈ R) (e5 : o5.data = .cell (some (.bytes salt.toArray tl))) (e6 : o6.data = .cell v6) (c7 : (L + 1 + 1 + 1 + 1 + 1 + 1 + 1, o7) ∈ R) (e7 : o7.data = .cell (some (.int (size : Int) tz)))
    (hL : @LT.lt Nat _ 58 L) (hne6 : ∀ p ∈ R, p.1 ≠ L + 1 + 1 + 1 + 1 + 1 + 1) (hne58 : ∀ p ∈ R, p.1 ≠ 58)
    (m1 : m (Str.ofString "asked") = some av) (m3 : m (Str.ofString "secret") = some (.bytes secret.toArray te)) (m4 : m (Str.ofString "block") = some (.int (block : Int) tb))
    (hd : dp + 20 < recursionLimit) (hu : un + 300 < cLine)
    (k : ∀ h' tk' m' news' l c', Fr g L h' m' → News g L h' news' → (∀ x, x ≠ Str.ofString "keyed" → x ≠ Str.ofString "message" → m' x = m x) → RowAt ra fh size block news' → HashAt fh size news' → MadeAt c' news' → PadsAt l (padI size block secret) (padO size block secret) news' →
      (∃ o, (L + 1 + 1 + 1 + 1 + 1 + 1, o) ∈ news' ∧ o.data = .cell (some (.ref l))) → (∀ p ∈ R, p ∈ news') → (∃ ps, (58, tabObj ps) ∈ news') →
      wpAny (model pw w) (ktrTop dp un gd lwN fS26 L fa (.ref 162) (cellsFrom (L + 1) fS26.names []) []) (execs lw15 (envOfC lwN fS26 L fa (.ref 162))) (EndsLaw g L s) (fun _ _ => False) { s with heap := h', toks := tk' }) :
    wpAny (model pw w) (ktrTop dp un gd lwN fS26 L fa (.ref 162) (cellsFrom (L + 1) fS26.names []) []) (execs lw12 (envOfC lwN fS26 L fa (.ref 162))) (EndsLaw g L s) (fun _ _ => False) { s with heap := h₁, toks := tk } := by
  show wpAny _ _ _ _ _ _
  k_fold
  k_steps
  · show wpAny _ _ _ _ _ _
    rename Fr _ _ _ _ => F7
    rename News _ _ _ _ => N7
    rename Obj.data _ = Data.cell (some (Value.ref l)) => e6'
    refine' use_conU (make_first w ra fh av secret hav size block h1 h2 h3 h4 h5 (by omega) _ _ R ?n1 ?n6 hne58 HR HH) B F7 X N7 T rfl ?hd ?hu ?_
    case n1 => exact Ne.symm (Nat.ne_of_lt l58)
    case n6 => exact Ne.symm (Nat.ne_of_lt (show @LT.lt Nat _ 58 (L + 1 + 1 + 1 + 1 + 1 + 1) by have : @LT.lt Nat _ 58 L := hL; omega))
    case hd => omega
    case hu => omega
    intro r9 post9 h9 tk9 hR9 F9 N9
    obtain ⟨f9, c9, new9, base9, hr9, hp9, hA9', hH9, hM9, hb9, hs9⟩ := hR9
    subst hr9
    subst hb9
    have hsub : ∀ p ∈ R, p ∈ post9 := fun p hp => by rw [hp9]; exact List.mem_append_right _ (List.Mem.tail _ (List.Mem.tail _ (List.Mem.tail _ hp)))
    have c6x : ∃ o, (L + 1 + 1 + 1 + 1 + 1 + 1, o) ∈ post9 ∧ o.data = Data.cell (some (Value.ref l)) := ⟨_, by rw [hp9]; exact List.mem_append_right _ (List.Mem.tail _ (List.Mem.head _)), e6'⟩
    obtain ⟨o6', c6', e6''⟩ := c6x
    have H58 : ∃ ps, (58, tabObj ps) ∈ post9 := ⟨_, by rw [hp9]; exact List.mem_append_right _ (List.Mem.tail _ (List.Mem.tail _ (List.Mem.head _)))⟩
    have HP9 : PadsAt l (padI size block secret) (padO size block secret) post9 := ⟨p1, p2, p3, by rw [hp9]; exact List.mem_append_right _ (List.Mem.head _)⟩
    have c5' := hsub _ c5
    have c7' := hsub _ c7
    clear hp9 hs9 hA9' F7 N7
    k_steps
    · show TurnEnd _ _ _ _ _ _ _
      rename Fr _ _ _ _ => F0
      rename News _ _ _ _ => N0
      refine' turn_end _ F0 N0 ?hs ho9 ⟨rfl, fun z hz => ?hz⟩
      case hs => (intro p hp; exact hp)
      case hz => exact (if_neg hz).trans (hz9 z hz)
    · show wpAny _ _ _ _ _ _
      subst hnx9
      exact k _ _ _ _ l c9 F9 N9 (fun x hx1 hx2 => (hz9 x hx2).trans (if_neg hx1)) ((HR.sub hsub).sub fun p hp => List.Mem.tail _ hp) ((HH.sub hsub).sub fun p hp => List.Mem.tail _ hp) (hM9.sub fun p hp => List.Mem.tail _ hp) HP9.cons ⟨o6', List.Mem.tail _ c6', e6''⟩ (fun p hp => List.Mem.tail _ (hsub p hp)) (H58.imp fun ps h => List.Mem.tail _ h)
end
end Mine
end
-- J6
section
open PySem PySem.W PySem.Spec PySem.Calls PyProof.Rows PyProof.Rows.LCg
set_option maxRecDepth 100000
set_option maxHeartbeats 400000
set_option linter.unusedVariables false
namespace Mine
theorem ru77 : True := by
  k_with_none
  k_with "12 eval Name" => ((k_here; (first | (with_reducible show wpAny _ _ (eval (Expr.Name _ _) (envOf _ _ _ _ _)) _ _ _) | (with_reducible show wpAny _ _ (eval (Expr.Name _ _) (envOfC _ _ _ _ _)) _ _ _) | (with_reducible show wpAny _ _ (eval (Expr.Name _ _) (envX _ _ _ _ _ _)) _ _ _)); k_dflt (first
      | (refine' nameX_K ?F_0 ?X_0 ?T_0 ?e_0 ?_ ?a_0 ?b_0; (case b_0 => kernel_rfl!); (case a_0 => rfl); (case F_0 => k_asm); (case X_0 => k_asm); (case T_0 => k_asm); (case e_0 => k_is); k_whole)
      | (refine' nameX_L ?F_0 ?v_0 ?_ ?a_0 ?b_0; (case b_0 => kernel_rfl!); (case a_0 => rfl); (case F_0 => k_asm); (case v_0 => rfl); k_whole)
      | (refine' nameX_B ?F_0 ?X_0 ?T_0 ?e_0 ?v_0 ?n_0 ?_ ?a_0 ?b_0; (case b_0 => kernel_rfl!); (case a_0 => rfl); (case F_0 => k_asm); (case X_0 => k_asm); (case T_0 => k_asm); (case e_0 => k_is); (case v_0 => boot_fast); (case n_0 => decide); k_whole))))
  k_with "12 callWith ref" => ((k_here; (with_reducible show wpAny _ _ (callWith _ (Value.ref _) _ (backTo _ (starEach (_ :: _) _)) (backToKw _ _)) _ _ _); k_dflt (refine' callWith_KW ?k1_0 ?k2_0 ?k3_0 ?_; (case k1_0 => k_asm); (case k2_0 => k_is); (case k3_0 => exact rfl); k_whole)))
  trivial
theorem pieces_split {size : Nat} {i o salt : List UInt8} {rounds : Nat} (a b : Nat) : piecesF size i o salt rounds (a + b) = piecesF size i o salt rounds a ++ ((List.range b).map fun k => pieceF size i o salt rounds (a + k + 1)).flatten := by
  unfold piecesF
  rw [List.range_add, List.map_append, List.flatten_append, List.map_map]
  rfl
theorem ones_len {i o salt : List UInt8} {rounds n : Nat} : (piecesF 1 i o salt rounds n).length = n := by rw [pieces_len, Nat.mul_one]
theorem ones_all {i o salt : List UInt8} {rounds n : Nat} (h : 1 ≤ n) : (piecesF 1 i o salt rounds ((n - 1) / 1 + 1)).take n = piecesF 1 i o salt rounds n := by
  rw [Nat.div_one, show n - 1 + 1 = n by omega, List.take_of_length_le (Nat.le_of_eq ones_len)]
theorem ones_take {i o salt : List UInt8} {rounds n : Nat} (h : 3 ≤ n) : (piecesF 1 i o salt rounds n).take 3 = (piecesF 1 i o salt rounds ((3 - 1) / 1 + 1)).take 3 := by
  rw [ones_all (n := 3) (by decide)]
  obtain ⟨b, rfl⟩ : ∃ b, n = 3 + b := ⟨n - 3, by omega⟩
  rw [pieces_split]
  exact List.take_left' ones_len
theorem ones_drop {i o salt : List UInt8} {rounds e : Nat} : (piecesF 1 i o salt rounds (257 + e)).drop 254 = ((List.range (3 + e)).map fun k => pieceF 1 i o salt rounds (255 + k)).flatten := by
  have e2 : (fun k => pieceF 1 i o salt rounds (254 + k + 1)) = fun k => pieceF 1 i o salt rounds (255 + k) := by
    funext k
    rw [show 254 + k + 1 = 255 + k by omega]
  rw [show 257 + e = 254 + (3 + e) by omega, pieces_split, List.drop_left' ones_len, e2]
theorem r_ne_eq {prog : Program} {w : World} {A : Around} {E : Value → Shared → Prop} {s : Shared} {b c : List UInt8} {t u : Tok} {Q : Value → Shared → Prop} (e : b = c) (h : Q (.bool false) s) : wpAny (model prog w) A (compareOp .NotEq (.bytes b.toArray t) (.bytes c.toArray u)) Q E s := by
  subst e
  exact r_ne_same h
theorem r_modE {prog : Program} {w : World} {A : Around} {E : Value → Shared → Prop} {s : Shared} {d b : Int} {e : Nat} {t u : Tok} {Q : Value → Shared → Prop} (hb : b ≠ 0) (he : d.fmod b = (e : Int)) (h : ∀ t' k', Q (.int (e : Int) t') { s with toks := k' }) : wpAny (model prog w) A (binaryOp .Mod (.int d t) (.int b u)) Q E s := by
  refine mod_int' hb ?_
  rw [he]
  exact h _ _
theorem pb2_one (w : World) (ra fh c' : Addr) (av bv : Value) (secret salt : List UInt8) (hav : KeyIs av secret) (hbv : KeyIs bv salt) (t t' : Tok) (block n : Nat) (h3 : 1 ≤ block) (h4 : block ≤ 64) (h5 : 16 ≤ block) (hs : secret.length ≤ 300) (hm : salt.length ≤ 300) (hn1 : 1 ≤ n) (hn2 : n ≤ 300)
    (news : List (Addr × Obj)) (HR : RowAt ra fh 1 block news) (HH : HashAt fh 1 news) (HM : MadeAt c' news) :
    Con w 7 130 (.ref 82) [.ref ra, av, bv, .int 1 t, .int (n : Int) t'] news (fun r => ∃ tc, r = .bytes (piecesF 1 (padI 1 block secret) (padO 1 block secret) salt 1 n).toArray tc) := by
  have := pb2_ok w ra fh c' av bv secret salt hav hbv t t' 1 block 1 n (by decide) (by decide) h3 h4 h5 (by omega) (by omega) (by decide) (by decide) hn1 (by omega) news HR HH HM
  rw [ones_all hn1] at this
  exact this
end Mine
end
-- J7
section
open PySem PySem.W PySem.Spec PySem.Calls PyProof.Rows PyProof.Rows.LCg
set_option maxRecDepth 100000
set_option maxHeartbeats 400000
set_option linter.unusedVariables false
namespace Mine
section
theorem ru78 : True := by
  k_with_none
  k_with "12 eval Name" => ((k_here; (first | (with_reducible show wpAny _ _ (eval (Expr.Name _ _) (envOf _ _ _ _ _)) _ _ _) | (with_reducible show wpAny _ _ (eval (Expr.Name _ _) (envOfC _ _ _ _ _)) _ _ _) | (with_reducible show wpAny _ _ (eval (Expr.Name _ _) (envX _ _ _ _ _ _)) _ _ _)); k_dflt (first
      | (refine' nameX_K ?F_0 ?X_0 ?T_0 ?e_0 ?_ ?a_0 ?b_0; (case b_0 => kernel_rfl!); (case a_0 => rfl); (case F_0 => k_asm); (case X_0 => k_asm); (case T_0 => k_asm); (case e_0 => k_is); k_whole)
      | (refine' nameX_L ?F_0 ?v_0 ?_ ?a_0 ?b_0; (case b_0 => kernel_rfl!); (case a_0 => rfl); (case F_0 => k_asm); (case v_0 => rfl); k_whole)
      | (refine' nameX_B ?F_0 ?X_0 ?T_0 ?e_0 ?v_0 ?n_0 ?_ ?a_0 ?b_0; (case b_0 => kernel_rfl!); (case a_0 => rfl); (case F_0 => k_asm); (case X_0 => k_asm); (case T_0 => k_asm); (case e_0 => k_is); (case v_0 => boot_fast); (case n_0 => decide); k_whole))))
  k_with "12 callWith ref" => ((k_here; (with_reducible show wpAny _ _ (callWith _ (Value.ref _) _ (backTo _ (starEach (_ :: _) _)) (backToKw _ _)) _ _ _); k_dflt (refine' callWith_KW ?k1_0 ?k2_0 ?k3_0 ?_; (case k1_0 => k_asm); (case k2_0 => k_is); (case k3_0 => exact rfl); k_whole)))
  k_with "1 execs cons" => ((k_here; (with_reducible show wpAny _ _ (execs (Stmt.If (Expr.Compare (Expr.Call (Expr.Name (Str.ofString "pbkdf1") _) _ _ _) _ _ _) _ _ _ :: Stmt.If (Expr.Compare (Expr.Call (Expr.Name (Str.ofString "pbkdf1") _) _ _ _) _ _ _) _ _ _ :: _) _) _ _ _); refine hold ?_))
  k_with "3 eval Name" => ((k_here; k_dflt (refine' nameX_L ?zF_66 ?zv_66 ?_ ?za_66 ?zb_66; (case zb_66 => kernel_rfl!); (case zF_66 => k_asm); (case za_66 => rfl); (case zv_66 => first | with_reducible assumption | rfl | assumption); k_whole)))
  k_with "2 eval Name" => ((k_here; k_dflt (refine' nameX_C ?zN_66 ?zc_66 ?zm_66 ?zd_66 ?_ ?za_66 ?zb_66; (case zb_66 => kernel_rfl!); (case za_66 => rfl); (case zN_66 => k_asm); (case zc_66 => rfl); (case zm_66 => (repeat (first | with_reducible assumption | refine List.mem_cons_of_mem _ ?_))); (case zd_66 => assumption); k_whole)))
  k_with "1 eval Name" => ((k_here; (with_reducible show wpAny _ _ (eval (Expr.Name _ _) (compEnvC _ _ _ _)) _ _ _); k_dflt (refine kcf_cell (by k_asm) (by rfl) (by (repeat (first | with_reducible assumption | refine List.mem_cons_of_mem _ ?_))) (by assumption) ?_)))
  k_with "1 binaryOp Mod int int" => ((k_here; k_dflt (refine r_modE (by decide) he ?_); intro _ _))
  k_with "1 binaryOp Add int int" => ((k_here; k_dflt (refine r_addN ?_); intro _ _))
  k_with "1 call builtin:len" => ((k_here; (with_reducible show wpAny _ _ (call (Value.builtin "len") [Value.bytes (List.toArray _) _]) _ _ _); (refine' r_len ?hl_66 ?_; (case hl_66 => (rw [ones_len]; omega)); (try rw [ones_len]); intro _ _)))
  k_with "3 call ref" => ((k_here; (with_reducible show wpAny _ _ (call (Value.ref 82) [_, _, _, _, _]) _ _ _); k_dflt (refine' use_con (pb2_one w ra fh c' av bv secret salt hav hbv _ _ block (257 + e) (by omega) h4 h5 hs hm (by omega) (by omega) _ HR HH HM) ?B_66 ?F_66 ?X_66 ?N_66 ?T_66 ?hk_66 ?hd_66 ?hu_66 ?_); (case N_66 => k_asm); (case B_66 => k_asm); (case F_66 => k_asm); (case X_66 => k_asm); (case T_66 => k_asm); (case hk_66 => rfl); (case hd_66 => omega); (case hu_66 => omega); (intro r9 new9 h9 tk9 hR9 hA9 F9 N9; obtain ⟨hnew9, t9, hr9⟩ := hR9; subst hnew9; subst hr9; simp only [List.nil_append] at N9)))
  k_with "2 call ref" => ((k_here; (with_reducible show wpAny _ _ (call (Value.ref 123) [_, _, _, _, _]) _ _ _); k_dflt (refine' use_con (second_ok w l (padI 1 block secret) (padO 1 block secret) salt _ _ _ _ 1 1 3 (by decide) (by decide) (by rw [padI_len (by omega)]; exact h4) (by rw [padO_len (by omega)]; exact h4) (by omega) (by decide) (by decide) (by decide) (by decide) _ HP) ?B_66 ?F_66 ?X_66 ?N_66 ?T_66 ?hk_66 ?hd_66 ?hu_66 ?_); (case N_66 => k_asm); (case B_66 => k_asm); (case F_66 => k_asm); (case X_66 => k_asm); (case T_66 => k_asm); (case hk_66 => rfl); (case hd_66 => omega); (case hu_66 => omega); (intro r9 new9 h9 tk9 hR9 hA9 F9 N9; obtain ⟨hnew9, t9, hr9⟩ := hR9; subst hnew9; subst hr9; simp only [List.nil_append] at N9)))
  k_with "1 call ref" => ((k_here; (with_reducible show wpAny _ _ (call (Value.ref 118) [_, _, _, _, _]) _ _ _); k_dflt (refine' use_con (piece_ok w l (padI 1 block secret) (padO 1 block secret) salt _ _ _ _ 1 1 (255 + i9) (by decide) (by decide) (by rw [padI_len (by omega)]; exact h4) (by rw [padO_len (by omega)]; exact h4) (by omega) (by decide) (by decide) (by omega) _ ?hp_66) ?B_66 ?F_66 ?X_66 ?N_66 ?T_66 ?hk_66 ?hd_66 ?hu_66 ?_); (case N_66 => k_asm); (case hp_66 => (repeat (first | exact HP | refine PadsAt.cons ?_))); (case B_66 => k_asm); (case F_66 => k_asm); (case X_66 => k_asm); (case T_66 => k_asm); (case hk_66 => rfl); (case hd_66 => omega); (case hu_66 => omega); (intro r9 new9 h9 tk9 hR9 hA9 F9 N9; obtain ⟨hnew9, t9, hr9⟩ := hR9; subst hnew9; subst hr9; simp only [List.nil_append] at N9)))
  k_with "1 CompSrc" => ((k_here; k_dflt (refine' comp_rb (n := 3 + e) (fun i => pieceF 1 (padI 1 block secret) (padO 1 block secret) salt 1 (255 + i)) ?hh_66 ?F_66 ?N_66 ?hr_66 ?hsm_66 ?hn_66 ?sz_66 (fun i9 t9 I9 oI9 C9 oC9 D9 oD9 m9 h9 tk9 E9 hi9 hC9 hx9 F9 N9 off9 ne9 => ?_) (fun g9 ys9 hI9 D9 h9 tk9 F9 N9 o9 => ?_); (case hh_66 => rfl); (case F_66 => k_asm); (case N_66 => k_asm); (case hr_66 => assumption); (case hsm_66 => exact small_one (by omega) (by omega) (by omega) (by omega)); (case hn_66 => (rw [rangeSize_nat]; omega)); (case sz_66 => (rw [PySem.sizeLine_eq]; omega)); (first | rw [show (255 : Int) + (i9 : Int) = ((255 + i9 : Nat) : Int) by omega] at hx9 | skip))))
  k_with "1 EltEnd" => ((refine elt_end (by k_asm) (by k_asm) (fun p hp => hp) ⟨_, rfl⟩))
  k_with "1 call builtin:bytes.join" => ((k_here; k_dflt (refine r_join (by k_asm) (List.Mem.head _) (by assumption) (by rw [← ones_drop, List.length_drop, ones_len]; omega) ?_); intro t9 k9))
  k_with "1 subscriptTail" => ((k_here; (with_reducible show wpAny _ _ (subscriptTail _ _ (Value.bytes _ _) (Value.ref _)) _ _ _); first
  | (k_dflt (refine r_cut (k := 3) (by k_asm) (by k_asm) (by rw [ones_len]; omega) (by with_unfolding_all rfl) (by intro _; with_unfolding_all rfl) ?_); intro h9 t9 k9 F9 N9)
  | (k_dflt (refine r_cutFrom (k := 254) (by k_asm) (by k_asm) (by rw [ones_len]; omega) (by with_unfolding_all rfl) (by intro _; with_unfolding_all rfl) ?_); intro h9 t9 k9 F9 N9)))
  k_with "1 compareOp NotEq bytes bytes" => ((k_here; k_dflt (first | refine r_ne_eq (ones_take (by omega)) ?_ | refine r_ne_eq ones_drop ?_)))
  k_with "1 getMethod bytes" => ((k_here; (with_reducible refine m_join ?_)))
  trivial
theorem segF (w : World) (ra fh fa c' l : Addr) (av bv : Value) (secret salt : List UInt8) (hav : KeyIs av secret) (hbv : KeyIs bv salt) (sg : Bool) (size block : Nat) (hsg : sg = true → size = 1) (d : Int) (e : Nat) (he : d.fmod 4 = (e : Int)) (he3 : e ≤ 3) (td tl : Tok) (h4 : block ≤ 64) (h5 : 16 ≤ block) (hs : secret.length ≤ 300) (hm : salt.length ≤ 300)
    (news : List (Addr × Obj)) (HR : RowAt ra fh size block news) (HH : HashAt fh size news) (HM : MadeAt c' news) (HP : PadsAt l (padI size block secret) (padO size block secret) news)
    (dp un : Nat) (gd : Option (List Code)) (A₀ : Around) (g : Heap) (L : Addr) (h₁ : Heap) (tk : Nat) (s : Shared) (p : Program) (loose : List Str) (mean : ExcName → Option Value) (mg mb : Str → Option Value) (m : Str → Option Value) (o2 o4 o5 o6 : Obj)
    (B : Below A₀ g [] g) (F : Fr g L h₁ m) (X : (K w.params).In g) (N : News g L h₁ news) (T : Top p loose mean mg mb g) (c2 : (L + 1 + 1, o2) ∈ news) (e2 : o2.data = .cell (some (.int d td))) (c4 : (L + 1 + 1 + 1 + 1, o4) ∈ news) (e4 : o4.data = .cell (some (.ref ra)))
    (c5 : (L + 1 + 1 + 1 + 1 + 1, o5) ∈ news) (e5 : o5.data = .cell (some (.bytes salt.toArray tl))) (c6 : (L + 1 + 1 + 1 + 1 + 1 + 1, o6) ∈ news) (e6 : o6.data = .cell (some (.ref l)))
    (m1 : m (Str.ofString "asked") = some av) (m2 : m (Str.ofString "salted") = some bv) (m6 : m (Str.ofString "single") = some (.bool sg))
    (hd : dp + 20 < recursionLimit) (hu : un + 300 < cLine)
    (k : ∀ h' tk' m', Fr g L h' m' → News g L h' news → (∀ x, x ≠ Str.ofString "many" → m' x = m x) → wpAny (model pw w) (ktrTop dp un gd lwN fS26 L fa (.ref 162) (cellsFrom (L + 1) fS26.names []) []) (execs lw18 (envOfC lwN fS26 L fa (.ref 162))) (EndsLaw g L s) (fun _ _ => False) { s with heap := h', toks := tk' }) :
    wpAny (model pw w) (ktrTop dp un gd lwN fS26 L fa (.ref 162) (cellsFrom (L + 1) fS26.names []) []) (execs lw17 (envOfC lwN fS26 L fa (.ref 162))) (EndsLaw g L s) (fun _ _ => False) { s with heap := h₁, toks := tk } := by
  cases sg with
  | false =>
    show wpAny _ _ _ _ _ _
    k_fold
    k_steps
    · show wpAny _ _ _ _ _ _
      rename Fr _ _ _ _ => F9
      rename News _ _ _ _ => N9
      exact k _ _ _ F9 N9 fun x _ => rfl
  | true =>
    have hsz := hsg rfl
    subst hsz
    show wpAny _ _ _ _ _ _
    k_fold
    k_steps
    · exact absurd rfl (by assumption)
    · show wpAny _ _ _ _ _ _
      rename Fr _ _ _ _ => F9
      rename News _ _ _ _ => N9
      exact k _ _ _ F9 (news_sub N9 fun p hp => List.Mem.tail _ hp) fun x hx => if_neg hx
end
end Mine
end
-- K0
section
open PySem PySem.W PySem.Spec PySem.Calls PyProof.Rows PyProof.Rows.LCg
set_option maxRecDepth 100000
set_option maxHeartbeats 400000
set_option linter.unusedVariables false
namespace Mine
theorem ru79 : True := by
  k_with_none
  k_with "12 eval Name" => ((k_here; (first | (with_reducible show wpAny _ _ (eval (Expr.Name _ _) (envOf _ _ _ _ _)) _ _ _) | (with_reducible show wpAny _ _ (eval (Expr.Name _ _) (envOfC _ _ _ _ _)) _ _ _) | (with_reducible show wpAny _ _ (eval (Expr.Name _ _) (envX _ _ _ _ _ _)) _ _ _)); k_dflt (first
      | (refine' nameX_K ?F_0 ?X_0 ?T_0 ?e_0 ?_ ?a_0 ?b_0; (case b_0 => kernel_rfl!); (case a_0 => rfl); (case F_0 => k_asm); (case X_0 => k_asm); (case T_0 => k_asm); (case e_0 => k_is); k_whole)
      | (refine' nameX_L ?F_0 ?v_0 ?_ ?a_0 ?b_0; (case b_0 => kernel_rfl!); (case a_0 => rfl); (case F_0 => k_asm); (case v_0 => rfl); k_whole)
      | (refine' nameX_B ?F_0 ?X_0 ?T_0 ?e_0 ?v_0 ?n_0 ?_ ?a_0 ?b_0; (case b_0 => kernel_rfl!); (case a_0 => rfl); (case F_0 => k_asm); (case X_0 => k_asm); (case T_0 => k_asm); (case e_0 => k_is); (case v_0 => boot_fast); (case n_0 => decide); k_whole))))
  k_with "12 callWith ref" => ((k_here; (with_reducible show wpAny _ _ (callWith _ (Value.ref _) _ (backTo _ (starEach (_ :: _) _)) (backToKw _ _)) _ _ _); k_dflt (refine' callWith_KW ?k1_0 ?k2_0 ?k3_0 ?_; (case k1_0 => k_asm); (case k2_0 => k_is); (case k3_0 => exact rfl); k_whole)))
  trivial
section
variable {prog : Program} {w : World} {A : Around} {E : Value → Shared → Prop} {s : Shared} {h₀ : Heap} {L : Addr} {m : Str → Option Value} {env : Env} {elt : PySem.Expr} {x : Str} {scope : Scope} {cl : List (Str × Addr)} {news : List (Addr × Obj)} {Fin : Shared → List Value → List (Addr × Obj) → Prop} {s₁ : Shared}
theorem comp_bY (Y : UInt8 → Value → Prop) {b : List UInt8} {tb : Tok} (hh : A.handled = none) (F : Fr h₀ L s₁.heap m) (N : News h₀ L s₁.heap news) (hsz : b.length ≤ sizeLine)
    (turn : ∀ c t I oI C oC D oD m₂ h tk (E' : Value → Shared → Prop), c ∈ b → NsObj oC m₂ → m₂ x = some (.int (c.toNat : Int) t) → Fr h₀ L h m → News h₀ L h ((I, oI) :: (C, oC) :: (D, oD) :: news) → Off3 I C D news → ((@Ne Nat I C) ∧ (@Ne Nat I D) ∧ (@Ne Nat C D)) →
      wpAny (model prog w) A (eval elt (compEnvC scope cl C env)) (EltEnd h₀ L m { s₁ with heap := h, toks := tk } ((I, oI) :: (C, oC) :: (D, oD) :: news) (Y c)) E' { s₁ with heap := h, toks := tk })
    (fin : ∀ g ys, Each b.length (fun i v => ∃ c, b[i]? = some c ∧ Y c v) ys → Fin { s₁ with heap := g } ys news) : CompB prog w A h₀ L m env elt x scope cl Fin (.bytes b.toArray tb) s₁ := by
  refine ⟨b, tb, news, rfl, hh, F, N, hsz, fun g => comp_rest (fun i v => ∃ c, b[i]? = some c ∧ Y c v) ?_ trivial fun ys hy => fin g ys hy⟩
  rintro i v I oI C oC D oD m₂ h tk E' hi ⟨c, u, hc, rfl⟩ hC hx F' N' off ne _
  refine wpAny_mono (turn c u I oI C oC D oD m₂ h tk E' (List.mem_of_getElem? hc) hC hx F' N' off ne) (fun y s₂ hq => ?_) fun _ _ e => e
  obtain ⟨h', tk', rfl, F2, N2, hy⟩ := hq
  exact ⟨h', tk', rfl, F2, N2, c, hc, hy⟩
end
/-- the text that the law makes of octets -/
noncomputable def chrS (c : UInt8) : Str := ⟨#[31 + c.toNat * 9]⟩
noncomputable def chrs (b : List UInt8) : List Nat := b.map fun c => 31 + c.toNat * 9
noncomputable def textS (b : List UInt8) : Str := Txt.join Str.empty (b.map chrS)
theorem strs_chr : ∀ {b : List UInt8} {ys : List Value}, ys.length = b.length → (∀ (i : Nat) (v : Value), ys[i]? = some v → ∃ c, b[i]? = some c ∧ ∃ t, v = Value.str (chrS c) t) → StrsAre ys (b.map chrS)
  | [], [], _, _ => .nil
  | c :: b, y :: ys, hl, h => by
    obtain ⟨c', hc, t, rfl⟩ := h 0 y rfl
    cases hc
    exact .cons _ t (strs_chr (by simpa using hl) fun i v hv => h (i + 1) v hv)
theorem chr_fold : ∀ (b : List UInt8) (acc : Array Nat), ((b.map chrS).foldl (fun acc (p : Str) => acc ++ Str.empty.cps ++ p.cps) acc).toList = acc.toList ++ chrs b
  | [], acc => by simp [chrs]
  | c :: b, acc => by
    rw [List.map_cons, List.foldl_cons, chr_fold b]
    simp [chrs, chrS, Str.empty]
theorem textS_cps (b : List UInt8) : (textS b).cps.toList = chrs b := by
  cases b with
  | nil => rfl
  | cons c b =>
    show ((b.map chrS).foldl (fun acc (p : Str) => acc ++ Str.empty.cps ++ p.cps) (chrS c).cps).toList = _
    rw [chr_fold]
    rfl
theorem chrs_plain {b : List UInt8} : ∀ c ∈ chrs b, Str.isSurrogate c = false := by
  intro c hc
  obtain ⟨x, _, rfl⟩ := List.mem_map.mp hc
  have := x.toNat_lt
  unfold Str.isSurrogate
  rw [Bool.and_eq_false_iff]
  exact .inl (decide_eq_false (by omega))
theorem utf8_len (c : Nat) : (Str.utf8Of c).length ≤ 4 := by
  unfold Str.utf8Of
  split
  · exact Nat.le_of_ble_eq_true rfl
  · split
    · exact Nat.le_of_ble_eq_true rfl
    · split <;> exact Nat.le_of_ble_eq_true rfl
theorem utf_len : ∀ (l : List Nat), (utf l).length ≤ 4 * l.length
  | [] => Nat.le_refl _
  | c :: l => by
    have h1 := utf8_len c
    have h2 := utf_len l
    show (List.flatMap Str.utf8Of (c :: l)).length ≤ _
    rw [List.flatMap_cons, List.length_append, List.length_cons]
    have h3 : (List.flatMap Str.utf8Of l).length ≤ 4 * l.length := h2
    omega
theorem text_len {b : List UInt8} : (utf (chrs b)).length ≤ 4 * b.length := by
  have := utf_len (chrs b)
  rwa [show (chrs b).length = b.length by simp [chrs]] at this
theorem text_key {b : List UInt8} {t : Tok} : KeyIs (.str (textS b) t) (utf (chrs b)) := .inr ⟨textS b, t, rfl, by rw [textS_cps], by rw [textS_cps]; exact chrs_plain⟩
theorem sum_ones : ∀ (b : List UInt8), ((b.map chrS).map (·.length)).sum = b.length
  | [] => rfl
  | c :: b => by
    rw [List.map_cons, List.map_cons, List.sum_cons, sum_ones b, List.length_cons]
    show 1 + b.length = _
    omega
theorem r_joinS {prog : Program} {w : World} {A : Around} {E : Value → Shared → Prop} {s : Shared} {h₀ : Heap} {L : Addr} {news : List (Addr × Obj)} {D : Addr} {ys : List Value} {k : Nat} {b : List UInt8} {x : Str} {t : Tok} {Q : Value → Shared → Prop} (hx : x = Str.empty) (N : News h₀ L s.heap news) (hm : (D, ({ cls := .type "list", data := .seq ys.toArray k } : Obj)) ∈ news) (hi : StrsAre ys (b.map chrS)) (hb : b.length ≤ 1000)
    (h : ∀ t' k', Q (.str (textS b) t') { s with toks := k' }) : wpAny (model prog w) A (call (.builtin "str.join") [.str x t, .ref D]) Q E s := by
  subst hx
  exact join_list ⟨_, (N _ hm).1, rfl, k, rfl⟩ (by simpa using hi) (by rw [sum_ones, List.length_map]; show b.length + b.length * 0 ≤ _; omega) h
theorem each_chr {b : List UInt8} {ys : List Value} (h : Each b.length (fun i v => ∃ c, b[i]? = some c ∧ ∃ t, v = Value.str (chrS c) t) ys) : StrsAre ys (b.map chrS) := strs_chr h.1 h.2
theorem fmod_toNat {d b : Int} (hb : 0 < b) : d.fmod b = ((d.fmod b).toNat : Int) := (Int.toNat_of_nonneg (Int.fmod_nonneg_of_pos d hb)).symm
theorem fmod_lt {d b : Int} (hb : 0 < b) : ((d.fmod b).toNat : Int) < b := by
  rw [← fmod_toNat hb]
  exact Int.fmod_lt_of_pos d hb
end Mine
end
-- K1
section
open PySem PySem.W PySem.Spec PySem.Calls PyProof.Rows PyProof.Rows.LCg
set_option maxRecDepth 100000
set_option maxHeartbeats 400000
set_option linter.unusedVariables false
namespace Mine
@[reducible] noncomputable def lw7 : List Stmt := by
  refine (fun (l : List Stmt) (_ : (fdB 26).drop 7 = l) => l) ?l ?h
  rotate_left
  conv => lhs; whnf
@[reducible] noncomputable def lw8 : List Stmt := by
  refine (fun (l : List Stmt) (_ : (fdB 26).drop 8 = l) => l) ?l ?h
  rotate_left
  conv => lhs; whnf
theorem r_fdivI {prog : Program} {w : World} {A : Around} {E : Value → Shared → Prop} {s : Shared} {a b : Int} {t u : Tok} {Q : Value → Shared → Prop} (hb : b ≠ 0) (hs : b.natAbs < 1073741824) (h : ∀ t' k, Q (.int (a.fdiv b) t') { s with toks := k }) : wpAny (model prog w) A (binaryOp .FloorDiv (.int a t) (.int b u)) Q E s :=
  floordiv_int hb (h _ _) (Or.inl (PyProof.noPylong_small hs))
section
set_option hygiene false in
local macro_rules | `(tactic| k_all) => `(tactic| exact hne5)
theorem ru80 : True := by
  k_with_none
  k_with "12 eval Name" => ((k_here; (first | (with_reducible show wpAny _ _ (eval (Expr.Name _ _) (envOf _ _ _ _ _)) _ _ _) | (with_reducible show wpAny _ _ (eval (Expr.Name _ _) (envOfC _ _ _ _ _)) _ _ _) | (with_reducible show wpAny _ _ (eval (Expr.Name _ _) (envX _ _ _ _ _ _)) _ _ _)); k_dflt (first
      | (refine' nameX_K ?F_0 ?X_0 ?T_0 ?e_0 ?_ ?a_0 ?b_0; (case b_0 => kernel_rfl!); (case a_0 => rfl); (case F_0 => k_asm); (case X_0 => k_asm); (case T_0 => k_asm); (case e_0 => k_is); k_whole)
      | (refine' nameX_L ?F_0 ?v_0 ?_ ?a_0 ?b_0; (case b_0 => kernel_rfl!); (case a_0 => rfl); (case F_0 => k_asm); (case v_0 => rfl); k_whole)
      | (refine' nameX_B ?F_0 ?X_0 ?T_0 ?e_0 ?v_0 ?n_0 ?_ ?a_0 ?b_0; (case b_0 => kernel_rfl!); (case a_0 => rfl); (case F_0 => k_asm); (case X_0 => k_asm); (case T_0 => k_asm); (case e_0 => k_is); (case v_0 => boot_fast); (case n_0 => decide); k_whole))))
  k_with "12 callWith ref" => ((k_here; (with_reducible show wpAny _ _ (callWith _ (Value.ref _) _ (backTo _ (starEach (_ :: _) _)) (backToKw _ _)) _ _ _); k_dflt (refine' callWith_KW ?k1_0 ?k2_0 ?k3_0 ?_; (case k1_0 => k_asm); (case k2_0 => k_is); (case k3_0 => exact rfl); k_whole)))
  k_with "2 execs cons" => ((k_here; (with_reducible show wpAny _ _ (execs (Stmt.Assign [Expr.Name (Str.ofString "pads") _] _ _ :: _) _) _ _ _); refine hold ?_))
  k_with "1 execs cons" => ((k_here; (with_reducible show wpAny _ _ (execs (Stmt.Assign [Expr.Name (Str.ofString "long") _] _ _ :: _) _) _ _ _); refine hold ?_))
  k_with "1 binaryOp FloorDiv int int" => ((k_here; k_dflt (refine r_fdivI (by decide) (by decide) ?_); intro _ _))
  k_with "2 eval Name" => ((k_here; k_dflt (refine' nameX_L ?zF_68 ?zv_68 ?_ ?za_68 ?zb_68; (case zb_68 => kernel_rfl!); (case zF_68 => k_asm); (case za_68 => rfl); (case zv_68 => first | with_reducible assumption | rfl | assumption); k_whole)))
  k_with "1 eval Name" => ((k_here; k_dflt (refine' nameX_C ?zN_68 ?zc_68 ?zm_68 ?zd_68 ?_ ?za_68 ?zb_68; (case zb_68 => kernel_rfl!); (case za_68 => rfl); (case zN_68 => k_asm); (case zc_68 => rfl); (case zm_68 => (repeat (first | with_reducible assumption | exact List.mem_cons_self | refine List.mem_cons_of_mem _ ?_))); (case zd_68 => assumption); k_whole)))
  k_with "1 binaryOp Mod int int" => ((k_here; k_dflt (refine' r_modE ?hb_68 (fmod_toNat ?hb2_68) ?_; (case hb_68 => omega); (case hb2_68 => omega)); intro _ _))
  k_with "1 binaryOp Add int int" => ((k_here; k_dflt (refine r_addN ?_); intro _ _))
  trivial
theorem segC7 (w : World) (fa : Addr) (sg : Bool) (d : Int) (td : Tok)
    (news : List (Addr × Obj))
    (dp un : Nat) (gd : Option (List Code)) (A₀ : Around) (g : Heap) (L : Addr) (h₁ : Heap) (tk : Nat) (s : Shared) (p : Program) (loose : List Str) (mean : ExcName → Option Value) (mg mb : Str → Option Value) (m : Str → Option Value) (o2 : Obj)
    (B : Below A₀ g [] g) (F : Fr g L h₁ m) (X : (K w.params).In g) (N : News g L h₁ news) (T : Top p loose mean mg mb g) (c2 : (L + 1 + 1, o2) ∈ news) (e2 : o2.data = .cell (some (.int d td)))
    (m6 : m (Str.ofString "single") = some (.bool sg))
    (hd : dp + 20 < recursionLimit) (hu : un + 300 < cLine)
    (k : ∀ h' tk' m' rounds t2, Fr g L h' m' → News g L h' news → 1 ≤ rounds → rounds ≤ 6 → m' (Str.ofString "rounds") = some (.int (rounds : Nat) t2) → (∀ x, x ≠ Str.ofString "rounds" → m' x = m x) →
      wpAny (model pw w) (ktrTop dp un gd lwN fS26 L fa (.ref 162) (cellsFrom (L + 1) fS26.names []) []) (execs lw8 (envOfC lwN fS26 L fa (.ref 162))) (EndsLaw g L s) (fun _ _ => False) { s with heap := h', toks := tk' }) :
    wpAny (model pw w) (ktrTop dp un gd lwN fS26 L fa (.ref 162) (cellsFrom (L + 1) fS26.names []) []) (execs lw7 (envOfC lwN fS26 L fa (.ref 162))) (EndsLaw g L s) (fun _ _ => False) { s with heap := h₁, toks := tk } := by
  have hr := fmod_lt (d := d) (b := 6) (by decide)
  cases sg with
  | false =>
    show wpAny _ _ _ _ _ _
    k_fold
    k_steps
    · show wpAny _ _ _ _ _ _
      rename Fr _ _ _ _ => F9
      rename News _ _ _ _ => N9
      exact k _ _ _ (1 + (d.fmod 6).toNat) _ F9 N9 (by omega) (by omega) rfl fun x hx => if_neg hx
  | true =>
    show wpAny _ _ _ _ _ _
    k_fold
    k_steps
    · show wpAny _ _ _ _ _ _
      rename Fr _ _ _ _ => F9
      rename News _ _ _ _ => N9
      exact k _ _ _ 1 _ F9 N9 (by omega) (by omega) rfl fun x hx => if_neg hx
end
end Mine
end
-- K2
section
open PySem PySem.W PySem.Spec PySem.Calls PyProof.Rows PyProof.Rows.LCg
set_option maxRecDepth 100000
set_option maxHeartbeats 400000
set_option linter.unusedVariables false
namespace Mine
theorem ru82 : True := by
  k_with_none
  k_with "12 eval Name" => ((k_here; (first | (with_reducible show wpAny _ _ (eval (Expr.Name _ _) (envOf _ _ _ _ _)) _ _ _) | (with_reducible show wpAny _ _ (eval (Expr.Name _ _) (envOfC _ _ _ _ _)) _ _ _) | (with_reducible show wpAny _ _ (eval (Expr.Name _ _) (envX _ _ _ _ _ _)) _ _ _)); k_dflt (first
      | (refine' nameX_K ?F_0 ?X_0 ?T_0 ?e_0 ?_ ?a_0 ?b_0; (case b_0 => kernel_rfl!); (case a_0 => rfl); (case F_0 => k_asm); (case X_0 => k_asm); (case T_0 => k_asm); (case e_0 => k_is); k_whole)
      | (refine' nameX_L ?F_0 ?v_0 ?_ ?a_0 ?b_0; (case b_0 => kernel_rfl!); (case a_0 => rfl); (case F_0 => k_asm); (case v_0 => rfl); k_whole)
      | (refine' nameX_B ?F_0 ?X_0 ?T_0 ?e_0 ?v_0 ?n_0 ?_ ?a_0 ?b_0; (case b_0 => kernel_rfl!); (case a_0 => rfl); (case F_0 => k_asm); (case X_0 => k_asm); (case T_0 => k_asm); (case e_0 => k_is); (case v_0 => boot_fast); (case n_0 => decide); k_whole))))
  k_with "12 callWith ref" => ((k_here; (with_reducible show wpAny _ _ (callWith _ (Value.ref _) _ (backTo _ (starEach (_ :: _) _)) (backToKw _ _)) _ _ _); k_dflt (refine' callWith_KW ?k1_0 ?k2_0 ?k3_0 ?_; (case k1_0 => k_asm); (case k2_0 => k_is); (case k3_0 => exact rfl); k_whole)))
  trivial
theorem mulOk_small {a b : Nat} (ha : a ≤ 100000) (hb : b ≤ 100000) : IntMulOk (a : Int) (b : Int) :=
  IntMulOk.of_left (bits_lt (k := 8) (Nat.lt_of_le_of_lt ha (by decide)))
theorem r_mulN {prog : Program} {w : World} {A : Around} {E : Value → Shared → Prop} {s : Shared} {a b : Nat} {t u : Tok} {Q : Value → Shared → Prop} (hs : a ≤ 100000 ∧ b ≤ 100000) (h : ∀ t' k', Q (.int ((a * b : Nat) : Int) t') { s with toks := k' }) : wpAny (model prog w) A (binaryOp .Mult (.int (a : Int) t) (.int (b : Int) u)) Q E s := by
  have hz : (a * b : Nat) ≤ 10000000000 := Nat.mul_le_mul hs.1 hs.2
  refine mul_int ?_ ?_
  · have := h s.toks (s.toks + 1)
    rwa [Int.natCast_mul] at this
  · exact mulOk_small hs.1 hs.2
theorem textS_plain (b : List UInt8) : ∀ c ∈ (textS b).cps.toList, Str.isSurrogate c = false := by rw [textS_cps]; exact chrs_plain
theorem textS_len (b : List UInt8) : (utf (textS b).cps.toList).length ≤ 4 * b.length := by rw [textS_cps]; exact text_len
theorem textS_key {b : List UInt8} {t : Tok} : KeyIs (.str (textS b) t) (utf (textS b).cps.toList) := .inr ⟨textS b, t, rfl, rfl, textS_plain b⟩
theorem r_joinSD {prog : Program} {w : World} {A : Around} {E : Value → Shared → Prop} {s : Shared} {h₀ : Heap} {L : Addr} {rest : List (Addr × Obj)} {D : Addr} {ys : List Value} {k : Nat} {b : List UInt8} {x : Str} {t : Tok} {Q : Value → Shared → Prop} (N : News h₀ L s.heap ((D, ({ cls := .type "list", data := .seq ys.toArray k } : Obj)) :: rest)) (hx : x = Str.empty) (hi : StrsAre ys (b.map chrS)) (hb : b.length ≤ 1000)
    (h : News h₀ L s.heap rest → ∀ t' k', Q (.str (textS b) t') { s with toks := k' }) : wpAny (model prog w) A (call (.builtin "str.join") [.str x t, .ref D]) Q E s :=
  r_joinS hx N (List.Mem.head _) hi hb (h (news_sub N fun p hp => List.Mem.tail _ hp))
section
set_option hygiene false in
local macro_rules | `(tactic| k_all) => `(tactic| exact hne5)
theorem ru81 : True := by
  k_with_none
  k_with "12 eval Name" => ((k_here; (first | (with_reducible show wpAny _ _ (eval (Expr.Name _ _) (envOf _ _ _ _ _)) _ _ _) | (with_reducible show wpAny _ _ (eval (Expr.Name _ _) (envOfC _ _ _ _ _)) _ _ _) | (with_reducible show wpAny _ _ (eval (Expr.Name _ _) (envX _ _ _ _ _ _)) _ _ _)); k_dflt (first
      | (refine' nameX_K ?F_0 ?X_0 ?T_0 ?e_0 ?_ ?a_0 ?b_0; (case b_0 => kernel_rfl!); (case a_0 => rfl); (case F_0 => k_asm); (case X_0 => k_asm); (case T_0 => k_asm); (case e_0 => k_is); k_whole)
      | (refine' nameX_L ?F_0 ?v_0 ?_ ?a_0 ?b_0; (case b_0 => kernel_rfl!); (case a_0 => rfl); (case F_0 => k_asm); (case v_0 => rfl); k_whole)
      | (refine' nameX_B ?F_0 ?X_0 ?T_0 ?e_0 ?v_0 ?n_0 ?_ ?a_0 ?b_0; (case b_0 => kernel_rfl!); (case a_0 => rfl); (case F_0 => k_asm); (case X_0 => k_asm); (case T_0 => k_asm); (case e_0 => k_is); (case v_0 => boot_fast); (case n_0 => decide); k_whole))))
  k_with "12 callWith ref" => ((k_here; (with_reducible show wpAny _ _ (callWith _ (Value.ref _) _ (backTo _ (starEach (_ :: _) _)) (backToKw _ _)) _ _ _); k_dflt (refine' callWith_KW ?k1_0 ?k2_0 ?k3_0 ?_; (case k1_0 => k_asm); (case k2_0 => k_is); (case k3_0 => exact rfl); k_whole)))
  k_with "1 execs cons" => ((k_here; (with_reducible show wpAny _ _ (execs (Stmt.Assign [Expr.Name (Str.ofString "pads") _] _ _ :: _) _) _ _ _); refine hold ?_))
  k_with "1 binaryOp FloorDiv int int" => ((k_here; k_dflt (refine r_fdivI (by decide) (by decide) ?_); intro _ _))
  k_with "2 eval Name" => ((k_here; k_dflt (refine' nameX_L ?zF_69 ?zv_69 ?_ ?za_69 ?zb_69; (case zb_69 => kernel_rfl!); (case zF_69 => k_asm); (case za_69 => rfl); (case zv_69 => first | with_reducible assumption | rfl | assumption); k_whole)))
  k_with "1 eval Name" => ((k_here; k_dflt (refine' nameX_C ?zN_69 ?zc_69 ?zm_69 ?zd_69 ?_ ?za_69 ?zb_69; (case zb_69 => kernel_rfl!); (case za_69 => rfl); (case zN_69 => k_asm); (case zc_69 => rfl); (case zm_69 => (repeat (first | with_reducible assumption | exact List.mem_cons_self | refine List.mem_cons_of_mem _ ?_))); (case zd_69 => assumption); k_whole)))
  k_with "1 binaryOp Mod int int" => ((k_here; k_dflt (refine' r_modE ?hb_69 (fmod_toNat ?hb2_69) ?_; (case hb_69 => omega); (case hb2_69 => omega)); intro _ _))
  k_with "1 binaryOp Add int int" => ((k_here; first
  | ((with_reducible show wpAny _ _ (binaryOp _ (Value.int 1 _) _) _ _ _); k_dflt (refine r_addN (a := 1) ?_); intro _ _)
  | ((with_reducible show wpAny _ _ (binaryOp _ (Value.int 31 _) _) _ _ _); k_dflt (refine r_addN (a := 31) ?_); intro _ _)
  | ((with_reducible show wpAny _ _ (binaryOp _ _ (Value.int 3 _)) _ _ _); k_dflt (refine r_addN (b := 3) ?_); intro _ _)
  | ((with_reducible show wpAny _ _ (binaryOp _ _ (Value.int 1 _)) _ _ _); k_dflt (refine r_addN (b := 1) ?_); intro _ _)))
  k_with "1 binaryOp Mult int int" => ((k_here; first
  | ((with_reducible show wpAny _ _ (binaryOp _ (Value.int 4 _) _) _ _ _); k_dflt (refine' r_mulN (a := 4) ?hm_69 ?_; (case hm_69 => omega)); intro _ _)
  | ((with_reducible show wpAny _ _ (binaryOp _ _ (Value.int 9 _)) _ _ _); k_dflt (refine' r_mulN (b := 9) ?hm_69 ?_; (case hm_69 => omega)); intro _ _)))
  k_with "1 eval ListComp" => ((k_here; (with_reducible show wpAny _ _ (eval (Expr.ListComp (Expr.Call _ _ _ _) _ _ _) _) _ _ _); k_dflt (refine listComp_b (F₀ := by k_asm) (by with_unfolding_all rfl) (by decide) (by rfl) (by decide) (by rfl) ?_)))
  k_with "1 CompB" => ((k_here; k_dflt (refine' comp_bY (fun c v => ∃ t, v = Value.str (chrS c) t) ?hh_69 ?F_69 ?N_69 ?sz_69 (fun c9 t9 I9 oI9 C9 oC9 D9 oD9 m9 h9 tk9 E9 hc9 hC9 hx9 F9 N9 off9 ne9 => ?_) (fun g9 ys9 hI9 D9 h9 tk9 F9 N9 o9 => ?_)); (case hh_69 => rfl); (case F_69 => k_asm); (case N_69 => k_asm); (case sz_69 => (rw [PySem.sizeLine_eq]; omega)); (first | (have hc8 := c9.toNat_lt) | skip)))
  k_with "1 call builtin:chr" => ((k_here; k_dflt (refine' chr_of_range ?a_69 ?b_69 ?_; (case a_69 => omega); (case b_69 => omega))))
  k_with "1 EltEnd" => ((refine elt_end (by k_asm) (by k_asm) (fun p hp => hp) ⟨_, rfl⟩))
  k_with "1 call builtin:str.join" => ((k_here; (rename News _ _ _ _ => oN9); k_dflt (refine r_joinSD oN9 (by rfl) (each_chr (by assumption)) (by omega) ?_); intro N9 t9 k9; clear oN9))
  k_with "1 getMethod str" => ((k_here; (with_reducible refine m_encode ?_)))
  k_with "1 call builtin:str.encode" => ((k_here; k_dflt (refine r_encode (textS_plain _) (Nat.le_trans (textS_len _) (by omega)) ?_); intro t9 k9))
  trivial
theorem segC8 (w : World) (ra fa : Addr) (sg : Bool) (a d : Int) (S0 T0 : List UInt8) (size : Nat) (ta td ts tt tz : Tok) (h1 : 1 ≤ size) (h2 : size ≤ 32) (hS : S0.length ≤ 70) (hT : T0.length ≤ 70)
    (R : List (Addr × Obj))
    (dp un : Nat) (gd : Option (List Code)) (A₀ : Around) (g : Heap) (L : Addr) (h₁ : Heap) (tk : Nat) (s : Shared) (p : Program) (loose : List Str) (mean : ExcName → Option Value) (mg mb : Str → Option Value) (m : Str → Option Value) (o2 o5 o7 : Obj)
    (B : Below A₀ g [] g) (F : Fr g L h₁ m) (X : (K w.params).In g) (N : News g L h₁ ((L + 1 + 1 + 1 + 1 + 1, o5) :: R)) (T : Top p loose mean mg mb g) (c2 : (L + 1 + 1, o2) ∈ R) (e2 : o2.data = .cell (some (.int d td)))
    (e5 : o5.data = .cell (some (.bytes T0.toArray tt))) (c7 : (L + 1 + 1 + 1 + 1 + 1 + 1 + 1, o7) ∈ R) (e7 : o7.data = .cell (some (.int (size : Int) tz)))
    (hne5 : ∀ p ∈ R, p.1 ≠ L + 1 + 1 + 1 + 1 + 1)
    (m1 : m (Str.ofString "a") = some (.int a ta)) (m3 : m (Str.ofString "secret") = some (.bytes S0.toArray ts)) (m6 : m (Str.ofString "single") = some (.bool sg)) (rounds : Nat) (t2 : Tok) (hr1 : 1 ≤ rounds) (hr2 : rounds ≤ 6) (m7 : m (Str.ofString "rounds") = some (.int (rounds : Nat) t2))
    (hd : dp + 20 < recursionLimit) (hu : un + 300 < cLine)
    (k : ∀ h' tk' m' av bv secret salt long short o5' t1 t2 t3 t4 t5, Fr g L h' m' → News g L h' ((L + 1 + 1 + 1 + 1 + 1, o5') :: R) → KeyIs av secret → KeyIs bv salt → secret.length ≤ 300 → salt.length ≤ 300 → 1 ≤ long → long ≤ 200 → short ≤ size →
      m' (Str.ofString "asked") = some av → m' (Str.ofString "salted") = some bv → m' (Str.ofString "secret") = some (.bytes secret.toArray t1) → m' (Str.ofString "rounds") = some (.int (rounds : Nat) t2) → m' (Str.ofString "long") = some (.int (long : Nat) t3) → m' (Str.ofString "short") = some (.int (short : Nat) t4) →
      o5'.data = .cell (some (.bytes salt.toArray t5)) → m' (Str.ofString "single") = some (.bool sg) → m' (Str.ofString "block") = m (Str.ofString "block") →
      wpAny (model pw w) (ktrTop dp un gd lwN fS26 L fa (.ref 162) (cellsFrom (L + 1) fS26.names []) []) (execs lw12 (envOfC lwN fS26 L fa (.ref 162))) (EndsLaw g L s) (fun _ _ => False) { s with heap := h', toks := tk' }) :
    wpAny (model pw w) (ktrTop dp un gd lwN fS26 L fa (.ref 162) (cellsFrom (L + 1) fS26.names []) []) (execs lw8 (envOfC lwN fS26 L fa (.ref 162))) (EndsLaw g L s) (fun _ _ => False) { s with heap := h₁, toks := tk } := by
  have hlo := fmod_lt (d := d.fdiv 6) (b := ((4 * size + 3 : Nat) : Int)) (by omega)
  have hsh := fmod_lt (d := d.fdiv 6) (b := ((size + 1 : Nat) : Int)) (by omega)
  show wpAny _ _ _ _ _ _
  k_fold
  k_steps
  · show wpAny _ _ _ _ _ _
    rename Fr _ _ _ _ => F9
    rename News _ _ _ _ => N9
    have q1 := textS_len S0
    have q2 := textS_len T0
    exact k _ _ _ _ _ (utf (textS S0).cps.toList) (utf (textS T0).cps.toList) (1 + ((d.fdiv 6).fmod ((4 * size + 3 : Nat) : Int)).toNat) ((d.fdiv 6).fmod ((size + 1 : Nat) : Int)).toNat _ _ _ _ _ _ F9 (news_sub N9 fun p hp => List.Mem.tail _ (List.Mem.tail _ hp)) textS_key textS_key (by omega) (by omega) (by omega) (by omega) (by omega) rfl rfl rfl m7 rfl rfl (by assumption) m6 rfl
  · show wpAny _ _ _ _ _ _
    rename Fr _ _ _ _ => F9
    rename News _ _ _ _ => N9
    exact k _ _ _ _ _ S0 T0 (1 + ((d.fdiv 6).fmod ((4 * size + 3 : Nat) : Int)).toNat) ((d.fdiv 6).fmod ((size + 1 : Nat) : Int)).toNat o5 _ _ _ _ _ F9 (news_sub N9 fun p hp => List.Mem.tail _ hp) key_b key_b (by omega) (by omega) (by omega) (by omega) (by omega) rfl rfl m3 m7 rfl rfl e5 m6 rfl
end
end Mine
end
-- K3
section
open PySem PySem.W PySem.Spec PySem.Calls PyProof.Rows PyProof.Rows.LCg
set_option maxRecDepth 100000
set_option maxHeartbeats 400000
set_option linter.unusedVariables false
namespace Mine
theorem ru83 : True := by
  k_with_none
  k_with "12 eval Name" => ((k_here; (first | (with_reducible show wpAny _ _ (eval (Expr.Name _ _) (envOf _ _ _ _ _)) _ _ _) | (with_reducible show wpAny _ _ (eval (Expr.Name _ _) (envOfC _ _ _ _ _)) _ _ _) | (with_reducible show wpAny _ _ (eval (Expr.Name _ _) (envX _ _ _ _ _ _)) _ _ _)); k_dflt (first
      | (refine' nameX_K ?F_0 ?X_0 ?T_0 ?e_0 ?_ ?a_0 ?b_0; (case b_0 => kernel_rfl!); (case a_0 => rfl); (case F_0 => k_asm); (case X_0 => k_asm); (case T_0 => k_asm); (case e_0 => k_is); k_whole)
      | (refine' nameX_L ?F_0 ?v_0 ?_ ?a_0 ?b_0; (case b_0 => kernel_rfl!); (case a_0 => rfl); (case F_0 => k_asm); (case v_0 => rfl); k_whole)
      | (refine' nameX_B ?F_0 ?X_0 ?T_0 ?e_0 ?v_0 ?n_0 ?_ ?a_0 ?b_0; (case b_0 => kernel_rfl!); (case a_0 => rfl); (case F_0 => k_asm); (case X_0 => k_asm); (case T_0 => k_asm); (case e_0 => k_is); (case v_0 => boot_fast); (case n_0 => decide); k_whole))))
  k_with "12 callWith ref" => ((k_here; (with_reducible show wpAny _ _ (callWith _ (Value.ref _) _ (backTo _ (starEach (_ :: _) _)) (backToKw _ _)) _ _ _); k_dflt (refine' callWith_KW ?k1_0 ?k2_0 ?k3_0 ?_; (case k1_0 => k_asm); (case k2_0 => k_is); (case k3_0 => exact rfl); k_whole)))
  trivial
noncomputable def octAt (i : Nat) (v : Value) : Prop := ∃ (c : UInt8) (t : Tok), v = .int (c.toNat : Int) t
theorem octs_of : ∀ {n : Nat} {ys : List Value}, ys.length = n → (∀ (i : Nat) (v : Value), ys[i]? = some v → octAt i v) → ∃ S : List UInt8, S.length = n ∧ IntsAre ys (S.map oct)
  | 0, [], _, _ => ⟨[], rfl, .nil⟩
  | n + 1, y :: ys, hl, h => by
    obtain ⟨c, t, rfl⟩ := h 0 y rfl
    obtain ⟨S, hS, hi⟩ := octs_of (n := n) (ys := ys) (by simpa using hl) fun i v hv => by
      obtain ⟨c', t', e⟩ := h (i + 1) v hv
      exact ⟨c', t', e⟩
    exact ⟨c :: S, by rw [List.length_cons, hS], .cons _ t hi⟩
theorem ints_get : ∀ {vs : List Value} {rs : List Int}, IntsAre vs rs → ∀ {j : Nat}, j < vs.length → ∃ n t, vs[j]? = some (Value.int n t)
  | _, _, .cons n t r, 0, _ => ⟨n, t, rfl⟩
  | _, _, .cons n t r, j + 1, h => by
    obtain ⟨n', t', e⟩ := ints_get r (j := j) (by simpa using h)
    exact ⟨n', t', by simpa using e⟩
section
variable {prog : Program} {w : World} {A : Around} {E : Value → Shared → Prop} {s : Shared} {h₀ : Heap} {L : Addr} {news : List (Addr × Obj)} {l : Addr} {vs : List Value} {rs : List Int} {k : Nat}
theorem r_truthL {Q : Bool → Shared → Prop} (N : News h₀ L s.heap news) (hm : (l, ({ cls := .type "list", data := .seq vs.toArray k } : Obj)) ∈ news) (hz : vs.length ≤ 1000) (hne : vs.length ≠ 0) (h : ∀ k', Q true { s with toks := k' }) : wpAny (model prog w) A (truthy (.ref l)) Q E s := by
  refine wpAny_truthy_list ⟨_, (N _ hm).1, rfl, k, rfl⟩ (by rw [List.size_toArray]; omega) ?_
  have e : (!vs.toArray.isEmpty) = true := by
    cases vs with
    | nil => exact absurd rfl hne
    | cons => rfl
  rw [e]
  exact h _
theorem r_truthN {Q : Bool → Shared → Prop} (N : News h₀ L s.heap news) (hm : (l, ({ cls := .type "list", data := .seq vs.toArray k } : Obj)) ∈ news) (hz : vs.length = 0) (h : ∀ k', Q false { s with toks := k' }) : wpAny (model prog w) A (truthy (.ref l)) Q E s := by
  refine wpAny_truthy_list ⟨_, (N _ hm).1, rfl, k, rfl⟩ (by rw [List.size_toArray]; omega) ?_
  have e : (!vs.toArray.isEmpty) = false := by
    cases vs with
    | nil => rfl
    | cons => cases hz
  rw [e]
  exact h _
theorem r_lenL {Q : Value → Shared → Prop} (N : News h₀ L s.heap news) (hm : (l, ({ cls := .type "list", data := .seq vs.toArray k } : Obj)) ∈ news) (hz : vs.length ≤ 1000) (h : ∀ t' k', Q (.int ((vs.length : Nat) : Int) t') { s with toks := k' }) : wpAny (model prog w) A (call (.builtin "len") [.ref l]) Q E s := by
  refine Calls.call_len_list ⟨_, (N _ hm).1, rfl, k, rfl⟩ (by rw [List.size_toArray]; omega) ?_
  rw [List.size_toArray]
  exact h _ _
theorem r_itemL {value slice : PySem.Expr} {j : Nat} {u : Tok} {Q : Value → Shared → Prop} (N : News h₀ L s.heap news) (hm : (l, ({ cls := .type "list", data := .seq vs.toArray k } : Obj)) ∈ news) (hi : IntsAre vs rs) (hj : j < vs.length) (hz : vs.length ≤ 1000)
    (hs : subscripted slice false (.ref l) (.int (j : Int) u) = operate [.ref l, .int (j : Int) u] (getItem (.ref l) (.int (j : Int) u))) (h : ∀ n t, Q (.int n t) s) : wpAny (model prog w) A (subscriptTail value slice (.ref l) (.int (j : Int) u)) Q E s := by
  obtain ⟨n, t, e⟩ := ints_get hi hj
  have hl : s.heap.IsList l vs.toArray := ⟨_, (N _ hm).1, rfl, k, rfl⟩
  exact tail_any hl.typeIs slot_list_getitem.lookup (wpAny_getItem_list hl (by omega) (by omega) (by simpa using e) (h n t)) hs
end
end Mine
end
-- K4
section
open PySem PySem.W PySem.Spec PySem.Calls PyProof.Rows PyProof.Rows.LCg
set_option maxRecDepth 100000
set_option maxHeartbeats 400000
set_option linter.unusedVariables false
namespace Mine
@[reducible] noncomputable def lw5 : List Stmt := by
  refine (fun (l : List Stmt) (_ : (fdB 26).drop 5 = l) => l) ?l ?h
  rotate_left
  conv => lhs; whnf
@[reducible] noncomputable def lw6 : List Stmt := by
  refine (fun (l : List Stmt) (_ : (fdB 26).drop 6 = l) => l) ?l ?h
  rotate_left
  conv => lhs; whnf
theorem oct_of {x : Int} : ∃ c : UInt8, (((x.fmod 256).toNat : Nat) : Int) = (c.toNat : Int) := by
  have h := fmod_lt (d := x) (b := 256) (by decide)
  refine ⟨UInt8.ofNat (x.fmod 256).toNat, ?_⟩
  rw [UInt8.toNat_ofNat']
  omega
section
theorem ru84 : True := by
  k_with_none
  k_with "12 eval Name" => ((k_here; (first | (with_reducible show wpAny _ _ (eval (Expr.Name _ _) (envOf _ _ _ _ _)) _ _ _) | (with_reducible show wpAny _ _ (eval (Expr.Name _ _) (envOfC _ _ _ _ _)) _ _ _) | (with_reducible show wpAny _ _ (eval (Expr.Name _ _) (envX _ _ _ _ _ _)) _ _ _)); k_dflt (first
      | (refine' nameX_K ?F_0 ?X_0 ?T_0 ?e_0 ?_ ?a_0 ?b_0; (case b_0 => kernel_rfl!); (case a_0 => rfl); (case F_0 => k_asm); (case X_0 => k_asm); (case T_0 => k_asm); (case e_0 => k_is); k_whole)
      | (refine' nameX_L ?F_0 ?v_0 ?_ ?a_0 ?b_0; (case b_0 => kernel_rfl!); (case a_0 => rfl); (case F_0 => k_asm); (case v_0 => rfl); k_whole)
      | (refine' nameX_B ?F_0 ?X_0 ?T_0 ?e_0 ?v_0 ?n_0 ?_ ?a_0 ?b_0; (case b_0 => kernel_rfl!); (case a_0 => rfl); (case F_0 => k_asm); (case X_0 => k_asm); (case T_0 => k_asm); (case e_0 => k_is); (case v_0 => boot_fast); (case n_0 => decide); k_whole))))
  k_with "12 callWith ref" => ((k_here; (with_reducible show wpAny _ _ (callWith _ (Value.ref _) _ (backTo _ (starEach (_ :: _) _)) (backToKw _ _)) _ _ _); k_dflt (refine' callWith_KW ?k1_0 ?k2_0 ?k3_0 ?_; (case k1_0 => k_asm); (case k2_0 => k_is); (case k3_0 => exact rfl); k_whole)))
  k_with "1 execs cons" => ((k_here; (with_reducible show wpAny _ _ (execs (Stmt.Assign [Expr.Name (Str.ofString "salt") _] _ _ :: _) _) _ _ _); refine hold ?_))
  k_with "3 eval Name" => ((k_here; k_dflt (refine' nameX_L ?zF_71 ?zv_71 ?_ ?za_71 ?zb_71; (case zb_71 => kernel_rfl!); (case zF_71 => k_asm); (case za_71 => rfl); (case zv_71 => first | with_reducible assumption | rfl | assumption); k_whole)))
  k_with "2 eval Name" => ((k_here; k_dflt (refine' nameX_C ?zN_71 ?zc_71 ?zm_71 ?zd_71 ?_ ?za_71 ?zb_71; (case zb_71 => kernel_rfl!); (case za_71 => rfl); (case zN_71 => k_asm); (case zc_71 => rfl); (case zm_71 => (repeat (first | with_reducible assumption | refine List.mem_cons_of_mem _ ?_))); (case zd_71 => assumption); k_whole)))
  k_with "1 eval Name" => ((k_here; (with_reducible show wpAny _ _ (eval (Expr.Name _ _) (compEnvC _ _ _ _)) _ _ _); k_dflt (refine kcf_cell (by k_asm) (by rfl) (by (repeat (first | with_reducible assumption | refine List.mem_cons_of_mem _ ?_))) (by assumption) ?_)))
  k_with "1 truthy ref" => ((k_here; k_dflt (first | (refine r_truthL (by k_asm) (by (repeat (first | with_reducible assumption | refine List.mem_cons_of_mem _ ?_))) (by assumption) (by assumption) ?_; intro _) | (refine r_truthN (by k_asm) (by (repeat (first | with_reducible assumption | refine List.mem_cons_of_mem _ ?_))) (by assumption) ?_; intro _))))
  k_with "1 call builtin:len" => ((k_here; (with_reducible show wpAny _ _ (call (Value.builtin "len") [Value.ref _]) _ _ _); k_dflt (refine r_lenL (by k_asm) (by (repeat (first | with_reducible assumption | refine List.mem_cons_of_mem _ ?_))) (by assumption) ?_); intro _ _))
  k_with "1 subscriptTail" => ((k_here; (with_reducible show wpAny _ _ (subscriptTail _ _ (Value.ref _) (Value.int _ _)) _ _ _); k_dflt (refine r_itemL (by k_asm) (by (repeat (first | with_reducible assumption | refine List.mem_cons_of_mem _ ?_))) (by assumption) (Nat.mod_lt _ (by omega)) (by assumption) (by with_unfolding_all rfl) ?_); intro _ _))
  k_with "1 binaryOp Mod int int" => ((k_here; first
  | ((with_reducible show wpAny _ _ (binaryOp _ _ (Value.int 256 _)) _ _ _); k_dflt (refine r_modE (by decide) (fmod_toNat (by decide)) ?_); intro _ _)
  | ((with_reducible show wpAny _ _ (binaryOp _ _ (Value.int 70 _)) _ _ _); k_dflt (refine r_modE (by decide) (fmod_toNat (by decide)) ?_); intro _ _)
  | (k_dflt (refine r_mod (by omega) ?_); intro _ _)))
  k_with "1 CompSrc" => ((k_here; k_dflt (refine' comp_ry (n := (b.fmod 70).toNat) octAt ?hh_71 ?F_71 ?N_71 ?hr_71 ?hsm_71 ?hn_71 ?sz_71 (fun i9 t9 I9 oI9 C9 oC9 D9 oD9 m9 h9 tk9 E9 hi9 hC9 hx9 F9 N9 off9 ne9 => ?_) (fun g9 ys9 hI9 D9 h9 tk9 F9 N9 o9 => ?_); (case hh_71 => rfl); (case F_71 => k_asm); (case N_71 => k_asm); (case hr_71 => assumption); (case hsm_71 => exact small_one (by omega) (by omega) (by omega) (by omega)); (case hn_71 => (rw [rangeSize_nat]; omega)); (case sz_71 => (rw [PySem.sizeLine_eq]; omega)); (first | rw [Int.zero_add] at hx9 | skip))))
  k_with "1 EltEnd" => ((refine elt_end (by k_asm) (by k_asm) (fun p hp => hp) (oct_of.imp fun c hc => ⟨_, by rw [hc]⟩)))
  k_with "1 call type:bytes" => ((k_here; (obtain ⟨S9, hS9, hi9⟩ := octs_of hI9.1 hI9.2); k_dflt (refine r_bytesD (by rfl) (by k_asm) (by k_asm) hi9 rfl (by (rw [PySem.sizeLine_eq]; omega)) ?_); intro h9 t9 k9 F9 N9))
  trivial
theorem segB5 (w : World) (fa rl : Addr) (b : Int) (tb : Tok) (vs : List Value) (rs : List Int) (kk : Nat) (hI : IntsAre vs rs) (hv : vs.length ≤ 1000)
    (news : List (Addr × Obj)) (HL : (rl, ({ cls := .type "list", data := .seq vs.toArray kk } : Obj)) ∈ news)
    (dp un : Nat) (gd : Option (List Code)) (A₀ : Around) (g : Heap) (L : Addr) (h₁ : Heap) (tk : Nat) (s : Shared) (p : Program) (loose : List Str) (mean : ExcName → Option Value) (mg mb : Str → Option Value) (m : Str → Option Value) (o3 : Obj)
    (B : Below A₀ g [] g) (F : Fr g L h₁ m) (X : (K w.params).In g) (N : News g L h₁ news) (T : Top p loose mean mg mb g) (c3 : (L + 1 + 1 + 1, o3) ∈ news) (e3 : o3.data = .cell (some (.ref rl)))
    (m2 : m (Str.ofString "b") = some (.int b tb))
    (hd : dp + 20 < recursionLimit) (hu : un + 300 < cLine)
    (k : ∀ h' tk' m' S0 t', Fr g L h' m' → News g L h' news → S0.length ≤ 70 → m' (Str.ofString "secret") = some (.bytes (List.toArray S0) t') → (∀ x, x ≠ Str.ofString "secret" → m' x = m x) →
      wpAny (model pw w) (ktrTop dp un gd lwN fS26 L fa (.ref 162) (cellsFrom (L + 1) fS26.names []) []) (execs lw6 (envOfC lwN fS26 L fa (.ref 162))) (EndsLaw g L s) (fun _ _ => False) { s with heap := h', toks := tk' }) :
    wpAny (model pw w) (ktrTop dp un gd lwN fS26 L fa (.ref 162) (cellsFrom (L + 1) fS26.names []) []) (execs lw5 (envOfC lwN fS26 L fa (.ref 162))) (EndsLaw g L s) (fun _ _ => False) { s with heap := h₁, toks := tk } := by
  have hb := fmod_lt (d := b) (b := 70) (by decide)
  by_cases hz : vs.length = 0
  all_goals (
    show wpAny _ _ _ _ _ _
    k_fold
    k_steps)
  all_goals (
    show wpAny _ _ _ _ _ _
    rename Fr _ _ _ _ => F8
    rename News _ _ _ _ => N8
    exact k _ _ _ S9 _ F8 N8 (by omega) rfl fun x hx => if_neg hx)
end
end Mine
end
-- K5
section
open PySem PySem.W PySem.Spec PySem.Calls PyProof.Rows PyProof.Rows.LCg
set_option maxRecDepth 100000
set_option maxHeartbeats 400000
set_option linter.unusedVariables false
namespace Mine
theorem ru86 : True := by
  k_with_none
  k_with "12 eval Name" => ((k_here; (first | (with_reducible show wpAny _ _ (eval (Expr.Name _ _) (envOf _ _ _ _ _)) _ _ _) | (with_reducible show wpAny _ _ (eval (Expr.Name _ _) (envOfC _ _ _ _ _)) _ _ _) | (with_reducible show wpAny _ _ (eval (Expr.Name _ _) (envX _ _ _ _ _ _)) _ _ _)); k_dflt (first
      | (refine' nameX_K ?F_0 ?X_0 ?T_0 ?e_0 ?_ ?a_0 ?b_0; (case b_0 => kernel_rfl!); (case a_0 => rfl); (case F_0 => k_asm); (case X_0 => k_asm); (case T_0 => k_asm); (case e_0 => k_is); k_whole)
      | (refine' nameX_L ?F_0 ?v_0 ?_ ?a_0 ?b_0; (case b_0 => kernel_rfl!); (case a_0 => rfl); (case F_0 => k_asm); (case v_0 => rfl); k_whole)
      | (refine' nameX_B ?F_0 ?X_0 ?T_0 ?e_0 ?v_0 ?n_0 ?_ ?a_0 ?b_0; (case b_0 => kernel_rfl!); (case a_0 => rfl); (case F_0 => k_asm); (case X_0 => k_asm); (case T_0 => k_asm); (case e_0 => k_is); (case v_0 => boot_fast); (case n_0 => decide); k_whole))))
  k_with "12 callWith ref" => ((k_here; (with_reducible show wpAny _ _ (callWith _ (Value.ref _) _ (backTo _ (starEach (_ :: _) _)) (backToKw _ _)) _ _ _); k_dflt (refine' callWith_KW ?k1_0 ?k2_0 ?k3_0 ?_; (case k1_0 => k_asm); (case k2_0 => k_is); (case k3_0 => exact rfl); k_whole)))
  trivial
theorem r_itemB {prog : Program} {w : World} {A : Around} {E : Value → Shared → Prop} {s : Shared} {h₀ : Heap} {L : Addr} {news : List (Addr × Obj)} {l : Addr} {vs : List Value} {rs : List Int} {k : Nat} {value slice : PySem.Expr} {j : Nat} {i : Int} {u : Tok} {Q : Value → Shared → Prop} (N : News h₀ L s.heap news) (hm : (l, ({ cls := .type "list", data := .seq vs.toArray k } : Obj)) ∈ news) (hi : IntsAre vs rs) (hj : j < vs.length) (hz : vs.length ≤ 1000) (he : i = -1 - (j : Int))
    (hs : subscripted slice false (.ref l) (.int i u) = operate [.ref l, .int i u] (getItem (.ref l) (.int i u))) (h : ∀ n t, Q (.int n t) s) : wpAny (model prog w) A (subscriptTail value slice (.ref l) (.int i u)) Q E s := by
  subst he
  obtain ⟨n, t, e⟩ := ints_get hi (j := vs.length - 1 - j) (by omega)
  have hl : s.heap.IsList l vs.toArray := ⟨_, (N _ hm).1, rfl, k, rfl⟩
  refine tail_any hl.typeIs slot_list_getitem.lookup (wpAny_getItem_list_neg hl (by omega) (by rw [List.size_toArray]; omega) (by omega) ?_ (h n t)) hs
  rw [List.size_toArray, show (-1 - (j : Int) + (vs.length : Int)).toNat = vs.length - 1 - j by omega]
  simpa using e
section
set_option hygiene false in
local macro_rules | `(tactic| k_all) => `(tactic| exact hne5)
theorem ru85 : True := by
  k_with_none
  k_with "12 eval Name" => ((k_here; (first | (with_reducible show wpAny _ _ (eval (Expr.Name _ _) (envOf _ _ _ _ _)) _ _ _) | (with_reducible show wpAny _ _ (eval (Expr.Name _ _) (envOfC _ _ _ _ _)) _ _ _) | (with_reducible show wpAny _ _ (eval (Expr.Name _ _) (envX _ _ _ _ _ _)) _ _ _)); k_dflt (first
      | (refine' nameX_K ?F_0 ?X_0 ?T_0 ?e_0 ?_ ?a_0 ?b_0; (case b_0 => kernel_rfl!); (case a_0 => rfl); (case F_0 => k_asm); (case X_0 => k_asm); (case T_0 => k_asm); (case e_0 => k_is); k_whole)
      | (refine' nameX_L ?F_0 ?v_0 ?_ ?a_0 ?b_0; (case b_0 => kernel_rfl!); (case a_0 => rfl); (case F_0 => k_asm); (case v_0 => rfl); k_whole)
      | (refine' nameX_B ?F_0 ?X_0 ?T_0 ?e_0 ?v_0 ?n_0 ?_ ?a_0 ?b_0; (case b_0 => kernel_rfl!); (case a_0 => rfl); (case F_0 => k_asm); (case X_0 => k_asm); (case T_0 => k_asm); (case e_0 => k_is); (case v_0 => boot_fast); (case n_0 => decide); k_whole))))
  k_with "12 callWith ref" => ((k_here; (with_reducible show wpAny _ _ (callWith _ (Value.ref _) _ (backTo _ (starEach (_ :: _) _)) (backToKw _ _)) _ _ _); k_dflt (refine' callWith_KW ?k1_0 ?k2_0 ?k3_0 ?_; (case k1_0 => k_asm); (case k2_0 => k_is); (case k3_0 => exact rfl); k_whole)))
  k_with "1 execs cons" => ((k_here; (with_reducible show wpAny _ _ (execs (Stmt.Assign [Expr.Name (Str.ofString "rounds") _] _ _ :: _) _) _ _ _); refine hold ?_))
  k_with "3 eval Name" => ((k_here; k_dflt (refine' nameX_L ?zF_72 ?zv_72 ?_ ?za_72 ?zb_72; (case zb_72 => kernel_rfl!); (case zF_72 => k_asm); (case za_72 => rfl); (case zv_72 => first | with_reducible assumption | rfl | assumption); k_whole)))
  k_with "2 eval Name" => ((k_here; k_dflt (refine' nameX_C ?zN_72 ?zc_72 ?zm_72 ?zd_72 ?_ ?za_72 ?zb_72; (case zb_72 => kernel_rfl!); (case za_72 => rfl); (case zN_72 => k_asm); (case zc_72 => rfl); (case zm_72 => (repeat (first | with_reducible assumption | refine List.mem_cons_of_mem _ ?_))); (case zd_72 => assumption); k_whole)))
  k_with "1 eval Name" => ((k_here; (with_reducible show wpAny _ _ (eval (Expr.Name _ _) (compEnvC _ _ _ _)) _ _ _); k_dflt (refine kcf_cell (by k_asm) (by rfl) (by (repeat (first | with_reducible assumption | refine List.mem_cons_of_mem _ ?_))) (by assumption) ?_)))
  k_with "1 truthy ref" => ((k_here; k_dflt (first | (refine r_truthL (by k_asm) (by (repeat (first | with_reducible assumption | refine List.mem_cons_of_mem _ ?_))) (by assumption) (by assumption) ?_; intro _) | (refine r_truthN (by k_asm) (by (repeat (first | with_reducible assumption | refine List.mem_cons_of_mem _ ?_))) (by assumption) ?_; intro _))))
  k_with "1 call builtin:len" => ((k_here; (with_reducible show wpAny _ _ (call (Value.builtin "len") [Value.ref _]) _ _ _); k_dflt (refine r_lenL (by k_asm) (by (repeat (first | with_reducible assumption | refine List.mem_cons_of_mem _ ?_))) (by assumption) ?_); intro _ _))
  k_with "1 subscriptTail" => ((k_here; (with_reducible show wpAny _ _ (subscriptTail _ _ (Value.ref _) (Value.int _ _)) _ _ _); k_dflt (refine r_itemB (by k_asm) (by (repeat (first | with_reducible assumption | refine List.mem_cons_of_mem _ ?_))) (by assumption) (Nat.mod_lt _ (by omega)) (by assumption) rfl (by with_unfolding_all rfl) ?_); intro _ _))
  k_with "1 binaryOp Mod int int" => ((k_here; first
  | ((with_reducible show wpAny _ _ (binaryOp _ _ (Value.int 256 _)) _ _ _); k_dflt (refine r_modE (by decide) (fmod_toNat (by decide)) ?_); intro _ _)
  | ((with_reducible show wpAny _ _ (binaryOp _ _ (Value.int 20 _)) _ _ _); k_dflt (refine r_modE (by decide) (fmod_toNat (by decide)) ?_); intro _ _)
  | (k_dflt (refine r_mod (by omega) ?_); intro _ _)))
  k_with "1 CompSrc" => ((k_here; k_dflt (refine' comp_ry (n := (b.fmod 20).toNat) octAt ?hh_72 ?F_72 ?N_72 ?hr_72 ?hsm_72 ?hn_72 ?sz_72 (fun i9 t9 I9 oI9 C9 oC9 D9 oD9 m9 h9 tk9 E9 hi9 hC9 hx9 F9 N9 off9 ne9 => ?_) (fun g9 ys9 hI9 D9 h9 tk9 F9 N9 o9 => ?_); (case hh_72 => rfl); (case F_72 => k_asm); (case N_72 => k_asm); (case hr_72 => assumption); (case hsm_72 => exact small_one (by omega) (by omega) (by omega) (by omega)); (case hn_72 => (rw [rangeSize_nat]; omega)); (case sz_72 => (rw [PySem.sizeLine_eq]; omega)); (first | rw [Int.zero_add] at hx9 | skip))))
  k_with "1 EltEnd" => ((refine elt_end (by k_asm) (by k_asm) (fun p hp => hp) (oct_of.imp fun c hc => ⟨_, by rw [hc]⟩)))
  k_with "1 call type:bytes" => ((k_here; (obtain ⟨S9, hS9, hi9⟩ := octs_of hI9.1 hI9.2); k_dflt (refine r_bytesD (by rfl) (by k_asm) (by k_asm) hi9 rfl (by (rw [PySem.sizeLine_eq]; omega)) ?_); intro h9 t9 k9 F9 N9))
  trivial
theorem segB6 (w : World) (fa rl : Addr) (b : Int) (tb : Tok) (vs : List Value) (rs : List Int) (kk : Nat) (hI : IntsAre vs rs) (hv : vs.length ≤ 1000)
    (news : List (Addr × Obj)) (HL : (rl, ({ cls := .type "list", data := .seq vs.toArray kk } : Obj)) ∈ news)
    (dp un : Nat) (gd : Option (List Code)) (A₀ : Around) (g : Heap) (L : Addr) (h₁ : Heap) (tk : Nat) (s : Shared) (p : Program) (loose : List Str) (mean : ExcName → Option Value) (mg mb : Str → Option Value) (m : Str → Option Value) (o3 o5 : Obj) (v5 : Option Value)
    (B : Below A₀ g [] g) (F : Fr g L h₁ m) (X : (K w.params).In g) (N : News g L h₁ ((L + 1 + 1 + 1 + 1 + 1, o5) :: news)) (T : Top p loose mean mg mb g) (c3 : (L + 1 + 1 + 1, o3) ∈ news) (e3 : o3.data = .cell (some (.ref rl)))
    (m2 : m (Str.ofString "c") = some (.int b tb)) (e5 : o5.data = .cell v5) (hne5 : ∀ p ∈ news, p.1 ≠ L + 1 + 1 + 1 + 1 + 1)
    (hd : dp + 20 < recursionLimit) (hu : un + 300 < cLine)
    (k : ∀ h' tk' S0 t' o5', Fr g L h' m → News g L h' ((L + 1 + 1 + 1 + 1 + 1, o5') :: news) → S0.length ≤ 70 → o5'.data = .cell (some (.bytes (List.toArray S0) t')) →
      wpAny (model pw w) (ktrTop dp un gd lwN fS26 L fa (.ref 162) (cellsFrom (L + 1) fS26.names []) []) (execs lw7 (envOfC lwN fS26 L fa (.ref 162))) (EndsLaw g L s) (fun _ _ => False) { s with heap := h', toks := tk' }) :
    wpAny (model pw w) (ktrTop dp un gd lwN fS26 L fa (.ref 162) (cellsFrom (L + 1) fS26.names []) []) (execs lw6 (envOfC lwN fS26 L fa (.ref 162))) (EndsLaw g L s) (fun _ _ => False) { s with heap := h₁, toks := tk } := by
  have hb := fmod_lt (d := b) (b := 20) (by decide)
  by_cases hz : vs.length = 0
  all_goals (
    show wpAny _ _ _ _ _ _
    k_fold
    k_steps)
  all_goals (
    show wpAny _ _ _ _ _ _
    rename Fr _ _ _ _ => F8
    rename News _ _ _ _ => N8
    exact k _ _ S9 _ _ F8 N8 (by omega) (by assumption))
end
end Mine
end
-- K6
section
open PySem PySem.W PySem.Spec PySem.Calls PyProof.Rows PyProof.Rows.LCg
set_option maxRecDepth 100000
set_option maxHeartbeats 400000
set_option linter.unusedVariables false
namespace Mine
theorem ru88 : True := by
  k_with_none
  k_with "12 eval Name" => ((k_here; (first | (with_reducible show wpAny _ _ (eval (Expr.Name _ _) (envOf _ _ _ _ _)) _ _ _) | (with_reducible show wpAny _ _ (eval (Expr.Name _ _) (envOfC _ _ _ _ _)) _ _ _) | (with_reducible show wpAny _ _ (eval (Expr.Name _ _) (envX _ _ _ _ _ _)) _ _ _)); k_dflt (first
      | (refine' nameX_K ?F_0 ?X_0 ?T_0 ?e_0 ?_ ?a_0 ?b_0; (case b_0 => kernel_rfl!); (case a_0 => rfl); (case F_0 => k_asm); (case X_0 => k_asm); (case T_0 => k_asm); (case e_0 => k_is); k_whole)
      | (refine' nameX_L ?F_0 ?v_0 ?_ ?a_0 ?b_0; (case b_0 => kernel_rfl!); (case a_0 => rfl); (case F_0 => k_asm); (case v_0 => rfl); k_whole)
      | (refine' nameX_B ?F_0 ?X_0 ?T_0 ?e_0 ?v_0 ?n_0 ?_ ?a_0 ?b_0; (case b_0 => kernel_rfl!); (case a_0 => rfl); (case F_0 => k_asm); (case X_0 => k_asm); (case T_0 => k_asm); (case e_0 => k_is); (case v_0 => boot_fast); (case n_0 => decide); k_whole))))
  k_with "12 callWith ref" => ((k_here; (with_reducible show wpAny _ _ (callWith _ (Value.ref _) _ (backTo _ (starEach (_ :: _) _)) (backToKw _ _)) _ _ _); k_dflt (refine' callWith_KW ?k1_0 ?k2_0 ?k3_0 ?_; (case k1_0 => k_asm); (case k2_0 => k_is); (case k3_0 => exact rfl); k_whole)))
  trivial
@[reducible] noncomputable def lw1 : List Stmt := by
  refine (fun (l : List Stmt) (_ : (fdB 26).drop 1 = l) => l) ?l ?h
  rotate_left
  conv => lhs; whnf
theorem base_list {g h : Heap} {L sl : Addr} {m : Str → Option Value} {its : Array Value} (H : g.IsList sl its) (F : Fr g L h m) : h.IsList sl its :=
  let ⟨o, ho, r⟩ := H
  ⟨o, F.keep _ _ ho, r⟩
noncomputable def intAt (i : Nat) (v : Value) : Prop := ∃ (n : Int) (t : Tok), v = .int n t
theorem four_ints {ys : List Value} (h : Each 4 intAt ys) : ∃ a ta b tb c tc d td, ys = [Value.int a ta, Value.int b tb, Value.int c tc, Value.int d td] := by
  obtain ⟨hl, hy⟩ := h
  match ys, hl with
  | [y0, y1, y2, y3], _ =>
    obtain ⟨a, ta, rfl⟩ := hy 0 _ rfl
    obtain ⟨b, tb, rfl⟩ := hy 1 _ rfl
    obtain ⟨c, tc, rfl⟩ := hy 2 _ rfl
    obtain ⟨d, td, rfl⟩ := hy 3 _ rfl
    exact ⟨a, ta, b, tb, c, tc, d, td, rfl⟩
section
variable {prog : Program} {w : World} {A : Around} {E : Value → Shared → Prop} {s : Shared} {l : Addr} {vs : List Value} {rs : List Int}
theorem r_lenZ {Q : Value → Shared → Prop} (hl : s.heap.IsList l vs.toArray) (hz : vs.length ≤ 1000) (h : ∀ t' k', Q (.int ((vs.length : Nat) : Int) t') { s with toks := k' }) : wpAny (model prog w) A (call (.builtin "len") [.ref l]) Q E s := by
  refine Calls.call_len_list hl (by rw [List.size_toArray]; omega) ?_
  rw [List.size_toArray]
  exact h _ _
theorem r_itemZ {value slice : PySem.Expr} {j : Int} {u : Tok} {Q : Value → Shared → Prop} (hl : s.heap.IsList l vs.toArray) (hi : IntsAre vs rs) (h0 : 0 ≤ j) (hj : j < ((vs.length : Nat) : Int)) (hz : vs.length ≤ 1000)
    (hs : subscripted slice false (.ref l) (.int j u) = operate [.ref l, .int j u] (getItem (.ref l) (.int j u))) (h : ∀ n t, Q (.int n t) s) : wpAny (model prog w) A (subscriptTail value slice (.ref l) (.int j u)) Q E s := by
  obtain ⟨n, t, e⟩ := ints_get hi (j := j.toNat) (by omega)
  exact tail_any hl.typeIs slot_list_getitem.lookup (wpAny_getItem_list hl h0 (by omega) (by simpa using e) (h n t)) hs
end
section
set_option hygiene false in
local macro_rules | `(tactic| k_all) => `(tactic| exact hne2)
theorem ru87 : True := by
  k_with_none
  k_with "12 eval Name" => ((k_here; (first | (with_reducible show wpAny _ _ (eval (Expr.Name _ _) (envOf _ _ _ _ _)) _ _ _) | (with_reducible show wpAny _ _ (eval (Expr.Name _ _) (envOfC _ _ _ _ _)) _ _ _) | (with_reducible show wpAny _ _ (eval (Expr.Name _ _) (envX _ _ _ _ _ _)) _ _ _)); k_dflt (first
      | (refine' nameX_K ?F_0 ?X_0 ?T_0 ?e_0 ?_ ?a_0 ?b_0; (case b_0 => kernel_rfl!); (case a_0 => rfl); (case F_0 => k_asm); (case X_0 => k_asm); (case T_0 => k_asm); (case e_0 => k_is); k_whole)
      | (refine' nameX_L ?F_0 ?v_0 ?_ ?a_0 ?b_0; (case b_0 => kernel_rfl!); (case a_0 => rfl); (case F_0 => k_asm); (case v_0 => rfl); k_whole)
      | (refine' nameX_B ?F_0 ?X_0 ?T_0 ?e_0 ?v_0 ?n_0 ?_ ?a_0 ?b_0; (case b_0 => kernel_rfl!); (case a_0 => rfl); (case F_0 => k_asm); (case X_0 => k_asm); (case T_0 => k_asm); (case e_0 => k_is); (case v_0 => boot_fast); (case n_0 => decide); k_whole))))
  k_with "12 callWith ref" => ((k_here; (with_reducible show wpAny _ _ (callWith _ (Value.ref _) _ (backTo _ (starEach (_ :: _) _)) (backToKw _ _)) _ _ _); k_dflt (refine' callWith_KW ?k1_0 ?k2_0 ?k3_0 ?_; (case k1_0 => k_asm); (case k2_0 => k_is); (case k3_0 => exact rfl); k_whole)))
  k_with "1 execs cons" => ((k_here; (with_reducible show wpAny _ _ (execs (Stmt.Assign [Expr.Name (Str.ofString "rest") _] _ _ :: _) _) _ _ _); refine hold ?_))
  k_with "3 eval Name" => ((k_here; k_dflt (refine' nameX_L ?zF_73 ?zv_73 ?_ ?za_73 ?zb_73; (case zb_73 => kernel_rfl!); (case zF_73 => k_asm); (case za_73 => rfl); (case zv_73 => first | with_reducible assumption | rfl | assumption); k_whole)))
  k_with "2 eval Name" => ((k_here; k_dflt (refine' nameX_C ?zN_73 ?zc_73 ?zm_73 ?zd_73 ?_ ?za_73 ?zb_73; (case zb_73 => kernel_rfl!); (case za_73 => rfl); (case zN_73 => k_asm); (case zc_73 => rfl); (case zm_73 => (repeat (first | with_reducible assumption | refine List.mem_cons_of_mem _ ?_))); (case zd_73 => assumption); k_whole)))
  k_with "1 eval Name" => ((k_here; (with_reducible show wpAny _ _ (eval (Expr.Name _ _) (compEnvC _ _ _ _)) _ _ _); k_dflt (refine kcf_cell (by k_asm) (by rfl) (by (repeat (first | with_reducible assumption | refine List.mem_cons_of_mem _ ?_))) (by assumption) ?_)))
  k_with "1 exec Assign cons ListComp" => ((k_here; (with_reducible show wpAny _ _ (exec (Stmt.Assign [Expr.Tuple _ _ _] (Expr.ListComp _ _ _ _) _) _) _ _ _); k_dflt walk_at "exec Assign"))
  k_with "1 call builtin:len" => ((k_here; (with_reducible show wpAny _ _ (call (Value.builtin "len") [Value.ref _]) _ _ _); k_dflt (refine r_lenZ (base_list HS (by k_asm)) hv ?_); intro _ _))
  k_with "1 subscriptTail" => ((k_here; (with_reducible show wpAny _ _ (subscriptTail _ _ (Value.ref _) (Value.int _ _)) _ _ _); k_dflt (refine r_itemZ (base_list HS (by k_asm)) hI (by omega) (by first | assumption | omega) hv (by with_unfolding_all rfl) ?_); intro _ _))
  k_with "1 CompSrc" => ((k_here; k_dflt (refine' comp_ry (n := 4) intAt ?hh_73 ?F_73 ?N_73 ?hr_73 ?hsm_73 ?hn_73 ?sz_73 (fun i9 t9 I9 oI9 C9 oC9 D9 oD9 m9 h9 tk9 E9 hi9 hC9 hx9 F9 N9 off9 ne9 => ?_) (fun g9 ys9 hI9 D9 h9 tk9 F9 N9 o9 => ?_); (case hh_73 => rfl); (case F_73 => k_asm); (case N_73 => k_asm); (case hr_73 => assumption); (case hsm_73 => decide); (case hn_73 => decide); (case sz_73 => (rw [PySem.sizeLine_eq]; omega)); (all_goals first | rw [Int.zero_add] at hx9 | (obtain ⟨a9, ta9, b9, tb9, c9, tc9, d9, td9, hy9⟩ := four_ints hI9; subst hy9)))))
  k_with "1 EltEnd" => ((refine elt_end (by k_asm) (by k_asm) (fun p hp => hp) ⟨_, _, rfl⟩))
  k_with "1 storeName" => ((k_here; (with_reducible show wpAny _ _ (storeName _ (Str.ofString "d") _) _ _ _); (rename News _ _ _ _ => oN9); k_dflt (refine storeX_C (by k_asm) (news_sub oN9 (fun p hp => List.Mem.tail _ hp)) (by rfl) (UpdF.head hne2) e2 ?_ (by rfl) (by rfl)); (intro h9 o9' F9 N9 d9'); (try dsimp only at N9); clear oN9))
  trivial
theorem segA0 (w : World) (fa sl : Addr) (vs : List Value) (rs : List Int) (hI : IntsAre vs rs) (hv : vs.length ≤ 1000)
    (news : List (Addr × Obj))
    (dp un : Nat) (gd : Option (List Code)) (A₀ : Around) (g : Heap) (HS : g.IsList sl vs.toArray) (L : Addr) (h₁ : Heap) (tk : Nat) (s : Shared) (p : Program) (loose : List Str) (mean : ExcName → Option Value) (mg mb : Str → Option Value) (m : Str → Option Value) (o1 o2 : Obj) (v2 : Option Value)
    (B : Below A₀ g [] g) (F : Fr g L h₁ m) (X : (K w.params).In g) (N : News g L h₁ ((L + 1 + 1, o2) :: news)) (T : Top p loose mean mg mb g) (c1 : (L + 1, o1) ∈ news) (e1 : o1.data = .cell (some (.ref sl))) (e2 : o2.data = .cell v2) (hne2 : ∀ p ∈ news, p.1 ≠ L + 1 + 1)
    (hd : dp + 20 < recursionLimit) (hu : un + 300 < cLine)
    (k : ∀ h' tk' m' o2' a ta b tb c tc d td, Fr g L h' m' → News g L h' ((L + 1 + 1, o2') :: news) → o2'.data = .cell (some (.int d td)) → m' (Str.ofString "a") = some (.int a ta) → m' (Str.ofString "b") = some (.int b tb) → m' (Str.ofString "c") = some (.int c tc) →
      wpAny (model pw w) (ktrTop dp un gd lwN fS26 L fa (.ref 162) (cellsFrom (L + 1) fS26.names []) []) (execs lw1 (envOfC lwN fS26 L fa (.ref 162))) (EndsLaw g L s) (fun _ _ => False) { s with heap := h', toks := tk' }) :
    wpAny (model pw w) (ktrTop dp un gd lwN fS26 L fa (.ref 162) (cellsFrom (L + 1) fS26.names []) []) (execs fB26 (envOfC lwN fS26 L fa (.ref 162))) (EndsLaw g L s) (fun _ _ => False) { s with heap := h₁, toks := tk } := by
  show wpAny _ _ _ _ _ _
  k_fold
  k_steps
  · show wpAny _ _ _ _ _ _
    rename Fr _ _ _ _ => F8
    rename News _ _ _ _ => N8
    exact k _ _ _ _ a9 _ b9 _ c9 _ d9 _ F8 N8 (by assumption) rfl rfl rfl
end
end Mine
end
-- K7
section
open PySem PySem.W PySem.Spec PySem.Calls PyProof.Rows PyProof.Rows.LCg
set_option maxRecDepth 100000
set_option maxHeartbeats 300000
set_option linter.unusedVariables false
namespace Mine
theorem ru90 : True := by
  k_with_none
  k_with "12 eval Name" => ((k_here; (first | (with_reducible show wpAny _ _ (eval (Expr.Name _ _) (envOf _ _ _ _ _)) _ _ _) | (with_reducible show wpAny _ _ (eval (Expr.Name _ _) (envOfC _ _ _ _ _)) _ _ _) | (with_reducible show wpAny _ _ (eval (Expr.Name _ _) (envX _ _ _ _ _ _)) _ _ _)); k_dflt (first
      | (refine' nameX_K ?F_0 ?X_0 ?T_0 ?e_0 ?_ ?a_0 ?b_0; (case b_0 => kernel_rfl!); (case a_0 => rfl); (case F_0 => k_asm); (case X_0 => k_asm); (case T_0 => k_asm); (case e_0 => k_is); k_whole)
      | (refine' nameX_L ?F_0 ?v_0 ?_ ?a_0 ?b_0; (case b_0 => kernel_rfl!); (case a_0 => rfl); (case F_0 => k_asm); (case v_0 => rfl); k_whole)
      | (refine' nameX_B ?F_0 ?X_0 ?T_0 ?e_0 ?v_0 ?n_0 ?_ ?a_0 ?b_0; (case b_0 => kernel_rfl!); (case a_0 => rfl); (case F_0 => k_asm); (case X_0 => k_asm); (case T_0 => k_asm); (case e_0 => k_is); (case v_0 => boot_fast); (case n_0 => decide); k_whole))))
  k_with "12 callWith ref" => ((k_here; (with_reducible show wpAny _ _ (callWith _ (Value.ref _) _ (backTo _ (starEach (_ :: _) _)) (backToKw _ _)) _ _ _); k_dflt (refine' callWith_KW ?k1_0 ?k2_0 ?k3_0 ?_; (case k1_0 => k_asm); (case k2_0 => k_is); (case k3_0 => exact rfl); k_whole)))
  trivial
@[reducible] noncomputable def lw2 : List Stmt := by
  refine (fun (l : List Stmt) (_ : (fdB 26).drop 2 = l) => l) ?l ?h
  rotate_left
  conv => lhs; whnf
section
set_option hygiene false in
local macro_rules | `(tactic| k_all) => `(tactic| exact hne3)
theorem ru89 : True := by
  k_with_none
  k_with "12 eval Name" => ((k_here; (first | (with_reducible show wpAny _ _ (eval (Expr.Name _ _) (envOf _ _ _ _ _)) _ _ _) | (with_reducible show wpAny _ _ (eval (Expr.Name _ _) (envOfC _ _ _ _ _)) _ _ _) | (with_reducible show wpAny _ _ (eval (Expr.Name _ _) (envX _ _ _ _ _ _)) _ _ _)); k_dflt (first
      | (refine' nameX_K ?F_0 ?X_0 ?T_0 ?e_0 ?_ ?a_0 ?b_0; (case b_0 => kernel_rfl!); (case a_0 => rfl); (case F_0 => k_asm); (case X_0 => k_asm); (case T_0 => k_asm); (case e_0 => k_is); k_whole)
      | (refine' nameX_L ?F_0 ?v_0 ?_ ?a_0 ?b_0; (case b_0 => kernel_rfl!); (case a_0 => rfl); (case F_0 => k_asm); (case v_0 => rfl); k_whole)
      | (refine' nameX_B ?F_0 ?X_0 ?T_0 ?e_0 ?v_0 ?n_0 ?_ ?a_0 ?b_0; (case b_0 => kernel_rfl!); (case a_0 => rfl); (case F_0 => k_asm); (case X_0 => k_asm); (case T_0 => k_asm); (case e_0 => k_is); (case v_0 => boot_fast); (case n_0 => decide); k_whole))))
  k_with "12 callWith ref" => ((k_here; (with_reducible show wpAny _ _ (callWith _ (Value.ref _) _ (backTo _ (starEach (_ :: _) _)) (backToKw _ _)) _ _ _); k_dflt (refine' callWith_KW ?k1_0 ?k2_0 ?k3_0 ?_; (case k1_0 => k_asm); (case k2_0 => k_is); (case k3_0 => exact rfl); k_whole)))
  k_with "1 execs cons" => ((k_here; (with_reducible show wpAny _ _ (execs (Stmt.Assign [Expr.Name (Str.ofString "single") _] _ _ :: _) _) _ _ _); refine hold ?_))
  k_with "1 eval Name" => ((k_here; k_dflt (refine' nameX_C ?zN_74 ?zc_74 ?zm_74 ?zd_74 ?_ ?za_74 ?zb_74; (case zb_74 => kernel_rfl!); (case za_74 => rfl); (case zN_74 => k_asm); (case zc_74 => rfl); (case zm_74 => (repeat (first | with_reducible assumption | refine List.mem_cons_of_mem _ ?_))); (case zd_74 => assumption); k_whole)))
  trivial
theorem segA1 (w : World) (fa sl : Addr) (vs : List Value) (rs : List Int) (hI : IntsAre vs rs) (hv : vs.length ≤ 63)
    (news : List (Addr × Obj))
    (dp un : Nat) (gd : Option (List Code)) (A₀ : Around) (g : Heap) (HS : g.IsList sl vs.toArray) (L : Addr) (h₁ : Heap) (tk : Nat) (s : Shared) (p : Program) (loose : List Str) (mean : ExcName → Option Value) (mg mb : Str → Option Value) (m : Str → Option Value) (o1 o3 : Obj) (v3 : Option Value)
    (B : Below A₀ g [] g) (F : Fr g L h₁ m) (X : (K w.params).In g) (N : News g L h₁ ((L + 1 + 1 + 1, o3) :: news)) (T : Top p loose mean mg mb g) (c1 : (L + 1, o1) ∈ news) (e1 : o1.data = .cell (some (.ref sl))) (e3 : o3.data = .cell v3) (hne3 : ∀ p ∈ news, p.1 ≠ L + 1 + 1 + 1)
    (hd : dp + 20 < recursionLimit) (hu : un + 300 < cLine)
    (k : ∀ h' tk' o3' rl rvs rrs kk, Fr g L h' m → News g L h' ((rl, ({ cls := .type "list", data := .seq (List.toArray rvs) kk } : Obj)) :: (L + 1 + 1 + 1, o3') :: news) → o3'.data = .cell (some (.ref rl)) → IntsAre rvs rrs → rvs.length ≤ 63 → (∀ p ∈ ((L + 1 + 1 + 1, o3') :: news), p.1 < rl) →
      wpAny (model pw w) (ktrTop dp un gd lwN fS26 L fa (.ref 162) (cellsFrom (L + 1) fS26.names []) []) (execs lw2 (envOfC lwN fS26 L fa (.ref 162))) (EndsLaw g L s) (fun _ _ => False) { s with heap := h', toks := tk' }) :
    wpAny (model pw w) (ktrTop dp un gd lwN fS26 L fa (.ref 162) (cellsFrom (L + 1) fS26.names []) []) (execs lw1 (envOfC lwN fS26 L fa (.ref 162))) (EndsLaw g L s) (fun _ _ => False) { s with heap := h₁, toks := tk } := by
  have lifted := base_list HS F
  show wpAny _ _ _ _ _ _
  k_fold
  k_steps
  · show wpAny _ _ _ _ _ _
    rename Fr _ _ _ _ => F8
    rename News _ _ _ _ => N8
    rename IntsAre _ (List.drop 4 rs) => hI8
    rename _ ∧ AllLt _ _ => hl8
    have q1 := hI8.length
    have q2 := hI.length
    have q3 := List.length_drop (i := 4) (l := rs)
    exact k _ _ _ _ _ _ 0 F8 N8 (by assumption) hI8 (by omega) fun p hp => by
      rcases List.mem_cons.mp hp with rfl | hp
      · exact hl8.1
      · exact allLt_all hl8.2 p hp
end
end Mine
end
-- K8
section
open PySem PySem.W PySem.Spec PySem.Calls PyProof.Rows PyProof.Rows.LCg
set_option maxRecDepth 100000
set_option maxHeartbeats 300000
set_option linter.unusedVariables false
namespace Mine
theorem ru92 : True := by
  k_with_none
  k_with "12 eval Name" => ((k_here; (first | (with_reducible show wpAny _ _ (eval (Expr.Name _ _) (envOf _ _ _ _ _)) _ _ _) | (with_reducible show wpAny _ _ (eval (Expr.Name _ _) (envOfC _ _ _ _ _)) _ _ _) | (with_reducible show wpAny _ _ (eval (Expr.Name _ _) (envX _ _ _ _ _ _)) _ _ _)); k_dflt (first
      | (refine' nameX_K ?F_0 ?X_0 ?T_0 ?e_0 ?_ ?a_0 ?b_0; (case b_0 => kernel_rfl!); (case a_0 => rfl); (case F_0 => k_asm); (case X_0 => k_asm); (case T_0 => k_asm); (case e_0 => k_is); k_whole)
      | (refine' nameX_L ?F_0 ?v_0 ?_ ?a_0 ?b_0; (case b_0 => kernel_rfl!); (case a_0 => rfl); (case F_0 => k_asm); (case v_0 => rfl); k_whole)
      | (refine' nameX_B ?F_0 ?X_0 ?T_0 ?e_0 ?v_0 ?n_0 ?_ ?a_0 ?b_0; (case b_0 => kernel_rfl!); (case a_0 => rfl); (case F_0 => k_asm); (case X_0 => k_asm); (case T_0 => k_asm); (case e_0 => k_is); (case v_0 => boot_fast); (case n_0 => decide); k_whole))))
  k_with "12 callWith ref" => ((k_here; (with_reducible show wpAny _ _ (callWith _ (Value.ref _) _ (backTo _ (starEach (_ :: _) _)) (backToKw _ _)) _ _ _); k_dflt (refine' callWith_KW ?k1_0 ?k2_0 ?k3_0 ?_; (case k1_0 => k_asm); (case k2_0 => k_is); (case k3_0 => exact rfl); k_whole)))
  trivial
@[reducible] noncomputable def lw3 : List Stmt := by
  refine (fun (l : List Stmt) (_ : (fdB 26).drop 3 = l) => l) ?l ?h
  rotate_left
  conv => lhs; whnf
section
theorem ru91 : True := by
  k_with_none
  k_with "12 eval Name" => ((k_here; (first | (with_reducible show wpAny _ _ (eval (Expr.Name _ _) (envOf _ _ _ _ _)) _ _ _) | (with_reducible show wpAny _ _ (eval (Expr.Name _ _) (envOfC _ _ _ _ _)) _ _ _) | (with_reducible show wpAny _ _ (eval (Expr.Name _ _) (envX _ _ _ _ _ _)) _ _ _)); k_dflt (first
      | (refine' nameX_K ?F_0 ?X_0 ?T_0 ?e_0 ?_ ?a_0 ?b_0; (case b_0 => kernel_rfl!); (case a_0 => rfl); (case F_0 => k_asm); (case X_0 => k_asm); (case T_0 => k_asm); (case e_0 => k_is); k_whole)
      | (refine' nameX_L ?F_0 ?v_0 ?_ ?a_0 ?b_0; (case b_0 => kernel_rfl!); (case a_0 => rfl); (case F_0 => k_asm); (case v_0 => rfl); k_whole)
      | (refine' nameX_B ?F_0 ?X_0 ?T_0 ?e_0 ?v_0 ?n_0 ?_ ?a_0 ?b_0; (case b_0 => kernel_rfl!); (case a_0 => rfl); (case F_0 => k_asm); (case X_0 => k_asm); (case T_0 => k_asm); (case e_0 => k_is); (case v_0 => boot_fast); (case n_0 => decide); k_whole))))
  k_with "12 callWith ref" => ((k_here; (with_reducible show wpAny _ _ (callWith _ (Value.ref _) _ (backTo _ (starEach (_ :: _) _)) (backToKw _ _)) _ _ _); k_dflt (refine' callWith_KW ?k1_0 ?k2_0 ?k3_0 ?_; (case k1_0 => k_asm); (case k2_0 => k_is); (case k3_0 => exact rfl); k_whole)))
  k_with "1 execs cons" => ((k_here; (with_reducible show wpAny _ _ (execs (Stmt.Assign [Expr.Tuple _ _ _] (Expr.IfExp _ _ _ _) _ :: _) _) _ _ _); refine hold ?_))
  k_with "1 eval Name" => ((k_here; k_dflt (refine' nameX_L ?zF_75 ?zv_75 ?_ ?za_75 ?zb_75; (case zb_75 => kernel_rfl!); (case zF_75 => k_asm); (case za_75 => rfl); (case zv_75 => first | with_reducible assumption | rfl | assumption); k_whole)))
  k_with "1 binaryOp FloorDiv int int" => ((k_here; k_dflt (refine r_fdivI (by decide) (by decide) ?_); intro _ _))
  k_with "1 binaryOp Mod int int" => ((k_here; k_dflt (refine r_modE (by decide) (fmod_toNat (by decide)) ?_); intro _ _))
  trivial
theorem segA2 (w : World) (fa : Addr) (a : Int) (ta : Tok)
    (news : List (Addr × Obj))
    (dp un : Nat) (gd : Option (List Code)) (A₀ : Around) (g : Heap) (L : Addr) (h₁ : Heap) (tk : Nat) (s : Shared) (p : Program) (loose : List Str) (mean : ExcName → Option Value) (mg mb : Str → Option Value) (m : Str → Option Value)
    (B : Below A₀ g [] g) (F : Fr g L h₁ m) (X : (K w.params).In g) (N : News g L h₁ news) (T : Top p loose mean mg mb g)
    (m1 : m (Str.ofString "a") = some (.int a ta))
    (hd : dp + 20 < recursionLimit) (hu : un + 300 < cLine)
    (k : ∀ h' tk' m' sg, Fr g L h' m' → News g L h' news → m' (Str.ofString "single") = some (.bool sg) → (∀ x, x ≠ Str.ofString "single" → m' x = m x) →
      wpAny (model pw w) (ktrTop dp un gd lwN fS26 L fa (.ref 162) (cellsFrom (L + 1) fS26.names []) []) (execs lw3 (envOfC lwN fS26 L fa (.ref 162))) (EndsLaw g L s) (fun _ _ => False) { s with heap := h', toks := tk' }) :
    wpAny (model pw w) (ktrTop dp un gd lwN fS26 L fa (.ref 162) (cellsFrom (L + 1) fS26.names []) []) (execs lw2 (envOfC lwN fS26 L fa (.ref 162))) (EndsLaw g L s) (fun _ _ => False) { s with heap := h₁, toks := tk } := by
  show wpAny _ _ _ _ _ _
  k_fold
  k_steps
  · show wpAny _ _ _ _ _ _
    rename Fr _ _ _ _ => F8
    rename News _ _ _ _ => N8
    exact k _ _ _ _ F8 N8 rfl fun x hx => if_neg hx
end
end Mine
end
-- K9
section
open PySem PySem.W PySem.Spec PySem.Calls PyProof.Rows PyProof.Rows.LCg
set_option maxRecDepth 100000
set_option maxHeartbeats 1000000
set_option linter.unusedVariables false
namespace Mine
theorem ru94 : True := by
  k_with_none
  k_with "12 eval Name" => ((k_here; (first | (with_reducible show wpAny _ _ (eval (Expr.Name _ _) (envOf _ _ _ _ _)) _ _ _) | (with_reducible show wpAny _ _ (eval (Expr.Name _ _) (envOfC _ _ _ _ _)) _ _ _) | (with_reducible show wpAny _ _ (eval (Expr.Name _ _) (envX _ _ _ _ _ _)) _ _ _)); k_dflt (first
      | (refine' nameX_K ?F_0 ?X_0 ?T_0 ?e_0 ?_ ?a_0 ?b_0; (case b_0 => kernel_rfl!); (case a_0 => rfl); (case F_0 => k_asm); (case X_0 => k_asm); (case T_0 => k_asm); (case e_0 => k_is); k_whole)
      | (refine' nameX_L ?F_0 ?v_0 ?_ ?a_0 ?b_0; (case b_0 => kernel_rfl!); (case a_0 => rfl); (case F_0 => k_asm); (case v_0 => rfl); k_whole)
      | (refine' nameX_B ?F_0 ?X_0 ?T_0 ?e_0 ?v_0 ?n_0 ?_ ?a_0 ?b_0; (case b_0 => kernel_rfl!); (case a_0 => rfl); (case F_0 => k_asm); (case X_0 => k_asm); (case T_0 => k_asm); (case e_0 => k_is); (case v_0 => boot_fast); (case n_0 => decide); k_whole))))
  k_with "12 callWith ref" => ((k_here; (with_reducible show wpAny _ _ (callWith _ (Value.ref _) _ (backTo _ (starEach (_ :: _) _)) (backToKw _ _)) _ _ _); k_dflt (refine' callWith_KW ?k1_0 ?k2_0 ?k3_0 ?_; (case k1_0 => k_asm); (case k2_0 => k_is); (case k3_0 => exact rfl); k_whole)))
  trivial
@[reducible] noncomputable def lw4 : List Stmt := by
  refine (fun (l : List Stmt) (_ : (fdB 26).drop 4 = l) => l) ?l ?h
  rotate_left
  conv => lhs; whnf
theorem mod4 (a : Int) : a.fmod 4 = 0 ∨ a.fmod 4 = 1 ∨ a.fmod 4 = 2 ∨ a.fmod 4 = 3 := by
  have h1 := fmod_lt (d := a) (b := 4) (by decide)
  have h2 := fmod_toNat (d := a) (b := 4) (by decide)
  omega
theorem r_modK {prog : Program} {w : World} {A : Around} {E : Value → Shared → Prop} {s : Shared} {d e : Int} {t u : Tok} {Q : Value → Shared → Prop} (he : d.fmod 4 = e) (h : ∀ t' k', Q (.int e t') { s with toks := k' }) : wpAny (model prog w) A (binaryOp .Mod (.int d t) (.int 4 u)) Q E s := by
  refine mod_int' (by decide) ?_
  rw [he]
  exact h _ _
section
set_option hygiene false in
local macro_rules | `(tactic| k_all) => `(tactic| exact hne7)
theorem ru93 : True := by
  k_with_none
  k_with "12 eval Name" => ((k_here; (first | (with_reducible show wpAny _ _ (eval (Expr.Name _ _) (envOf _ _ _ _ _)) _ _ _) | (with_reducible show wpAny _ _ (eval (Expr.Name _ _) (envOfC _ _ _ _ _)) _ _ _) | (with_reducible show wpAny _ _ (eval (Expr.Name _ _) (envX _ _ _ _ _ _)) _ _ _)); k_dflt (first
      | (refine' nameX_K ?F_0 ?X_0 ?T_0 ?e_0 ?_ ?a_0 ?b_0; (case b_0 => kernel_rfl!); (case a_0 => rfl); (case F_0 => k_asm); (case X_0 => k_asm); (case T_0 => k_asm); (case e_0 => k_is); k_whole)
      | (refine' nameX_L ?F_0 ?v_0 ?_ ?a_0 ?b_0; (case b_0 => kernel_rfl!); (case a_0 => rfl); (case F_0 => k_asm); (case v_0 => rfl); k_whole)
      | (refine' nameX_B ?F_0 ?X_0 ?T_0 ?e_0 ?v_0 ?n_0 ?_ ?a_0 ?b_0; (case b_0 => kernel_rfl!); (case a_0 => rfl); (case F_0 => k_asm); (case X_0 => k_asm); (case T_0 => k_asm); (case e_0 => k_is); (case v_0 => boot_fast); (case n_0 => decide); k_whole))))
  k_with "12 callWith ref" => ((k_here; (with_reducible show wpAny _ _ (callWith _ (Value.ref _) _ (backTo _ (starEach (_ :: _) _)) (backToKw _ _)) _ _ _); k_dflt (refine' callWith_KW ?k1_0 ?k2_0 ?k3_0 ?_; (case k1_0 => k_asm); (case k2_0 => k_is); (case k3_0 => exact rfl); k_whole)))
  k_with "1 binaryOp Mod int int" => ((k_here; k_dflt (refine r_modK he ?_); intro _ _))
  k_with "1 assign Tuple" => (first | ((rename @Eq Nat _ _ => hPk9); exact absurd hPk9 (by decide)) | ((rename @Eq Int _ _ => hPk9); exact absurd hPk9 (by decide)))
  k_with "1 execs cons" => ((k_here; (with_reducible show wpAny _ _ (execs (Stmt.Assign [Expr.Name (Str.ofString "row") _] _ _ :: _) _) _ _ _); refine hold ?_))
  k_with "1 eval Name" => ((k_here; k_dflt (refine' nameX_L ?zF_76 ?zv_76 ?_ ?za_76 ?zb_76; (case zb_76 => kernel_rfl!); (case zF_76 => k_asm); (case za_76 => rfl); (case zv_76 => first | with_reducible assumption | rfl | assumption); k_whole)))
  trivial
theorem segA3 (w : World) (fa : Addr) (a : Int) (ta : Tok) (sg : Bool)
    (news : List (Addr × Obj))
    (dp un : Nat) (gd : Option (List Code)) (A₀ : Around) (g : Heap) (L : Addr) (h₁ : Heap) (tk : Nat) (s : Shared) (p : Program) (loose : List Str) (mean : ExcName → Option Value) (mg mb : Str → Option Value) (m : Str → Option Value) (o7 : Obj) (v7 : Option Value)
    (B : Below A₀ g [] g) (F : Fr g L h₁ m) (X : (K w.params).In g) (N : News g L h₁ ((L + 1 + 1 + 1 + 1 + 1 + 1 + 1, o7) :: news)) (T : Top p loose mean mg mb g) (e7 : o7.data = .cell v7) (hne7 : ∀ p ∈ news, p.1 ≠ L + 1 + 1 + 1 + 1 + 1 + 1 + 1)
    (m1 : m (Str.ofString "a") = some (.int a ta)) (m6 : m (Str.ofString "single") = some (.bool sg))
    (hd : dp + 20 < recursionLimit) (hu : un + 300 < cLine)
    (k : ∀ h' tk' m' o7' size block tz tb, Fr g L h' m' → News g L h' ((L + 1 + 1 + 1 + 1 + 1 + 1 + 1, o7') :: news) → o7'.data = .cell (some (.int ((size : Nat) : Int) tz)) → m' (Str.ofString "block") = some (.int ((block : Nat) : Int) tb) → (∀ x, x ≠ Str.ofString "block" → m' x = m x) → (sg = true → size = 1) → 1 ≤ size → size ≤ 32 → size ≤ block → block ≤ 64 → 16 ≤ block →
      wpAny (model pw w) (ktrTop dp un gd lwN fS26 L fa (.ref 162) (cellsFrom (L + 1) fS26.names []) []) (execs lw4 (envOfC lwN fS26 L fa (.ref 162))) (EndsLaw g L s) (fun _ _ => False) { s with heap := h', toks := tk' }) :
    wpAny (model pw w) (ktrTop dp un gd lwN fS26 L fa (.ref 162) (cellsFrom (L + 1) fS26.names []) []) (execs lw3 (envOfC lwN fS26 L fa (.ref 162))) (EndsLaw g L s) (fun _ _ => False) { s with heap := h₁, toks := tk } := by
  cases sg with
  | true =>
    show wpAny _ _ _ _ _ _
    k_fold
    k_steps
    · show wpAny _ _ _ _ _ _
      rename Fr _ _ _ _ => F8
      rename News _ _ _ _ => N8
      exact k _ _ _ _ 1 16 _ _ F8 (news_sub N8 fun p hp => List.Mem.tail _ hp) (by assumption) rfl (fun x hx => if_neg hx) (fun _ => rfl) (by decide) (by decide) (by decide) (by decide) (by decide)
  | false =>
    rcases mod4 a with he | he | he | he
    · show wpAny _ _ _ _ _ _
      k_fold
      k_steps
      show wpAny _ _ _ _ _ _
      rename Fr _ _ _ _ => F8
      rename News _ _ _ _ => N8
      rename Obj.data _ = Data.cell (some (Value.int _ _)) => d8
      exact k _ _ _ _ 8 16 _ _ F8 N8 d8 rfl (fun x hx => if_neg hx) (fun h => nomatch h) (by decide) (by decide) (by decide) (by decide) (by decide)
    · show wpAny _ _ _ _ _ _
      k_fold
      k_steps
      show wpAny _ _ _ _ _ _
      rename Fr _ _ _ _ => F8
      rename News _ _ _ _ => N8
      rename Obj.data _ = Data.cell (some (Value.int _ _)) => d8
      exact k _ _ _ _ 16 24 _ _ F8 N8 d8 rfl (fun x hx => if_neg hx) (fun h => nomatch h) (by decide) (by decide) (by decide) (by decide) (by decide)
    · show wpAny _ _ _ _ _ _
      k_fold
      k_steps
      show wpAny _ _ _ _ _ _
      rename Fr _ _ _ _ => F8
      rename News _ _ _ _ => N8
      rename Obj.data _ = Data.cell (some (Value.int _ _)) => d8
      exact k _ _ _ _ 20 20 _ _ F8 N8 d8 rfl (fun x hx => if_neg hx) (fun h => nomatch h) (by decide) (by decide) (by decide) (by decide) (by decide)
    · show wpAny _ _ _ _ _ _
      k_fold
      k_steps
      show wpAny _ _ _ _ _ _
      rename Fr _ _ _ _ => F8
      rename News _ _ _ _ => N8
      rename Obj.data _ = Data.cell (some (Value.int _ _)) => d8
      exact k _ _ _ _ 5 32 _ _ F8 N8 d8 rfl (fun x hx => if_neg hx) (fun h => nomatch h) (by decide) (by decide) (by decide) (by decide) (by decide)
end
end Mine
end
-- KA
section
open PySem PySem.W PySem.Spec PySem.Calls PyProof.Rows PyProof.Rows.LCg
set_option maxRecDepth 100000
set_option maxHeartbeats 400000
set_option linter.unusedVariables false
namespace Mine
theorem ru96 : True := by
  k_with_none
  k_with "12 eval Name" => ((k_here; (first | (with_reducible show wpAny _ _ (eval (Expr.Name _ _) (envOf _ _ _ _ _)) _ _ _) | (with_reducible show wpAny _ _ (eval (Expr.Name _ _) (envOfC _ _ _ _ _)) _ _ _) | (with_reducible show wpAny _ _ (eval (Expr.Name _ _) (envX _ _ _ _ _ _)) _ _ _)); k_dflt (first
      | (refine' nameX_K ?F_0 ?X_0 ?T_0 ?e_0 ?_ ?a_0 ?b_0; (case b_0 => kernel_rfl!); (case a_0 => rfl); (case F_0 => k_asm); (case X_0 => k_asm); (case T_0 => k_asm); (case e_0 => k_is); k_whole)
      | (refine' nameX_L ?F_0 ?v_0 ?_ ?a_0 ?b_0; (case b_0 => kernel_rfl!); (case a_0 => rfl); (case F_0 => k_asm); (case v_0 => rfl); k_whole)
      | (refine' nameX_B ?F_0 ?X_0 ?T_0 ?e_0 ?v_0 ?n_0 ?_ ?a_0 ?b_0; (case b_0 => kernel_rfl!); (case a_0 => rfl); (case F_0 => k_asm); (case X_0 => k_asm); (case T_0 => k_asm); (case e_0 => k_is); (case v_0 => boot_fast); (case n_0 => decide); k_whole))))
  k_with "12 callWith ref" => ((k_here; (with_reducible show wpAny _ _ (callWith _ (Value.ref _) _ (backTo _ (starEach (_ :: _) _)) (backToKw _ _)) _ _ _); k_dflt (refine' callWith_KW ?k1_0 ?k2_0 ?k3_0 ?_; (case k1_0 => k_asm); (case k2_0 => k_is); (case k3_0 => exact rfl); k_whole)))
  trivial
theorem code162 {w : World} {h : Heap} (X : (K w.params).In h) : CodeHd h 162 160 := codeHd_of_K X (by kernel_rfl)
theorem perm3 {g h : Heap} {L : Addr} {a b c t e : Addr × Obj} {news : List (Addr × Obj)} (N : News g L h (a :: b :: c :: t :: e :: news)) : News g L h (t :: e :: ([a, b, c] ++ news)) :=
  news_sub N fun p hp => by
    simp only [List.mem_cons, List.mem_append, List.not_mem_nil, or_false] at hp ⊢
    rcases hp with h | h | (h | h | h) | h <;> simp only [h, true_or, or_true]
section
set_option hygiene false in
local macro_rules | `(tactic| k_all) => `(tactic| first | exact hne160 | exact hne4)
theorem ru95 : True := by
  k_with_none
  k_with "12 eval Name" => ((k_here; (first | (with_reducible show wpAny _ _ (eval (Expr.Name _ _) (envOf _ _ _ _ _)) _ _ _) | (with_reducible show wpAny _ _ (eval (Expr.Name _ _) (envOfC _ _ _ _ _)) _ _ _) | (with_reducible show wpAny _ _ (eval (Expr.Name _ _) (envX _ _ _ _ _ _)) _ _ _)); k_dflt (first
      | (refine' nameX_K ?F_0 ?X_0 ?T_0 ?e_0 ?_ ?a_0 ?b_0; (case b_0 => kernel_rfl!); (case a_0 => rfl); (case F_0 => k_asm); (case X_0 => k_asm); (case T_0 => k_asm); (case e_0 => k_is); k_whole)
      | (refine' nameX_L ?F_0 ?v_0 ?_ ?a_0 ?b_0; (case b_0 => kernel_rfl!); (case a_0 => rfl); (case F_0 => k_asm); (case v_0 => rfl); k_whole)
      | (refine' nameX_B ?F_0 ?X_0 ?T_0 ?e_0 ?v_0 ?n_0 ?_ ?a_0 ?b_0; (case b_0 => kernel_rfl!); (case a_0 => rfl); (case F_0 => k_asm); (case X_0 => k_asm); (case T_0 => k_asm); (case e_0 => k_is); (case v_0 => boot_fast); (case n_0 => decide); k_whole))))
  k_with "12 callWith ref" => ((k_here; (with_reducible show wpAny _ _ (callWith _ (Value.ref _) _ (backTo _ (starEach (_ :: _) _)) (backToKw _ _)) _ _ _); k_dflt (refine' callWith_KW ?k1_0 ?k2_0 ?k3_0 ?_; (case k1_0 => k_asm); (case k2_0 => k_is); (case k3_0 => exact rfl); k_whole)))
  k_with "1 execs cons" => ((k_here; (with_reducible show wpAny _ _ (execs (Stmt.Assign [Expr.Name (Str.ofString "secret") _] _ _ :: _) _) _ _ _); refine hold ?_))
  k_with "2 eval Name" => ((k_here; k_dflt (refine' nameX_L ?zF_77 ?zv_77 ?_ ?za_77 ?zb_77; (case zb_77 => kernel_rfl!); (case zF_77 => k_asm); (case za_77 => rfl); (case zv_77 => first | with_reducible assumption | rfl | assumption); k_whole)))
  k_with "1 eval Name" => ((k_here; k_dflt (refine' nameX_C ?zN_77 ?zc_77 ?zm_77 ?zd_77 ?_ ?za_77 ?zb_77; (case zb_77 => kernel_rfl!); (case za_77 => rfl); (case zN_77 => k_asm); (case zc_77 => rfl); (case zm_77 => (repeat (first | with_reducible assumption | refine List.mem_cons_of_mem _ ?_))); (case zd_77 => assumption); k_whole)))
  k_with "1 storeName" => ((k_here; (with_reducible show wpAny _ _ (storeName _ (Str.ofString "row") _) _ _ _); (rename News _ _ _ _ => oN9); k_dflt (refine storeX_C (by k_asm) oN9 (by rfl) (.tail (by k_ne) (.tail (by k_ne) (.tail (by k_ne) (.tail (by k_ne) (.head hne4))))) e4 ?_ (by rfl) (by rfl)); (intro h9 o9' F9 N9 d9'); (try dsimp only at N9); clear oN9))
  trivial
theorem segA4 (w : World) (fa : Addr) (size block : Nat) (tz tb : Tok)
    (news : List (Addr × Obj))
    (dp un : Nat) (gd : Option (List Code)) (A₀ : Around) (g : Heap) (L : Addr) (h₁ : Heap) (tk : Nat) (s : Shared) (p : Program) (loose : List Str) (mean : ExcName → Option Value) (mg mb : Str → Option Value) (m : Str → Option Value) (o4 o7 : Obj) (v4 : Option Value)
    (B : Below A₀ g [] g) (F : Fr g L h₁ m) (X : (K w.params).In g) (N : News g L h₁ ((160, tabObj #[]) :: (L + 1 + 1 + 1 + 1, o4) :: news)) (T : Top p loose mean mg mb g) (e4 : o4.data = .cell v4) (c7 : (L + 1 + 1 + 1 + 1 + 1 + 1 + 1, o7) ∈ news) (e7 : o7.data = .cell (some (.int (size : Int) tz)))
    (hL : @LT.lt Nat _ 160 L) (hne4 : ∀ p ∈ news, p.1 ≠ L + 1 + 1 + 1 + 1) (hne160 : ∀ p ∈ ((L + 1 + 1 + 1 + 1, o4) :: news), p.1 ≠ 160)
    (m4 : m (Str.ofString "block") = some (.int (block : Int) tb))
    (hd : dp + 20 < recursionLimit) (hu : un + 300 < cLine)
    (k : ∀ h' tk' o4' ra fh ps new, Fr g L h' m → News g L h' ((160, tabObj ps) :: (L + 1 + 1 + 1 + 1, o4') :: (new ++ news)) → o4'.data = .cell (some (.ref ra)) → RowAt ra fh size block ((L + 1 + 1 + 1 + 1 + 1 + 1 + 1, o7) :: new) → HashAt fh size ((L + 1 + 1 + 1 + 1 + 1 + 1 + 1, o7) :: new) → (∀ q ∈ new, @LT.lt Nat _ (L + 1 + 1 + 1 + 1 + 1 + 1 + 1) q.1) →
      wpAny (model pw w) (ktrTop dp un gd lwN fS26 L fa (.ref 162) (cellsFrom (L + 1) fS26.names []) []) (execs lw5 (envOfC lwN fS26 L fa (.ref 162))) (EndsLaw g L s) (fun _ _ => False) { s with heap := h', toks := tk' }) :
    wpAny (model pw w) (ktrTop dp un gd lwN fS26 L fa (.ref 162) (cellsFrom (L + 1) fS26.names []) []) (execs lw4 (envOfC lwN fS26 L fa (.ref 162))) (EndsLaw g L s) (fun _ _ => False) { s with heap := h₁, toks := tk } := by
  have C162 := code162 X
  show wpAny _ _ _ _ _ _
  k_fold
  k_steps
  · show wpAny _ _ _ _ _ _
    rename Fr _ _ _ _ => F8
    rename News _ _ _ _ => N8
    rename Obj.data _ = Data.cell (some (Value.ref _)) => d8
    rename Obj.data _ = Data.fields _ => q1
    rename _ = some (Value.str _ _) => q2
    rename _ ∧ _ ∧ _ ∧ _ ∧ AllLt _ _ => lD
    rename _ ∧ _ ∧ AllLt _ _ => lc
    rename @LT.lt Addr _ _ _ => lf
    have z := allLt_all lc.2.2 _ c7
    have zD := lD.1
    refine k _ _ _ _ _ _ _ F8 (perm3 N8) d8 ⟨_, _, .tail _ (.head _)⟩ ⟨_, _, _, _, _, o7, _, _, _, .tail _ (.tail _ (.head _)), .tail _ (.tail _ (.tail _ (.head _))), q1, q2, .head _, e7⟩ ?_
    refine List.forall_mem_cons.mpr ⟨?_, List.forall_mem_cons.mpr ⟨?_, List.forall_mem_cons.mpr ⟨?_, List.forall_mem_nil _⟩⟩⟩
    · exact Nat.lt_trans z (Nat.lt_trans lf zD)
    · exact Nat.lt_trans z lf
    · exact z
end
end Mine
end
-- KB
section
open PySem PySem.W PySem.Spec PySem.Calls PyProof.Rows PyProof.Rows.LCg
set_option maxRecDepth 100000
set_option maxHeartbeats 400000
set_option linter.unusedVariables false
namespace Mine
theorem ru97 : True := by
  k_with_none
  k_with "12 eval Name" => ((k_here; (first | (with_reducible show wpAny _ _ (eval (Expr.Name _ _) (envOf _ _ _ _ _)) _ _ _) | (with_reducible show wpAny _ _ (eval (Expr.Name _ _) (envOfC _ _ _ _ _)) _ _ _) | (with_reducible show wpAny _ _ (eval (Expr.Name _ _) (envX _ _ _ _ _ _)) _ _ _)); k_dflt (first
      | (refine' nameX_K ?F_0 ?X_0 ?T_0 ?e_0 ?_ ?a_0 ?b_0; (case b_0 => kernel_rfl!); (case a_0 => rfl); (case F_0 => k_asm); (case X_0 => k_asm); (case T_0 => k_asm); (case e_0 => k_is); k_whole)
      | (refine' nameX_L ?F_0 ?v_0 ?_ ?a_0 ?b_0; (case b_0 => kernel_rfl!); (case a_0 => rfl); (case F_0 => k_asm); (case v_0 => rfl); k_whole)
      | (refine' nameX_B ?F_0 ?X_0 ?T_0 ?e_0 ?v_0 ?n_0 ?_ ?a_0 ?b_0; (case b_0 => kernel_rfl!); (case a_0 => rfl); (case F_0 => k_asm); (case X_0 => k_asm); (case T_0 => k_asm); (case e_0 => k_is); (case v_0 => boot_fast); (case n_0 => decide); k_whole))))
  k_with "12 callWith ref" => ((k_here; (with_reducible show wpAny _ _ (callWith _ (Value.ref _) _ (backTo _ (starEach (_ :: _) _)) (backToKw _ _)) _ _ _); k_dflt (refine' callWith_KW ?k1_0 ?k2_0 ?k3_0 ?_; (case k1_0 => k_asm); (case k2_0 => k_is); (case k3_0 => exact rfl); k_whole)))
  trivial
theorem lawAll (w : World) (fa sl : Addr) (vs : List Value) (rs : List Int) (hI : IntsAre vs rs) (hv : vs.length ≤ 63)
    (dp un : Nat) (gd : Option (List Code)) (A₀ : Around) (g : Heap) (HS : g.IsList sl vs.toArray) (L : Addr) (h₁ : Heap) (tk : Nat) (s : Shared) (p : Program) (loose : List Str) (mean : ExcName → Option Value) (mg mb : Str → Option Value) (m : Str → Option Value) (o1 o2 o3 o4 o5 o6 o7 : Obj) (v2 v3 v4 v5 v6 v7 : Option Value)
    (B : Below A₀ g [] g) (F : Fr g L h₁ m) (X : (K w.params).In g) (N : News g L h₁ ((L + 1 + 1 + 1 + 1 + 1 + 1 + 1, o7) :: (L + 1 + 1 + 1 + 1 + 1 + 1, o6) :: (L + 1 + 1 + 1 + 1 + 1, o5) :: (L + 1 + 1 + 1 + 1, o4) :: (L + 1 + 1 + 1, o3) :: (L + 1 + 1, o2) :: (L + 1, o1) :: (58, tabObj #[]) :: (160, tabObj #[]) :: [])) (T : Top p loose mean mg mb g)
    (e1 : o1.data = .cell (some (.ref sl))) (e2 : o2.data = .cell v2) (e3 : o3.data = .cell v3) (e4 : o4.data = .cell v4) (e5 : o5.data = .cell v5) (e6 : o6.data = .cell v6) (e7 : o7.data = .cell v7)
    (hL : @LT.lt Nat _ 160 L) (hd : dp + 20 < recursionLimit) (hu : un + 300 < cLine) :
    wpAny (model pw w) (ktrTop dp un gd lwN fS26 L fa (.ref 162) (cellsFrom (L + 1) fS26.names []) []) (execs fB26 (envOfC lwN fS26 L fa (.ref 162))) (EndsLaw g L s) (fun _ _ => False) { s with heap := h₁, toks := tk } := by
  have N0 : News g L h₁ ((L + 1 + 1, o2) :: ((L + 1, o1) :: (L + 1 + 1 + 1, o3) :: (L + 1 + 1 + 1 + 1, o4) :: (L + 1 + 1 + 1 + 1 + 1, o5) :: (L + 1 + 1 + 1 + 1 + 1 + 1, o6) :: (L + 1 + 1 + 1 + 1 + 1 + 1 + 1, o7) :: (58, tabObj #[]) :: (160, tabObj #[]) :: [])) := news_sub N (by (repeat (first | exact List.forall_mem_nil _ | refine List.forall_mem_cons.mpr ⟨by k_mem, ?_⟩)))
  refine segA0 w fa sl vs rs hI (by omega) _ dp un gd A₀ g HS L h₁ tk s p loose mean mg mb m o1 o2 v2 B F X N0 T (by k_mem) e1 e2 (by (repeat (first | exact List.forall_mem_nil _ | refine List.forall_mem_cons.mpr ⟨by (first | (show @Ne Nat _ _; omega) | k_ne), ?_⟩))) hd hu ?_
  clear N N0 F e2 v2
  intro h₂ tk₂ m₁ o2' a ta b tb c tc d td F N e2 ma mb1 mc
  have N0 : News g L h₂ ((L + 1 + 1 + 1, o3) :: ((L + 1, o1) :: (L + 1 + 1, o2') :: (L + 1 + 1 + 1 + 1, o4) :: (L + 1 + 1 + 1 + 1 + 1, o5) :: (L + 1 + 1 + 1 + 1 + 1 + 1, o6) :: (L + 1 + 1 + 1 + 1 + 1 + 1 + 1, o7) :: (58, tabObj #[]) :: (160, tabObj #[]) :: [])) := news_sub N (by (repeat (first | exact List.forall_mem_nil _ | refine List.forall_mem_cons.mpr ⟨by k_mem, ?_⟩)))
  refine segA1 w fa sl vs rs hI hv _ dp un gd A₀ g HS L h₂ tk₂ s p loose mean mg mb m₁ o1 o3 v3 B F X N0 T (by k_mem) e1 e3 (by (repeat (first | exact List.forall_mem_nil _ | refine List.forall_mem_cons.mpr ⟨by (first | (show @Ne Nat _ _; omega) | k_ne), ?_⟩))) hd hu ?_
  clear N N0 F e3 v3 h₁ tk h₂ tk₂
  intro h₁ tk o3' rl rvs rrs kk F N e3 hrI hrv hrl
  have hrl1 : @LT.lt Nat _ (L + 1 + 1 + 1 + 1 + 1 + 1 + 1) rl := hrl (L + 1 + 1 + 1 + 1 + 1 + 1 + 1, o7) (by k_mem)
  clear hrl
  refine segA2 w fa a ta _ dp un gd A₀ g L h₁ tk s p loose mean mg mb m₁ B F X N T ma hd hu ?_
  clear F
  rename News _ _ _ _ => N00
  clear N00
  intro h₂ tk₂ m₂ sg F N m2s m2o
  have N0 : News g L h₂ ((L + 1 + 1 + 1 + 1 + 1 + 1 + 1, o7) :: ((L + 1, o1) :: (L + 1 + 1, o2') :: (L + 1 + 1 + 1, o3') :: (L + 1 + 1 + 1 + 1, o4) :: (L + 1 + 1 + 1 + 1 + 1, o5) :: (L + 1 + 1 + 1 + 1 + 1 + 1, o6) :: (58, tabObj #[]) :: (160, tabObj #[]) :: ((rl, ({ cls := .type "list", data := .seq (List.toArray rvs) kk } : Obj)) :: []))) := news_sub N (by (repeat (first | exact List.forall_mem_nil _ | refine List.forall_mem_cons.mpr ⟨by k_mem, ?_⟩)))
  refine segA3 w fa a ta sg _ dp un gd A₀ g L h₂ tk₂ s p loose mean mg mb m₂ o7 v7 B F X N0 T e7 (by (repeat (first | exact List.forall_mem_nil _ | refine List.forall_mem_cons.mpr ⟨by (first | (show @Ne Nat _ _; omega) | k_ne), ?_⟩))) ((m2o _ (by decide)).trans ma) m2s hd hu ?_
  clear N N0 F e7 v7 h₁ tk h₂ tk₂
  intro h₁ tk m₃ o7' size block tz tbk F N e7 m3b m3o hsg z1 z2 z3 z4 z5
  have N0 : News g L h₁ ((160, tabObj #[]) :: (L + 1 + 1 + 1 + 1, o4) :: ((L + 1, o1) :: (L + 1 + 1, o2') :: (L + 1 + 1 + 1, o3') :: (L + 1 + 1 + 1 + 1 + 1, o5) :: (L + 1 + 1 + 1 + 1 + 1 + 1, o6) :: (L + 1 + 1 + 1 + 1 + 1 + 1 + 1, o7') :: (58, tabObj #[]) :: ((rl, ({ cls := .type "list", data := .seq (List.toArray rvs) kk } : Obj)) :: []))) := news_sub N (by (repeat (first | exact List.forall_mem_nil _ | refine List.forall_mem_cons.mpr ⟨by k_mem, ?_⟩)))
  refine segA4 w fa size block tz tbk _ dp un gd A₀ g L h₁ tk s p loose mean mg mb m₃ o4 o7' v4 B F X N0 T e4 (by k_mem) e7 hL (by (repeat (first | exact List.forall_mem_nil _ | refine List.forall_mem_cons.mpr ⟨by (first | (show @Ne Nat _ _; omega) | k_ne), ?_⟩))) (by (repeat (first | exact List.forall_mem_nil _ | refine List.forall_mem_cons.mpr ⟨by (first | (show @Ne Nat _ _; omega) | k_ne), ?_⟩))) m3b hd hu ?_
  clear N N0 F e4 v4 h₁ tk
  intro h₁ tk o4' ra fh ps new F N e4 HR HH hnew
  have hnewE : ∀ (c : Nat), c ≤ L + 1 + 1 + 1 + 1 + 1 + 1 + 1 → ∀ q ∈ new, q.1 ≠ c := fun c hc q hq e => by
    have := hnew q hq
    rw [e] at this
    exact absurd this (Nat.not_lt.mpr hc)
  have N0 : News g L h₁ ((L + 1 + 1 + 1 + 1 + 1, o5) :: ((L + 1, o1) :: (L + 1 + 1, o2') :: (L + 1 + 1 + 1, o3') :: (L + 1 + 1 + 1 + 1, o4') :: (L + 1 + 1 + 1 + 1 + 1 + 1, o6) :: (L + 1 + 1 + 1 + 1 + 1 + 1 + 1, o7') :: (58, tabObj #[]) :: (160, tabObj ps) :: ((rl, ({ cls := .type "list", data := .seq (List.toArray rvs) kk } : Obj)) :: new))) := news_sub N (by
    repeat (first | exact fun q hq => List.mem_cons_of_mem _ (List.mem_cons_of_mem _ (List.mem_append_left _ hq)) | refine List.forall_mem_cons.mpr ⟨(by first | k_mem | exact List.mem_cons_of_mem _ (List.mem_cons_of_mem _ (List.mem_append_right _ (by k_mem)))), ?_⟩))
  clear N
  have m3a : m₃ (Str.ofString "a") = some (.int a ta) := (m3o _ (by decide)).trans ((m2o _ (by decide)).trans ma)
  have m3bb : m₃ (Str.ofString "b") = some (.int b tb) := (m3o _ (by decide)).trans ((m2o _ (by decide)).trans mb1)
  have m3c : m₃ (Str.ofString "c") = some (.int c tc) := (m3o _ (by decide)).trans ((m2o _ (by decide)).trans mc)
  have m3s : m₃ (Str.ofString "single") = some (.bool sg) := (m3o _ (by decide)).trans m2s
  clear m3o m2o m2s ma mb1 mc
  refine segB5 w fa rl b tb rvs rrs kk hrI (by omega) _ (by k_mem) dp un gd A₀ g L h₁ tk s p loose mean mg mb m₃ o3' B F X N0 T (by k_mem) e3 m3bb hd hu ?_
  clear F N0
  intro h₂ tk₂ m₄ S0 ts F N hS m4s m4o
  refine segB6 w fa rl c tc rvs rrs kk hrI (by omega) _ (by k_mem) dp un gd A₀ g L h₂ tk₂ s p loose mean mg mb m₄ o3' o5 v5 B F X N T (by k_mem) e3 ((m4o _ (by decide)).trans m3c) e5 (by repeat (first | exact hnewE _ (by omega) | refine List.forall_mem_cons.mpr ⟨by (first | (show @Ne Nat _ _; omega) | k_ne), ?_⟩)) hd hu ?_
  clear F N h₁ tk e5 v5
  intro h₁ tk T0 tt o5' F N hT e5
  refine segC7 w fa sg d td _ dp un gd A₀ g L h₁ tk s p loose mean mg mb m₄ o2' B F X N T (by k_mem) e2 ((m4o _ (by decide)).trans m3s) hd hu ?_
  clear F N h₂ tk₂
  intro h₂ tk₂ m₅ rounds tr F N hr1 hr2 m5r m5o
  refine segC8 w ra fa sg a d S0 T0 size ta td ts tt tz z1 z2 hS hT _ dp un gd A₀ g L h₂ tk₂ s p loose mean mg mb m₅ o2' o5' o7' B F X N T (by k_mem) e2 e5 (by k_mem) e7 (by repeat (first | exact hnewE _ (by omega) | refine List.forall_mem_cons.mpr ⟨by (first | (show @Ne Nat _ _; omega) | k_ne), ?_⟩)) ((m5o _ (by decide)).trans ((m4o _ (by decide)).trans m3a)) ((m5o _ (by decide)).trans m4s) ((m5o _ (by decide)).trans ((m4o _ (by decide)).trans m3s)) rounds tr hr1 hr2 m5r hd hu ?_
  have m5b : m₅ (Str.ofString "block") = some (.int (block : Int) tbk) := (m5o _ (by decide)).trans ((m4o _ (by decide)).trans m3b)
  clear F N h₁ tk e5 m5o m4o m3s m3c m3bb m3a m4s m3b
  intro h₁ tk m₆ av bv secret salt long short o5'' u1 u2 u3 u4 u5 F N hav hbv hs hm hlo1 hlo2 hsh q1 q2 q3 q4 q5 q6 e5 q7 q8
  have q8 := q8.trans m5b
  have N0 : News g L h₁ ((L + 1 + 1 + 1 + 1 + 1 + 1, o6) :: (58, tabObj #[]) :: ((L + 1, o1) :: (L + 1 + 1, o2') :: (L + 1 + 1 + 1, o3') :: (L + 1 + 1 + 1 + 1, o4') :: (L + 1 + 1 + 1 + 1 + 1, o5'') :: (L + 1 + 1 + 1 + 1 + 1 + 1 + 1, o7') :: (160, tabObj ps) :: ((rl, ({ cls := .type "list", data := .seq (List.toArray rvs) kk } : Obj)) :: new))) := news_sub N (by
    repeat (first | refine List.forall_mem_cons.mpr ⟨by k_mem, ?_⟩ | exact fun q hq => (by repeat (first | exact hq | refine List.mem_cons_of_mem _ ?_))))
  have hsD : ∀ q ∈ ((L + 1 + 1 + 1 + 1 + 1 + 1 + 1, o7') :: new), q ∈ ((L + 1, o1) :: (L + 1 + 1, o2') :: (L + 1 + 1 + 1, o3') :: (L + 1 + 1 + 1 + 1, o4') :: (L + 1 + 1 + 1 + 1 + 1, o5'') :: (L + 1 + 1 + 1 + 1 + 1 + 1 + 1, o7') :: (160, tabObj ps) :: ((rl, ({ cls := .type "list", data := .seq (List.toArray rvs) kk } : Obj)) :: new)) := by
    repeat (first | refine List.forall_mem_cons.mpr ⟨by k_mem, ?_⟩ | exact fun q hq => (by repeat (first | exact hq | refine List.mem_cons_of_mem _ ?_)))
  have HR := HR.sub hsD
  have HH := HH.sub hsD
  clear hsD N
  refine segD w ra fh fa av secret salt hav size block tz u1 u5 tbk z1 z2 z3 z4 z5 hs hm _ HR HH dp un gd A₀ g L h₁ tk s p loose mean mg mb m₆ o4' o5'' o6 o7' v6 B F X N0 T (by k_mem) e4 (by k_mem) e5 e6 (by k_mem) e7 (by omega) (by repeat (first | exact hnewE _ (by omega) | refine List.forall_mem_cons.mpr ⟨by (first | (show @Ne Nat _ _; omega) | k_ne), ?_⟩)) (by repeat (first | exact hnewE _ (by omega) | refine List.forall_mem_cons.mpr ⟨by (first | (show @Ne Nat _ _; omega) | k_ne), ?_⟩)) q1 q3 q8 hd hu ?_
  clear F N0 h₂ tk₂ HR HH
  intro h₂ tk₂ m₇ news' l c' F N m7o HR HH HM HP ho6 hsub h58
  obtain ⟨o6', c6, e6'⟩ := ho6
  obtain ⟨ps58, H58⟩ := h58
  have k7 : ∀ x, x ≠ Str.ofString "keyed" → x ≠ Str.ofString "message" → ∀ v, m₆ x = some v → m₇ x = some v := fun x hx hy v hv => (m7o x hx hy).trans hv
  refine segE w ra fh fa c' l av bv secret salt hav hbv size block rounds long tz tbk u5 u1 u2 u3 u4 z1 z2 z3 z4 z5 hs hm hr1 hr2 hlo1 hlo2 news' HR HH HM HP dp un gd A₀ g L h₂ tk₂ s p loose mean mg mb m₇ o4' o5'' o6' o7' B F X N T (hsub _ (by k_mem)) e4 (hsub _ (by k_mem)) e5 c6 e6' (hsub _ (by k_mem)) e7 (k7 _ (by decide) (by decide) _ q1) (k7 _ (by decide) (by decide) _ q2) (k7 _ (by decide) (by decide) _ q4) (k7 _ (by decide) (by decide) _ q5) hd hu ?_
  clear F N h₁ tk
  intro h₁ tk F N
  refine segF w ra fh fa c' l av bv secret salt hav hbv sg size block hsg d (d.fmod 4).toNat (fmod_toNat (by decide)) (by have := fmod_lt (d := d) (b := 4) (by decide); omega) td u5 z4 z5 hs hm news' HR HH HM HP dp un gd A₀ g L h₁ tk s p loose mean mg mb m₇ o2' o4' o5'' o6' B F X N T (hsub _ (by k_mem)) e2 (hsub _ (by k_mem)) e4 (hsub _ (by k_mem)) e5 c6 e6' (k7 _ (by decide) (by decide) _ q1) (k7 _ (by decide) (by decide) _ q2) (k7 _ (by decide) (by decide) _ q7) hd hu ?_
  clear F N h₂ tk₂
  intro h₂ tk₂ m₈ F N m8o
  have k8 : ∀ x, x ≠ Str.ofString "keyed" → x ≠ Str.ofString "message" → x ≠ Str.ofString "many" → ∀ v, m₆ x = some v → m₈ x = some v := fun x hx hy hz v hv => (m8o x hz).trans (k7 x hx hy v hv)
  exact segG w ra fh fa av bv secret salt hav hbv size block rounds short d td tz tbk u5 u1 u2 u4 z1 z2 z5 hs hm hr1 hr2 hsh news' HR HH ps58 ps H58 (hsub _ (by k_mem)) dp un gd A₀ g L h₂ tk₂ s p loose mean mg mb m₈ o2' o4' o5'' o7' B F X N T (hsub _ (by k_mem)) e2 (hsub _ (by k_mem)) e4 (hsub _ (by k_mem)) e5 (hsub _ (by k_mem)) e7 (k8 _ (by decide) (by decide) (by decide) _ q1) (k8 _ (by decide) (by decide) (by decide) _ q2) (k8 _ (by decide) (by decide) (by decide) _ q3) (k8 _ (by decide) (by decide) (by decide) _ q4) (k8 _ (by decide) (by decide) (by decide) _ q6) hd hu
end Mine
end
-- KC
section
open PySem PySem.W PySem.Spec PySem.Calls PyProof.Rows
set_option maxRecDepth 100000
set_option maxHeartbeats 4000000
set_option linter.unusedVariables false
namespace Mine
theorem ends_top {cl : Str → Option Addr} {mean : ExcName → Option Value} {rs : List Int} {g : Heap} {L : Addr} {s s₁ : Shared} {fl : Flow} {s' : Shared} (hh : s₁.heap = g) (ho : s.os = s₁.os) (hgn : s.gens = #[]) (h : EndsLaw g L s fl s') :
    GoodW PySem.Challenge.rw_iw0005_01.row.claim cl mean [ofPy (PyData.list (List.map PyData.int rs))] s₁ (.ok (.ret (flV fl))) s' ∧ GrownAll [(60, 58), (162, 160)] s'.heap := by
  obtain ⟨tb, h', tk, m', news', ps1, ps2, e1, rfl, rfl, F, N, H58, H160⟩ := h
  rw [e1]
  refine ⟨⟨Or.inl ⟨_, _, [], rfl, fun _ => rfl, ReadsW.bool _, ?_, fun _ => ⟨List.nodup_nil, nofun⟩⟩, fun b o e => ?_, ho, hgn⟩, GrownAt.of N H58, GrownAt.of N H160, True.intro⟩
  · exact postW_of (by wrow_shape) (by wtm_val) (by w_fin)
  · rw [hh] at e
    exact F.keep b o e
theorem top : (PySem.Challenge.rw_iw0005_01).Holds := by
  refine hd ?_
  show WalkO viewQ looseQ (XL viewQ []) (kmHook K asK asK_eq [(nat_lit 58), (nat_lit 160)]).says (PySem.Challenge.rw_iw0005_01).row.toRowW lawD [] (fun f vs => PySem.call f vs)
  w_strict (
  k_fill
  intro w s₀ s₁ mg mb G Y fa o pm cd doc dV kV ho hd hcd hD hmg hg args vals as hpre hlay hrd hwl hlo
  have KX := km_in_of Y
  km_tabs Y
  have X := (Ground.X G).1
  have V := (Ground.X G).2
  refine Ground.open G ?_
  intro T B D TE TW
  try (refine guard_noD D (by decide +kernel) ?_; clear D)
  replace hmg : mg (Str.ofString "law") = _ := hmg
  km_lay T hmg ho hd cd
  clear hmg
  wrow_args hpre hlay hrd hwl hlo
  all_goals (
    first | refine callC_kw (enter_call ?_) | refine enter_call ?_
    w_top on
    kn_posts
    w_call any ho hd hcd hD T F
    clear hd
    kn_ghosts F T
    k_drop
    skip))
  rename IntsAre _ _ => hI8
  rename Below _ _ _ _ => B8
  rename Top topProg _ _ _ _ _ => T8
  rename Frag.In (K _) _ => X8
  rename News _ _ _ _ => N8
  rename Fr _ _ _ _ => F8
  rename _ ∧ _ => l8
  rename ¬ _ => c8
  have q8 := hI8.length
  refine wpAny_mono (lawAll w fa _ _ _ hI8 (by omega) 302 7 (some []) callerA _ lifted _ _ _ s₁ _ _ _ _ _ _ _ _ _ _ _ _ _ _ _ _ _ _ _ B8 F8 X8 N8 T8 (by assumption) (by assumption) (by assumption) (by assumption) (by assumption) (by assumption) (by assumption) l8.2 (by decide) (by decide)) (fun f s' h => ?_) (fun _ _ h => h.elim)
  cases f <;> exact ends_top (s₁ := { s₁ with heap := ghostOf s₁.heap [(60, 58), (162, 160)] }) rfl rfl hg h
end Mine
end
theorem PySem.Challenge.cw_iw0005_01_holds : PySem.Challenge.rw_iw0005_01.Holds :=
  Mine.top
