import PyProof.Rows.All
import Wide.All
import OpenK.AllK
import Wide.FinOn
import Lean
import PySem.Challenge.RW_jx0031_01
open PySem PySem.W PyProof.Rows PySem.Calls
set_option Elab.async false
set_option maxRecDepth 100000
set_option maxHeartbeats 8000000
set_option linter.all false
namespace Jx
local macro_rules | `(tactic| walk_at $s:str) => `(tactic| k_extra $s)
-- JxHead
section
abbrev pw : Program := PySem.Challenge.pw_jx0031_01
noncomputable def defArgs : Stmt → Arguments
  | .FunctionDef _ a _ _ _ _ _ _ _ _ => a
  | _ => ⟨[], [], none, [], [], none, []⟩
noncomputable def defBody : Stmt → List Stmt
  | .FunctionDef _ _ b _ _ _ _ _ _ _ => b
  | _ => []
noncomputable def defScope : Stmt → Scope
  | .FunctionDef _ _ _ _ _ _ s _ _ _ => s
  | _ => default
noncomputable def life0 : Life := {}
noncomputable def envT : Env := { scope := pw.main.scope, locals := mainNs, globals := mainNs, cells := [], code := .ref 13, frame := some 14 }
noncomputable def cE : Code := .body (behindTheImports pw) envT
noncomputable def fnP15 : Arguments := Subtype.val (show {x : Arguments // x = defArgs (pw.main.body[15]?.getD (.Pass default))} from by
  refine ⟨?a, ?b⟩
  case b => conv => rhs; whnf)
noncomputable def fnB15 : List Stmt := Subtype.val (show {x : List Stmt // x = defBody (pw.main.body[15]?.getD (.Pass default))} from by
  refine ⟨?a, ?b⟩
  case b => conv => rhs; whnf)
noncomputable def fnS15 : Scope := Subtype.val (show {x : Scope // x = defScope (pw.main.body[15]?.getD (.Pass default))} from by
  refine ⟨?a, ?b⟩
  case b => conv => rhs; whnf)
noncomputable def fnP17 : Arguments := Subtype.val (show {x : Arguments // x = defArgs (pw.main.body[17]?.getD (.Pass default))} from by
  refine ⟨?a, ?b⟩
  case b => conv => rhs; whnf)
noncomputable def fnB17 : List Stmt := Subtype.val (show {x : List Stmt // x = defBody (pw.main.body[17]?.getD (.Pass default))} from by
  refine ⟨?a, ?b⟩
  case b => conv => rhs; whnf)
noncomputable def fnS17 : Scope := Subtype.val (show {x : Scope // x = defScope (pw.main.body[17]?.getD (.Pass default))} from by
  refine ⟨?a, ?b⟩
  case b => conv => rhs; whnf)
noncomputable def fnP18 : Arguments := Subtype.val (show {x : Arguments // x = defArgs (pw.main.body[18]?.getD (.Pass default))} from by
  refine ⟨?a, ?b⟩
  case b => conv => rhs; whnf)
noncomputable def fnB18 : List Stmt := Subtype.val (show {x : List Stmt // x = defBody (pw.main.body[18]?.getD (.Pass default))} from by
  refine ⟨?a, ?b⟩
  case b => conv => rhs; whnf)
noncomputable def fnS18 : Scope := Subtype.val (show {x : Scope // x = defScope (pw.main.body[18]?.getD (.Pass default))} from by
  refine ⟨?a, ?b⟩
  case b => conv => rhs; whnf)
noncomputable def fnP19 : Arguments := Subtype.val (show {x : Arguments // x = defArgs (pw.main.body[19]?.getD (.Pass default))} from by
  refine ⟨?a, ?b⟩
  case b => conv => rhs; whnf)
noncomputable def fnB19 : List Stmt := Subtype.val (show {x : List Stmt // x = defBody (pw.main.body[19]?.getD (.Pass default))} from by
  refine ⟨?a, ?b⟩
  case b => conv => rhs; whnf)
noncomputable def fnS19 : Scope := Subtype.val (show {x : Scope // x = defScope (pw.main.body[19]?.getD (.Pass default))} from by
  refine ⟨?a, ?b⟩
  case b => conv => rhs; whnf)
noncomputable def fnP20 : Arguments := Subtype.val (show {x : Arguments // x = defArgs (pw.main.body[20]?.getD (.Pass default))} from by
  refine ⟨?a, ?b⟩
  case b => conv => rhs; whnf)
noncomputable def fnB20 : List Stmt := Subtype.val (show {x : List Stmt // x = defBody (pw.main.body[20]?.getD (.Pass default))} from by
  refine ⟨?a, ?b⟩
  case b => conv => rhs; whnf)
noncomputable def fnS20 : Scope := Subtype.val (show {x : Scope // x = defScope (pw.main.body[20]?.getD (.Pass default))} from by
  refine ⟨?a, ?b⟩
  case b => conv => rhs; whnf)
noncomputable def fnP21 : Arguments := Subtype.val (show {x : Arguments // x = defArgs (pw.main.body[21]?.getD (.Pass default))} from by
  refine ⟨?a, ?b⟩
  case b => conv => rhs; whnf)
noncomputable def fnB21 : List Stmt := Subtype.val (show {x : List Stmt // x = defBody (pw.main.body[21]?.getD (.Pass default))} from by
  refine ⟨?a, ?b⟩
  case b => conv => rhs; whnf)
noncomputable def fnS21 : Scope := Subtype.val (show {x : Scope // x = defScope (pw.main.body[21]?.getD (.Pass default))} from by
  refine ⟨?a, ?b⟩
  case b => conv => rhs; whnf)
noncomputable def fnP22 : Arguments := Subtype.val (show {x : Arguments // x = defArgs (pw.main.body[22]?.getD (.Pass default))} from by
  refine ⟨?a, ?b⟩
  case b => conv => rhs; whnf)
noncomputable def fnB22 : List Stmt := Subtype.val (show {x : List Stmt // x = defBody (pw.main.body[22]?.getD (.Pass default))} from by
  refine ⟨?a, ?b⟩
  case b => conv => rhs; whnf)
noncomputable def fnS22 : Scope := Subtype.val (show {x : Scope // x = defScope (pw.main.body[22]?.getD (.Pass default))} from by
  refine ⟨?a, ?b⟩
  case b => conv => rhs; whnf)
noncomputable def fnP24 : Arguments := Subtype.val (show {x : Arguments // x = defArgs (pw.main.body[24]?.getD (.Pass default))} from by
  refine ⟨?a, ?b⟩
  case b => conv => rhs; whnf)
noncomputable def fnB24 : List Stmt := Subtype.val (show {x : List Stmt // x = defBody (pw.main.body[24]?.getD (.Pass default))} from by
  refine ⟨?a, ?b⟩
  case b => conv => rhs; whnf)
noncomputable def fnS24 : Scope := Subtype.val (show {x : Scope // x = defScope (pw.main.body[24]?.getD (.Pass default))} from by
  refine ⟨?a, ?b⟩
  case b => conv => rhs; whnf)
noncomputable def fnP25 : Arguments := Subtype.val (show {x : Arguments // x = defArgs (pw.main.body[25]?.getD (.Pass default))} from by
  refine ⟨?a, ?b⟩
  case b => conv => rhs; whnf)
noncomputable def fnB25 : List Stmt := Subtype.val (show {x : List Stmt // x = defBody (pw.main.body[25]?.getD (.Pass default))} from by
  refine ⟨?a, ?b⟩
  case b => conv => rhs; whnf)
noncomputable def fnS25 : Scope := Subtype.val (show {x : Scope // x = defScope (pw.main.body[25]?.getD (.Pass default))} from by
  refine ⟨?a, ?b⟩
  case b => conv => rhs; whnf)
noncomputable def fnP27 : Arguments := Subtype.val (show {x : Arguments // x = defArgs (pw.main.body[27]?.getD (.Pass default))} from by
  refine ⟨?a, ?b⟩
  case b => conv => rhs; whnf)
noncomputable def fnB27 : List Stmt := Subtype.val (show {x : List Stmt // x = defBody (pw.main.body[27]?.getD (.Pass default))} from by
  refine ⟨?a, ?b⟩
  case b => conv => rhs; whnf)
noncomputable def fnS27 : Scope := Subtype.val (show {x : Scope // x = defScope (pw.main.body[27]?.getD (.Pass default))} from by
  refine ⟨?a, ?b⟩
  case b => conv => rhs; whnf)
noncomputable def fnP28 : Arguments := Subtype.val (show {x : Arguments // x = defArgs (pw.main.body[28]?.getD (.Pass default))} from by
  refine ⟨?a, ?b⟩
  case b => conv => rhs; whnf)
noncomputable def fnB28 : List Stmt := Subtype.val (show {x : List Stmt // x = defBody (pw.main.body[28]?.getD (.Pass default))} from by
  refine ⟨?a, ?b⟩
  case b => conv => rhs; whnf)
noncomputable def fnS28 : Scope := Subtype.val (show {x : Scope // x = defScope (pw.main.body[28]?.getD (.Pass default))} from by
  refine ⟨?a, ?b⟩
  case b => conv => rhs; whnf)
noncomputable def fnP29 : Arguments := Subtype.val (show {x : Arguments // x = defArgs (pw.main.body[29]?.getD (.Pass default))} from by
  refine ⟨?a, ?b⟩
  case b => conv => rhs; whnf)
noncomputable def fnB29 : List Stmt := Subtype.val (show {x : List Stmt // x = defBody (pw.main.body[29]?.getD (.Pass default))} from by
  refine ⟨?a, ?b⟩
  case b => conv => rhs; whnf)
noncomputable def fnS29 : Scope := Subtype.val (show {x : Scope // x = defScope (pw.main.body[29]?.getD (.Pass default))} from by
  refine ⟨?a, ?b⟩
  case b => conv => rhs; whnf)
noncomputable def fnP30 : Arguments := Subtype.val (show {x : Arguments // x = defArgs (pw.main.body[30]?.getD (.Pass default))} from by
  refine ⟨?a, ?b⟩
  case b => conv => rhs; whnf)
noncomputable def fnB30 : List Stmt := Subtype.val (show {x : List Stmt // x = defBody (pw.main.body[30]?.getD (.Pass default))} from by
  refine ⟨?a, ?b⟩
  case b => conv => rhs; whnf)
noncomputable def fnS30 : Scope := Subtype.val (show {x : Scope // x = defScope (pw.main.body[30]?.getD (.Pass default))} from by
  refine ⟨?a, ?b⟩
  case b => conv => rhs; whnf)
noncomputable def fnP32 : Arguments := Subtype.val (show {x : Arguments // x = defArgs (pw.main.body[32]?.getD (.Pass default))} from by
  refine ⟨?a, ?b⟩
  case b => conv => rhs; whnf)
noncomputable def fnB32 : List Stmt := Subtype.val (show {x : List Stmt // x = defBody (pw.main.body[32]?.getD (.Pass default))} from by
  refine ⟨?a, ?b⟩
  case b => conv => rhs; whnf)
noncomputable def fnS32 : Scope := Subtype.val (show {x : Scope // x = defScope (pw.main.body[32]?.getD (.Pass default))} from by
  refine ⟨?a, ?b⟩
  case b => conv => rhs; whnf)
noncomputable def fnP33 : Arguments := Subtype.val (show {x : Arguments // x = defArgs (pw.main.body[33]?.getD (.Pass default))} from by
  refine ⟨?a, ?b⟩
  case b => conv => rhs; whnf)
noncomputable def fnB33 : List Stmt := Subtype.val (show {x : List Stmt // x = defBody (pw.main.body[33]?.getD (.Pass default))} from by
  refine ⟨?a, ?b⟩
  case b => conv => rhs; whnf)
noncomputable def fnS33 : Scope := Subtype.val (show {x : Scope // x = defScope (pw.main.body[33]?.getD (.Pass default))} from by
  refine ⟨?a, ?b⟩
  case b => conv => rhs; whnf)
noncomputable def fnP34 : Arguments := Subtype.val (show {x : Arguments // x = defArgs (pw.main.body[34]?.getD (.Pass default))} from by
  refine ⟨?a, ?b⟩
  case b => conv => rhs; whnf)
noncomputable def fnB34 : List Stmt := Subtype.val (show {x : List Stmt // x = defBody (pw.main.body[34]?.getD (.Pass default))} from by
  refine ⟨?a, ?b⟩
  case b => conv => rhs; whnf)
noncomputable def fnS34 : Scope := Subtype.val (show {x : Scope // x = defScope (pw.main.body[34]?.getD (.Pass default))} from by
  refine ⟨?a, ?b⟩
  case b => conv => rhs; whnf)
noncomputable def fnP35 : Arguments := Subtype.val (show {x : Arguments // x = defArgs (pw.main.body[35]?.getD (.Pass default))} from by
  refine ⟨?a, ?b⟩
  case b => conv => rhs; whnf)
noncomputable def fnB35 : List Stmt := Subtype.val (show {x : List Stmt // x = defBody (pw.main.body[35]?.getD (.Pass default))} from by
  refine ⟨?a, ?b⟩
  case b => conv => rhs; whnf)
noncomputable def fnS35 : Scope := Subtype.val (show {x : Scope // x = defScope (pw.main.body[35]?.getD (.Pass default))} from by
  refine ⟨?a, ?b⟩
  case b => conv => rhs; whnf)
noncomputable def fnP36 : Arguments := Subtype.val (show {x : Arguments // x = defArgs (pw.main.body[36]?.getD (.Pass default))} from by
  refine ⟨?a, ?b⟩
  case b => conv => rhs; whnf)
noncomputable def fnB36 : List Stmt := Subtype.val (show {x : List Stmt // x = defBody (pw.main.body[36]?.getD (.Pass default))} from by
  refine ⟨?a, ?b⟩
  case b => conv => rhs; whnf)
noncomputable def fnS36 : Scope := Subtype.val (show {x : Scope // x = defScope (pw.main.body[36]?.getD (.Pass default))} from by
  refine ⟨?a, ?b⟩
  case b => conv => rhs; whnf)
noncomputable def fnP37 : Arguments := Subtype.val (show {x : Arguments // x = defArgs (pw.main.body[37]?.getD (.Pass default))} from by
  refine ⟨?a, ?b⟩
  case b => conv => rhs; whnf)
noncomputable def fnB37 : List Stmt := Subtype.val (show {x : List Stmt // x = defBody (pw.main.body[37]?.getD (.Pass default))} from by
  refine ⟨?a, ?b⟩
  case b => conv => rhs; whnf)
noncomputable def fnS37 : Scope := Subtype.val (show {x : Scope // x = defScope (pw.main.body[37]?.getD (.Pass default))} from by
  refine ⟨?a, ?b⟩
  case b => conv => rhs; whnf)
noncomputable def fnP38 : Arguments := Subtype.val (show {x : Arguments // x = defArgs (pw.main.body[38]?.getD (.Pass default))} from by
  refine ⟨?a, ?b⟩
  case b => conv => rhs; whnf)
noncomputable def fnB38 : List Stmt := Subtype.val (show {x : List Stmt // x = defBody (pw.main.body[38]?.getD (.Pass default))} from by
  refine ⟨?a, ?b⟩
  case b => conv => rhs; whnf)
noncomputable def fnS38 : Scope := Subtype.val (show {x : Scope // x = defScope (pw.main.body[38]?.getD (.Pass default))} from by
  refine ⟨?a, ?b⟩
  case b => conv => rhs; whnf)
noncomputable def fnP39 : Arguments := Subtype.val (show {x : Arguments // x = defArgs (pw.main.body[39]?.getD (.Pass default))} from by
  refine ⟨?a, ?b⟩
  case b => conv => rhs; whnf)
noncomputable def fnB39 : List Stmt := Subtype.val (show {x : List Stmt // x = defBody (pw.main.body[39]?.getD (.Pass default))} from by
  refine ⟨?a, ?b⟩
  case b => conv => rhs; whnf)
noncomputable def fnS39 : Scope := Subtype.val (show {x : Scope // x = defScope (pw.main.body[39]?.getD (.Pass default))} from by
  refine ⟨?a, ?b⟩
  case b => conv => rhs; whnf)
noncomputable def fnP40 : Arguments := Subtype.val (show {x : Arguments // x = defArgs (pw.main.body[40]?.getD (.Pass default))} from by
  refine ⟨?a, ?b⟩
  case b => conv => rhs; whnf)
noncomputable def fnB40 : List Stmt := Subtype.val (show {x : List Stmt // x = defBody (pw.main.body[40]?.getD (.Pass default))} from by
  refine ⟨?a, ?b⟩
  case b => conv => rhs; whnf)
noncomputable def fnS40 : Scope := Subtype.val (show {x : Scope // x = defScope (pw.main.body[40]?.getD (.Pass default))} from by
  refine ⟨?a, ?b⟩
  case b => conv => rhs; whnf)
noncomputable def fnP41 : Arguments := Subtype.val (show {x : Arguments // x = defArgs (pw.main.body[41]?.getD (.Pass default))} from by
  refine ⟨?a, ?b⟩
  case b => conv => rhs; whnf)
noncomputable def fnB41 : List Stmt := Subtype.val (show {x : List Stmt // x = defBody (pw.main.body[41]?.getD (.Pass default))} from by
  refine ⟨?a, ?b⟩
  case b => conv => rhs; whnf)
noncomputable def fnS41 : Scope := Subtype.val (show {x : Scope // x = defScope (pw.main.body[41]?.getD (.Pass default))} from by
  refine ⟨?a, ?b⟩
  case b => conv => rhs; whnf)
noncomputable def fnP42 : Arguments := Subtype.val (show {x : Arguments // x = defArgs (pw.main.body[42]?.getD (.Pass default))} from by
  refine ⟨?a, ?b⟩
  case b => conv => rhs; whnf)
noncomputable def fnB42 : List Stmt := Subtype.val (show {x : List Stmt // x = defBody (pw.main.body[42]?.getD (.Pass default))} from by
  refine ⟨?a, ?b⟩
  case b => conv => rhs; whnf)
noncomputable def fnS42 : Scope := Subtype.val (show {x : Scope // x = defScope (pw.main.body[42]?.getD (.Pass default))} from by
  refine ⟨?a, ?b⟩
  case b => conv => rhs; whnf)
noncomputable def o11_a (_ : Params) : Obj := ⟨(.type "tuple"), none, .seq #[] 0, #[]⟩
noncomputable def o12_a (_ : Params) : Obj := ⟨.none, none, .fields #[], #[]⟩
noncomputable def o13_a (_ : Params) : Obj := ⟨(.type "code"), none, .fields #[(.str (.ofString "<module>") 182), (.str (.ofString "<module>") 183), (.str (.ofString "/claim/cut.py") 184), (.int 1 0), (.int 0 0), (.int 0 0), (.int 0 0), (.int 0 0), (.ref 11), (.bool false), (.int 181 0), (.ref 12), .none, .none, .none, .none, (.int 185 0), (.int 1 0), (.str (.ofString "/claim/cut.py") 186)], #[]⟩
noncomputable def o14_a (_ : Params) : Obj := ⟨(.type "frame"), none, .plain, #[(some (.ref 13)), (some (.ref 3)), (some (.ref 3)), none, (some (.str (.ofString "__main__") 164)), none, (some (.ref 0))]⟩
noncomputable def t_a (P : Params) : BT := (.node (boot_o_0 P) (.node (boot_o_1 P) (.node (boot_o_3 P) (.node (boot_o_7 P) .nil .nil) (.node (o11_a P) .nil .nil)) (.node (boot_o_5 P) (.node (boot_o_9 P) .nil .nil) (.node (o13_a P) .nil .nil))) (.node (boot_o_2 P) (.node (boot_o_4 P) (.node (boot_o_8 P) .nil .nil) (.node (o12_a P) .nil .nil)) (.node (boot_o_6 P) (.node (boot_o_10 P) .nil .nil) (.node (o14_a P) .nil .nil))))
noncomputable def st_a (w : World) (os : OsState) : SharedT := ⟨t_a w.params, 15, life0, #[], boot_drawn, 187, os⟩
noncomputable def t_b (P : Params) : BT := (.node (boot_o_0 P) (.node (boot_o_1 P) (.node (boot_o_3 P) (.node (boot_o_7 P) .nil .nil) (.node (o11_a P) .nil .nil)) (.node (boot_o_5 P) (.node (boot_o_9 P) .nil .nil) (.node (o13_a P) .nil .nil))) (.node (boot_o_2 P) (.node (boot_o_4 P) (.node (boot_o_8 P) .nil .nil) (.node (o12_a P) .nil .nil)) (.node (boot_o_6 P) (.node (boot_o_10 P) .nil .nil) (.node (o14_a P) .nil .nil))))
noncomputable def st_b (w : World) (os : OsState) : SharedT := ⟨t_b w.params, 15, life0, #[], boot_drawn, 187, os⟩
noncomputable def o3_0 (P : Params) : Obj := ⟨(.type "dict"), none, .dict #[⟨PyData.keyHash P (.ofString "__name__"), (.str (.ofString "__name__") 165), (.str (.ofString "trie.constants") 187)⟩, ⟨PyData.keyHash P (.ofString "__doc__"), (.str (.ofString "__doc__") 166), .none⟩, ⟨PyData.keyHash P (.ofString "__package__"), (.str (.ofString "__package__") 167), .none⟩, ⟨PyData.keyHash P (.ofString "__loader__"), (.str (.ofString "__loader__") 168), (.builtin "__main__.__loader__#opaque")⟩, ⟨PyData.keyHash P (.ofString "__spec__"), (.str (.ofString "__spec__") 169), .none⟩, ⟨PyData.keyHash P (.ofString "__annotations__"), (.str (.ofString "__annotations__") 170), (.ref 6)⟩, ⟨PyData.keyHash P (.ofString "__builtins__"), (.str (.ofString "__builtins__") 171), (.ref 4)⟩, ⟨PyData.keyHash P (.ofString "__file__"), (.str (.ofString "__file__") 173), (.str (.ofString "/claim/cut.py") 172)⟩, ⟨PyData.keyHash P (.ofString "__cached__"), (.str (.ofString "__cached__") 174), .none⟩] 9, #[]⟩
noncomputable def t_0 (P : Params) : BT := (.node (boot_o_0 P) (.node (boot_o_1 P) (.node (o3_0 P) (.node (boot_o_7 P) .nil .nil) (.node (o11_a P) .nil .nil)) (.node (boot_o_5 P) (.node (boot_o_9 P) .nil .nil) (.node (o13_a P) .nil .nil))) (.node (boot_o_2 P) (.node (boot_o_4 P) (.node (boot_o_8 P) .nil .nil) (.node (o12_a P) .nil .nil)) (.node (boot_o_6 P) (.node (boot_o_10 P) .nil .nil) (.node (o14_a P) .nil .nil))))
noncomputable def st_0 (w : World) (os : OsState) : SharedT := ⟨t_0 w.params, 15, life0, #[], boot_drawn, 189, os⟩
noncomputable def o3_1 (P : Params) : Obj := ⟨(.type "dict"), none, .dict #[⟨PyData.keyHash P (.ofString "__name__"), (.str (.ofString "__name__") 165), (.str (.ofString "trie.constants") 187)⟩, ⟨PyData.keyHash P (.ofString "__doc__"), (.str (.ofString "__doc__") 166), .none⟩, ⟨PyData.keyHash P (.ofString "__package__"), (.str (.ofString "__package__") 167), .none⟩, ⟨PyData.keyHash P (.ofString "__loader__"), (.str (.ofString "__loader__") 168), (.builtin "__main__.__loader__#opaque")⟩, ⟨PyData.keyHash P (.ofString "__spec__"), (.str (.ofString "__spec__") 169), .none⟩, ⟨PyData.keyHash P (.ofString "__annotations__"), (.str (.ofString "__annotations__") 170), (.ref 6)⟩, ⟨PyData.keyHash P (.ofString "__builtins__"), (.str (.ofString "__builtins__") 171), (.ref 4)⟩, ⟨PyData.keyHash P (.ofString "__file__"), (.str (.ofString "__file__") 173), (.str (.ofString "/claim/cut.py") 172)⟩, ⟨PyData.keyHash P (.ofString "__cached__"), (.str (.ofString "__cached__") 174), .none⟩, ⟨PyData.keyHash P (.ofString "EXP"), (.str (.ofString "EXP") 245), (.ref 32)⟩] 10, #[]⟩
noncomputable def o12_1 (_ : Params) : Obj := ⟨.none, none, .fields #[(.int 2 0), (.int 27 0), (.ref 19)], #[]⟩
noncomputable def o15_1 (_ : Params) : Obj := ⟨(.type "range"), none, .fields #[(.int 0 190), (.int 8 189), (.int 1 191)], #[]⟩
noncomputable def o16_1 (_ : Params) : Obj := ⟨(.type "range_iterator"), none, .fields #[(.int 8 0), (.int 0 0), (.int 1 0)], #[]⟩
noncomputable def o17_1 (_ : Params) : Obj := ⟨(.type "tuple"), none, .seq #[] 0, #[]⟩
noncomputable def o18_1 (_ : Params) : Obj := ⟨.none, none, .fields #[], #[]⟩
noncomputable def o19_1 (_ : Params) : Obj := ⟨(.type "code"), none, .fields #[(.str (.ofString "<genexpr>") 192), (.str (.ofString "<genexpr>") 193), (.str (.ofString "/claim/cut.py") 194), (.int 2 0), (.int 1 0), (.int 0 0), (.int 0 0), (.int 35 0), (.ref 17), (.bool true), (.int 181 0), (.ref 18), .none, .none, .none, .none, (.int 195 0), (.int 2 0), (.str (.ofString "/claim/cut.py") 196)], #[]⟩
noncomputable def o20_1 (P : Params) : Obj := ⟨(.type "frame"), none, .dict #[⟨PyData.keyHash P (.ofString ".0"), (.str (.ofString ".0") 197), (.ref 16)⟩, ⟨PyData.keyHash P (.ofString "i"), (.str (.ofString "i") 201), (.int 7 228)⟩] 2, #[]⟩
noncomputable def o21_1 (_ : Params) : Obj := ⟨(.type "generator"), none, .fields #[(.int 0 0), (.str (.ofString "<genexpr>") 198), (.str (.ofString "<genexpr>") 199)], #[]⟩
noncomputable def o22_1 (_ : Params) : Obj := ⟨(.type "list"), none, .seq #[(.int 1 203), (.int 2 207), (.int 4 211), (.int 8 215), (.int 16 219), (.int 32 223), (.int 64 227), (.int 128 231)] 10, #[]⟩
noncomputable def o23_1 (_ : Params) : Obj := ⟨(.type "tuple"), none, .seq #[] 0, #[]⟩
noncomputable def o24_1 (_ : Params) : Obj := ⟨(.type "StopIteration"), none, .fields #[(.ref 23), .none, .none, .none, (.bool false), .none], #[]⟩
noncomputable def o25_1 (_ : Params) : Obj := ⟨(.type "tuple"), none, .seq #[] 0, #[]⟩
noncomputable def o26_1 (_ : Params) : Obj := ⟨(.type "StopIteration"), none, .fields #[(.ref 25), .none, .none, .none, (.bool false), .none], #[]⟩
noncomputable def o27_1 (_ : Params) : Obj := ⟨(.type "tuple"), none, .seq #[(.int 1 203), (.int 2 207), (.int 4 211), (.int 8 215), (.int 16 219), (.int 32 223), (.int 64 227), (.int 128 231)] 0, #[]⟩
noncomputable def o28_1 (_ : Params) : Obj := ⟨(.type "reversed"), none, .fields #[.none, (.int (-1) 0)], #[]⟩
noncomputable def o29_1 (_ : Params) : Obj := ⟨(.type "list"), none, .seq #[(.int 128 231), (.int 64 227), (.int 32 223), (.int 16 219), (.int 8 215), (.int 4 211), (.int 2 207), (.int 1 203)] 10, #[]⟩
noncomputable def o30_1 (_ : Params) : Obj := ⟨(.type "tuple"), none, .seq #[] 0, #[]⟩
noncomputable def o31_1 (_ : Params) : Obj := ⟨(.type "StopIteration"), none, .fields #[(.ref 30), .none, .none, .none, (.bool false), .none], #[]⟩
noncomputable def o32_1 (_ : Params) : Obj := ⟨(.type "tuple"), none, .seq #[(.int 128 231), (.int 64 227), (.int 32 223), (.int 16 219), (.int 8 215), (.int 4 211), (.int 2 207), (.int 1 203)] 0, #[]⟩
noncomputable def t_1 (P : Params) : BT := (.node (boot_o_0 P) (.node (boot_o_1 P) (.node (o3_1 P) (.node (boot_o_7 P) (.node (o15_1 P) (.node (o31_1 P) .nil .nil) .nil) (.node (o23_1 P) .nil .nil)) (.node (o11_a P) (.node (o19_1 P) .nil .nil) (.node (o27_1 P) .nil .nil))) (.node (boot_o_5 P) (.node (boot_o_9 P) (.node (o17_1 P) .nil .nil) (.node (o25_1 P) .nil .nil)) (.node (o13_a P) (.node (o21_1 P) .nil .nil) (.node (o29_1 P) .nil .nil)))) (.node (boot_o_2 P) (.node (boot_o_4 P) (.node (boot_o_8 P) (.node (o16_1 P) (.node (o32_1 P) .nil .nil) .nil) (.node (o24_1 P) .nil .nil)) (.node (o12_1 P) (.node (o20_1 P) .nil .nil) (.node (o28_1 P) .nil .nil))) (.node (boot_o_6 P) (.node (boot_o_10 P) (.node (o18_1 P) .nil .nil) (.node (o26_1 P) .nil .nil)) (.node (o14_a P) (.node (o22_1 P) .nil .nil) (.node (o30_1 P) .nil .nil)))))
noncomputable def st_1 (w : World) (os : OsState) : SharedT := ⟨t_1 w.params, 33, life0, #[.finished], boot_drawn, 246, os⟩
noncomputable def o3_2 (P : Params) : Obj := ⟨(.type "dict"), none, .dict #[⟨PyData.keyHash P (.ofString "__name__"), (.str (.ofString "__name__") 165), (.str (.ofString "trie.constants") 187)⟩, ⟨PyData.keyHash P (.ofString "__doc__"), (.str (.ofString "__doc__") 166), .none⟩, ⟨PyData.keyHash P (.ofString "__package__"), (.str (.ofString "__package__") 167), .none⟩, ⟨PyData.keyHash P (.ofString "__loader__"), (.str (.ofString "__loader__") 168), (.builtin "__main__.__loader__#opaque")⟩, ⟨PyData.keyHash P (.ofString "__spec__"), (.str (.ofString "__spec__") 169), .none⟩, ⟨PyData.keyHash P (.ofString "__annotations__"), (.str (.ofString "__annotations__") 170), (.ref 6)⟩, ⟨PyData.keyHash P (.ofString "__builtins__"), (.str (.ofString "__builtins__") 171), (.ref 4)⟩, ⟨PyData.keyHash P (.ofString "__file__"), (.str (.ofString "__file__") 173), (.str (.ofString "/claim/cut.py") 172)⟩, ⟨PyData.keyHash P (.ofString "__cached__"), (.str (.ofString "__cached__") 174), .none⟩, ⟨PyData.keyHash P (.ofString "EXP"), (.str (.ofString "EXP") 245), (.ref 32)⟩, ⟨PyData.keyHash P (.ofString "TWO_BITS"), (.str (.ofString "TWO_BITS") 258), (.ref 53)⟩] 11, #[]⟩
noncomputable def o33_2 (_ : Params) : Obj := ⟨(.type "list"), none, .seq #[(.int 0 246), (.int 0 247)] 0, #[]⟩
noncomputable def o34_2 (_ : Params) : Obj := ⟨(.type "list_iterator"), none, .fields #[.none, (.int 2 0)], #[]⟩
noncomputable def o35_2 (_ : Params) : Obj := ⟨(.type "bytearray"), none, .bytearray #[0, 0] 0, #[]⟩
noncomputable def o36_2 (_ : Params) : Obj := ⟨(.type "tuple"), none, .seq #[] 0, #[]⟩
noncomputable def o37_2 (_ : Params) : Obj := ⟨(.type "StopIteration"), none, .fields #[(.ref 36), .none, .none, .none, (.bool false), .none], #[]⟩
noncomputable def o38_2 (_ : Params) : Obj := ⟨(.type "list"), none, .seq #[(.int 0 249), (.int 1 250)] 0, #[]⟩
noncomputable def o39_2 (_ : Params) : Obj := ⟨(.type "list_iterator"), none, .fields #[.none, (.int 2 0)], #[]⟩
noncomputable def o40_2 (_ : Params) : Obj := ⟨(.type "bytearray"), none, .bytearray #[0, 1] 0, #[]⟩
noncomputable def o41_2 (_ : Params) : Obj := ⟨(.type "tuple"), none, .seq #[] 0, #[]⟩
noncomputable def o42_2 (_ : Params) : Obj := ⟨(.type "StopIteration"), none, .fields #[(.ref 41), .none, .none, .none, (.bool false), .none], #[]⟩
noncomputable def o43_2 (_ : Params) : Obj := ⟨(.type "list"), none, .seq #[(.int 1 252), (.int 0 253)] 0, #[]⟩
noncomputable def o44_2 (_ : Params) : Obj := ⟨(.type "list_iterator"), none, .fields #[.none, (.int 2 0)], #[]⟩
noncomputable def o45_2 (_ : Params) : Obj := ⟨(.type "bytearray"), none, .bytearray #[1, 0] 0, #[]⟩
noncomputable def o46_2 (_ : Params) : Obj := ⟨(.type "tuple"), none, .seq #[] 0, #[]⟩
noncomputable def o47_2 (_ : Params) : Obj := ⟨(.type "StopIteration"), none, .fields #[(.ref 46), .none, .none, .none, (.bool false), .none], #[]⟩
noncomputable def o48_2 (_ : Params) : Obj := ⟨(.type "list"), none, .seq #[(.int 1 255), (.int 1 256)] 0, #[]⟩
noncomputable def o49_2 (_ : Params) : Obj := ⟨(.type "list_iterator"), none, .fields #[.none, (.int 2 0)], #[]⟩
noncomputable def o50_2 (_ : Params) : Obj := ⟨(.type "bytearray"), none, .bytearray #[1, 1] 0, #[]⟩
noncomputable def o51_2 (_ : Params) : Obj := ⟨(.type "tuple"), none, .seq #[] 0, #[]⟩
noncomputable def o52_2 (_ : Params) : Obj := ⟨(.type "StopIteration"), none, .fields #[(.ref 51), .none, .none, .none, (.bool false), .none], #[]⟩
noncomputable def o53_2 (_ : Params) : Obj := ⟨(.type "list"), none, .seq #[(.bytes #[0, 0] 248), (.bytes #[0, 1] 251), (.bytes #[1, 0] 254), (.bytes #[1, 1] 257)] 0, #[]⟩
noncomputable def t_2 (P : Params) : BT := (.node (boot_o_0 P) (.node (boot_o_1 P) (.node (o3_2 P) (.node (boot_o_7 P) (.node (o15_1 P) (.node (o31_1 P) .nil .nil) (.node (o47_2 P) .nil .nil)) (.node (o23_1 P) (.node (o39_2 P) .nil .nil) .nil)) (.node (o11_a P) (.node (o19_1 P) (.node (o35_2 P) .nil .nil) (.node (o51_2 P) .nil .nil)) (.node (o27_1 P) (.node (o43_2 P) .nil .nil) .nil))) (.node (boot_o_5 P) (.node (boot_o_9 P) (.node (o17_1 P) (.node (o33_2 P) .nil .nil) (.node (o49_2 P) .nil .nil)) (.node (o25_1 P) (.node (o41_2 P) .nil .nil) .nil)) (.node (o13_a P) (.node (o21_1 P) (.node (o37_2 P) .nil .nil) (.node (o53_2 P) .nil .nil)) (.node (o29_1 P) (.node (o45_2 P) .nil .nil) .nil)))) (.node (boot_o_2 P) (.node (boot_o_4 P) (.node (boot_o_8 P) (.node (o16_1 P) (.node (o32_1 P) .nil .nil) (.node (o48_2 P) .nil .nil)) (.node (o24_1 P) (.node (o40_2 P) .nil .nil) .nil)) (.node (o12_1 P) (.node (o20_1 P) (.node (o36_2 P) .nil .nil) (.node (o52_2 P) .nil .nil)) (.node (o28_1 P) (.node (o44_2 P) .nil .nil) .nil))) (.node (boot_o_6 P) (.node (boot_o_10 P) (.node (o18_1 P) (.node (o34_2 P) .nil .nil) (.node (o50_2 P) .nil .nil)) (.node (o26_1 P) (.node (o42_2 P) .nil .nil) .nil)) (.node (o14_a P) (.node (o22_1 P) (.node (o38_2 P) .nil .nil) .nil) (.node (o30_1 P) (.node (o46_2 P) .nil .nil) .nil)))))
noncomputable def st_2 (w : World) (os : OsState) : SharedT := ⟨t_2 w.params, 54, life0, #[.finished], boot_drawn, 259, os⟩
noncomputable def o3_3 (P : Params) : Obj := ⟨(.type "dict"), none, .dict #[⟨PyData.keyHash P (.ofString "__name__"), (.str (.ofString "__name__") 165), (.str (.ofString "trie.constants") 187)⟩, ⟨PyData.keyHash P (.ofString "__doc__"), (.str (.ofString "__doc__") 166), .none⟩, ⟨PyData.keyHash P (.ofString "__package__"), (.str (.ofString "__package__") 167), .none⟩, ⟨PyData.keyHash P (.ofString "__loader__"), (.str (.ofString "__loader__") 168), (.builtin "__main__.__loader__#opaque")⟩, ⟨PyData.keyHash P (.ofString "__spec__"), (.str (.ofString "__spec__") 169), .none⟩, ⟨PyData.keyHash P (.ofString "__annotations__"), (.str (.ofString "__annotations__") 170), (.ref 6)⟩, ⟨PyData.keyHash P (.ofString "__builtins__"), (.str (.ofString "__builtins__") 171), (.ref 4)⟩, ⟨PyData.keyHash P (.ofString "__file__"), (.str (.ofString "__file__") 173), (.str (.ofString "/claim/cut.py") 172)⟩, ⟨PyData.keyHash P (.ofString "__cached__"), (.str (.ofString "__cached__") 174), .none⟩, ⟨PyData.keyHash P (.ofString "EXP"), (.str (.ofString "EXP") 245), (.ref 32)⟩, ⟨PyData.keyHash P (.ofString "TWO_BITS"), (.str (.ofString "TWO_BITS") 258), (.ref 53)⟩, ⟨PyData.keyHash P (.ofString "PREFIX_00"), (.str (.ofString "PREFIX_00") 262), (.bytes #[0, 0] 261)⟩, ⟨PyData.keyHash P (.ofString "PREFIX_100000"), (.str (.ofString "PREFIX_100000") 270), (.bytes #[1, 0, 0, 0, 0, 0] 269)⟩, ⟨PyData.keyHash P (.ofString "KV_TYPE"), (.str (.ofString "KV_TYPE") 272), (.int 0 271)⟩, ⟨PyData.keyHash P (.ofString "BRANCH_TYPE"), (.str (.ofString "BRANCH_TYPE") 274), (.int 1 273)⟩, ⟨PyData.keyHash P (.ofString "LEAF_TYPE"), (.str (.ofString "LEAF_TYPE") 276), (.int 2 275)⟩, ⟨PyData.keyHash P (.ofString "KV_TYPE_PREFIX"), (.str (.ofString "KV_TYPE_PREFIX") 279), (.bytes #[0] 278)⟩] 17, #[]⟩
noncomputable def o54_3 (_ : Params) : Obj := ⟨(.type "list"), none, .seq #[(.int 0 259), (.int 0 260)] 0, #[]⟩
noncomputable def o55_3 (_ : Params) : Obj := ⟨(.type "list_iterator"), none, .fields #[.none, (.int 2 0)], #[]⟩
noncomputable def o56_3 (_ : Params) : Obj := ⟨(.type "bytearray"), none, .bytearray #[0, 0] 0, #[]⟩
noncomputable def o57_3 (_ : Params) : Obj := ⟨(.type "tuple"), none, .seq #[] 0, #[]⟩
noncomputable def o58_3 (_ : Params) : Obj := ⟨(.type "StopIteration"), none, .fields #[(.ref 57), .none, .none, .none, (.bool false), .none], #[]⟩
noncomputable def o59_3 (_ : Params) : Obj := ⟨(.type "list"), none, .seq #[(.int 1 263), (.int 0 264), (.int 0 265), (.int 0 266), (.int 0 267), (.int 0 268)] 0, #[]⟩
noncomputable def o60_3 (_ : Params) : Obj := ⟨(.type "list_iterator"), none, .fields #[.none, (.int 6 0)], #[]⟩
noncomputable def o61_3 (_ : Params) : Obj := ⟨(.type "bytearray"), none, .bytearray #[1, 0, 0, 0, 0, 0] 0, #[]⟩
noncomputable def o62_3 (_ : Params) : Obj := ⟨(.type "tuple"), none, .seq #[] 0, #[]⟩
noncomputable def o63_3 (_ : Params) : Obj := ⟨(.type "StopIteration"), none, .fields #[(.ref 62), .none, .none, .none, (.bool false), .none], #[]⟩
noncomputable def o64_3 (_ : Params) : Obj := ⟨(.type "list"), none, .seq #[(.int 0 277)] 0, #[]⟩
noncomputable def o65_3 (_ : Params) : Obj := ⟨(.type "list_iterator"), none, .fields #[.none, (.int 1 0)], #[]⟩
noncomputable def o66_3 (_ : Params) : Obj := ⟨(.type "bytearray"), none, .bytearray #[0] 0, #[]⟩
noncomputable def o67_3 (_ : Params) : Obj := ⟨(.type "tuple"), none, .seq #[] 0, #[]⟩
noncomputable def o68_3 (_ : Params) : Obj := ⟨(.type "StopIteration"), none, .fields #[(.ref 67), .none, .none, .none, (.bool false), .none], #[]⟩
noncomputable def t_3 (P : Params) : BT := (.node (boot_o_0 P) (.node (boot_o_1 P) (.node (o3_3 P) (.node (boot_o_7 P) (.node (o15_1 P) (.node (o31_1 P) (.node (o63_3 P) .nil .nil) .nil) (.node (o47_2 P) .nil .nil)) (.node (o23_1 P) (.node (o39_2 P) .nil .nil) (.node (o55_3 P) .nil .nil))) (.node (o11_a P) (.node (o19_1 P) (.node (o35_2 P) (.node (o67_3 P) .nil .nil) .nil) (.node (o51_2 P) .nil .nil)) (.node (o27_1 P) (.node (o43_2 P) .nil .nil) (.node (o59_3 P) .nil .nil)))) (.node (boot_o_5 P) (.node (boot_o_9 P) (.node (o17_1 P) (.node (o33_2 P) (.node (o65_3 P) .nil .nil) .nil) (.node (o49_2 P) .nil .nil)) (.node (o25_1 P) (.node (o41_2 P) .nil .nil) (.node (o57_3 P) .nil .nil))) (.node (o13_a P) (.node (o21_1 P) (.node (o37_2 P) .nil .nil) (.node (o53_2 P) .nil .nil)) (.node (o29_1 P) (.node (o45_2 P) .nil .nil) (.node (o61_3 P) .nil .nil))))) (.node (boot_o_2 P) (.node (boot_o_4 P) (.node (boot_o_8 P) (.node (o16_1 P) (.node (o32_1 P) (.node (o64_3 P) .nil .nil) .nil) (.node (o48_2 P) .nil .nil)) (.node (o24_1 P) (.node (o40_2 P) .nil .nil) (.node (o56_3 P) .nil .nil))) (.node (o12_1 P) (.node (o20_1 P) (.node (o36_2 P) (.node (o68_3 P) .nil .nil) .nil) (.node (o52_2 P) .nil .nil)) (.node (o28_1 P) (.node (o44_2 P) .nil .nil) (.node (o60_3 P) .nil .nil)))) (.node (boot_o_6 P) (.node (boot_o_10 P) (.node (o18_1 P) (.node (o34_2 P) (.node (o66_3 P) .nil .nil) .nil) (.node (o50_2 P) .nil .nil)) (.node (o26_1 P) (.node (o42_2 P) .nil .nil) (.node (o58_3 P) .nil .nil))) (.node (o14_a P) (.node (o22_1 P) (.node (o38_2 P) .nil .nil) (.node (o54_3 P) .nil .nil)) (.node (o30_1 P) (.node (o46_2 P) .nil .nil) (.node (o62_3 P) .nil .nil))))))
noncomputable def st_3 (w : World) (os : OsState) : SharedT := ⟨t_3 w.params, 69, life0, #[.finished], boot_drawn, 280, os⟩
noncomputable def o2_4 (P : Params) : Obj := ⟨.none, none, .dict #[⟨PyData.keyHash P (.ofString "type.__subclasses__.Exception.0"), (.str (.ofString "type.__subclasses__.Exception.0") 304), (.int 88 0)⟩, ⟨PyData.keyHash P (.ofString "type.__subclasses__.Exception.n"), (.str (.ofString "type.__subclasses__.Exception.n") 305), (.int 1 0)⟩] 2, #[]⟩
noncomputable def o3_4 (P : Params) : Obj := ⟨(.type "dict"), none, .dict #[⟨PyData.keyHash P (.ofString "__name__"), (.str (.ofString "__name__") 165), (.str (.ofString "trie.exceptions") 286)⟩, ⟨PyData.keyHash P (.ofString "__doc__"), (.str (.ofString "__doc__") 166), .none⟩, ⟨PyData.keyHash P (.ofString "__package__"), (.str (.ofString "__package__") 167), .none⟩, ⟨PyData.keyHash P (.ofString "__loader__"), (.str (.ofString "__loader__") 168), (.builtin "__main__.__loader__#opaque")⟩, ⟨PyData.keyHash P (.ofString "__spec__"), (.str (.ofString "__spec__") 169), .none⟩, ⟨PyData.keyHash P (.ofString "__annotations__"), (.str (.ofString "__annotations__") 170), (.ref 6)⟩, ⟨PyData.keyHash P (.ofString "__builtins__"), (.str (.ofString "__builtins__") 171), (.ref 4)⟩, ⟨PyData.keyHash P (.ofString "__file__"), (.str (.ofString "__file__") 173), (.str (.ofString "/claim/cut.py") 172)⟩, ⟨PyData.keyHash P (.ofString "__cached__"), (.str (.ofString "__cached__") 174), .none⟩, ⟨PyData.keyHash P (.ofString "EXP"), (.str (.ofString "EXP") 245), (.ref 32)⟩, ⟨PyData.keyHash P (.ofString "TWO_BITS"), (.str (.ofString "TWO_BITS") 258), (.ref 53)⟩, ⟨PyData.keyHash P (.ofString "PREFIX_00"), (.str (.ofString "PREFIX_00") 262), (.bytes #[0, 0] 261)⟩, ⟨PyData.keyHash P (.ofString "PREFIX_100000"), (.str (.ofString "PREFIX_100000") 270), (.bytes #[1, 0, 0, 0, 0, 0] 269)⟩, ⟨PyData.keyHash P (.ofString "KV_TYPE"), (.str (.ofString "KV_TYPE") 272), (.int 0 271)⟩, ⟨PyData.keyHash P (.ofString "BRANCH_TYPE"), (.str (.ofString "BRANCH_TYPE") 274), (.int 1 273)⟩, ⟨PyData.keyHash P (.ofString "LEAF_TYPE"), (.str (.ofString "LEAF_TYPE") 276), (.int 2 275)⟩, ⟨PyData.keyHash P (.ofString "KV_TYPE_PREFIX"), (.str (.ofString "KV_TYPE_PREFIX") 279), (.bytes #[0] 278)⟩, ⟨PyData.keyHash P (.ofString "BRANCH_TYPE_PREFIX"), (.str (.ofString "BRANCH_TYPE_PREFIX") 282), (.bytes #[1] 281)⟩, ⟨PyData.keyHash P (.ofString "LEAF_TYPE_PREFIX"), (.str (.ofString "LEAF_TYPE_PREFIX") 285), (.bytes #[2] 284)⟩, ⟨PyData.keyHash P (.ofString "InvalidNode"), (.str (.ofString "InvalidNode") 307), (.ref 88)⟩] 20, #[]⟩
noncomputable def o12_4 (_ : Params) : Obj := ⟨.none, none, .fields #[(.int 2 0), (.int 27 0), (.ref 19), (.int 13 0), (.int 0 0), (.ref 84)], #[]⟩
noncomputable def o69_4 (_ : Params) : Obj := ⟨(.type "list"), none, .seq #[(.int 1 280)] 0, #[]⟩
noncomputable def o70_4 (_ : Params) : Obj := ⟨(.type "list_iterator"), none, .fields #[.none, (.int 1 0)], #[]⟩
noncomputable def o71_4 (_ : Params) : Obj := ⟨(.type "bytearray"), none, .bytearray #[1] 0, #[]⟩
noncomputable def o72_4 (_ : Params) : Obj := ⟨(.type "tuple"), none, .seq #[] 0, #[]⟩
noncomputable def o73_4 (_ : Params) : Obj := ⟨(.type "StopIteration"), none, .fields #[(.ref 72), .none, .none, .none, (.bool false), .none], #[]⟩
noncomputable def o74_4 (_ : Params) : Obj := ⟨(.type "list"), none, .seq #[(.int 2 283)] 0, #[]⟩
noncomputable def o75_4 (_ : Params) : Obj := ⟨(.type "list_iterator"), none, .fields #[.none, (.int 1 0)], #[]⟩
noncomputable def o76_4 (_ : Params) : Obj := ⟨(.type "bytearray"), none, .bytearray #[2] 0, #[]⟩
noncomputable def o77_4 (_ : Params) : Obj := ⟨(.type "tuple"), none, .seq #[] 0, #[]⟩
noncomputable def o78_4 (_ : Params) : Obj := ⟨(.type "StopIteration"), none, .fields #[(.ref 77), .none, .none, .none, (.bool false), .none], #[]⟩
noncomputable def o79_4 (_ : Params) : Obj := ⟨(.type "tuple"), none, .seq #[(.type "Exception")] 0, #[]⟩
noncomputable def o80_4 (_ : Params) : Obj := ⟨(.type "builtin_function_or_method"), none, .fields #[(.builtin "type.__prepare__"), (.type "type")], #[]⟩
noncomputable def o81_4 (P : Params) : Obj := ⟨(.type "dict"), none, .dict #[⟨PyData.keyHash P (.ofString "__module__"), (.str (.ofString "__module__") 295), (.str (.ofString "trie.exceptions") 286)⟩, ⟨PyData.keyHash P (.ofString "__qualname__"), (.str (.ofString "__qualname__") 297), (.str (.ofString "InvalidNode") 296)⟩, ⟨PyData.keyHash P (.ofString "__firstlineno__"), (.str (.ofString "__firstlineno__") 299), (.int 13 298)⟩, ⟨PyData.keyHash P (.ofString "__static_attributes__"), (.str (.ofString "__static_attributes__") 300), (.ref 86)⟩] 4, #[]⟩
noncomputable def o82_4 (_ : Params) : Obj := ⟨(.type "tuple"), none, .seq #[] 0, #[]⟩
noncomputable def o83_4 (_ : Params) : Obj := ⟨.none, none, .fields #[], #[]⟩
noncomputable def o84_4 (_ : Params) : Obj := ⟨(.type "code"), none, .fields #[(.str (.ofString "InvalidNode") 290), (.str (.ofString "InvalidNode") 291), (.str (.ofString "/claim/cut.py") 292), (.int 13 0), (.int 0 0), (.int 0 0), (.int 0 0), (.int 0 0), (.ref 82), (.bool false), (.int 181 0), (.ref 83), .none, .none, .none, .none, (.int 293 0), (.int 13 0), (.str (.ofString "/claim/cut.py") 294)], #[]⟩
noncomputable def o85_4 (_ : Params) : Obj := ⟨(.type "frame"), none, .plain, #[(some (.ref 84)), (some (.ref 3)), (some (.ref 81)), none, (some (.str (.ofString "trie.exceptions") 286)), none, (some (.ref 0))]⟩
noncomputable def o86_4 (_ : Params) : Obj := ⟨(.type "tuple"), none, .seq #[] 0, #[]⟩
noncomputable def o87_4 (P : Params) : Obj := ⟨(.type "dict"), none, .dict #[⟨PyData.keyHash P (.ofString "__module__"), (.str (.ofString "__module__") 295), (.str (.ofString "trie.exceptions") 286)⟩, ⟨PyData.keyHash P (.ofString "__firstlineno__"), (.str (.ofString "__firstlineno__") 299), (.int 13 298)⟩, ⟨PyData.keyHash P (.ofString "__static_attributes__"), (.str (.ofString "__static_attributes__") 300), (.ref 86)⟩, ⟨PyData.keyHash P (.ofString "__weakref__"), (.str (.ofString "__weakref__") 302), (.ref 89)⟩, ⟨PyData.keyHash P (.ofString "__doc__"), (.str (.ofString "__doc__") 303), .none⟩] 3, #[]⟩
noncomputable def o88_4 (_ : Params) : Obj := ⟨(.type "type"), none, .cls { name := (.ofString "InvalidNode"), bases := [(.type "Exception")], mro := [(.ref 88), (.type "Exception"), (.type "BaseException"), (.type "object")], ns := 87, qualname := (.ofString "InvalidNode"), hasDict := true, slotNames := [], subclasses := [], abstract := false, collection := none, hasDel := false }, #[(some (.ref 79)), none, (some (.str (.ofString "InvalidNode") 288)), (some (.str (.ofString "InvalidNode") 296)), (some (.builtin "Exception.__new__")), (some (.bool true))]⟩
noncomputable def o89_4 (_ : Params) : Obj := ⟨(.type "getset_descriptor"), none, .fields #[(.str (.ofString "__weakref__") 301), (.ref 88), (.builtin "ExceptionGroup.__weakref__"), .none], #[]⟩
noncomputable def o90_4 (_ : Params) : Obj := ⟨(.type "super"), none, .fields #[(.ref 88), (.ref 88), (.ref 88)], #[]⟩
noncomputable def o91_4 (_ : Params) : Obj := ⟨(.type "builtin_function_or_method"), none, .fields #[(.builtin "object.__init_subclass__"), (.ref 88)], #[]⟩
noncomputable def t_4 (P : Params) : BT := (.node (boot_o_0 P) (.node (boot_o_1 P) (.node (o3_4 P) (.node (boot_o_7 P) (.node (o15_1 P) (.node (o31_1 P) (.node (o63_3 P) .nil .nil) .nil) (.node (o47_2 P) (.node (o79_4 P) .nil .nil) .nil)) (.node (o23_1 P) (.node (o39_2 P) (.node (o71_4 P) .nil .nil) .nil) (.node (o55_3 P) (.node (o87_4 P) .nil .nil) .nil))) (.node (o11_a P) (.node (o19_1 P) (.node (o35_2 P) (.node (o67_3 P) .nil .nil) .nil) (.node (o51_2 P) (.node (o83_4 P) .nil .nil) .nil)) (.node (o27_1 P) (.node (o43_2 P) (.node (o75_4 P) .nil .nil) .nil) (.node (o59_3 P) (.node (o91_4 P) .nil .nil) .nil)))) (.node (boot_o_5 P) (.node (boot_o_9 P) (.node (o17_1 P) (.node (o33_2 P) (.node (o65_3 P) .nil .nil) .nil) (.node (o49_2 P) (.node (o81_4 P) .nil .nil) .nil)) (.node (o25_1 P) (.node (o41_2 P) (.node (o73_4 P) .nil .nil) .nil) (.node (o57_3 P) (.node (o89_4 P) .nil .nil) .nil))) (.node (o13_a P) (.node (o21_1 P) (.node (o37_2 P) (.node (o69_4 P) .nil .nil) .nil) (.node (o53_2 P) (.node (o85_4 P) .nil .nil) .nil)) (.node (o29_1 P) (.node (o45_2 P) (.node (o77_4 P) .nil .nil) .nil) (.node (o61_3 P) .nil .nil))))) (.node (o2_4 P) (.node (boot_o_4 P) (.node (boot_o_8 P) (.node (o16_1 P) (.node (o32_1 P) (.node (o64_3 P) .nil .nil) .nil) (.node (o48_2 P) (.node (o80_4 P) .nil .nil) .nil)) (.node (o24_1 P) (.node (o40_2 P) (.node (o72_4 P) .nil .nil) .nil) (.node (o56_3 P) (.node (o88_4 P) .nil .nil) .nil))) (.node (o12_4 P) (.node (o20_1 P) (.node (o36_2 P) (.node (o68_3 P) .nil .nil) .nil) (.node (o52_2 P) (.node (o84_4 P) .nil .nil) .nil)) (.node (o28_1 P) (.node (o44_2 P) (.node (o76_4 P) .nil .nil) .nil) (.node (o60_3 P) .nil .nil)))) (.node (boot_o_6 P) (.node (boot_o_10 P) (.node (o18_1 P) (.node (o34_2 P) (.node (o66_3 P) .nil .nil) .nil) (.node (o50_2 P) (.node (o82_4 P) .nil .nil) .nil)) (.node (o26_1 P) (.node (o42_2 P) (.node (o74_4 P) .nil .nil) .nil) (.node (o58_3 P) (.node (o90_4 P) .nil .nil) .nil))) (.node (o14_a P) (.node (o22_1 P) (.node (o38_2 P) (.node (o70_4 P) .nil .nil) .nil) (.node (o54_3 P) (.node (o86_4 P) .nil .nil) .nil)) (.node (o30_1 P) (.node (o46_2 P) (.node (o78_4 P) .nil .nil) .nil) (.node (o62_3 P) .nil .nil))))))
noncomputable def st_4 (w : World) (os : OsState) : SharedT := ⟨t_4 w.params, 92, life0, #[.finished], boot_drawn, 308, os⟩
noncomputable def o2_5 (P : Params) : Obj := ⟨.none, none, .dict #[⟨PyData.keyHash P (.ofString "type.__subclasses__.Exception.0"), (.str (.ofString "type.__subclasses__.Exception.0") 304), (.int 88 0)⟩, ⟨PyData.keyHash P (.ofString "type.__subclasses__.Exception.n"), (.str (.ofString "type.__subclasses__.Exception.n") 305), (.int 2 0)⟩, ⟨PyData.keyHash P (.ofString "type.__subclasses__.Exception.1"), (.str (.ofString "type.__subclasses__.Exception.1") 324), (.int 101 0)⟩] 3, #[]⟩
noncomputable def o3_5 (P : Params) : Obj := ⟨(.type "dict"), none, .dict #[⟨PyData.keyHash P (.ofString "__name__"), (.str (.ofString "__name__") 165), (.str (.ofString "trie.utils.binaries") 336)⟩, ⟨PyData.keyHash P (.ofString "__doc__"), (.str (.ofString "__doc__") 166), .none⟩, ⟨PyData.keyHash P (.ofString "__package__"), (.str (.ofString "__package__") 167), .none⟩, ⟨PyData.keyHash P (.ofString "__loader__"), (.str (.ofString "__loader__") 168), (.builtin "__main__.__loader__#opaque")⟩, ⟨PyData.keyHash P (.ofString "__spec__"), (.str (.ofString "__spec__") 169), .none⟩, ⟨PyData.keyHash P (.ofString "__annotations__"), (.str (.ofString "__annotations__") 170), (.ref 6)⟩, ⟨PyData.keyHash P (.ofString "__builtins__"), (.str (.ofString "__builtins__") 171), (.ref 4)⟩, ⟨PyData.keyHash P (.ofString "__file__"), (.str (.ofString "__file__") 173), (.str (.ofString "/claim/cut.py") 172)⟩, ⟨PyData.keyHash P (.ofString "__cached__"), (.str (.ofString "__cached__") 174), .none⟩, ⟨PyData.keyHash P (.ofString "EXP"), (.str (.ofString "EXP") 245), (.ref 32)⟩, ⟨PyData.keyHash P (.ofString "TWO_BITS"), (.str (.ofString "TWO_BITS") 258), (.ref 53)⟩, ⟨PyData.keyHash P (.ofString "PREFIX_00"), (.str (.ofString "PREFIX_00") 262), (.bytes #[0, 0] 261)⟩, ⟨PyData.keyHash P (.ofString "PREFIX_100000"), (.str (.ofString "PREFIX_100000") 270), (.bytes #[1, 0, 0, 0, 0, 0] 269)⟩, ⟨PyData.keyHash P (.ofString "KV_TYPE"), (.str (.ofString "KV_TYPE") 272), (.int 0 271)⟩, ⟨PyData.keyHash P (.ofString "BRANCH_TYPE"), (.str (.ofString "BRANCH_TYPE") 274), (.int 1 273)⟩, ⟨PyData.keyHash P (.ofString "LEAF_TYPE"), (.str (.ofString "LEAF_TYPE") 276), (.int 2 275)⟩, ⟨PyData.keyHash P (.ofString "KV_TYPE_PREFIX"), (.str (.ofString "KV_TYPE_PREFIX") 279), (.bytes #[0] 278)⟩, ⟨PyData.keyHash P (.ofString "BRANCH_TYPE_PREFIX"), (.str (.ofString "BRANCH_TYPE_PREFIX") 282), (.bytes #[1] 281)⟩, ⟨PyData.keyHash P (.ofString "LEAF_TYPE_PREFIX"), (.str (.ofString "LEAF_TYPE_PREFIX") 285), (.bytes #[2] 284)⟩, ⟨PyData.keyHash P (.ofString "InvalidNode"), (.str (.ofString "InvalidNode") 307), (.ref 88)⟩, ⟨PyData.keyHash P (.ofString "ValidationError"), (.str (.ofString "ValidationError") 327), (.ref 101)⟩, ⟨PyData.keyHash P (.ofString "partition_all"), (.str (.ofString "partition_all") 335), (.ref 109)⟩, ⟨PyData.keyHash P (.ofString "decode_from_bin"), (.str (.ofString "decode_from_bin") 344), (.ref 116)⟩, ⟨PyData.keyHash P (.ofString "_decode_from_bin"), (.str (.ofString "_decode_from_bin") 352), (.ref 123)⟩, ⟨PyData.keyHash P (.ofString "encode_to_bin"), (.str (.ofString "encode_to_bin") 358), (.ref 128)⟩, ⟨PyData.keyHash P (.ofString "_encode_to_bin"), (.str (.ofString "_encode_to_bin") 367), (.ref 135)⟩, ⟨PyData.keyHash P (.ofString "encode_from_bin_keypath"), (.str (.ofString "encode_from_bin_keypath") 376), (.ref 142)⟩] 27, #[]⟩
noncomputable def o12_5 (_ : Params) : Obj := ⟨.none, none, .fields #[(.int 2 0), (.int 27 0), (.ref 19), (.int 13 0), (.int 0 0), (.ref 84), (.int 15 0), (.int 0 0), (.ref 97), (.int 18 0), (.int 0 0), (.ref 108), (.int 21 0), (.int 0 0), (.ref 115), (.int 23 0), (.int 0 0), (.ref 122), (.int 26 0), (.int 0 0), (.ref 127), (.int 28 0), (.int 0 0), (.ref 134), (.int 35 0), (.int 0 0), (.ref 141)], #[]⟩
noncomputable def o92_5 (_ : Params) : Obj := ⟨(.type "tuple"), none, .seq #[(.type "Exception")] 0, #[]⟩
noncomputable def o93_5 (_ : Params) : Obj := ⟨(.type "builtin_function_or_method"), none, .fields #[(.builtin "type.__prepare__"), (.type "type")], #[]⟩
noncomputable def o94_5 (P : Params) : Obj := ⟨(.type "dict"), none, .dict #[⟨PyData.keyHash P (.ofString "__module__"), (.str (.ofString "__module__") 315), (.str (.ofString "trie.exceptions") 286)⟩, ⟨PyData.keyHash P (.ofString "__qualname__"), (.str (.ofString "__qualname__") 317), (.str (.ofString "ValidationError") 316)⟩, ⟨PyData.keyHash P (.ofString "__firstlineno__"), (.str (.ofString "__firstlineno__") 319), (.int 15 318)⟩, ⟨PyData.keyHash P (.ofString "__static_attributes__"), (.str (.ofString "__static_attributes__") 320), (.ref 99)⟩] 4, #[]⟩
noncomputable def o95_5 (_ : Params) : Obj := ⟨(.type "tuple"), none, .seq #[] 0, #[]⟩
noncomputable def o96_5 (_ : Params) : Obj := ⟨.none, none, .fields #[], #[]⟩
noncomputable def o97_5 (_ : Params) : Obj := ⟨(.type "code"), none, .fields #[(.str (.ofString "ValidationError") 310), (.str (.ofString "ValidationError") 311), (.str (.ofString "/claim/cut.py") 312), (.int 15 0), (.int 0 0), (.int 0 0), (.int 0 0), (.int 0 0), (.ref 95), (.bool false), (.int 181 0), (.ref 96), .none, .none, .none, .none, (.int 313 0), (.int 15 0), (.str (.ofString "/claim/cut.py") 314)], #[]⟩
noncomputable def o98_5 (_ : Params) : Obj := ⟨(.type "frame"), none, .plain, #[(some (.ref 97)), (some (.ref 3)), (some (.ref 94)), none, (some (.str (.ofString "trie.exceptions") 286)), none, (some (.ref 0))]⟩
noncomputable def o99_5 (_ : Params) : Obj := ⟨(.type "tuple"), none, .seq #[] 0, #[]⟩
noncomputable def o100_5 (P : Params) : Obj := ⟨(.type "dict"), none, .dict #[⟨PyData.keyHash P (.ofString "__module__"), (.str (.ofString "__module__") 315), (.str (.ofString "trie.exceptions") 286)⟩, ⟨PyData.keyHash P (.ofString "__firstlineno__"), (.str (.ofString "__firstlineno__") 319), (.int 15 318)⟩, ⟨PyData.keyHash P (.ofString "__static_attributes__"), (.str (.ofString "__static_attributes__") 320), (.ref 99)⟩, ⟨PyData.keyHash P (.ofString "__weakref__"), (.str (.ofString "__weakref__") 322), (.ref 102)⟩, ⟨PyData.keyHash P (.ofString "__doc__"), (.str (.ofString "__doc__") 323), .none⟩] 3, #[]⟩
noncomputable def o101_5 (_ : Params) : Obj := ⟨(.type "type"), none, .cls { name := (.ofString "ValidationError"), bases := [(.type "Exception")], mro := [(.ref 101), (.type "Exception"), (.type "BaseException"), (.type "object")], ns := 100, qualname := (.ofString "ValidationError"), hasDict := true, slotNames := [], subclasses := [], abstract := false, collection := none, hasDel := false }, #[(some (.ref 92)), none, (some (.str (.ofString "ValidationError") 308)), (some (.str (.ofString "ValidationError") 316)), (some (.builtin "Exception.__new__")), (some (.bool true))]⟩
noncomputable def o102_5 (_ : Params) : Obj := ⟨(.type "getset_descriptor"), none, .fields #[(.str (.ofString "__weakref__") 321), (.ref 101), (.builtin "ExceptionGroup.__weakref__"), .none], #[]⟩
noncomputable def o103_5 (_ : Params) : Obj := ⟨(.type "super"), none, .fields #[(.ref 101), (.ref 101), (.ref 101)], #[]⟩
noncomputable def o104_5 (_ : Params) : Obj := ⟨(.type "builtin_function_or_method"), none, .fields #[(.builtin "object.__init_subclass__"), (.ref 101)], #[]⟩
noncomputable def o105_5 (_ : Params) : Obj := ⟨(.type "tuple"), none, .seq #[] 0, #[]⟩
noncomputable def o106_5 (_ : Params) : Obj := ⟨.none, none, .fields #[], #[]⟩
noncomputable def o107_5 (_ : Params) : Obj := ⟨.none, none, .func { name := (.ofString "partition_all"), qualname := (.ofString "partition_all"), params := fnP15, body := .stmts fnB15, scope := fnS15, globals := 0, closure := [], defaults := .none, kwdefaults := .none, doc := .none, pyModule := .none, annotations := none, code := .none, closureTuple := .none, builtins := 0 }, #[]⟩
noncomputable def o108_5 (_ : Params) : Obj := ⟨(.type "code"), none, .fields #[(.str (.ofString "partition_all") 330), (.str (.ofString "partition_all") 331), (.str (.ofString "/claim/cut.py") 332), (.int 18 0), (.int 2 0), (.int 0 0), (.int 0 0), (.int 3 0), (.ref 105), (.bool true), (.int 181 0), (.ref 106), .none, .none, .none, (.ref 107), (.int 333 0), (.int 18 0), (.str (.ofString "/claim/cut.py") 334)], #[]⟩
noncomputable def o109_5 (_ : Params) : Obj := ⟨(.type "function"), none, .func { name := (.ofString "partition_all"), qualname := (.ofString "partition_all"), params := fnP15, body := .stmts fnB15, scope := fnS15, globals := 3, closure := [], defaults := .none, kwdefaults := .none, doc := .none, pyModule := (.str (.ofString "trie.others") 328), annotations := none, code := (.ref 108), closureTuple := .none, builtins := 0 }, #[]⟩
noncomputable def o110_5 (_ : Params) : Obj := ⟨(.type "tuple"), none, .seq #[] 0, #[]⟩
noncomputable def o111_5 (_ : Params) : Obj := ⟨.none, none, .fields #[], #[]⟩
noncomputable def o112_5 (_ : Params) : Obj := ⟨(.type "tuple"), none, .seq #[(.str (.ofString "input_bin") 341)] 0, #[]⟩
noncomputable def o113_5 (_ : Params) : Obj := ⟨(.type "tuple"), none, .seq #[] 0, #[]⟩
noncomputable def o114_5 (_ : Params) : Obj := ⟨.none, none, .func { name := (.ofString "decode_from_bin"), qualname := (.ofString "decode_from_bin"), params := fnP17, body := .stmts fnB17, scope := fnS17, globals := 0, closure := [], defaults := .none, kwdefaults := .none, doc := .none, pyModule := .none, annotations := none, code := .none, closureTuple := .none, builtins := 0 }, #[]⟩
noncomputable def o115_5 (_ : Params) : Obj := ⟨(.type "code"), none, .fields #[(.str (.ofString "decode_from_bin") 338), (.str (.ofString "decode_from_bin") 339), (.str (.ofString "/claim/cut.py") 340), (.int 21 0), (.int 1 0), (.int 0 0), (.int 0 0), (.int 3 0), (.ref 110), (.bool true), (.int 181 0), (.ref 111), .none, (.ref 112), (.ref 113), (.ref 114), (.int 342 0), (.int 21 0), (.str (.ofString "/claim/cut.py") 343)], #[]⟩
noncomputable def o116_5 (_ : Params) : Obj := ⟨(.type "function"), none, .func { name := (.ofString "decode_from_bin"), qualname := (.ofString "decode_from_bin"), params := fnP17, body := .stmts fnB17, scope := fnS17, globals := 3, closure := [], defaults := .none, kwdefaults := .none, doc := .none, pyModule := (.str (.ofString "trie.utils.binaries") 336), annotations := none, code := (.ref 115), closureTuple := .none, builtins := 0 }, #[]⟩
noncomputable def o117_5 (_ : Params) : Obj := ⟨(.type "tuple"), none, .seq #[] 0, #[]⟩
noncomputable def o118_5 (_ : Params) : Obj := ⟨.none, none, .fields #[], #[]⟩
noncomputable def o119_5 (_ : Params) : Obj := ⟨(.type "tuple"), none, .seq #[(.str (.ofString "input_bin") 348), (.str (.ofString "chunk") 349)] 0, #[]⟩
noncomputable def o120_5 (_ : Params) : Obj := ⟨(.type "tuple"), none, .seq #[] 0, #[]⟩
noncomputable def o121_5 (_ : Params) : Obj := ⟨.none, none, .func { name := (.ofString "_decode_from_bin"), qualname := (.ofString "_decode_from_bin"), params := fnP18, body := .stmts fnB18, scope := fnS18, globals := 0, closure := [], defaults := .none, kwdefaults := .none, doc := .none, pyModule := .none, annotations := none, code := .none, closureTuple := .none, builtins := 0 }, #[]⟩
noncomputable def o122_5 (_ : Params) : Obj := ⟨(.type "code"), none, .fields #[(.str (.ofString "_decode_from_bin") 345), (.str (.ofString "_decode_from_bin") 346), (.str (.ofString "/claim/cut.py") 347), (.int 23 0), (.int 1 0), (.int 0 0), (.int 0 0), (.int 35 0), (.ref 117), (.bool true), (.int 181 0), (.ref 118), .none, (.ref 119), (.ref 120), (.ref 121), (.int 350 0), (.int 23 0), (.str (.ofString "/claim/cut.py") 351)], #[]⟩
noncomputable def o123_5 (_ : Params) : Obj := ⟨(.type "function"), none, .func { name := (.ofString "_decode_from_bin"), qualname := (.ofString "_decode_from_bin"), params := fnP18, body := .stmts fnB18, scope := fnS18, globals := 3, closure := [], defaults := .none, kwdefaults := .none, doc := .none, pyModule := (.str (.ofString "trie.utils.binaries") 336), annotations := none, code := (.ref 122), closureTuple := .none, builtins := 0 }, #[]⟩
noncomputable def o124_5 (_ : Params) : Obj := ⟨(.type "tuple"), none, .seq #[] 0, #[]⟩
noncomputable def o125_5 (_ : Params) : Obj := ⟨.none, none, .fields #[], #[]⟩
noncomputable def o126_5 (_ : Params) : Obj := ⟨.none, none, .func { name := (.ofString "encode_to_bin"), qualname := (.ofString "encode_to_bin"), params := fnP19, body := .stmts fnB19, scope := fnS19, globals := 0, closure := [], defaults := .none, kwdefaults := .none, doc := .none, pyModule := .none, annotations := none, code := .none, closureTuple := .none, builtins := 0 }, #[]⟩
noncomputable def o127_5 (_ : Params) : Obj := ⟨(.type "code"), none, .fields #[(.str (.ofString "encode_to_bin") 353), (.str (.ofString "encode_to_bin") 354), (.str (.ofString "/claim/cut.py") 355), (.int 26 0), (.int 1 0), (.int 0 0), (.int 0 0), (.int 3 0), (.ref 124), (.bool true), (.int 181 0), (.ref 125), .none, .none, .none, (.ref 126), (.int 356 0), (.int 26 0), (.str (.ofString "/claim/cut.py") 357)], #[]⟩
noncomputable def o128_5 (_ : Params) : Obj := ⟨(.type "function"), none, .func { name := (.ofString "encode_to_bin"), qualname := (.ofString "encode_to_bin"), params := fnP19, body := .stmts fnB19, scope := fnS19, globals := 3, closure := [], defaults := .none, kwdefaults := .none, doc := .none, pyModule := (.str (.ofString "trie.utils.binaries") 336), annotations := none, code := (.ref 127), closureTuple := .none, builtins := 0 }, #[]⟩
noncomputable def o129_5 (_ : Params) : Obj := ⟨(.type "tuple"), none, .seq #[] 0, #[]⟩
noncomputable def o130_5 (_ : Params) : Obj := ⟨.none, none, .fields #[], #[]⟩
noncomputable def o131_5 (_ : Params) : Obj := ⟨(.type "tuple"), none, .seq #[(.str (.ofString "value") 362), (.str (.ofString "char") 363), (.str (.ofString "exp") 364)] 0, #[]⟩
noncomputable def o132_5 (_ : Params) : Obj := ⟨(.type "tuple"), none, .seq #[] 0, #[]⟩
noncomputable def o133_5 (_ : Params) : Obj := ⟨.none, none, .func { name := (.ofString "_encode_to_bin"), qualname := (.ofString "_encode_to_bin"), params := fnP20, body := .stmts fnB20, scope := fnS20, globals := 0, closure := [], defaults := .none, kwdefaults := .none, doc := .none, pyModule := .none, annotations := none, code := .none, closureTuple := .none, builtins := 0 }, #[]⟩
noncomputable def o134_5 (_ : Params) : Obj := ⟨(.type "code"), none, .fields #[(.str (.ofString "_encode_to_bin") 359), (.str (.ofString "_encode_to_bin") 360), (.str (.ofString "/claim/cut.py") 361), (.int 28 0), (.int 1 0), (.int 0 0), (.int 0 0), (.int 35 0), (.ref 129), (.bool true), (.int 181 0), (.ref 130), .none, (.ref 131), (.ref 132), (.ref 133), (.int 365 0), (.int 28 0), (.str (.ofString "/claim/cut.py") 366)], #[]⟩
noncomputable def o135_5 (_ : Params) : Obj := ⟨(.type "function"), none, .func { name := (.ofString "_encode_to_bin"), qualname := (.ofString "_encode_to_bin"), params := fnP20, body := .stmts fnB20, scope := fnS20, globals := 3, closure := [], defaults := .none, kwdefaults := .none, doc := .none, pyModule := (.str (.ofString "trie.utils.binaries") 336), annotations := none, code := (.ref 134), closureTuple := .none, builtins := 0 }, #[]⟩
noncomputable def o136_5 (_ : Params) : Obj := ⟨(.type "tuple"), none, .seq #[] 0, #[]⟩
noncomputable def o137_5 (_ : Params) : Obj := ⟨.none, none, .fields #[], #[]⟩
noncomputable def o138_5 (_ : Params) : Obj := ⟨(.type "tuple"), none, .seq #[(.str (.ofString "input_bin") 371), (.str (.ofString "padded_bin") 372), (.str (.ofString "prefix") 373)] 0, #[]⟩
noncomputable def o139_5 (_ : Params) : Obj := ⟨(.type "tuple"), none, .seq #[] 0, #[]⟩
noncomputable def o140_5 (_ : Params) : Obj := ⟨.none, none, .func { name := (.ofString "encode_from_bin_keypath"), qualname := (.ofString "encode_from_bin_keypath"), params := fnP21, body := .stmts fnB21, scope := fnS21, globals := 0, closure := [], defaults := .none, kwdefaults := .none, doc := .none, pyModule := .none, annotations := none, code := .none, closureTuple := .none, builtins := 0 }, #[]⟩
noncomputable def o141_5 (_ : Params) : Obj := ⟨(.type "code"), none, .fields #[(.str (.ofString "encode_from_bin_keypath") 368), (.str (.ofString "encode_from_bin_keypath") 369), (.str (.ofString "/claim/cut.py") 370), (.int 35 0), (.int 1 0), (.int 0 0), (.int 0 0), (.int 3 0), (.ref 136), (.bool true), (.int 181 0), (.ref 137), .none, (.ref 138), (.ref 139), (.ref 140), (.int 374 0), (.int 35 0), (.str (.ofString "/claim/cut.py") 375)], #[]⟩
noncomputable def o142_5 (_ : Params) : Obj := ⟨(.type "function"), none, .func { name := (.ofString "encode_from_bin_keypath"), qualname := (.ofString "encode_from_bin_keypath"), params := fnP21, body := .stmts fnB21, scope := fnS21, globals := 3, closure := [], defaults := .none, kwdefaults := .none, doc := .none, pyModule := (.str (.ofString "trie.utils.binaries") 336), annotations := none, code := (.ref 141), closureTuple := .none, builtins := 0 }, #[]⟩
noncomputable def t_5 (P : Params) : BT := (.node (boot_o_0 P) (.node (boot_o_1 P) (.node (o3_5 P) (.node (boot_o_7 P) (.node (o15_1 P) (.node (o31_1 P) (.node (o63_3 P) (.node (o127_5 P) .nil .nil) .nil) (.node (o95_5 P) .nil .nil)) (.node (o47_2 P) (.node (o79_4 P) .nil .nil) (.node (o111_5 P) .nil .nil))) (.node (o23_1 P) (.node (o39_2 P) (.node (o71_4 P) (.node (o135_5 P) .nil .nil) .nil) (.node (o103_5 P) .nil .nil)) (.node (o55_3 P) (.node (o87_4 P) .nil .nil) (.node (o119_5 P) .nil .nil)))) (.node (o11_a P) (.node (o19_1 P) (.node (o35_2 P) (.node (o67_3 P) (.node (o131_5 P) .nil .nil) .nil) (.node (o99_5 P) .nil .nil)) (.node (o51_2 P) (.node (o83_4 P) .nil .nil) (.node (o115_5 P) .nil .nil))) (.node (o27_1 P) (.node (o43_2 P) (.node (o75_4 P) (.node (o139_5 P) .nil .nil) .nil) (.node (o107_5 P) .nil .nil)) (.node (o59_3 P) (.node (o91_4 P) .nil .nil) (.node (o123_5 P) .nil .nil))))) (.node (boot_o_5 P) (.node (boot_o_9 P) (.node (o17_1 P) (.node (o33_2 P) (.node (o65_3 P) (.node (o129_5 P) .nil .nil) .nil) (.node (o97_5 P) .nil .nil)) (.node (o49_2 P) (.node (o81_4 P) .nil .nil) (.node (o113_5 P) .nil .nil))) (.node (o25_1 P) (.node (o41_2 P) (.node (o73_4 P) (.node (o137_5 P) .nil .nil) .nil) (.node (o105_5 P) .nil .nil)) (.node (o57_3 P) (.node (o89_4 P) .nil .nil) (.node (o121_5 P) .nil .nil)))) (.node (o13_a P) (.node (o21_1 P) (.node (o37_2 P) (.node (o69_4 P) (.node (o133_5 P) .nil .nil) .nil) (.node (o101_5 P) .nil .nil)) (.node (o53_2 P) (.node (o85_4 P) .nil .nil) (.node (o117_5 P) .nil .nil))) (.node (o29_1 P) (.node (o45_2 P) (.node (o77_4 P) (.node (o141_5 P) .nil .nil) .nil) (.node (o109_5 P) .nil .nil)) (.node (o61_3 P) (.node (o93_5 P) .nil .nil) (.node (o125_5 P) .nil .nil)))))) (.node (o2_5 P) (.node (boot_o_4 P) (.node (boot_o_8 P) (.node (o16_1 P) (.node (o32_1 P) (.node (o64_3 P) (.node (o128_5 P) .nil .nil) .nil) (.node (o96_5 P) .nil .nil)) (.node (o48_2 P) (.node (o80_4 P) .nil .nil) (.node (o112_5 P) .nil .nil))) (.node (o24_1 P) (.node (o40_2 P) (.node (o72_4 P) (.node (o136_5 P) .nil .nil) .nil) (.node (o104_5 P) .nil .nil)) (.node (o56_3 P) (.node (o88_4 P) .nil .nil) (.node (o120_5 P) .nil .nil)))) (.node (o12_5 P) (.node (o20_1 P) (.node (o36_2 P) (.node (o68_3 P) (.node (o132_5 P) .nil .nil) .nil) (.node (o100_5 P) .nil .nil)) (.node (o52_2 P) (.node (o84_4 P) .nil .nil) (.node (o116_5 P) .nil .nil))) (.node (o28_1 P) (.node (o44_2 P) (.node (o76_4 P) (.node (o140_5 P) .nil .nil) .nil) (.node (o108_5 P) .nil .nil)) (.node (o60_3 P) (.node (o92_5 P) .nil .nil) (.node (o124_5 P) .nil .nil))))) (.node (boot_o_6 P) (.node (boot_o_10 P) (.node (o18_1 P) (.node (o34_2 P) (.node (o66_3 P) (.node (o130_5 P) .nil .nil) .nil) (.node (o98_5 P) .nil .nil)) (.node (o50_2 P) (.node (o82_4 P) .nil .nil) (.node (o114_5 P) .nil .nil))) (.node (o26_1 P) (.node (o42_2 P) (.node (o74_4 P) (.node (o138_5 P) .nil .nil) .nil) (.node (o106_5 P) .nil .nil)) (.node (o58_3 P) (.node (o90_4 P) .nil .nil) (.node (o122_5 P) .nil .nil)))) (.node (o14_a P) (.node (o22_1 P) (.node (o38_2 P) (.node (o70_4 P) (.node (o134_5 P) .nil .nil) .nil) (.node (o102_5 P) .nil .nil)) (.node (o54_3 P) (.node (o86_4 P) .nil .nil) (.node (o118_5 P) .nil .nil))) (.node (o30_1 P) (.node (o46_2 P) (.node (o78_4 P) (.node (o142_5 P) .nil .nil) .nil) (.node (o110_5 P) .nil .nil)) (.node (o62_3 P) (.node (o94_5 P) .nil .nil) (.node (o126_5 P) .nil .nil)))))))
noncomputable def st_5 (w : World) (os : OsState) : SharedT := ⟨t_5 w.params, 143, life0, #[.finished], boot_drawn, 377, os⟩
noncomputable def o3_6 (P : Params) : Obj := ⟨(.type "dict"), none, .dict #[⟨PyData.keyHash P (.ofString "__name__"), (.str (.ofString "__name__") 165), (.str (.ofString "law_jx0031_01") 434)⟩, ⟨PyData.keyHash P (.ofString "__doc__"), (.str (.ofString "__doc__") 166), .none⟩, ⟨PyData.keyHash P (.ofString "__package__"), (.str (.ofString "__package__") 167), .none⟩, ⟨PyData.keyHash P (.ofString "__loader__"), (.str (.ofString "__loader__") 168), (.builtin "__main__.__loader__#opaque")⟩, ⟨PyData.keyHash P (.ofString "__spec__"), (.str (.ofString "__spec__") 169), .none⟩, ⟨PyData.keyHash P (.ofString "__annotations__"), (.str (.ofString "__annotations__") 170), (.ref 6)⟩, ⟨PyData.keyHash P (.ofString "__builtins__"), (.str (.ofString "__builtins__") 171), (.ref 4)⟩, ⟨PyData.keyHash P (.ofString "__file__"), (.str (.ofString "__file__") 173), (.str (.ofString "/claim/cut.py") 172)⟩, ⟨PyData.keyHash P (.ofString "__cached__"), (.str (.ofString "__cached__") 174), .none⟩, ⟨PyData.keyHash P (.ofString "EXP"), (.str (.ofString "EXP") 245), (.ref 32)⟩, ⟨PyData.keyHash P (.ofString "TWO_BITS"), (.str (.ofString "TWO_BITS") 258), (.ref 53)⟩, ⟨PyData.keyHash P (.ofString "PREFIX_00"), (.str (.ofString "PREFIX_00") 262), (.bytes #[0, 0] 261)⟩, ⟨PyData.keyHash P (.ofString "PREFIX_100000"), (.str (.ofString "PREFIX_100000") 270), (.bytes #[1, 0, 0, 0, 0, 0] 269)⟩, ⟨PyData.keyHash P (.ofString "KV_TYPE"), (.str (.ofString "KV_TYPE") 272), (.int 0 271)⟩, ⟨PyData.keyHash P (.ofString "BRANCH_TYPE"), (.str (.ofString "BRANCH_TYPE") 274), (.int 1 273)⟩, ⟨PyData.keyHash P (.ofString "LEAF_TYPE"), (.str (.ofString "LEAF_TYPE") 276), (.int 2 275)⟩, ⟨PyData.keyHash P (.ofString "KV_TYPE_PREFIX"), (.str (.ofString "KV_TYPE_PREFIX") 279), (.bytes #[0] 278)⟩, ⟨PyData.keyHash P (.ofString "BRANCH_TYPE_PREFIX"), (.str (.ofString "BRANCH_TYPE_PREFIX") 282), (.bytes #[1] 281)⟩, ⟨PyData.keyHash P (.ofString "LEAF_TYPE_PREFIX"), (.str (.ofString "LEAF_TYPE_PREFIX") 285), (.bytes #[2] 284)⟩, ⟨PyData.keyHash P (.ofString "InvalidNode"), (.str (.ofString "InvalidNode") 307), (.ref 88)⟩, ⟨PyData.keyHash P (.ofString "ValidationError"), (.str (.ofString "ValidationError") 327), (.ref 101)⟩, ⟨PyData.keyHash P (.ofString "partition_all"), (.str (.ofString "partition_all") 335), (.ref 109)⟩, ⟨PyData.keyHash P (.ofString "decode_from_bin"), (.str (.ofString "decode_from_bin") 344), (.ref 116)⟩, ⟨PyData.keyHash P (.ofString "_decode_from_bin"), (.str (.ofString "_decode_from_bin") 352), (.ref 123)⟩, ⟨PyData.keyHash P (.ofString "encode_to_bin"), (.str (.ofString "encode_to_bin") 358), (.ref 128)⟩, ⟨PyData.keyHash P (.ofString "_encode_to_bin"), (.str (.ofString "_encode_to_bin") 367), (.ref 135)⟩, ⟨PyData.keyHash P (.ofString "encode_from_bin_keypath"), (.str (.ofString "encode_from_bin_keypath") 376), (.ref 142)⟩, ⟨PyData.keyHash P (.ofString "decode_to_bin_keypath"), (.str (.ofString "decode_to_bin_keypath") 384), (.ref 149)⟩, ⟨PyData.keyHash P (.ofString "validate_is_bytes"), (.str (.ofString "validate_is_bytes") 393), (.ref 156)⟩, ⟨PyData.keyHash P (.ofString "validate_length"), (.str (.ofString "validate_length") 401), (.ref 163)⟩, ⟨PyData.keyHash P (.ofString "parse_node"), (.str (.ofString "parse_node") 410), (.ref 170)⟩, ⟨PyData.keyHash P (.ofString "encode_kv_node"), (.str (.ofString "encode_kv_node") 418), (.ref 177)⟩, ⟨PyData.keyHash P (.ofString "encode_branch_node"), (.str (.ofString "encode_branch_node") 426), (.ref 184)⟩, ⟨PyData.keyHash P (.ofString "encode_leaf_node"), (.str (.ofString "encode_leaf_node") 433), (.ref 191)⟩, ⟨PyData.keyHash P (.ofString "_law_number"), (.str (.ofString "_law_number") 444), (.ref 198)⟩, ⟨PyData.keyHash P (.ofString "_law_packed"), (.str (.ofString "_law_packed") 453), (.ref 205)⟩, ⟨PyData.keyHash P (.ofString "_law_signs"), (.str (.ofString "_law_signs") 463), (.ref 212)⟩, ⟨PyData.keyHash P (.ofString "_law_row"), (.str (.ofString "_law_row") 469), (.ref 217)⟩, ⟨PyData.keyHash P (.ofString "_law_read"), (.str (.ofString "_law_read") 477), (.ref 224)⟩] 39, #[]⟩
noncomputable def o12_6 (_ : Params) : Obj := ⟨.none, none, .fields #[(.int 2 0), (.int 27 0), (.ref 19), (.int 13 0), (.int 0 0), (.ref 84), (.int 15 0), (.int 0 0), (.ref 97), (.int 18 0), (.int 0 0), (.ref 108), (.int 21 0), (.int 0 0), (.ref 115), (.int 23 0), (.int 0 0), (.ref 122), (.int 26 0), (.int 0 0), (.ref 127), (.int 28 0), (.int 0 0), (.ref 134), (.int 35 0), (.int 0 0), (.ref 141), (.int 42 0), (.int 0 0), (.ref 148), (.int 50 0), (.int 0 0), (.ref 155), (.int 53 0), (.int 0 0), (.ref 162), (.int 57 0), (.int 0 0), (.ref 169), (.int 74 0), (.int 0 0), (.ref 176), (.int 81 0), (.int 0 0), (.ref 183), (.int 87 0), (.int 0 0), (.ref 190), (.int 93 0), (.int 0 0), (.ref 197), (.int 98 0), (.int 0 0), (.ref 204), (.int 102 0), (.int 0 0), (.ref 211), (.int 108 0), (.int 0 0), (.ref 216), (.int 110 0), (.int 0 0), (.ref 223)], #[]⟩
noncomputable def o143_6 (_ : Params) : Obj := ⟨(.type "tuple"), none, .seq #[] 0, #[]⟩
noncomputable def o144_6 (_ : Params) : Obj := ⟨.none, none, .fields #[], #[]⟩
noncomputable def o145_6 (_ : Params) : Obj := ⟨(.type "tuple"), none, .seq #[(.str (.ofString "path") 380), (.str (.ofString "padded_len") 381)] 0, #[]⟩
noncomputable def o146_6 (_ : Params) : Obj := ⟨(.type "tuple"), none, .seq #[] 0, #[]⟩
noncomputable def o147_6 (_ : Params) : Obj := ⟨.none, none, .func { name := (.ofString "decode_to_bin_keypath"), qualname := (.ofString "decode_to_bin_keypath"), params := fnP22, body := .stmts fnB22, scope := fnS22, globals := 0, closure := [], defaults := .none, kwdefaults := .none, doc := .none, pyModule := .none, annotations := none, code := .none, closureTuple := .none, builtins := 0 }, #[]⟩
noncomputable def o148_6 (_ : Params) : Obj := ⟨(.type "code"), none, .fields #[(.str (.ofString "decode_to_bin_keypath") 377), (.str (.ofString "decode_to_bin_keypath") 378), (.str (.ofString "/claim/cut.py") 379), (.int 42 0), (.int 1 0), (.int 0 0), (.int 0 0), (.int 3 0), (.ref 143), (.bool true), (.int 181 0), (.ref 144), .none, (.ref 145), (.ref 146), (.ref 147), (.int 382 0), (.int 42 0), (.str (.ofString "/claim/cut.py") 383)], #[]⟩
noncomputable def o149_6 (_ : Params) : Obj := ⟨(.type "function"), none, .func { name := (.ofString "decode_to_bin_keypath"), qualname := (.ofString "decode_to_bin_keypath"), params := fnP22, body := .stmts fnB22, scope := fnS22, globals := 3, closure := [], defaults := .none, kwdefaults := .none, doc := .none, pyModule := (.str (.ofString "trie.utils.binaries") 336), annotations := none, code := (.ref 148), closureTuple := .none, builtins := 0 }, #[]⟩
noncomputable def o150_6 (_ : Params) : Obj := ⟨(.type "tuple"), none, .seq #[] 0, #[]⟩
noncomputable def o151_6 (_ : Params) : Obj := ⟨.none, none, .fields #[], #[]⟩
noncomputable def o152_6 (_ : Params) : Obj := ⟨(.type "tuple"), none, .seq #[(.str (.ofString "value") 390)] 0, #[]⟩
noncomputable def o153_6 (_ : Params) : Obj := ⟨(.type "tuple"), none, .seq #[] 0, #[]⟩
noncomputable def o154_6 (_ : Params) : Obj := ⟨.none, none, .func { name := (.ofString "validate_is_bytes"), qualname := (.ofString "validate_is_bytes"), params := fnP24, body := .stmts fnB24, scope := fnS24, globals := 0, closure := [], defaults := .none, kwdefaults := .none, doc := .none, pyModule := .none, annotations := none, code := .none, closureTuple := .none, builtins := 0 }, #[]⟩
noncomputable def o155_6 (_ : Params) : Obj := ⟨(.type "code"), none, .fields #[(.str (.ofString "validate_is_bytes") 387), (.str (.ofString "validate_is_bytes") 388), (.str (.ofString "/claim/cut.py") 389), (.int 50 0), (.int 1 0), (.int 0 0), (.int 0 0), (.int 3 0), (.ref 150), (.bool true), (.int 181 0), (.ref 151), .none, (.ref 152), (.ref 153), (.ref 154), (.int 391 0), (.int 50 0), (.str (.ofString "/claim/cut.py") 392)], #[]⟩
noncomputable def o156_6 (_ : Params) : Obj := ⟨(.type "function"), none, .func { name := (.ofString "validate_is_bytes"), qualname := (.ofString "validate_is_bytes"), params := fnP24, body := .stmts fnB24, scope := fnS24, globals := 3, closure := [], defaults := .none, kwdefaults := .none, doc := .none, pyModule := (.str (.ofString "trie.validation") 385), annotations := none, code := (.ref 155), closureTuple := .none, builtins := 0 }, #[]⟩
noncomputable def o157_6 (_ : Params) : Obj := ⟨(.type "tuple"), none, .seq #[] 0, #[]⟩
noncomputable def o158_6 (_ : Params) : Obj := ⟨.none, none, .fields #[], #[]⟩
noncomputable def o159_6 (_ : Params) : Obj := ⟨(.type "tuple"), none, .seq #[(.str (.ofString "value") 397), (.str (.ofString "length") 398)] 0, #[]⟩
noncomputable def o160_6 (_ : Params) : Obj := ⟨(.type "tuple"), none, .seq #[] 0, #[]⟩
noncomputable def o161_6 (_ : Params) : Obj := ⟨.none, none, .func { name := (.ofString "validate_length"), qualname := (.ofString "validate_length"), params := fnP25, body := .stmts fnB25, scope := fnS25, globals := 0, closure := [], defaults := .none, kwdefaults := .none, doc := .none, pyModule := .none, annotations := none, code := .none, closureTuple := .none, builtins := 0 }, #[]⟩
noncomputable def o162_6 (_ : Params) : Obj := ⟨(.type "code"), none, .fields #[(.str (.ofString "validate_length") 394), (.str (.ofString "validate_length") 395), (.str (.ofString "/claim/cut.py") 396), (.int 53 0), (.int 2 0), (.int 0 0), (.int 0 0), (.int 3 0), (.ref 157), (.bool true), (.int 181 0), (.ref 158), .none, (.ref 159), (.ref 160), (.ref 161), (.int 399 0), (.int 53 0), (.str (.ofString "/claim/cut.py") 400)], #[]⟩
noncomputable def o163_6 (_ : Params) : Obj := ⟨(.type "function"), none, .func { name := (.ofString "validate_length"), qualname := (.ofString "validate_length"), params := fnP25, body := .stmts fnB25, scope := fnS25, globals := 3, closure := [], defaults := .none, kwdefaults := .none, doc := .none, pyModule := (.str (.ofString "trie.validation") 385), annotations := none, code := (.ref 162), closureTuple := .none, builtins := 0 }, #[]⟩
noncomputable def o164_6 (_ : Params) : Obj := ⟨(.type "tuple"), none, .seq #[] 0, #[]⟩
noncomputable def o165_6 (_ : Params) : Obj := ⟨.none, none, .fields #[], #[]⟩
noncomputable def o166_6 (_ : Params) : Obj := ⟨(.type "tuple"), none, .seq #[(.str (.ofString "node") 407)] 0, #[]⟩
noncomputable def o167_6 (_ : Params) : Obj := ⟨(.type "tuple"), none, .seq #[] 0, #[]⟩
noncomputable def o168_6 (_ : Params) : Obj := ⟨.none, none, .func { name := (.ofString "parse_node"), qualname := (.ofString "parse_node"), params := fnP27, body := .stmts fnB27, scope := fnS27, globals := 0, closure := [], defaults := .none, kwdefaults := .none, doc := .none, pyModule := .none, annotations := none, code := .none, closureTuple := .none, builtins := 0 }, #[]⟩
noncomputable def o169_6 (_ : Params) : Obj := ⟨(.type "code"), none, .fields #[(.str (.ofString "parse_node") 404), (.str (.ofString "parse_node") 405), (.str (.ofString "/claim/cut.py") 406), (.int 57 0), (.int 1 0), (.int 0 0), (.int 0 0), (.int 3 0), (.ref 164), (.bool true), (.int 181 0), (.ref 165), .none, (.ref 166), (.ref 167), (.ref 168), (.int 408 0), (.int 57 0), (.str (.ofString "/claim/cut.py") 409)], #[]⟩
noncomputable def o170_6 (_ : Params) : Obj := ⟨(.type "function"), none, .func { name := (.ofString "parse_node"), qualname := (.ofString "parse_node"), params := fnP27, body := .stmts fnB27, scope := fnS27, globals := 3, closure := [], defaults := .none, kwdefaults := .none, doc := .none, pyModule := (.str (.ofString "trie.utils.nodes") 402), annotations := none, code := (.ref 169), closureTuple := .none, builtins := 0 }, #[]⟩
noncomputable def o171_6 (_ : Params) : Obj := ⟨(.type "tuple"), none, .seq #[] 0, #[]⟩
noncomputable def o172_6 (_ : Params) : Obj := ⟨.none, none, .fields #[], #[]⟩
noncomputable def o173_6 (_ : Params) : Obj := ⟨(.type "tuple"), none, .seq #[(.str (.ofString "keypath") 414), (.str (.ofString "child_node_hash") 415)] 0, #[]⟩
noncomputable def o174_6 (_ : Params) : Obj := ⟨(.type "tuple"), none, .seq #[] 0, #[]⟩
noncomputable def o175_6 (_ : Params) : Obj := ⟨.none, none, .func { name := (.ofString "encode_kv_node"), qualname := (.ofString "encode_kv_node"), params := fnP28, body := .stmts fnB28, scope := fnS28, globals := 0, closure := [], defaults := .none, kwdefaults := .none, doc := .none, pyModule := .none, annotations := none, code := .none, closureTuple := .none, builtins := 0 }, #[]⟩
noncomputable def o176_6 (_ : Params) : Obj := ⟨(.type "code"), none, .fields #[(.str (.ofString "encode_kv_node") 411), (.str (.ofString "encode_kv_node") 412), (.str (.ofString "/claim/cut.py") 413), (.int 74 0), (.int 2 0), (.int 0 0), (.int 0 0), (.int 3 0), (.ref 171), (.bool true), (.int 181 0), (.ref 172), .none, (.ref 173), (.ref 174), (.ref 175), (.int 416 0), (.int 74 0), (.str (.ofString "/claim/cut.py") 417)], #[]⟩
noncomputable def o177_6 (_ : Params) : Obj := ⟨(.type "function"), none, .func { name := (.ofString "encode_kv_node"), qualname := (.ofString "encode_kv_node"), params := fnP28, body := .stmts fnB28, scope := fnS28, globals := 3, closure := [], defaults := .none, kwdefaults := .none, doc := .none, pyModule := (.str (.ofString "trie.utils.nodes") 402), annotations := none, code := (.ref 176), closureTuple := .none, builtins := 0 }, #[]⟩
noncomputable def o178_6 (_ : Params) : Obj := ⟨(.type "tuple"), none, .seq #[] 0, #[]⟩
noncomputable def o179_6 (_ : Params) : Obj := ⟨.none, none, .fields #[], #[]⟩
noncomputable def o180_6 (_ : Params) : Obj := ⟨(.type "tuple"), none, .seq #[(.str (.ofString "left_child_node_hash") 422), (.str (.ofString "right_child_node_hash") 423)] 0, #[]⟩
noncomputable def o181_6 (_ : Params) : Obj := ⟨(.type "tuple"), none, .seq #[] 0, #[]⟩
noncomputable def o182_6 (_ : Params) : Obj := ⟨.none, none, .func { name := (.ofString "encode_branch_node"), qualname := (.ofString "encode_branch_node"), params := fnP29, body := .stmts fnB29, scope := fnS29, globals := 0, closure := [], defaults := .none, kwdefaults := .none, doc := .none, pyModule := .none, annotations := none, code := .none, closureTuple := .none, builtins := 0 }, #[]⟩
noncomputable def o183_6 (_ : Params) : Obj := ⟨(.type "code"), none, .fields #[(.str (.ofString "encode_branch_node") 419), (.str (.ofString "encode_branch_node") 420), (.str (.ofString "/claim/cut.py") 421), (.int 81 0), (.int 2 0), (.int 0 0), (.int 0 0), (.int 3 0), (.ref 178), (.bool true), (.int 181 0), (.ref 179), .none, (.ref 180), (.ref 181), (.ref 182), (.int 424 0), (.int 81 0), (.str (.ofString "/claim/cut.py") 425)], #[]⟩
noncomputable def o184_6 (_ : Params) : Obj := ⟨(.type "function"), none, .func { name := (.ofString "encode_branch_node"), qualname := (.ofString "encode_branch_node"), params := fnP29, body := .stmts fnB29, scope := fnS29, globals := 3, closure := [], defaults := .none, kwdefaults := .none, doc := .none, pyModule := (.str (.ofString "trie.utils.nodes") 402), annotations := none, code := (.ref 183), closureTuple := .none, builtins := 0 }, #[]⟩
noncomputable def o185_6 (_ : Params) : Obj := ⟨(.type "tuple"), none, .seq #[] 0, #[]⟩
noncomputable def o186_6 (_ : Params) : Obj := ⟨.none, none, .fields #[], #[]⟩
noncomputable def o187_6 (_ : Params) : Obj := ⟨(.type "tuple"), none, .seq #[(.str (.ofString "value") 430)] 0, #[]⟩
noncomputable def o188_6 (_ : Params) : Obj := ⟨(.type "tuple"), none, .seq #[] 0, #[]⟩
noncomputable def o189_6 (_ : Params) : Obj := ⟨.none, none, .func { name := (.ofString "encode_leaf_node"), qualname := (.ofString "encode_leaf_node"), params := fnP30, body := .stmts fnB30, scope := fnS30, globals := 0, closure := [], defaults := .none, kwdefaults := .none, doc := .none, pyModule := .none, annotations := none, code := .none, closureTuple := .none, builtins := 0 }, #[]⟩
noncomputable def o190_6 (_ : Params) : Obj := ⟨(.type "code"), none, .fields #[(.str (.ofString "encode_leaf_node") 427), (.str (.ofString "encode_leaf_node") 428), (.str (.ofString "/claim/cut.py") 429), (.int 87 0), (.int 1 0), (.int 0 0), (.int 0 0), (.int 3 0), (.ref 185), (.bool true), (.int 181 0), (.ref 186), .none, (.ref 187), (.ref 188), (.ref 189), (.int 431 0), (.int 87 0), (.str (.ofString "/claim/cut.py") 432)], #[]⟩
noncomputable def o191_6 (_ : Params) : Obj := ⟨(.type "function"), none, .func { name := (.ofString "encode_leaf_node"), qualname := (.ofString "encode_leaf_node"), params := fnP30, body := .stmts fnB30, scope := fnS30, globals := 3, closure := [], defaults := .none, kwdefaults := .none, doc := .none, pyModule := (.str (.ofString "trie.utils.nodes") 402), annotations := none, code := (.ref 190), closureTuple := .none, builtins := 0 }, #[]⟩
noncomputable def o192_6 (_ : Params) : Obj := ⟨(.type "tuple"), none, .seq #[] 0, #[]⟩
noncomputable def o193_6 (_ : Params) : Obj := ⟨.none, none, .fields #[], #[]⟩
noncomputable def o194_6 (_ : Params) : Obj := ⟨(.type "tuple"), none, .seq #[(.str (.ofString "row") 439), (.str (.ofString "number") 440), (.str (.ofString "bit") 441)] 0, #[]⟩
noncomputable def o195_6 (_ : Params) : Obj := ⟨(.type "tuple"), none, .seq #[] 0, #[]⟩
noncomputable def o196_6 (_ : Params) : Obj := ⟨.none, none, .func { name := (.ofString "_law_number"), qualname := (.ofString "_law_number"), params := fnP32, body := .stmts fnB32, scope := fnS32, globals := 0, closure := [], defaults := .none, kwdefaults := .none, doc := .none, pyModule := .none, annotations := none, code := .none, closureTuple := .none, builtins := 0 }, #[]⟩
noncomputable def o197_6 (_ : Params) : Obj := ⟨(.type "code"), none, .fields #[(.str (.ofString "_law_number") 436), (.str (.ofString "_law_number") 437), (.str (.ofString "/claim/cut.py") 438), (.int 93 0), (.int 1 0), (.int 0 0), (.int 0 0), (.int 3 0), (.ref 192), (.bool true), (.int 181 0), (.ref 193), .none, (.ref 194), (.ref 195), (.ref 196), (.int 442 0), (.int 93 0), (.str (.ofString "/claim/cut.py") 443)], #[]⟩
noncomputable def o198_6 (_ : Params) : Obj := ⟨(.type "function"), none, .func { name := (.ofString "_law_number"), qualname := (.ofString "_law_number"), params := fnP32, body := .stmts fnB32, scope := fnS32, globals := 3, closure := [], defaults := .none, kwdefaults := .none, doc := .none, pyModule := (.str (.ofString "law_jx0031_01") 434), annotations := none, code := (.ref 197), closureTuple := .none, builtins := 0 }, #[]⟩
noncomputable def o199_6 (_ : Params) : Obj := ⟨(.type "tuple"), none, .seq #[] 0, #[]⟩
noncomputable def o200_6 (_ : Params) : Obj := ⟨.none, none, .fields #[], #[]⟩
noncomputable def o201_6 (_ : Params) : Obj := ⟨(.type "tuple"), none, .seq #[(.str (.ofString "row") 448), (.str (.ofString "count") 449), (.str (.ofString "head") 450)] 0, #[]⟩
noncomputable def o202_6 (_ : Params) : Obj := ⟨(.type "tuple"), none, .seq #[] 0, #[]⟩
noncomputable def o203_6 (_ : Params) : Obj := ⟨.none, none, .func { name := (.ofString "_law_packed"), qualname := (.ofString "_law_packed"), params := fnP33, body := .stmts fnB33, scope := fnS33, globals := 0, closure := [], defaults := .none, kwdefaults := .none, doc := .none, pyModule := .none, annotations := none, code := .none, closureTuple := .none, builtins := 0 }, #[]⟩
noncomputable def o204_6 (_ : Params) : Obj := ⟨(.type "code"), none, .fields #[(.str (.ofString "_law_packed") 445), (.str (.ofString "_law_packed") 446), (.str (.ofString "/claim/cut.py") 447), (.int 98 0), (.int 1 0), (.int 0 0), (.int 0 0), (.int 3 0), (.ref 199), (.bool true), (.int 181 0), (.ref 200), .none, (.ref 201), (.ref 202), (.ref 203), (.int 451 0), (.int 98 0), (.str (.ofString "/claim/cut.py") 452)], #[]⟩
noncomputable def o205_6 (_ : Params) : Obj := ⟨(.type "function"), none, .func { name := (.ofString "_law_packed"), qualname := (.ofString "_law_packed"), params := fnP33, body := .stmts fnB33, scope := fnS33, globals := 3, closure := [], defaults := .none, kwdefaults := .none, doc := .none, pyModule := (.str (.ofString "law_jx0031_01") 434), annotations := none, code := (.ref 204), closureTuple := .none, builtins := 0 }, #[]⟩
noncomputable def o206_6 (_ : Params) : Obj := ⟨(.type "tuple"), none, .seq #[] 0, #[]⟩
noncomputable def o207_6 (_ : Params) : Obj := ⟨.none, none, .fields #[], #[]⟩
noncomputable def o208_6 (_ : Params) : Obj := ⟨(.type "tuple"), none, .seq #[(.str (.ofString "octets") 457), (.str (.ofString "signs") 458), (.str (.ofString "octet") 459), (.str (.ofString "k") 460)] 0, #[]⟩
noncomputable def o209_6 (_ : Params) : Obj := ⟨(.type "tuple"), none, .seq #[] 0, #[]⟩
noncomputable def o210_6 (_ : Params) : Obj := ⟨.none, none, .func { name := (.ofString "_law_signs"), qualname := (.ofString "_law_signs"), params := fnP34, body := .stmts fnB34, scope := fnS34, globals := 0, closure := [], defaults := .none, kwdefaults := .none, doc := .none, pyModule := .none, annotations := none, code := .none, closureTuple := .none, builtins := 0 }, #[]⟩
noncomputable def o211_6 (_ : Params) : Obj := ⟨(.type "code"), none, .fields #[(.str (.ofString "_law_signs") 454), (.str (.ofString "_law_signs") 455), (.str (.ofString "/claim/cut.py") 456), (.int 102 0), (.int 1 0), (.int 0 0), (.int 0 0), (.int 3 0), (.ref 206), (.bool true), (.int 181 0), (.ref 207), .none, (.ref 208), (.ref 209), (.ref 210), (.int 461 0), (.int 102 0), (.str (.ofString "/claim/cut.py") 462)], #[]⟩
noncomputable def o212_6 (_ : Params) : Obj := ⟨(.type "function"), none, .func { name := (.ofString "_law_signs"), qualname := (.ofString "_law_signs"), params := fnP34, body := .stmts fnB34, scope := fnS34, globals := 3, closure := [], defaults := .none, kwdefaults := .none, doc := .none, pyModule := (.str (.ofString "law_jx0031_01") 434), annotations := none, code := (.ref 211), closureTuple := .none, builtins := 0 }, #[]⟩
noncomputable def o213_6 (_ : Params) : Obj := ⟨(.type "tuple"), none, .seq #[] 0, #[]⟩
noncomputable def o214_6 (_ : Params) : Obj := ⟨.none, none, .fields #[], #[]⟩
noncomputable def o215_6 (_ : Params) : Obj := ⟨.none, none, .func { name := (.ofString "_law_row"), qualname := (.ofString "_law_row"), params := fnP35, body := .stmts fnB35, scope := fnS35, globals := 0, closure := [], defaults := .none, kwdefaults := .none, doc := .none, pyModule := .none, annotations := none, code := .none, closureTuple := .none, builtins := 0 }, #[]⟩
noncomputable def o216_6 (_ : Params) : Obj := ⟨(.type "code"), none, .fields #[(.str (.ofString "_law_row") 464), (.str (.ofString "_law_row") 465), (.str (.ofString "/claim/cut.py") 466), (.int 108 0), (.int 1 0), (.int 0 0), (.int 0 0), (.int 3 0), (.ref 213), (.bool true), (.int 181 0), (.ref 214), .none, .none, .none, (.ref 215), (.int 467 0), (.int 108 0), (.str (.ofString "/claim/cut.py") 468)], #[]⟩
noncomputable def o217_6 (_ : Params) : Obj := ⟨(.type "function"), none, .func { name := (.ofString "_law_row"), qualname := (.ofString "_law_row"), params := fnP35, body := .stmts fnB35, scope := fnS35, globals := 3, closure := [], defaults := .none, kwdefaults := .none, doc := .none, pyModule := (.str (.ofString "law_jx0031_01") 434), annotations := none, code := (.ref 216), closureTuple := .none, builtins := 0 }, #[]⟩
noncomputable def o218_6 (_ : Params) : Obj := ⟨(.type "tuple"), none, .seq #[] 0, #[]⟩
noncomputable def o219_6 (_ : Params) : Obj := ⟨.none, none, .fields #[], #[]⟩
noncomputable def o220_6 (_ : Params) : Obj := ⟨(.type "tuple"), none, .seq #[(.str (.ofString "octets") 473), (.str (.ofString "signs") 474)] 0, #[]⟩
noncomputable def o221_6 (_ : Params) : Obj := ⟨(.type "tuple"), none, .seq #[] 0, #[]⟩
noncomputable def o222_6 (_ : Params) : Obj := ⟨.none, none, .func { name := (.ofString "_law_read"), qualname := (.ofString "_law_read"), params := fnP36, body := .stmts fnB36, scope := fnS36, globals := 0, closure := [], defaults := .none, kwdefaults := .none, doc := .none, pyModule := .none, annotations := none, code := .none, closureTuple := .none, builtins := 0 }, #[]⟩
noncomputable def o223_6 (_ : Params) : Obj := ⟨(.type "code"), none, .fields #[(.str (.ofString "_law_read") 470), (.str (.ofString "_law_read") 471), (.str (.ofString "/claim/cut.py") 472), (.int 110 0), (.int 1 0), (.int 0 0), (.int 0 0), (.int 3 0), (.ref 218), (.bool true), (.int 181 0), (.ref 219), .none, (.ref 220), (.ref 221), (.ref 222), (.int 475 0), (.int 110 0), (.str (.ofString "/claim/cut.py") 476)], #[]⟩
noncomputable def o224_6 (_ : Params) : Obj := ⟨(.type "function"), none, .func { name := (.ofString "_law_read"), qualname := (.ofString "_law_read"), params := fnP36, body := .stmts fnB36, scope := fnS36, globals := 3, closure := [], defaults := .none, kwdefaults := .none, doc := .none, pyModule := (.str (.ofString "law_jx0031_01") 434), annotations := none, code := (.ref 223), closureTuple := .none, builtins := 0 }, #[]⟩
noncomputable def t_6 (P : Params) : BT := (.node (boot_o_0 P) (.node (boot_o_1 P) (.node (o3_6 P) (.node (boot_o_7 P) (.node (o15_1 P) (.node (o31_1 P) (.node (o63_3 P) (.node (o127_5 P) .nil .nil) (.node (o191_6 P) .nil .nil)) (.node (o95_5 P) (.node (o159_6 P) .nil .nil) (.node (o223_6 P) .nil .nil))) (.node (o47_2 P) (.node (o79_4 P) (.node (o143_6 P) .nil .nil) (.node (o207_6 P) .nil .nil)) (.node (o111_5 P) (.node (o175_6 P) .nil .nil) .nil))) (.node (o23_1 P) (.node (o39_2 P) (.node (o71_4 P) (.node (o135_5 P) .nil .nil) (.node (o199_6 P) .nil .nil)) (.node (o103_5 P) (.node (o167_6 P) .nil .nil) .nil)) (.node (o55_3 P) (.node (o87_4 P) (.node (o151_6 P) .nil .nil) (.node (o215_6 P) .nil .nil)) (.node (o119_5 P) (.node (o183_6 P) .nil .nil) .nil)))) (.node (o11_a P) (.node (o19_1 P) (.node (o35_2 P) (.node (o67_3 P) (.node (o131_5 P) .nil .nil) (.node (o195_6 P) .nil .nil)) (.node (o99_5 P) (.node (o163_6 P) .nil .nil) .nil)) (.node (o51_2 P) (.node (o83_4 P) (.node (o147_6 P) .nil .nil) (.node (o211_6 P) .nil .nil)) (.node (o115_5 P) (.node (o179_6 P) .nil .nil) .nil))) (.node (o27_1 P) (.node (o43_2 P) (.node (o75_4 P) (.node (o139_5 P) .nil .nil) (.node (o203_6 P) .nil .nil)) (.node (o107_5 P) (.node (o171_6 P) .nil .nil) .nil)) (.node (o59_3 P) (.node (o91_4 P) (.node (o155_6 P) .nil .nil) (.node (o219_6 P) .nil .nil)) (.node (o123_5 P) (.node (o187_6 P) .nil .nil) .nil))))) (.node (boot_o_5 P) (.node (boot_o_9 P) (.node (o17_1 P) (.node (o33_2 P) (.node (o65_3 P) (.node (o129_5 P) .nil .nil) (.node (o193_6 P) .nil .nil)) (.node (o97_5 P) (.node (o161_6 P) .nil .nil) .nil)) (.node (o49_2 P) (.node (o81_4 P) (.node (o145_6 P) .nil .nil) (.node (o209_6 P) .nil .nil)) (.node (o113_5 P) (.node (o177_6 P) .nil .nil) .nil))) (.node (o25_1 P) (.node (o41_2 P) (.node (o73_4 P) (.node (o137_5 P) .nil .nil) (.node (o201_6 P) .nil .nil)) (.node (o105_5 P) (.node (o169_6 P) .nil .nil) .nil)) (.node (o57_3 P) (.node (o89_4 P) (.node (o153_6 P) .nil .nil) (.node (o217_6 P) .nil .nil)) (.node (o121_5 P) (.node (o185_6 P) .nil .nil) .nil)))) (.node (o13_a P) (.node (o21_1 P) (.node (o37_2 P) (.node (o69_4 P) (.node (o133_5 P) .nil .nil) (.node (o197_6 P) .nil .nil)) (.node (o101_5 P) (.node (o165_6 P) .nil .nil) .nil)) (.node (o53_2 P) (.node (o85_4 P) (.node (o149_6 P) .nil .nil) (.node (o213_6 P) .nil .nil)) (.node (o117_5 P) (.node (o181_6 P) .nil .nil) .nil))) (.node (o29_1 P) (.node (o45_2 P) (.node (o77_4 P) (.node (o141_5 P) .nil .nil) (.node (o205_6 P) .nil .nil)) (.node (o109_5 P) (.node (o173_6 P) .nil .nil) .nil)) (.node (o61_3 P) (.node (o93_5 P) (.node (o157_6 P) .nil .nil) (.node (o221_6 P) .nil .nil)) (.node (o125_5 P) (.node (o189_6 P) .nil .nil) .nil)))))) (.node (o2_5 P) (.node (boot_o_4 P) (.node (boot_o_8 P) (.node (o16_1 P) (.node (o32_1 P) (.node (o64_3 P) (.node (o128_5 P) .nil .nil) (.node (o192_6 P) .nil .nil)) (.node (o96_5 P) (.node (o160_6 P) .nil .nil) (.node (o224_6 P) .nil .nil))) (.node (o48_2 P) (.node (o80_4 P) (.node (o144_6 P) .nil .nil) (.node (o208_6 P) .nil .nil)) (.node (o112_5 P) (.node (o176_6 P) .nil .nil) .nil))) (.node (o24_1 P) (.node (o40_2 P) (.node (o72_4 P) (.node (o136_5 P) .nil .nil) (.node (o200_6 P) .nil .nil)) (.node (o104_5 P) (.node (o168_6 P) .nil .nil) .nil)) (.node (o56_3 P) (.node (o88_4 P) (.node (o152_6 P) .nil .nil) (.node (o216_6 P) .nil .nil)) (.node (o120_5 P) (.node (o184_6 P) .nil .nil) .nil)))) (.node (o12_6 P) (.node (o20_1 P) (.node (o36_2 P) (.node (o68_3 P) (.node (o132_5 P) .nil .nil) (.node (o196_6 P) .nil .nil)) (.node (o100_5 P) (.node (o164_6 P) .nil .nil) .nil)) (.node (o52_2 P) (.node (o84_4 P) (.node (o148_6 P) .nil .nil) (.node (o212_6 P) .nil .nil)) (.node (o116_5 P) (.node (o180_6 P) .nil .nil) .nil))) (.node (o28_1 P) (.node (o44_2 P) (.node (o76_4 P) (.node (o140_5 P) .nil .nil) (.node (o204_6 P) .nil .nil)) (.node (o108_5 P) (.node (o172_6 P) .nil .nil) .nil)) (.node (o60_3 P) (.node (o92_5 P) (.node (o156_6 P) .nil .nil) (.node (o220_6 P) .nil .nil)) (.node (o124_5 P) (.node (o188_6 P) .nil .nil) .nil))))) (.node (boot_o_6 P) (.node (boot_o_10 P) (.node (o18_1 P) (.node (o34_2 P) (.node (o66_3 P) (.node (o130_5 P) .nil .nil) (.node (o194_6 P) .nil .nil)) (.node (o98_5 P) (.node (o162_6 P) .nil .nil) .nil)) (.node (o50_2 P) (.node (o82_4 P) (.node (o146_6 P) .nil .nil) (.node (o210_6 P) .nil .nil)) (.node (o114_5 P) (.node (o178_6 P) .nil .nil) .nil))) (.node (o26_1 P) (.node (o42_2 P) (.node (o74_4 P) (.node (o138_5 P) .nil .nil) (.node (o202_6 P) .nil .nil)) (.node (o106_5 P) (.node (o170_6 P) .nil .nil) .nil)) (.node (o58_3 P) (.node (o90_4 P) (.node (o154_6 P) .nil .nil) (.node (o218_6 P) .nil .nil)) (.node (o122_5 P) (.node (o186_6 P) .nil .nil) .nil)))) (.node (o14_a P) (.node (o22_1 P) (.node (o38_2 P) (.node (o70_4 P) (.node (o134_5 P) .nil .nil) (.node (o198_6 P) .nil .nil)) (.node (o102_5 P) (.node (o166_6 P) .nil .nil) .nil)) (.node (o54_3 P) (.node (o86_4 P) (.node (o150_6 P) .nil .nil) (.node (o214_6 P) .nil .nil)) (.node (o118_5 P) (.node (o182_6 P) .nil .nil) .nil))) (.node (o30_1 P) (.node (o46_2 P) (.node (o78_4 P) (.node (o142_5 P) .nil .nil) (.node (o206_6 P) .nil .nil)) (.node (o110_5 P) (.node (o174_6 P) .nil .nil) .nil)) (.node (o62_3 P) (.node (o94_5 P) (.node (o158_6 P) .nil .nil) (.node (o222_6 P) .nil .nil)) (.node (o126_5 P) (.node (o190_6 P) .nil .nil) .nil)))))))
noncomputable def st_6 (w : World) (os : OsState) : SharedT := ⟨t_6 w.params, 225, life0, #[.finished], boot_drawn, 478, os⟩
noncomputable def o3_7 (P : Params) : Obj := ⟨(.type "dict"), none, .dict #[⟨PyData.keyHash P (.ofString "__name__"), (.str (.ofString "__name__") 165), (.str (.ofString "law_jx0031_01") 434)⟩, ⟨PyData.keyHash P (.ofString "__doc__"), (.str (.ofString "__doc__") 166), .none⟩, ⟨PyData.keyHash P (.ofString "__package__"), (.str (.ofString "__package__") 167), .none⟩, ⟨PyData.keyHash P (.ofString "__loader__"), (.str (.ofString "__loader__") 168), (.builtin "__main__.__loader__#opaque")⟩, ⟨PyData.keyHash P (.ofString "__spec__"), (.str (.ofString "__spec__") 169), .none⟩, ⟨PyData.keyHash P (.ofString "__annotations__"), (.str (.ofString "__annotations__") 170), (.ref 6)⟩, ⟨PyData.keyHash P (.ofString "__builtins__"), (.str (.ofString "__builtins__") 171), (.ref 4)⟩, ⟨PyData.keyHash P (.ofString "__file__"), (.str (.ofString "__file__") 173), (.str (.ofString "/claim/cut.py") 172)⟩, ⟨PyData.keyHash P (.ofString "__cached__"), (.str (.ofString "__cached__") 174), .none⟩, ⟨PyData.keyHash P (.ofString "EXP"), (.str (.ofString "EXP") 245), (.ref 32)⟩, ⟨PyData.keyHash P (.ofString "TWO_BITS"), (.str (.ofString "TWO_BITS") 258), (.ref 53)⟩, ⟨PyData.keyHash P (.ofString "PREFIX_00"), (.str (.ofString "PREFIX_00") 262), (.bytes #[0, 0] 261)⟩, ⟨PyData.keyHash P (.ofString "PREFIX_100000"), (.str (.ofString "PREFIX_100000") 270), (.bytes #[1, 0, 0, 0, 0, 0] 269)⟩, ⟨PyData.keyHash P (.ofString "KV_TYPE"), (.str (.ofString "KV_TYPE") 272), (.int 0 271)⟩, ⟨PyData.keyHash P (.ofString "BRANCH_TYPE"), (.str (.ofString "BRANCH_TYPE") 274), (.int 1 273)⟩, ⟨PyData.keyHash P (.ofString "LEAF_TYPE"), (.str (.ofString "LEAF_TYPE") 276), (.int 2 275)⟩, ⟨PyData.keyHash P (.ofString "KV_TYPE_PREFIX"), (.str (.ofString "KV_TYPE_PREFIX") 279), (.bytes #[0] 278)⟩, ⟨PyData.keyHash P (.ofString "BRANCH_TYPE_PREFIX"), (.str (.ofString "BRANCH_TYPE_PREFIX") 282), (.bytes #[1] 281)⟩, ⟨PyData.keyHash P (.ofString "LEAF_TYPE_PREFIX"), (.str (.ofString "LEAF_TYPE_PREFIX") 285), (.bytes #[2] 284)⟩, ⟨PyData.keyHash P (.ofString "InvalidNode"), (.str (.ofString "InvalidNode") 307), (.ref 88)⟩, ⟨PyData.keyHash P (.ofString "ValidationError"), (.str (.ofString "ValidationError") 327), (.ref 101)⟩, ⟨PyData.keyHash P (.ofString "partition_all"), (.str (.ofString "partition_all") 335), (.ref 109)⟩, ⟨PyData.keyHash P (.ofString "decode_from_bin"), (.str (.ofString "decode_from_bin") 344), (.ref 116)⟩, ⟨PyData.keyHash P (.ofString "_decode_from_bin"), (.str (.ofString "_decode_from_bin") 352), (.ref 123)⟩, ⟨PyData.keyHash P (.ofString "encode_to_bin"), (.str (.ofString "encode_to_bin") 358), (.ref 128)⟩, ⟨PyData.keyHash P (.ofString "_encode_to_bin"), (.str (.ofString "_encode_to_bin") 367), (.ref 135)⟩, ⟨PyData.keyHash P (.ofString "encode_from_bin_keypath"), (.str (.ofString "encode_from_bin_keypath") 376), (.ref 142)⟩, ⟨PyData.keyHash P (.ofString "decode_to_bin_keypath"), (.str (.ofString "decode_to_bin_keypath") 384), (.ref 149)⟩, ⟨PyData.keyHash P (.ofString "validate_is_bytes"), (.str (.ofString "validate_is_bytes") 393), (.ref 156)⟩, ⟨PyData.keyHash P (.ofString "validate_length"), (.str (.ofString "validate_length") 401), (.ref 163)⟩, ⟨PyData.keyHash P (.ofString "parse_node"), (.str (.ofString "parse_node") 410), (.ref 170)⟩, ⟨PyData.keyHash P (.ofString "encode_kv_node"), (.str (.ofString "encode_kv_node") 418), (.ref 177)⟩, ⟨PyData.keyHash P (.ofString "encode_branch_node"), (.str (.ofString "encode_branch_node") 426), (.ref 184)⟩, ⟨PyData.keyHash P (.ofString "encode_leaf_node"), (.str (.ofString "encode_leaf_node") 433), (.ref 191)⟩, ⟨PyData.keyHash P (.ofString "_law_number"), (.str (.ofString "_law_number") 444), (.ref 198)⟩, ⟨PyData.keyHash P (.ofString "_law_packed"), (.str (.ofString "_law_packed") 453), (.ref 205)⟩, ⟨PyData.keyHash P (.ofString "_law_signs"), (.str (.ofString "_law_signs") 463), (.ref 212)⟩, ⟨PyData.keyHash P (.ofString "_law_row"), (.str (.ofString "_law_row") 469), (.ref 217)⟩, ⟨PyData.keyHash P (.ofString "_law_read"), (.str (.ofString "_law_read") 477), (.ref 224)⟩, ⟨PyData.keyHash P (.ofString "_law_told"), (.str (.ofString "_law_told") 484), (.ref 231)⟩, ⟨PyData.keyHash P (.ofString "_law_parsed"), (.str (.ofString "_law_parsed") 491), (.ref 238)⟩, ⟨PyData.keyHash P (.ofString "_law_due"), (.str (.ofString "_law_due") 499), (.ref 245)⟩, ⟨PyData.keyHash P (.ofString "_law_refused"), (.str (.ofString "_law_refused") 508), (.ref 252)⟩, ⟨PyData.keyHash P (.ofString "_law_octets"), (.str (.ofString "_law_octets") 514), (.ref 257)⟩, ⟨PyData.keyHash P (.ofString "law"), (.str (.ofString "law") 520), (.ref 262)⟩] 45, #[]⟩
noncomputable def o12_7 (_ : Params) : Obj := ⟨.none, none, .fields #[(.int 2 0), (.int 27 0), (.ref 19), (.int 13 0), (.int 0 0), (.ref 84), (.int 15 0), (.int 0 0), (.ref 97), (.int 18 0), (.int 0 0), (.ref 108), (.int 21 0), (.int 0 0), (.ref 115), (.int 23 0), (.int 0 0), (.ref 122), (.int 26 0), (.int 0 0), (.ref 127), (.int 28 0), (.int 0 0), (.ref 134), (.int 35 0), (.int 0 0), (.ref 141), (.int 42 0), (.int 0 0), (.ref 148), (.int 50 0), (.int 0 0), (.ref 155), (.int 53 0), (.int 0 0), (.ref 162), (.int 57 0), (.int 0 0), (.ref 169), (.int 74 0), (.int 0 0), (.ref 176), (.int 81 0), (.int 0 0), (.ref 183), (.int 87 0), (.int 0 0), (.ref 190), (.int 93 0), (.int 0 0), (.ref 197), (.int 98 0), (.int 0 0), (.ref 204), (.int 102 0), (.int 0 0), (.ref 211), (.int 108 0), (.int 0 0), (.ref 216), (.int 110 0), (.int 0 0), (.ref 223), (.int 117 0), (.int 0 0), (.ref 230), (.int 122 0), (.int 0 0), (.ref 237), (.int 129 0), (.int 0 0), (.ref 244), (.int 138 0), (.int 0 0), (.ref 251), (.int 149 0), (.int 0 0), (.ref 256), (.int 157 0), (.int 0 0), (.ref 261)], #[]⟩
noncomputable def o225_7 (_ : Params) : Obj := ⟨(.type "tuple"), none, .seq #[] 0, #[]⟩
noncomputable def o226_7 (_ : Params) : Obj := ⟨.none, none, .fields #[], #[]⟩
noncomputable def o227_7 (_ : Params) : Obj := ⟨(.type "tuple"), none, .seq #[(.str (.ofString "octets") 481)] 0, #[]⟩
noncomputable def o228_7 (_ : Params) : Obj := ⟨(.type "tuple"), none, .seq #[] 0, #[]⟩
noncomputable def o229_7 (_ : Params) : Obj := ⟨.none, none, .func { name := (.ofString "_law_told"), qualname := (.ofString "_law_told"), params := fnP37, body := .stmts fnB37, scope := fnS37, globals := 0, closure := [], defaults := .none, kwdefaults := .none, doc := .none, pyModule := .none, annotations := none, code := .none, closureTuple := .none, builtins := 0 }, #[]⟩
noncomputable def o230_7 (_ : Params) : Obj := ⟨(.type "code"), none, .fields #[(.str (.ofString "_law_told") 478), (.str (.ofString "_law_told") 479), (.str (.ofString "/claim/cut.py") 480), (.int 117 0), (.int 1 0), (.int 0 0), (.int 0 0), (.int 3 0), (.ref 225), (.bool true), (.int 181 0), (.ref 226), .none, (.ref 227), (.ref 228), (.ref 229), (.int 482 0), (.int 117 0), (.str (.ofString "/claim/cut.py") 483)], #[]⟩
noncomputable def o231_7 (_ : Params) : Obj := ⟨(.type "function"), none, .func { name := (.ofString "_law_told"), qualname := (.ofString "_law_told"), params := fnP37, body := .stmts fnB37, scope := fnS37, globals := 3, closure := [], defaults := .none, kwdefaults := .none, doc := .none, pyModule := (.str (.ofString "law_jx0031_01") 434), annotations := none, code := (.ref 230), closureTuple := .none, builtins := 0 }, #[]⟩
noncomputable def o232_7 (_ : Params) : Obj := ⟨(.type "tuple"), none, .seq #[] 0, #[]⟩
noncomputable def o233_7 (_ : Params) : Obj := ⟨.none, none, .fields #[], #[]⟩
noncomputable def o234_7 (_ : Params) : Obj := ⟨(.type "tuple"), none, .seq #[(.str (.ofString "octets") 488)] 0, #[]⟩
noncomputable def o235_7 (_ : Params) : Obj := ⟨(.type "tuple"), none, .seq #[] 0, #[]⟩
noncomputable def o236_7 (_ : Params) : Obj := ⟨.none, none, .func { name := (.ofString "_law_parsed"), qualname := (.ofString "_law_parsed"), params := fnP38, body := .stmts fnB38, scope := fnS38, globals := 0, closure := [], defaults := .none, kwdefaults := .none, doc := .none, pyModule := .none, annotations := none, code := .none, closureTuple := .none, builtins := 0 }, #[]⟩
noncomputable def o237_7 (_ : Params) : Obj := ⟨(.type "code"), none, .fields #[(.str (.ofString "_law_parsed") 485), (.str (.ofString "_law_parsed") 486), (.str (.ofString "/claim/cut.py") 487), (.int 122 0), (.int 1 0), (.int 0 0), (.int 0 0), (.int 3 0), (.ref 232), (.bool true), (.int 181 0), (.ref 233), .none, (.ref 234), (.ref 235), (.ref 236), (.int 489 0), (.int 122 0), (.str (.ofString "/claim/cut.py") 490)], #[]⟩
noncomputable def o238_7 (_ : Params) : Obj := ⟨(.type "function"), none, .func { name := (.ofString "_law_parsed"), qualname := (.ofString "_law_parsed"), params := fnP38, body := .stmts fnB38, scope := fnS38, globals := 3, closure := [], defaults := .none, kwdefaults := .none, doc := .none, pyModule := (.str (.ofString "law_jx0031_01") 434), annotations := none, code := (.ref 237), closureTuple := .none, builtins := 0 }, #[]⟩
noncomputable def o239_7 (_ : Params) : Obj := ⟨(.type "tuple"), none, .seq #[] 0, #[]⟩
noncomputable def o240_7 (_ : Params) : Obj := ⟨.none, none, .fields #[], #[]⟩
noncomputable def o241_7 (_ : Params) : Obj := ⟨(.type "tuple"), none, .seq #[(.str (.ofString "octets") 495), (.str (.ofString "path") 496)] 0, #[]⟩
noncomputable def o242_7 (_ : Params) : Obj := ⟨(.type "tuple"), none, .seq #[] 0, #[]⟩
noncomputable def o243_7 (_ : Params) : Obj := ⟨.none, none, .func { name := (.ofString "_law_due"), qualname := (.ofString "_law_due"), params := fnP39, body := .stmts fnB39, scope := fnS39, globals := 0, closure := [], defaults := .none, kwdefaults := .none, doc := .none, pyModule := .none, annotations := none, code := .none, closureTuple := .none, builtins := 0 }, #[]⟩
noncomputable def o244_7 (_ : Params) : Obj := ⟨(.type "code"), none, .fields #[(.str (.ofString "_law_due") 492), (.str (.ofString "_law_due") 493), (.str (.ofString "/claim/cut.py") 494), (.int 129 0), (.int 1 0), (.int 0 0), (.int 0 0), (.int 3 0), (.ref 239), (.bool true), (.int 181 0), (.ref 240), .none, (.ref 241), (.ref 242), (.ref 243), (.int 497 0), (.int 129 0), (.str (.ofString "/claim/cut.py") 498)], #[]⟩
noncomputable def o245_7 (_ : Params) : Obj := ⟨(.type "function"), none, .func { name := (.ofString "_law_due"), qualname := (.ofString "_law_due"), params := fnP39, body := .stmts fnB39, scope := fnS39, globals := 3, closure := [], defaults := .none, kwdefaults := .none, doc := .none, pyModule := (.str (.ofString "law_jx0031_01") 434), annotations := none, code := (.ref 244), closureTuple := .none, builtins := 0 }, #[]⟩
noncomputable def o246_7 (_ : Params) : Obj := ⟨(.type "tuple"), none, .seq #[] 0, #[]⟩
noncomputable def o247_7 (_ : Params) : Obj := ⟨.none, none, .fields #[], #[]⟩
noncomputable def o248_7 (_ : Params) : Obj := ⟨(.type "tuple"), none, .seq #[(.str (.ofString "which") 503), (.str (.ofString "one") 504), (.str (.ofString "other") 505)] 0, #[]⟩
noncomputable def o249_7 (_ : Params) : Obj := ⟨(.type "tuple"), none, .seq #[] 0, #[]⟩
noncomputable def o250_7 (_ : Params) : Obj := ⟨.none, none, .func { name := (.ofString "_law_refused"), qualname := (.ofString "_law_refused"), params := fnP40, body := .stmts fnB40, scope := fnS40, globals := 0, closure := [], defaults := .none, kwdefaults := .none, doc := .none, pyModule := .none, annotations := none, code := .none, closureTuple := .none, builtins := 0 }, #[]⟩
noncomputable def o251_7 (_ : Params) : Obj := ⟨(.type "code"), none, .fields #[(.str (.ofString "_law_refused") 500), (.str (.ofString "_law_refused") 501), (.str (.ofString "/claim/cut.py") 502), (.int 138 0), (.int 3 0), (.int 0 0), (.int 0 0), (.int 3 0), (.ref 246), (.bool true), (.int 181 0), (.ref 247), .none, (.ref 248), (.ref 249), (.ref 250), (.int 506 0), (.int 138 0), (.str (.ofString "/claim/cut.py") 507)], #[]⟩
noncomputable def o252_7 (_ : Params) : Obj := ⟨(.type "function"), none, .func { name := (.ofString "_law_refused"), qualname := (.ofString "_law_refused"), params := fnP40, body := .stmts fnB40, scope := fnS40, globals := 3, closure := [], defaults := .none, kwdefaults := .none, doc := .none, pyModule := (.str (.ofString "law_jx0031_01") 434), annotations := none, code := (.ref 251), closureTuple := .none, builtins := 0 }, #[]⟩
noncomputable def o253_7 (_ : Params) : Obj := ⟨(.type "tuple"), none, .seq #[] 0, #[]⟩
noncomputable def o254_7 (_ : Params) : Obj := ⟨.none, none, .fields #[], #[]⟩
noncomputable def o255_7 (_ : Params) : Obj := ⟨.none, none, .func { name := (.ofString "_law_octets"), qualname := (.ofString "_law_octets"), params := fnP41, body := .stmts fnB41, scope := fnS41, globals := 0, closure := [], defaults := .none, kwdefaults := .none, doc := .none, pyModule := .none, annotations := none, code := .none, closureTuple := .none, builtins := 0 }, #[]⟩
noncomputable def o256_7 (_ : Params) : Obj := ⟨(.type "code"), none, .fields #[(.str (.ofString "_law_octets") 509), (.str (.ofString "_law_octets") 510), (.str (.ofString "/claim/cut.py") 511), (.int 149 0), (.int 1 0), (.int 0 0), (.int 0 0), (.int 3 0), (.ref 253), (.bool true), (.int 181 0), (.ref 254), .none, .none, .none, (.ref 255), (.int 512 0), (.int 149 0), (.str (.ofString "/claim/cut.py") 513)], #[]⟩
noncomputable def o257_7 (_ : Params) : Obj := ⟨(.type "function"), none, .func { name := (.ofString "_law_octets"), qualname := (.ofString "_law_octets"), params := fnP41, body := .stmts fnB41, scope := fnS41, globals := 3, closure := [], defaults := .none, kwdefaults := .none, doc := .none, pyModule := (.str (.ofString "law_jx0031_01") 434), annotations := none, code := (.ref 256), closureTuple := .none, builtins := 0 }, #[]⟩
noncomputable def o258_7 (_ : Params) : Obj := ⟨(.type "tuple"), none, .seq #[] 0, #[]⟩
noncomputable def o259_7 (_ : Params) : Obj := ⟨.none, none, .fields #[], #[]⟩
noncomputable def o260_7 (_ : Params) : Obj := ⟨.none, none, .func { name := (.ofString "law"), qualname := (.ofString "law"), params := fnP42, body := .stmts fnB42, scope := fnS42, globals := 0, closure := [], defaults := .none, kwdefaults := .none, doc := .none, pyModule := .none, annotations := none, code := .none, closureTuple := .none, builtins := 0 }, #[]⟩
noncomputable def o261_7 (_ : Params) : Obj := ⟨(.type "code"), none, .fields #[(.str (.ofString "law") 515), (.str (.ofString "law") 516), (.str (.ofString "/claim/cut.py") 517), (.int 157 0), (.int 1 0), (.int 0 0), (.int 0 0), (.int 3 0), (.ref 258), (.bool true), (.int 181 0), (.ref 259), .none, .none, .none, (.ref 260), (.int 518 0), (.int 157 0), (.str (.ofString "/claim/cut.py") 519)], #[]⟩
noncomputable def o262_7 (_ : Params) : Obj := ⟨(.type "function"), none, .func { name := (.ofString "law"), qualname := (.ofString "law"), params := fnP42, body := .stmts fnB42, scope := fnS42, globals := 3, closure := [], defaults := .none, kwdefaults := .none, doc := .none, pyModule := (.str (.ofString "law_jx0031_01") 434), annotations := none, code := (.ref 261), closureTuple := .none, builtins := 0 }, #[]⟩
noncomputable def t_7 (P : Params) : BT := (.node (boot_o_0 P) (.node (boot_o_1 P) (.node (o3_7 P) (.node (boot_o_7 P) (.node (o15_1 P) (.node (o31_1 P) (.node (o63_3 P) (.node (o127_5 P) (.node (o255_7 P) .nil .nil) .nil) (.node (o191_6 P) .nil .nil)) (.node (o95_5 P) (.node (o159_6 P) .nil .nil) (.node (o223_6 P) .nil .nil))) (.node (o47_2 P) (.node (o79_4 P) (.node (o143_6 P) .nil .nil) (.node (o207_6 P) .nil .nil)) (.node (o111_5 P) (.node (o175_6 P) .nil .nil) (.node (o239_7 P) .nil .nil)))) (.node (o23_1 P) (.node (o39_2 P) (.node (o71_4 P) (.node (o135_5 P) .nil .nil) (.node (o199_6 P) .nil .nil)) (.node (o103_5 P) (.node (o167_6 P) .nil .nil) (.node (o231_7 P) .nil .nil))) (.node (o55_3 P) (.node (o87_4 P) (.node (o151_6 P) .nil .nil) (.node (o215_6 P) .nil .nil)) (.node (o119_5 P) (.node (o183_6 P) .nil .nil) (.node (o247_7 P) .nil .nil))))) (.node (o11_a P) (.node (o19_1 P) (.node (o35_2 P) (.node (o67_3 P) (.node (o131_5 P) (.node (o259_7 P) .nil .nil) .nil) (.node (o195_6 P) .nil .nil)) (.node (o99_5 P) (.node (o163_6 P) .nil .nil) (.node (o227_7 P) .nil .nil))) (.node (o51_2 P) (.node (o83_4 P) (.node (o147_6 P) .nil .nil) (.node (o211_6 P) .nil .nil)) (.node (o115_5 P) (.node (o179_6 P) .nil .nil) (.node (o243_7 P) .nil .nil)))) (.node (o27_1 P) (.node (o43_2 P) (.node (o75_4 P) (.node (o139_5 P) .nil .nil) (.node (o203_6 P) .nil .nil)) (.node (o107_5 P) (.node (o171_6 P) .nil .nil) (.node (o235_7 P) .nil .nil))) (.node (o59_3 P) (.node (o91_4 P) (.node (o155_6 P) .nil .nil) (.node (o219_6 P) .nil .nil)) (.node (o123_5 P) (.node (o187_6 P) .nil .nil) (.node (o251_7 P) .nil .nil)))))) (.node (boot_o_5 P) (.node (boot_o_9 P) (.node (o17_1 P) (.node (o33_2 P) (.node (o65_3 P) (.node (o129_5 P) (.node (o257_7 P) .nil .nil) .nil) (.node (o193_6 P) .nil .nil)) (.node (o97_5 P) (.node (o161_6 P) .nil .nil) (.node (o225_7 P) .nil .nil))) (.node (o49_2 P) (.node (o81_4 P) (.node (o145_6 P) .nil .nil) (.node (o209_6 P) .nil .nil)) (.node (o113_5 P) (.node (o177_6 P) .nil .nil) (.node (o241_7 P) .nil .nil)))) (.node (o25_1 P) (.node (o41_2 P) (.node (o73_4 P) (.node (o137_5 P) .nil .nil) (.node (o201_6 P) .nil .nil)) (.node (o105_5 P) (.node (o169_6 P) .nil .nil) (.node (o233_7 P) .nil .nil))) (.node (o57_3 P) (.node (o89_4 P) (.node (o153_6 P) .nil .nil) (.node (o217_6 P) .nil .nil)) (.node (o121_5 P) (.node (o185_6 P) .nil .nil) (.node (o249_7 P) .nil .nil))))) (.node (o13_a P) (.node (o21_1 P) (.node (o37_2 P) (.node (o69_4 P) (.node (o133_5 P) (.node (o261_7 P) .nil .nil) .nil) (.node (o197_6 P) .nil .nil)) (.node (o101_5 P) (.node (o165_6 P) .nil .nil) (.node (o229_7 P) .nil .nil))) (.node (o53_2 P) (.node (o85_4 P) (.node (o149_6 P) .nil .nil) (.node (o213_6 P) .nil .nil)) (.node (o117_5 P) (.node (o181_6 P) .nil .nil) (.node (o245_7 P) .nil .nil)))) (.node (o29_1 P) (.node (o45_2 P) (.node (o77_4 P) (.node (o141_5 P) .nil .nil) (.node (o205_6 P) .nil .nil)) (.node (o109_5 P) (.node (o173_6 P) .nil .nil) (.node (o237_7 P) .nil .nil))) (.node (o61_3 P) (.node (o93_5 P) (.node (o157_6 P) .nil .nil) (.node (o221_6 P) .nil .nil)) (.node (o125_5 P) (.node (o189_6 P) .nil .nil) (.node (o253_7 P) .nil .nil))))))) (.node (o2_5 P) (.node (boot_o_4 P) (.node (boot_o_8 P) (.node (o16_1 P) (.node (o32_1 P) (.node (o64_3 P) (.node (o128_5 P) (.node (o256_7 P) .nil .nil) .nil) (.node (o192_6 P) .nil .nil)) (.node (o96_5 P) (.node (o160_6 P) .nil .nil) (.node (o224_6 P) .nil .nil))) (.node (o48_2 P) (.node (o80_4 P) (.node (o144_6 P) .nil .nil) (.node (o208_6 P) .nil .nil)) (.node (o112_5 P) (.node (o176_6 P) .nil .nil) (.node (o240_7 P) .nil .nil)))) (.node (o24_1 P) (.node (o40_2 P) (.node (o72_4 P) (.node (o136_5 P) .nil .nil) (.node (o200_6 P) .nil .nil)) (.node (o104_5 P) (.node (o168_6 P) .nil .nil) (.node (o232_7 P) .nil .nil))) (.node (o56_3 P) (.node (o88_4 P) (.node (o152_6 P) .nil .nil) (.node (o216_6 P) .nil .nil)) (.node (o120_5 P) (.node (o184_6 P) .nil .nil) (.node (o248_7 P) .nil .nil))))) (.node (o12_7 P) (.node (o20_1 P) (.node (o36_2 P) (.node (o68_3 P) (.node (o132_5 P) (.node (o260_7 P) .nil .nil) .nil) (.node (o196_6 P) .nil .nil)) (.node (o100_5 P) (.node (o164_6 P) .nil .nil) (.node (o228_7 P) .nil .nil))) (.node (o52_2 P) (.node (o84_4 P) (.node (o148_6 P) .nil .nil) (.node (o212_6 P) .nil .nil)) (.node (o116_5 P) (.node (o180_6 P) .nil .nil) (.node (o244_7 P) .nil .nil)))) (.node (o28_1 P) (.node (o44_2 P) (.node (o76_4 P) (.node (o140_5 P) .nil .nil) (.node (o204_6 P) .nil .nil)) (.node (o108_5 P) (.node (o172_6 P) .nil .nil) (.node (o236_7 P) .nil .nil))) (.node (o60_3 P) (.node (o92_5 P) (.node (o156_6 P) .nil .nil) (.node (o220_6 P) .nil .nil)) (.node (o124_5 P) (.node (o188_6 P) .nil .nil) (.node (o252_7 P) .nil .nil)))))) (.node (boot_o_6 P) (.node (boot_o_10 P) (.node (o18_1 P) (.node (o34_2 P) (.node (o66_3 P) (.node (o130_5 P) (.node (o258_7 P) .nil .nil) .nil) (.node (o194_6 P) .nil .nil)) (.node (o98_5 P) (.node (o162_6 P) .nil .nil) (.node (o226_7 P) .nil .nil))) (.node (o50_2 P) (.node (o82_4 P) (.node (o146_6 P) .nil .nil) (.node (o210_6 P) .nil .nil)) (.node (o114_5 P) (.node (o178_6 P) .nil .nil) (.node (o242_7 P) .nil .nil)))) (.node (o26_1 P) (.node (o42_2 P) (.node (o74_4 P) (.node (o138_5 P) .nil .nil) (.node (o202_6 P) .nil .nil)) (.node (o106_5 P) (.node (o170_6 P) .nil .nil) (.node (o234_7 P) .nil .nil))) (.node (o58_3 P) (.node (o90_4 P) (.node (o154_6 P) .nil .nil) (.node (o218_6 P) .nil .nil)) (.node (o122_5 P) (.node (o186_6 P) .nil .nil) (.node (o250_7 P) .nil .nil))))) (.node (o14_a P) (.node (o22_1 P) (.node (o38_2 P) (.node (o70_4 P) (.node (o134_5 P) (.node (o262_7 P) .nil .nil) .nil) (.node (o198_6 P) .nil .nil)) (.node (o102_5 P) (.node (o166_6 P) .nil .nil) (.node (o230_7 P) .nil .nil))) (.node (o54_3 P) (.node (o86_4 P) (.node (o150_6 P) .nil .nil) (.node (o214_6 P) .nil .nil)) (.node (o118_5 P) (.node (o182_6 P) .nil .nil) (.node (o246_7 P) .nil .nil)))) (.node (o30_1 P) (.node (o46_2 P) (.node (o78_4 P) (.node (o142_5 P) .nil .nil) (.node (o206_6 P) .nil .nil)) (.node (o110_5 P) (.node (o174_6 P) .nil .nil) (.node (o238_7 P) .nil .nil))) (.node (o62_3 P) (.node (o94_5 P) (.node (o158_6 P) .nil .nil) (.node (o222_6 P) .nil .nil)) (.node (o126_5 P) (.node (o190_6 P) .nil .nil) (.node (o254_7 P) .nil .nil))))))))
noncomputable def st_7 (w : World) (os : OsState) : SharedT := ⟨t_7 w.params, 263, life0, #[.finished], boot_drawn, 521, os⟩
noncomputable def hpF (P : Params) : Heap := ⟨⟨[boot_o_0 P, boot_o_1 P, o2_5 P, o3_7 P, boot_o_4 P, boot_o_5 P, boot_o_6 P, boot_o_7 P, boot_o_8 P, boot_o_9 P, boot_o_10 P, o11_a P, o12_7 P, o13_a P, o14_a P, o15_1 P, o16_1 P, o17_1 P, o18_1 P, o19_1 P, o20_1 P, o21_1 P, o22_1 P, o23_1 P, o24_1 P, o25_1 P, o26_1 P, o27_1 P, o28_1 P, o29_1 P, o30_1 P, o31_1 P, o32_1 P, o33_2 P, o34_2 P, o35_2 P, o36_2 P, o37_2 P, o38_2 P, o39_2 P, o40_2 P, o41_2 P, o42_2 P, o43_2 P, o44_2 P, o45_2 P, o46_2 P, o47_2 P, o48_2 P, o49_2 P, o50_2 P, o51_2 P, o52_2 P, o53_2 P, o54_3 P, o55_3 P, o56_3 P, o57_3 P, o58_3 P, o59_3 P, o60_3 P, o61_3 P, o62_3 P, o63_3 P, o64_3 P, o65_3 P, o66_3 P, o67_3 P, o68_3 P, o69_4 P, o70_4 P, o71_4 P, o72_4 P, o73_4 P, o74_4 P, o75_4 P, o76_4 P, o77_4 P, o78_4 P, o79_4 P, o80_4 P, o81_4 P, o82_4 P, o83_4 P, o84_4 P, o85_4 P, o86_4 P, o87_4 P, o88_4 P, o89_4 P, o90_4 P, o91_4 P, o92_5 P, o93_5 P, o94_5 P, o95_5 P, o96_5 P, o97_5 P, o98_5 P, o99_5 P, o100_5 P, o101_5 P, o102_5 P, o103_5 P, o104_5 P, o105_5 P, o106_5 P, o107_5 P, o108_5 P, o109_5 P, o110_5 P, o111_5 P, o112_5 P, o113_5 P, o114_5 P, o115_5 P, o116_5 P, o117_5 P, o118_5 P, o119_5 P, o120_5 P, o121_5 P, o122_5 P, o123_5 P, o124_5 P, o125_5 P, o126_5 P, o127_5 P, o128_5 P, o129_5 P, o130_5 P, o131_5 P, o132_5 P, o133_5 P, o134_5 P, o135_5 P, o136_5 P, o137_5 P, o138_5 P, o139_5 P, o140_5 P, o141_5 P, o142_5 P, o143_6 P, o144_6 P, o145_6 P, o146_6 P, o147_6 P, o148_6 P, o149_6 P, o150_6 P, o151_6 P, o152_6 P, o153_6 P, o154_6 P, o155_6 P, o156_6 P, o157_6 P, o158_6 P, o159_6 P, o160_6 P, o161_6 P, o162_6 P, o163_6 P, o164_6 P, o165_6 P, o166_6 P, o167_6 P, o168_6 P, o169_6 P, o170_6 P, o171_6 P, o172_6 P, o173_6 P, o174_6 P, o175_6 P, o176_6 P, o177_6 P, o178_6 P, o179_6 P, o180_6 P, o181_6 P, o182_6 P, o183_6 P, o184_6 P, o185_6 P, o186_6 P, o187_6 P, o188_6 P, o189_6 P, o190_6 P, o191_6 P, o192_6 P, o193_6 P, o194_6 P, o195_6 P, o196_6 P, o197_6 P, o198_6 P, o199_6 P, o200_6 P, o201_6 P, o202_6 P, o203_6 P, o204_6 P, o205_6 P, o206_6 P, o207_6 P, o208_6 P, o209_6 P, o210_6 P, o211_6 P, o212_6 P, o213_6 P, o214_6 P, o215_6 P, o216_6 P, o217_6 P, o218_6 P, o219_6 P, o220_6 P, o221_6 P, o222_6 P, o223_6 P, o224_6 P, o225_7 P, o226_7 P, o227_7 P, o228_7 P, o229_7 P, o230_7 P, o231_7 P, o232_7 P, o233_7 P, o234_7 P, o235_7 P, o236_7 P, o237_7 P, o238_7 P, o239_7 P, o240_7 P, o241_7 P, o242_7 P, o243_7 P, o244_7 P, o245_7 P, o246_7 P, o247_7 P, o248_7 P, o249_7 P, o250_7 P, o251_7 P, o252_7 P, o253_7 P, o254_7 P, o255_7 P, o256_7 P, o257_7 P, o258_7 P, o259_7 P, o260_7 P, o261_7 P, o262_7 P]⟩, life0⟩
noncomputable def kfrag : Params → Frag := fun P => (nat_lit 2, o2_5 P) :: (nat_lit 3, o3_7 P) :: (nat_lit 32, o32_1 P) :: (nat_lit 53, o53_2 P) :: (nat_lit 79, o79_4 P) :: (nat_lit 86, o86_4 P) :: (nat_lit 87, o87_4 P) :: (nat_lit 88, o88_4 P) :: (nat_lit 89, o89_4 P) :: (nat_lit 92, o92_5 P) :: (nat_lit 99, o99_5 P) :: (nat_lit 100, o100_5 P) :: (nat_lit 101, o101_5 P) :: (nat_lit 102, o102_5 P) :: (nat_lit 105, o105_5 P) :: (nat_lit 108, o108_5 P) :: (nat_lit 109, o109_5 P) :: (nat_lit 110, o110_5 P) :: (nat_lit 112, o112_5 P) :: (nat_lit 113, o113_5 P) :: (nat_lit 115, o115_5 P) :: (nat_lit 116, o116_5 P) :: (nat_lit 117, o117_5 P) :: (nat_lit 119, o119_5 P) :: (nat_lit 120, o120_5 P) :: (nat_lit 122, o122_5 P) :: (nat_lit 123, o123_5 P) :: (nat_lit 124, o124_5 P) :: (nat_lit 127, o127_5 P) :: (nat_lit 128, o128_5 P) :: (nat_lit 129, o129_5 P) :: (nat_lit 131, o131_5 P) :: (nat_lit 132, o132_5 P) :: (nat_lit 134, o134_5 P) :: (nat_lit 135, o135_5 P) :: (nat_lit 136, o136_5 P) :: (nat_lit 138, o138_5 P) :: (nat_lit 139, o139_5 P) :: (nat_lit 141, o141_5 P) :: (nat_lit 142, o142_5 P) :: (nat_lit 143, o143_6 P) :: (nat_lit 145, o145_6 P) :: (nat_lit 146, o146_6 P) :: (nat_lit 148, o148_6 P) :: (nat_lit 149, o149_6 P) :: (nat_lit 150, o150_6 P) :: (nat_lit 152, o152_6 P) :: (nat_lit 153, o153_6 P) :: (nat_lit 155, o155_6 P) :: (nat_lit 156, o156_6 P) :: (nat_lit 157, o157_6 P) :: (nat_lit 159, o159_6 P) :: (nat_lit 160, o160_6 P) :: (nat_lit 162, o162_6 P) :: (nat_lit 163, o163_6 P) :: (nat_lit 164, o164_6 P) :: (nat_lit 166, o166_6 P) :: (nat_lit 167, o167_6 P) :: (nat_lit 169, o169_6 P) :: (nat_lit 170, o170_6 P) :: (nat_lit 171, o171_6 P) :: (nat_lit 173, o173_6 P) :: (nat_lit 174, o174_6 P) :: (nat_lit 176, o176_6 P) :: (nat_lit 177, o177_6 P) :: (nat_lit 178, o178_6 P) :: (nat_lit 180, o180_6 P) :: (nat_lit 181, o181_6 P) :: (nat_lit 183, o183_6 P) :: (nat_lit 184, o184_6 P) :: (nat_lit 185, o185_6 P) :: (nat_lit 187, o187_6 P) :: (nat_lit 188, o188_6 P) :: (nat_lit 190, o190_6 P) :: (nat_lit 191, o191_6 P) :: (nat_lit 192, o192_6 P) :: (nat_lit 194, o194_6 P) :: (nat_lit 195, o195_6 P) :: (nat_lit 197, o197_6 P) :: (nat_lit 198, o198_6 P) :: (nat_lit 199, o199_6 P) :: (nat_lit 201, o201_6 P) :: (nat_lit 202, o202_6 P) :: (nat_lit 204, o204_6 P) :: (nat_lit 205, o205_6 P) :: (nat_lit 206, o206_6 P) :: (nat_lit 208, o208_6 P) :: (nat_lit 209, o209_6 P) :: (nat_lit 211, o211_6 P) :: (nat_lit 212, o212_6 P) :: (nat_lit 213, o213_6 P) :: (nat_lit 216, o216_6 P) :: (nat_lit 217, o217_6 P) :: (nat_lit 218, o218_6 P) :: (nat_lit 220, o220_6 P) :: (nat_lit 221, o221_6 P) :: (nat_lit 223, o223_6 P) :: (nat_lit 224, o224_6 P) :: (nat_lit 225, o225_7 P) :: (nat_lit 227, o227_7 P) :: (nat_lit 228, o228_7 P) :: (nat_lit 230, o230_7 P) :: (nat_lit 231, o231_7 P) :: (nat_lit 232, o232_7 P) :: (nat_lit 234, o234_7 P) :: (nat_lit 235, o235_7 P) :: (nat_lit 237, o237_7 P) :: (nat_lit 238, o238_7 P) :: (nat_lit 239, o239_7 P) :: (nat_lit 241, o241_7 P) :: (nat_lit 242, o242_7 P) :: (nat_lit 244, o244_7 P) :: (nat_lit 245, o245_7 P) :: (nat_lit 246, o246_7 P) :: (nat_lit 248, o248_7 P) :: (nat_lit 249, o249_7 P) :: (nat_lit 251, o251_7 P) :: (nat_lit 252, o252_7 P) :: (nat_lit 253, o253_7 P) :: (nat_lit 256, o256_7 P) :: (nat_lit 257, o257_7 P) :: (nat_lit 258, o258_7 P) :: (nat_lit 261, o261_7 P) :: (nat_lit 262, o262_7 P) :: []
noncomputable def kadr : List Addr := [2, 3, 32, 53, 79, 86, 87, 88, 89, 92, 99, 100, 101, 102, 105, 108, 109, 110, 112, 113, 115, 116, 117, 119, 120, 122, 123, 124, 127, 128, 129, 131, 132, 134, 135, 136, 138, 139, 141, 142, 143, 145, 146, 148, 149, 150, 152, 153, 155, 156, 157, 159, 160, 162, 163, 164, 166, 167, 169, 170, 171, 173, 174, 176, 177, 178, 180, 181, 183, 184, 185, 187, 188, 190, 191, 192, 194, 195, 197, 198, 199, 201, 202, 204, 205, 206, 208, 209, 211, 212, 213, 216, 217, 218, 220, 221, 223, 224, 225, 227, 228, 230, 231, 232, 234, 235, 237, 238, 239, 241, 242, 244, 245, 246, 248, 249, 251, 252, 253, 256, 257, 258, 261, 262]
noncomputable def sts0 : List Stmt := (pw.main.body.drop 0).take 1
theorem pc0 (w : World) : (fun os : OsState => segRunT treeTable pw w 11 (some (.ref 6)) 1 10 (st_b w os) (piecesOf sts0 envT cE ⟨0, 0, 0, 0⟩ [topFrame ⟨0, 0, 0, 0⟩])) = fun os => some (.next, st_0 w os, cE, ⟨1, 0, 1, 8⟩) := by
  rw [Fast.te10110043849684766642, Fast.te14364793385576792824]
  kernel_rfl
noncomputable def sts1 : List Stmt := (pw.main.body.drop 1).take 1
noncomputable def P1 (w : World) : Prop := (fun os : OsState => segRunT treeTable pw w 11 (some (.ref 6)) 1 823 (st_0 w os) (piecesOf sts1 envT cE ⟨1, 0, 1, 8⟩ [topFrame ⟨0, 0, 0, 0⟩])) = fun os => some (.next, st_1 w os, cE, ⟨2, 0, 2, 3⟩)
theorem pc1 (w : World) : P1 w := by
  revert w
  refine byRow2 "comprehension-iter-twice" (fun w => ?_) (fun w => ?_)
  · revert w
    refine byRow2 "special-get-raises" (P := fun w => P1 (w.withFollow "comprehension-iter-twice" false)) (fun w => ?_) (fun w => ?_)
    · unfold P1
      rw [Fast.te10110043849684766642, Fast.te14364793385576792824]
      kernel_rfl
    · unfold P1
      rw [Fast.te10110043849684766642, Fast.te14364793385576792824]
      kernel_rfl
  · revert w
    refine byRow2 "special-get-raises" (P := fun w => P1 (w.withFollow "comprehension-iter-twice" true)) (fun w => ?_) (fun w => ?_)
    · unfold P1
      rw [Fast.te10110043849684766642, Fast.te14364793385576792824]
      kernel_rfl
    · unfold P1
      rw [Fast.te10110043849684766642, Fast.te14364793385576792824]
      kernel_rfl
noncomputable def sts2 : List Stmt := (pw.main.body.drop 2).take 1
/-- x -/
theorem pc2 (w : World) : (fun os : OsState => segRunT treeTable pw w 11 (some (.ref 6)) 1 343 (st_1 w os) (piecesOf sts2 envT cE ⟨2, 0, 2, 3⟩ [topFrame ⟨0, 0, 0, 0⟩])) = fun os => some (.next, st_2 w os, cE, ⟨3, 0, 3, 8⟩) := by
  revert w
  refine byRow2 "special-get-raises" (fun w => ?_) (fun w => ?_)
  · rw [Fast.te10110043849684766642, Fast.te14364793385576792824]
    kernel_rfl
  · rw [Fast.te10110043849684766642, Fast.te14364793385576792824]
    kernel_rfl
noncomputable def sts3 : List Stmt := (pw.main.body.drop 3).take 6
theorem pc3 (w : World) : (fun os : OsState => segRunT treeTable pw w 11 (some (.ref 6)) 1 349 (st_2 w os) (piecesOf sts3 envT cE ⟨3, 0, 3, 8⟩ [topFrame ⟨0, 0, 0, 0⟩])) = fun os => some (.next, st_3 w os, cE, ⟨9, 0, 9, 14⟩) := by
  revert w
  refine byRow2 "special-get-raises" (fun w => ?_) (fun w => ?_)
  · rw [Fast.te10110043849684766642, Fast.te14364793385576792824]
    kernel_rfl
  · rw [Fast.te10110043849684766642, Fast.te14364793385576792824]
    kernel_rfl
noncomputable def sts4 : List Stmt := (pw.main.body.drop 9).take 4
theorem pc4 (w : World) : (fun os : OsState => segRunT treeTable pw w 11 (some (.ref 6)) 1 356 (st_3 w os) (piecesOf sts4 envT cE ⟨9, 0, 9, 14⟩ [topFrame ⟨0, 0, 0, 0⟩])) = fun os => some (.next, st_4 w os, cE, ⟨13, 0, 14, 8⟩) := by
  revert w
  refine byRow2 "special-get-raises" (fun w => ?_) (fun w => ?_)
  · rw [Fast.te10110043849684766642, Fast.te14364793385576792824]
    kernel_rfl
  · rw [Fast.te10110043849684766642, Fast.te14364793385576792824]
    kernel_rfl
noncomputable def sts5 : List Stmt := (pw.main.body.drop 13).take 9
theorem pc5 (w : World) : (fun os : OsState => segRunT treeTable pw w 11 (some (.ref 6)) 1 388 (st_4 w os) (piecesOf sts5 envT cE ⟨13, 0, 14, 8⟩ [topFrame ⟨0, 0, 0, 0⟩])) = fun os => some (.next, st_5 w os, cE, ⟨35, 0, 41, 67⟩) := by
  rw [Fast.te10110043849684766642, Fast.te14364793385576792824]
  kernel_rfl
noncomputable def sts6 : List Stmt := (pw.main.body.drop 22).take 15
theorem pc6 (w : World) : (fun os : OsState => segRunT treeTable pw w 11 (some (.ref 6)) 1 385 (st_5 w os) (piecesOf sts6 envT cE ⟨35, 0, 41, 67⟩ [topFrame ⟨0, 0, 0, 0⟩])) = fun os => some (.next, st_6 w os, cE, ⟨110, 0, 116, 81⟩) := by
  rw [Fast.te10110043849684766642, Fast.te14364793385576792824]
  kernel_rfl
noncomputable def sts7 : List Stmt := (pw.main.body.drop 37).take 6
theorem pc7 (w : World) : (fun os : OsState => segRunT treeTable pw w 11 (some (.ref 6)) 1 172 (st_6 w os) (piecesOf sts7 envT cE ⟨110, 0, 116, 81⟩ [topFrame ⟨0, 0, 0, 0⟩])) = fun os => some (.next, st_7 w os, cE, ⟨157, 0, 190, 128⟩) := by
  rw [Fast.te10110043849684766642, Fast.te14364793385576792824]
  kernel_rfl
noncomputable def stmtsAll : List Stmt := sts0 ++ (sts1 ++ (sts2 ++ (sts3 ++ (sts4 ++ (sts5 ++ (sts6 ++ (sts7 ++ [])))))))
theorem beh_eq : behindTheImports pw = stmtsAll := by kernel_rfl
theorem pre_go (w : World) : (fun os : OsState => topGo treeTable pw w 11 (some (.ref 6)) 12 ⟨boot_heap w.params, Array.mk [], boot_drawn, boot_toks, os⟩ (topStub pw)) =
    fun os => some ((st_a w os).abs, ⟨denote treeTable cE, cE, ⟨0, 0, 0, 0⟩, [topFrame ⟨0, 0, 0, 0⟩]⟩) := by
  rw [Fast.te15667345088766844465, Fast.te14364793385576792824, Fast.te11892475500146522536]
  kernel_rfl
theorem block_go (w : World) : (fun os : OsState => segRunT treeTable pw w 11 (some (.ref 6)) 1 1 (st_a w os) (blockOf (behindTheImports pw) envT cE ⟨0, 0, 0, 0⟩ [topFrame ⟨0, 0, 0, 0⟩])) =
    fun os => some (.next, st_b w os, cE, ⟨0, 0, 0, 0⟩) := by
  kernel_rfl
theorem fin_go (w : World) : (fun os : OsState => topRun treeTable pw w 11 (some (.ref 6)) 2 (st_7 w os).abs ⟨doneF .next, cE, ⟨157, 0, 190, 128⟩, [topFrame ⟨0, 0, 0, 0⟩]⟩) =
    fun os => some ⟨hpF w.params, #[.finished], boot_drawn, 521, os⟩ := by
  kernel_rfl
noncomputable def stepsN : Nat := 12 + (1 + (10 + (823 + (343 + (349 + (356 + (388 + (385 + (172 + 2)))))))))
theorem run_all (w : World) (os : OsState) : topRun treeTable pw w 11 (some (.ref 6)) stepsN ⟨boot_heap w.params, Array.mk [], boot_drawn, boot_toks, os⟩ (topStub pw) =
    some ⟨hpF w.params, #[.finished], boot_drawn, 521, os⟩ := by
  have k := congrFun (fin_go w) os
  have k := piece_app (rest := []) (segRun_of (congrFun (pc7 w) os)) k
  have k := piece_app (segRun_of (congrFun (pc6 w) os)) k
  have k := piece_app (segRun_of (congrFun (pc5 w) os)) k
  have k := piece_app (segRun_of (congrFun (pc4 w) os)) k
  have k := piece_app (segRun_of (congrFun (pc3 w) os)) k
  have k := piece_app (segRun_of (congrFun (pc2 w) os)) k
  have k := piece_app (segRun_of (congrFun (show P1 w from pc1 w) os)) k
  have k := piece_app (segRun_of (congrFun (pc0 w) os)) k
  have e : restOf (sts0 ++ (sts1 ++ (sts2 ++ (sts3 ++ (sts4 ++ (sts5 ++ (sts6 ++ (sts7 ++ [])))))))) envT cE ⟨0, 0, 0, 0⟩ [topFrame ⟨0, 0, 0, 0⟩] = restOf (behindTheImports pw) envT cE ⟨0, 0, 0, 0⟩ [topFrame ⟨0, 0, 0, 0⟩] :=
    congrArg (fun l => restOf l envT cE ⟨0, 0, 0, 0⟩ [topFrame ⟨0, 0, 0, 0⟩]) beh_eq.symm
  rw [e] at k
  have k := piece_block (segRun_of (congrFun (block_go w) os)) k
  exact go_top (congrFun (pre_go w) os) k
theorem open_eq : opening pw = plainProg pw.main.scope.names := by kernel_rfl
theorem fence_eq (s : Shared) : fenceModules? pw s = some s := by kernel_rfl
theorem size_eq (w : World) : ((boot_heap w.params).isNs mainGlobals && (Array.mk ([] : List GenState)).size == 0, (boot_heap w.params).objs.size, (boot_heap w.params).nsMap mainGlobals "__annotations__") = (true, 11, some (.ref 6)) := by kernel_rfl
noncomputable def qv : Program := { pw with main := { pw.main with body := [] } }
noncomputable def looseN : List Str := [.ofString "EXP", .ofString "TWO_BITS", .ofString "PREFIX_00", .ofString "PREFIX_100000", .ofString "KV_TYPE", .ofString "BRANCH_TYPE", .ofString "LEAF_TYPE", .ofString "KV_TYPE_PREFIX", .ofString "BRANCH_TYPE_PREFIX", .ofString "LEAF_TYPE_PREFIX", .ofString "InvalidNode", .ofString "ValidationError", .ofString "partition_all", .ofString "decode_from_bin", .ofString "_decode_from_bin", .ofString "encode_to_bin", .ofString "_encode_to_bin", .ofString "encode_from_bin_keypath", .ofString "decode_to_bin_keypath", .ofString "validate_is_bytes", .ofString "validate_length", .ofString "parse_node", .ofString "encode_kv_node", .ofString "encode_branch_node", .ofString "encode_leaf_node", .ofString "_law_number", .ofString "_law_packed", .ofString "_law_signs", .ofString "_law_row", .ofString "_law_read", .ofString "_law_told", .ofString "_law_parsed", .ofString "_law_due", .ofString "_law_refused", .ofString "_law_octets", .ofString "law"]
noncomputable def tabObj (ps : Array Value) : Obj := ⟨.none, none, .fields ps, #[]⟩
noncomputable def kall : Params → Frag := fun P => (nat_lit 118, tabObj #[]) :: kfrag P
noncomputable def kadrA : List Addr := 118 :: kadr
theorem looks_ok (w : World) : (fun os : OsState => ((staticsOk (importedModules pw.main.body) (boot_heap w.params) (hpF w.params) && namesBound pw (hpF w.params) && gensDone ⟨hpF w.params, #[.finished], boot_drawn, 521, os⟩ && laidKept (boot_heap w.params) (hpF w.params)),
        openSeen qv looseN (importedModules pw.main.body) (fun _ => true) false ⟨hpF w.params, #[.finished], boot_drawn, 521, os⟩, kadrA.map (hpF w.params).get?)) =
    fun _ => (true, openGood qv looseN, (kall w.params).map fun p => some p.2) := by
  kernel_rfl
theorem left_ok : LeftO pw qv looseN (fun _ => true) (fun s => kadrA.map s.heap.get?) (fun w => (kall w.params).map fun p => some p.2) 6000 false :=
  LeftO.of_pieces (boot_open open_eq (by decide) fence_eq) size_eq run_all (by decide) looks_ok
end
-- JxOpen
section
abbrev rw_ : OpenLaw := PySem.Challenge.rw_jx0031_01
noncomputable abbrev XT : (Str → Option Value) → Heap → Prop := fun _ _ => True

/-- what a call may do to the generators: those that stood stand, new ones are bare -/
structure GG (g g' : Array GenState) : Prop where
  old : ∀ (i : Nat) (x : GenState), g[i]? = some x → g'[i]? = some x
  bare : ∀ (i : Nat) (x : GenState), g'[i]? = some x → g[i]? = some x ∨ x.bare = true
theorem GG.refl (g : Array GenState) : GG g g := ⟨fun _ _ e => e, fun _ _ e => .inl e⟩
theorem GG.trans {a b c : Array GenState} (x : GG a b) (y : GG b c) : GG a c :=
  ⟨fun i g e => y.old i g (x.old i g e), fun i g e => (y.bare i g e).elim (fun q => x.bare i g q) .inr⟩

/-- what a call may do to the state: all that stood stands (but the one code table, number 118, that may grow) -/
structure Grow (s s' : Shared) : Prop where
  keep : ∀ b o, b ≠ 118 → s.heap.get? b = some o → s'.heap.get? b = some o
  tab : ∃ ps, s'.heap.get? 118 = some (tabObj ps)
  os : s'.os = s.os
  gens : GG s.gens s'.gens

noncomputable abbrev WalkM : Prop :=
  ∀ (w : World) (s₀ s₁ : Shared) (mg mb : Str → Option Value), Top qv (looseW qv looseN) (ExcName.means s₀.heap) mg mb s₁.heap → (kfrag w.params).In s₁.heap → s₁.heap.get? 118 = some (tabObj #[]) → (∀ (i : Nat) (x : GenState), s₁.gens[i]? = some x → x = .finished) →
    ∀ (args : List WData) (vals : List Value) (as : List Addr), rw_.row.toRowW.claim.pre args = true → WData.layableAll args = true →
    ReadsAllW [] (classAt s₀.heap) s₁.heap vals args as → WellAll w.params s₁.heap vals args → (∀ a ∈ as, (a == sysModules) = false) →
      wpAny (model rw_.prog w) callerA (call (.ref 262) vals) (fun v s' => v = .bool true ∧ Grow s₁ s') (fun _ _ => False) s₁

theorem asWas {s₁ s' : Shared} (hK : ∀ b o, b ≠ 118 → s₁.heap.get? b = some o → s'.heap.get? b = some o) (h0 : s₁.heap.get? 118 = some (tabObj #[])) (hc : isCodeTable s₁.heap 118) (ht : ∃ ps, s'.heap.get? 118 = some (tabObj ps))
    (b : Addr) (o : Obj) (e : s₁.heap.get? b = some o) : asItWas s₁.heap s'.heap b o := by
  by_cases hb : b = 118
  · subst hb
    rw [h0] at e
    cases e
    obtain ⟨ps, h⟩ := ht
    exact .inr (.inl ⟨hc, rfl, #[], ps, rfl, by rw [h, Array.empty_append]; rfl⟩)
  · exact .inl (hK b o hb e)

theorem ends_true {s s₁ s' : Shared} {args : List WData} {vs : List Value} {as : List Addr} (hrd : ReadsAllW [] (classAt s.heap) s₁.heap vs args as)
    (hK : ∀ b o, b ≠ 118 → s₁.heap.get? b = some o → s'.heap.get? b = some o) (h0 : s₁.heap.get? 118 = some (tabObj #[])) (hc : isCodeTable s₁.heap 118) (ht : ∃ ps, s'.heap.get? 118 = some (tabObj ps))
    (hp : rw_.row.toRowW.claim.post args (.bool true) args = true) : rw_.row.toRowW.claim.Ends s args vs s₁ (.ok (.ret (.bool true))) s' := by
  refine .inl ⟨.bool true, rfl, raisesW_false (r := rw_.row.toRowW) allW_false_nil, ⟨.bool true, args, [], as, .bool true, hrd.keepsK fun b o e ho => hK b o (fun z => by rw [z, h0] at e; cases e; exact ho rfl) e, hp,
    fun _ => ⟨.nil, fun a h => (nomatch h), fun a h => (nomatch h)⟩, fun _ _ => ident_freeW (r := rw_.row.toRowW) rfl rfl rfl _ _⟩,
    (fun i hi => by cases hi), (fun b o e _ _ => asWas hK h0 hc ht b o e), fun i hi => by cases hi⟩

theorem law_bare : pw.bare := ⟨rfl, rfl, rfl, rfl, rfl, by decide +kernel⟩

theorem grow_forget {G G' G'' : Array GenState} (hfin : ∀ (i : Nat) (x : GenState), G[i]? = some x → x = .finished) (hg : ∀ (i : Nat) (x : GenState), G[i]? = some x → G''[i]? = some x)
    (hf : G'.map GenState.forget = G''.map GenState.forget) : ∀ (i : Nat) (x : GenState), G[i]? = some x → G'[i]? = some x := by
  intro i x hx
  have h1 := hg i x hx
  have e : (G'.map GenState.forget)[i]? = (G''.map GenState.forget)[i]? := by rw [hf]
  rw [Array.getElem?_map, Array.getElem?_map, h1, hfin i x hx] at e
  rw [hfin i x hx]
  cases h2 : G'[i]? with
  | none => rw [h2] at e; cases e
  | some y =>
    rw [h2] at e
    cases y <;> first | rfl | (cases e)

theorem law_the : pw.theDef (Str.ofString "law") = some (fnP42, fnB42, fnS42) := by kernel_rfl
theorem law_kw : kwWritten? fnP42.kwonlyargs fnP42.kw_defaults = some [] := by kernel_rfl
theorem law_dflt : fnP42.defaults = [] := by kernel_rfl
theorem law_kwd : fnP42.kwonlyargs = [] := by kernel_rfl
theorem kin_get {w : World} {h : Heap} (X : (kfrag w.params).In h) {a : Addr} {o : Obj} (e : (kfrag w.params).lookup a = some o) : h.get? a = some o := X a o e
theorem at262 (P : Params) : (kfrag P).lookup 262 = some (o262_7 P) := by kernel_rfl
theorem at122 (P : Params) : (kfrag P).lookup 122 = some (o122_5 P) := by kernel_rfl
theorem law_name (P : Params) : nsIn (kfrag P) mainGlobals (Str.ofString "law") = some (some (.ref 262)) := by kernel_rfl
theorem kall_at (P : Params) : ∀ a o, (kfrag P).lookup a = some o → (kall P).lookup a = some o := by
  intro a o e
  show (((118, tabObj #[]) :: kfrag P : Frag)).lookup a = some o
  rw [List.lookup_cons]
  by_cases h : a = 118
  · subst h
    have : (kfrag P).lookup 118 = none := by kernel_rfl
    rw [this] at e; cases e
  · have : (a == 118) = false := beq_eq_false_iff_ne.mpr h
    rw [this]; exact e

theorem code_tab {h : Heap} {P : Params} (X : (kfrag P).In h) : isCodeTable h 118 := ⟨122, o122_5 P, _, X _ _ (at122 P), rfl, rfl, rfl⟩

theorem row_holds (k1 : rw_.row.wellSaid = true) (hw : rw_.row.toRowW.promised) (call : WalkM) : rw_.row.Holds := by
  have hch : chainsOk qv = true := by decide +kernel
  refine ⟨k1, hw, ⟨law_bare, by decide +kernel, rfl⟩, hw.witness, fun w => ⟨(left_ok.behind (XP := XT) (fun _ _ => trivial) hch w).1, fun s' hs' => ?_⟩⟩
  obtain ⟨s₀, hf, hg0, s, hT, hz, hgens, hg, G0, y⟩ := (left_ok.behind (XP := XT) (fun _ _ => trivial) hch w).2 s' hs'
  have hXA : (kall w.params).In s.heap := InK.of (K := kall) (as := kadrA) (fun P => by kernel_rfl) w s y
  have hX : (kfrag w.params).In s.heap := fun a o e => hXA a o (kall_at _ a o e)
  have h118 : s.heap.get? 118 = some (tabObj #[]) := hXA 118 _ rfl
  have hfin : ∀ (i : Nat) (x : GenState), s.gens[i]? = some x → x = .finished := fun i x e => by
    have := hT.2.2.2.2.2.2.2.2.2.1 x (Array.mem_of_getElem? e)
    cases x <;> first | rfl | exact this.elim
  have hlaw : s.heap.nsMap mainGlobals (Str.ofString "law") = some (.ref 262) := mg_of hX G0.T.g (law_name _)
  refine ⟨s₀, hf, hg0, s, hT, ?_, fun x hx => (nomatch hx), fun x hx => (nomatch hx), ?_⟩
  · intro n hn
    have hn : n ∈ [Str.ofString "law"] := hn
    rw [List.mem_singleton.mp hn]
    exact ⟨262, _, _, fnP42, fnB42, fnS42, (Pin.globalOf_eq hg _).trans hlaw, kin_get hX (at262 _), rfl, law_the, rfl, rfl, rfl, rfl, rfl, rfl, rfl, rfl,
      .inl ⟨law_dflt, rfl⟩, [], law_kw, .inl ⟨rfl, rfl⟩⟩
  · intro args hpre hlay ord hord
    obtain ⟨⟨vs, s₁⟩, hlaid⟩ := Option.isSome_iff_exists.mp (layAllW_isSome (P := w.params) (ord := ord) G0.has args rw_.row.toRowW.args s (pre_splitW (r := rw_.row.toRowW) hpre).1)
    have keeps := layAllW_keeps _ _ _ hlaid
    have hal := layAllW_rest _ _ _ hlaid
    obtain ⟨as, hrd, hin, _⟩ := reads_layAllW hord _ _ _ hlaid hlay s₁.heap (fun _ _ e => e)
    have T₁ := G0.T.keeps keeps
    have hX₁ := hX.keeps keeps
    have hpost : rw_.row.toRowW.claim.post args (.bool true) args = true := postW_of (r := rw_.row.toRowW) rfl rfl (by decide +kernel)
    have hc := call w s s₁ _ _ T₁ hX₁ (keeps _ _ h118) (fun i x e => hfin i x (by rw [← show s₁.gens = s.gens from hal.1]; exact e)) args vs as hpre hlay hrd
      (well_layAllW hord args s _ hlaid _ fun _ _ e => e) (fun a ha => beq_eq_false_iff_ne.mpr fun e => by have := (hin.2.2 a ha).1; subst e; exact absurd G0.low (Nat.not_lt.mpr this))
    have hz₁ : s₁.asleep := Shared.asleep_of_life hal.2.2.2 hz
    obtain ⟨k, r, s2, s3, hrun, hsched, hfo, ⟨rfl, hgr⟩⟩ := thread_ends_bothG (prog := pw) (w := w) (s := s₁)
      (t := (do match ← nsGet mainNs (Str.ofString "law") with
        | some f => do ret (← PySem.call f vs)
        | none => unsupported "claim.caller:no-such-global"))
      (R := fun r s' => r = .ok (.ret (.bool true)) ∧ Grow s₁ s') hz₁
      (wpAny_bind (wpAny_nsGet T₁.g (by rw [hlaw]; exact wpAny_bind (wpAny_mono hc (fun v s' ⟨e, g⟩ => wpAny_pure ⟨_, rfl, ⟨by rw [e], g⟩, leftWithCleanup_false_of_bare fun x hx => by
        obtain ⟨i, hi⟩ := Array.getElem?_of_mem hx
        rcases g.gens.bare i x hi with q | q
        · rw [hfin i x (by rw [← show s₁.gens = s.gens from hal.1]; exact q)]; rfl
        · exact q⟩) fun e s' h => h.elim))))
    obtain ⟨eh, _, _, eo, eg⟩ := Shared.forget_eq hfo
    have hlife : s2.heap.life = s.heap.life := (runN_life _ _ _ hrun).trans hal.2.2.2
    have hK : ∀ b o, b ≠ 118 → s₁.heap.get? b = some o → s2.heap.get? b = some o := fun b o hb e => by rw [eh]; exact hgr.keep b o hb e
    have ht : ∃ ps, s2.heap.get? 118 = some (tabObj ps) := by rw [eh]; exact hgr.tab
    refine ⟨vs, s₁, hlaid, k, _, s2, hsched, ?_, ?_, ?_, by rw [hlife], ?_⟩
    · rcases ends_true (s := s) hrd hK (keeps _ _ h118) (code_tab hX₁) ht hpost with ⟨v, e, d1, d2, d3, d4, d5⟩ | ⟨e, ob, cls, q, _⟩
      · cases e
        exact .inl ⟨_, rfl, d1, d2, d3, fun b o y _ => d4 b o y, d5⟩
      · cases q
    · intro _ i x hx
      exact grow_forget (G := s₁.gens) (fun i x e => hfin i x (by rw [← show s₁.gens = s.gens from hal.1]; exact e)) hgr.gens.old eg i x (by rw [show s₁.gens = s.gens from hal.1]; exact hx)
    · intro q; cases q
    · exact Shared.rest_eq (eo.trans (hgr.os.trans hal.2.2.1))

theorem law_holds (call : WalkM) : rw_.Holds := by
  o_law
  refine row_holds (by assumption) ?_ call
  w_witness2

/-- the heap without the one code table: what the frames stand on -/
noncomputable def hid (h : Heap) : Heap := hideAll h [118]
theorem hid_get {h : Heap} {b : Addr} {o : Obj} (hb : b ≠ 118) (e : h.get? b = some o) : (hid h).get? b = some o := hideAll_get _ e (by simpa using hb)
theorem of_hid {h : Heap} {b : Addr} {o : Obj} (e : (hid h).get? b = some o) : h.get? b = some o := of_hideAll _ e
theorem hid_118 (h : Heap) : (hid h).get? 118 = none := hideAll_none _ (.head _)
theorem ns_hid {h : Heap} {a : Addr} {m : Str → Option Value} (ha : a ≠ 118) (x : h.Ns a m) : (hid h).Ns a m := x.at' fun o e => hid_get ha e
theorem kin_hid {P : Params} {h : Heap} (X : (kfrag P).In h) : (kfrag P).In (hid h) := fun a o e => hid_get (fun z => by
  subst z
  have : (kfrag P).lookup 118 = none := by kernel_rfl
  rw [this] at e; cases e) (X a o e)
theorem top_hid {mean : ExcName → Option Value} {mg mb : Str → Option Value} {h : Heap} (T : Top qv (looseW qv looseN) mean mg mb h) (h0 : h.get? 118 = some (tabObj #[])) : Top qv (looseW qv looseN) mean mg mb (hid h) where
  g := ns_hid (by decide) T.g
  b := ns_hid (by decide) T.b
  nolimit := let ⟨mc, h1, h2⟩ := T.nolimit; ⟨mc, ns_hid (by decide) h1, h2⟩
  nodigits := let ⟨mc, h1, h2⟩ := T.nodigits; ⟨mc, ns_hid (by decide) h1, h2⟩
  fn := fun d hd => by cases (show d ∈ ([] : List DefRec) from hd)
  own := fun o ho => by cases (show o ∈ ([] : List _) from ho)
  const := T.const
  free := T.free
  builtins := T.builtins
  tab := fun d hd => by cases (show d ∈ ([] : List DefRec) from hd)
  bmain := let ⟨bm, ob, h1, h2, h3, h4, r⟩ := T.bmain; ⟨bm, ob, h1, h2, hid_get (fun z => by rw [z, h0] at h3; cases h3; cases h4) h3, h4, r⟩
  seer := fun hi =>
    let n := T.seer hi
    ⟨let ⟨mc, a, r⟩ := n.statics; ⟨mc, ns_hid (by decide) a, r⟩, let ⟨mc, a, r⟩ := n.mods; ⟨mc, ns_hid (by decide) a, r⟩, let ⟨mc, a, r⟩ := n.imp; ⟨mc, ns_hid (by decide) a, r⟩,
      let ⟨mg, bm, ob, a, b, c, d, r⟩ := n.main; ⟨mg, bm, ob, ns_hid (by decide) a, b, hid_get (fun z => by rw [z, h0] at c; cases c; cases d) c, d, r⟩⟩
end
-- JxBase
section
noncomputable abbrev ctxTop (mean : ExcName → Option Value) (mg mb : Str → Option Value) (h₀ : Heap) : Prop := Top qv (looseW qv looseN) mean mg mb h₀

/-- what a caller must bring -/
structure At (w : World) (d : Nat) (mean : ExcName → Option Value) (mg mb : Str → Option Value) (dp un : Nat) (cs : Scope) (outer : List Env) (A₀ : Around) (base h₀ : Heap) (L : Addr) (m : Str → Option Value) (news : List (Addr × Obj)) (h : Heap) : Prop where
  B : Below A₀ base outer h₀
  F : Fr h₀ L h m
  X : (kfrag w.params).In h₀
  N : News h₀ L h news
  T : ctxTop mean mg mb h₀
  k : cs.kind = .function
  dep : dp + d < recursionLimit
  uni : un + 8 * d < cLine

/-- a call that comes back with a value of R; the ledger stands -/
noncomputable abbrev Tell (d : Nat) (w : World) (f : Addr) (vs : List Value) (R : Value → Prop) : Prop :=
  ∀ (mean : ExcName → Option Value) (mg mb : Str → Option Value) (dp un : Nat) (gd : Option (List Code)) (cn : Str) (cs : Scope) (a : Addr) (ccd : Value) (cl : List (Str × Addr)) (outer : List Env) (A₀ : Around) (base h₀ : Heap) (L : Addr) (m : Str → Option Value) (news : List (Addr × Obj)) (s : Shared) (Q E : Value → Shared → Prop),
    At w d mean mg mb dp un cs outer A₀ base h₀ L m news s.heap →
    (∀ v h' g' tk', R v → Fr h₀ L h' m → News h₀ L h' news → GG s.gens g' → Q v { s with heap := h', gens := g', toks := tk' }) →
    wpAny (model rw_.prog w) (ktrTop dp un gd cn cs L a ccd cl outer) (call (.ref f) vs) Q E s

/-- a call that raises an exception of the class -/
noncomputable abbrev Raises (d : Nat) (w : World) (f : Addr) (vs : List Value) (cls : Value) : Prop :=
  ∀ (mean : ExcName → Option Value) (mg mb : Str → Option Value) (dp un : Nat) (gd : Option (List Code)) (cn : Str) (cs : Scope) (a : Addr) (ccd : Value) (cl : List (Str × Addr)) (outer : List Env) (A₀ : Around) (base h₀ : Heap) (L : Addr) (m : Str → Option Value) (news : List (Addr × Obj)) (s : Shared) (Q E : Value → Shared → Prop),
    At w d mean mg mb dp un cs outer A₀ base h₀ L m news s.heap →
    (∀ e t xs h₁ h' g' tk', Fr h₀ L h₁ m → h₁.UpToSlots h' → RaisedK base (envX cn cs L a ccd cl :: outer) e cls t xs news h' → GG s.gens g' → E (.ref e) { s with heap := h', gens := g', toks := tk' }) →
    wpAny (model rw_.prog w) (ktrTop dp un gd cn cs L a ccd cl outer) (call (.ref f) vs) Q E s

/-- a call that comes back with a value (and new objects) of R, or raises a class of X, or (XN) an AssertionError -/
noncomputable abbrev Does (d : Nat) (w : World) (f : Addr) (vs : List Value) (R : Value → List (Addr × Obj) → Prop) (X : Value → Prop) (XN : Prop) : Prop :=
  ∀ (mean : ExcName → Option Value) (mg mb : Str → Option Value) (dp un : Nat) (gd : Option (List Code)) (cn : Str) (cs : Scope) (a : Addr) (ccd : Value) (cl : List (Str × Addr)) (outer : List Env) (A₀ : Around) (base h₀ : Heap) (L : Addr) (m : Str → Option Value) (news : List (Addr × Obj)) (s : Shared) (Q E : Value → Shared → Prop),
    At w d mean mg mb dp un cs outer A₀ base h₀ L m news s.heap →
    (∀ v ex h' g' tk', R v ex → Fr h₀ L h' m → News h₀ L h' (ex ++ news) → GG s.gens g' → Q v { s with heap := h', gens := g', toks := tk' }) →
    (∀ e t xs cls h₁ h' g' tk', X cls → Fr h₀ L h₁ m → h₁.UpToSlots h' → RaisedK base (envX cn cs L a ccd cl :: outer) e cls t xs news h' → GG s.gens g' → E (.ref e) { s with heap := h', gens := g', toks := tk' }) →
    (∀ e h₁ h' g' tk', XN → Fr h₀ L h₁ m → h₁.UpToSlots h' → RaisedN base (envX cn cs L a ccd cl :: outer) e (.type "AssertionError") news h' → GG s.gens g' → E (.ref e) { s with heap := h', gens := g', toks := tk' }) →
    wpAny (model rw_.prog w) (ktrTop dp un gd cn cs L a ccd cl outer) (call (.ref f) vs) Q E s

/-- the walk behind a call that came back with v; behind one that raised -/
noncomputable abbrev RetOk (h₀ : Heap) (L : Addr) (m : Str → Option Value) (news : List (Addr × Obj)) (s : Shared) (Q : Value → Shared → Prop) (v : Value) : Prop :=
  ∀ h' g' tk', Fr h₀ L h' m → News h₀ L h' news → GG s.gens g' → Q v { s with heap := h', gens := g', toks := tk' }
noncomputable abbrev FlyOk (base : Heap) (l : List Env) (h₀ : Heap) (L : Addr) (m : Str → Option Value) (news : List (Addr × Obj)) (s : Shared) (E : Value → Shared → Prop) (cls : Value) : Prop :=
  ∀ e t xs h₁ h' g' tk', Fr h₀ L h₁ m → h₁.UpToSlots h' → RaisedK base l e cls t xs news h' → GG s.gens g' → E (.ref e) { s with heap := h', gens := g', toks := tk' }
noncomputable abbrev FlyOkN (base : Heap) (l : List Env) (h₀ : Heap) (L : Addr) (m : Str → Option Value) (news : List (Addr × Obj)) (s : Shared) (E : Value → Shared → Prop) : Prop :=
  ∀ e h₁ h' g' tk', Fr h₀ L h₁ m → h₁.UpToSlots h' → RaisedN base l e (.type "AssertionError") news h' → GG s.gens g' → E (.ref e) { s with heap := h', gens := g', toks := tk' }

section
variable {d : Nat} {w : World} {f : Addr} {vs : List Value} {R : Value → Prop} {cls : Value} {mean : ExcName → Option Value} {mg mb : Str → Option Value} {dp un : Nat} {gd : Option (List Code)} {cn : Str} {cs : Scope} {a : Addr} {ccd : Value} {cl : List (Str × Addr)} {outer : List Env} {A₀ : Around} {base h₀ : Heap} {L : Addr} {m : Str → Option Value} {news : List (Addr × Obj)} {s : Shared} {Q E : Value → Shared → Prop}
theorem Tell.use (C : Tell d w f vs R) (B : Below A₀ base outer h₀) (F : Fr h₀ L s.heap m) (X : (kfrag w.params).In h₀) (N : News h₀ L s.heap news) (T : ctxTop mean mg mb h₀) (hk : cs.kind = .function) (hd : dp + d < recursionLimit) (hu : un + 8 * d < cLine)
    (ret : ∀ v h' g' tk', R v → Fr h₀ L h' m → News h₀ L h' news → GG s.gens g' → Q v { s with heap := h', gens := g', toks := tk' }) :
    wpAny (model rw_.prog w) (ktrTop dp un gd cn cs L a ccd cl outer) (call (.ref f) vs) Q E s := by
  refine C mean mg mb dp un gd cn cs a ccd cl outer A₀ base h₀ L m news s Q E ⟨B, F, X, N, T, hk, hd, hu⟩ ?_
  exact ret
theorem Raises.use (C : Raises d w f vs cls) (B : Below A₀ base outer h₀) (F : Fr h₀ L s.heap m) (X : (kfrag w.params).In h₀) (N : News h₀ L s.heap news) (T : ctxTop mean mg mb h₀) (hk : cs.kind = .function) (hd : dp + d < recursionLimit) (hu : un + 8 * d < cLine)
    (ret : ∀ e t xs h₁ h' g' tk', Fr h₀ L h₁ m → h₁.UpToSlots h' → RaisedK base (envX cn cs L a ccd cl :: outer) e cls t xs news h' → GG s.gens g' → E (.ref e) { s with heap := h', gens := g', toks := tk' }) :
    wpAny (model rw_.prog w) (ktrTop dp un gd cn cs L a ccd cl outer) (call (.ref f) vs) Q E s := by
  refine C mean mg mb dp un gd cn cs a ccd cl outer A₀ base h₀ L m news s Q E ⟨B, F, X, N, T, hk, hd, hu⟩ ?_
  exact ret
theorem Does.use {RR : Value → List (Addr × Obj) → Prop} {XX : Value → Prop} {XN : Prop} (C : Does d w f vs RR XX XN) (B : Below A₀ base outer h₀) (F : Fr h₀ L s.heap m) (X : (kfrag w.params).In h₀) (N : News h₀ L s.heap news) (T : ctxTop mean mg mb h₀) (hk : cs.kind = .function) (hd : dp + d < recursionLimit) (hu : un + 8 * d < cLine)
    (ret : ∀ v ex h' g' tk', RR v ex → Fr h₀ L h' m → News h₀ L h' (ex ++ news) → GG s.gens g' → Q v { s with heap := h', gens := g', toks := tk' })
    (fly : ∀ e t xs cls h₁ h' g' tk', XX cls → Fr h₀ L h₁ m → h₁.UpToSlots h' → RaisedK base (envX cn cs L a ccd cl :: outer) e cls t xs news h' → GG s.gens g' → E (.ref e) { s with heap := h', gens := g', toks := tk' })
    (flyN : ∀ e h₁ h' g' tk', XN → Fr h₀ L h₁ m → h₁.UpToSlots h' → RaisedN base (envX cn cs L a ccd cl :: outer) e (.type "AssertionError") news h' → GG s.gens g' → E (.ref e) { s with heap := h', gens := g', toks := tk' }) :
    wpAny (model rw_.prog w) (ktrTop dp un gd cn cs L a ccd cl outer) (call (.ref f) vs) Q E s := by
  refine C mean mg mb dp un gd cn cs a ccd cl outer A₀ base h₀ L m news s Q E ⟨B, F, X, N, T, hk, hd, hu⟩ ?_ ?_ ?_
  · exact ret
  · exact fly
  · exact flyN
end
end
-- JxRules
section
theorem jxRules_rows1 : True := by
  k_with_none
  (k_with "jx gg" => first | exact GG.refl _ | assumption | (refine GG.trans ?_ (by assumption); walk_at "jx gg"))
  (k_with "jx asks" => ((case k1 => k_asm); (case k2 => k_asm); (case k3 => k_asm); (case k4 => k_asm); (case k5 => k_asm); (case k6 => first | exact rfl | assumption); (case k7 => ktr_room); (case k8 => ktr_units)))
  (k_with "jx ne" => first | assumption | exact List.forall_mem_nil _ | (refine List.forall_mem_cons.mpr ⟨(by first | assumption | exact fun p9 z9 => absurd (congrArg Obj.cls z9) (by intro y9; cases y9) | exact notTab_cell (by assumption)), ?_⟩; walk_at "jx ne"))
  (k_with "jx backP" => (intro v9 ps9 h9 g9 tk9 R9 t9P F9 N9 G9; (first | (obtain ⟨t9, e9⟩ := R9; subst e9) | subst R9); (try dsimp only); (try k_sweep); (try k_fold)))
  (k_with "jx back" => (intro v9 h9 g9 tk9 R9 F9 N9 G9; (first | (obtain ⟨t9, e9⟩ := R9; subst e9) | subst R9); (try dsimp only); (try k_sweep); (try k_fold)))
  (k_with "jx back0" => (intro v9 h9 tk9 R9 F9 N9; (first | (obtain ⟨t9, e9⟩ := R9; subst e9) | subst R9); (try dsimp only); (try k_sweep); (try k_fold)))
  (k_with "jx dive" => skip)
  (k_with "jx fly0" => (intro e9 t9 xs9 h19 h9 tk9 F9 U9 R9; (try dsimp only); walk_at "jx dive"; (try k_fold)))
  (k_with "jx flyN" => (intro e9 h19 h9 g9 tk9 F9 U9 R9 G9; (try dsimp only); walk_at "jx diveN"; (try k_fold)))
  (k_with "jx diveN" => skip)
  (k_with "jx fly" => (intro e9 t9 xs9 h19 h9 g9 tk9 F9 U9 R9 G9; (try dsimp only); walk_at "jx dive"; (try k_fold)))
  (k_with "jx dec" => first | assumption | decide | (simp only [List.size_toArray, List.length_append, List.length_cons, List.length_nil, bne_iff_ne, ne_eq, beq_iff_eq, Bool.not_eq_true, Decidable.not_not, decide_eq_true_eq, decide_eq_false_iff_not, Bool.not_true, Bool.not_false, reduceCtorEq, not_false_eq_true, not_true_eq_false]; done) | (simp only [List.size_toArray, List.length_append, List.length_cons, List.length_nil, bne_iff_ne, ne_eq, beq_iff_eq, Bool.not_eq_true, Decidable.not_not, decide_eq_true_eq, decide_eq_false_iff_not]; omega))
  (k_with "ite" => (k_here; first | rw [if_pos (by walk_at "jx dec")] | rw [if_neg (by walk_at "jx dec")]))
  exact trivial
open Builtin in
theorem slot_type_repr : Slot "type" "__repr__" "type.__repr__" :=
  .of (owner := "type") (n := "__repr__") (by rw [typeLookup_type, builtinLookup_eq_fast]; kernel_rfl) (by decide +kernel) (by decide +kernel) (by decide +kernel)
    (by first | exact .inl (by decide +kernel) | exact .inr (by decide +kernel)) (by rw [isSubtype_type]; kernel_rfl)
theorem owner_type_ : Manifest.owners.lookup (String.ofList ['e', 'p', 'y', 't'].reverse) = some Manifest.sig_type := by kernel_rfl
theorem entry_type_repr : entryFor table "type.__repr__" = some Builtin.«type.__repr__» := entryFor_of_tree (by kernel_rfl)
theorem args_type_repr (a : Value) : argsOk "type.__repr__" ⟨[a], []⟩ := by
  unfold argsOk; rw [signature?_of (id := "type.__repr__") (n := ['_', '_', 'r', 'p', 'e', 'r', '_', '_']) (o := ['e', 'p', 'y', 't']) (by kernel_rfl) owner_type_]; kernel_rfl
theorem gives_type_repr : Gives (Builtin.«type.__repr__» ⟨[.type "str"], []⟩) (.str (Str.ofString "<class 'str'>")) := .of_eq rfl
theorem repr_str_type {prog : Program} {w : World} {A : Around} {E : Value → Shared → Prop} {s : Shared} {Q : Value → Shared → Prop} (h : Q (.str (Str.ofString "<class 'str'>") s.toks) { s with toks := s.toks + 1 }) :
    wpAny (model prog w) A (pyReprObj (.type "str")) Q E s :=
  wpAny_pyReprObj_gives (show s.TypeIs (.type "str") "type" from meta_str) slot_type_repr entry_type_repr (args_type_repr _) gives_type_repr h

/-- a cut of a row by Python's two bounds -/
noncomputable def cut {α : Type} (x : List α) (lo hi : Option Int) : List α :=
  (x.drop (lo.elim 0 (clipAt x.length))).take (hi.elim x.length (clipAt x.length) - lo.elim 0 (clipAt x.length))
theorem cut_length_le {α : Type} (x : List α) (lo hi : Option Int) : (cut x lo hi).length ≤ x.length := by
  unfold cut; rw [List.length_take, List.length_drop]; omega
theorem clipAt_ofNat (n k : Nat) : clipAt n (k : Int) = min k n := clipAt_nat n k
theorem clipAt_neg (n k : Nat) (hk : 0 < k) : clipAt n (-(k : Int)) = n - k := by
  unfold clipAt; rw [if_pos (by omega)]; omega
theorem cut_from {α : Type} (x : List α) (k : Nat) : cut x (some (k : Int)) none = x.drop k := by
  unfold cut
  simp only [Option.elim, clipAt_ofNat]
  by_cases h : k ≤ x.length
  · rw [Nat.min_eq_left h, List.take_of_length_le (by rw [List.length_drop]; omega)]
  · rw [Nat.min_eq_right (by omega), List.drop_eq_nil_of_le (Nat.le_refl _), List.drop_eq_nil_of_le (by omega), List.take_nil]
theorem cut_to {α : Type} (x : List α) (k : Nat) : cut x none (some (k : Int)) = x.take k := by
  unfold cut
  simp only [Option.elim, clipAt_ofNat, List.drop_zero, Nat.sub_zero]
  by_cases h : k ≤ x.length
  · rw [Nat.min_eq_left h]
  · rw [Nat.min_eq_right (by omega), List.take_of_length_le (Nat.le_refl _), List.take_of_length_le (by omega)]
theorem cut_mid {α : Type} (x : List α) (i j : Nat) : cut x (some (i : Int)) (some (j : Int)) = (x.drop i).take (j - i) := by
  unfold cut
  simp only [Option.elim, clipAt_ofNat]
  by_cases h : i ≤ x.length
  · rw [Nat.min_eq_left h]
    by_cases h2 : j ≤ x.length
    · rw [Nat.min_eq_left h2]
    · rw [Nat.min_eq_right (by omega), List.take_of_length_le (l := x.drop i) (i := x.length - i) (by rw [List.length_drop]; omega), List.take_of_length_le (by rw [List.length_drop]; omega)]
  · rw [Nat.min_eq_right (show x.length ≤ i by omega), List.drop_eq_nil_of_le (Nat.le_refl _), List.drop_eq_nil_of_le (show x.length ≤ i by omega)]; simp
theorem cut_last {α : Type} (x : List α) (k : Nat) (hk : 0 < k) : cut x (some (-(k : Int))) none = x.drop (x.length - k) := by
  unfold cut
  simp only [Option.elim, clipAt_neg _ _ hk]
  rw [List.take_of_length_le (by rw [List.length_drop]; omega)]
theorem cut_but {α : Type} (x : List α) (i k : Nat) (hk : 0 < k) : cut x (some (i : Int)) (some (-(k : Int))) = (x.take (x.length - k)).drop i := by
  unfold cut
  simp only [Option.elim, clipAt_ofNat, clipAt_neg _ _ hk]
  by_cases hi : i ≤ x.length
  · rw [Nat.min_eq_left hi, List.drop_take]
  · rw [Nat.min_eq_right (show x.length ≤ i by omega), List.drop_eq_nil_of_le (Nat.le_refl _), List.take_nil, List.drop_eq_nil_of_le (by rw [List.length_take]; omega)]
theorem cut_all {α : Type} (x : List α) : cut x none none = x := by
  unfold cut
  simp only [Option.elim, List.drop_zero, Nat.sub_zero, List.take_length]
theorem cutL_from {α : Type} (x : List α) (k : Nat) : cut x (some (@OfNat.ofNat Int k instOfNat)) none = x.drop k := cut_from x k
theorem cutL_to {α : Type} (x : List α) (k : Nat) : cut x none (some (@OfNat.ofNat Int k instOfNat)) = x.take k := cut_to x k
theorem cutL_mid {α : Type} (x : List α) (i j : Nat) : cut x (some (@OfNat.ofNat Int i instOfNat)) (some (@OfNat.ofNat Int j instOfNat)) = (x.drop i).take (j - i) := cut_mid x i j
theorem cutL_last {α : Type} (x : List α) (k : Nat) (hk : 0 < k) : cut x (some (-(@OfNat.ofNat Int k instOfNat))) none = x.drop (x.length - k) := cut_last x k hk
theorem cutL_but {α : Type} (x : List α) (i k : Nat) (hk : 0 < k) : cut x (some (@OfNat.ofNat Int i instOfNat)) (some (-(@OfNat.ofNat Int k instOfNat))) = (x.take (x.length - k)).drop i := cut_but x i k hk

section
variable {prog : Program} {w : World} {A : Around} {E : Value → Shared → Prop} {s : Shared} {value slice : PySem.Expr} {a b : List UInt8} {t u : Tok} {h₀ : Heap} {L : Addr} {m : PySem.Str → Option Value} {news : List (Addr × Obj)} {l v : Value} {lo hi : Option Int} {Q : Value → Shared → Prop}
theorem jb_add (hsz : a.length + b.length ≤ 16777216) (h : ∀ t' k, Q (.bytes (a ++ b).toArray t') { s with toks := k }) : wpAny (model prog w) A (binaryOp .Add (.bytes a.toArray t) (.bytes b.toArray u)) Q E s :=
  KBy.add_bytes (by simpa using hsz) fun t' k => by have := h t' k; rw [show a.toArray ++ b.toArray = (a ++ b).toArray by simp]; exact this
theorem picked_cut (x : List UInt8) (lo hi : Option Int) : KBy.picked x.toArray lo hi = (cut x lo hi).toArray := by
  rw [KBc.picked_eq]; simp only [List.size_toArray]; rfl
theorem jb_slice {r : List UInt8} (hF : Fr h₀ L s.heap m) (hN : News h₀ L s.heap news) (hl : IsPart l lo) (hu : IsPart v hi) (hz : a.length ≤ 16777216) (e : cut a lo hi = r)
    (h : ∀ h' t' k, Fr h₀ L h' m → News h₀ L h' news → Q (.bytes r.toArray t') { s with heap := h', toks := k })
    (hs : subscripted slice false (.bytes a.toArray t) (.ref s.heap.objs.size) = operate [.ref s.heap.objs.size, .bytes a.toArray t] (getItem (.bytes a.toArray t) (.ref s.heap.objs.size)) := by with_unfolding_all rfl)
    (ht : ∀ r, letTemporaryGo value (.bytes a.toArray t) r = pure () := by intro _; with_unfolding_all rfl) :
    wpAny (model prog w) A (subscriptTail value slice (.bytes a.toArray t) (.ref s.heap.objs.size)) Q E { s with heap := s.heap.push { cls := .type "slice", data := .fields #[l, v, .none] } } :=
  KBc.slice_K hF hN rfl hl hu (by rw [KBw.ints_length]; simpa using hz) (fun h' t' k F N _ => by rw [picked_cut, e]; exact h h' t' k F N) hs ht
end
section
variable {prog : Program} {w : World} {A : Around} {E : Value → Shared → Prop} {s : Shared} {a b : List UInt8} {t u : Tok} {Q : Value → Shared → Prop}
theorem jb_len (hfit : a.length ≤ 16777216) (h : ∀ t' k, Q (.int (a.length : Int) t') { s with toks := k }) : wpAny (model prog w) A (call (.builtin "len") [.bytes a.toArray t]) Q E s :=
  len_bytes (by simp only [List.size_toArray]; omega) (by simp only [List.size_toArray]; exact h _ _)
theorem jb_eq (h : Q (.bool (a == b)) s) : wpAny (model prog w) A (compareOp .Eq (.bytes a.toArray t) (.bytes b.toArray u)) Q E s := eq_bytes h
theorem jb_ne (h : Q (.bool (a != b)) s) : wpAny (model prog w) A (compareOp .NotEq (.bytes a.toArray t) (.bytes b.toArray u)) Q E s := ne_bytes h
end
end
-- JxPure
section
theorem jxPure_rows1 : True := by
  k_with_none
  (k_with "jx gg" => first | exact GG.refl _ | assumption | (refine GG.trans ?_ (by assumption); walk_at "jx gg"))
  (k_with "jx asks" => ((case k1 => k_asm); (case k2 => k_asm); (case k3 => k_asm); (case k4 => k_asm); (case k5 => k_asm); (case k6 => first | exact rfl | assumption); (case k7 => ktr_room); (case k8 => ktr_units)))
  (k_with "jx ne" => first | assumption | exact List.forall_mem_nil _ | (refine List.forall_mem_cons.mpr ⟨(by first | assumption | exact fun p9 z9 => absurd (congrArg Obj.cls z9) (by intro y9; cases y9) | exact notTab_cell (by assumption)), ?_⟩; walk_at "jx ne"))
  (k_with "jx backP" => (intro v9 ps9 h9 g9 tk9 R9 t9P F9 N9 G9; (first | (obtain ⟨t9, e9⟩ := R9; subst e9) | subst R9); (try dsimp only); (try k_sweep); (try k_fold)))
  (k_with "jx back" => (intro v9 h9 g9 tk9 R9 F9 N9 G9; (first | (obtain ⟨t9, e9⟩ := R9; subst e9) | subst R9); (try dsimp only); (try k_sweep); (try k_fold)))
  (k_with "jx back0" => (intro v9 h9 tk9 R9 F9 N9; (first | (obtain ⟨t9, e9⟩ := R9; subst e9) | subst R9); (try dsimp only); (try k_sweep); (try k_fold)))
  (k_with "jx dive" => skip)
  (k_with "jx fly0" => (intro e9 t9 xs9 h19 h9 tk9 F9 U9 R9; (try dsimp only); walk_at "jx dive"; (try k_fold)))
  (k_with "jx flyN" => (intro e9 h19 h9 g9 tk9 F9 U9 R9 G9; (try dsimp only); walk_at "jx diveN"; (try k_fold)))
  (k_with "jx diveN" => skip)
  (k_with "jx fly" => (intro e9 t9 xs9 h19 h9 g9 tk9 F9 U9 R9 G9; (try dsimp only); walk_at "jx dive"; (try k_fold)))
  (k_with "jx dec" => first | assumption | decide | (simp only [List.size_toArray, List.length_append, List.length_cons, List.length_nil, bne_iff_ne, ne_eq, beq_iff_eq, Bool.not_eq_true, Decidable.not_not, decide_eq_true_eq, decide_eq_false_iff_not, Bool.not_true, Bool.not_false, reduceCtorEq, not_false_eq_true, not_true_eq_false]; done) | (simp only [List.size_toArray, List.length_append, List.length_cons, List.length_nil, bne_iff_ne, ne_eq, beq_iff_eq, Bool.not_eq_true, Decidable.not_not, decide_eq_true_eq, decide_eq_false_iff_not]; omega))
  (k_with "ite" => (k_here; first | rw [if_pos (by walk_at "jx dec")] | rw [if_neg (by walk_at "jx dec")]))
  exact trivial
noncomputable def bitsOf (c : UInt8) : List UInt8 := (List.range 8).map fun k => UInt8.ofNat (c.toNat / 2 ^ (7 - k) % 2)
noncomputable def bitsAll (l : List UInt8) : List UInt8 := l.flatMap bitsOf
noncomputable def num (l : List UInt8) : Nat := l.foldl (fun n b => n * 2 + b.toNat) 0
noncomputable def parts (l : List UInt8) : List (List UInt8) := (List.range ((l.length + 7) / 8)).map fun i => (l.drop (8 * i)).take 8
noncomputable def unbits (l : List UInt8) : List UInt8 := (parts l).map fun c => UInt8.ofNat (num c)
noncomputable def IsBits (l : List UInt8) : Prop := ∀ b ∈ l, b = 0 ∨ b = 1
noncomputable def twoBits (n : Nat) : List UInt8 := [UInt8.ofNat (n / 2 % 2), UInt8.ofNat (n % 2)]
noncomputable def padded (row : List UInt8) : List UInt8 := List.replicate ((4 - row.length % 4) % 4) 0 ++ row
/-- encode_from_bin_keypath -/
noncomputable def enc (row : List UInt8) : List UInt8 :=
  if (padded row).length % 8 = 4 then unbits ([0, 0] ++ twoBits (row.length % 4) ++ padded row) else unbits ([1, 0, 0, 0, 0, 0] ++ twoBits (row.length % 4) ++ padded row)
/-- decode_to_bin_keypath: none where the assertion fails -/
noncomputable def dec (o : List UInt8) : Option (List UInt8) :=
  let p := bitsAll o
  let p := if p.getD 0 0 = 1 then p.drop 4 else p
  if p.take 2 = [0, 0] then some (p.drop (4 + (4 - (2 * (p.getD 2 0).toNat + (p.getD 3 0).toNat)) % 4)) else none
inductive PR where
  | kv (p c : List UInt8)
  | br (a b : List UInt8)
  | leaf (v : List UInt8)
  | node
  | path
noncomputable def parseR (o : List UInt8) : PR :=
  if o = [] then .node
  else if (o.getD 0 0).toNat = 1 then (if o.length = 65 then .br ((o.drop 1).take 32) (o.drop 33) else .node)
  else if (o.getD 0 0).toNat = 0 then (if o.length ≤ 33 then .node else match dec ((o.take (o.length - 32)).drop 1) with
    | none => .path
    | some p => .kv p (o.drop (o.length - 32)))
  else if (o.getD 0 0).toNat = 2 then (if o.length = 1 then .node else .leaf (o.drop 1))
  else .node
noncomputable def tup3 (a b c : Value) : Obj := { cls := .type "tuple", data := .seq #[a, b, c] }
/-- what parse_node hands back -/
noncomputable def Parsed (r : PR) (v : Value) (ex : List (Addr × Obj)) : Prop := match r with
  | .kv p c => ∃ (a : Addr) (t1 t2 t3 : Tok), v = .ref a ∧ ex = [(a, tup3 (.int 0 t1) (.bytes p.toArray t2) (.bytes c.toArray t3))]
  | .br p c => ∃ (a : Addr) (t1 t2 t3 : Tok), v = .ref a ∧ ex = [(a, tup3 (.int 1 t1) (.bytes p.toArray t2) (.bytes c.toArray t3))]
  | .leaf c => ∃ (a : Addr) (t1 t3 : Tok), v = .ref a ∧ ex = [(a, tup3 (.int 2 t1) .none (.bytes c.toArray t3))]
  | _ => False
/-- what _law_parsed and _law_due hand back -/
noncomputable def Said (r : PR) (v : Value) (ex : List (Addr × Obj)) : Prop := match r with
  | .node => ∃ t : Tok, v = .str (Str.ofString "no node") t ∧ ex = []
  | .path => ∃ t : Tok, v = .str (Str.ofString "no path") t ∧ ex = []
  | r => Parsed r v ex
noncomputable def decV (r : Option (List UInt8)) (v : Value) : Prop := match r with
  | none => v = .none
  | some p => ∃ t : Tok, v = .bytes p.toArray t
end
-- JxEntry
section
theorem jxEntry_rows1 : True := by
  k_with_none
  (k_with "jx gg" => first | exact GG.refl _ | assumption | (refine GG.trans ?_ (by assumption); walk_at "jx gg"))
  (k_with "jx asks" => ((case k1 => k_asm); (case k2 => k_asm); (case k3 => k_asm); (case k4 => k_asm); (case k5 => k_asm); (case k6 => first | exact rfl | assumption); (case k7 => ktr_room); (case k8 => ktr_units)))
  (k_with "jx ne" => first | assumption | exact List.forall_mem_nil _ | (refine List.forall_mem_cons.mpr ⟨(by first | assumption | exact fun p9 z9 => absurd (congrArg Obj.cls z9) (by intro y9; cases y9) | exact notTab_cell (by assumption)), ?_⟩; walk_at "jx ne"))
  (k_with "jx backP" => (intro v9 ps9 h9 g9 tk9 R9 t9P F9 N9 G9; (first | (obtain ⟨t9, e9⟩ := R9; subst e9) | subst R9); (try dsimp only); (try k_sweep); (try k_fold)))
  (k_with "jx back" => (intro v9 h9 g9 tk9 R9 F9 N9 G9; (first | (obtain ⟨t9, e9⟩ := R9; subst e9) | subst R9); (try dsimp only); (try k_sweep); (try k_fold)))
  (k_with "jx back0" => (intro v9 h9 tk9 R9 F9 N9; (first | (obtain ⟨t9, e9⟩ := R9; subst e9) | subst R9); (try dsimp only); (try k_sweep); (try k_fold)))
  (k_with "jx dive" => skip)
  (k_with "jx fly0" => (intro e9 t9 xs9 h19 h9 tk9 F9 U9 R9; (try dsimp only); walk_at "jx dive"; (try k_fold)))
  (k_with "jx flyN" => (intro e9 h19 h9 g9 tk9 F9 U9 R9 G9; (try dsimp only); walk_at "jx diveN"; (try k_fold)))
  (k_with "jx diveN" => skip)
  (k_with "jx fly" => (intro e9 t9 xs9 h19 h9 g9 tk9 F9 U9 R9 G9; (try dsimp only); walk_at "jx dive"; (try k_fold)))
  (k_with "jx dec" => first | assumption | decide | (simp only [List.size_toArray, List.length_append, List.length_cons, List.length_nil, bne_iff_ne, ne_eq, beq_iff_eq, Bool.not_eq_true, Decidable.not_not, decide_eq_true_eq, decide_eq_false_iff_not, Bool.not_true, Bool.not_false, reduceCtorEq, not_false_eq_true, not_true_eq_false]; done) | (simp only [List.size_toArray, List.length_append, List.length_cons, List.length_nil, bne_iff_ne, ne_eq, beq_iff_eq, Bool.not_eq_true, Decidable.not_not, decide_eq_true_eq, decide_eq_false_iff_not]; omega))
  (k_with "ite" => (k_here; first | rw [if_pos (by walk_at "jx dec")] | rw [if_neg (by walk_at "jx dec")]))
  exact trivial
theorem jxEntry_rows2 : True := by
  (k_with "jx cut" => with_reducible first | exact cutL_from _ _ | exact cutL_to _ _ | exact cutL_mid _ _ _ | exact cutL_last _ _ (by decide) | exact cutL_but _ _ _ (by decide) | exact cut_all _ | exact cut_from _ _ | exact cut_to _ _ | exact cut_mid _ _ _)
  (k_with "jx len" => first | omega | (simp only [List.length_append, List.length_cons, List.length_nil, List.length_take, List.length_drop, List.length_replicate, List.length_map, List.length_reverse]; omega))
  (k_with "binaryOp Add bytes bytes" => (k_here; (with_reducible show wpAny _ _ (binaryOp Operator.Add (Value.bytes (List.toArray _) _) (Value.bytes (List.toArray _) _)) _ _ _); (refine jb_add (by walk_at "jx len") ?_); intro _ _))
  (k_with "call builtin:len" => (k_here; (with_reducible show wpAny _ _ (call (Value.builtin "len") [Value.bytes (List.toArray _) _]) _ _ _); (refine jb_len (by walk_at "jx len") ?_); intro _ _))
  (k_with "compareOp Eq bytes bytes" => refine jb_eq ?_)
  (k_with "compareOp NotEq bytes bytes" => refine jb_ne ?_)
  (k_with "subscriptTail" => (k_here; (with_reducible show wpAny _ _ (subscriptTail _ (Expr.Slice _ _ none _) (Value.bytes (List.toArray _) _) (Value.ref _)) _ _ _); (with_reducible rename Fr _ _ _ _ => F'); (with_reducible rename News _ _ _ _ => N'); (refine jb_slice (s := ⟨_, _, _, _, _⟩) F' N' (by constructor) (by constructor) (by walk_at "jx len") (by walk_at "jx cut") ?_); intro _ _ _ _ _))
  (k_with "subscriptTail" => (k_here; (with_reducible show wpAny _ _ (subscriptTail _ _ (Value.bytes (List.toArray _) _) (Value.int _ _)) _ _ _); (refine KBy.item_N (by walk_at "jx len") (by walk_at "jx len") (by walk_at "jx len") ?_)))
  (k_with "eval Constant int" => (k_here; refine wpAny_Constant_int ?_; (try dsimp only)))
  exact trivial
theorem law_in (w : World) (s₁ : Shared) (mg mb : Str → Option Value) (mean : ExcName → Option Value) (T : Top qv (looseW qv looseN) mean mg mb s₁.heap) (X : (kfrag w.params).In s₁.heap) (h0 : s₁.heap.get? 118 = some (tabObj #[]))
    {l : Addr} {vs : List Value} {ns : List Int} (hl : s₁.heap.IsList l vs.toArray) (hi : IntsAre vs ns) (hz : ns.length ≤ 63) {R : Result → Shared → Prop}
    (go : ∀ h₁ tk oR oO, Fr (hid s₁.heap) s₁.heap.objs.size h₁ (bindL (envOfC (Str.ofString "law") fnS42 s₁.heap.objs.size 262 (.ref 261)).kindOf [(Str.ofString "script", .ref l)] fun _ => none) →
      News (hid s₁.heap) s₁.heap.objs.size h₁ [(118, tabObj #[]), (s₁.heap.objs.size + 1 + 1, oO), (s₁.heap.objs.size + 1, oR)] → oR.data = .cell none → oO.data = .cell none →
      wpAny (model rw_.prog w) (callerA.deeper (envOfC (Str.ofString "law") fnS42 s₁.heap.objs.size 262 (.ref 261))) (execs fnB42 (envOfC (Str.ofString "law") fnS42 s₁.heap.objs.size 262 (.ref 261)))
        (fun f s' => R (.ok (.ret (match f with | .ret v => v | _ => .none))) s')
        (fun e s' => wpAny (model rw_.prog w) (callerA.deeper (envOfC (Str.ofString "law") fnS42 s₁.heap.objs.size 262 (.ref 261))) (leaving (envOfC (Str.ofString "law") fnS42 s₁.heap.objs.size 262 (.ref 261)) e)
          (fun _ s'' => R (.error e) s'') (fun e' s'' => R (.error e') s'') s')
        { s₁ with heap := h₁, toks := tk }) :
    codeAny (model rw_.prog w) callerA (.call (.ref 262) ⟨[.ref l], []⟩) R s₁ := by
  refine call_cellsN (name := Str.ofString "law") (params := fnP42) (body := fnB42) (scope := fnS42) (binds := [(Str.ofString "script", .ref l)]) (by decide) (X _ _ (at262 _)) rfl T.nolimit (codeRec_of X ?_) rfl ?_ ?_ (fun h₁ tk cells F N Y => ?_) rfl rfl rfl
  · kernel_rfl
  · intro x hx
    rw [List.mem_singleton.mp hx]
    exact .inl rfl
  · decide +kernel
  · have Y2 := CellsAre.two Y
    obtain ⟨o1, o2, e, d1, d2⟩ := Y2
    subst e
    have n118 : s₁.heap.objs.size ≠ 118 := fun z => by
      have := Heap.lt_size h0
      rw [z] at this
      exact Nat.lt_irrefl _ this
    refine go h₁ tk o2 o1 ⟨F.ns, fun b o e => F.keep b o (of_hid e), by show (hid s₁.heap).objs.size ≤ _; rw [show (hid s₁.heap).objs.size = s₁.heap.objs.size from hideAll_size _ _]; exact Nat.le_refl _⟩ ?_ d2 d1
    intro q hq
    rcases List.mem_cons.mp hq with rfl | hq
    · exact ⟨F.keep _ _ h0, fun z => n118 z.symm, hid_118 _⟩
    · obtain ⟨q1, q2, q3⟩ := N q hq
      refine ⟨q1, q2, ?_⟩
      cases z : (hid s₁.heap).get? q.1 with
      | none => rfl
      | some o => rw [of_hid z] at q3; cases q3
end
-- JxBits
section
theorem jxBits_rows1 : True := by
  k_with_none
  (k_with "jx gg" => first | exact GG.refl _ | assumption | (refine GG.trans ?_ (by assumption); walk_at "jx gg"))
  (k_with "jx asks" => ((case k1 => k_asm); (case k2 => k_asm); (case k3 => k_asm); (case k4 => k_asm); (case k5 => k_asm); (case k6 => first | exact rfl | assumption); (case k7 => ktr_room); (case k8 => ktr_units)))
  (k_with "jx ne" => first | assumption | exact List.forall_mem_nil _ | (refine List.forall_mem_cons.mpr ⟨(by first | assumption | exact fun p9 z9 => absurd (congrArg Obj.cls z9) (by intro y9; cases y9) | exact notTab_cell (by assumption)), ?_⟩; walk_at "jx ne"))
  (k_with "jx backP" => (intro v9 ps9 h9 g9 tk9 R9 t9P F9 N9 G9; (first | (obtain ⟨t9, e9⟩ := R9; subst e9) | subst R9); (try dsimp only); (try k_sweep); (try k_fold)))
  (k_with "jx back" => (intro v9 h9 g9 tk9 R9 F9 N9 G9; (first | (obtain ⟨t9, e9⟩ := R9; subst e9) | subst R9); (try dsimp only); (try k_sweep); (try k_fold)))
  (k_with "jx back0" => (intro v9 h9 tk9 R9 F9 N9; (first | (obtain ⟨t9, e9⟩ := R9; subst e9) | subst R9); (try dsimp only); (try k_sweep); (try k_fold)))
  (k_with "jx dive" => skip)
  (k_with "jx fly0" => (intro e9 t9 xs9 h19 h9 tk9 F9 U9 R9; (try dsimp only); walk_at "jx dive"; (try k_fold)))
  (k_with "jx flyN" => (intro e9 h19 h9 g9 tk9 F9 U9 R9 G9; (try dsimp only); walk_at "jx diveN"; (try k_fold)))
  (k_with "jx diveN" => skip)
  (k_with "jx fly" => (intro e9 t9 xs9 h19 h9 g9 tk9 F9 U9 R9 G9; (try dsimp only); walk_at "jx dive"; (try k_fold)))
  (k_with "jx dec" => first | assumption | decide | (simp only [List.size_toArray, List.length_append, List.length_cons, List.length_nil, bne_iff_ne, ne_eq, beq_iff_eq, Bool.not_eq_true, Decidable.not_not, decide_eq_true_eq, decide_eq_false_iff_not, Bool.not_true, Bool.not_false, reduceCtorEq, not_false_eq_true, not_true_eq_false]; done) | (simp only [List.size_toArray, List.length_append, List.length_cons, List.length_nil, bne_iff_ne, ne_eq, beq_iff_eq, Bool.not_eq_true, Decidable.not_not, decide_eq_true_eq, decide_eq_false_iff_not]; omega))
  (k_with "ite" => (k_here; first | rw [if_pos (by walk_at "jx dec")] | rw [if_neg (by walk_at "jx dec")]))
  exact trivial
theorem news_tail {h₀ h : Heap} {L : Addr} {q : Addr × Obj} {news : List (Addr × Obj)} (N : News h₀ L h (q :: news)) : News h₀ L h news := fun r hr => N r (List.Mem.tail _ hr)
/-! rows of octets and their signs -/
noncomputable def bitAt (l : List UInt8) (i : Nat) : Bool := decide ((l.getD (i / 8) 0).toNat / 2 ^ (7 - i % 8) % 2 = 1)
theorem bitAt_of {l : List UInt8} {i : Nat} {ch : UInt8} (h : l[i]? = some ch) {j : Nat} (hj : j < 8) : bitAt l (8 * i + j) = decide (ch.toNat / 2 ^ (7 - j) % 2 = 1) := by
  unfold bitAt
  rw [show (8 * i + j) / 8 = i by omega, show (8 * i + j) % 8 = j by omega, List.getD_eq_getElem?_getD, h]
  rfl
theorem bitsOf_length (c : UInt8) : (bitsOf c).length = 8 := by simp [bitsOf]
theorem bitsAll_cons (c : UInt8) (l : List UInt8) : bitsAll (c :: l) = bitsOf c ++ bitsAll l := by simp [bitsAll]
theorem bitsAll_length : ∀ l : List UInt8, (bitsAll l).length = 8 * l.length
  | [] => rfl
  | c :: l => by rw [bitsAll_cons, List.length_append, bitsOf_length, bitsAll_length l, List.length_cons]; omega
theorem bitsOf_get (c : UInt8) {j : Nat} (h : j < 8) : (bitsOf c)[j]? = some (if decide (c.toNat / 2 ^ (7 - j) % 2 = 1) = true then 1 else 0) := by
  unfold bitsOf
  rw [List.getElem?_map, List.getElem?_range h]
  show some (UInt8.ofNat (c.toNat / 2 ^ (7 - j) % 2)) = _
  rcases Nat.mod_two_eq_zero_or_one (c.toNat / 2 ^ (7 - j)) with e | e <;> rw [e] <;> rfl
theorem bitsAll_get : ∀ (l : List UInt8) {j : Nat}, j < 8 * l.length → (bitsAll l)[j]? = some (if bitAt l j = true then 1 else 0)
  | [], _, h => absurd h (by simp)
  | c :: l, j, h => by
    rw [bitsAll_cons]
    by_cases q : j < 8
    · rw [List.getElem?_append_left (by rw [bitsOf_length]; exact q), bitsOf_get c q]
      have := bitAt_of (l := c :: l) (i := 0) (ch := c) rfl q
      rw [Nat.mul_zero, Nat.zero_add] at this
      rw [this]
    · rw [List.getElem?_append_right (by rw [bitsOf_length]; omega), bitsOf_length, bitsAll_get l (by rw [List.length_cons] at h; omega)]
      have e : bitAt (c :: l) j = bitAt l (j - 8) := by
        unfold bitAt
        rw [show (j - 8) % 8 = j % 8 by omega, show j / 8 = (j - 8) / 8 + 1 by omega]
        rfl
      rw [e]
/-- the values of a list that hold a row of octets -/
noncomputable def IntRow (ys : Array Value) (p : List UInt8) : Prop := ys.size = p.length ∧ ∀ (j : Nat) (c : UInt8), p[j]? = some c → ∃ t, ys[j]? = some (.int ((c.toNat : Nat) : Int) t)
theorem intRow_bits {ys : Array Value} {l : List UInt8} (h : ys.size = 8 * l.length) (k : ∀ j, j < 8 * l.length → ∃ t, ys[j]? = some (.int (if bitAt l j then 1 else 0) t)) : IntRow ys (bitsAll l) := by
  refine ⟨by rw [bitsAll_length]; exact h, fun j c e => ?_⟩
  have hj : j < 8 * l.length := by
    rw [← bitsAll_length]
    rcases Nat.lt_or_ge j (bitsAll l).length with q | q
    · exact q
    · rw [List.getElem?_eq_none q] at e; cases e
  obtain ⟨t, ht⟩ := k j hj
  rw [bitsAll_get l hj] at e
  cases e
  refine ⟨t, ht.trans ?_⟩
  cases bitAt l j <;> rfl
theorem IntRow.ints {ys : Array Value} {p : List UInt8} (h : IntRow ys p) : IntsAre ys.toList (p.map fun c => ((c.toNat : Nat) : Int)) := by
  obtain ⟨l⟩ := ys
  obtain ⟨h1, h2⟩ := h
  show IntsAre l _
  replace h1 : l.length = p.length := h1
  replace h2 : ∀ (j : Nat) (c : UInt8), p[j]? = some c → ∃ t, l[j]? = some (.int ((c.toNat : Nat) : Int) t) := fun j c e => by
    obtain ⟨t, e'⟩ := h2 j c e
    exact ⟨t, by rwa [List.getElem?_toArray] at e'⟩
  induction p generalizing l with
  | nil => cases l with
    | nil => exact .nil
    | cons v l => simp at h1
  | cons c p ih => cases l with
    | nil => simp at h1
    | cons v l =>
      obtain ⟨t, e⟩ := h2 0 c rfl
      have e' : v = .int ((c.toNat : Nat) : Int) t := by simpa using e
      subst e'
      exact .cons _ _ (ih l (by simpa using h1) fun j c e => h2 (j + 1) c e)
theorem byteArr_row (p : List UInt8) : byteArr (p.map fun c => ((c.toNat : Nat) : Int)) = p.toArray := by
  unfold byteArr
  rw [List.map_map]
  congr 1
  conv => rhs; rw [← List.map_id p]
  refine List.map_congr_left fun c _ => ?_
  show (((c.toNat : Nat) : Int).toNat).toUInt8 = c
  rw [Int.toNat_natCast]
  exact UInt8.ofNat_toNat
section
variable {w : World} {mean : ExcName → Option Value} {mg mb : Str → Option Value} {dp un : Nat} {gd : Option (List Code)} {cn : Str} {cs : Scope} {a : Addr} {ccd : Value} {cl : List (Str × Addr)} {outer : List Env} {A₀ : Around} {base h₀ : Heap} {L : Addr} {m : Str → Option Value} {news : List (Addr × Obj)} {s : Shared} {Q E : Value → Shared → Prop}
theorem mk_bytes {A : Around} {D : Addr} {ys : Array Value} {n : Nat} {p : List UInt8} (F : Fr h₀ L s.heap m) (N : News h₀ L s.heap news) (hh : A.handled = none) (hD : (D, listOf ys n) ∈ news) (hr : IntRow ys p) (hz : p.length ≤ 16777216)
    (h : ∀ t' h' k, Fr h₀ L h' m → News h₀ L h' news → Q (.bytes p.toArray t') { s with heap := h', toks := k }) : wpAny (model rw_.prog w) A (call (.type "bytes") [.ref D]) Q E s := by
  refine KBa.make_K (vs := ys.toList) (ns := p.map fun c => ((c.toNat : Nat) : Int)) F N hh ⟨_, (N _ hD).1, rfl, n, rfl⟩ hr.ints (fun k hk => ?_) (by rw [List.length_map]; exact hz) fun h' t' k F' N' _ => ?_
  · obtain ⟨c, _, rfl⟩ := List.mem_map.mp hk
    exact ⟨Int.natCast_nonneg _, by have := c.toNat_lt; omega⟩
  · rw [byteArr_row]
    exact h t' h' k F' N'
end
end
local macro_rules | `(tactic| cell_end $h:term $_:term $_:term) => `(tactic| (first
  | (refine $h _ _ _ _ ?r1 ?r2 ?r3 ?r4; (case r2 => assumption); (case r3 => first | assumption | exact Jx.news_tail (by assumption) | exact Jx.news_tail (Jx.news_tail (by assumption))); (case r4 => walk_at "jx gg"); (case r1 => first | exact rfl | exact ⟨_, rfl⟩))
  | (refine $h _ _ _ ?r1 ?r2 ?r3; (case r2 => assumption); (case r3 => first | assumption | exact Jx.news_tail (by assumption)); (case r1 => first | exact rfl | exact ⟨_, rfl⟩))
  | (refine' $h _ _ _ _ _ _ ?r1 ?r2 ?r3; (case r3 => assumption); (case r2 => assumption); (case r1 => assumption))
  | (refine' $h _ _ _ _ _ _ _ ?r1 ?r2 ?r3 ?r4; (case r3 => assumption); (case r2 => assumption); (case r1 => assumption); (case r4 => walk_at "jx gg"))))
-- JxIdx
section
theorem jxIdx_rows1 : True := by
  k_with_none
  (k_with "jx gg" => first | exact GG.refl _ | assumption | (refine GG.trans ?_ (by assumption); walk_at "jx gg"))
  (k_with "jx asks" => ((case k1 => k_asm); (case k2 => k_asm); (case k3 => k_asm); (case k4 => k_asm); (case k5 => k_asm); (case k6 => first | exact rfl | assumption); (case k7 => ktr_room); (case k8 => ktr_units)))
  (k_with "jx ne" => first | assumption | exact List.forall_mem_nil _ | (refine List.forall_mem_cons.mpr ⟨(by first | assumption | exact fun p9 z9 => absurd (congrArg Obj.cls z9) (by intro y9; cases y9) | exact notTab_cell (by assumption)), ?_⟩; walk_at "jx ne"))
  (k_with "jx backP" => (intro v9 ps9 h9 g9 tk9 R9 t9P F9 N9 G9; (first | (obtain ⟨t9, e9⟩ := R9; subst e9) | subst R9); (try dsimp only); (try k_sweep); (try k_fold)))
  (k_with "jx back" => (intro v9 h9 g9 tk9 R9 F9 N9 G9; (first | (obtain ⟨t9, e9⟩ := R9; subst e9) | subst R9); (try dsimp only); (try k_sweep); (try k_fold)))
  (k_with "jx back0" => (intro v9 h9 tk9 R9 F9 N9; (first | (obtain ⟨t9, e9⟩ := R9; subst e9) | subst R9); (try dsimp only); (try k_sweep); (try k_fold)))
  (k_with "jx dive" => skip)
  (k_with "jx fly0" => (intro e9 t9 xs9 h19 h9 tk9 F9 U9 R9; (try dsimp only); walk_at "jx dive"; (try k_fold)))
  (k_with "jx flyN" => (intro e9 h19 h9 g9 tk9 F9 U9 R9 G9; (try dsimp only); walk_at "jx diveN"; (try k_fold)))
  (k_with "jx diveN" => skip)
  (k_with "jx fly" => (intro e9 t9 xs9 h19 h9 g9 tk9 F9 U9 R9 G9; (try dsimp only); walk_at "jx dive"; (try k_fold)))
  (k_with "jx dec" => first | assumption | decide | (simp only [List.size_toArray, List.length_append, List.length_cons, List.length_nil, bne_iff_ne, ne_eq, beq_iff_eq, Bool.not_eq_true, Decidable.not_not, decide_eq_true_eq, decide_eq_false_iff_not, Bool.not_true, Bool.not_false, reduceCtorEq, not_false_eq_true, not_true_eq_false]; done) | (simp only [List.size_toArray, List.length_append, List.length_cons, List.length_nil, bne_iff_ne, ne_eq, beq_iff_eq, Bool.not_eq_true, Decidable.not_not, decide_eq_true_eq, decide_eq_false_iff_not]; omega))
  (k_with "ite" => (k_here; first | rw [if_pos (by walk_at "jx dec")] | rw [if_neg (by walk_at "jx dec")]))
  exact trivial
theorem eqGives_bytes (x y : List UInt8) (t u : Tok) : MeetsSeq.EqGives (.bytes x.toArray t) (.bytes y.toArray u) (x == y) := by
  intro prog w A E s Q h
  unfold eqBool
  refine wpAny_holding ?_
  refine wpAny_ite_split (fun hab => ?_) (fun hab => ?_)
  · have e : x.toArray = y.toArray := by have := eq_of_beq hab; injection this
    have e' : x = y := by simpa using e
    subst e'
    exact wpAny_bind (wpAny_rule (wpAny_pure (by simpa using h)))
  · exact wpAny_bind (richCompare_gives (typeIs_bytes s _ t) (typeIs_bytes s _ u) FB.slot_bytes_eq FB.entry_bytes_eq (FB.args_bytes_eq_2 _ _) (gives_bytes_eq _ _ t u) (fun e => nomatch e) (wpAny_truthy_bool h) rfl)
noncomputable def twoVs : Array Value := #[(.bytes #[0, 0] 248), (.bytes #[0, 1] 251), (.bytes #[1, 0] 254), (.bytes #[1, 1] 257)]
section
variable {w : World} {mean : ExcName → Option Value} {mg mb : Str → Option Value} {dp un : Nat} {gd : Option (List Code)} {cn : Str} {cs : Scope} {a : Addr} {ccd : Value} {cl : List (Str × Addr)} {outer : List Env} {A₀ : Around} {base h₀ : Heap} {L : Addr} {m : Str → Option Value} {news : List (Addr × Obj)} {s : Shared} {Q E : Value → Shared → Prop}
theorem tb_method {A : Around} {pl : Sem Bool} {Q : Value × List Value → Shared → Prop} (F : Fr h₀ L s.heap m) (X : (kfrag w.params).In h₀) (h : Q (.builtin "list.index", [.ref 53]) s) : wpAny (model rw_.prog w) A (getMethod (.ref 53) (Str.ofString "index") pl) Q E s :=
  getMethod_builtin ⟨_, F.keep _ _ (X 53 (o53_2 w.params) (by kernel_rfl)), rfl⟩ PySem.F.plainAttrs_list PySem.F.slot_list_index PySem.F.type_list_index (fun a e => by cases e; exact ⟨_, F.keep _ _ (X 53 (o53_2 w.params) (by kernel_rfl)), rfl⟩) h
theorem tb_index {A : Around} {p : List UInt8} {a b : UInt8} {t : Tok} (F : Fr h₀ L s.heap m) (X : (kfrag w.params).In h₀) (ha : a = 0 ∨ a = 1) (hb : b = 0 ∨ b = 1) (hp : p = [a, b])
    (h : Q (.int ((2 * a.toNat + b.toNat : Nat) : Int) s.toks) { s with toks := s.toks + 1 }) : wpAny (model rw_.prog w) A (call (.builtin "list.index") [.ref 53, .bytes p.toArray t]) Q E s := by
  have ho : s.heap.get? 53 = some { cls := .type "list", dict := none, data := .seq twoVs 0, slots := #[] } := F.keep _ _ (X 53 (o53_2 w.params) (by kernel_rfl))
  subst hp
  let e : Value → Bool := fun v => match v with | .bytes x _ => x.toList == [a, b] | _ => false
  have he : ∀ y, y ∈ twoVs → MeetsSeq.EqGives y (.bytes [a, b].toArray t) (e y) := fun y hy => by
    have hy' : y = .bytes #[0, 0] 248 ∨ y = .bytes #[0, 1] 251 ∨ y = .bytes #[1, 0] 254 ∨ y = .bytes #[1, 1] 257 := by simpa [twoVs] using hy
    rcases hy' with rfl | rfl | rfl | rfl
    · exact eqGives_bytes [0, 0] [a, b] _ _
    · exact eqGives_bytes [0, 1] [a, b] _ _
    · exact eqGives_bytes [1, 0] [a, b] _ _
    · exact eqGives_bytes [1, 1] [a, b] _ _
  have fin : ∀ j (hj : j < twoVs.size), e twoVs[j] = true → (∀ i (hi : i < twoVs.size), i < j → e twoVs[i] = false) → Q (.int (j : Int) s.toks) { s with toks := s.toks + 1 } → wpAny (model rw_.prog w) A (call (.builtin "list.index") [.ref 53, .bytes [a, b].toArray t]) Q E s := fun j hj h1 h2 h3 =>
    call_meets PySem.F.slot_list_index ⟨_, ho, rfl⟩ PySem.F.entry_list_index (PySem.F.args_list_index_2 _ _)
      (MeetsSeq.list_index 53 twoVs 0 (.bytes [a, b].toArray t) e he j hj (by have : twoVs.size = 4 := rfl; omega) h1 h2) ⟨ho, h3⟩
  rcases ha with rfl | rfl <;> rcases hb with rfl | rfl
  · exact fin 0 (by decide) rfl (fun i hi hlt => absurd hlt (Nat.not_lt_zero _)) h
  · exact fin 1 (by decide) rfl (fun i hi hlt => by
      obtain rfl : i = 0 := by omega
      rfl) h
  · exact fin 2 (by decide) rfl (fun i hi hlt => by
      rcases (by omega : i = 0 ∨ i = 1) with rfl | rfl <;> rfl) h
  · exact fin 3 (by decide) rfl (fun i hi hlt => by
      rcases (by omega : i = 0 ∨ i = 1 ∨ i = 2) with rfl | rfl | rfl <;> rfl) h
end
theorem IsBits.take {p : List UInt8} (h : IsBits p) (n : Nat) : IsBits (p.take n) := fun b hb => h b (List.mem_of_mem_take hb)
theorem IsBits.drop {p : List UInt8} (h : IsBits p) (n : Nat) : IsBits (p.drop n) := fun b hb => h b (List.mem_of_mem_drop hb)
theorem isBits_all (l : List UInt8) : IsBits (bitsAll l) := fun b hb => by
  obtain ⟨c, _, hc⟩ := List.mem_flatMap.mp hb
  obtain ⟨k, _, rfl⟩ := List.mem_map.mp hc
  rcases Nat.mod_two_eq_zero_or_one (c.toNat / 2 ^ (7 - k)) with e | e <;> rw [e]
  · exact .inl rfl
  · exact .inr rfl
theorem IsBits.at {p : List UInt8} (h : IsBits p) (n : Nat) : p.getD n 0 = 0 ∨ p.getD n 0 = 1 := by
  rw [List.getD_eq_getElem?_getD]
  cases e : p[n]? with
  | none => exact .inl rfl
  | some c => exact h c (List.mem_of_getElem? e)
section
variable {w : World} {mean : ExcName → Option Value} {mg mb : Str → Option Value} {dp un : Nat} {gd : Option (List Code)} {cn : Str} {cs : Scope} {a : Addr} {ccd : Value} {cl : List (Str × Addr)} {outer : List Env} {A₀ : Around} {base h₀ : Heap} {L : Addr} {m : Str → Option Value} {news : List (Addr × Obj)} {s : Shared} {Q E : Value → Shared → Prop}
theorem tb_index' {A : Around} {p : List UInt8} {t : Tok} (F : Fr h₀ L s.heap m) (X : (kfrag w.params).In h₀) (hp : IsBits p) (hl : p.length = 2)
    (h : Q (.int ((2 * (p.getD 0 0).toNat + (p.getD 1 0).toNat : Nat) : Int) s.toks) { s with toks := s.toks + 1 }) : wpAny (model rw_.prog w) A (call (.builtin "list.index") [.ref 53, .bytes p.toArray t]) Q E s := by
  refine tb_index F X (hp.at 0) (hp.at 1) ?_ h
  match p, hl with
  | [a, b], _ => rfl
end
theorem cut_fromA {α : Type} (x : List α) (a b : Int) (h : 0 ≤ a + b) : cut x (some (a + b)) none = x.drop (a + b).toNat := by
  obtain ⟨k, hk⟩ := Int.eq_ofNat_of_zero_le h
  rw [hk, Int.toNat_natCast]
  exact cut_from x k
section
noncomputable abbrev padAt (p : List UInt8) : Nat := (4 + (4 - ((2 * ((List.take (4 - 2) (List.drop 2 p)).getD 0 0).toNat + ((List.take (4 - 2) (List.drop 2 p)).getD 1 0).toNat : Nat) : Int)).fmod 4).toNat
theorem padAt_eq {p : List UInt8} (hp : IsBits p) : padAt p = 4 + (4 - (2 * (p.getD 2 0).toNat + (p.getD 3 0).toNat)) % 4 := by
  have e0 : (List.take (4 - 2) (List.drop 2 p)).getD 0 0 = p.getD 2 0 := by simp [List.getD_eq_getElem?_getD, List.getElem?_take, List.getElem?_drop]
  have e1 : (List.take (4 - 2) (List.drop 2 p)).getD 1 0 = p.getD 3 0 := by simp [List.getD_eq_getElem?_getD, List.getElem?_take, List.getElem?_drop]
  unfold padAt
  rw [e0, e1]
  rcases hp.at 2 with a | a <;> rcases hp.at 3 with b | b <;> rw [a, b] <;> rfl
variable {o : List UInt8}
theorem dec_yes1 (h1 : ((((bitsAll o).getD (Int.toNat 0) 0).toNat : Nat) : Int) = 1) (h2 : (List.take (2 - 0) (List.drop 0 (List.drop 4 (bitsAll o))) == [0, 0]) = true) : dec o = some (List.drop (padAt (List.drop 4 (bitsAll o))) (List.drop 4 (bitsAll o))) := by
  have e : (bitsAll o).getD 0 0 = 1 := by
    change ((((bitsAll o).getD 0 0).toNat : Nat) : Int) = 1 at h1
    have : ((bitsAll o).getD 0 0).toNat = 1 := by omega
    exact UInt8.toNat_inj.mp this
  have e2 : List.take 2 (List.drop 4 (bitsAll o)) = [0, 0] := by simpa using h2
  unfold dec
  simp only [e, if_true, e2]
  rw [padAt_eq ((isBits_all o).drop 4)]
theorem dec_yes0 (h1 : ((((bitsAll o).getD (Int.toNat 0) 0).toNat : Nat) : Int) ≠ 1) (h2 : (List.take (2 - 0) (List.drop 0 (bitsAll o)) == [0, 0]) = true) : dec o = some (List.drop (padAt (bitsAll o)) (bitsAll o)) := by
  have e : (bitsAll o).getD 0 0 ≠ 1 := fun z => h1 (by
    show ((((bitsAll o).getD 0 0).toNat : Nat) : Int) = 1
    rw [z]; rfl)
  have e2 : List.take 2 (bitsAll o) = [0, 0] := by simpa using h2
  unfold dec
  simp only [e, if_false, e2]
  rw [padAt_eq (isBits_all o)]
  simp
theorem dec_no1 (h1 : ((((bitsAll o).getD (Int.toNat 0) 0).toNat : Nat) : Int) = 1) (h2 : (List.take (2 - 0) (List.drop 0 (List.drop 4 (bitsAll o))) == [0, 0]) = false) : dec o = none := by
  have e : (bitsAll o).getD 0 0 = 1 := by
    change ((((bitsAll o).getD 0 0).toNat : Nat) : Int) = 1 at h1
    have : ((bitsAll o).getD 0 0).toNat = 1 := by omega
    exact UInt8.toNat_inj.mp this
  have e2 : ¬ List.take 2 (List.drop 4 (bitsAll o)) = [0, 0] := by simpa using h2
  unfold dec
  simp only [e, if_true, e2, if_false]
theorem dec_no0 (h1 : ((((bitsAll o).getD (Int.toNat 0) 0).toNat : Nat) : Int) ≠ 1) (h2 : (List.take (2 - 0) (List.drop 0 (bitsAll o)) == [0, 0]) = false) : dec o = none := by
  have e : (bitsAll o).getD 0 0 ≠ 1 := fun z => h1 (by
    show ((((bitsAll o).getD 0 0).toNat : Nat) : Int) = 1
    rw [z]; rfl)
  have e2 : ¬ List.take 2 (bitsAll o) = [0, 0] := by simpa using h2
  unfold dec
  simp only [e, if_false, e2]
end
theorem fmod4 (a : Int) : 0 ≤ 4 + a.fmod 4 := by
  rw [Int.fmod_eq_emod_of_nonneg a (by decide)]
  omega
end
-- JxSeg
section
theorem jxSeg_rows1 : True := by
  k_with_none
  (k_with "jx gg" => first | exact GG.refl _ | assumption | (refine GG.trans ?_ (by assumption); walk_at "jx gg"))
  (k_with "jx asks" => ((case k1 => k_asm); (case k2 => k_asm); (case k3 => k_asm); (case k4 => k_asm); (case k5 => k_asm); (case k6 => first | exact rfl | assumption); (case k7 => ktr_room); (case k8 => ktr_units)))
  (k_with "jx ne" => first | assumption | exact List.forall_mem_nil _ | (refine List.forall_mem_cons.mpr ⟨(by first | assumption | exact fun p9 z9 => absurd (congrArg Obj.cls z9) (by intro y9; cases y9) | exact notTab_cell (by assumption)), ?_⟩; walk_at "jx ne"))
  (k_with "jx backP" => (intro v9 ps9 h9 g9 tk9 R9 t9P F9 N9 G9; (first | (obtain ⟨t9, e9⟩ := R9; subst e9) | subst R9); (try dsimp only); (try k_sweep); (try k_fold)))
  (k_with "jx back" => (intro v9 h9 g9 tk9 R9 F9 N9 G9; (first | (obtain ⟨t9, e9⟩ := R9; subst e9) | subst R9); (try dsimp only); (try k_sweep); (try k_fold)))
  (k_with "jx back0" => (intro v9 h9 tk9 R9 F9 N9; (first | (obtain ⟨t9, e9⟩ := R9; subst e9) | subst R9); (try dsimp only); (try k_sweep); (try k_fold)))
  (k_with "jx dive" => skip)
  (k_with "jx fly0" => (intro e9 t9 xs9 h19 h9 tk9 F9 U9 R9; (try dsimp only); walk_at "jx dive"; (try k_fold)))
  (k_with "jx flyN" => (intro e9 h19 h9 g9 tk9 F9 U9 R9 G9; (try dsimp only); walk_at "jx diveN"; (try k_fold)))
  (k_with "jx diveN" => skip)
  (k_with "jx fly" => (intro e9 t9 xs9 h19 h9 g9 tk9 F9 U9 R9 G9; (try dsimp only); walk_at "jx dive"; (try k_fold)))
  (k_with "jx dec" => first | assumption | decide | (simp only [List.size_toArray, List.length_append, List.length_cons, List.length_nil, bne_iff_ne, ne_eq, beq_iff_eq, Bool.not_eq_true, Decidable.not_not, decide_eq_true_eq, decide_eq_false_iff_not, Bool.not_true, Bool.not_false, reduceCtorEq, not_false_eq_true, not_true_eq_false]; done) | (simp only [List.size_toArray, List.length_append, List.length_cons, List.length_nil, bne_iff_ne, ne_eq, beq_iff_eq, Bool.not_eq_true, Decidable.not_not, decide_eq_true_eq, decide_eq_false_iff_not]; omega))
  (k_with "ite" => (k_here; first | rw [if_pos (by walk_at "jx dec")] | rw [if_neg (by walk_at "jx dec")]))
  exact trivial
section
variable {M : Model} {A : Around} {R : GenEnd} {Y : Protocol} {n : Nat} {s₀ : Shared} {c : Code} {fs : List Frame} {s : Shared} {env : Env} {K : Flow → Sem Fin} {H : Value → Sem Fin} {gd : Bool → Bool} {lv : List Value → List Value}

noncomputable abbrev ownFrame (K : Flow → Sem Fin) (H : Value → Sem Fin) (gd : Bool → Bool) (lv : List Value → List Value) (env : Env) (c : Code) (p : Pos) : Frame :=
  .ret (fun r => ((match r with | .ok f => (.pure f : Sem Flow) | .error e => .raise e).onRaise fun (x : Value) => do
        if (← field x 1) == Value.none then unsupported "frame.own-activation:exception-without-traceback"
        setFlight x env.frame).wrap K H gd lv) none (gd false) (lv []) c p []

theorem seg_For {target iter : Expr} {body orelse : List Stmt} {pos : Pos}
    (h : wpAny M (A.over c fs) (eval iter env) (fun x s₁ => wpAny M (A.over c fs) (pyIter x) (fun it s₂ => ∀ p, Seg M A R Y n s₀ (.forLoop target it body orelse env) (M.den (.forLoop target it body orelse env)) (ownFrame K H gd lv env c p :: fs) s₂) (fun _ _ => False) s₁) (fun _ _ => False) s)
    (hs : ∀ x, foldedSetIterable iter env x = pure x := by intro _; rfl) :
    Seg M A R Y n s₀ c ((exec (.For target iter body orelse pos) env).wrap K H gd lv) fs s := by
  rw [exec_For]
  refine seg_at ?_
  show Seg _ A R Y n s₀ _ (Sem.wrap _ _ _ _ (eval iter env >>= _)) fs s
  rw [Sem.bind_eq_wrap', Sem.wrap_wrap]
  refine seg_wrap (wpAny_mono h (fun x s₁ h₁ => ?_) fun _ _ f => f.elim)
  rw [hs]
  refine seg_at ?_
  show Seg _ A R Y n s₀ _ (Sem.wrap _ _ _ _ (holding [x] (pyIter x) >>= _)) fs s₁
  rw [Sem.bind_eq_wrap', Sem.wrap_wrap]
  refine seg_wrap (wpAny_holding (wpAny_mono h₁ (fun it s₂ h₂ => ?_) fun _ _ f => f.elim))
  exact seg_call h₂

theorem seg_If {test : Expr} {body orelse : List Stmt} {pos : Pos}
    (h : wpAny M (A.over c fs) (isTrue test env (eval test env)) (fun b s' => Seg M A R Y n s₀ c ((execs (if b = true then body else orelse) env).wrap K H gd lv) fs s') (fun _ _ => False) s) :
    Seg M A R Y n s₀ c ((exec (.If test body orelse pos) env).wrap K H gd lv) fs s := by
  rw [exec_If]
  refine seg_at ?_
  show Seg _ A R Y n s₀ _ (Sem.wrap _ _ _ _ (PySem.isTrue test env (eval test env) >>= _)) fs s
  rw [Sem.bind_eq_wrap', Sem.wrap_wrap]
  refine seg_wrap (wpAny_mono h (fun b s' hb => ?_) fun _ _ f => f.elim)
  cases b <;> exact hb
end
section
variable {prog : Program} {w : World} {A : Around} {R : GenEnd} {Y : Protocol} {n : Nat} {s₀ : Shared} {fs : List Frame} {s : Shared} {env : Env}
/-- behind the turn of a loop in a generator -/
noncomputable abbrev turnK (c : Code) : Flow → Sem Fin := fun f => match f with
  | .next | .cont => .pure (.again c)
  | .brk => .pure (.done .next)
  | .ret v => .pure (.done (.ret v))
noncomputable abbrev turnH (env : Env) : Value → Sem Fin := fun e => (do noteFrame e env; theTreesLotGoes e : Sem Unit).wrap (fun _ => .raise e) .raise id id

theorem seg_forLoop {target : Expr} {it : Value} {body orelse : List Stmt}
    (h : wpAny (model prog w) (A.over (.forLoop target it body orelse env) fs) (pyNext it) (fun r s' => match r with
      | none => Seg (model prog w) A R Y n s₀ (.block orelse env) ((model prog w).den (.block orelse env)) fs s'
      | some v => wpAny (model prog w) (A.over (.forLoop target it body orelse env) fs) (assign target env v) (fun _ s'' =>
          Seg (model prog w) A R Y n s₀ (.forLoop target it body orelse env) ((execs body env).wrap (turnK (.forLoop target it body orelse env)) (turnH env) id id) fs s'') (fun _ _ => False) s') (fun _ _ => False) s)
    (ht : ∀ v, letOwnedTupleGo target it v = pure () := by intro _; rfl) :
    Seg (model prog w) A R Y n s₀ (.forLoop target it body orelse env) ((model prog w).den (.forLoop target it body orelse env)) fs s := by
  show Seg _ A R Y n s₀ _ ((forTurn target it body orelse env).onRaise (fun x => do noteFrame x env; theTreesLotGoes x)) fs s
  unfold forTurn
  rw [Sem.onRaise_eq_wrap]
  refine seg_at ?_
  show Seg _ A R Y n s₀ _ (Sem.wrap _ _ _ _ ((pyNext it).onRaise _ >>= _)) fs s
  rw [Sem.bind_eq_wrap', Sem.wrap_wrap]
  refine seg_wrap (wpAny_onRaise (wpAny_mono h (fun r s' hr => ?_) fun _ _ f => f.elim))
  cases r with
  | none => exact seg_again rfl hr
  | some v =>
    show Seg _ A R Y n s₀ _ (Sem.wrap _ _ _ _ (letOwnedTupleGo target it v >>= _)) fs s'
    rw [ht]
    show Seg _ A R Y n s₀ _ (Sem.wrap _ _ _ _ (assign target env v >>= _)) fs s'
    rw [Sem.bind_eq_wrap', Sem.wrap_wrap]
    refine seg_wrap (wpAny_mono hr (fun _ s'' h₂ => ?_) fun _ _ f => f.elim)
    show Seg _ A R Y n s₀ _ (Sem.wrap _ _ _ _ (execs body env >>= _)) fs s''
    rw [Sem.bind_eq_wrap', Sem.wrap_wrap]
    rw [Sem.wrap_congr (execs body env) _ _ (K' := turnK (.forLoop target it body orelse env)) (H' := turnH env) (fun f => by cases f <;> rfl)
      (fun e => by first | exact Sem.bind_eq_wrap _ _ | (show (do noteFrame e env; theTreesLotGoes e : Sem Unit).bind (fun _ => .raise e) = _; rw [Sem.bind_eq_wrap]))]
    exact h₂

/-- the loop's end: the frame of the statement takes it up again -/
theorem seg_block {K : Flow → Sem Fin} {H : Value → Sem Fin} {gd : Bool → Bool} {lv : List Value → List Value} {env' : Env} {c : Code} {p : Pos}
    (h : Seg (model prog w) A R Y n s₀ c (K .next) fs s) :
    Seg (model prog w) A R Y n s₀ (.block [] env) ((model prog w).den (.block [] env)) (ownFrame K H gd lv env' c p :: fs) s :=
  seg_leaf (.ok .next) h
end
section
variable {prog : Program} {w : World} {A : Around} {E : Value → Shared → Prop} {s : Shared}
/-- the next of a generator function's object, with the state's bareness told -/
theorem pyNext_fn {a : Addr} {g n : Nat} {gs : GenState} {P : Nat → Shared → Shared → Prop} {Y : Protocol} {Q : Option Value → Shared → Prop} (hh : A.handled = none)
    (hl : s.heap.NoLimit) (hroom : A.depth < recursionLimit)
    (hg : s.heap.IsGen a g) (hgs : s.gens[g]? = some gs)
    (hgo : gs.Goes (model prog w) A.in1 (fun n s₀ r s₁ => r = .ok (.ret .none) ∧ P n s₀ s₁) Y n (.send .none) (s.setGen g .running))
    (hY : ∀ v s₁ gs', gs'.bare = true → Y (n - 1) (s.setGen g .running) v s₁ (fun r' s'' => match n with
        | 0 => False
        | m + 1 => gs'.Goes (model prog w) A.in1 (fun n s₀ r s₁ => r = .ok (.ret .none) ∧ P n s₀ s₁) Y m r' s'') → Q (some v) (s₁.setGen g gs'))
    (hP : ∀ s₁, P n (s.setGen g .running) s₁ → ∀ h', (∀ b o, s₁.heap.get? b = some o → h'.get? b = some o) → s₁.heap.objs.size ≤ h'.objs.size → Q none { s₁.setGen g .finished with heap := h' }) :
    wpAny (model prog w) A (pyNext (.ref a)) Q E s := by
  unfold pyNext
  refine wpAny_bind (wpAny_attempt (wpAny_callSpecial?_slot (name := Str.ofString "__next__") hg.typeIs slot_gen_next
    (wpAny_call_entry slot_gen_next hg.typeIs entry_gen_next ?_ (args_gen_next _))))
  show wpAny _ A.in1 (Builtin.Generator.genWake (.ref a) (.send .none)) _ _ s
  unfold Builtin.Generator.genWake
  refine wpAny_bind (wpAny_holding (wpAny_genNumber hg (wpAny_bind (wpAny_genState hgs ?_))))
  cases gs with
  | running => exact hgo.elim
  | finished => exact hgo.elim
  | _ =>
    refine wpAny_bind (wpAny_roomToWake hl hroom ?_)
    show wpAny _ A.in1 (.resume g (.send .none) [] _) _ _ s
    refine wpAny_resumeQ hgs hgo (fun x s₁ hx => ?_) (fun v s₁ gs' hb hv => ?_)
    · obtain ⟨rfl, hp⟩ := hx
      show wpAny _ A.in1 (newExc (.type "StopIteration") [] >>= _) _ _ _
      refine wpAny_bind ?_
      simp only [newExc, newTuple]
      refine wpAny_bind (wpAny_newObj_type ?_ (by size_fits))
      refine wpAny_bind (m := firstArgMember _ _) (wpAny_of_eq (a := Value.none) (by first | rfl | (simp only [firstArgMember]; rfl)) ?_)
      refine wpAny_newObj_type ?_ (by size_fits)
      simp only [raiseNew]
      refine wpAny_bind (wpAny_bind (wpAny_handled ?_))
      first | rw [show A.in1.handled = none from hh] | rw [hh]
      refine wpAny_throw ?_
      refine wpAny_bind (wpAny_isInstance (T := "StopIteration") (b := true) ⟨_, Heap.get?_push_size _ rfl, rfl⟩ isSubtype_stop ?_)
      exact wpAny_pure (hP s₁ hp _ (fun b o hb => Heap.get?_push_of_some _ (Heap.get?_push_of_some _ hb)) (by simp only [Heap.push, Array.size_push, Shared.setGen]; omega))
    · exact wpAny_pure ⟨v, rfl, wpAny_pure (hY v s₁ gs' hb hv)⟩
end
end
-- JxEncG
section
theorem jxEncG_rows1 : True := by
  k_with_none
  (k_with "jx gg" => first | exact GG.refl _ | assumption | (refine GG.trans ?_ (by assumption); walk_at "jx gg"))
  (k_with "jx asks" => ((case k1 => k_asm); (case k2 => k_asm); (case k3 => k_asm); (case k4 => k_asm); (case k5 => k_asm); (case k6 => first | exact rfl | assumption); (case k7 => ktr_room); (case k8 => ktr_units)))
  (k_with "jx ne" => first | assumption | exact List.forall_mem_nil _ | (refine List.forall_mem_cons.mpr ⟨(by first | assumption | exact fun p9 z9 => absurd (congrArg Obj.cls z9) (by intro y9; cases y9) | exact notTab_cell (by assumption)), ?_⟩; walk_at "jx ne"))
  (k_with "jx backP" => (intro v9 ps9 h9 g9 tk9 R9 t9P F9 N9 G9; (first | (obtain ⟨t9, e9⟩ := R9; subst e9) | subst R9); (try dsimp only); (try k_sweep); (try k_fold)))
  (k_with "jx back" => (intro v9 h9 g9 tk9 R9 F9 N9 G9; (first | (obtain ⟨t9, e9⟩ := R9; subst e9) | subst R9); (try dsimp only); (try k_sweep); (try k_fold)))
  (k_with "jx back0" => (intro v9 h9 tk9 R9 F9 N9; (first | (obtain ⟨t9, e9⟩ := R9; subst e9) | subst R9); (try dsimp only); (try k_sweep); (try k_fold)))
  (k_with "jx dive" => skip)
  (k_with "jx fly0" => (intro e9 t9 xs9 h19 h9 tk9 F9 U9 R9; (try dsimp only); walk_at "jx dive"; (try k_fold)))
  (k_with "jx flyN" => (intro e9 h19 h9 g9 tk9 F9 U9 R9 G9; (try dsimp only); walk_at "jx diveN"; (try k_fold)))
  (k_with "jx diveN" => skip)
  (k_with "jx fly" => (intro e9 t9 xs9 h19 h9 g9 tk9 F9 U9 R9 G9; (try dsimp only); walk_at "jx dive"; (try k_fold)))
  (k_with "jx dec" => first | assumption | decide | (simp only [List.size_toArray, List.length_append, List.length_cons, List.length_nil, bne_iff_ne, ne_eq, beq_iff_eq, Bool.not_eq_true, Decidable.not_not, decide_eq_true_eq, decide_eq_false_iff_not, Bool.not_true, Bool.not_false, reduceCtorEq, not_false_eq_true, not_true_eq_false]; done) | (simp only [List.size_toArray, List.length_append, List.length_cons, List.length_nil, bne_iff_ne, ne_eq, beq_iff_eq, Bool.not_eq_true, Decidable.not_not, decide_eq_true_eq, decide_eq_false_iff_not]; omega))
  (k_with "ite" => (k_here; first | rw [if_pos (by walk_at "jx dec")] | rw [if_neg (by walk_at "jx dec")]))
  exact trivial
noncomputable def Live (N : Nat) (h : Heap) : Prop := ∃ (b : Nat) (o : Obj), b + 1 = N ∧ h.get? b = some o
theorem Live.le {N : Nat} {h : Heap} (x : Live N h) : N ≤ h.objs.size := by
  obtain ⟨b, o, e, ho⟩ := x
  have : b < h.objs.size := Heap.lt_size ho
  omega
/-- a generator's motion: what lies below N and is none of its own stays -/
structure Mv (N : Nat) (wr : List Addr) (s s' : Shared) : Prop where
  heap : ∀ (b : Nat) (o : Obj), b < N → b ∉ wr → s.heap.get? b = some o → s'.heap.get? b = some o
  gens : GG s.gens s'.gens
  drawn : s'.drawn = s.drawn
  os : s'.os = s.os
theorem Mv.refl {N : Nat} {wr : List Addr} {s : Shared} : Mv N wr s s := ⟨fun _ _ _ _ e => e, GG.refl _, rfl, rfl⟩
theorem Mv.trans {N : Nat} {wr : List Addr} {s s' s'' : Shared} (x : Mv N wr s s') (y : Mv N wr s' s'') : Mv N wr s s'' :=
  ⟨fun b o h1 h2 e => y.heap b o h1 h2 (x.heap b o h1 h2 e), x.gens.trans y.gens, y.drawn.trans x.drawn, y.os.trans x.os⟩
theorem Mv.step {N : Nat} {wr : List Addr} {s s' : Shared} {h : Heap} {tk : Nat} (x : Mv N wr s s') (k : ∀ (b : Nat) (o : Obj), b < N → b ∉ wr → s'.heap.get? b = some o → h.get? b = some o) : Mv N wr s { s' with heap := h, toks := tk } :=
  ⟨fun b o h1 h2 e => k b o h1 h2 (x.heap b o h1 h2 e), x.gens, x.drawn, x.os⟩
/-- the consumer's motion: all but its own stays -/
noncomputable def Kept (N : Nat) (ex : List Addr) (s s' : Shared) : Prop := (∀ b o, b ∉ ex → s.heap.get? b = some o → s'.heap.get? b = some o) ∧ Live N s'.heap
noncomputable abbrev Rr (N : Nat) (wr : List Addr) (J : Heap → Prop := fun _ => True) : GenEnd := fun n s₀ r s' => r = .ok (.ret .none) ∧ n = 0 ∧ (Mv N wr s₀ s' ∧ J s'.heap)
noncomputable abbrev Yy (N : Nat) (wr ex : List Addr) (n₀ : Nat) (F : Nat → Value → Prop) : Protocol := fun k s₀ v s' kap => F (n₀ - 1 - k) v ∧ Mv N wr s₀ s' ∧ ∀ s'', Kept N ex s' s'' → kap (.send .none) s''

noncomputable abbrev encEnv (C : Addr) : Env := envX (Str.ofString "_encode_to_bin") fnS20 C 135 (.ref 134) []
noncomputable def encIn : List Stmt := [Stmt.If
                ((Expr.Name (Str.ofString "char") { line := 31, col := 15, endLine := 31, endCol := 19 }).BinOp
                  Operator.BitAnd
                  (Expr.Name (Str.ofString "exp") { line := 31, col := 22, endLine := 31, endCol := 25 })
                  { line := 31, col := 15, endLine := 31, endCol := 25 })
                [Stmt.Expr
                    (Expr.Yield
                      (some (Expr.Constant (Const.bool true) 0 { line := 32, col := 22, endLine := 32, endCol := 26 }))
                      { line := 32, col := 16, endLine := 32, endCol := 26 })
                    { line := 32, col := 16, endLine := 32, endCol := 26 }]
                [Stmt.Expr
                    (Expr.Yield
                      (some (Expr.Constant (Const.bool false) 0 { line := 34, col := 22, endLine := 34, endCol := 27 }))
                      { line := 34, col := 16, endLine := 34, endCol := 27 })
                    { line := 34, col := 16, endLine := 34, endCol := 27 }]
                { line := 31, col := 12, endLine := 34, endCol := 27 }]
noncomputable def encOut : List Stmt := [Stmt.For (Expr.Name (Str.ofString "exp") { line := 30, col := 12, endLine := 30, endCol := 15 })
            (Expr.Name (Str.ofString "EXP") { line := 30, col := 19, endLine := 30, endCol := 22 }) encIn
            [] { line := 30, col := 8, endLine := 34, endCol := 27 }]
theorem encBody : fnB20 = [Stmt.For (Expr.Name (Str.ofString "char") { line := 29, col := 8, endLine := 29, endCol := 12 })
        (Expr.Name (Str.ofString "value") { line := 29, col := 16, endLine := 29, endCol := 21 }) encOut [] { line := 29, col := 4, endLine := 34, endCol := 27 }] := rfl
noncomputable abbrev cIn (C it2 : Addr) : Code := .forLoop (Expr.Name (Str.ofString "exp") { line := 30, col := 12, endLine := 30, endCol := 15 }) (.ref it2) encIn [] (encEnv C)
noncomputable abbrev cOut (C it1 : Addr) : Code := .forLoop (Expr.Name (Str.ofString "char") { line := 29, col := 8, endLine := 29, endCol := 12 }) (.ref it1) encOut [] (encEnv C)
noncomputable def exps : Array Value := #[(.int 128 231), (.int 64 227), (.int 32 223), (.int 16 219), (.int 8 215), (.int 4 211), (.int 2 207), (.int 1 203)]
theorem exps_at {j : Nat} (h : j < 8) : exps[j]? = some (.int ((2 ^ (7 - j) : Nat) : Int) (231 - 4 * j)) := by
  match j, h with
  | 0, _ | 1, _ | 2, _ | 3, _ | 4, _ | 5, _ | 6, _ | 7, _ => rfl
theorem bit_and (c : UInt8) (k : Nat) : (Builtin.bitAnd ((c.toNat : Nat) : Int) ((2 ^ k : Nat) : Int) != 0) = decide (c.toNat / 2 ^ k % 2 = 1) := by
  have e : Builtin.bitAnd ((c.toNat : Nat) : Int) ((2 ^ k : Nat) : Int) = ((c.toNat &&& 2 ^ k : Nat) : Int) := by
    unfold Builtin.bitAnd
    rw [show decide ((0 : Int) ≤ ((c.toNat : Nat) : Int)) = true from decide_eq_true (Int.natCast_nonneg _), show decide ((0 : Int) ≤ ((2 ^ k : Nat) : Int)) = true from decide_eq_true (Int.natCast_nonneg _)]
    simp only [Int.toNat_natCast]
  rw [e]
  have h : (c.toNat &&& 2 ^ k = 0) ↔ c.toNat.testBit k = false := by
    constructor
    · intro e
      have := congrArg (fun n : Nat => n.testBit k) e
      simpa [Nat.testBit_and, Nat.testBit_two_pow_self] using this
    · intro e
      refine Nat.eq_of_testBit_eq fun i => ?_
      rw [Nat.testBit_and, Nat.testBit_two_pow, Nat.zero_testBit]
      by_cases q : k = i
      · subst q; simp [e]
      · simp [q]
  rw [Nat.testBit_eq_decide_div_mod_eq] at h
  by_cases q : c.toNat / 2 ^ k % 2 = 1
  · rw [decide_eq_true q] at h ⊢
    have : c.toNat &&& 2 ^ k ≠ 0 := fun z => absurd (h.mp z) (by simp)
    simpa using this
  · rw [decide_eq_false q] at h ⊢
    rw [h.mpr rfl]; rfl
section
variable {w : World} {A : Around} {g : Heap} {C N n₀ : Nat} {ex : List Addr} {F : Nat → Value → Prop} {mean : ExcName → Option Value} {mg mb : Str → Option Value}
theorem frKept {s s' : Shared} {m : Str → Option Value} (Fm : Fr g C s.heap m) (hex : ∀ b ∈ ex, b ≠ C ∧ g.get? b = none) (k : Kept N ex s s') : Fr g C s'.heap m := by
  obtain ⟨⟨o, es, ep, ho, r⟩, kp, ab⟩ := Fm
  refine ⟨⟨o, es, ep, k.1 C o (fun q => (hex C q).1 rfl) ho, r⟩, fun b o e => k.1 b o (fun q => ?_) (kp b o e), ab⟩
  have := (hex b q).2
  rw [e] at this; cases this
theorem enc_inner (X : (kfrag w.params).In g) (hC : C + 1 < N) (hex : ∀ b ∈ ex, b ≠ C ∧ g.get? b = none) (hexN : ∀ b ∈ ex, b < N)
    {K : Flow → Sem Fin} {H : Value → Sem Fin} {gd : Bool → Bool} {lv : List Value → List Value} {c : Code} {p : Pos} {fs : List Frame} {it1 it2 : Nat} {l : List UInt8} {tv : Tok} {i rest : Nat} {ch : UInt8} {tc : Tok}
    (h1 : N ≤ it1) (h2 : N ≤ it2) (h12 : it1 ≠ it2) (hrest : 8 * i + 8 + rest = n₀)
    (hF : ∀ j, j < 8 → F (8 * i + j) (.bool (decide (ch.toNat / 2 ^ (7 - j) % 2 = 1))))
    (hsp : splitAtGen fs = none) (hgd : gd false = false) (hfg : fs.any Frame.guarded = false) (hnd : (A.over (cIn C it2) (ownFrame K H gd lv (encEnv C) c p :: fs)).handled = none)
    (hnext : ∀ s₀ s m, Fr g C s.heap m → KBw.IsBytesIter s.heap it1 l.toArray tv (i + 1) → Live N s.heap → Mv N [C] s₀ s → Seg (model rw_.prog w) A (Rr N [C]) (Yy N [C] ex n₀ F) rest s₀ c (K .next) fs s) :
    ∀ k j, j + k = 8 → ∀ s₀ s m, Fr g C s.heap m → m (Str.ofString "char") = some (.int ((ch.toNat : Nat) : Int) tc) → s.heap.IsTupleIter it2 32 j → KBw.IsBytesIter s.heap it1 l.toArray tv (i + 1) → Live N s.heap → Mv N [C] s₀ s →
      Seg (model rw_.prog w) A (Rr N [C]) (Yy N [C] ex n₀ F) (rest + k) s₀ (cIn C it2) ((model rw_.prog w).den (cIn C it2)) (ownFrame K H gd lv (encEnv C) c p :: fs) s := by
  have hE : g.get? 32 = some (o32_1 w.params) := X 32 _ rfl
  intro k
  induction k with
  | zero =>
    intro j hj s₀ s m Fm hm hit hbit lv' mv
    have hT : s.heap.IsTuple 32 exps := ⟨_, Fm.keep _ _ hE, rfl, 0, rfl⟩
    refine seg_forLoop ?_
    refine wpAny_pyNext_tuple_end hnd hit hT (by rw [show j = 8 by omega]; rfl) fun h' hx => ?_
    refine seg_block ?_
    have n2 : ∀ b : Nat, b < N → b ≠ it2 := fun b q e => by subst e; exact absurd q (Nat.not_lt.mpr h2)
    refine hnext s₀ { s with heap := h' } m ⟨?_, fun b o e => hx b o (n2 b (Nat.lt_of_lt_of_le (Heap.lt_size e) (Nat.le_trans Fm.above (by omega)))) (Fm.keep b o e), Fm.above⟩ ?_ ?_ ?_
    · exact Fm.ns.at' fun o e => hx C o (n2 C (by omega)) e
    · obtain ⟨o, ho, r⟩ := hbit
      exact ⟨o, hx it1 o h12 ho, r⟩
    · obtain ⟨b, o, e, ho⟩ := lv'
      exact ⟨b, o, e, hx b o (n2 b (by omega)) ho⟩
    · exact mv.step (tk := s.toks) fun b o q _ e => hx b o (n2 b q) e
  | succ k ih =>
    intro j hj s₀ s m Fm hm hit hbit lv' mv
    have hT : s.heap.IsTuple 32 exps := ⟨_, Fm.keep _ _ hE, rfl, 0, rfl⟩
    have n2 : ∀ b : Nat, b < N → b ≠ it2 := fun b q e => by subst e; exact absurd q (Nat.not_lt.mpr h2)
    refine seg_forLoop ?_
    refine wpAny_pyNext_tuple_item hit hT (exps_at (by omega)) fun h' hit' hx => ?_
    have kx : ∀ (b : Nat) (o : Obj), b ≠ it2 → s.heap.get? b = some o → h'.get? b = some o := fun b o q e => hx.extBut b o q e
    have F1 : Fr g C h' m := ⟨Fm.ns.at' fun o e => kx C o (n2 C (by omega)) e, fun b o e => kx b o (n2 b (Nat.lt_of_lt_of_le (Heap.lt_size e) (Nat.le_trans Fm.above (by omega)))) (Fm.keep b o e), Fm.above⟩
    refine wpAny_assign_Name (wpAny_storeName_local rfl F1.ns (fun h2' hn hs => ?_))
    have F2 := F1.set hn hs
    have kc : ∀ (b : Nat) (o : Obj), b ≠ C → h'.get? b = some o → h2'.get? b = some o := fun b o q e => hs.extBut b o q e
    refine seg_execs_cons (seg_If ?_)
    refine wpAny_isTrue_value (wpAny_BinOp (nameX_L F2 ((if_neg (by decide)).trans hm) (nameX_L F2 (if_pos rfl) ?_ rfl rfl rfl) rfl rfl rfl))
    refine and_int ?_
    refine truthy_int ?_
    rw [bit_and]
    have hf := hF j (by omega)
    have hi : n₀ - 1 - (rest + k) = 8 * i + j := by omega
    have mv' : ∀ tk tk' : Nat, Mv N [C] s₀ { s with heap := h2', toks := tk } := fun tk _ => mv.step (tk := tk) fun b o q nw e => kc b o (fun z => nw (by rw [z]; exact List.Mem.head _)) (kx b o (n2 b q) e)
    have go : ∀ s' s'' : Shared, s'.heap = h2' → Kept N ex s' s'' → Seg (model rw_.prog w) A (Rr N [C]) (Yy N [C] ex n₀ F) (rest + k) s'' (cIn C it2) ((model rw_.prog w).den (cIn C it2)) (ownFrame K H gd lv (encEnv C) c p :: fs) s'' := fun s' s'' e kp => by
      have ne : ∀ b : Nat, N ≤ b → b ∉ ex := fun b q z => absurd (hexN b z) (Nat.not_lt.mpr q)
      have up : ∀ (b : Nat) (o : Obj), N ≤ b → b ≠ it2 → s.heap.get? b = some o → s''.heap.get? b = some o := fun b o q z e' => kp.1 b o (ne b q) (by rw [e]; exact kc b o (by omega) (kx b o z e'))
      refine ih (j + 1) (by omega) s'' s'' _ (frKept (s := s') (by rw [e]; exact F2) hex kp) (by exact (if_neg (by decide)).trans hm) ?_ ?_ kp.2 Mv.refl
      · obtain ⟨o, ho, r⟩ := hit'
        exact ⟨o, kp.1 it2 o (ne it2 h2) (by rw [e]; exact kc it2 o (by omega) ho), r⟩
      · obtain ⟨o, ho, r⟩ := hbit
        exact ⟨o, up it1 o h1 h12 ho, r⟩
    revert hf
    generalize decide (ch.toNat / 2 ^ (7 - j) % 2 = 1) = b
    intro hf
    have hsp' : splitAtGen (ownFrame K H gd lv (encEnv C) c p :: fs) = none := by
      show (splitAtGen fs).map _ = none
      rw [hsp]; rfl
    have hfg' : (ownFrame K H gd lv (encEnv C) c p :: fs).any Frame.guarded = false := by
      show (gd false || fs.any Frame.guarded) = false
      rw [hgd, hfg]; rfl
    cases b with
    | true =>
      refine seg_execs_cons (seg_Expr_Yield (n := rest + k) hsp' rfl hfg' (wpAny_Constant_bool fun kap hk => ⟨by rw [hi]; exact hf, mv' _ 0, fun s'' kp => hk .none s'' ?_⟩) rfl rfl)
      exact seg_execs_nil (seg_execs_nil (seg_again rfl (go _ s'' rfl kp)))
    | false =>
      refine seg_execs_cons (seg_Expr_Yield (n := rest + k) hsp' rfl hfg' (wpAny_Constant_bool fun kap hk => ⟨by rw [hi]; exact hf, mv' _ 0, fun s'' kp => hk .none s'' ?_⟩) rfl rfl)
      exact seg_execs_nil (seg_execs_nil (seg_again rfl (go _ s'' rfl kp)))
theorem ns_EXP (w : World) : nsIn (kfrag w.params) mainGlobals (Str.ofString "EXP") = some (some (.ref 32)) := by kernel_rfl
theorem enc_outer (X : (kfrag w.params).In g) (T : ctxTop mean mg mb g) (hC : C + 1 < N) (hex : ∀ b ∈ ex, b ≠ C ∧ g.get? b = none) (hexN : ∀ b ∈ ex, b < N)
    {K : Flow → Sem Fin} {H : Value → Sem Fin} {gd : Bool → Bool} {lv : List Value → List Value} {c : Code} {p : Pos} {fs : List Frame} {it1 : Nat} {l : List UInt8} {tv : Tok}
    (h1 : N ≤ it1) (hn0 : 8 * l.length = n₀)
    (hF : ∀ i ch, l[i]? = some ch → ∀ j, j < 8 → F (8 * i + j) (.bool (decide (ch.toNat / 2 ^ (7 - j) % 2 = 1))))
    (hsp : splitAtGen fs = none) (hgd : gd false = false) (hfg : fs.any Frame.guarded = false) (hnd : (A.over (cOut C it1) (ownFrame K H gd lv (encEnv C) c p :: fs)).handled = none)
    (hnd2 : ∀ it2 p2, (A.over (cIn C it2) (ownFrame (fun f => match f with | .next => (execs [] (encEnv C)).wrap (turnK (cOut C it1)) (turnH (encEnv C)) id id | f => turnK (cOut C it1) f) (turnH (encEnv C)) id id (encEnv C) (cOut C it1) p2 :: ownFrame K H gd lv (encEnv C) c p :: fs)).handled = none)
    (hnext : ∀ s₀ s m, Fr g C s.heap m → Live N s.heap → Mv N [C] s₀ s → Seg (model rw_.prog w) A (Rr N [C]) (Yy N [C] ex n₀ F) 0 s₀ c (K .next) fs s) :
    ∀ k i, i + k = l.length → ∀ s₀ s m, Fr g C s.heap m → KBw.IsBytesIter s.heap it1 l.toArray tv i → Live N s.heap → Mv N [C] s₀ s →
      Seg (model rw_.prog w) A (Rr N [C]) (Yy N [C] ex n₀ F) (8 * k) s₀ (cOut C it1) ((model rw_.prog w).den (cOut C it1)) (ownFrame K H gd lv (encEnv C) c p :: fs) s := by
  have n1 : ∀ b : Nat, b < N → b ≠ it1 := fun b q e => by subst e; exact absurd q (Nat.not_lt.mpr h1)
  intro k
  induction k with
  | zero =>
    intro i hi s₀ s m Fm hbit lv' mv
    refine seg_forLoop ?_
    refine KBw.next_end hnd hbit (by rw [List.getElem?_toArray]; exact List.getElem?_eq_none (by omega)) fun h' hx => ?_
    refine seg_block ?_
    refine hnext s₀ { s with heap := h' } m ⟨?_, fun b o e => hx b o (n1 b (Nat.lt_of_lt_of_le (Heap.lt_size e) (Nat.le_trans Fm.above (by omega)))) (Fm.keep b o e), Fm.above⟩ ?_ ?_
    · exact Fm.ns.at' fun o e => hx C o (n1 C (by omega)) e
    · obtain ⟨b, o, e, ho⟩ := lv'
      exact ⟨b, o, e, hx b o (n1 b (by omega)) ho⟩
    · exact mv.step (tk := s.toks) fun b o q _ e => hx b o (n1 b q) e
  | succ k ih =>
    intro i hi s₀ s m Fm hbit lv' mv
    refine seg_forLoop ?_
    obtain ⟨ch, hch⟩ : ∃ ch, l[i]? = some ch := ⟨l[i]'(by omega), List.getElem?_eq_getElem (by omega)⟩
    refine KBw.next_item hbit (by rw [List.getElem?_toArray]; exact hch) fun h' hbit' hx => ?_
    have kx : ∀ (b : Nat) (o : Obj), b ≠ it1 → s.heap.get? b = some o → h'.get? b = some o := fun b o q e => hx.extBut b o q e
    have F1 : Fr g C h' m := ⟨Fm.ns.at' fun o e => kx C o (n1 C (by omega)) e, fun b o e => kx b o (n1 b (Nat.lt_of_lt_of_le (Heap.lt_size e) (Nat.le_trans Fm.above (by omega)))) (Fm.keep b o e), Fm.above⟩
    refine wpAny_assign_Name (wpAny_storeName_local rfl F1.ns (fun h2' hn hs => ?_))
    have F2 := F1.set hn hs
    have kc : ∀ (b : Nat) (o : Obj), b ≠ C → h'.get? b = some o → h2'.get? b = some o := fun b o q e => hs.extBut b o q e
    have lv2 : Live N h2' := by
      obtain ⟨b, o, e, ho⟩ := lv'
      exact ⟨b, o, e, kc b o (by omega) (kx b o (n1 b (by omega)) ho)⟩
    have hb2 : KBw.IsBytesIter h2' it1 l.toArray tv (i + 1) := by
      obtain ⟨o, ho, r⟩ := hbit'
      exact ⟨o, kc it1 o (by omega) ho, r⟩
    have lt1 : it1 < h2'.objs.size := by
      obtain ⟨o, ho, r⟩ := hb2
      exact Heap.lt_size ho
    refine seg_execs_cons (seg_For ?_)
    refine nameX_K F2 X (topRead_of T) (ns_EXP w) ?_ rfl rfl rfl
    have hE : g.get? 32 = some (o32_1 w.params) := X 32 _ rfl
    refine wpAny_pyIter_tuple (items := exps) ⟨_, F2.keep _ _ hE, rfl, 0, rfl⟩ ?_
    intro p2
    have push : ∀ (b : Nat) (o o' : Obj), h2'.get? b = some o → (h2'.push o').get? b = some o := fun b o o' e => Heap.get?_push_of_some _ e
    have hnx : ∀ s₀ s m, Fr g C s.heap m → KBw.IsBytesIter s.heap it1 l.toArray tv (i + 1) → Live N s.heap → Mv N [C] s₀ s → Seg (model rw_.prog w) A (Rr N [C]) (Yy N [C] ex n₀ F) (8 * k) s₀ (cOut C it1) ((execs [] (encEnv C)).wrap (turnK (cOut C it1)) (turnH (encEnv C)) id id) (ownFrame K H gd lv (encEnv C) c p :: fs) s :=
      fun s₀ s m Fm hb lv mv => seg_execs_nil (seg_again rfl (ih (i + 1) (by omega) s₀ s m Fm hb lv mv))
    have hsp' : splitAtGen (ownFrame K H gd lv (encEnv C) c p :: fs) = none := by
      show (splitAtGen fs).map _ = none
      rw [hsp]; rfl
    have hfg' : (ownFrame K H gd lv (encEnv C) c p :: fs).any Frame.guarded = false := by
      show (gd false || fs.any Frame.guarded) = false
      rw [hgd, hfg]; rfl
    refine enc_inner (it1 := it1) (it2 := h2'.objs.size) (i := i) (rest := 8 * k) (ch := ch) X hC hex hexN h1 lv2.le (Nat.ne_of_lt lt1) (by omega) (hF i ch hch) hsp' rfl hfg' (hnd2 _ p2) hnx 8 0 rfl s₀ _ _ ⟨F2.ns.at' fun o e => push C o _ e, fun b o e => push b o _ (F2.keep b o e), F2.above⟩ (if_pos rfl) ?_ ?_ ?_ ?_
    · exact ⟨_, Heap.get?_push_size _ rfl, rfl, rfl⟩
    · obtain ⟨o, ho, r⟩ := hb2
      exact ⟨o, push it1 o _ ho, r⟩
    · obtain ⟨b, o, e, ho⟩ := lv2
      exact ⟨b, o, e, push b o _ ho⟩
    · exact mv.step fun b o q nw e => push b o _ (kc b o (fun z => nw (by rw [z]; exact List.Mem.head _)) (kx b o (n1 b q) e))
end
end
-- JxDraw
section
theorem jxDraw_rows1 : True := by
  k_with_none
  (k_with "jx gg" => first | exact GG.refl _ | assumption | (refine GG.trans ?_ (by assumption); walk_at "jx gg"))
  (k_with "jx asks" => ((case k1 => k_asm); (case k2 => k_asm); (case k3 => k_asm); (case k4 => k_asm); (case k5 => k_asm); (case k6 => first | exact rfl | assumption); (case k7 => ktr_room); (case k8 => ktr_units)))
  (k_with "jx ne" => first | assumption | exact List.forall_mem_nil _ | (refine List.forall_mem_cons.mpr ⟨(by first | assumption | exact fun p9 z9 => absurd (congrArg Obj.cls z9) (by intro y9; cases y9) | exact notTab_cell (by assumption)), ?_⟩; walk_at "jx ne"))
  (k_with "jx backP" => (intro v9 ps9 h9 g9 tk9 R9 t9P F9 N9 G9; (first | (obtain ⟨t9, e9⟩ := R9; subst e9) | subst R9); (try dsimp only); (try k_sweep); (try k_fold)))
  (k_with "jx back" => (intro v9 h9 g9 tk9 R9 F9 N9 G9; (first | (obtain ⟨t9, e9⟩ := R9; subst e9) | subst R9); (try dsimp only); (try k_sweep); (try k_fold)))
  (k_with "jx back0" => (intro v9 h9 tk9 R9 F9 N9; (first | (obtain ⟨t9, e9⟩ := R9; subst e9) | subst R9); (try dsimp only); (try k_sweep); (try k_fold)))
  (k_with "jx dive" => skip)
  (k_with "jx fly0" => (intro e9 t9 xs9 h19 h9 tk9 F9 U9 R9; (try dsimp only); walk_at "jx dive"; (try k_fold)))
  (k_with "jx flyN" => (intro e9 h19 h9 g9 tk9 F9 U9 R9 G9; (try dsimp only); walk_at "jx diveN"; (try k_fold)))
  (k_with "jx diveN" => skip)
  (k_with "jx fly" => (intro e9 t9 xs9 h19 h9 g9 tk9 F9 U9 R9 G9; (try dsimp only); walk_at "jx dive"; (try k_fold)))
  (k_with "jx dec" => first | assumption | decide | (simp only [List.size_toArray, List.length_append, List.length_cons, List.length_nil, bne_iff_ne, ne_eq, beq_iff_eq, Bool.not_eq_true, Decidable.not_not, decide_eq_true_eq, decide_eq_false_iff_not, Bool.not_true, Bool.not_false, reduceCtorEq, not_false_eq_true, not_true_eq_false]; done) | (simp only [List.size_toArray, List.length_append, List.length_cons, List.length_nil, bne_iff_ne, ne_eq, beq_iff_eq, Bool.not_eq_true, Decidable.not_not, decide_eq_true_eq, decide_eq_false_iff_not]; omega))
  (k_with "ite" => (k_here; first | rw [if_pos (by walk_at "jx dec")] | rw [if_neg (by walk_at "jx dec")]))
  exact trivial
structure MvH (N : Nat) (wr : List Addr) (s s' : Shared) : Prop where
  heap : ∀ (b : Nat) (o : Obj), b < N → b ∉ wr → s.heap.get? b = some o → s'.heap.get? b = some o
  drawn : s'.drawn = s.drawn
  os : s'.os = s.os
theorem MvH.refl {N : Nat} {wr : List Addr} {s : Shared} : MvH N wr s s := ⟨fun _ _ _ _ e => e, rfl, rfl⟩
theorem MvH.trans {N : Nat} {wr : List Addr} {s s' s'' : Shared} (x : MvH N wr s s') (y : MvH N wr s' s'') : MvH N wr s s'' :=
  ⟨fun b o h1 h2 e => y.heap b o h1 h2 (x.heap b o h1 h2 e), y.drawn.trans x.drawn, y.os.trans x.os⟩
theorem MvH.mono {N : Nat} {wr wr' : List Addr} {s s' : Shared} (x : MvH N wr s s') (h : ∀ b ∈ wr, b ∈ wr') : MvH N wr' s s' := ⟨fun b o q n e => x.heap b o q (fun m => n (h b m)) e, x.drawn, x.os⟩
structure Draws (w : World) (A : Around) (I : Addr) (N : Nat) (wr ex : List Addr) (n : Nat) (P : Nat → Value → Prop) (g0 : Array GenState) (St : Nat → Shared → Prop) (J : Heap → Prop) : Prop where
  item : ∀ i (s : Shared) (Q : Option Value → Shared → Prop) (E : Value → Shared → Prop), i < n → St i s → (∀ v s', P i v → St (i + 1) s' → Live N s'.heap → MvH N wr s s' → Q (some v) s') → wpAny (model rw_.prog w) A (pyNext (.ref I)) Q E s
  done : ∀ (s : Shared) (Q : Option Value → Shared → Prop) (E : Value → Shared → Prop), St n s → (∀ s', GG g0 s'.gens → MvH N wr s s' → J s'.heap → Q none s') → wpAny (model rw_.prog w) A (pyNext (.ref I)) Q E s
  frame : ∀ i (s : Shared) (h' : Heap) (tk : Nat), St i s → (∀ (b : Nat) (o : Obj), b ∉ ex → s.heap.get? b = some o → h'.get? b = some o) → Live N h' → St i { s with heap := h', toks := tk }
  self : ∀ i (s : Shared) (Q : Value → Shared → Prop) (E : Value → Shared → Prop), St i s → Q (.ref I) s → wpAny (model rw_.prog w) A (pyIter (.ref I)) Q E s
section
variable {w : World} {A : Around} {R : Result → Shared → Prop} {s : Shared}
theorem comp_draw {elt iter : Expr} {x : Str} {px : Pos} {scope : Scope} {pos : Pos} {I : Addr} {D N : Nat} {wr : List Addr} {n : Nat} {P : Nat → Value → Prop} {g0 : Array GenState} {St : Nat → Shared → Prop}
    {cenv : Env} {K : Nat} (hK : cenv.locals = K) {m : Str → Option Value} {J : Heap → Prop} (W : Draws w A I N wr [D, K] n P g0 St J) (G : Value → Value → Prop)
    (hx : cenv.kindOf x = some .local) (hp : (cenv.scope.kind == .class || (cenv.scope.kind == .module && cenv.locals != cenv.globals)) = false)
    (hDC : D ≠ K) (hDN : D < N) (hKN : K + 1 = N) (hDw : D ∉ wr) (hKw : K ∉ wr)
    (hst : St 0 s) (hacc : s.heap.PlainList D #[]) (hn : s.heap.Ns K m)
    (helt : ∀ i v (s₂ : Shared) m₂ E', P i v → s₂.heap.Ns K m₂ → m₂ x = some v → (∀ (b : Nat) (o : Obj), b < N → b ∉ D :: K :: wr → s.heap.get? b = some o → s₂.heap.get? b = some o) →
      wpAny (model rw_.prog w) A (eval elt cenv) (fun y s₃ => G v y ∧ Keeps s₂ s₃) E' s₂)
    (hR : ∀ s' m' ys, s'.heap.Ns K m' → s'.heap.PlainList D ys → ys.size = n → (∀ j, j < n → ∃ v y, P j v ∧ ys[j]? = some y ∧ G v y) → MvH N (D :: K :: wr) s s' → GG g0 s'.gens → R (.ok .next) s')
    (hsz : n ≤ sizeLine) :
    codeAny (model rw_.prog w) A (.compLoop (.ListComp elt [⟨.Name x px, iter, [], 0⟩] scope pos) 0 (.ref I) (.ref D) cenv) R s := by
  subst hK
  refine codeAny_compLoop_tests
    (fun k s' => ∃ i m' ys, k = n + 1 - i ∧ i ≤ n ∧ St i s' ∧ s'.heap.PlainList D ys ∧ s'.heap.Ns cenv.locals m' ∧ ys.size = i ∧ (∀ j, j < i → ∃ v y, P j v ∧ ys[j]? = some y ∧ G v y) ∧ MvH N (D :: cenv.locals :: wr) s s') ?_ (n + 1)
    ⟨0, m, #[], rfl, Nat.zero_le _, hst, hacc, hn, rfl, (fun j h => absurd h (Nat.not_lt_zero j)), MvH.refl⟩
  rintro k s' ⟨i, m', ys, rfl, hi, hst', hacc', hn', hys, hP, mv⟩
  have sub : ∀ b ∈ wr, b ∈ D :: cenv.locals :: wr := fun b h => List.Mem.tail _ (List.Mem.tail _ h)
  by_cases hlt : i < n
  · refine W.item i _ _ _ hlt hst' fun v s₁ hPv hst₁ _ mv₁ => ?_
    have hn₁ : s₁.heap.Ns cenv.locals m' := hn'.at' fun o e => mv₁.heap _ o (by rw [← hKN]; exact Nat.lt_succ_self _) hKw e
    have ha₁ : s₁.heap.PlainList D ys := hacc'.at fun o e => mv₁.heap _ o hDN hDw e
    refine wpAny_assign_Name (wpAny_storeName_local hx hn₁ (fun h₂ hn₂ hs₂ => ?_) hp)
    have k₂ : ∀ (b : Nat) (o : Obj), b ≠ cenv.locals → s₁.heap.get? b = some o → h₂.get? b = some o := fun b o q e => hs₂.extBut b o q e
    have mv₂ : ∀ tk, MvH N (D :: cenv.locals :: wr) s { s₁ with heap := h₂, toks := tk } := fun tk =>
      (mv.trans (mv₁.mono sub)).trans ⟨fun b o _ nm e => k₂ b o (fun z => nm (by rw [z]; exact List.Mem.tail _ (List.Mem.head _))) e, rfl, rfl⟩
    refine wpAny_pure ?_
    rw [if_pos rfl]
    refine wpAny_mono (helt i v _ _ _ hPv hn₂ (by simp) fun b o q nm e => (mv₂ 0).heap b o q nm e) (fun y s₄ h₄ => ?_) fun _ _ e => e
    obtain ⟨hG, h₄', tk₄, rfl, hk₄⟩ := h₄
    have ha₄ : h₄'.PlainList D ys := (ha₁.at fun o e => k₂ D o hDC e).at fun o e => hk₄ _ o e
    refine wpAny_list_append_plain (hsz := by omega) ha₄ fun h₅ hl₅ hs₅ => ?_
    have k₅ : ∀ (b : Nat) (o : Obj), b ≠ D → h₄'.get? b = some o → h₅.get? b = some o := fun b o q e => hs₅.extBut b o q e
    have hn₅ : h₅.Ns cenv.locals _ := (hn₂.keeps hk₄).at' fun o e => k₅ _ o (Ne.symm hDC) e
    refine ⟨n + 1 - (i + 1), by omega, i + 1, _, ys.push y, rfl, hlt, ?_, hl₅, hn₅, by rw [Array.size_push, hys], fun j hj => ?_, ?_⟩
    · refine W.frame (i + 1) s₁ h₅ tk₄ hst₁ (fun b o nm e => k₅ b o (fun z => nm (by rw [z]; exact List.Mem.head _)) (hk₄ b o (k₂ b o (fun z => nm (by rw [z]; exact List.Mem.tail _ (List.Mem.head _))) e))) ?_
      obtain ⟨o, es, ep, ho, _⟩ := hn₅
      exact ⟨cenv.locals, o, hKN, ho⟩
    · by_cases e : j < i
      · obtain ⟨v', y', a1, a2, a3⟩ := hP j e
        exact ⟨v', y', a1, by rw [Array.getElem?_push, if_neg (by omega)]; exact a2, a3⟩
      · have : j = i := by omega
        subst this
        exact ⟨v, y, hPv, by rw [Array.getElem?_push, if_pos hys.symm], hG⟩
    · exact (mv₂ tk₄).trans ⟨fun b o _ nm e => k₅ b o (fun z => nm (by rw [z]; exact List.Mem.head _)) (hk₄ b o e), rfl, rfl⟩
  · have hin : i = n := by omega
    subst hin
    refine W.done _ _ _ hst' fun s₁ hg mv₁ _ => ?_
    exact hR s₁ m' ys (hn'.at' fun o e => mv₁.heap _ o (by rw [← hKN]; exact Nat.lt_succ_self _) hKw e) (hacc'.at fun o e => mv₁.heap _ o hDN hDw e) hys hP (mv.trans (mv₁.mono sub)) hg
end
end
-- JxDrawG
section
theorem jxDrawG_rows1 : True := by
  k_with_none
  (k_with "jx gg" => first | exact GG.refl _ | assumption | (refine GG.trans ?_ (by assumption); walk_at "jx gg"))
  (k_with "jx asks" => ((case k1 => k_asm); (case k2 => k_asm); (case k3 => k_asm); (case k4 => k_asm); (case k5 => k_asm); (case k6 => first | exact rfl | assumption); (case k7 => ktr_room); (case k8 => ktr_units)))
  (k_with "jx ne" => first | assumption | exact List.forall_mem_nil _ | (refine List.forall_mem_cons.mpr ⟨(by first | assumption | exact fun p9 z9 => absurd (congrArg Obj.cls z9) (by intro y9; cases y9) | exact notTab_cell (by assumption)), ?_⟩; walk_at "jx ne"))
  (k_with "jx backP" => (intro v9 ps9 h9 g9 tk9 R9 t9P F9 N9 G9; (first | (obtain ⟨t9, e9⟩ := R9; subst e9) | subst R9); (try dsimp only); (try k_sweep); (try k_fold)))
  (k_with "jx back" => (intro v9 h9 g9 tk9 R9 F9 N9 G9; (first | (obtain ⟨t9, e9⟩ := R9; subst e9) | subst R9); (try dsimp only); (try k_sweep); (try k_fold)))
  (k_with "jx back0" => (intro v9 h9 tk9 R9 F9 N9; (first | (obtain ⟨t9, e9⟩ := R9; subst e9) | subst R9); (try dsimp only); (try k_sweep); (try k_fold)))
  (k_with "jx dive" => skip)
  (k_with "jx fly0" => (intro e9 t9 xs9 h19 h9 tk9 F9 U9 R9; (try dsimp only); walk_at "jx dive"; (try k_fold)))
  (k_with "jx flyN" => (intro e9 h19 h9 g9 tk9 F9 U9 R9 G9; (try dsimp only); walk_at "jx diveN"; (try k_fold)))
  (k_with "jx diveN" => skip)
  (k_with "jx fly" => (intro e9 t9 xs9 h19 h9 g9 tk9 F9 U9 R9 G9; (try dsimp only); walk_at "jx dive"; (try k_fold)))
  (k_with "jx dec" => first | assumption | decide | (simp only [List.size_toArray, List.length_append, List.length_cons, List.length_nil, bne_iff_ne, ne_eq, beq_iff_eq, Bool.not_eq_true, Decidable.not_not, decide_eq_true_eq, decide_eq_false_iff_not, Bool.not_true, Bool.not_false, reduceCtorEq, not_false_eq_true, not_true_eq_false]; done) | (simp only [List.size_toArray, List.length_append, List.length_cons, List.length_nil, bne_iff_ne, ne_eq, beq_iff_eq, Bool.not_eq_true, Decidable.not_not, decide_eq_true_eq, decide_eq_false_iff_not]; omega))
  (k_with "ite" => (k_here; first | rw [if_pos (by walk_at "jx dec")] | rw [if_neg (by walk_at "jx dec")]))
  exact trivial
noncomputable def GGx (g0 : Array GenState) (gi : Nat) (g : Array GenState) : Prop := (∀ (i : Nat) x, i ≠ gi → g0[i]? = some x → g[i]? = some x) ∧ (∀ (i : Nat) x, i ≠ gi → g[i]? = some x → g0[i]? = some x ∨ x.bare = true)
section
variable {w : World} {A : Around}
theorem ggx_set {g0 : Array GenState} {gi : Nat} {s s₁ : Shared} {y : GenState} {x : GenState} (h : GGx g0 gi s.gens) (hs : s.gens[gi]? = some y) (m : GG (s.setGen gi .running).gens s₁.gens) : GGx g0 gi (s₁.setGen gi x).gens ∧ (s₁.setGen gi x).gens[gi]? = some x := by
  have e1 := m.old gi .running (setGen_self hs)
  have ne : ∀ (s : Shared) (x : GenState) (i : Nat), i ≠ gi → (s.setGen gi x).gens[i]? = s.gens[i]? := fun s x i q => by
    show (s.gens.setIfInBounds gi x)[i]? = _
    rw [Array.getElem?_setIfInBounds_ne (Ne.symm q)]
  refine ⟨⟨fun i z q e => ?_, fun i z q e => ?_⟩, setGen_self e1⟩
  · rw [ne _ _ _ q]
    exact m.old i z (by rw [ne _ _ _ q]; exact h.1 i z q e)
  · rw [ne _ _ _ q] at e
    rcases m.bare i z e with r | r
    · rw [ne _ _ _ q] at r
      exact h.2 i z q r
    · exact .inr r
/-- what a generator's object must be, i items drawn -/
noncomputable def GenSt (w : World) (A : Around) (N : Nat) (wr ex : List Addr) (n : Nat) (F : Nat → Value → Prop) (g0 : Array GenState) (a : Addr) (gi : Nat) (J : Heap → Prop) (i : Nat) (s : Shared) : Prop :=
  s.heap.IsGen a gi ∧ s.heap.NoLimit ∧ Live N s.heap ∧ GGx g0 gi s.gens ∧ ∃ gs, s.gens[gi]? = some gs ∧ ∀ s'', Kept N ex s s'' → gs.Goes (model rw_.prog w) A.in1 (Rr N wr J) (Yy N wr ex n F) (n - i) (.send .none) s''
theorem draws_fn (hh : A.handled = none) (hroom : A.depth < recursionLimit) {N : Nat} {wr ex : List Addr} {n : Nat} {F : Nat → Value → Prop} {g0 : Array GenState} {a gi : Nat} (hg0 : g0.size = gi)
    (haN : a < N) (haw : a ∉ wr) (hae : a ∉ ex) (hcN : (cStatics : Nat) < N) (hcw : cStatics ∉ wr) (hce : cStatics ∉ ex) (hNw : ∀ b : Nat, b + 1 = N → b ∉ wr) {J : Heap → Prop} (hJ : ∀ h h' : Heap, J h → (∀ b o, h.get? b = some o → h'.get? b = some o) → J h') :
    Draws w A a N wr ex n F g0 (GenSt w A N wr ex n F g0 a gi J) J where
  item := fun i s Q E hi st hQ => by
    obtain ⟨hg, hl, lv, gg, gs, hgs, hgo⟩ := st
    obtain ⟨k, hk⟩ : ∃ k, n - i = k + 1 := ⟨n - i - 1, by omega⟩
    rw [hk] at hgo
    have kp : Kept N ex s (s.setGen gi .running) := ⟨fun _ _ _ e => e, lv⟩
    refine pyNext_fn (P := fun n s₀ s₁ => n = 0 ∧ (Mv N wr s₀ s₁ ∧ J s₁.heap)) hh hl hroom hg hgs (hgo _ kp) (fun v s₁ gs' hb hv => ?_) (fun s₁ hp h' hk' hsz => ?_)
    · obtain ⟨hF, mv, hkap⟩ := hv
      obtain ⟨q1, q2⟩ := ggx_set (x := gs') gg hgs mv.gens
      have lv' : Live N s₁.heap := by
        obtain ⟨b, o, e, ho⟩ := lv
        exact ⟨b, o, e, mv.heap b o (by omega) (hNw b e) ho⟩
      have hidx : n - 1 - (k + 1 - 1) = i := by omega
      rw [hidx] at hF
      refine hQ v _ hF ⟨?_, ?_, lv', q1, gs', q2, fun s'' kp' => ?_⟩ lv' ⟨mv.heap, mv.drawn, mv.os⟩
      · obtain ⟨o, nm, qn, ho, r⟩ := hg
        exact ⟨o, nm, qn, mv.heap a o haN haw ho, r⟩
      · obtain ⟨mc, hns, hnn⟩ := hl
        exact ⟨mc, hns.at' fun o e => mv.heap cStatics o hcN hcw e, hnn⟩
      · have e : n - (i + 1) = k := by omega
        rw [e]
        exact hkap s'' kp'
    · exact absurd hp.1 (Nat.succ_ne_zero k)
  done := fun s Q E st hQ => by
    obtain ⟨hg, hl, lv, gg, gs, hgs, hgo⟩ := st
    rw [Nat.sub_self] at hgo
    have kp : Kept N ex s (s.setGen gi .running) := ⟨fun _ _ _ e => e, lv⟩
    refine pyNext_fn (P := fun n s₀ s₁ => n = 0 ∧ (Mv N wr s₀ s₁ ∧ J s₁.heap)) hh hl hroom hg hgs (hgo _ kp) (fun v s₁ gs' hb hv => ?_) (fun s₁ hp h' hk' hsz => ?_)
    · obtain ⟨_, mv, hkap⟩ := hv
      have lv' : Live N s₁.heap := by
        obtain ⟨b, o, e, ho⟩ := lv
        exact ⟨b, o, e, mv.heap b o (by omega) (hNw b e) ho⟩
      exact (hkap s₁ ⟨fun _ _ _ e => e, lv'⟩).elim
    · obtain ⟨_, mv, hJ1⟩ := hp
      obtain ⟨q1, q2⟩ := ggx_set (x := .finished) gg hgs mv.gens
      refine hQ _ ⟨fun i x e => q1.1 i x ?_ e, fun i x e => ?_⟩ ⟨fun b o q nw e => hk' b o (mv.heap b o q nw e), mv.drawn, mv.os⟩ (hJ _ _ hJ1 hk')
      · have : i < g0.size := by
          rcases Nat.lt_or_ge i g0.size with h' | h'
          · exact h'
          · rw [Array.getElem?_eq_none h'] at e; cases e
        omega
      · by_cases z : i = gi
        · subst z
          rw [show (s₁.setGen i .finished).gens[i]? = some GenState.finished from q2] at e
          cases e
          exact .inr rfl
        · exact q1.2 i x z e
  frame := fun i s h' tk st hk lv' => by
    obtain ⟨hg, hl, lv, gg, gs, hgs, hgo⟩ := st
    refine ⟨?_, ?_, lv', gg, gs, hgs, fun s'' kp => hgo s'' ⟨fun b o nm e => kp.1 b o nm (hk b o nm e), kp.2⟩⟩
    · obtain ⟨o, nm, qn, ho, r⟩ := hg
      exact ⟨o, nm, qn, hk a o hae ho, r⟩
    · obtain ⟨mc, hns, hnn⟩ := hl
      exact ⟨mc, hns.at' fun o e => hk cStatics o hce e, hnn⟩
  self := fun _ _ _ _ st hQ => wpAny_pyIter_gen st.1 hQ
end
end
-- JxBin
section
theorem jxBin_rows1 : True := by
  k_with_none
  (k_with "jx gg" => first | exact GG.refl _ | assumption | (refine GG.trans ?_ (by assumption); walk_at "jx gg"))
  (k_with "jx asks" => ((case k1 => k_asm); (case k2 => k_asm); (case k3 => k_asm); (case k4 => k_asm); (case k5 => k_asm); (case k6 => first | exact rfl | assumption); (case k7 => ktr_room); (case k8 => ktr_units)))
  (k_with "jx ne" => first | assumption | exact List.forall_mem_nil _ | (refine List.forall_mem_cons.mpr ⟨(by first | assumption | exact fun p9 z9 => absurd (congrArg Obj.cls z9) (by intro y9; cases y9) | exact notTab_cell (by assumption)), ?_⟩; walk_at "jx ne"))
  (k_with "jx backP" => (intro v9 ps9 h9 g9 tk9 R9 t9P F9 N9 G9; (first | (obtain ⟨t9, e9⟩ := R9; subst e9) | subst R9); (try dsimp only); (try k_sweep); (try k_fold)))
  (k_with "jx back" => (intro v9 h9 g9 tk9 R9 F9 N9 G9; (first | (obtain ⟨t9, e9⟩ := R9; subst e9) | subst R9); (try dsimp only); (try k_sweep); (try k_fold)))
  (k_with "jx back0" => (intro v9 h9 tk9 R9 F9 N9; (first | (obtain ⟨t9, e9⟩ := R9; subst e9) | subst R9); (try dsimp only); (try k_sweep); (try k_fold)))
  (k_with "jx dive" => skip)
  (k_with "jx fly0" => (intro e9 t9 xs9 h19 h9 tk9 F9 U9 R9; (try dsimp only); walk_at "jx dive"; (try k_fold)))
  (k_with "jx flyN" => (intro e9 h19 h9 g9 tk9 F9 U9 R9 G9; (try dsimp only); walk_at "jx diveN"; (try k_fold)))
  (k_with "jx diveN" => skip)
  (k_with "jx fly" => (intro e9 t9 xs9 h19 h9 g9 tk9 F9 U9 R9 G9; (try dsimp only); walk_at "jx dive"; (try k_fold)))
  (k_with "jx dec" => first | assumption | decide | (simp only [List.size_toArray, List.length_append, List.length_cons, List.length_nil, bne_iff_ne, ne_eq, beq_iff_eq, Bool.not_eq_true, Decidable.not_not, decide_eq_true_eq, decide_eq_false_iff_not, Bool.not_true, Bool.not_false, reduceCtorEq, not_false_eq_true, not_true_eq_false]; done) | (simp only [List.size_toArray, List.length_append, List.length_cons, List.length_nil, bne_iff_ne, ne_eq, beq_iff_eq, Bool.not_eq_true, Decidable.not_not, decide_eq_true_eq, decide_eq_false_iff_not]; omega))
  (k_with "ite" => (k_here; first | rw [if_pos (by walk_at "jx dec")] | rw [if_neg (by walk_at "jx dec")]))
  exact trivial
theorem gen_call {w : World} {A : Around} {s : Shared} {R : Result → Shared → Prop} {f : Addr} {args : Args} {o : Obj} {fd : FuncData} {body : List Stmt} {binds : List (Str × Value)}
    (hroom : A.depth < recursionLimit) (ho : s.heap.get? f = some o) (hd' : o.data = .func fd) (hlim : s.heap.NoLimit) (hcd : s.heap.CodeRec fd.code fd.qualname) (hbody : fd.body = .stmts body) (hbind : BindsTo s fd args binds)
    (hcell : ∀ x ∈ fd.scope.names, x.2 ≠ .cell) (hloc : ∀ x ∈ binds, fd.scope.names.lookup x.1 = some .local)
    (h : ∀ h₁ : Heap, h₁.Ns s.heap.objs.size (fun x => binds.reverse.lookup x) → (∀ b o, s.heap.get? b = some o → h₁.get? b = some o) → h₁.objs.size = s.heap.objs.size + 1 → ∀ tk tk₁ tk₂,
      R (.ok (.ret (.ref h₁.objs.size))) { s with heap := h₁.push { cls := .type "generator", data := .fields #[.int s.gens.size 0, .str fd.name tk₁, .str fd.qualname tk₂] }, gens := s.gens.push (.fresh (.func body (callEnv fd s.heap.objs.size f))), toks := tk })
    (hco : fd.scope.isCoroutine = false := by rfl) (hgen : fd.scope.isGenerator = true := by rfl) (hk : fd.scope.kind = .function := by rfl) :
    codeAny (model rw_.prog w) A (.call (.ref f) args) R s := by
  refine codeAny_call_generator hroom ho hd' hco hgen hbody hcd (hbind _ _ _ _ ?_)
  refine wpAny_newFunctionEnv hcell hloc (fun h₀ hns₀ hsb₀ => ⟨hlim.fresh _ hsb₀, ?_⟩) hk
  exact h h₀ hns₀ (fun b o e => hsb₀.extBut b o (Nat.ne_of_lt (Heap.lt_size e)) (Heap.get?_push_of_some _ e)) (by rw [hsb₀.1, Heap.size_push]) _ _ _

section
variable {w : World} {A : Around} {g : Heap} {C N : Nat} {ex : List Addr} {F : Nat → Value → Prop} {mean : ExcName → Option Value} {mg mb : Str → Option Value}
theorem enc_fresh (hh : A.handled = none) (X : (kfrag w.params).In g) (T : ctxTop mean mg mb g) (hC : C + 1 < N) (hex : ∀ b ∈ ex, b ≠ C ∧ g.get? b = none) (hexN : ∀ b ∈ ex, b < N) {l : List UInt8} {tv : Tok}
    (hF : ∀ i ch, l[i]? = some ch → ∀ j, j < 8 → F (8 * i + j) (.bool (decide (ch.toNat / 2 ^ (7 - j) % 2 = 1)))) {s : Shared} {m : Str → Option Value}
    (Fm : Fr g C s.heap m) (hm : m (Str.ofString "value") = some (.bytes l.toArray tv)) (lv : Live N s.heap) :
    Seg (model rw_.prog w) A (Rr N [C]) (Yy N [C] ex (8 * l.length) F) (8 * l.length) s (.func fnB20 (encEnv C)) ((model rw_.prog w).den (.func fnB20 (encEnv C))) [] s := by
  refine seg_func ?_
  rw [encBody]
  refine seg_execs_cons (seg_For ?_)
  refine nameX_L Fm hm ?_ rfl rfl rfl
  refine KBw.pyIter_bytes ?_
  intro p
  refine enc_outer (it1 := s.heap.objs.size) (l := l) (tv := tv) X T hC hex hexN lv.le rfl hF rfl rfl rfl ?_ ?_ ?_ l.length 0 (Nat.zero_add _) s _ m ⟨Fm.ns.at' fun o e => Heap.get?_push_of_some _ e, fun b o e => Heap.get?_push_of_some _ (Fm.keep b o e), Fm.above⟩ ⟨_, Heap.get?_push_size _ rfl, rfl, rfl⟩ ?_ ?_
  · show (marksOver _ (A.handled, A.handled)).1 = none
    rw [hh]; rfl
  · intro it2 p2
    show (marksOver _ (A.handled, A.handled)).1 = none
    rw [hh]; rfl
  · intro s₀ s m Fm lv mv
    exact seg_execs_nil (seg_end (.ok (.ret .none)) ⟨rfl, rfl, mv, trivial⟩)
  · obtain ⟨b, o, e, ho⟩ := lv
    exact ⟨b, o, e, Heap.get?_push_of_some _ ho⟩
  · exact ⟨fun b o _ _ e => Heap.get?_push_of_some _ e, GG.refl _, rfl, rfl⟩
end
noncomputable abbrev bitElt : Expr := ((Expr.Name (Str.ofString "int") { line := 27, col := 18, endLine := 27, endCol := 21 }).Call
                    [Expr.Name (Str.ofString "bit") { line := 27, col := 22, endLine := 27, endCol := 25 }] []
                    { line := 27, col := 18, endLine := 27, endCol := 26 })
noncomputable abbrev bitScope : Scope := { kind := ScopeKind.function, names := [(Str.ofString ".0", NameKind.local), (Str.ofString "bit", NameKind.local), (Str.ofString "int", NameKind.globalImplicit)], isGenerator := false, isCoroutine := false }
theorem ns_int (w : World) : nsIn (kfrag w.params) mainGlobals (Str.ofString "int") = some none := by kernel_rfl
theorem bit_elt {w : World} {A : Around} {s : Shared} {h₀ : Heap} {mean : ExcName → Option Value} {mg mb : Str → Option Value} {K : Nat} {m₂ : Str → Option Value} {b : Bool} {E' : Value → Shared → Prop} {cn : Str} {cs : Scope} {L a : Addr} {ccd : Value} {cl : List (Str × Addr)}
    (X : (kfrag w.params).In h₀) (T : ctxTop mean mg mb h₀) (kp : ∀ b o, h₀.get? b = some o → s.heap.get? b = some o) (hn : s.heap.Ns K m₂) (hm : m₂ (Str.ofString "bit") = some (.bool b)) :
    wpAny (model rw_.prog w) A (eval bitElt (compEnv bitScope K (envX cn cs L a ccd cl))) (fun y s₃ => (∃ t, y = .int (if b then 1 else 0) t) ∧ Keeps s s₃) E' s := by
  refine wpAny_Call_ofName (Name_function_global rfl rfl (loadGlobal_builtin (v := .type "int") (T.g.keeps kp) (mg_none_of X T.g (ns_int w)) (T.b.keeps kp) ((T.builtins _ (by decide)).trans rfl) ?_) rfl)
  k_steps
  exact ⟨_, _, rfl, fun _ _ e => e⟩
end
-- JxBinB
section
theorem jxBinB_rows1 : True := by
  k_with_none
  (k_with "jx gg" => first | exact GG.refl _ | assumption | (refine GG.trans ?_ (by assumption); walk_at "jx gg"))
  (k_with "jx asks" => ((case k1 => k_asm); (case k2 => k_asm); (case k3 => k_asm); (case k4 => k_asm); (case k5 => k_asm); (case k6 => first | exact rfl | assumption); (case k7 => ktr_room); (case k8 => ktr_units)))
  (k_with "jx ne" => first | assumption | exact List.forall_mem_nil _ | (refine List.forall_mem_cons.mpr ⟨(by first | assumption | exact fun p9 z9 => absurd (congrArg Obj.cls z9) (by intro y9; cases y9) | exact notTab_cell (by assumption)), ?_⟩; walk_at "jx ne"))
  (k_with "jx backP" => (intro v9 ps9 h9 g9 tk9 R9 t9P F9 N9 G9; (first | (obtain ⟨t9, e9⟩ := R9; subst e9) | subst R9); (try dsimp only); (try k_sweep); (try k_fold)))
  (k_with "jx back" => (intro v9 h9 g9 tk9 R9 F9 N9 G9; (first | (obtain ⟨t9, e9⟩ := R9; subst e9) | subst R9); (try dsimp only); (try k_sweep); (try k_fold)))
  (k_with "jx back0" => (intro v9 h9 tk9 R9 F9 N9; (first | (obtain ⟨t9, e9⟩ := R9; subst e9) | subst R9); (try dsimp only); (try k_sweep); (try k_fold)))
  (k_with "jx dive" => skip)
  (k_with "jx fly0" => (intro e9 t9 xs9 h19 h9 tk9 F9 U9 R9; (try dsimp only); walk_at "jx dive"; (try k_fold)))
  (k_with "jx flyN" => (intro e9 h19 h9 g9 tk9 F9 U9 R9 G9; (try dsimp only); walk_at "jx diveN"; (try k_fold)))
  (k_with "jx diveN" => skip)
  (k_with "jx fly" => (intro e9 t9 xs9 h19 h9 g9 tk9 F9 U9 R9 G9; (try dsimp only); walk_at "jx dive"; (try k_fold)))
  (k_with "jx dec" => first | assumption | decide | (simp only [List.size_toArray, List.length_append, List.length_cons, List.length_nil, bne_iff_ne, ne_eq, beq_iff_eq, Bool.not_eq_true, Decidable.not_not, decide_eq_true_eq, decide_eq_false_iff_not, Bool.not_true, Bool.not_false, reduceCtorEq, not_false_eq_true, not_true_eq_false]; done) | (simp only [List.size_toArray, List.length_append, List.length_cons, List.length_nil, bne_iff_ne, ne_eq, beq_iff_eq, Bool.not_eq_true, Decidable.not_not, decide_eq_true_eq, decide_eq_false_iff_not]; omega))
  (k_with "ite" => (k_here; first | rw [if_pos (by walk_at "jx dec")] | rw [if_neg (by walk_at "jx dec")]))
  exact trivial
noncomputable def encIt : Expr := (Expr.Name (Str.ofString "_encode_to_bin") { line := 27, col := 38, endLine := 27, endCol := 52 }).Call [Expr.Name (Str.ofString "value") { line := 27, col := 53, endLine := 27, endCol := 58 }] [] { line := 27, col := 38, endLine := 27, endCol := 59 }
noncomputable def encList : Expr := bitElt.ListComp [{ target := Expr.Name (Str.ofString "bit") { line := 27, col := 31, endLine := 27, endCol := 34 }, iter := encIt, ifs := [], is_async := 0 }] bitScope { line := 27, col := 17, endLine := 27, endCol := 60 }
theorem isGen_keeps' {h h' : Heap} {a g} (x : h.IsGen a g) (hk : ∀ o, h.get? a = some o → h'.get? a = some o) : h'.IsGen a g :=
  let ⟨o, nm, qn, ho, r⟩ := x; ⟨o, nm, qn, hk _ ho, r⟩
section
variable {w : World} {mean : ExcName → Option Value} {mg mb : Str → Option Value} {dp un : Nat} {gd : Option (List Code)} {cn : Str} {cs : Scope} {a : Addr} {ccd : Value} {cl : List (Str × Addr)} {outer : List Env} {A₀ : Around} {base h₀ : Heap} {L : Addr} {m : Str → Option Value} {news : List (Addr × Obj)} {s : Shared} {Q E : Value → Shared → Prop}
theorem enc_call {l : List UInt8} {tv : Tok} (B : Below A₀ base outer h₀) (F : Fr h₀ L s.heap m) (X : (kfrag w.params).In h₀) (N : News h₀ L s.heap news) (T : ctxTop mean mg mb h₀) (hk : cs.kind = .function) (hd : dp + 2 < recursionLimit) (hu : un + 8 * 2 < cLine) (hz : l.length ≤ 4000)
    (ret : ∀ D ys n, ys.size = 8 * l.length → (∀ j, j < 8 * l.length → ∃ t, ys[j]? = some (.int (if bitAt l j then 1 else 0) t)) → RetOk h₀ L m ((D, listOf ys n) :: news) s Q (.ref D)) :
    wpAny (model rw_.prog w) (ktrTop dp un gd cn cs L a ccd cl outer) (call (.ref 135) [.bytes l.toArray tv]) (fun x s₁ => wpAny (model rw_.prog w) (ktrTop dp un gd cn cs L a ccd cl outer) (pyIter x) (fun it s₂ => wpAny (model rw_.prog w) (ktrTop dp un gd cn cs L a ccd cl outer) (newList []) (fun acc s₃ =>
      wpAny (model rw_.prog w) (ktrTop dp un gd cn cs L a ccd cl outer) (newFunctionEnv bitScope (envX cn cs L a ccd cl).globals [] [] (envX cn cs L a ccd cl).qual none .none (some (envX cn cs L a ccd cl))) (fun cenv s₄ =>
        codeAny (model rw_.prog w) (ktrTop dp un gd cn cs L a ccd cl outer) (.compStart encList 0 it acc { cenv with scope := bitScope })
          (fun r s' => ∃ m, s'.heap.Ns cenv.locals m ∧ ∀ h', Heap.SameBut cenv.locals s'.heap h' →
            match r with | .ok _ => Q acc { s' with heap := h' } | .error x => wpAny (model rw_.prog w) (ktrTop dp un gd cn cs L a ccd cl outer) (passOn "comprehension.variables-let-go" x { cenv with scope := bitScope }) Q E { s' with heap := h' }) s₄) E s₃) E s₂) E s₁) E s := by
  have hL : L < s.heap.objs.size := by
    obtain ⟨o, _, _, ho, _⟩ := F.ns
    exact Heap.lt_size ho
  have hzs : h₀.objs.size ≤ s.heap.objs.size := Nat.le_trans F.above (Nat.le_of_lt hL)
  refine wpAny_call (gen_call (o := o135_5 w.params) (fd := fnOf (Str.ofString "_encode_to_bin") (Str.ofString "_encode_to_bin") fnP20 fnB20 fnS20 .none .none .none (.str (Str.ofString "trie.utils.binaries") 336) none (.ref 134) .none) (body := fnB20) (binds := [(Str.ofString "value", .bytes l.toArray tv)])
    (by show dp < recursionLimit; omega) (F.keep _ _ (X 135 _ (by kernel_rfl))) rfl (T.nolimit.keeps F.keep) (codeRec_of (X.keeps F.keep) (by kernel_rfl)) rfl (BindsTo.of_eq rfl) (by decide) (locs rfl) (fun h₁ hns hk₁ hsz tk tk₁ tk₂ => ?_) rfl rfl rfl)
  have hbz := hns
  generalize hC : s.heap.objs.size = C at hns hsz ⊢
  have hC' : C = s.heap.objs.size := hC.symm
  have a1 : h₁.objs.size = C + 1 := hsz
  refine wpAny_pyIter_gen (g := s.gens.size) ⟨_, _, _, Heap.get?_push_size _ rfl, rfl, rfl, rfl⟩ ?_
  generalize hg2 : h₁.push _ = H2
  have z2 : H2.objs.size = C + 2 := by rw [← hg2, Heap.size_push, a1]
  have up2 : ∀ b o, h₁.get? b = some o → H2.get? b = some o := fun b o e => hg2 ▸ Heap.get?_push_of_some _ e
  have hgen : H2.IsGen (C + 1) s.gens.size := hg2 ▸ ⟨_, _, _, a1 ▸ Heap.get?_push_size _ rfl, rfl, rfl, rfl⟩
  refine wpAny_newObj_type ?_
  generalize hg3 : H2.push _ = H3
  have z3 : H3.objs.size = C + 3 := by rw [← hg3, Heap.size_push, z2]
  have up3 : ∀ b o, H2.get? b = some o → H3.get? b = some o := fun b o e => hg3 ▸ Heap.get?_push_of_some _ e
  have hD3 : H3.PlainList (C + 2) #[] := hg3 ▸ ⟨_, z2 ▸ Heap.get?_push_size _ rfl⟩
  refine wpAny_newFunctionEnv (by decide) (by intro y hy; simp at hy) (fun h₃ hns₃ hsb₃ => ?_) rfl
  dsimp only at hns₃ hsb₃ ⊢
  rw [z3] at hns₃ hsb₃ ⊢
  have up4 : ∀ (b : Nat) (o : Obj), b ≠ C + 3 → H3.get? b = some o → h₃.get? b = some o := fun b o q e => hsb₃.extBut b o q (Heap.get?_push_of_some _ e)
  have up : ∀ (b : Nat) (o : Obj), s.heap.get? b = some o → h₃.get? b = some o := fun b o e => up4 b o (Nat.ne_of_lt (Nat.lt_of_lt_of_le (hC ▸ Heap.lt_size e) (Nat.le_add_right _ _))) (up3 b o (up2 b o (hk₁ b o e)))
  have FC : Fr h₀ C h₃ (fun x => [(Str.ofString "value", Value.bytes l.toArray tv)].reverse.lookup x) := ⟨hns.at' fun o e => up4 C o (by omega) (up3 C o (up2 C o e)), fun b o e => up b o (F.keep b o e), by rw [← hC]; exact hzs⟩
  have hst : ∀ tk', GenSt w (ktrTop dp un gd cn cs L a ccd cl outer) (C + 4) [C] [C + 2, C + 3] (8 * l.length) (fun i v => v = .bool (bitAt l i)) s.gens (C + 1) s.gens.size (fun _ => True) 0 { s with heap := h₃, gens := s.gens.push (.fresh (.func fnB20 (encEnv C))), toks := tk' } := fun tk' => by
    refine ⟨(isGen_keeps' hgen) fun o e => up4 (C + 1) o (by omega) (up3 _ o e), T.nolimit.keeps fun b o e => up b o (F.keep b o e), ?_, ⟨fun i x q e => ?_, fun i x q e => ?_⟩, _, Array.getElem?_push_size, fun s'' kp => ⟨rfl, ?_⟩⟩
    · obtain ⟨o, _, _, ho, _⟩ := hns₃
      exact ⟨C + 3, o, rfl, ho⟩
    · show (s.gens.push _)[i]? = some x
      rw [Array.getElem?_push, if_neg q]; exact e
    · have e' : (s.gens.push (.fresh (.func fnB20 (encEnv C))))[i]? = some x := e
      rw [Array.getElem?_push, if_neg q] at e'; exact .inl e'
    · have nz : ∀ b : Nat, C ≤ b → h₀.get? b = none := fun b q => by
        cases z : h₀.get? b with
        | none => rfl
        | some o => exact absurd (Heap.lt_size z) (Nat.not_lt.mpr (Nat.le_trans hzs (by rw [hC]; exact q)))
      have hex : ∀ b ∈ [C + 2, C + 3], b ≠ C ∧ h₀.get? b = none := fun b hb => by
        rcases List.mem_cons.mp hb with rfl | hb
        · exact ⟨by omega, nz _ (by omega)⟩
        · rcases List.mem_cons.mp hb with rfl | hb
          · exact ⟨by omega, nz _ (by omega)⟩
          · exact nomatch hb
      refine enc_fresh (N := C + 4) (ex := [C + 2, C + 3]) rfl X T (by omega) hex (fun b hb => ?_) (fun i ch hi j hj => by rw [bitAt_of hi hj]) (frKept FC hex kp) rfl kp.2
      rcases List.mem_cons.mp hb with rfl | hb
      · exact Nat.add_lt_add_left (by decide) C
      · rcases List.mem_cons.mp hb with rfl | hb
        · exact Nat.add_lt_add_left (by decide) C
        · exact nomatch hb
  have W : Draws w (ktrTop dp un gd cn cs L a ccd cl outer) (C + 1) (C + 4) [C] [C + 2, C + 3] (8 * l.length) (fun i v => v = .bool (bitAt l i)) s.gens (GenSt w (ktrTop dp un gd cn cs L a ccd cl outer) (C + 4) [C] [C + 2, C + 3] (8 * l.length) (fun i v => v = .bool (bitAt l i)) s.gens (C + 1) s.gens.size (fun _ => True)) (fun _ => True) := by
    have hcs : (cStatics : Nat) < C := by
      obtain ⟨mc, ⟨o, _, _, ho, _⟩, _⟩ := T.nolimit
      exact Nat.lt_of_lt_of_le (Heap.lt_size ho) (by rw [← hC]; exact hzs)
    have one : ∀ b : Nat, b ≠ C → b ∉ [C] := fun b q z => q (List.mem_singleton.mp z)
    have two : ∀ b : Nat, b < C + 2 → b ∉ [C + 2, C + 3] := fun b q z => by
      rcases List.mem_cons.mp z with e | z
      · omega
      · have := List.mem_singleton.mp z
        omega
    have o1 := one (C + 1) (Nat.succ_ne_self C)
    have o2 := one (cStatics : Nat) (Nat.ne_of_lt hcs)
    have o3 : ∀ b : Nat, b + 1 = C + 4 → b ∉ [C] := fun b q => one b (Nat.ne_of_gt (by omega))
    exact draws_fn rfl (by show dp < recursionLimit; omega) rfl (by omega) o1 (two (C + 1) (Nat.lt_succ_self _)) (Nat.lt_of_lt_of_le hcs (Nat.le_add_right _ _)) o2 (two (cStatics : Nat) (Nat.lt_of_lt_of_le hcs (Nat.le_add_right _ _))) o3 (fun _ _ _ _ => trivial)
  have loop : ∀ tk', codeAny (model rw_.prog w) (ktrTop dp un gd cn cs L a ccd cl outer) (.compLoop encList 0 (.ref (C + 1)) (.ref (C + 2)) (compEnv bitScope (C + 3) (envX cn cs L a ccd cl)))
      (fun r s' => ∃ m, s'.heap.Ns (C + 3) m ∧ ∀ h', Heap.SameBut (C + 3) s'.heap h' →
            match r with | .ok _ => Q (.ref (C + 2)) { s' with heap := h' } | .error x => wpAny (model rw_.prog w) (ktrTop dp un gd cn cs L a ccd cl outer) (passOn "comprehension.variables-let-go" x (compEnv bitScope (C + 3) (envX cn cs L a ccd cl))) Q E { s' with heap := h' })
      { s with heap := h₃, gens := s.gens.push (.fresh (.func fnB20 (encEnv C))), toks := tk' } := fun tk' => by
    have low : ∀ b : Nat, b < C → b ∉ [C + 2, C + 3, C] := fun b q z => by
      rcases List.mem_cons.mp z with e | z
      · exact absurd (show b = C + 2 from e) (Nat.ne_of_lt (Nat.lt_of_lt_of_le q (Nat.le_add_right _ _)))
      · rcases List.mem_cons.mp z with e | z
        · exact absurd (show b = C + 3 from e) (Nat.ne_of_lt (Nat.lt_of_lt_of_le q (Nat.le_add_right _ _)))
        · exact absurd (List.mem_singleton.mp z) (Nat.ne_of_lt q)
    have hCs : ∀ (b : Nat) (o : Obj), s.heap.get? b = some o → b < C := fun b o e => hC ▸ Heap.lt_size e
    refine comp_draw (K := C + 3) (N := C + 4) (D := C + 2) rfl W (fun v y => ∀ b, v = .bool b → ∃ t, y = .int (if b then 1 else 0) t) rfl rfl (Nat.ne_of_lt (Nat.lt_succ_self _)) (Nat.add_lt_add_left (by decide) C) rfl (fun z => ?_) (fun z => ?_) (hst tk') (hD3.at fun o e => up4 (C + 2) o (Nat.ne_of_lt (Nat.lt_succ_self _)) e) hns₃ (fun i v s₂ m₂ E' hv hn hm kp => ?_) (fun s' m' ys hn hD hys hP mv hg => ⟨m', hn, fun h' hs' => ?_⟩) (Nat.le_trans (show 8 * l.length ≤ 32000 by omega) (by size_fits))
    · exact absurd (List.mem_singleton.mp z) (Nat.ne_of_gt (Nat.lt_add_of_pos_right (by decide)))
    · exact absurd (List.mem_singleton.mp z) (Nat.ne_of_gt (Nat.lt_add_of_pos_right (by decide)))
    · subst hv
      refine wpAny_mono (bit_elt X T (fun b o e => kp b o (Nat.lt_of_lt_of_le (hCs b o (F.keep b o e)) (Nat.le_add_right _ _)) (low b (hCs b o (F.keep b o e))) (up b o (F.keep b o e))) hn hm) (fun y s₃ hy => ?_) fun _ _ e => e
      obtain ⟨⟨t, e⟩, kk⟩ := hy
      exact ⟨fun b hb => by cases hb; exact ⟨t, e⟩, kk⟩
    · have kk : ∀ (b : Nat) (o : Obj), s.heap.get? b = some o → h'.get? b = some o := fun b o e => hs'.extBut b o (Nat.ne_of_lt (Nat.lt_of_lt_of_le (hCs b o e) (Nat.le_add_right _ _))) (mv.heap b o (Nat.lt_of_lt_of_le (hCs b o e) (Nat.le_add_right _ _)) (low b (hCs b o e)) (up b o e))
      obtain ⟨n, hDD⟩ := hD
      have hD' : h'.get? (C + 2) = some (listOf ys n) := hs'.extBut (C + 2) _ (Nat.ne_of_lt (Nat.lt_succ_self _)) hDD
      have nD : h₀.get? (C + 2) = none := by
        cases z : h₀.get? (C + 2) with
        | none => rfl
        | some o => exact absurd (hCs _ _ (F.keep _ _ z)) (Nat.not_lt.mpr (Nat.le_add_right _ _))
      have F9 : Fr h₀ L h' m := ⟨F.ns.at' fun o e => kk L o e, fun b o e => kk b o (F.keep b o e), F.above⟩
      have N9 : News h₀ L h' ((C + 2, listOf ys n) :: news) := fun q hq => by
        rcases List.mem_cons.mp hq with rfl | hq
        · exact ⟨hD', Nat.ne_of_gt (Nat.lt_of_lt_of_le (hC ▸ hL) (Nat.le_add_right _ _)), nD⟩
        · exact ⟨kk _ _ (N q hq).1, (N q hq).2⟩
      have := ret (C + 2) ys n hys (fun j hj => by
        obtain ⟨v, y, e1, e2, e3⟩ := hP j hj
        obtain ⟨t, e4⟩ := e3 _ e1
        exact ⟨t, e2.trans (congrArg some e4)⟩) h' s'.gens s'.toks F9 N9 hg
      have e : ({ s' with heap := h' } : Shared) = { s with heap := h', gens := s'.gens, toks := s'.toks } := by
        have e1 := mv.drawn
        have e2 := mv.os
        cases s'
        cases s
        dsimp only at e1 e2 ⊢
        subst e1 e2
        rfl
      rw [e]
      exact this
  rw [a1, z2]
  exact codeAny_compStart_list (loop _) (W.self 0 _ _ _ (hst _) (loop _))
end
end
-- JxToBin
section
theorem jxToBin_rows1 : True := by
  k_with_none
  (k_with "jx gg" => first | exact GG.refl _ | assumption | (refine GG.trans ?_ (by assumption); walk_at "jx gg"))
  (k_with "jx asks" => ((case k1 => k_asm); (case k2 => k_asm); (case k3 => k_asm); (case k4 => k_asm); (case k5 => k_asm); (case k6 => first | exact rfl | assumption); (case k7 => ktr_room); (case k8 => ktr_units)))
  (k_with "jx ne" => first | assumption | exact List.forall_mem_nil _ | (refine List.forall_mem_cons.mpr ⟨(by first | assumption | exact fun p9 z9 => absurd (congrArg Obj.cls z9) (by intro y9; cases y9) | exact notTab_cell (by assumption)), ?_⟩; walk_at "jx ne"))
  (k_with "jx backP" => (intro v9 ps9 h9 g9 tk9 R9 t9P F9 N9 G9; (first | (obtain ⟨t9, e9⟩ := R9; subst e9) | subst R9); (try dsimp only); (try k_sweep); (try k_fold)))
  (k_with "jx back" => (intro v9 h9 g9 tk9 R9 F9 N9 G9; (first | (obtain ⟨t9, e9⟩ := R9; subst e9) | subst R9); (try dsimp only); (try k_sweep); (try k_fold)))
  (k_with "jx back0" => (intro v9 h9 tk9 R9 F9 N9; (first | (obtain ⟨t9, e9⟩ := R9; subst e9) | subst R9); (try dsimp only); (try k_sweep); (try k_fold)))
  (k_with "jx dive" => skip)
  (k_with "jx fly0" => (intro e9 t9 xs9 h19 h9 tk9 F9 U9 R9; (try dsimp only); walk_at "jx dive"; (try k_fold)))
  (k_with "jx flyN" => (intro e9 h19 h9 g9 tk9 F9 U9 R9 G9; (try dsimp only); walk_at "jx diveN"; (try k_fold)))
  (k_with "jx diveN" => skip)
  (k_with "jx fly" => (intro e9 t9 xs9 h19 h9 g9 tk9 F9 U9 R9 G9; (try dsimp only); walk_at "jx dive"; (try k_fold)))
  (k_with "jx dec" => first | assumption | decide | (simp only [List.size_toArray, List.length_append, List.length_cons, List.length_nil, bne_iff_ne, ne_eq, beq_iff_eq, Bool.not_eq_true, Decidable.not_not, decide_eq_true_eq, decide_eq_false_iff_not, Bool.not_true, Bool.not_false, reduceCtorEq, not_false_eq_true, not_true_eq_false]; done) | (simp only [List.size_toArray, List.length_append, List.length_cons, List.length_nil, bne_iff_ne, ne_eq, beq_iff_eq, Bool.not_eq_true, Decidable.not_not, decide_eq_true_eq, decide_eq_false_iff_not]; omega))
  (k_with "ite" => (k_here; first | rw [if_pos (by walk_at "jx dec")] | rw [if_neg (by walk_at "jx dec")]))
  exact trivial
theorem jxToBin_rows2 : True := by
  (k_with "jx cut" => with_reducible first | exact cutL_from _ _ | exact cutL_to _ _ | exact cutL_mid _ _ _ | exact cutL_last _ _ (by decide) | exact cutL_but _ _ _ (by decide) | exact cut_all _ | exact cut_from _ _ | exact cut_to _ _ | exact cut_mid _ _ _)
  (k_with "jx len" => first | omega | (simp only [List.length_append, List.length_cons, List.length_nil, List.length_take, List.length_drop, List.length_replicate, List.length_map, List.length_reverse]; omega))
  (k_with "binaryOp Add bytes bytes" => (k_here; (with_reducible show wpAny _ _ (binaryOp Operator.Add (Value.bytes (List.toArray _) _) (Value.bytes (List.toArray _) _)) _ _ _); (refine jb_add (by walk_at "jx len") ?_); intro _ _))
  (k_with "call builtin:len" => (k_here; (with_reducible show wpAny _ _ (call (Value.builtin "len") [Value.bytes (List.toArray _) _]) _ _ _); (refine jb_len (by walk_at "jx len") ?_); intro _ _))
  (k_with "compareOp Eq bytes bytes" => refine jb_eq ?_)
  (k_with "compareOp NotEq bytes bytes" => refine jb_ne ?_)
  (k_with "subscriptTail" => (k_here; (with_reducible show wpAny _ _ (subscriptTail _ (Expr.Slice _ _ none _) (Value.bytes (List.toArray _) _) (Value.ref _)) _ _ _); (with_reducible rename Fr _ _ _ _ => F'); (with_reducible rename News _ _ _ _ => N'); (refine jb_slice (s := ⟨_, _, _, _, _⟩) F' N' (by constructor) (by constructor) (by walk_at "jx len") (by walk_at "jx cut") ?_); intro _ _ _ _ _))
  (k_with "subscriptTail" => (k_here; (with_reducible show wpAny _ _ (subscriptTail _ _ (Value.bytes (List.toArray _) _) (Value.int _ _)) _ _ _); (refine KBy.item_N (by walk_at "jx len") (by walk_at "jx len") (by walk_at "jx len") ?_)))
  (k_with "eval Constant int" => (k_here; refine wpAny_Constant_int ?_; (try dsimp only)))
  (k_with "eval ListComp" => (k_here; k_dflt (refine' wpAny_ListComp ?la ?lb ?lc ?_ ?ld; (case la => decide); (case lb => exact rfl); (case lc => decide); (case ld => (intro _; rfl)))))
  (k_with "call ref" => (k_here; (with_reducible show wpAny _ _ (call (Value.ref 135) [Value.bytes (List.toArray _) _]) _ _ _); (refine' enc_call ?k1 ?k2 ?k3 ?k4 ?k5 ?k6 ?k7 ?k8 ?x1 ?_; walk_at "jx asks"; (case x1 => assumption)); (intro D9 ys9 n9 hs9 hy9 h9 g9 tk9 F9 N9 G9; have hr9 := intRow_bits hs9 hy9; (try dsimp only); (try k_sweep); (try k_fold))))
  (k_with "call type:bytes" => (k_here; (with_reducible show wpAny _ _ (call (Value.type "bytes") [Value.ref _]) _ _ _); k_dflt (refine' mk_bytes ?k1 ?k2 ?k3 ?k4 ?k5 ?k6 ?_; (case k1 => k_asm); (case k2 => k_asm); (case k3 => exact rfl); (case k4 => k_mem); (case k5 => assumption); (case k6 => walk_at "jx len")); intro t9 h9 k9 F9 N9; (try dsimp only); (try k_sweep); (try k_fold)))
  exact trivial
theorem tobin_ok (w : World) (o : List UInt8) (t1 : Tok) (hz : o.length ≤ 4000) : Tell 4 w 128 [.bytes o.toArray t1] (fun v => ∃ t, v = .bytes (bitsAll o).toArray t) := by
  unfold Tell
  refine (show (kfrag = kfrag → _) → _ from fun hh => hh rfl) ?_
  k_fill
  w_on
  intro _
  intro mean mg mb dp un gd cn cs a ccd cl outer A₀ base h₀ L m news s Q E ⟨B, F, X, N, T, hk, hd, hu⟩ hret
  refine wpAny_call (code_def (name := Str.ofString "encode_to_bin") (params := fnP19) (body := fnB19) (scope := fnS19) (binds := [(Str.ofString "value", .bytes o.toArray t1)]) B F X N T rfl rfl hk (by k_is) (by k_is) (by ktr_room) (BindsTo.of_eq rfl) (locs rfl) ?_ rfl rfl rfl (by decide))
  intro g' L' h' FG' F' N' B' X' T'
  dsimp only [fnB19, fnS19, List.length, List.reverse, List.reverseAux] at F' ⊢

  k_fold
  have hbz := bitsAll_length o
  k_steps
  all_goals clear_value qk ek
  cell_end hret 0 0
end
-- JxDec
section
theorem jxDec_rows1 : True := by
  k_with_none
  (k_with "jx gg" => first | exact GG.refl _ | assumption | (refine GG.trans ?_ (by assumption); walk_at "jx gg"))
  (k_with "jx asks" => ((case k1 => k_asm); (case k2 => k_asm); (case k3 => k_asm); (case k4 => k_asm); (case k5 => k_asm); (case k6 => first | exact rfl | assumption); (case k7 => ktr_room); (case k8 => ktr_units)))
  (k_with "jx ne" => first | assumption | exact List.forall_mem_nil _ | (refine List.forall_mem_cons.mpr ⟨(by first | assumption | exact fun p9 z9 => absurd (congrArg Obj.cls z9) (by intro y9; cases y9) | exact notTab_cell (by assumption)), ?_⟩; walk_at "jx ne"))
  (k_with "jx backP" => (intro v9 ps9 h9 g9 tk9 R9 t9P F9 N9 G9; (first | (obtain ⟨t9, e9⟩ := R9; subst e9) | subst R9); (try dsimp only); (try k_sweep); (try k_fold)))
  (k_with "jx back" => (intro v9 h9 g9 tk9 R9 F9 N9 G9; (first | (obtain ⟨t9, e9⟩ := R9; subst e9) | subst R9); (try dsimp only); (try k_sweep); (try k_fold)))
  (k_with "jx back0" => (intro v9 h9 tk9 R9 F9 N9; (first | (obtain ⟨t9, e9⟩ := R9; subst e9) | subst R9); (try dsimp only); (try k_sweep); (try k_fold)))
  (k_with "jx dive" => skip)
  (k_with "jx fly0" => (intro e9 t9 xs9 h19 h9 tk9 F9 U9 R9; (try dsimp only); walk_at "jx dive"; (try k_fold)))
  (k_with "jx flyN" => (intro e9 h19 h9 g9 tk9 F9 U9 R9 G9; (try dsimp only); walk_at "jx diveN"; (try k_fold)))
  (k_with "jx diveN" => skip)
  (k_with "jx fly" => (intro e9 t9 xs9 h19 h9 g9 tk9 F9 U9 R9 G9; (try dsimp only); walk_at "jx dive"; (try k_fold)))
  (k_with "jx dec" => first | assumption | decide | (simp only [List.size_toArray, List.length_append, List.length_cons, List.length_nil, bne_iff_ne, ne_eq, beq_iff_eq, Bool.not_eq_true, Decidable.not_not, decide_eq_true_eq, decide_eq_false_iff_not, Bool.not_true, Bool.not_false, reduceCtorEq, not_false_eq_true, not_true_eq_false]; done) | (simp only [List.size_toArray, List.length_append, List.length_cons, List.length_nil, bne_iff_ne, ne_eq, beq_iff_eq, Bool.not_eq_true, Decidable.not_not, decide_eq_true_eq, decide_eq_false_iff_not]; omega))
  (k_with "ite" => (k_here; first | rw [if_pos (by walk_at "jx dec")] | rw [if_neg (by walk_at "jx dec")]))
  exact trivial
theorem jxDec_rows2 : True := by
  (k_with "jx cut" => with_reducible first | exact cutL_from _ _ | exact cutL_to _ _ | exact cutL_mid _ _ _ | exact cutL_last _ _ (by decide) | exact cutL_but _ _ _ (by decide) | exact cut_all _ | exact cut_from _ _ | exact cut_to _ _ | exact cut_mid _ _ _)
  (k_with "jx len" => first | omega | (simp only [List.length_append, List.length_cons, List.length_nil, List.length_take, List.length_drop, List.length_replicate, List.length_map, List.length_reverse]; omega))
  (k_with "binaryOp Add bytes bytes" => (k_here; (with_reducible show wpAny _ _ (binaryOp Operator.Add (Value.bytes (List.toArray _) _) (Value.bytes (List.toArray _) _)) _ _ _); (refine jb_add (by walk_at "jx len") ?_); intro _ _))
  (k_with "call builtin:len" => (k_here; (with_reducible show wpAny _ _ (call (Value.builtin "len") [Value.bytes (List.toArray _) _]) _ _ _); (refine jb_len (by walk_at "jx len") ?_); intro _ _))
  (k_with "compareOp Eq bytes bytes" => refine jb_eq ?_)
  (k_with "compareOp NotEq bytes bytes" => refine jb_ne ?_)
  (k_with "subscriptTail" => (k_here; (with_reducible show wpAny _ _ (subscriptTail _ (Expr.Slice _ _ none _) (Value.bytes (List.toArray _) _) (Value.ref _)) _ _ _); (with_reducible rename Fr _ _ _ _ => F'); (with_reducible rename News _ _ _ _ => N'); (refine jb_slice (s := ⟨_, _, _, _, _⟩) F' N' (by constructor) (by constructor) (by walk_at "jx len") (by walk_at "jx cut") ?_); intro _ _ _ _ _))
  (k_with "subscriptTail" => (k_here; (with_reducible show wpAny _ _ (subscriptTail _ _ (Value.bytes (List.toArray _) _) (Value.int _ _)) _ _ _); (refine KBy.item_N (by walk_at "jx len") (by walk_at "jx len") (by walk_at "jx len") ?_)))
  (k_with "eval Constant int" => (k_here; refine wpAny_Constant_int ?_; (try dsimp only)))
  (k_with "call ref" => (k_here; (with_reducible show wpAny _ _ (call (Value.ref 128) [Value.bytes (List.toArray _) _]) _ _ _); (refine' Tell.use (tobin_ok _ _ _ ?x1) ?k1 ?k2 ?k3 ?k4 ?k5 ?k6 ?k7 ?k8 ?_; (case x1 => walk_at "jx len"); walk_at "jx asks"); walk_at "jx back"))
  (k_with "jx bits" => first | assumption | exact isBits_all _ | (refine IsBits.take ?_ _; walk_at "jx bits") | (refine IsBits.drop ?_ _; walk_at "jx bits"))
  (k_with "getMethod ref" => (k_here; (with_reducible show wpAny _ _ (getMethod (Value.ref 53) (PySem.Str.ofString "index") _) _ _ _); (refine' tb_method ?k1 ?k2 ?_; (case k1 => k_asm); (case k2 => k_asm))))
  (k_with "call builtin:list.index" => (k_here; (k_dflt (show wpAny _ _ (call (Value.builtin "list.index") [Value.ref 53, Value.bytes (List.toArray _) _]) _ _ _)); (refine' tb_index' ?k1 ?k2 ?k3 ?k4 ?_; (case k1 => k_asm); (case k2 => k_asm); (case k3 => walk_at "jx bits"); (case k4 => walk_at "jx len"))))
  (k_with "jx bits" => first | assumption | exact isBits_all _ | exact isBits_nil | exact isBits_rep _ | (refine isBits_c0 ?_; walk_at "jx bits") | (refine isBits_c1 ?_; walk_at "jx bits") | (refine isBits_app ?_ ?_ <;> walk_at "jx bits") | (refine IsBits.take ?_ _; walk_at "jx bits") | (refine IsBits.drop ?_ _; walk_at "jx bits"))
  (k_with "jx cut" => (with_reducible exact cut_fromA _ _ _ (fmod4 _)))
  exact trivial
theorem dec_ok (w : World) (o : List UInt8) (t1 : Tok) (h0 : 0 < o.length) (hz : o.length ≤ 4000) : Does 6 w 149 [.bytes o.toArray t1] (fun v ex => ∃ p t, dec o = some p ∧ v = .bytes p.toArray t ∧ ex = []) (fun _ => False) (dec o = none) := by
  unfold Does
  refine (show (kfrag = kfrag → _) → _ from fun hh => hh rfl) ?_
  k_fill
  w_on
  intro _
  intro mean mg mb dp un gd cn cs a ccd cl outer A₀ base h₀ L m news s Q E ⟨B, F, X, N, T, hk, hd, hu⟩ hret hfly hflyN
  refine wpAny_call (code_def (name := Str.ofString "decode_to_bin_keypath") (params := fnP22) (body := fnB22) (scope := fnS22) (binds := [(Str.ofString "path", .bytes o.toArray t1)]) B F X N T rfl rfl hk (by k_is) (by k_is) (by ktr_room) (BindsTo.of_eq rfl) (locs rfl) ?_ rfl rfl rfl (by decide))
  intro g' L' h' FG' F' N' B' X' T'
  dsimp only [fnB22, fnS22, List.length, List.reverse, List.reverseAux] at F' ⊢

  k_fold
  have hbz := bitsAll_length o
  k_steps
  all_goals clear_value qk ek
  all_goals first
    | (refine hret _ [] _ _ _ ⟨_, _, dec_yes1 (by assumption) (by assumption), rfl, rfl⟩ (by assumption) (by assumption) (by walk_at "jx gg"))
    | (refine hret _ [] _ _ _ ⟨_, _, dec_yes0 (by assumption) (by assumption), rfl, rfl⟩ (by assumption) (by assumption) (by walk_at "jx gg"))
    | (refine' hflyN _ _ _ _ _ ?r0 ?r1 ?r2 ?r3 ?r4; (case r3 => assumption); (case r2 => assumption); (case r1 => assumption); (case r4 => walk_at "jx gg"); (case r0 => first | exact dec_no1 (by assumption) (by assumption) | exact dec_no0 (by assumption) (by assumption)))
section
variable {w : World} {mean : ExcName → Option Value} {mg mb : Str → Option Value} {dp un : Nat} {gd : Option (List Code)} {cn : Str} {cs : Scope} {a : Addr} {ccd : Value} {cl : List (Str × Addr)} {outer : List Env} {A₀ : Around} {base h₀ : Heap} {L : Addr} {m : Str → Option Value} {news : List (Addr × Obj)} {s : Shared} {Q E : Value → Shared → Prop}
theorem dec_use {o : List UInt8} {t1 : Tok} (h0 : 0 < o.length) (hz : o.length ≤ 4000) (B : Below A₀ base outer h₀) (F : Fr h₀ L s.heap m) (X : (kfrag w.params).In h₀) (N : News h₀ L s.heap news) (T : ctxTop mean mg mb h₀) (hk : cs.kind = .function) (hd : dp + 6 < recursionLimit) (hu : un + 8 * 6 < cLine)
    (ret : ∀ p t, dec o = some p → RetOk h₀ L m news s Q (.bytes p.toArray t)) (fly : dec o = none → FlyOkN base (envX cn cs L a ccd cl :: outer) h₀ L m news s E) :
    wpAny (model rw_.prog w) (ktrTop dp un gd cn cs L a ccd cl outer) (call (.ref 149) [.bytes o.toArray t1]) Q E s :=
  Does.use (dec_ok w o t1 h0 hz) B F X N T hk hd hu (fun _ _ _ _ _ ⟨p, t, e, e1, e2⟩ F N G => by subst e1 e2; exact ret p t e _ _ _ F N G) (fun _ _ _ _ _ _ _ _ f => f.elim) (fun _ _ _ _ _ x F U R G => fly x _ _ _ _ _ F U R G)
end
end
-- JxNum
section
theorem jxNum_rows1 : True := by
  k_with_none
  (k_with "jx gg" => first | exact GG.refl _ | assumption | (refine GG.trans ?_ (by assumption); walk_at "jx gg"))
  (k_with "jx asks" => ((case k1 => k_asm); (case k2 => k_asm); (case k3 => k_asm); (case k4 => k_asm); (case k5 => k_asm); (case k6 => first | exact rfl | assumption); (case k7 => ktr_room); (case k8 => ktr_units)))
  (k_with "jx ne" => first | assumption | exact List.forall_mem_nil _ | (refine List.forall_mem_cons.mpr ⟨(by first | assumption | exact fun p9 z9 => absurd (congrArg Obj.cls z9) (by intro y9; cases y9) | exact notTab_cell (by assumption)), ?_⟩; walk_at "jx ne"))
  (k_with "jx backP" => (intro v9 ps9 h9 g9 tk9 R9 t9P F9 N9 G9; (first | (obtain ⟨t9, e9⟩ := R9; subst e9) | subst R9); (try dsimp only); (try k_sweep); (try k_fold)))
  (k_with "jx back" => (intro v9 h9 g9 tk9 R9 F9 N9 G9; (first | (obtain ⟨t9, e9⟩ := R9; subst e9) | subst R9); (try dsimp only); (try k_sweep); (try k_fold)))
  (k_with "jx back0" => (intro v9 h9 tk9 R9 F9 N9; (first | (obtain ⟨t9, e9⟩ := R9; subst e9) | subst R9); (try dsimp only); (try k_sweep); (try k_fold)))
  (k_with "jx dive" => skip)
  (k_with "jx fly0" => (intro e9 t9 xs9 h19 h9 tk9 F9 U9 R9; (try dsimp only); walk_at "jx dive"; (try k_fold)))
  (k_with "jx flyN" => (intro e9 h19 h9 g9 tk9 F9 U9 R9 G9; (try dsimp only); walk_at "jx diveN"; (try k_fold)))
  (k_with "jx diveN" => skip)
  (k_with "jx fly" => (intro e9 t9 xs9 h19 h9 g9 tk9 F9 U9 R9 G9; (try dsimp only); walk_at "jx dive"; (try k_fold)))
  (k_with "jx dec" => first | assumption | decide | (simp only [List.size_toArray, List.length_append, List.length_cons, List.length_nil, bne_iff_ne, ne_eq, beq_iff_eq, Bool.not_eq_true, Decidable.not_not, decide_eq_true_eq, decide_eq_false_iff_not, Bool.not_true, Bool.not_false, reduceCtorEq, not_false_eq_true, not_true_eq_false]; done) | (simp only [List.size_toArray, List.length_append, List.length_cons, List.length_nil, bne_iff_ne, ne_eq, beq_iff_eq, Bool.not_eq_true, Decidable.not_not, decide_eq_true_eq, decide_eq_false_iff_not]; omega))
  (k_with "ite" => (k_here; first | rw [if_pos (by walk_at "jx dec")] | rw [if_neg (by walk_at "jx dec")]))
  exact trivial
theorem jxNum_rows2 : True := by
  (k_with "jx cut" => with_reducible first | exact cutL_from _ _ | exact cutL_to _ _ | exact cutL_mid _ _ _ | exact cutL_last _ _ (by decide) | exact cutL_but _ _ _ (by decide) | exact cut_all _ | exact cut_from _ _ | exact cut_to _ _ | exact cut_mid _ _ _)
  (k_with "jx len" => first | omega | (simp only [List.length_append, List.length_cons, List.length_nil, List.length_take, List.length_drop, List.length_replicate, List.length_map, List.length_reverse]; omega))
  (k_with "binaryOp Add bytes bytes" => (k_here; (with_reducible show wpAny _ _ (binaryOp Operator.Add (Value.bytes (List.toArray _) _) (Value.bytes (List.toArray _) _)) _ _ _); (refine jb_add (by walk_at "jx len") ?_); intro _ _))
  (k_with "call builtin:len" => (k_here; (with_reducible show wpAny _ _ (call (Value.builtin "len") [Value.bytes (List.toArray _) _]) _ _ _); (refine jb_len (by walk_at "jx len") ?_); intro _ _))
  (k_with "compareOp Eq bytes bytes" => refine jb_eq ?_)
  (k_with "compareOp NotEq bytes bytes" => refine jb_ne ?_)
  (k_with "subscriptTail" => (k_here; (with_reducible show wpAny _ _ (subscriptTail _ (Expr.Slice _ _ none _) (Value.bytes (List.toArray _) _) (Value.ref _)) _ _ _); (with_reducible rename Fr _ _ _ _ => F'); (with_reducible rename News _ _ _ _ => N'); (refine jb_slice (s := ⟨_, _, _, _, _⟩) F' N' (by constructor) (by constructor) (by walk_at "jx len") (by walk_at "jx cut") ?_); intro _ _ _ _ _))
  (k_with "subscriptTail" => (k_here; (with_reducible show wpAny _ _ (subscriptTail _ _ (Value.bytes (List.toArray _) _) (Value.int _ _)) _ _ _); (refine KBy.item_N (by walk_at "jx len") (by walk_at "jx len") (by walk_at "jx len") ?_)))
  (k_with "eval Constant int" => (k_here; refine wpAny_Constant_int ?_; (try dsimp only)))
  exact trivial
theorem number_ok (w : World) (o : List UInt8) (t1 : Tok) (hz : o.length ≤ 300) : Tell 2 w 198 [.bytes o.toArray t1] (fun v => ∃ t, v = .int ((num o : Nat) : Int) t) := by
  unfold Tell
  refine (show (kfrag = kfrag → _) → _ from fun hh => hh rfl) ?_
  k_fill
  w_on
  intro _
  intro mean mg mb dp un gd cn cs a ccd cl outer A₀ base h₀ L m news s Q E ⟨B, F, X, N, T, hk, hd, hu⟩ hret
  refine wpAny_call (code_def (name := Str.ofString "_law_number") (params := fnP32) (body := fnB32) (scope := fnS32) (binds := [(Str.ofString "row", .bytes o.toArray t1)]) B F X N T rfl rfl hk (by k_is) (by k_is) (by ktr_room) (BindsTo.of_eq rfl) (locs rfl) ?_ rfl rfl rfl (by decide))
  intro g' L' h' FG' F' N' B' X' T'
  dsimp only [fnB32, fnS32, List.length, List.reverse, List.reverseAux] at F' ⊢

  k_fold
  k_steps
  refine KBw.iterBytes_acc1 (y := Str.ofString "number") (c₀ := 0) (g := fun a k => a * 2 + k) rfl rfl (by assumption) (by assumption) rfl ?turn ?done
  case turn =>
    intro k t a ta h tk own _ h0 h1 ho F1 N1
    k_steps
    with_reducible rename Fr _ _ _ _ => F2
    with_reducible rename News _ _ _ _ => N2
    exact ⟨_, _, _, _, news, rfl, F2, N2, fun p hp => List.mem_append_left _ hp, fun p hp => List.mem_append_right _ hp, rfl, rfl, ⟨_, rfl⟩, fun z z1 z2 => by simp [z1, z2]⟩
  case done =>
    intro u t h tk F1 N1
    k_steps
    have e : List.foldl (fun a k => a * 2 + k) (0 : Int) (KBw.bInts o.toArray) = ((num o : Nat) : Int) := by
      rw [KBw.ints_list]
      unfold num
      have key : ∀ (l : List UInt8) (acc : Nat), List.foldl (fun a k : Int => a * 2 + k) (acc : Int) (l.map fun c => ((c.toNat : Nat) : Int)) = ((l.foldl (fun n b => n * 2 + b.toNat) acc : Nat) : Int) := by
        intro l
        induction l with
        | nil => intro acc; rfl
        | cons c l ih =>
          intro acc
          have := ih (acc * 2 + c.toNat)
          rw [List.map_cons, List.foldl_cons, List.foldl_cons, ← this]
          congr 1
      exact key o 0
    rw [e]
    clear_value qk ek
    cell_end hret 0 0
end
-- JxBig
section
theorem jxBig_rows1 : True := by
  k_with_none
  (k_with "jx gg" => first | exact GG.refl _ | assumption | (refine GG.trans ?_ (by assumption); walk_at "jx gg"))
  (k_with "jx asks" => ((case k1 => k_asm); (case k2 => k_asm); (case k3 => k_asm); (case k4 => k_asm); (case k5 => k_asm); (case k6 => first | exact rfl | assumption); (case k7 => ktr_room); (case k8 => ktr_units)))
  (k_with "jx ne" => first | assumption | exact List.forall_mem_nil _ | (refine List.forall_mem_cons.mpr ⟨(by first | assumption | exact fun p9 z9 => absurd (congrArg Obj.cls z9) (by intro y9; cases y9) | exact notTab_cell (by assumption)), ?_⟩; walk_at "jx ne"))
  (k_with "jx backP" => (intro v9 ps9 h9 g9 tk9 R9 t9P F9 N9 G9; (first | (obtain ⟨t9, e9⟩ := R9; subst e9) | subst R9); (try dsimp only); (try k_sweep); (try k_fold)))
  (k_with "jx back" => (intro v9 h9 g9 tk9 R9 F9 N9 G9; (first | (obtain ⟨t9, e9⟩ := R9; subst e9) | subst R9); (try dsimp only); (try k_sweep); (try k_fold)))
  (k_with "jx back0" => (intro v9 h9 tk9 R9 F9 N9; (first | (obtain ⟨t9, e9⟩ := R9; subst e9) | subst R9); (try dsimp only); (try k_sweep); (try k_fold)))
  (k_with "jx dive" => skip)
  (k_with "jx fly0" => (intro e9 t9 xs9 h19 h9 tk9 F9 U9 R9; (try dsimp only); walk_at "jx dive"; (try k_fold)))
  (k_with "jx flyN" => (intro e9 h19 h9 g9 tk9 F9 U9 R9 G9; (try dsimp only); walk_at "jx diveN"; (try k_fold)))
  (k_with "jx diveN" => skip)
  (k_with "jx fly" => (intro e9 t9 xs9 h19 h9 g9 tk9 F9 U9 R9 G9; (try dsimp only); walk_at "jx dive"; (try k_fold)))
  (k_with "jx dec" => first | assumption | decide | (simp only [List.size_toArray, List.length_append, List.length_cons, List.length_nil, bne_iff_ne, ne_eq, beq_iff_eq, Bool.not_eq_true, Decidable.not_not, decide_eq_true_eq, decide_eq_false_iff_not, Bool.not_true, Bool.not_false, reduceCtorEq, not_false_eq_true, not_true_eq_false]; done) | (simp only [List.size_toArray, List.length_append, List.length_cons, List.length_nil, bne_iff_ne, ne_eq, beq_iff_eq, Bool.not_eq_true, Decidable.not_not, decide_eq_true_eq, decide_eq_false_iff_not]; omega))
  (k_with "ite" => (k_here; first | rw [if_pos (by walk_at "jx dec")] | rw [if_neg (by walk_at "jx dec")]))
  exact trivial
noncomputable def bigB (k n : Nat) : List UInt8 := ((List.range k).map fun i => UInt8.ofNat (n / 256 ^ i % 256)).reverse
theorem bigB_length (k n : Nat) : (bigB k n).length = k := by simp [bigB]
section
variable {prog : Program} {w : World} {A : Around} {E : Value → Shared → Prop} {s : Shared}
open KTBy in
theorem to_bigN {n k : Nat} {t u v : Tok} {Q : Value → Shared → Prop} (hk : k ≤ 64) (h1 : n < 256 ^ k) (h : ∀ t' k', Q (.bytes (bigB k n).toArray t') { s with toks := k' }) :
    wpAny (model prog w) A (call (.builtin "int.to_bytes") [.int (n : Int) t, .int (k : Int) u, .str (PySem.Str.ofString "big") v]) Q E s := by
  have h0 : (0 : Int) ≤ (n : Int) := Int.natCast_nonneg _
  have h1' : (n : Int) < 256 ^ k := by rw [p256]; exact Int.ofNat_lt.mpr h1
  have hb := bits_le rfl h0 h1'
  generalize hx : (n : Int) = x at h0 h1' hb
  refine wpAny_call_entry slot (typeIs_int s x t) entry ?_ (args _ _ _)
  show wpAny _ _ (Builtin.Int.intOfSelf (.int x t) >>= fun y => _) _ _ s
  refine wpAny_bind (wpAny_of_eq (a := x) rfl ?_)
  show wpAny _ _ (Builtin.Int.intBindNamed "to_bytes" ["length", "byteorder", "signed"] 0 2 [.int (k : Int) u, .str (PySem.Str.ofString "big") v] [] >>= fun l => _) _ _ s
  refine wpAny_bind (wpAny_of_eq (a := [some (.int (k : Int) u), some (.str (PySem.Str.ofString "big") v), none]) (by kernel_rfl) ?_)
  show wpAny _ _ (Builtin.Int.intIndex "int.to_bytes" (.int (k : Int) u) >>= fun n => _) _ _ s
  refine wpAny_bind (wpAny_of_eq (a := (k : Int)) rfl ?_)
  refine if_not (by show (decide ((k : Int) < -(2 ^ 63 : Int)) || decide ((k : Int) ≥ 2 ^ 63)) = false; rw [decide_eq_false (show ¬ ((k : Int) < -(2 ^ 63 : Int)) by omega), decide_eq_false (show ¬ ((k : Int) ≥ 2 ^ 63) by omega)]; rfl) ?_
  refine wpAny_bind (wpAny_of_eq (a := PySem.Str.ofString "big") (by kernel_rfl) ?_)
  refine wpAny_bind (wpAny_of_eq (a := false) rfl ?_)
  refine wpAny_bind (wpAny_of_eq (a := false) (by kernel_rfl) ?_)
  refine wpAny_ite_false (decide_eq_false (show ¬ ((k : Int) < 0) by omega)) ?_
  refine wpAny_ite_false (decide_eq_false (show ¬ ((k : Int) > 2 ^ 63 - 1 - 33) by omega)) ?_
  refine wpAny_ite_false (decide_eq_false (show ¬ ((k : Int) > (sizeLine : Int)) by rw [sizeLine_eq]; omega)) ?_
  refine if_not (by show (decide (x < 0) && !false) = false; rw [decide_eq_false (show ¬ x < 0 by omega)]; rfl) ?_
  refine if_not (by show (_ && decide ((Builtin.Int.intBits x : Int) > 8 * (k : Int))) = false; rw [decide_eq_false (show ¬ ((Builtin.Int.intBits x : Int) > 8 * (k : Int)) by omega), Bool.and_false]) ?_
  have e : (low x k).reverse = bigB k n := by
    have e1 := low_ints h0 h1'
    have e2 : (low x k).map (fun c => ((c.toNat : Nat) : Int)) = (((List.range k).map fun i => UInt8.ofNat (n / 256 ^ i % 256))).map (fun c => ((c.toNat : Nat) : Int)) := by
      rw [e1, List.map_map]
      refine List.map_congr_left fun i _ => ?_
      rw [← hx, p256]
      show ((n / 256 ^ i % 256 : Nat) : Int) = _
      show _ = (((UInt8.ofNat (n / 256 ^ i % 256)).toNat : Nat) : Int)
      rw [UInt8.toNat_ofNat_of_lt' (Nat.mod_lt _ (by decide))]
    have inj : ∀ (a b : List UInt8), a.map (fun c => ((c.toNat : Nat) : Int)) = b.map (fun c => ((c.toNat : Nat) : Int)) → a = b := by
      intro a b hab
      exact List.map_inj_right (fun x y hxy => UInt8.toNat_inj.mp (Int.ofNat_inj.mp hxy)) |>.mp hab
    rw [inj _ _ e2]
    rfl
  refine wpAny_bind (wpAny_mkBytes (wpAny_pure ⟨_, rfl, ?_⟩) (by show (List.reverse (low x (Int.toNat (k : Int)))).length ≤ sizeLine; rw [List.length_reverse, low_length, Int.toNat_natCast, sizeLine_eq]; omega))
  show Q (.bytes (List.reverse (low x (Int.toNat (k : Int)))).toArray _) _
  rw [Int.toNat_natCast, e]
  exact h _ _
end
end
-- JxPack
section
theorem jxPack_rows1 : True := by
  k_with_none
  (k_with "jx gg" => first | exact GG.refl _ | assumption | (refine GG.trans ?_ (by assumption); walk_at "jx gg"))
  (k_with "jx asks" => ((case k1 => k_asm); (case k2 => k_asm); (case k3 => k_asm); (case k4 => k_asm); (case k5 => k_asm); (case k6 => first | exact rfl | assumption); (case k7 => ktr_room); (case k8 => ktr_units)))
  (k_with "jx ne" => first | assumption | exact List.forall_mem_nil _ | (refine List.forall_mem_cons.mpr ⟨(by first | assumption | exact fun p9 z9 => absurd (congrArg Obj.cls z9) (by intro y9; cases y9) | exact notTab_cell (by assumption)), ?_⟩; walk_at "jx ne"))
  (k_with "jx backP" => (intro v9 ps9 h9 g9 tk9 R9 t9P F9 N9 G9; (first | (obtain ⟨t9, e9⟩ := R9; subst e9) | subst R9); (try dsimp only); (try k_sweep); (try k_fold)))
  (k_with "jx back" => (intro v9 h9 g9 tk9 R9 F9 N9 G9; (first | (obtain ⟨t9, e9⟩ := R9; subst e9) | subst R9); (try dsimp only); (try k_sweep); (try k_fold)))
  (k_with "jx back0" => (intro v9 h9 tk9 R9 F9 N9; (first | (obtain ⟨t9, e9⟩ := R9; subst e9) | subst R9); (try dsimp only); (try k_sweep); (try k_fold)))
  (k_with "jx dive" => skip)
  (k_with "jx fly0" => (intro e9 t9 xs9 h19 h9 tk9 F9 U9 R9; (try dsimp only); walk_at "jx dive"; (try k_fold)))
  (k_with "jx flyN" => (intro e9 h19 h9 g9 tk9 F9 U9 R9 G9; (try dsimp only); walk_at "jx diveN"; (try k_fold)))
  (k_with "jx diveN" => skip)
  (k_with "jx fly" => (intro e9 t9 xs9 h19 h9 g9 tk9 F9 U9 R9 G9; (try dsimp only); walk_at "jx dive"; (try k_fold)))
  (k_with "jx dec" => first | assumption | decide | (simp only [List.size_toArray, List.length_append, List.length_cons, List.length_nil, bne_iff_ne, ne_eq, beq_iff_eq, Bool.not_eq_true, Decidable.not_not, decide_eq_true_eq, decide_eq_false_iff_not, Bool.not_true, Bool.not_false, reduceCtorEq, not_false_eq_true, not_true_eq_false]; done) | (simp only [List.size_toArray, List.length_append, List.length_cons, List.length_nil, bne_iff_ne, ne_eq, beq_iff_eq, Bool.not_eq_true, Decidable.not_not, decide_eq_true_eq, decide_eq_false_iff_not]; omega))
  (k_with "ite" => (k_here; first | rw [if_pos (by walk_at "jx dec")] | rw [if_neg (by walk_at "jx dec")]))
  exact trivial
noncomputable def packN (o : List UInt8) : Nat := (if (o.length + 3) / 4 % 2 = 1 then o.length % 4 else 128 + o.length % 4) * 16 ^ ((o.length + 3) / 4) + num o
noncomputable def packed (o : List UInt8) : List UInt8 := bigB (((o.length + 3) / 4 + 2) / 2) (packN o)
theorem num_lt2 {p : List UInt8} (hb : IsBits p) : num p < 2 ^ p.length := by
  have key : ∀ (l : List UInt8), IsBits l → ∀ acc, l.foldl (fun n b => n * 2 + b.toNat) acc < (acc + 1) * 2 ^ l.length := by
    intro l
    induction l with
    | nil => intro _ acc; simp
    | cons c l ih =>
      intro hl acc
      have hc : c.toNat ≤ 1 := by
        rcases hl c (List.Mem.head _) with rfl | rfl <;> decide
      have := ih (fun b hb => hl b (List.Mem.tail _ hb)) (acc * 2 + c.toNat)
      rw [List.foldl_cons, List.length_cons, Nat.pow_succ, Nat.mul_comm (2 ^ l.length) 2, ← Nat.mul_assoc]
      refine Nat.lt_of_lt_of_le this (Nat.mul_le_mul_right _ (by omega))
  have := key p hb 0
  unfold num
  omega
theorem packN_lt {o : List UInt8} (hb : IsBits o) : packN o < 256 ^ (((o.length + 3) / 4 + 2) / 2) := by
  have h1 := num_lt2 hb
  have e16 : (16 : Nat) = 2 ^ 4 := by decide
  have h2 : 2 ^ o.length ≤ 16 ^ ((o.length + 3) / 4) := by
    rw [e16, ← Nat.pow_mul]
    exact Nat.pow_le_pow_right (by decide) (by omega)
  have e256 : (256 : Nat) = 16 ^ 2 := by decide
  rw [e256, ← Nat.pow_mul]
  unfold packN
  generalize hc : (o.length + 3) / 4 = c at h2 ⊢
  by_cases q : c % 2 = 1
  · rw [if_pos q, show 2 * ((c + 2) / 2) = c + 1 by omega, Nat.pow_succ]
    have : o.length % 4 * 16 ^ c ≤ 3 * 16 ^ c := Nat.mul_le_mul_right _ (by omega)
    omega
  · rw [if_neg q, show 2 * ((c + 2) / 2) = c + 1 + 1 by omega, Nat.pow_succ, Nat.pow_succ]
    have : (128 + o.length % 4) * 16 ^ c ≤ 131 * 16 ^ c := Nat.mul_le_mul_right _ (by omega)
    omega
section
variable {prog : Program} {w : World} {A : Around} {E : Value → Shared → Prop} {s : Shared}
theorem pack_len (n : Nat) : ((((n : Nat) : Int) + 3).fdiv 4 + 2).fdiv 2 = ((((n + 3) / 4 + 2) / 2 : Nat) : Int) := by
  rw [Int.fdiv_eq_ediv_of_nonneg _ (by decide), Int.fdiv_eq_ediv_of_nonneg _ (by decide)]
  omega
theorem pack_cnt (n : Nat) : (((n : Nat) : Int) + 3).fdiv 4 = (((n + 3) / 4 : Nat) : Int) := by
  rw [Int.fdiv_eq_ediv_of_nonneg _ (by decide)]
  omega
theorem pack_odd {o : List UInt8} {t u v : Tok} {Q : Value → Shared → Prop} (hz : o.length ≤ 126) (hb : IsBits o) (hp : ((((o.length : Nat) : Int) + 3).fdiv 4).fmod 2 = 1) (h : ∀ t' k', Q (.bytes (packed o).toArray t') { s with toks := k' }) :
    wpAny (model prog w) A (call (.builtin "int.to_bytes") [.int (((o.length : Nat) : Int).fmod 4 * 16 ^ ((((o.length : Nat) : Int) + 3).fdiv 4).toNat + ((num o : Nat) : Int)) t, .int (((((o.length : Nat) : Int) + 3).fdiv 4 + 2).fdiv 2) u, .str (PySem.Str.ofString "big") v]) Q E s := by
  have hc : (o.length + 3) / 4 % 2 = 1 := by
    rw [pack_cnt, Int.fmod_eq_emod_of_nonneg _ (by decide)] at hp
    omega
  have e : ((o.length : Nat) : Int).fmod 4 * 16 ^ ((((o.length : Nat) : Int) + 3).fdiv 4).toNat + ((num o : Nat) : Int) = ((packN o : Nat) : Int) := by
    unfold packN
    rw [if_pos hc, pack_cnt, Int.toNat_natCast, Int.fmod_eq_emod_of_nonneg _ (by decide), Int.natCast_add, Int.natCast_mul, Int.natCast_pow, Int.natCast_emod]
    rfl
  rw [e, pack_len]
  exact to_bigN (by omega) (packN_lt hb) h
theorem pack_even {o : List UInt8} {t u v : Tok} {Q : Value → Shared → Prop} (hz : o.length ≤ 126) (hb : IsBits o) (hp : ((((o.length : Nat) : Int) + 3).fdiv 4).fmod 2 ≠ 1) (h : ∀ t' k', Q (.bytes (packed o).toArray t') { s with toks := k' }) :
    wpAny (model prog w) A (call (.builtin "int.to_bytes") [.int ((128 + ((o.length : Nat) : Int).fmod 4) * 16 ^ ((((o.length : Nat) : Int) + 3).fdiv 4).toNat + ((num o : Nat) : Int)) t, .int (((((o.length : Nat) : Int) + 3).fdiv 4 + 2).fdiv 2) u, .str (PySem.Str.ofString "big") v]) Q E s := by
  have hc : ¬ (o.length + 3) / 4 % 2 = 1 := by
    rw [pack_cnt, Int.fmod_eq_emod_of_nonneg _ (by decide)] at hp
    omega
  have e : (128 + ((o.length : Nat) : Int).fmod 4) * 16 ^ ((((o.length : Nat) : Int) + 3).fdiv 4).toNat + ((num o : Nat) : Int) = ((packN o : Nat) : Int) := by
    unfold packN
    rw [if_neg hc, pack_cnt, Int.toNat_natCast, Int.fmod_eq_emod_of_nonneg _ (by decide), Int.natCast_add, Int.natCast_mul, Int.natCast_pow, Int.natCast_add, Int.natCast_emod]
    rfl
  rw [e, pack_len]
  exact to_bigN (by omega) (packN_lt hb) h
end
theorem jxPack_rows2 : True := by
  (k_with "jx cut" => with_reducible first | exact cutL_from _ _ | exact cutL_to _ _ | exact cutL_mid _ _ _ | exact cutL_last _ _ (by decide) | exact cutL_but _ _ _ (by decide) | exact cut_all _ | exact cut_from _ _ | exact cut_to _ _ | exact cut_mid _ _ _)
  (k_with "jx len" => first | omega | (simp only [List.length_append, List.length_cons, List.length_nil, List.length_take, List.length_drop, List.length_replicate, List.length_map, List.length_reverse]; omega))
  (k_with "binaryOp Add bytes bytes" => (k_here; (with_reducible show wpAny _ _ (binaryOp Operator.Add (Value.bytes (List.toArray _) _) (Value.bytes (List.toArray _) _)) _ _ _); (refine jb_add (by walk_at "jx len") ?_); intro _ _))
  (k_with "call builtin:len" => (k_here; (with_reducible show wpAny _ _ (call (Value.builtin "len") [Value.bytes (List.toArray _) _]) _ _ _); (refine jb_len (by walk_at "jx len") ?_); intro _ _))
  (k_with "compareOp Eq bytes bytes" => refine jb_eq ?_)
  (k_with "compareOp NotEq bytes bytes" => refine jb_ne ?_)
  (k_with "subscriptTail" => (k_here; (with_reducible show wpAny _ _ (subscriptTail _ (Expr.Slice _ _ none _) (Value.bytes (List.toArray _) _) (Value.ref _)) _ _ _); (with_reducible rename Fr _ _ _ _ => F'); (with_reducible rename News _ _ _ _ => N'); (refine jb_slice (s := ⟨_, _, _, _, _⟩) F' N' (by constructor) (by constructor) (by walk_at "jx len") (by walk_at "jx cut") ?_); intro _ _ _ _ _))
  (k_with "subscriptTail" => (k_here; (with_reducible show wpAny _ _ (subscriptTail _ _ (Value.bytes (List.toArray _) _) (Value.int _ _)) _ _ _); (refine KBy.item_N (by walk_at "jx len") (by walk_at "jx len") (by walk_at "jx len") ?_)))
  (k_with "eval Constant int" => (k_here; refine wpAny_Constant_int ?_; (try dsimp only)))
  (k_with "call ref" => (k_here; (with_reducible show wpAny _ _ (call (Value.ref 198) [Value.bytes (List.toArray _) _]) _ _ _); (refine' Tell.use (number_ok _ _ _ (by walk_at "jx len")) ?k1 ?k2 ?k3 ?k4 ?k5 ?k6 ?k7 ?k8 ?_; walk_at "jx asks"); walk_at "jx back"))
  (k_with "call builtin:int.to_bytes" => (k_here; k_dflt (first | (refine pack_odd (by assumption) (by assumption) (by assumption) ?_) | (refine pack_even (by assumption) (by assumption) (by assumption) ?_)); intro _ _))
  exact trivial
theorem packed_ok (w : World) (o : List UInt8) (t1 : Tok) (hz : o.length ≤ 126) (hb : IsBits o) : Tell 4 w 205 [.bytes o.toArray t1] (fun v => ∃ t, v = .bytes (packed o).toArray t) := by
  unfold Tell
  refine (show (kfrag = kfrag → _) → _ from fun hh => hh rfl) ?_
  k_fill
  w_on
  intro _
  intro mean mg mb dp un gd cn cs a ccd cl outer A₀ base h₀ L m news s Q E ⟨B, F, X, N, T, hk, hd, hu⟩ hret
  refine wpAny_call (code_def (name := Str.ofString "_law_packed") (params := fnP33) (body := fnB33) (scope := fnS33) (binds := [(Str.ofString "row", .bytes o.toArray t1)]) B F X N T rfl rfl hk (by k_is) (by k_is) (by ktr_room) (BindsTo.of_eq rfl) (locs rfl) ?_ rfl rfl rfl (by decide))
  intro g' L' h' FG' F' N' B' X' T'
  dsimp only [fnB33, fnS33, List.length, List.reverse, List.reverseAux] at F' ⊢

  k_fold
  k_steps
  all_goals clear_value qk ek
  all_goals (cell_end hret 0 0)
end
-- JxLaws
section
theorem jxLaws_rows1 : True := by
  k_with_none
  (k_with "jx gg" => first | exact GG.refl _ | assumption | (refine GG.trans ?_ (by assumption); walk_at "jx gg"))
  (k_with "jx asks" => ((case k1 => k_asm); (case k2 => k_asm); (case k3 => k_asm); (case k4 => k_asm); (case k5 => k_asm); (case k6 => first | exact rfl | assumption); (case k7 => ktr_room); (case k8 => ktr_units)))
  (k_with "jx ne" => first | assumption | exact List.forall_mem_nil _ | (refine List.forall_mem_cons.mpr ⟨(by first | assumption | exact fun p9 z9 => absurd (congrArg Obj.cls z9) (by intro y9; cases y9) | exact notTab_cell (by assumption)), ?_⟩; walk_at "jx ne"))
  (k_with "jx backP" => (intro v9 ps9 h9 g9 tk9 R9 t9P F9 N9 G9; (first | (obtain ⟨t9, e9⟩ := R9; subst e9) | subst R9); (try dsimp only); (try k_sweep); (try k_fold)))
  (k_with "jx back" => (intro v9 h9 g9 tk9 R9 F9 N9 G9; (first | (obtain ⟨t9, e9⟩ := R9; subst e9) | subst R9); (try dsimp only); (try k_sweep); (try k_fold)))
  (k_with "jx back0" => (intro v9 h9 tk9 R9 F9 N9; (first | (obtain ⟨t9, e9⟩ := R9; subst e9) | subst R9); (try dsimp only); (try k_sweep); (try k_fold)))
  (k_with "jx dive" => skip)
  (k_with "jx fly0" => (intro e9 t9 xs9 h19 h9 tk9 F9 U9 R9; (try dsimp only); walk_at "jx dive"; (try k_fold)))
  (k_with "jx flyN" => (intro e9 h19 h9 g9 tk9 F9 U9 R9 G9; (try dsimp only); walk_at "jx diveN"; (try k_fold)))
  (k_with "jx diveN" => skip)
  (k_with "jx fly" => (intro e9 t9 xs9 h19 h9 g9 tk9 F9 U9 R9 G9; (try dsimp only); walk_at "jx dive"; (try k_fold)))
  (k_with "jx dec" => first | assumption | decide | (simp only [List.size_toArray, List.length_append, List.length_cons, List.length_nil, bne_iff_ne, ne_eq, beq_iff_eq, Bool.not_eq_true, Decidable.not_not, decide_eq_true_eq, decide_eq_false_iff_not, Bool.not_true, Bool.not_false, reduceCtorEq, not_false_eq_true, not_true_eq_false]; done) | (simp only [List.size_toArray, List.length_append, List.length_cons, List.length_nil, bne_iff_ne, ne_eq, beq_iff_eq, Bool.not_eq_true, Decidable.not_not, decide_eq_true_eq, decide_eq_false_iff_not]; omega))
  (k_with "ite" => (k_here; first | rw [if_pos (by walk_at "jx dec")] | rw [if_neg (by walk_at "jx dec")]))
  exact trivial
theorem snocRec {P : List UInt8 → Prop} (h0 : P []) (h1 : ∀ l c, P l → P (l ++ [c])) (l : List UInt8) : P l := by
  have : ∀ r : List UInt8, P r.reverse := by
    intro r
    induction r with
    | nil => exact h0
    | cons c r ih => rw [List.reverse_cons]; exact h1 _ _ ih
  have h := this l.reverse
  rwa [List.reverse_reverse] at h
theorem num_append (a b : List UInt8) (acc : Nat) : (a ++ b).foldl (fun n c => n * 2 + c.toNat) acc = b.foldl (fun n c => n * 2 + c.toNat) (a.foldl (fun n c => n * 2 + c.toNat) acc) := List.foldl_append ..
theorem num_from (l : List UInt8) : ∀ acc, l.foldl (fun n c => n * 2 + c.toNat) acc = acc * 2 ^ l.length + num l := by
  induction l with
  | nil => intro acc; simp [num]
  | cons c l ih =>
    intro acc
    have h1 := ih (acc * 2 + c.toNat)
    have h2 := ih (0 * 2 + c.toNat)
    rw [List.foldl_cons, h1]
    have : num (c :: l) = (0 * 2 + c.toNat) * 2 ^ l.length + num l := by unfold num; rw [List.foldl_cons]; exact h2
    rw [this, List.length_cons, Nat.pow_succ, Nat.add_mul, Nat.zero_mul, Nat.zero_add, Nat.mul_assoc acc 2, Nat.mul_comm 2 (2 ^ l.length)]
    omega
theorem num_app (a b : List UInt8) : num (a ++ b) = num a * 2 ^ b.length + num b := by
  show List.foldl _ 0 (a ++ b) = _
  rw [num_append, num_from]
  rfl
theorem IsBits.app {a b : List UInt8} (h : IsBits a) (k : IsBits b) : IsBits (a ++ b) := fun c hc => by
  rcases List.mem_append.mp hc with q | q
  · exact h c q
  · exact k c q
theorem IsBits.zeros (n : Nat) : IsBits (List.replicate n 0) := fun c hc => .inl (List.eq_of_mem_replicate hc)
theorem num_below {p : List UInt8} : IsBits p → num p < 2 ^ p.length := by
  refine snocRec (P := fun p => IsBits p → num p < 2 ^ p.length) (fun _ => by decide) ?_ p
  · intro p c ih hb
    have h1 := ih (fun b hm => hb b (List.mem_append_left _ hm))
    have hc : c.toNat ≤ 1 := by rcases hb c (List.mem_append_right _ (List.Mem.head _)) with rfl | rfl <;> decide
    rw [num_app, List.length_append, List.length_singleton, Nat.pow_succ]
    have : num [c] = c.toNat := by simp [num]
    omega
theorem parts_snoc {q c : List UInt8} {k : Nat} (hq : q.length = 8 * k) (hc : c.length = 8) : parts (q ++ c) = parts q ++ [c] := by
  unfold parts
  rw [List.length_append, hq, hc, show (8 * k + 8 + 7) / 8 = k + 1 by omega, show (8 * k + 7) / 8 = k by omega, List.range_succ, List.map_append]
  congr 1
  · refine List.map_congr_left fun i hi => ?_
    have := List.mem_range.mp hi
    rw [List.drop_append_of_le_length (by omega), List.take_append_of_le_length (by rw [List.length_drop]; omega)]
  · show [((q ++ c).drop (8 * k)).take 8] = [c]
    rw [← hq, List.drop_left, List.take_of_length_le (by omega)]
theorem unbits_snoc {q c : List UInt8} {k : Nat} (hq : q.length = 8 * k) (hc : c.length = 8) : unbits (q ++ c) = unbits q ++ [UInt8.ofNat (num c)] := by
  unfold unbits
  rw [parts_snoc hq hc, List.map_append]
  rfl
theorem unbits_length (l : List UInt8) : (unbits l).length = (l.length + 7) / 8 := by simp [unbits, parts]
theorem split8 {p : List UInt8} {k : Nat} (h : p.length = 8 * (k + 1)) : ∃ q c, p = q ++ c ∧ q.length = 8 * k ∧ c.length = 8 :=
  ⟨p.take (8 * k), p.drop (8 * k), (List.take_append_drop ..).symm, by rw [List.length_take]; omega, by rw [List.length_drop]; omega⟩
theorem bigB_succ (k n : Nat) : bigB (k + 1) n = bigB k (n / 256) ++ [UInt8.ofNat (n % 256)] := by
  unfold bigB
  rw [List.range_succ_eq_map, List.map_cons, List.reverse_cons, List.map_map]
  congr 1
  · congr 1
    refine List.map_congr_left fun i _ => ?_
    show UInt8.ofNat (n / 256 ^ (i + 1) % 256) = _
    rw [Nat.pow_succ, Nat.mul_comm, ← Nat.div_div_eq_div_mul]
  · rw [Nat.pow_zero, Nat.div_one]
theorem unbits_big : ∀ (k : Nat) (p : List UInt8), p.length = 8 * k → IsBits p → unbits p = bigB k (num p) := by
  intro k
  induction k with
  | zero =>
    intro p h _
    have : p = [] := List.length_eq_zero_iff.mp (by omega)
    subst this; rfl
  | succ k ih =>
    intro p h hb
    obtain ⟨q, c, rfl, hq, hc⟩ := split8 h
    have hbq : IsBits q := fun b hm => hb b (List.mem_append_left _ hm)
    have hbc : IsBits c := fun b hm => hb b (List.mem_append_right _ hm)
    have hlt := num_below hbc
    rw [hc] at hlt
    rw [unbits_snoc hq hc, bigB_succ, ih q hq hbq, num_app, hc]
    congr 2
    · omega
    · congr 1; omega
theorem bitsOf_tab : ∀ p0 p1 p2 p3 p4 p5 p6 p7 : Bool, bitsOf (UInt8.ofNat (num [cond p0 1 0, cond p1 1 0, cond p2 1 0, cond p3 1 0, cond p4 1 0, cond p5 1 0, cond p6 1 0, cond p7 1 0])) = [cond p0 1 0, cond p1 1 0, cond p2 1 0, cond p3 1 0, cond p4 1 0, cond p5 1 0, cond p6 1 0, cond p7 1 0] := by decide +kernel
theorem bit_cond {b : UInt8} (h : b = 0 ∨ b = 1) : ∃ p : Bool, b = cond p 1 0 := by
  rcases h with rfl | rfl
  · exact ⟨false, rfl⟩
  · exact ⟨true, rfl⟩
theorem bitsOf_num {c : List UInt8} (hc : c.length = 8) (hb : IsBits c) : bitsOf (UInt8.ofNat (num c)) = c := by
  match c, hc with
  | [a0, a1, a2, a3, a4, a5, a6, a7], _ =>
    obtain ⟨p0, rfl⟩ := bit_cond (hb a0 (by simp))
    obtain ⟨p1, rfl⟩ := bit_cond (hb a1 (by simp))
    obtain ⟨p2, rfl⟩ := bit_cond (hb a2 (by simp))
    obtain ⟨p3, rfl⟩ := bit_cond (hb a3 (by simp))
    obtain ⟨p4, rfl⟩ := bit_cond (hb a4 (by simp))
    obtain ⟨p5, rfl⟩ := bit_cond (hb a5 (by simp))
    obtain ⟨p6, rfl⟩ := bit_cond (hb a6 (by simp))
    obtain ⟨p7, rfl⟩ := bit_cond (hb a7 (by simp))
    exact bitsOf_tab _ _ _ _ _ _ _ _
theorem num_bitsOf (c : UInt8) : UInt8.ofNat (num (bitsOf c)) = c := by
  have key : ∀ n : Fin 256, UInt8.ofNat (num (bitsOf (UInt8.ofNat n.val))) = UInt8.ofNat n.val := by decide +kernel
  have := key ⟨c.toNat, c.toNat_lt⟩
  simpa using this
theorem bitsAll_append (a b : List UInt8) : bitsAll (a ++ b) = bitsAll a ++ bitsAll b := by simp [bitsAll]
theorem bitsAll_one (c : UInt8) : bitsAll [c] = bitsOf c := by simp [bitsAll]
theorem bits_unbits : ∀ (k : Nat) (p : List UInt8), p.length = 8 * k → IsBits p → bitsAll (unbits p) = p := by
  intro k
  induction k with
  | zero =>
    intro p h _
    have : p = [] := List.length_eq_zero_iff.mp (by omega)
    subst this; rfl
  | succ k ih =>
    intro p h hb
    obtain ⟨q, c, rfl, hq, hc⟩ := split8 h
    rw [unbits_snoc hq hc, bitsAll_append, bitsAll_one, ih q hq (fun b hm => hb b (List.mem_append_left _ hm)), bitsOf_num hc (fun b hm => hb b (List.mem_append_right _ hm))]
theorem unbits_bits (o : List UInt8) : unbits (bitsAll o) = o := by
  refine snocRec (P := fun o => unbits (bitsAll o) = o) rfl ?_ o
  intro o c ih
  rw [bitsAll_append, bitsAll_one, unbits_snoc (bitsAll_length o) (bitsOf_length c), ih, num_bitsOf]
theorem bitsOf_isBits (c : UInt8) : IsBits (bitsOf c) := fun b hb => by
  obtain ⟨k, _, rfl⟩ := List.mem_map.mp hb
  rcases Nat.mod_two_eq_zero_or_one (c.toNat / 2 ^ (7 - k)) with e | e <;> rw [e]
  · exact .inl rfl
  · exact .inr rfl
theorem bitsAll_isBits (o : List UInt8) : IsBits (bitsAll o) := fun b hb => by
  obtain ⟨c, _, h⟩ := List.mem_flatMap.mp hb
  exact bitsOf_isBits c b h
theorem padded_length (r : List UInt8) : (padded r).length = 4 * ((r.length + 3) / 4) := by
  unfold padded
  rw [List.length_append, List.length_replicate]; omega
theorem padded_bits {r : List UInt8} (h : IsBits r) : IsBits (padded r) := (IsBits.zeros _).app h
theorem padded_num (r : List UInt8) : num (padded r) = num r := by
  unfold padded
  rw [num_app]
  have : ∀ n, num (List.replicate n 0) = 0 := by
    intro n
    induction n with
    | zero => rfl
    | succ n ih =>
      rw [List.replicate_succ', num_app, ih]
      rfl
  rw [this]; omega
theorem twoBits_bits (n : Nat) : IsBits (twoBits n) := fun b hb => by
  have key : ∀ k : Nat, UInt8.ofNat (k % 2) = 0 ∨ UInt8.ofNat (k % 2) = 1 := fun k => by
    rcases Nat.mod_two_eq_zero_or_one k with e | e <;> rw [e]
    · exact .inl rfl
    · exact .inr rfl
  unfold twoBits at hb
  rcases List.mem_cons.mp hb with rfl | h
  · exact key _
  · rw [List.mem_singleton.mp h]; exact key _
noncomputable def encP (r : List UInt8) : List UInt8 :=
  (if (padded r).length % 8 = 4 then [0, 0] ++ twoBits (r.length % 4) else [1, 0, 0, 0, 0, 0] ++ twoBits (r.length % 4)) ++ padded r
theorem enc_eq (r : List UInt8) : enc r = unbits (encP r) := by
  unfold enc encP
  by_cases h : (padded r).length % 8 = 4
  · rw [if_pos h, if_pos h]
  · rw [if_neg h, if_neg h]
theorem encP_length (r : List UInt8) : (encP r).length = 8 * (((r.length + 3) / 4 + 2) / 2) := by
  unfold encP
  rw [List.length_append, padded_length]
  by_cases h : 4 * ((r.length + 3) / 4) % 8 = 4
  · rw [if_pos h]; simp [twoBits]; omega
  · rw [if_neg h]; simp [twoBits]; omega
theorem encP_bits {r : List UInt8} (h : IsBits r) : IsBits (encP r) := by
  unfold encP
  refine IsBits.app ?_ (padded_bits h)
  by_cases q : (padded r).length % 8 = 4
  · rw [if_pos q]; exact IsBits.app (fun b hb => by simp at hb; exact .inl hb) (twoBits_bits _)
  · rw [if_neg q]; exact IsBits.app (fun b hb => by simp at hb; rcases hb with rfl | rfl <;> simp) (twoBits_bits _)
theorem two_num (n : Nat) (h : n < 4) : num (twoBits n) = n := by
  match n, h with
  | 0, _ => rfl
  | 1, _ => rfl
  | 2, _ => rfl
  | 3, _ => rfl
theorem packed_enc {r : List UInt8} (h : IsBits r) : packed r = enc r := by
  rw [enc_eq, unbits_big _ _ (encP_length r) (encP_bits h)]
  unfold packed
  congr 1
  unfold packN encP
  have e16 : (16 : Nat) ^ ((r.length + 3) / 4) = 2 ^ (4 * ((r.length + 3) / 4)) := by rw [Nat.pow_mul]
  rw [num_app, padded_num, padded_length, ← e16]
  congr 2
  by_cases q : (r.length + 3) / 4 % 2 = 1
  · rw [if_pos q, if_pos (by omega), num_app, two_num _ (Nat.mod_lt _ (by decide))]
    simp [num]
  · rw [if_neg q, if_neg (by omega), num_app, two_num _ (Nat.mod_lt _ (by decide))]
    simp [num, twoBits]
theorem dec_enc {r : List UInt8} (h : IsBits r) : dec (enc r) = some r := by
  unfold dec
  rw [enc_eq, bits_unbits _ _ (encP_length r) (encP_bits h)]
  have two : ∀ n : Nat, n < 4 → (2 * (UInt8.ofNat (n / 2 % 2)).toNat + (UInt8.ofNat (n % 2)).toNat) = n := by
    intro n hn
    match n, hn with
    | 0, _ => rfl
    | 1, _ => rfl
    | 2, _ => rfl
    | 3, _ => rfl
  have fin : (padded r).drop ((4 - r.length % 4) % 4) = r := by
    unfold padded
    rw [List.drop_left' (by rw [List.length_replicate])]
  have hm := Nat.mod_lt r.length (show 0 < 4 by decide)
  unfold encP
  by_cases q : (padded r).length % 8 = 4
  · rw [if_pos q]
    simp only [twoBits, List.cons_append, List.nil_append, List.getD_cons_zero, if_neg (show ¬ ((0 : UInt8) = 1) by decide)]
    simp only [List.getD_cons_zero, List.getD_cons_succ, List.take_succ_cons, List.take_zero, if_true, two _ hm]
    rw [show 4 + (4 - r.length % 4) % 4 = ((4 - r.length % 4) % 4 + 1 + 1 + 1 + 1) by omega]
    simp only [List.drop_succ_cons]
    rw [fin]
  · rw [if_neg q]
    simp only [twoBits, List.cons_append, List.nil_append, List.getD_cons_zero, List.getD_cons_succ, if_true, List.drop_succ_cons, List.drop_zero]
    simp only [List.getD_cons_zero, List.getD_cons_succ, List.take_succ_cons, List.take_zero, if_true, two _ hm]
    rw [show 4 + (4 - r.length % 4) % 4 = ((4 - r.length % 4) % 4 + 1 + 1 + 1 + 1) by omega]
    simp only [List.drop_succ_cons]
    rw [fin]
theorem enc_length (r : List UInt8) : (enc r).length = ((r.length + 3) / 4 + 2) / 2 := by rw [enc_eq, unbits_length, encP_length]; omega
theorem parse_kv {r c : List UInt8} (h : IsBits r) (hc : c.length = 32) : parseR (0 :: (enc r ++ c)) = .kv r c := by
  have hl := enc_length r
  unfold parseR
  rw [if_neg (by simp), List.getD_cons_zero, if_neg (by decide), if_pos (by decide), if_neg (by rw [List.length_cons, List.length_append]; omega)]
  have e1 : ((0 :: (enc r ++ c)).take ((0 :: (enc r ++ c)).length - 32)).drop 1 = enc r := by
    rw [List.length_cons, List.length_append, hc, show (enc r).length + 32 + 1 - 32 = (enc r).length + 1 by omega, List.take_succ_cons, List.drop_succ_cons, List.drop_zero, List.take_left]
  have e2 : (0 :: (enc r ++ c)).drop ((0 :: (enc r ++ c)).length - 32) = c := by
    rw [List.length_cons, List.length_append, hc, show (enc r).length + 32 + 1 - 32 = (enc r).length + 1 by omega, List.drop_succ_cons, List.drop_left]
  rw [e1, e2, dec_enc h]
theorem parse_br {a b : List UInt8} (ha : a.length = 32) (hb : b.length = 32) : parseR (1 :: (a ++ b)) = .br a b := by
  unfold parseR
  rw [if_neg (by simp), List.getD_cons_zero, if_pos (by decide), if_pos (by rw [List.length_cons, List.length_append]; omega)]
  rw [List.drop_succ_cons, List.drop_zero, List.take_left' ha, show (33 : Nat) = 32 + 1 by rfl, List.drop_succ_cons, List.drop_left' ha]
theorem parse_leaf {v : List UInt8} (hv : v ≠ []) : parseR (2 :: v) = .leaf v := by
  have : v.length ≠ 0 := fun h => hv (List.length_eq_zero_iff.mp h)
  unfold parseR
  rw [if_neg (by simp), List.getD_cons_zero, if_neg (by decide), if_neg (by decide), if_pos (by decide), if_neg (by rw [List.length_cons]; omega)]
  rfl
end
-- JxTry
section
theorem jxTry_rows1 : True := by
  k_with_none
  (k_with "jx gg" => first | exact GG.refl _ | assumption | (refine GG.trans ?_ (by assumption); walk_at "jx gg"))
  (k_with "jx asks" => ((case k1 => k_asm); (case k2 => k_asm); (case k3 => k_asm); (case k4 => k_asm); (case k5 => k_asm); (case k6 => first | exact rfl | assumption); (case k7 => ktr_room); (case k8 => ktr_units)))
  (k_with "jx ne" => first | assumption | exact List.forall_mem_nil _ | (refine List.forall_mem_cons.mpr ⟨(by first | assumption | exact fun p9 z9 => absurd (congrArg Obj.cls z9) (by intro y9; cases y9) | exact notTab_cell (by assumption)), ?_⟩; walk_at "jx ne"))
  (k_with "jx backP" => (intro v9 ps9 h9 g9 tk9 R9 t9P F9 N9 G9; (first | (obtain ⟨t9, e9⟩ := R9; subst e9) | subst R9); (try dsimp only); (try k_sweep); (try k_fold)))
  (k_with "jx back" => (intro v9 h9 g9 tk9 R9 F9 N9 G9; (first | (obtain ⟨t9, e9⟩ := R9; subst e9) | subst R9); (try dsimp only); (try k_sweep); (try k_fold)))
  (k_with "jx back0" => (intro v9 h9 tk9 R9 F9 N9; (first | (obtain ⟨t9, e9⟩ := R9; subst e9) | subst R9); (try dsimp only); (try k_sweep); (try k_fold)))
  (k_with "jx dive" => skip)
  (k_with "jx fly0" => (intro e9 t9 xs9 h19 h9 tk9 F9 U9 R9; (try dsimp only); walk_at "jx dive"; (try k_fold)))
  (k_with "jx flyN" => (intro e9 h19 h9 g9 tk9 F9 U9 R9 G9; (try dsimp only); walk_at "jx diveN"; (try k_fold)))
  (k_with "jx diveN" => skip)
  (k_with "jx fly" => (intro e9 t9 xs9 h19 h9 g9 tk9 F9 U9 R9 G9; (try dsimp only); walk_at "jx dive"; (try k_fold)))
  (k_with "jx dec" => first | assumption | decide | (simp only [List.size_toArray, List.length_append, List.length_cons, List.length_nil, bne_iff_ne, ne_eq, beq_iff_eq, Bool.not_eq_true, Decidable.not_not, decide_eq_true_eq, decide_eq_false_iff_not, Bool.not_true, Bool.not_false, reduceCtorEq, not_false_eq_true, not_true_eq_false]; done) | (simp only [List.size_toArray, List.length_append, List.length_cons, List.length_nil, bne_iff_ne, ne_eq, beq_iff_eq, Bool.not_eq_true, Decidable.not_not, decide_eq_true_eq, decide_eq_false_iff_not]; omega))
  (k_with "ite" => (k_here; first | rw [if_pos (by walk_at "jx dec")] | rw [if_neg (by walk_at "jx dec")]))
  exact trivial
noncomputable abbrev TellT (d : Nat) (w : World) (f : Addr) (vs : List Value) (R : Value → Prop) : Prop :=
  ∀ (mean : ExcName → Option Value) (mg mb : Str → Option Value) (dp un : Nat) (gd : Option (List Code)) (cn : Str) (cs : Scope) (a : Addr) (ccd : Value) (cl : List (Str × Addr)) (A₀ : Around) (h₀ : Heap) (L : Addr) (m : Str → Option Value) (news : List (Addr × Obj)) (s : Shared) (Q E : Value → Shared → Prop),
    At w d mean mg mb dp un cs [] A₀ h₀ h₀ L m news s.heap →
    (∀ v h' g' tk', R v → Fr h₀ L h' m → News h₀ L h' news → GG s.gens g' → Q v { s with heap := h', gens := g', toks := tk' }) →
    wpAny (model rw_.prog w) (ktrTop dp un gd cn cs L a ccd cl []) (call (.ref f) vs) Q E s

theorem TellT.use {d : Nat} {w : World} {f : Addr} {vs : List Value} {R : Value → Prop} {mean : ExcName → Option Value} {mg mb : Str → Option Value} {dp un : Nat} {gd : Option (List Code)} {cn : Str} {cs : Scope} {a : Addr} {ccd : Value} {cl : List (Str × Addr)} {A₀ : Around} {h₀ : Heap} {L : Addr} {m : Str → Option Value} {news : List (Addr × Obj)} {s : Shared} {Q E : Value → Shared → Prop}
    (C : TellT d w f vs R) (B : Below A₀ h₀ [] h₀) (F : Fr h₀ L s.heap m) (X : (kfrag w.params).In h₀) (N : News h₀ L s.heap news) (T : ctxTop mean mg mb h₀) (hk : cs.kind = .function) (hd : dp + d < recursionLimit) (hu : un + 8 * d < cLine)
    (ret : ∀ v h' g' tk', R v → Fr h₀ L h' m → News h₀ L h' news → GG s.gens g' → Q v { s with heap := h', gens := g', toks := tk' }) :
    wpAny (model rw_.prog w) (ktrTop dp un gd cn cs L a ccd cl []) (call (.ref f) vs) Q E s := by
  refine C mean mg mb dp un gd cn cs a ccd cl A₀ h₀ L m news s Q E ⟨B, F, X, N, T, hk, hd, hu⟩ ?_
  exact ret

theorem one_frame {cn : Str} {cs : Scope} {L a b : Addr} {ccd : Value} {cl : List (Str × Addr)} (h : b ∈ [envX cn cs L a ccd cl].filterMap fun x : Env => x.frame) : b = L := by
  obtain ⟨e, he, hf⟩ := List.mem_filterMap.mp h
  rw [List.mem_singleton.mp he] at hf
  exact (Option.some.inj hf).symm
/-- a call of a function that catches, from an outermost frame that may own cells -/
theorem call_try {prog : Program} {w : World} {A₀ A : Around} {s : Shared} {base h₀ : Heap} {L a : Addr} {m : Str → Option Value} {cn : Str} {cs : Scope} {ccd : Value} {cl : List (Str × Addr)} {news : List (Addr × Obj)} {K : Frag} {p : Program} {loose : List Str} {mean : ExcName → Option Value} {mg mb : Str → Option Value}
    {R : Result → Shared → Prop} {name qual : Str} {params : Arguments} {body : List Stmt} {scope : Scope} {dV kV doc pm cdv ct oc : Value} {an od : Option Addr} {osl : Array (Option Value)} {f : Addr} {args : Args} {binds : List (Str × Value)}
    (B : Below A₀ base [] h₀) (F : Fr h₀ L s.heap m) (X₀ : K.In h₀) (N : News h₀ L s.heap news) (T : Top p loose mean mg mb h₀) (hA : A.frames = some [envX cn cs L a ccd cl])
    (ho : K.lookup f = some ⟨oc, od, .func (fnOf name qual params body scope dV kV doc pm an cdv ct), osl⟩) (hcd : codeIn K cdv qual = true) (hroom : A.depth < recursionLimit)
    (hbind : BindsTo s (fnOf name qual params body scope dV kV doc pm an cdv ct) args binds) (hloc : ∀ y ∈ binds, scope.names.lookup y.1 = some .local)
    (go : ∀ g L' h₁, Fr h₀ L g m → Fr g L' h₁ (fun y => binds.reverse.lookup y) → News g L' h₁ news → Below A base [envX cn cs L a ccd cl] g → K.In g → Top p loose mean mg mb g → KtsDicts ([envX cn cs L a ccd cl].filterMap fun x : Env => x.frame) g →
      wpAny (model prog w) (A.deeper (envOf qual scope L' f cdv)) (execs body (envOf qual scope L' f cdv))
        (fun fl s' => LeaveS0 ([envX cn cs L a ccd cl].filterMap fun x : Env => x.frame) h₀ L m g R (match fl with | .ret v => v | _ => .none) s')
        (fun e s' => wpAny (model prog w) (A.deeper (envOf qual scope L' f cdv)) (leaving (envOf qual scope L' f cdv) e) (fun _ s'' => R (.error e) s'') (fun e' s'' => R (.error e') s'') s')
        { s with heap := h₁, toks := s.toks + binds.length })
    (hck : cs.kind = .function) (hco : scope.isCoroutine = false) (hgen : scope.isGenerator = false) (hk : scope.kind = .function)
    (hcell : ∀ x ∈ scope.names, x.2 ≠ .cell) : codeAny (model prog w) A (.call (.ref f) args) R s := by
  obtain ⟨FG, BG, st, _⟩ := groundX (R := R) B F N hA rfl hck
  have X := X₀.keeps F.keep
  refine codeAny_call_def (fd := fnOf name qual params body scope dV kV doc pm an cdv ct) (body := body) (binds := binds) hroom (X _ _ ho) rfl (T.nolimit.keeps F.keep) (codeRec_of X hcd) rfl hbind hcell hloc (fun h₁ hns keep₁ => ?_) hco hgen hk
  have dicts : KtsDicts ([envX cn cs L a ccd cl].filterMap fun x : Env => x.frame) (hideAll s.heap (news.map (·.1))) := fun b hb => by
    rw [one_frame hb]
    obtain ⟨o, es, n, e, d, _⟩ := FG.ns
    exact ⟨o, es, n, e, d⟩
  have fr : Fr (hideAll s.heap (news.map (·.1))) s.heap.objs.size h₁ (fun y => binds.reverse.lookup y) :=
    ⟨hns, fun b o e => keep₁ b o (of_hideAll _ e), Nat.le_of_eq (hideAll_size _ _)⟩
  have nw : News (hideAll s.heap (news.map (·.1))) s.heap.objs.size h₁ news := fun q hq =>
    ⟨keep₁ _ _ (N q hq).1, Nat.ne_of_lt (Heap.lt_size (N q hq).1), hideAll_none _ (List.mem_map_of_mem hq)⟩
  refine wpAny_mono (go _ _ h₁ FG fr nw BG (X₀.keeps st) (T.keeps st) dicts) (fun fl s' left => ?_) fun _ _ y => y
  obtain ⟨g', L', m', news', turn, F', N', back⟩ := left
  obtain ⟨oL, es, ep, eL, dL, rest⟩ := FG.ns
  obtain ⟨sl, eL'⟩ := turn.up eL
  have self := kts_self F
  refine back ⟨⟨_, es, ep, F'.keep _ _ eL', dL, rest⟩, fun b o e => F'.keep b o (turn.other b o (st b o e) fun z => ?_), F.above⟩ fun q hq => ⟨(N' q hq).1, fun z => ?_, ?_⟩
  · rw [one_frame z, self] at e; cases e
  · have u := (N' q hq).2.2
    rw [z, eL'] at u; cases u
  · cases z : h₀.get? q.1 with
    | none => rfl
    | some o =>
      obtain ⟨sl', e'⟩ := turn.up (st _ _ z)
      have u := (N' q hq).2.2
      rw [e'] at u; cases u
/-- a base that holds all the ground but the outer frames -/
noncomputable def Holds (fs : List Addr) (g b : Heap) : Prop := ∀ c o, g.get? c = some o → c ∉ fs → b.get? c = some o
theorem hideBase {A : Around} {h₀ g : Heap} {cn : Str} {cs : Scope} {L a : Addr} {ccd : Value} {cl : List (Str × Addr)} {m : Str → Option Value} {K : Frag} {p : Program} {loose : List Str} {mean : ExcName → Option Value} {mg mb : Str → Option Value}
    (B : Below A h₀ [envX cn cs L a ccd cl] g) (F : Fr h₀ L g m) (X : K.In h₀) (T : Top p loose mean mg mb h₀) :
    ∃ b, Below A b [envX cn cs L a ccd cl] g ∧ K.In b ∧ Top p loose mean mg mb b ∧ Holds ([envX cn cs L a ccd cl].filterMap fun x : Env => x.frame) g b := by
  have hL : h₀.get? L = none := kts_self F
  have st : h₀.StaysIn (hideAll g ([envX cn cs L a ccd cl].filterMap fun x : Env => x.frame)) := fun c o e => hideAll_get _ (F.keep c o e) fun q => by
    have z := one_frame (cn := cn) (cs := cs) (a := a) (ccd := ccd) (cl := cl) q
    rw [z, hL] at e; cases e
  refine ⟨hideAll g ([envX cn cs L a ccd cl].filterMap fun x : Env => x.frame), ⟨B.stack, fun c o e => of_hideAll _ e, funFrames_hide B.frames fun env he b hb => List.mem_filterMap.mpr ⟨env, he, hb⟩⟩, X.keeps st, T.keeps st, fun c o e n => hideAll_get _ e n⟩
theorem toS {A : Around} {base g h₁ h hN : Heap} {l : List Env} {env : Env} {e t L : Addr} {cls : Value} {vs : List Value} {news : List (Addr × Obj)} {m : Str → Option Value}
    (R : RaisedK base (env :: l) e cls t vs news h) (F : Fr g L h₁ m) (U : h₁.UpToSlots h) (hf : env.frame = some L) (N : News g L hN news) (B : Below A base l g) (S : Holds (l.filterMap fun x : Env => x.frame) g base) :
    ∃ G, RaisedS base G (env :: l) e cls t vs news h ∧ Fr g L G m ∧ G.UpToSlots h := by
  obtain ⟨⟨H, hB, hl, hfl, hnew⟩, htup⟩ := R
  let hs := (List.range h₁.objs.size).filter fun b => decide (b ≠ L) && (g.get? b).isNone
  have inn : ∀ b o, (hideAll h₁ hs).get? b = some o → b ≠ L → g.get? b = some o := fun b o q n => by
    have q' := of_hideAll _ q
    cases z : g.get? b with
    | some o' => rw [F.keep b o' z] at q'; exact q'
    | none =>
      have hm : b ∈ hs := List.mem_filter.mpr ⟨List.mem_range.mpr (Heap.lt_size q'), by rw [z]; simp [n]⟩
      rw [hideAll_none _ hm] at q; cases q
  have kp : ∀ b o, h₁.get? b = some o → (b = L ∨ ∃ o', g.get? b = some o') → (hideAll h₁ hs).get? b = some o := fun b o q hh => hideAll_get _ q fun hm => by
    have := (List.mem_filter.mp hm).2
    rcases hh with z | ⟨o', z⟩
    · simp [z] at this
    · simp [z] at this
  refine ⟨hideAll h₁ hs, ⟨⟨H, hB, fun b o q nm => ?_, fun q hq => ⟨(hl q hq).1, ?_, (hl q hq).2⟩, hfl, hnew⟩, htup⟩, ⟨?_, fun b o e => kp b o (F.keep b o e) (.inr ⟨o, e⟩), F.above⟩, fun b o e => U b o (of_hideAll _ e)⟩
  · have n1 : b ≠ L := fun z => nm (List.mem_filterMap.mpr ⟨env, .head _, by rw [hf, z]⟩)
    exact hB b o (S b o (inn b o q n1) fun z => nm (by
      obtain ⟨v, hv, hv'⟩ := List.mem_filterMap.mp z
      exact List.mem_filterMap.mpr ⟨v, .tail _ hv, hv'⟩))
  · cases z : (hideAll h₁ hs).get? q.1 with
    | none => rfl
    | some o =>
      have := inn q.1 o z (N q hq).2.1
      rw [(N q hq).2.2] at this; cases this
  · obtain ⟨o, es, ep, ho, r⟩ := F.ns
    exact ⟨o, es, ep, kp L o ho (.inl rfl), r⟩

/-- as TellT, with new objects -/
noncomputable abbrev NewsT (d : Nat) (w : World) (f : Addr) (vs : List Value) (R : Value → List (Addr × Obj) → Prop) : Prop :=
  ∀ (mean : ExcName → Option Value) (mg mb : Str → Option Value) (dp un : Nat) (gd : Option (List Code)) (cn : Str) (cs : Scope) (a : Addr) (ccd : Value) (cl : List (Str × Addr)) (A₀ : Around) (h₀ : Heap) (L : Addr) (m : Str → Option Value) (news : List (Addr × Obj)) (s : Shared) (Q E : Value → Shared → Prop),
    At w d mean mg mb dp un cs [] A₀ h₀ h₀ L m news s.heap →
    (∀ v ex h' g' tk', R v ex → Fr h₀ L h' m → News h₀ L h' (ex ++ news) → GG s.gens g' → Q v { s with heap := h', gens := g', toks := tk' }) →
    wpAny (model rw_.prog w) (ktrTop dp un gd cn cs L a ccd cl []) (call (.ref f) vs) Q E s
theorem NewsT.use {d : Nat} {w : World} {f : Addr} {vs : List Value} {R : Value → List (Addr × Obj) → Prop} {mean : ExcName → Option Value} {mg mb : Str → Option Value} {dp un : Nat} {gd : Option (List Code)} {cn : Str} {cs : Scope} {a : Addr} {ccd : Value} {cl : List (Str × Addr)} {A₀ : Around} {h₀ : Heap} {L : Addr} {m : Str → Option Value} {news : List (Addr × Obj)} {s : Shared} {Q E : Value → Shared → Prop}
    (C : NewsT d w f vs R) (B : Below A₀ h₀ [] h₀) (F : Fr h₀ L s.heap m) (X : (kfrag w.params).In h₀) (N : News h₀ L s.heap news) (T : ctxTop mean mg mb h₀) (hk : cs.kind = .function) (hd : dp + d < recursionLimit) (hu : un + 8 * d < cLine)
    (ret : ∀ v ex h' g' tk', R v ex → Fr h₀ L h' m → News h₀ L h' (ex ++ news) → GG s.gens g' → Q v { s with heap := h', gens := g', toks := tk' }) :
    wpAny (model rw_.prog w) (ktrTop dp un gd cn cs L a ccd cl []) (call (.ref f) vs) Q E s := by
  refine C mean mg mb dp un gd cn cs a ccd cl A₀ h₀ L m news s Q E ⟨B, F, X, N, T, hk, hd, hu⟩ ?_
  exact ret
theorem toSN {A : Around} {base g h₁ h hN : Heap} {l : List Env} {env : Env} {e L : Addr} {cls : Value} {news : List (Addr × Obj)} {m : Str → Option Value}
    (R : RaisedN base (env :: l) e cls news h) (F : Fr g L h₁ m) (U : h₁.UpToSlots h) (hf : env.frame = some L) (N : News g L hN news) (B : Below A base l g) (S : Holds (l.filterMap fun x : Env => x.frame) g base) :
    ∃ G, RaisedSN base G (env :: l) e cls news h ∧ Fr g L G m ∧ G.UpToSlots h := by
  obtain ⟨H, a0, hB, hl, hfl⟩ := R
  let hs := (List.range h₁.objs.size).filter fun b => decide (b ≠ L) && (g.get? b).isNone
  have inn : ∀ b o, (hideAll h₁ hs).get? b = some o → b ≠ L → g.get? b = some o := fun b o q n => by
    have q' := of_hideAll _ q
    cases z : g.get? b with
    | some o' => rw [F.keep b o' z] at q'; exact q'
    | none =>
      have hm : b ∈ hs := List.mem_filter.mpr ⟨List.mem_range.mpr (Heap.lt_size q'), by rw [z]; simp [n]⟩
      rw [hideAll_none _ hm] at q; cases q
  have kp : ∀ b o, h₁.get? b = some o → (b = L ∨ ∃ o', g.get? b = some o') → (hideAll h₁ hs).get? b = some o := fun b o q hh => hideAll_get _ q fun hm => by
    have := (List.mem_filter.mp hm).2
    rcases hh with z | ⟨o', z⟩
    · simp [z] at this
    · simp [z] at this
  refine ⟨hideAll h₁ hs, ⟨H, a0, hB, fun b o q nm => ?_, fun q hq => ⟨(hl q hq).1, ?_, (hl q hq).2⟩, hfl⟩, ⟨?_, fun b o e => kp b o (F.keep b o e) (.inr ⟨o, e⟩), F.above⟩, fun b o e => U b o (of_hideAll _ e)⟩
  · have n1 : b ≠ L := fun z => nm (List.mem_filterMap.mpr ⟨env, .head _, by rw [hf, z]⟩)
    exact hB b o (S b o (inn b o q n1) fun z => nm (by
      obtain ⟨v, hv, hv'⟩ := List.mem_filterMap.mp z
      exact List.mem_filterMap.mpr ⟨v, .tail _ hv, hv'⟩))
  · cases z : (hideAll h₁ hs).get? q.1 with
    | none => rfl
    | some o =>
      have := inn q.1 o z (N q hq).2.1
      rw [(N q hq).2.2] at this; cases this
  · obtain ⟨o, es, ep, ho, r⟩ := F.ns
    exact ⟨o, es, ep, kp L o ho (.inl rfl), r⟩
end
-- JxListB
section
theorem jxListB_rows1 : True := by
  k_with_none
  (k_with "jx gg" => first | exact GG.refl _ | assumption | (refine GG.trans ?_ (by assumption); walk_at "jx gg"))
  (k_with "jx asks" => ((case k1 => k_asm); (case k2 => k_asm); (case k3 => k_asm); (case k4 => k_asm); (case k5 => k_asm); (case k6 => first | exact rfl | assumption); (case k7 => ktr_room); (case k8 => ktr_units)))
  (k_with "jx ne" => first | assumption | exact List.forall_mem_nil _ | (refine List.forall_mem_cons.mpr ⟨(by first | assumption | exact fun p9 z9 => absurd (congrArg Obj.cls z9) (by intro y9; cases y9) | exact notTab_cell (by assumption)), ?_⟩; walk_at "jx ne"))
  (k_with "jx backP" => (intro v9 ps9 h9 g9 tk9 R9 t9P F9 N9 G9; (first | (obtain ⟨t9, e9⟩ := R9; subst e9) | subst R9); (try dsimp only); (try k_sweep); (try k_fold)))
  (k_with "jx back" => (intro v9 h9 g9 tk9 R9 F9 N9 G9; (first | (obtain ⟨t9, e9⟩ := R9; subst e9) | subst R9); (try dsimp only); (try k_sweep); (try k_fold)))
  (k_with "jx back0" => (intro v9 h9 tk9 R9 F9 N9; (first | (obtain ⟨t9, e9⟩ := R9; subst e9) | subst R9); (try dsimp only); (try k_sweep); (try k_fold)))
  (k_with "jx dive" => skip)
  (k_with "jx fly0" => (intro e9 t9 xs9 h19 h9 tk9 F9 U9 R9; (try dsimp only); walk_at "jx dive"; (try k_fold)))
  (k_with "jx flyN" => (intro e9 h19 h9 g9 tk9 F9 U9 R9 G9; (try dsimp only); walk_at "jx diveN"; (try k_fold)))
  (k_with "jx diveN" => skip)
  (k_with "jx fly" => (intro e9 t9 xs9 h19 h9 g9 tk9 F9 U9 R9 G9; (try dsimp only); walk_at "jx dive"; (try k_fold)))
  (k_with "jx dec" => first | assumption | decide | (simp only [List.size_toArray, List.length_append, List.length_cons, List.length_nil, bne_iff_ne, ne_eq, beq_iff_eq, Bool.not_eq_true, Decidable.not_not, decide_eq_true_eq, decide_eq_false_iff_not, Bool.not_true, Bool.not_false, reduceCtorEq, not_false_eq_true, not_true_eq_false]; done) | (simp only [List.size_toArray, List.length_append, List.length_cons, List.length_nil, bne_iff_ne, ne_eq, beq_iff_eq, Bool.not_eq_true, Decidable.not_not, decide_eq_true_eq, decide_eq_false_iff_not]; omega))
  (k_with "ite" => (k_here; first | rw [if_pos (by walk_at "jx dec")] | rw [if_neg (by walk_at "jx dec")]))
  exact trivial
theorem lb_len : typeLookup (.type "bytes") "__len__" = pure (some (.builtin "bytes.__len__")) := by rw [typeLookup_type, builtinLookup_eq_fast]; kernel_rfl
section
variable {prog : Program} {w : World} {A : Around} {E : Value → Shared → Prop} {s : Shared}
theorem extend_bytes {R : Result → Shared → Prop} (hh : A.handled = none) (x : List UInt8) (t : Tok) (S : Addr) (res : Value) (c₀ : Nat) (hS : s.heap.get? S = some { cls := .type "list", data := .seq #[] c₀ })
    (hR : ∀ h' tk acc' c', (∀ b o, b ≠ S → s.heap.get? b = some o → h'.get? b = some o) → h'.get? S = some { cls := .type "list", dict := none, data := .seq acc' c', slots := #[] } →
      IntRow acc' x → R (.ok (.ret res)) { s with heap := h', toks := tk }) (hn : x.length ≤ sizeLine) :
    wpAny (model prog w) A.in1 (Builtin.List.listExtendWith (.ref S) (.bytes x.toArray t) res)
      (fun fin s' => match fin with | .done f => R (.ok f) s' | .again c' => c'.quiet = true ∧ codeAny (model prog w) A c' R s') (fun e s' => R (.error e) s') s := by
  have hSI : S ≠ s.heap.objs.size := Nat.ne_of_lt (Heap.lt_size hS)
  have hSf : S ∉ [s.heap.objs.size] := fun hm => hSI (List.mem_singleton.mp hm)
  unfold Builtin.List.listExtendWith
  refine wpAny_bind (wpAny_typeOf (T := "bytes") (v := .bytes x.toArray t) rfl ?_)
  have h1 : Builtin.List.listSameRef (.ref S) (.bytes x.toArray t) = false := rfl
  have h2 : (Value.type "bytes" == Value.type "list") = false := by decide
  have h3 : (Value.type "bytes" == Value.type "tuple") = false := by decide
  simp only [h1, h2, h3, Bool.or_false, Bool.false_eq_true, if_false]
  refine wpAny_bind (KBw.pyIter_bytes ?_)
  refine wpAny_bind (wpAny_holding ?_)
  unfold Builtin.List.listLengthHint
  refine wpAny_bind (wpAny_specialOf (T := "bytes") (v := .bytes x.toArray t) rfl lb_len ?_)
  wp_delta
  refine wpAny_bind (wpAny_isInstance (T := "bytes") (v := .bytes x.toArray t) (b := true) rfl (by rw [isSubtype_type]; kernel_rfl) ?_)
  show wpAny _ _ (typeOf (Value.bytes x.toArray t) >>= _) _ _ _
  refine wpAny_bind (wpAny_typeOf (T := "bytes") (v := .bytes x.toArray t) rfl ?_)
  refine wpAny_pure ?_
  rw [if_neg (by decide)]
  refine wpAny_pure ⟨plainId_quiet F.plain_extend_loop _, codeAny_extend_loopS (KBw.walks (A := A.in1) hh s.heap.objs.size x.toArray t).toS (by rw [List.size_toArray]; exact hn) _ hSf _ x.toArray.size 0 _ _ _ rfl (Nat.zero_le _) ⟨_, Heap.get?_push_size _ rfl, rfl, rfl⟩ (Heap.get?_push_of_some _ hS) (ItemsOf.nil _) fun s' acc' c' hm hS' hacc => ?_⟩
  rw [Moved.eq_with hm]
  refine hR s'.heap s'.toks acc' c' (fun b ob hb e => hm.heap b ob (fun hmem => ?_) (Heap.get?_push_of_some _ e)) hS' ?_
  · rcases List.mem_cons.mp hmem with e' | hmem
    · exact hb e'
    · exact absurd (Heap.lt_size e) (by rw [List.mem_singleton.mp hmem]; exact Nat.lt_irrefl _)
  · refine ⟨by rw [hacc.1, List.size_toArray], fun j c e => ?_⟩
    have hj : j < acc'.size := by
      rw [hacc.1, List.size_toArray]
      rcases Nat.lt_or_ge j x.length with q | q
      · exact q
      · rw [List.getElem?_eq_none q] at e; cases e
    obtain ⟨c', u, e1, e2⟩ := hacc.2 j acc'[j] (Array.getElem?_eq_getElem hj)
    rw [List.getElem?_toArray, e] at e1
    cases e1
    exact ⟨u, by rw [Array.getElem?_eq_getElem hj, e2]⟩
theorem list_bytes {Q : Value → Shared → Prop} (hh : A.handled = none) (x : List UInt8) (t : Tok)
    (hQ : ∀ h' tk acc' c', (∀ b o, s.heap.get? b = some o → h'.get? b = some o) →
      h'.get? s.heap.objs.size = some { cls := .type "list", dict := none, data := .seq acc' c', slots := #[] } → IntRow acc' x → Q (.ref s.heap.objs.size) { s with heap := h', toks := tk }) (hn : x.length ≤ sizeLine) :
    wpAny (model prog w) A (call (.type "list") [.bytes x.toArray t]) Q E s := by
  refine callType_codes (Q₁ := fun obj s₁ => obj = .ref s.heap.objs.size ∧ s₁ = { s with heap := s.heap.push { cls := .type "list", data := .seq #[] } }) F.called_list (F.typeCall_list_1 _) F.entry_list_init
    (code_list_new _ ⟨rfl, rfl⟩) fun obj s₁ h₁ => ?_
  obtain ⟨rfl, rfl⟩ := h₁
  have hS : (s.heap.push { cls := .type "list", data := .seq #[] }).get? s.heap.objs.size = some { cls := .type "list", data := .seq #[] } := Heap.get?_push_size _ rfl
  refine ⟨⟨_, hS, rfl⟩, F.args_list_init_2 _ _, ?_⟩
  show wpAny _ A.in1.in1 (do let old ← Builtin.List.listItems (.ref s.heap.objs.size); Builtin.List.listUpdate (.ref s.heap.objs.size) (fun _ => #[]); letGo old.toList.reverse; Builtin.List.listExtendWith (.ref s.heap.objs.size) (.bytes x.toArray t) .none) _ _ _
  refine wpAny_bind ?_
  unfold Builtin.List.listItems
  refine wpAny_bind (wpAny_seqItems hS rfl (wpAny_pure ?_))
  show wpAny _ _ (updateSeq s.heap.objs.size (fun _ => #[]) >>= fun _ => letGo (#[] : Array Value).toList.reverse >>= fun _ => Builtin.List.listExtendWith (.ref s.heap.objs.size) (.bytes x.toArray t) .none) _ _ _
  refine wpAny_bind (wpAny_updateSeq hS rfl ?_)
  have hS₂ := Heap.get?_update_self (Obj.mapSeq (fun _ => (#[] : Array Value))) hS rfl
  refine wpAny_bind (wpAny_letGo ?_)
  refine extend_bytes (A := A.in1) hh x t s.heap.objs.size .none _ hS₂ (fun h' tk acc' c' hk hS' hacc => ?_) hn
  exact ⟨rfl, hQ h' tk acc' c' (fun b o e => hk b o (Nat.ne_of_lt (Heap.lt_size e)) ((Heap.get?_update_other _ _ (Nat.ne_of_gt (Heap.lt_size e))).trans (Heap.get?_push_of_some _ e))) hS' hacc⟩
end
end
-- JxPartE
section
theorem jxPartE_rows1 : True := by
  k_with_none
  (k_with "jx gg" => first | exact GG.refl _ | assumption | (refine GG.trans ?_ (by assumption); walk_at "jx gg"))
  (k_with "jx asks" => ((case k1 => k_asm); (case k2 => k_asm); (case k3 => k_asm); (case k4 => k_asm); (case k5 => k_asm); (case k6 => first | exact rfl | assumption); (case k7 => ktr_room); (case k8 => ktr_units)))
  (k_with "jx ne" => first | assumption | exact List.forall_mem_nil _ | (refine List.forall_mem_cons.mpr ⟨(by first | assumption | exact fun p9 z9 => absurd (congrArg Obj.cls z9) (by intro y9; cases y9) | exact notTab_cell (by assumption)), ?_⟩; walk_at "jx ne"))
  (k_with "jx backP" => (intro v9 ps9 h9 g9 tk9 R9 t9P F9 N9 G9; (first | (obtain ⟨t9, e9⟩ := R9; subst e9) | subst R9); (try dsimp only); (try k_sweep); (try k_fold)))
  (k_with "jx back" => (intro v9 h9 g9 tk9 R9 F9 N9 G9; (first | (obtain ⟨t9, e9⟩ := R9; subst e9) | subst R9); (try dsimp only); (try k_sweep); (try k_fold)))
  (k_with "jx back0" => (intro v9 h9 tk9 R9 F9 N9; (first | (obtain ⟨t9, e9⟩ := R9; subst e9) | subst R9); (try dsimp only); (try k_sweep); (try k_fold)))
  (k_with "jx dive" => skip)
  (k_with "jx fly0" => (intro e9 t9 xs9 h19 h9 tk9 F9 U9 R9; (try dsimp only); walk_at "jx dive"; (try k_fold)))
  (k_with "jx flyN" => (intro e9 h19 h9 g9 tk9 F9 U9 R9 G9; (try dsimp only); walk_at "jx diveN"; (try k_fold)))
  (k_with "jx diveN" => skip)
  (k_with "jx fly" => (intro e9 t9 xs9 h19 h9 g9 tk9 F9 U9 R9 G9; (try dsimp only); walk_at "jx dive"; (try k_fold)))
  (k_with "jx dec" => first | assumption | decide | (simp only [List.size_toArray, List.length_append, List.length_cons, List.length_nil, bne_iff_ne, ne_eq, beq_iff_eq, Bool.not_eq_true, Decidable.not_not, decide_eq_true_eq, decide_eq_false_iff_not, Bool.not_true, Bool.not_false, reduceCtorEq, not_false_eq_true, not_true_eq_false]; done) | (simp only [List.size_toArray, List.length_append, List.length_cons, List.length_nil, bne_iff_ne, ne_eq, beq_iff_eq, Bool.not_eq_true, Decidable.not_not, decide_eq_true_eq, decide_eq_false_iff_not]; omega))
  (k_with "ite" => (k_here; first | rw [if_pos (by walk_at "jx dec")] | rw [if_neg (by walk_at "jx dec")]))
  exact trivial
theorem jxPartE_rows2 : True := by
  (k_with "jx cut" => with_reducible first | exact cutL_from _ _ | exact cutL_to _ _ | exact cutL_mid _ _ _ | exact cutL_last _ _ (by decide) | exact cutL_but _ _ _ (by decide) | exact cut_all _ | exact cut_from _ _ | exact cut_to _ _ | exact cut_mid _ _ _)
  (k_with "jx len" => first | omega | (simp only [List.length_append, List.length_cons, List.length_nil, List.length_take, List.length_drop, List.length_replicate, List.length_map, List.length_reverse]; omega))
  (k_with "binaryOp Add bytes bytes" => (k_here; (with_reducible show wpAny _ _ (binaryOp Operator.Add (Value.bytes (List.toArray _) _) (Value.bytes (List.toArray _) _)) _ _ _); (refine jb_add (by walk_at "jx len") ?_); intro _ _))
  (k_with "call builtin:len" => (k_here; (with_reducible show wpAny _ _ (call (Value.builtin "len") [Value.bytes (List.toArray _) _]) _ _ _); (refine jb_len (by walk_at "jx len") ?_); intro _ _))
  (k_with "compareOp Eq bytes bytes" => refine jb_eq ?_)
  (k_with "compareOp NotEq bytes bytes" => refine jb_ne ?_)
  (k_with "subscriptTail" => (k_here; (with_reducible show wpAny _ _ (subscriptTail _ (Expr.Slice _ _ none _) (Value.bytes (List.toArray _) _) (Value.ref _)) _ _ _); (with_reducible rename Fr _ _ _ _ => F'); (with_reducible rename News _ _ _ _ => N'); (refine jb_slice (s := ⟨_, _, _, _, _⟩) F' N' (by constructor) (by constructor) (by walk_at "jx len") (by walk_at "jx cut") ?_); intro _ _ _ _ _))
  (k_with "subscriptTail" => (k_here; (with_reducible show wpAny _ _ (subscriptTail _ _ (Value.bytes (List.toArray _) _) (Value.int _ _)) _ _ _); (refine KBy.item_N (by walk_at "jx len") (by walk_at "jx len") (by walk_at "jx len") ?_)))
  (k_with "eval Constant int" => (k_here; refine wpAny_Constant_int ?_; (try dsimp only)))
  exact trivial
noncomputable abbrev partElt : Expr := ((Expr.Name (Str.ofString "list") { line := 19, col := 12, endLine := 19, endCol := 16 }).Call [(Expr.Name (Str.ofString "items") { line := 19, col := 17, endLine := 19, endCol := 22 }).Subscript (Expr.Slice (some (Expr.Name (Str.ofString "k") { line := 19, col := 23, endLine := 19, endCol := 24 })) (some ((Expr.Name (Str.ofString "k") { line := 19, col := 25, endLine := 19, endCol := 26 }).BinOp Operator.Add (Expr.Name (Str.ofString "size") { line := 19, col := 29, endLine := 19, endCol := 33 }) { line := 19, col := 25, endLine := 19, endCol := 33 })) none { line := 19, col := 23, endLine := 19, endCol := 33 }) { line := 19, col := 17, endLine := 19, endCol := 34 }] [] { line := 19, col := 12, endLine := 19, endCol := 35 })
noncomputable abbrev partScope : Scope := { kind := ScopeKind.function, names := [(Str.ofString ".0", NameKind.local), (Str.ofString "k", NameKind.local), (Str.ofString "list", NameKind.globalImplicit), (Str.ofString "items", NameKind.free), (Str.ofString "size", NameKind.free)], isGenerator := false, isCoroutine := false }
theorem cut_eight {α : Type} (x : List α) (k : Nat) : cut x (some (k : Int)) (some ((k : Int) + 8)) = (x.drop k).take 8 := by
  have := cut_mid x k (k + 8)
  rw [show k + 8 - k = 8 by omega] at this
  rw [← this]; rfl
section
variable {prog : Program} {w : World} {A : Around} {E : Value → Shared → Prop} {s : Shared} {value slice : PySem.Expr} {a : List UInt8} {t : Tok} {l v : Value} {lo hi : Option Int} {Q : Value → Shared → Prop}
theorem jb_sliceP {r : List UInt8} (hl : IsPart l lo) (hu : IsPart v hi) (hz : a.length ≤ 16777216) (e : cut a lo hi = r)
    (h : ∀ t' k, Q (.bytes r.toArray t') { s with heap := s.heap.push { cls := .type "slice", data := .fields #[l, v, .none] }, toks := k })
    (hs : subscripted slice false (.bytes a.toArray t) (.ref s.heap.objs.size) = operate [.ref s.heap.objs.size, .bytes a.toArray t] (getItem (.bytes a.toArray t) (.ref s.heap.objs.size)) := by with_unfolding_all rfl)
    (ht : ∀ r, letTemporaryGo value (.bytes a.toArray t) r = pure () := by intro _; with_unfolding_all rfl) :
    wpAny (model prog w) A (subscriptTail value slice (.bytes a.toArray t) (.ref s.heap.objs.size)) Q E { s with heap := s.heap.push { cls := .type "slice", data := .fields #[l, v, .none] } } :=
  tail_of_ItemOn ⟨"bytes", _, FB.slot_bytes_getitem.lookup, typeIs_bytes _ _ _, getItem_meets (typeIs_bytes _ _ _) (by decide) FB.slot_bytes_getitem FB.entry_bytes_getitem (FB.args_bytes_getitem_2 _ _) (KBc.meets_slice2 a.toArray t _ hl hu)
    ⟨Heap.IsSliceOf.new _ _ _ _, Nat.le_trans (KBc.size_picked_le a.toArray lo hi) (by rw [sizeLine_eq, List.size_toArray]; exact hz), fun t' k => by
      rw [show KBy.picked a.toArray lo hi = r.toArray by rw [picked_cut, e]]
      exact h t' k⟩⟩ hs ht
end
noncomputable def HasCell (h : Heap) (c : Addr) (v : Value) : Prop := ∃ o, h.get? c = some o ∧ o.data = .cell (some v)
theorem jxPartE_rows3 : True := by
  (k_with "eval Name" => ((with_reducible rename HasCell _ _ (Value.bytes _ _) => hC1); (with_reducible show wpAny _ _ (eval (Expr.Name (PySem.Str.ofString "items") _) _) _ _ _); k_dflt (refine wpAny_Name (wpAny_loadName_cell (v := Value.bytes _ _) rfl rfl rfl hC1 ?_) rfl)))
  (k_with "eval Name" => ((with_reducible rename HasCell _ _ (Value.int _ _) => hC1); (with_reducible show wpAny _ _ (eval (Expr.Name (PySem.Str.ofString "size") _) _) _ _ _); k_dflt (refine wpAny_Name (wpAny_loadName_cell (v := Value.int _ _) rfl rfl rfl hC1 ?_) rfl)))
  exact trivial
theorem ns_list (w : World) : nsIn (kfrag w.params) mainGlobals (Str.ofString "list") = some none := by kernel_rfl
theorem part_elt {w : World} {A : Around} {s : Shared} {h₀ : Heap} {mean : ExcName → Option Value} {mg mb : Str → Option Value} {C c1 c2 : Nat} {m₃ : Str → Option Value} {E' : Value → Shared → Prop} {L : Addr} {o : List UInt8} {k : Nat} {t0 t1 tk : Tok}
    (hh : A.handled = none) (hz : o.length ≤ 4000) (X : (kfrag w.params).In h₀) (T : ctxTop mean mg mb h₀) (kp : ∀ b o, h₀.get? b = some o → s.heap.get? b = some o) (hn : s.heap.Ns C m₃) (hm : m₃ (Str.ofString "k") = some (.int (k : Int) tk))
    (hC1 : HasCell s.heap c1 (.bytes o.toArray t1)) (hC2 : HasCell s.heap c2 (.int 8 t0)) :
    wpAny (model rw_.prog w) A (eval partElt (compEnvC partScope [(Str.ofString "size", c2), (Str.ofString "items", c1)] C (envOfC (Str.ofString "partition_all") fnS15 L 109 (.ref 108)))) (fun y s₄ => (∃ T its, y = .ref T ∧ s.heap.get? T = none ∧ s₄.heap.IsList T its ∧ IntRow its ((o.drop k).take 8)) ∧ Keeps s s₄) E' s := by
  refine wpAny_Call_ofName (Name_function_global rfl rfl (loadGlobal_builtin (v := .type "list") (T.g.keeps kp) (mg_none_of X T.g (ns_list w)) (T.b.keeps kp) ((T.builtins _ (by decide)).trans rfl) ?_) rfl)
  k_steps
  refine jb_sliceP (s := ⟨_, _, _, _, _⟩) (.int _ _) (.int _ _) (by omega) (cut_eight o k) ?_
  intro t' k'
  k_steps
  refine list_bytes hh _ _ (fun h' tk acc' c' hk hS hr => ?_) ?_
  · refine ⟨⟨_, acc', rfl, ?_, ⟨_, hS, rfl, c', rfl⟩, hr⟩, _, _, rfl, fun b o e => hk b o (Heap.get?_push_of_some _ e)⟩
    cases z : s.heap.get? _ with
    | none => rfl
    | some ob => exact absurd (Heap.lt_size z) (by show ¬ (s.heap.push _).objs.size < s.heap.objs.size; rw [Heap.size_push]; exact Nat.not_lt.mpr (Nat.le_succ _))
  · have : ((o.drop k).take 8).length ≤ 8 := by rw [List.length_take]; exact Nat.min_le_left _ _
    exact Nat.le_trans this (by size_fits)
end
-- JxPart
section
theorem jxPart_rows1 : True := by
  k_with_none
  (k_with "jx gg" => first | exact GG.refl _ | assumption | (refine GG.trans ?_ (by assumption); walk_at "jx gg"))
  (k_with "jx asks" => ((case k1 => k_asm); (case k2 => k_asm); (case k3 => k_asm); (case k4 => k_asm); (case k5 => k_asm); (case k6 => first | exact rfl | assumption); (case k7 => ktr_room); (case k8 => ktr_units)))
  (k_with "jx ne" => first | assumption | exact List.forall_mem_nil _ | (refine List.forall_mem_cons.mpr ⟨(by first | assumption | exact fun p9 z9 => absurd (congrArg Obj.cls z9) (by intro y9; cases y9) | exact notTab_cell (by assumption)), ?_⟩; walk_at "jx ne"))
  (k_with "jx backP" => (intro v9 ps9 h9 g9 tk9 R9 t9P F9 N9 G9; (first | (obtain ⟨t9, e9⟩ := R9; subst e9) | subst R9); (try dsimp only); (try k_sweep); (try k_fold)))
  (k_with "jx back" => (intro v9 h9 g9 tk9 R9 F9 N9 G9; (first | (obtain ⟨t9, e9⟩ := R9; subst e9) | subst R9); (try dsimp only); (try k_sweep); (try k_fold)))
  (k_with "jx back0" => (intro v9 h9 tk9 R9 F9 N9; (first | (obtain ⟨t9, e9⟩ := R9; subst e9) | subst R9); (try dsimp only); (try k_sweep); (try k_fold)))
  (k_with "jx dive" => skip)
  (k_with "jx fly0" => (intro e9 t9 xs9 h19 h9 tk9 F9 U9 R9; (try dsimp only); walk_at "jx dive"; (try k_fold)))
  (k_with "jx flyN" => (intro e9 h19 h9 g9 tk9 F9 U9 R9 G9; (try dsimp only); walk_at "jx diveN"; (try k_fold)))
  (k_with "jx diveN" => skip)
  (k_with "jx fly" => (intro e9 t9 xs9 h19 h9 g9 tk9 F9 U9 R9 G9; (try dsimp only); walk_at "jx dive"; (try k_fold)))
  (k_with "jx dec" => first | assumption | decide | (simp only [List.size_toArray, List.length_append, List.length_cons, List.length_nil, bne_iff_ne, ne_eq, beq_iff_eq, Bool.not_eq_true, Decidable.not_not, decide_eq_true_eq, decide_eq_false_iff_not, Bool.not_true, Bool.not_false, reduceCtorEq, not_false_eq_true, not_true_eq_false]; done) | (simp only [List.size_toArray, List.length_append, List.length_cons, List.length_nil, bne_iff_ne, ne_eq, beq_iff_eq, Bool.not_eq_true, Decidable.not_not, decide_eq_true_eq, decide_eq_false_iff_not]; omega))
  (k_with "ite" => (k_here; first | rw [if_pos (by walk_at "jx dec")] | rw [if_neg (by walk_at "jx dec")]))
  exact trivial
theorem jxPart_rows2 : True := by
  (k_with "jx cut" => with_reducible first | exact cutL_from _ _ | exact cutL_to _ _ | exact cutL_mid _ _ _ | exact cutL_last _ _ (by decide) | exact cutL_but _ _ _ (by decide) | exact cut_all _ | exact cut_from _ _ | exact cut_to _ _ | exact cut_mid _ _ _)
  (k_with "jx len" => first | omega | (simp only [List.length_append, List.length_cons, List.length_nil, List.length_take, List.length_drop, List.length_replicate, List.length_map, List.length_reverse]; omega))
  (k_with "binaryOp Add bytes bytes" => (k_here; (with_reducible show wpAny _ _ (binaryOp Operator.Add (Value.bytes (List.toArray _) _) (Value.bytes (List.toArray _) _)) _ _ _); (refine jb_add (by walk_at "jx len") ?_); intro _ _))
  (k_with "call builtin:len" => (k_here; (with_reducible show wpAny _ _ (call (Value.builtin "len") [Value.bytes (List.toArray _) _]) _ _ _); (refine jb_len (by walk_at "jx len") ?_); intro _ _))
  (k_with "compareOp Eq bytes bytes" => refine jb_eq ?_)
  (k_with "compareOp NotEq bytes bytes" => refine jb_ne ?_)
  (k_with "subscriptTail" => (k_here; (with_reducible show wpAny _ _ (subscriptTail _ (Expr.Slice _ _ none _) (Value.bytes (List.toArray _) _) (Value.ref _)) _ _ _); (with_reducible rename Fr _ _ _ _ => F'); (with_reducible rename News _ _ _ _ => N'); (refine jb_slice (s := ⟨_, _, _, _, _⟩) F' N' (by constructor) (by constructor) (by walk_at "jx len") (by walk_at "jx cut") ?_); intro _ _ _ _ _))
  (k_with "subscriptTail" => (k_here; (with_reducible show wpAny _ _ (subscriptTail _ _ (Value.bytes (List.toArray _) _) (Value.int _ _)) _ _ _); (refine KBy.item_N (by walk_at "jx len") (by walk_at "jx len") (by walk_at "jx len") ?_)))
  (k_with "eval Constant int" => (k_here; refine wpAny_Constant_int ?_; (try dsimp only)))
  exact trivial
noncomputable def PartOf (_ : List UInt8) : Prop := True
noncomputable def partG (o : List UInt8) (v : Value) (its : Array Value) : Prop := ∀ (k : Nat) (t : Tok), v = .int (k : Int) t → IntRow its ((o.drop k).take 8)
section
variable {prog : Program} {w : World} {A : Around} {E : Value → Shared → Prop} {env : Env}
theorem part_comp {o : List UInt8} (_ : PartOf o) {s : Shared} {elt iter : Expr} {x : Str} {px : Pos} {ifs : List Expr} {scope : Scope} {cl : List (Str × Addr)} {pos : Pos} {Q : Value → Shared → Prop}
    (hclos : closureFor scope env = pure cl) (hcell : ∀ y ∈ scope.names, y.2 ≠ .cell) (hkind : scope.kind = .function)
    (hnames : ∀ y ∈ scope.names, y.2 = .local → scope.names.lookup y.1 = some .local) (hx : scope.names.lookup x = some .local)
    (h : wpAny (model prog w) A (eval iter env) (fun xv s₁ => wpAny (model prog w) A (pyIter xv) (fun it s₂ => ∃ I fp wr n P St, it = .ref I ∧ Walks prog w A I fp wr n P St ∧ n ≤ sizeLine ∧ (∀ i h, St i h → ∀ b ∈ wr, ∃ o, h.get? b = some o) ∧ St 0 s₂.heap ∧ (∀ b ∈ fp, b < s₂.heap.objs.size) ∧
      QuietOnCO prog w A env scope cl x ifs elt wr P (fun _ => true) (partG o) s₂ ∧
      (∀ D h' tk ys (vs : List Value), s₂.heap.get? D = none → h'.IsList D ys → h'.PlainList D ys → vs.length = n → (∀ j v, vs[j]? = some v → P j v) → Paired (LstIs s₂.heap (partG o) h') (vs.filter fun _ => true) ys.toList → ys.toList.Pairwise (· ≠ ·) →
        (∀ y ∈ ys.toList, y ≠ .ref D) →
        (∀ b o, b ∉ wr → s₂.heap.get? b = some o → h'.get? b = some o) → Q (.ref D) { s₂ with heap := h', toks := tk })) E s₁) E s) (hs : ∀ x, foldedSetIterable iter env x = pure x) :
    wpAny (model prog w) A (eval (.ListComp elt [⟨.Name x px, iter, ifs, 0⟩] scope pos) env) Q E s :=
  wpAny_ListComp_freeO (fun _ => true) (partG o) hclos hcell hkind hnames hx h hs
end
theorem jxPart_rows3 : True := by
  (k_with "eval ListComp" => (k_here; k_dflt (refine' part_comp ?lp ?la ?lb ?lc ?ld ?le ?_ ?lf; (case lp => assumption); (case la => exact rfl); (case lb => decide); (case lc => exact rfl); (case ld => decide); (case le => exact rfl); (case lf => (intro _; rfl)))))
  exact trivial
/-- what partition_all hands back -/
noncomputable def NewAt (h₀ : Heap) (L : Addr) (news : List (Addr × Obj)) (b : Addr) : Prop := h₀.get? b = none ∧ b ≠ L ∧ ∀ q ∈ news, q.1 ≠ b
noncomputable def Parts (o : List UInt8) (h₀ : Heap) (L : Addr) (news : List (Addr × Obj)) (h : Heap) (D : Addr) (ys : Array Value) : Prop :=
  NewAt h₀ L news D ∧ h.IsList D ys ∧ ys.size = (o.length + 7) / 8 ∧ ∀ j, j < (o.length + 7) / 8 → ∃ T its, ys[j]? = some (.ref T) ∧ NewAt h₀ L news T ∧ h.IsList T its ∧ IntRow its ((o.drop (8 * j)).take 8)
noncomputable abbrev MakesParts (d : Nat) (w : World) (o : List UInt8) (t0 t1 : Tok) : Prop :=
  ∀ (mean : ExcName → Option Value) (mg mb : Str → Option Value) (dp un : Nat) (gd : Option (List Code)) (cn : Str) (cs : Scope) (a : Addr) (ccd : Value) (cl : List (Str × Addr)) (outer : List Env) (A₀ : Around) (base h₀ : Heap) (L : Addr) (m : Str → Option Value) (news : List (Addr × Obj)) (s : Shared) (Q E : Value → Shared → Prop),
    At w d mean mg mb dp un cs outer A₀ base h₀ L m news s.heap →
    (∀ D ys h' g' tk', Parts o h₀ L news h' D ys → Fr h₀ L h' m → News h₀ L h' news → GG s.gens g' → Q (.ref D) { s with heap := h', gens := g', toks := tk' }) →
    wpAny (model rw_.prog w) (ktrTop dp un gd cn cs L a ccd cl outer) (call (.ref 109) [.int 8 t0, .bytes o.toArray t1]) Q E s
theorem newAt_of {h₀ g h : Heap} {L L' : Addr} {m m' : Str → Option Value} {news cells : List (Addr × Obj)} {b : Addr} (FG : Fr h₀ L g m) (F : Fr g L' h m') (N : News g L' h (cells ++ news)) (e : h.get? b = none) : NewAt h₀ L news b := by
  have nope : ∀ c o, h.get? c = some o → c ≠ b := fun c o q z => by rw [z, e] at q; cases q
  refine ⟨?_, ?_, fun q hq => nope _ _ (N q (List.mem_append_right _ hq)).1⟩
  · cases z : h₀.get? b with
    | none => rfl
    | some o => exact absurd rfl (nope b o (F.keep _ _ (FG.keep _ _ z)))
  · obtain ⟨o, _, _, ho, _⟩ := FG.ns
    exact (nope L o (F.keep _ _ ho)).symm
theorem none_of_push {h : Heap} {o : Obj} {b : Addr} (e : (h.push o).get? b = none) : h.get? b = none := by
  cases z : h.get? b with
  | none => rfl
  | some ob => rw [Heap.get?_push_of_some _ z] at e; cases e
theorem rangeSize_8 (n : Nat) : Builtin.Range.rangeSize 0 (n : Int) 8 = (((n + 7) / 8 : Nat) : Int) := by
  unfold Builtin.Range.rangeSize
  rw [if_pos (by decide)]
  by_cases h : (0 : Int) < n
  · rw [if_pos h]; omega
  · rw [if_neg h]
    obtain rfl : n = 0 := by omega
    rfl
theorem fits_small {k : Int} (h0 : 0 ≤ k) (h1 : k ≤ 100000) : Builtin.Range.rangeFitsLong k = true := by
  unfold Builtin.Range.rangeFitsLong
  have e : (2 : Int) ^ 63 = 9223372036854775808 := by decide
  rw [e, Bool.and_eq_true, decide_eq_true_iff, decide_eq_true_iff]
  omega
theorem small_8 {n : Nat} (h : n ≤ 4000) : Builtin.Range.small 0 (n : Int) 8 = true := by
  unfold Builtin.Range.small
  rw [rangeSize_8, fits_small (k := 0) (by omega) (by omega), fits_small (k := (n : Int)) (by omega) (by omega), fits_small (k := 8) (by omega) (by omega), fits_small (k := (((n + 7) / 8 : Nat) : Int)) (by omega) (by omega), if_pos (by decide), fits_small (k := (n : Int) + (8 - 1)) (by omega) (by omega), Bool.or_true]
  rfl
theorem paired_get {α β : Type} {F : α → β → Prop} : ∀ {l₁ : List α} {l₂ : List β}, Paired F l₁ l₂ → ∀ (j : Nat) (a : α), l₁[j]? = some a → ∃ b, l₂[j]? = some b ∧ F a b
  | _, _, .nil, j, a, h => by simp at h
  | _, _, .cons x r, 0, a, h => by
    cases h
    exact ⟨_, rfl, x⟩
  | _, _, .cons x r, j + 1, a, h => paired_get r j a h
theorem paired_len {α β : Type} {F : α → β → Prop} {l₁ : List α} {l₂ : List β} (h : Paired F l₁ l₂) : l₂.length = l₁.length := by
  induction h with
  | nil => rfl
  | cons _ _ ih => simp [ih]
theorem part_fin {w : World} {A : Around} (hh : A.handled = none) {s₂ : Shared} {g : Heap} {mean : ExcName → Option Value} {mg mb : Str → Option Value} {I c1 c2 : Nat} {L : Addr} {o : List UInt8} {t0 t1 : Tok} {Q : Value → Shared → Prop}
    (hz : o.length ≤ 4000) (X : (kfrag w.params).In g) (T : ctxTop mean mg mb g) (kp : ∀ b o, g.get? b = some o → s₂.heap.get? b = some o) (hIg : g.get? I = none) (hI : IsRangeIter s₂.heap I 0 (((o.length + 7) / 8 : Nat) : Int) 8)
    (hC1 : HasCell s₂.heap c1 (.bytes o.toArray t1)) (hC2 : HasCell s₂.heap c2 (.int 8 t0)) (h1 : c1 ≠ I) (h2 : c2 ≠ I)
    (ret : ∀ D h' tk ys, s₂.heap.get? D = none → h'.IsList D ys → ys.size = (o.length + 7) / 8 → (∀ j, j < (o.length + 7) / 8 → ∃ T its, ys[j]? = some (.ref T) ∧ s₂.heap.get? T = none ∧ h'.IsList T its ∧ IntRow its ((o.drop (8 * j)).take 8)) →
      (∀ b o, b ≠ I → s₂.heap.get? b = some o → h'.get? b = some o) → Q (.ref D) { s₂ with heap := h', toks := tk }) :
    ∃ I' fp wr n P St, Value.ref I = .ref I' ∧ Walks (rw_.prog) w A I' fp wr n P St ∧ n ≤ sizeLine ∧ (∀ i h, St i h → ∀ b ∈ wr, ∃ o, h.get? b = some o) ∧ St 0 s₂.heap ∧ (∀ b ∈ fp, b < s₂.heap.objs.size) ∧
      QuietOnCO rw_.prog w A (envOfC (Str.ofString "partition_all") fnS15 L 109 (.ref 108)) partScope [(Str.ofString "size", c2), (Str.ofString "items", c1)] (Str.ofString "k") [] partElt wr P (fun _ => true) (partG o) s₂ ∧
      (∀ D h' tk ys (vs : List Value), s₂.heap.get? D = none → h'.IsList D ys → h'.PlainList D ys → vs.length = n → (∀ j v, vs[j]? = some v → P j v) → Paired (LstIs s₂.heap (partG o) h') (vs.filter fun _ => true) ys.toList → ys.toList.Pairwise (· ≠ ·) →
        (∀ y ∈ ys.toList, y ≠ .ref D) →
        (∀ b o, b ∉ wr → s₂.heap.get? b = some o → h'.get? b = some o) → Q (.ref D) { s₂ with heap := h', toks := tk }) := by
  refine ⟨I, _, _, _, _, _, rfl, Walks.range hh I 0 8 ((o.length + 7) / 8), Nat.le_trans (show (o.length + 7) / 8 ≤ 4000 by omega) (by size_fits), fun i h st b hb => ?_, ?_, fun b hb => ?_, ⟨fun C i v s₃ m₃ E' _ hv hn hm kk _ => ?_, fun C i v s₃ m₃ E' _ hv _ hn hm kk _ => ?_⟩, fun D h' tk ys vs hD hl _ hlen hP hF _ _ kk => ?_⟩
  · rw [List.mem_singleton.mp hb]; exact ⟨_, st⟩
  · show IsRangeIter s₂.heap I (0 + ((0 : Nat) : Int) * 8) ((((o.length + 7) / 8 : Nat) : Int) - ((0 : Nat) : Int)) 8
    simpa using hI
  · rw [List.mem_singleton.mp hb]; exact Heap.lt_size hI
  · exact wpAny_pure ⟨rfl, _, _, rfl, fun _ _ e => e⟩
  · obtain ⟨t, rfl⟩ := hv
    have one : ∀ b : Nat, b ≠ I → b ∉ [I] := fun b q z => q (List.mem_singleton.mp z)
    have gI : ∀ b ob, g.get? b = some ob → b ≠ I := fun b ob e z => by rw [z, hIg] at e; cases e
    have hm' : m₃ (Str.ofString "k") = some (.int ((8 * i : Nat) : Int) t) := by
      rw [hm]
      congr 2
      omega
    refine wpAny_mono (part_elt (k := 8 * i) (t0 := t0) (t1 := t1) hh hz X T (fun b ob e => kk b ob (one b (gI b ob e)) (kp b ob e)) hn hm' ?_ ?_) (fun y s₄ hy => ?_) fun _ _ e => e
    · obtain ⟨ob, e, d⟩ := hC1
      exact ⟨ob, kk _ _ (one _ h1) e, d⟩
    · obtain ⟨ob, e, d⟩ := hC2
      exact ⟨ob, kk _ _ (one _ h2) e, d⟩
    · obtain ⟨⟨T, its, e1, e2, e3, e4⟩, kk4⟩ := hy
      refine ⟨⟨T, its, e1, e2, e3, fun k t' e => ?_⟩, kk4⟩
      injection e with e5
      obtain rfl : k = 8 * i := by omega
      exact e4
  · have hF' := hF
    rw [List.filter_eq_self.mpr (fun _ _ => rfl)] at hF'
    have hl2 := paired_len hF'
    refine ret D h' tk ys hD hl (by rw [← Array.length_toList, hl2, hlen]) (fun j hj => ?_) fun b ob q e => kk b ob (fun z => q (List.mem_singleton.mp z)) e
    obtain ⟨y, hy, T, its, rfl, hT, hlT, hG⟩ := paired_get hF' j vs[j] (List.getElem?_eq_getElem (by omega))
    obtain ⟨t, hv⟩ := hP j vs[j] (List.getElem?_eq_getElem (by omega))
    refine ⟨T, its, by rw [← Array.getElem?_toList]; exact hy, hT, hlT, hG (8 * j) t ?_⟩
    rw [hv]
    congr 1
    omega
theorem part_ok (w : World) (o : List UInt8) (t1 t0 : Tok) (hz : o.length ≤ 4000) : MakesParts 4 w o t0 t1 := by
  have hPO : PartOf o := trivial
  unfold MakesParts
  refine (show (kfrag = kfrag → _) → _ from fun hh => hh rfl) ?_
  k_fill
  w_on
  intro _
  intro mean mg mb dp un gd cn cs a ccd cl outer A₀ base h₀ L m news s Q E ⟨B, F, X, N, T, hk, hd, hu⟩ hret
  refine wpAny_call (code_defC (name := Str.ofString "partition_all") (params := fnP15) (body := fnB15) (scope := fnS15) (binds := [(Str.ofString "size", .int 8 t0), (Str.ofString "items", .bytes o.toArray t1)]) B F X N T rfl rfl hk (by k_is) (by k_is) (by ktr_room) (BindsTo.of_eq rfl) rfl (by decide) ?_ rfl rfl rfl)
  k_whole
  intro g' L' h' tk' cells' FG' F' N' Y' B' X' T' l1
  dsimp only [fnB15, fnS15, List.length, List.reverse, List.reverseAux] at F' Y' ⊢
  (try k_lt l1)
  k_cells Y'
  (try simp only [List.cons_append, List.nil_append] at N')
  (try dsimp only)
  (try k_lift B')
  (try k_fold)
  k_steps
  with_reducible rename IsRange _ _ _ _ _ _ _ _ => hR9
  with_reducible rename News _ _ _ _ => N9
  with_reducible rename Fr _ _ _ _ => F9
  dsimp only at hR9 ⊢
  refine wpAny_pyIter_range hR9 (small_8 hz) ?_
  rw [rangeSize_8]
  dsimp only
  have cell_ne : ∀ c ob, (c, ob) ∈ ((L' + 1 + 1, _) :: (L' + 1, _) :: news) → c < _ := fun c ob hm => Heap.lt_size (N9 _ hm).1
  refine' part_fin (s₂ := ⟨_, _, _, _, _⟩) (t0 := t0) (t1 := t1) ?hh hz X' T' ?kp ?ig ?hI ?c1 ?c2 ?n1 ?n2 ?ret
  case hh => exact rfl
  case kp => exact fun b ob e => Heap.get?_push_of_some _ (F9.keep b ob e)
  case hI => exact Heap.get?_push_size _ rfl
  case ig =>
    cases z : g'.get? _ with
    | none => rfl
    | some ob => exact absurd (Heap.lt_size (F9.keep _ _ z)) (Nat.lt_irrefl _)
  case c1 => exact ⟨_, Heap.get?_push_of_some _ (N9 _ (List.Mem.head _)).1, by assumption⟩
  case c2 => exact ⟨_, Heap.get?_push_of_some _ (N9 _ (List.Mem.tail _ (List.Mem.head _))).1, by assumption⟩
  case n1 => exact Nat.ne_of_lt (cell_ne _ _ (List.Mem.head _))
  case n2 => exact Nat.ne_of_lt (cell_ne _ _ (List.Mem.tail _ (List.Mem.head _)))
  case ret =>
    intro D h9 tk9 ys hD hl hys hT hk
    have up : ∀ (b : Addr) (ob : Obj), _ → h9.get? b = some ob := fun b ob e => hk b ob (Nat.ne_of_lt (Heap.lt_size e)) (Heap.get?_push_of_some _ e)
    have F10 := Fr.mk (F9.ns.at' fun ob e => up _ ob e) (fun b ob e => up b ob (F9.keep b ob e)) F9.above
    have N10 : News g' L' h9 news := fun q hq => ⟨up _ _ (N9 q (List.Mem.tail _ (List.Mem.tail _ hq))).1, (N9 q (List.Mem.tail _ (List.Mem.tail _ hq))).2⟩
    refine leaveK_ F10 N10 fun kF kN => ?_
    refine hret D ys _ _ _ ⟨newAt_of (cells := [_, _]) FG' F9 N9 (none_of_push hD), hl, hys, fun j hj => ?_⟩ kF kN (GG.refl _)
    obtain ⟨T, its, e1, e2, e3, e4⟩ := hT j hj
    exact ⟨T, its, e1, newAt_of (cells := [_, _]) FG' F9 N9 (none_of_push e2), e3, e4⟩
end
-- JxEnum
section
theorem jxEnum_rows1 : True := by
  k_with_none
  (k_with "jx gg" => first | exact GG.refl _ | assumption | (refine GG.trans ?_ (by assumption); walk_at "jx gg"))
  (k_with "jx asks" => ((case k1 => k_asm); (case k2 => k_asm); (case k3 => k_asm); (case k4 => k_asm); (case k5 => k_asm); (case k6 => first | exact rfl | assumption); (case k7 => ktr_room); (case k8 => ktr_units)))
  (k_with "jx ne" => first | assumption | exact List.forall_mem_nil _ | (refine List.forall_mem_cons.mpr ⟨(by first | assumption | exact fun p9 z9 => absurd (congrArg Obj.cls z9) (by intro y9; cases y9) | exact notTab_cell (by assumption)), ?_⟩; walk_at "jx ne"))
  (k_with "jx backP" => (intro v9 ps9 h9 g9 tk9 R9 t9P F9 N9 G9; (first | (obtain ⟨t9, e9⟩ := R9; subst e9) | subst R9); (try dsimp only); (try k_sweep); (try k_fold)))
  (k_with "jx back" => (intro v9 h9 g9 tk9 R9 F9 N9 G9; (first | (obtain ⟨t9, e9⟩ := R9; subst e9) | subst R9); (try dsimp only); (try k_sweep); (try k_fold)))
  (k_with "jx back0" => (intro v9 h9 tk9 R9 F9 N9; (first | (obtain ⟨t9, e9⟩ := R9; subst e9) | subst R9); (try dsimp only); (try k_sweep); (try k_fold)))
  (k_with "jx dive" => skip)
  (k_with "jx fly0" => (intro e9 t9 xs9 h19 h9 tk9 F9 U9 R9; (try dsimp only); walk_at "jx dive"; (try k_fold)))
  (k_with "jx flyN" => (intro e9 h19 h9 g9 tk9 F9 U9 R9 G9; (try dsimp only); walk_at "jx diveN"; (try k_fold)))
  (k_with "jx diveN" => skip)
  (k_with "jx fly" => (intro e9 t9 xs9 h19 h9 g9 tk9 F9 U9 R9 G9; (try dsimp only); walk_at "jx dive"; (try k_fold)))
  (k_with "jx dec" => first | assumption | decide | (simp only [List.size_toArray, List.length_append, List.length_cons, List.length_nil, bne_iff_ne, ne_eq, beq_iff_eq, Bool.not_eq_true, Decidable.not_not, decide_eq_true_eq, decide_eq_false_iff_not, Bool.not_true, Bool.not_false, reduceCtorEq, not_false_eq_true, not_true_eq_false]; done) | (simp only [List.size_toArray, List.length_append, List.length_cons, List.length_nil, bne_iff_ne, ne_eq, beq_iff_eq, Bool.not_eq_true, Decidable.not_not, decide_eq_true_eq, decide_eq_false_iff_not]; omega))
  (k_with "ite" => (k_here; first | rw [if_pos (by walk_at "jx dec")] | rw [if_neg (by walk_at "jx dec")]))
  exact trivial
section
open AutoSeq1 (wpAny_loadPart')
theorem meets_enumR (r l : Addr) (i : Int) :
    Meets (Builtin.«enumerate.__new__» ⟨[.type "enumerate", .ref r], []⟩) (fun _ R s => s.heap.IsRevIter r l i ∧
      R (.ok (.ret (.ref s.heap.objs.size))) { s with heap := s.heap.push { cls := .type "enumerate", data := .fields #[.none, .bool false, .ref r, rawInt 0, .none, .none] } }) :=
  .of_wp fun prog w A R s h => by
    obtain ⟨hp, g, d, tk, os⟩ := s; obtain ⟨hl, h⟩ := h
    have hsub := sub_enumerate
    have hL : Heap.IsRevIter (Shared.heap ⟨hp, g, d, tk, os⟩) r l i := hl
    wp_walk using wpAny_pyIter_revIter hL
    refine wpAny_stack_any fun st => wpAny_pure ?_
    split
    · rename_i c _ _ _ _ _
      cases (c == Value.type "enumerate")
      · wp_walk using wpAny_pyIter_revIter hL
        exact ⟨_, rfl, h⟩
      · wp_walk using wpAny_pyIter_revIter hL
        exact ⟨_, rfl, h⟩
    · wp_walk using wpAny_pyIter_revIter hL
      exact ⟨_, rfl, h⟩
theorem call_enumR {prog : Program} {w : World} {A : Around} {E : Value → Shared → Prop} {s : Shared} {r l : Addr} {i : Int} {Q : Value → Shared → Prop} (hL : s.heap.IsRevIter r l i)
    (h : ∀ h', IsEnum h' s.heap.objs.size r 0 .none → h'.objs.size = s.heap.objs.size + 1 → (∀ b o, s.heap.get? b = some o → h'.get? b = some o) → Q (.ref s.heap.objs.size) { s with heap := h' }) :
    wpAny (model prog w) A (call (.type "enumerate") [.ref r]) Q E s := by
  refine callType_new F.called_enumerate (by decide) (F.typeCall_enumerate_1 _) (F.newCall_enumerate_1 _) (fun obj => F.args_object_init_2 obj _) F.entry_enumerate_new (meets_enumR r l i) ⟨hL, ?_⟩
  have he : IsEnum (s.heap.push { cls := .type "enumerate", data := .fields #[.none, .bool false, .ref r, rawInt 0, .none, .none] }) s.heap.objs.size r 0 .none := Heap.get?_push_size _ rfl
  exact ⟨⟨_, he, rfl⟩, h _ he (Heap.size_push _ _) fun b o x => Heap.get?_push_of_some _ x⟩
end
section
variable {prog : Program} {w : World} {A : Around} {E : Value → Shared → Prop} {s : Shared}
theorem nextOf_rev_item {it l : Addr} {i : Nat} {items : Array Value} {x : Value} {Q : Value → Shared → Prop} (hit : s.heap.IsRevIter it l (i : Int)) (hl : s.heap.IsList l items) (hx : items[i]? = some x)
    (hQ : ∀ h', h'.IsRevIter it l ((i : Int) - 1) → Heap.SameBut it s.heap h' → Q x { s with heap := h' }) : wpAny (model prog w) A (Builtin.SmallTypes.nextOf (.ref it)) Q E s := by
  obtain ⟨o, ho, hc, hd⟩ := id hit
  obtain ⟨ol, hol, _, nl, hdl⟩ := hl
  unfold Builtin.SmallTypes.nextOf
  refine wpAny_bind (wpAny_callSpecial?_slot (name := Str.ofString "__next__") hit.typeIs F.slot_lri_next
    (wpAny_call_entry F.slot_lri_next hit.typeIs F.entry_lri_next ?_ (F.args_lri_next_1 _)))
  unfold Builtin.«list_reverseiterator.__next__»
  refine wpAny_bind (wpAny_of_eq (a := (Value.ref it, [])) rfl ?_)
  try dsimp only
  refine wpAny_bind (wpAny_field ho hd (x := rawInt (i : Int)) rfl ?_)
  show wpAny _ _ (if (i : Int) < 0 then _ else _) _ _ s
  rw [if_neg (by omega)]
  show wpAny _ _ (field (.ref it) 0 >>= _) _ _ s
  refine wpAny_bind (wpAny_field ho hd (x := .ref l) rfl ?_)
  show wpAny _ _ (seqItems? (.ref l) >>= _) _ _ s
  refine wpAny_bind (wpAny_seqItems hol hdl ?_)
  simp only [Int.toNat_natCast, hx]
  refine wpAny_bind (wpAny_setField ho hd (by simp) ?_)
  first
  | refine wpAny_pure ⟨x, rfl, wpAny_pure (hQ _ ?_ (Heap.SameBut.update ..))⟩
  | refine wpAny_bind (wpAny_pure (wpAny_pure ⟨x, rfl, wpAny_pure (hQ _ ?_ (Heap.SameBut.update ..))⟩))
  exact ⟨_, Heap.get?_update_self _ ho (Obj.isFreed_of_fields (Obj.data_mapFields hd _)), (Obj.cls_mapFields ..).trans hc, by
    rw [Obj.data_mapFields hd]; simp⟩
theorem nextOf_rev_end {it l : Addr} {Q : Value → Shared → Prop} (hh : A.handled = none) (hit : s.heap.IsRevIter it l (-1))
    (hE : ∀ h' e, Heap.ExtBut it s.heap h' → (∃ o, h'.get? e = some o ∧ o.cls = .type "StopIteration") → E (.ref e) { s with heap := h' }) : wpAny (model prog w) A (Builtin.SmallTypes.nextOf (.ref it)) Q E s := by
  obtain ⟨o, ho, hc, hd⟩ := id hit
  unfold Builtin.SmallTypes.nextOf
  refine wpAny_bind (wpAny_callSpecial?_slot (name := Str.ofString "__next__") hit.typeIs F.slot_lri_next
    (wpAny_call_entry F.slot_lri_next hit.typeIs F.entry_lri_next ?_ (F.args_lri_next_1 _)))
  unfold Builtin.«list_reverseiterator.__next__»
  refine wpAny_bind (wpAny_of_eq (a := (Value.ref it, [])) rfl ?_)
  try dsimp only
  refine wpAny_bind (wpAny_field ho hd (x := rawInt (-1)) rfl ?_)
  show wpAny _ _ (if (-1 : Int) < 0 then _ else _) _ _ s
  rw [if_pos (by decide)]
  refine wpAny_bind (wpAny_rule ?_)
  first
  | show wpAny _ _ (newExc (.type "StopIteration") [] >>= _) _ _ _
  | (refine wpAny_bind ?_; show wpAny _ _ (newExc (.type "StopIteration") [] >>= _) _ _ _)
  refine wpAny_bind ?_
  simp only [newExc, newTuple]
  refine wpAny_bind (wpAny_newObj_type ?_ (by size_fits))
  refine wpAny_bind (m := firstArgMember _ _) (wpAny_of_eq (a := Value.none) (by first | rfl | (simp only [firstArgMember]; rfl)) ?_)
  refine wpAny_newObj_type ?_ (by size_fits)
  simp only [raiseNew]
  refine wpAny_bind (wpAny_handled ?_)
  first | rw [show A.in1.handled = none from hh] | rw [hh]
  refine wpAny_bind (wpAny_pure (wpAny_throw ?_))
  exact hE _ _ (((Heap.ExtBut.refl _ _).push _).push _) ⟨_, Heap.get?_push_size _ rfl, rfl⟩
theorem draws_rev (hh : A.handled = none) (it l : Addr) (hne : l ≠ it) (items : Array Value) :
    PySem.Draws prog w A it [it, l] items.size (fun i v => i < items.size ∧ items[items.size - 1 - i]? = some v) (fun i h => i ≤ items.size ∧ h.IsRevIter it l ((items.size : Int) - 1 - (i : Int)) ∧ h.IsList l items) where
  live := fun _ _ st => let ⟨o, ho, _⟩ := st.2.1; ⟨o, ho⟩
  frame := fun _ _ _ x hk => ⟨x.1, x.2.1.at fun o e => hk it (by simp) o e, x.2.2.at fun o e => hk l (by simp) o e⟩
  item := fun i s Q E hi x hQ => by
    have e : (items.size : Int) - 1 - (i : Int) = ((items.size - 1 - i : Nat) : Int) := by omega
    have hit := x.2.1
    rw [e] at hit
    have hx : items[items.size - 1 - i]? = some (items[items.size - 1 - i]'(by omega)) := Array.getElem?_eq_getElem (by omega)
    refine nextOf_rev_item hit x.2.2 hx fun h' hit' hs' => ?_
    have e2 : ((items.size - 1 - i : Nat) : Int) - 1 = (items.size : Int) - 1 - ((i + 1 : Nat) : Int) := by omega
    rw [e2] at hit'
    exact hQ _ h' s.toks ⟨hi, hx⟩ ⟨hi, hit', x.2.2.at fun o eo => (hs'.2 l hne).trans eo⟩ hs'
  done := fun s Q E x hE => by
    have e : (items.size : Int) - 1 - (items.size : Int) = -1 := by omega
    have hit := x.2.1
    rw [e] at hit
    exact nextOf_rev_end hh hit hE
end
end
-- JxSum
section
theorem jxSum_rows1 : True := by
  k_with_none
  (k_with "jx gg" => first | exact GG.refl _ | assumption | (refine GG.trans ?_ (by assumption); walk_at "jx gg"))
  (k_with "jx asks" => ((case k1 => k_asm); (case k2 => k_asm); (case k3 => k_asm); (case k4 => k_asm); (case k5 => k_asm); (case k6 => first | exact rfl | assumption); (case k7 => ktr_room); (case k8 => ktr_units)))
  (k_with "jx ne" => first | assumption | exact List.forall_mem_nil _ | (refine List.forall_mem_cons.mpr ⟨(by first | assumption | exact fun p9 z9 => absurd (congrArg Obj.cls z9) (by intro y9; cases y9) | exact notTab_cell (by assumption)), ?_⟩; walk_at "jx ne"))
  (k_with "jx backP" => (intro v9 ps9 h9 g9 tk9 R9 t9P F9 N9 G9; (first | (obtain ⟨t9, e9⟩ := R9; subst e9) | subst R9); (try dsimp only); (try k_sweep); (try k_fold)))
  (k_with "jx back" => (intro v9 h9 g9 tk9 R9 F9 N9 G9; (first | (obtain ⟨t9, e9⟩ := R9; subst e9) | subst R9); (try dsimp only); (try k_sweep); (try k_fold)))
  (k_with "jx back0" => (intro v9 h9 tk9 R9 F9 N9; (first | (obtain ⟨t9, e9⟩ := R9; subst e9) | subst R9); (try dsimp only); (try k_sweep); (try k_fold)))
  (k_with "jx dive" => skip)
  (k_with "jx fly0" => (intro e9 t9 xs9 h19 h9 tk9 F9 U9 R9; (try dsimp only); walk_at "jx dive"; (try k_fold)))
  (k_with "jx flyN" => (intro e9 h19 h9 g9 tk9 F9 U9 R9 G9; (try dsimp only); walk_at "jx diveN"; (try k_fold)))
  (k_with "jx diveN" => skip)
  (k_with "jx fly" => (intro e9 t9 xs9 h19 h9 g9 tk9 F9 U9 R9 G9; (try dsimp only); walk_at "jx dive"; (try k_fold)))
  (k_with "jx dec" => first | assumption | decide | (simp only [List.size_toArray, List.length_append, List.length_cons, List.length_nil, bne_iff_ne, ne_eq, beq_iff_eq, Bool.not_eq_true, Decidable.not_not, decide_eq_true_eq, decide_eq_false_iff_not, Bool.not_true, Bool.not_false, reduceCtorEq, not_false_eq_true, not_true_eq_false]; done) | (simp only [List.size_toArray, List.length_append, List.length_cons, List.length_nil, bne_iff_ne, ne_eq, beq_iff_eq, Bool.not_eq_true, Decidable.not_not, decide_eq_true_eq, decide_eq_false_iff_not]; omega))
  (k_with "ite" => (k_here; first | rw [if_pos (by walk_at "jx dec")] | rw [if_neg (by walk_at "jx dec")]))
  exact trivial
noncomputable abbrev sumElt : Expr := (((Expr.Constant (Const.int 2) 0 { line := 25, col := 19, endLine := 25, endCol := 20 }).BinOp Operator.Pow (Expr.Name (Str.ofString "exp") { line := 25, col := 24, endLine := 25, endCol := 27 }) { line := 25, col := 19, endLine := 25, endCol := 27 }).BinOp Operator.Mult (Expr.Name (Str.ofString "bit") { line := 25, col := 30, endLine := 25, endCol := 33 }) { line := 25, col := 19, endLine := 25, endCol := 33 })
noncomputable abbrev sumIter : Expr := ((Expr.Name (Str.ofString "enumerate") { line := 25, col := 50, endLine := 25, endCol := 59 }).Call [(Expr.Name (Str.ofString "reversed") { line := 25, col := 60, endLine := 25, endCol := 68 }).Call [Expr.Name (Str.ofString "chunk") { line := 25, col := 69, endLine := 25, endCol := 74 }] [] { line := 25, col := 60, endLine := 25, endCol := 75 }] [] { line := 25, col := 50, endLine := 25, endCol := 76 })
noncomputable abbrev sumScope : Scope := { kind := ScopeKind.function, names := [(Str.ofString ".0", NameKind.local), (Str.ofString "exp", NameKind.local), (Str.ofString "bit", NameKind.local)], isGenerator := true, isCoroutine := false }
noncomputable abbrev sumGen : Expr := (sumElt.GeneratorExp [{ target := Expr.Tuple [Expr.Name (Str.ofString "exp") { line := 25, col := 38, endLine := 25, endCol := 41 }, Expr.Name (Str.ofString "bit") { line := 25, col := 43, endLine := 25, endCol := 46 }] 0 { line := 25, col := 38, endLine := 25, endCol := 46 }, iter := sumIter, ifs := [], is_async := 0 }] sumScope { line := 25, col := 18, endLine := 25, endCol := 77 })
noncomputable abbrev sumExpr : Expr := ((Expr.Name (Str.ofString "sum") { line := 25, col := 14, endLine := 25, endCol := 17 }).Call [sumGen] [] { line := 25, col := 14, endLine := 25, endCol := 78 })
noncomputable abbrev decEnv (C : Addr) : Env := envX (Str.ofString "_decode_from_bin") fnS18 C 123 (.ref 122) []
noncomputable def decOut : List Stmt := [Stmt.Expr (Expr.Yield (some sumExpr) { line := 25, col := 8, endLine := 25, endCol := 78 }) { line := 25, col := 8, endLine := 25, endCol := 78 }]
noncomputable abbrev partCall : Expr := ((Expr.Name (Str.ofString "partition_all") { line := 24, col := 17, endLine := 24, endCol := 30 }).Call [Expr.Constant (Const.int 8) 0 { line := 24, col := 31, endLine := 24, endCol := 32 }, Expr.Name (Str.ofString "input_bin") { line := 24, col := 34, endLine := 24, endCol := 43 }] [] { line := 24, col := 17, endLine := 24, endCol := 44 })
theorem decBody : fnB18 = [Stmt.For (Expr.Name (Str.ofString "chunk") { line := 24, col := 8, endLine := 24, endCol := 13 }) partCall decOut [] { line := 24, col := 4, endLine := 25, endCol := 78 }] := rfl
theorem ns_sum (w : World) : nsIn (kfrag w.params) mainGlobals (Str.ofString "sum") = some none := by kernel_rfl
theorem ns_enum (w : World) : nsIn (kfrag w.params) mainGlobals (Str.ofString "enumerate") = some none := by kernel_rfl
theorem ns_rev (w : World) : nsIn (kfrag w.params) mainGlobals (Str.ofString "reversed") = some none := by kernel_rfl
theorem ns_parts (w : World) : nsIn (kfrag w.params) mainGlobals (Str.ofString "partition_all") = some (some (.ref 109)) := by kernel_rfl
section
variable {w : World} {A : Around} {g : Heap} {C : Nat} {mean : ExcName → Option Value} {mg mb : Str → Option Value} {s : Shared} {m : Str → Option Value} {E : Value → Shared → Prop} {Q : Value → Shared → Prop}
theorem dec_iter (hh : A.handled = none) (X : (kfrag w.params).In g) (T : ctxTop mean mg mb g) (Fm : Fr g C s.heap m) {Tl : Addr} (hm : m (Str.ofString "chunk") = some (.ref Tl)) {its : Array Value} (hl : s.heap.IsList Tl its)
    (h : ∀ r e h', r = s.heap.objs.size → e = r + 1 → IsEnum h' e r 0 .none → h'.IsRevIter r Tl ((its.size : Int) - 1) → h'.objs.size = e + 1 → (∀ b o, s.heap.get? b = some o → h'.get? b = some o) → Q (.ref e) { s with heap := h' }) :
    wpAny (model rw_.prog w) A (eval sumIter (decEnv C)) Q E s := by
  refine wpAny_Call_ofName (nameX_B (v := .type "enumerate") Fm X (topRead_of T) (ns_enum w) rfl (by decide) ?_ rfl rfl rfl)
  k_steps
  first | (refine nameX_B (v := .type "reversed") Fm X (topRead_of T) (ns_rev w) rfl (by decide) ?_ rfl rfl rfl; k_steps) | skip
  refine nameX_L Fm hm ?_ rfl rfl rfl
  k_steps
  refine call_reversed_list hl ?_
  k_steps
  have hI : (s.heap.push (revObj Tl ((its.size : Int) - 1))).IsRevIter s.heap.objs.size Tl ((its.size : Int) - 1) := ⟨_, Heap.get?_push_size _ rfl, rfl, rfl⟩
  refine call_enumR hI fun h' he hsz hk => ?_
  have z : (s.heap.push (revObj Tl ((its.size : Int) - 1))).objs.size = s.heap.objs.size + 1 := Heap.size_push _ _
  have up : ∀ b o, s.heap.get? b = some o → h'.get? b = some o := fun b o e => hk b o (Heap.get?_push_of_some _ e)
  have := h s.heap.objs.size (s.heap.objs.size + 1) h' rfl rfl (z ▸ he) (hI.at fun o e => hk _ o e) (by rw [hsz, z]) up
  dsimp only
  rw [z]
  exact this
end
end
-- JxGenx
section
theorem jxGenx_rows1 : True := by
  k_with_none
  (k_with "jx gg" => first | exact GG.refl _ | assumption | (refine GG.trans ?_ (by assumption); walk_at "jx gg"))
  (k_with "jx asks" => ((case k1 => k_asm); (case k2 => k_asm); (case k3 => k_asm); (case k4 => k_asm); (case k5 => k_asm); (case k6 => first | exact rfl | assumption); (case k7 => ktr_room); (case k8 => ktr_units)))
  (k_with "jx ne" => first | assumption | exact List.forall_mem_nil _ | (refine List.forall_mem_cons.mpr ⟨(by first | assumption | exact fun p9 z9 => absurd (congrArg Obj.cls z9) (by intro y9; cases y9) | exact notTab_cell (by assumption)), ?_⟩; walk_at "jx ne"))
  (k_with "jx backP" => (intro v9 ps9 h9 g9 tk9 R9 t9P F9 N9 G9; (first | (obtain ⟨t9, e9⟩ := R9; subst e9) | subst R9); (try dsimp only); (try k_sweep); (try k_fold)))
  (k_with "jx back" => (intro v9 h9 g9 tk9 R9 F9 N9 G9; (first | (obtain ⟨t9, e9⟩ := R9; subst e9) | subst R9); (try dsimp only); (try k_sweep); (try k_fold)))
  (k_with "jx back0" => (intro v9 h9 tk9 R9 F9 N9; (first | (obtain ⟨t9, e9⟩ := R9; subst e9) | subst R9); (try dsimp only); (try k_sweep); (try k_fold)))
  (k_with "jx dive" => skip)
  (k_with "jx fly0" => (intro e9 t9 xs9 h19 h9 tk9 F9 U9 R9; (try dsimp only); walk_at "jx dive"; (try k_fold)))
  (k_with "jx flyN" => (intro e9 h19 h9 g9 tk9 F9 U9 R9 G9; (try dsimp only); walk_at "jx diveN"; (try k_fold)))
  (k_with "jx diveN" => skip)
  (k_with "jx fly" => (intro e9 t9 xs9 h19 h9 g9 tk9 F9 U9 R9 G9; (try dsimp only); walk_at "jx dive"; (try k_fold)))
  (k_with "jx dec" => first | assumption | decide | (simp only [List.size_toArray, List.length_append, List.length_cons, List.length_nil, bne_iff_ne, ne_eq, beq_iff_eq, Bool.not_eq_true, Decidable.not_not, decide_eq_true_eq, decide_eq_false_iff_not, Bool.not_true, Bool.not_false, reduceCtorEq, not_false_eq_true, not_true_eq_false]; done) | (simp only [List.size_toArray, List.length_append, List.length_cons, List.length_nil, bne_iff_ne, ne_eq, beq_iff_eq, Bool.not_eq_true, Decidable.not_not, decide_eq_true_eq, decide_eq_false_iff_not]; omega))
  (k_with "ite" => (k_here; first | rw [if_pos (by walk_at "jx dec")] | rw [if_neg (by walk_at "jx dec")]))
  exact trivial
noncomputable def CodeOk (h : Heap) : Prop := ∃ ps, h.IsCode 122 118 ps ∧ h.TableAt 122 118 ps
theorem CodeOk.keeps {h h' : Heap} (x : CodeOk h) (k : ∀ b o, h.get? b = some o → h'.get? b = some o) : CodeOk h' := let ⟨ps, a, b⟩ := x; ⟨ps, a.keeps k, b.keeps k⟩
section
variable {w : World} {A : Around} {g : Heap} {C : Nat} {mean : ExcName → Option Value} {mg mb : Str → Option Value} {s : Shared} {m : Str → Option Value} {E : Value → Shared → Prop}
theorem dec_code {pos : Pos} {qn : Str} {scope : Scope} {Q : Value → Shared → Prop} (hc : CodeOk s.heap)
    (h : ∀ code h' tk, (∀ (b : Nat) (o : Obj), b ≠ 118 → s.heap.get? b = some o → h'.get? b = some o) → CodeOk h' → Q code { s with heap := h', toks := tk }) :
    wpAny (model rw_.prog w) A (genexprCode (decEnv C) pos qn scope) Q E s := by
  obtain ⟨ps, h1, h2⟩ := hc
  cases e : codeAmong pos ps.toList with
  | some c' => exact wpAny_genexprCode_hit rfl h1 e (h c' s.heap s.toks (fun _ _ _ e => e) ⟨ps, h1, h2⟩)
  | none => exact wpAny_genexprCodeX rfl h1 h2 e fun c' h' tk hx _ _ i1 _ i2 _ => h _ h' tk (fun b o q e => hx b o q e) ⟨_, i1, i2⟩
theorem sum_elt {A' : Around} {s : Shared} {m₂ : Str → Option Value} {i : Nat} {c : Nat} {t u : Tok} {E' : Value → Shared → Prop} {code : Value} {bi : Addr} {K : Nat} (hn : s.heap.Ns K m₂) (ha : m₂ (Str.ofString "exp") = some (.int (i : Int) t)) (hb : m₂ (Str.ofString "bit") = some (.int (c : Int) u)) (hi : i < 8) (hc : c < 256) :
    wpAny (model rw_.prog w) A' (eval sumElt (genEnv sumScope [] K code bi (decEnv C))) (fun y s₃ => (∃ t, y = .int ((2 ^ i * c : Nat) : Int) t) ∧ Keeps s s₃) E' s := by
  k_steps
  all_goals first
    | exact ⟨_, _, rfl, fun _ _ e => e⟩
end
end
-- JxSumG
section
theorem jxSumG_rows1 : True := by
  k_with_none
  (k_with "jx gg" => first | exact GG.refl _ | assumption | (refine GG.trans ?_ (by assumption); walk_at "jx gg"))
  (k_with "jx asks" => ((case k1 => k_asm); (case k2 => k_asm); (case k3 => k_asm); (case k4 => k_asm); (case k5 => k_asm); (case k6 => first | exact rfl | assumption); (case k7 => ktr_room); (case k8 => ktr_units)))
  (k_with "jx ne" => first | assumption | exact List.forall_mem_nil _ | (refine List.forall_mem_cons.mpr ⟨(by first | assumption | exact fun p9 z9 => absurd (congrArg Obj.cls z9) (by intro y9; cases y9) | exact notTab_cell (by assumption)), ?_⟩; walk_at "jx ne"))
  (k_with "jx backP" => (intro v9 ps9 h9 g9 tk9 R9 t9P F9 N9 G9; (first | (obtain ⟨t9, e9⟩ := R9; subst e9) | subst R9); (try dsimp only); (try k_sweep); (try k_fold)))
  (k_with "jx back" => (intro v9 h9 g9 tk9 R9 F9 N9 G9; (first | (obtain ⟨t9, e9⟩ := R9; subst e9) | subst R9); (try dsimp only); (try k_sweep); (try k_fold)))
  (k_with "jx back0" => (intro v9 h9 tk9 R9 F9 N9; (first | (obtain ⟨t9, e9⟩ := R9; subst e9) | subst R9); (try dsimp only); (try k_sweep); (try k_fold)))
  (k_with "jx dive" => skip)
  (k_with "jx fly0" => (intro e9 t9 xs9 h19 h9 tk9 F9 U9 R9; (try dsimp only); walk_at "jx dive"; (try k_fold)))
  (k_with "jx flyN" => (intro e9 h19 h9 g9 tk9 F9 U9 R9 G9; (try dsimp only); walk_at "jx diveN"; (try k_fold)))
  (k_with "jx diveN" => skip)
  (k_with "jx fly" => (intro e9 t9 xs9 h19 h9 g9 tk9 F9 U9 R9 G9; (try dsimp only); walk_at "jx dive"; (try k_fold)))
  (k_with "jx dec" => first | assumption | decide | (simp only [List.size_toArray, List.length_append, List.length_cons, List.length_nil, bne_iff_ne, ne_eq, beq_iff_eq, Bool.not_eq_true, Decidable.not_not, decide_eq_true_eq, decide_eq_false_iff_not, Bool.not_true, Bool.not_false, reduceCtorEq, not_false_eq_true, not_true_eq_false]; done) | (simp only [List.size_toArray, List.length_append, List.length_cons, List.length_nil, bne_iff_ne, ne_eq, beq_iff_eq, Bool.not_eq_true, Decidable.not_not, decide_eq_true_eq, decide_eq_false_iff_not]; omega))
  (k_with "ite" => (k_here; first | rw [if_pos (by walk_at "jx dec")] | rw [if_neg (by walk_at "jx dec")]))
  exact trivial
structure Fin5 (s s' : Shared) : Prop where
  heap : ∀ (b : Nat) (o : Obj), b ≠ 118 → s.heap.get? b = some o → s'.heap.get? b = some o
  code : CodeOk s'.heap
  gens : GG s.gens s'.gens
  drawn : s'.drawn = s.drawn
  os : s'.os = s.os
noncomputable def valAt (p : List UInt8) (j : Nat) : Int := ((2 ^ j * (p.getD (p.length - 1 - j) 0).toNat : Nat) : Int)
noncomputable def GenReady (w : World) (A : Around) (a : Addr) (p : List UInt8) (s s' : Shared) : Prop :=
  ∃ fp wr G St, WalksS rw_.prog w A.in4 a fp wr G p.length (fun j y => ∃ i, (List.range p.length)[j]? = some i ∧ ∃ t, y = .int (valAt p i) t) St ∧ St 0 s' ∧ (∀ b ∈ fp, b < s'.heap.objs.size) ∧ ∀ s'', Moved wr G s' s'' → Fin5 s s''
theorem pass_all (n : Nat) : passing (fun _ => true) n 0 = List.range n := by
  unfold passing
  rw [List.drop_zero, List.filter_eq_self.mpr (fun _ _ => rfl)]
theorem CodeOk.at {h h' : Heap} (x : CodeOk h) (k1 : ∀ o, h.get? 122 = some o → h'.get? 122 = some o) (k2 : ∀ o, h.get? 118 = some o → h'.get? 118 = some o) : CodeOk h' := by
  obtain ⟨ps, ⟨o, vs, file, tf, flags, tg, inF, text, tt, op, a, r1, r2, r3, r4, r5, r6, b, r⟩, ⟨⟨o', vs', c1, c2⟩, d⟩⟩ := x
  exact ⟨ps, ⟨o, vs, file, tf, flags, tg, inF, text, tt, op, k1 _ a, r1, r2, r3, r4, r5, r6, k2 _ b, r⟩, ⟨o', vs', k1 _ c1, c2⟩, k2 _ d⟩
theorem gens_fin {g g' : Array GenState} {gs : GenState} (hb : gs.bare = true) (h : GenOnlyQ g.size (g.push gs) g') : GG g g' := by
  have old : ∀ (i : Nat) x, g[i]? = some x → i ≠ g.size ∧ (g.push gs)[i]? = some x := fun i x e => by
    have : i < g.size := by
      rcases Nat.lt_or_ge i g.size with q | q
      · exact q
      · rw [Array.getElem?_eq_none q] at e; cases e
    exact ⟨Nat.ne_of_lt this, by rw [Array.getElem?_push, if_neg (Nat.ne_of_lt this)]; exact e⟩
  rcases h with rfl | ⟨⟨hs, ho⟩, hg⟩
  · refine ⟨fun i x e => (old i x e).2, fun i x e => ?_⟩
    rw [Array.getElem?_push] at e
    split at e
    · cases e; exact .inr hb
    · exact .inl e
  · refine ⟨fun i x e => by rw [ho i (old i x e).1]; exact (old i x e).2, fun i x e => ?_⟩
    by_cases q : i = g.size
    · subst q; exact .inr (hg x e)
    · rw [ho i q, Array.getElem?_push, if_neg q] at e
      exact .inl e
section
variable {w : World} {A : Around} {g : Heap} {C : Nat} {mean : ExcName → Option Value} {mg mb : Str → Option Value} {s : Shared} {m : Str → Option Value} {E : Value → Shared → Prop} {Q : Value → Shared → Prop}
theorem dec_gen (hh : A.handled = none) (hroom : A.depth < recursionLimit) (X : (kfrag w.params).In g) (T : ctxTop mean mg mb g) (h118 : g.get? 118 = none) (Fm : Fr g C s.heap m) {Tl : Addr} (hm : m (Str.ofString "chunk") = some (.ref Tl)) {its : Array Value} (hl : s.heap.IsList Tl its)
    {p : List UInt8} (hr : IntRow its p) (hp : p.length ≤ 8) (hc : CodeOk s.heap) (h : ∀ a s', GenReady w A a p s s' → Q (.ref a) s') :
    wpAny (model rw_.prog w) A (eval sumGen (decEnv C)) Q E s := by
  refine wpAny_GeneratorExp_walksQTD hh rfl rfl (by decide) rfl rfl rfl (by decide) rfl hroom ?_ (by intro _; rfl)
  refine dec_iter hh X T Fm hm hl fun r e h1 hr0 he0 hE hR hz1 hk1 => ?_
  have hsz : its.size = p.length := hr.1
  have hTl : Tl < s.heap.objs.size := by
    obtain ⟨o, ho, _⟩ := hl
    exact Heap.lt_size ho
  have hTr : Tl ≠ r := by rw [hr0]; exact Nat.ne_of_lt hTl
  have hTe : Tl ≠ e := by rw [he0, hr0]; exact Nat.ne_of_lt (Nat.lt_succ_of_lt hTl)
  have her : e ≠ r := by rw [he0]; exact Nat.succ_ne_self _
  have hef : e ∉ [r, Tl] := fun z => by
    rcases List.mem_cons.mp z with z | z
    · exact her z
    · exact hTe (List.mem_singleton.mp z).symm
  have W : ∀ A' : Around, A'.handled = none → WalksT rw_.prog w A' e [e, r, Tl] [e, r] its.size _ _ _ := fun A' hA => WalksT.enumerateD (draws_rev (A := A'.in1) hA r Tl hTr its) e her hef (List.Mem.head _)
  have l118 : (118 : Nat) < s.heap.objs.size ∧ (122 : Nat) < s.heap.objs.size ∧ Tl ≠ 118 := by
    obtain ⟨ps, _, ⟨⟨o', vs', c1, _⟩, d⟩⟩ := hc
    refine ⟨Heap.lt_size d, Heap.lt_size c1, fun z => ?_⟩
    obtain ⟨o, ho, hc, _⟩ := hl
    rw [z, d] at ho
    cases ho
    cases hc
  obtain ⟨l1, l2, lT⟩ := l118
  have r118 : r ≠ 118 := by rw [hr0]; exact Nat.ne_of_gt l1
  have e118 : e ≠ 118 := by rw [he0, hr0]; exact Nat.ne_of_gt (Nat.lt_succ_of_lt l1)
  have hSt : ∀ h' : Heap, (∀ (b : Nat) o, b ≠ 118 → h1.get? b = some o → h'.get? b = some o) → (∃ old, IsEnum h' e r ((0 : Nat) : Int) old) ∧ 0 ≤ its.size ∧ h'.IsRevIter r Tl ((its.size : Int) - 1 - ((0 : Nat) : Int)) ∧ h'.IsList Tl its := fun h' k =>
    ⟨⟨_, k _ _ e118 hE⟩, Nat.zero_le _, by simpa using hR.at fun o e => k r o r118 e, hl.at fun o e => k Tl o lT (hk1 Tl o e)⟩
  refine (W A hh).self 0 _ _ _ (hSt h1 fun _ _ _ e => e) ⟨T.nolimit.keeps fun b o q => hk1 b o (Fm.keep b o q), ?_⟩
  refine dec_code (hc.keeps hk1) fun code h2 tk2 hk2 hc2 => ?_
  obtain ⟨bm, ob, b1, b2, b3, b4, b5, b6⟩ := T.bmain
  have ne118 : ∀ b o, g.get? b = some o → b ≠ 118 := fun b o e z => by rw [z, h118] at e; cases e
  have up2 : ∀ b o, g.get? b = some o → h2.get? b = some o := fun b o e => hk2 b o (ne118 b o e) (hk1 b o (Fm.keep b o e))
  refine wpAny_builtinsFor (m := mg) (T.g.keeps up2) b1 b2 (up2 _ _ b3) b4 b5 b6 ?_
  have nl2 : h2.NoLimit := T.nolimit.keeps up2
  have lr : r < h2.objs.size := by
    obtain ⟨_, _, ⟨o, ho, _⟩, _⟩ := hSt h2 hk2
    exact Heap.lt_size ho
  have le : e < h2.objs.size := by
    obtain ⟨⟨_, ho⟩, _⟩ := hSt h2 hk2
    exact Heap.lt_size ho
  have lTl : Tl < h2.objs.size := by
    obtain ⟨_, _, _, ⟨o, ho, _⟩⟩ := hSt h2 hk2
    exact Heap.lt_size ho
  have hcs : (cStatics : Nat) < s.heap.objs.size := by
    obtain ⟨mc, ⟨o, _, _, ho, _⟩, _⟩ := T.nolimit
    exact Heap.lt_size (Fm.keep _ _ ho)
  have low : ∀ b : Nat, b < s.heap.objs.size → b ∉ [e, r] := fun b q z => by
    rcases List.mem_cons.mp z with z | z
    · rw [z, he0, hr0] at q; exact absurd q (Nat.not_lt.mpr (Nat.le_succ _))
    · rw [List.mem_singleton.mp z, hr0] at q; exact Nat.lt_irrefl _ q
  have low2 : ∀ b : Nat, b < s.heap.objs.size → b ∉ h2.objs.size :: [e, r] := fun b q z => by
    rcases List.mem_cons.mp z with z | z
    · rw [z] at q; exact absurd (Nat.lt_trans q (hr0 ▸ lr)) (Nat.lt_irrefl _)
    · exact low b q z
  refine ⟨e, _, _, its.size, _, _, _, fun _ => true, fun i y => ∃ t, y = .int (valAt p i) t, rfl, fun A' hA => (W A' hA).toU, fun i vals hv => ?_, hSt h2 hk2, fun b hb => ?_, nl2, low _ hcs, fun href hkr => ⟨fun A' E' i va vb s₂ m₂ _ _ _ hv hn ha hb _ => ?_, fun A' E' i va vb s₂ m₂ _ _ _ hv _ hn ha hb _ => ?_⟩, fun a h5 tk5 gs hbare ha hz5 hk5 WS GA => ?_⟩
  · obtain ⟨t, x, _, rfl⟩ := hv
    exact ⟨_, _, rfl⟩
  · rcases List.mem_cons.mp hb with rfl | hb
    · exact le
    · rcases List.mem_cons.mp hb with rfl | hb
      · exact lr
      · rw [List.mem_singleton.mp hb]; exact lTl
  · exact wpAny_pure ⟨rfl, _, _, rfl, fun _ _ e => e⟩
  · obtain ⟨t, x, ⟨hi, hx⟩, hv⟩ := hv
    have hv1 : va = .int i t ∧ vb = x := by simpa using hv
    obtain ⟨rfl, rfl⟩ := hv1
    have hc' : p[p.length - 1 - i]? = some (p.getD (p.length - 1 - i) 0) := by
      rw [List.getD_eq_getElem?_getD, List.getElem?_eq_getElem (by omega)]; rfl
    obtain ⟨u, hu⟩ := hr.2 _ _ hc'
    rw [hsz, hu] at hx
    cases hx
    exact wpAny_mono (sum_elt hn ha hb (by omega) (p.getD (p.length - 1 - i) 0).toNat_lt) (fun y s₃ hy => hy) fun _ _ e => e
  · rw [pass_all, hsz, List.length_range] at WS
    refine h a _ ⟨_, _, _, _, WS, hsz ▸ GA, fun b hb => ?_, fun s'' mv => ⟨fun b o q eo => ?_, ?_, gens_fin hbare mv.gens, mv.drawn, mv.os⟩⟩
    · show b < h5.objs.size
      rw [hz5]
      rcases List.mem_cons.mp hb with rfl | hb
      · exact Nat.lt_succ_self _
      · rcases List.mem_cons.mp hb with rfl | hb
        · exact Nat.lt_succ_of_lt ha
        · exact Nat.lt_succ_of_lt (Nat.lt_trans (List.mem_range.mp hb) ha)
    · exact mv.heap b o (low2 b (Heap.lt_size eo)) (hk5 b o (hk2 b o q (hk1 b o eo)))
    · exact hc2.at (fun o eo => mv.heap _ o (low2 122 l2) (hk5 _ o eo)) (fun o eo => mv.heap _ o (low2 118 l1) (hk5 _ o eo))
end
end
-- JxSumE
section
theorem jxSumE_rows1 : True := by
  k_with_none
  (k_with "jx gg" => first | exact GG.refl _ | assumption | (refine GG.trans ?_ (by assumption); walk_at "jx gg"))
  (k_with "jx asks" => ((case k1 => k_asm); (case k2 => k_asm); (case k3 => k_asm); (case k4 => k_asm); (case k5 => k_asm); (case k6 => first | exact rfl | assumption); (case k7 => ktr_room); (case k8 => ktr_units)))
  (k_with "jx ne" => first | assumption | exact List.forall_mem_nil _ | (refine List.forall_mem_cons.mpr ⟨(by first | assumption | exact fun p9 z9 => absurd (congrArg Obj.cls z9) (by intro y9; cases y9) | exact notTab_cell (by assumption)), ?_⟩; walk_at "jx ne"))
  (k_with "jx backP" => (intro v9 ps9 h9 g9 tk9 R9 t9P F9 N9 G9; (first | (obtain ⟨t9, e9⟩ := R9; subst e9) | subst R9); (try dsimp only); (try k_sweep); (try k_fold)))
  (k_with "jx back" => (intro v9 h9 g9 tk9 R9 F9 N9 G9; (first | (obtain ⟨t9, e9⟩ := R9; subst e9) | subst R9); (try dsimp only); (try k_sweep); (try k_fold)))
  (k_with "jx back0" => (intro v9 h9 tk9 R9 F9 N9; (first | (obtain ⟨t9, e9⟩ := R9; subst e9) | subst R9); (try dsimp only); (try k_sweep); (try k_fold)))
  (k_with "jx dive" => skip)
  (k_with "jx fly0" => (intro e9 t9 xs9 h19 h9 tk9 F9 U9 R9; (try dsimp only); walk_at "jx dive"; (try k_fold)))
  (k_with "jx flyN" => (intro e9 h19 h9 g9 tk9 F9 U9 R9 G9; (try dsimp only); walk_at "jx diveN"; (try k_fold)))
  (k_with "jx diveN" => skip)
  (k_with "jx fly" => (intro e9 t9 xs9 h19 h9 g9 tk9 F9 U9 R9 G9; (try dsimp only); walk_at "jx dive"; (try k_fold)))
  (k_with "jx dec" => first | assumption | decide | (simp only [List.size_toArray, List.length_append, List.length_cons, List.length_nil, bne_iff_ne, ne_eq, beq_iff_eq, Bool.not_eq_true, Decidable.not_not, decide_eq_true_eq, decide_eq_false_iff_not, Bool.not_true, Bool.not_false, reduceCtorEq, not_false_eq_true, not_true_eq_false]; done) | (simp only [List.size_toArray, List.length_append, List.length_cons, List.length_nil, bne_iff_ne, ne_eq, beq_iff_eq, Bool.not_eq_true, Decidable.not_not, decide_eq_true_eq, decide_eq_false_iff_not]; omega))
  (k_with "ite" => (k_here; first | rw [if_pos (by walk_at "jx dec")] | rw [if_neg (by walk_at "jx dec")]))
  exact trivial
theorem preSum_num (p : List UInt8) : preSum (valAt p) p.length = ((num p : Nat) : Int) := by
  have key : ∀ (l : List UInt8) (acc : Nat), l.foldl (fun n b => n * 2 + b.toNat) acc = acc * 2 ^ l.length + num l := by
    intro l
    induction l with
    | nil => intro acc; simp [num]
    | cons c l ih =>
      intro acc
      have e1 := ih (acc * 2 + c.toNat)
      have e2 := ih (0 * 2 + c.toNat)
      simp only [num, List.foldl_cons, List.length_cons] at e1 e2 ⊢
      rw [e1, e2, Nat.pow_succ, Nat.add_mul, Nat.mul_assoc, Nat.mul_comm 2 (2 ^ l.length), Nat.zero_mul, Nat.zero_add]
      omega
  have snoc : ∀ (l : List UInt8) (c : UInt8), num (c :: l) = c.toNat * 2 ^ l.length + num l := fun l c => by
    have := key l (0 * 2 + c.toNat)
    simp only [num, List.foldl_cons] at this ⊢
    rw [this]; simp
  have gen : ∀ (q l : List UInt8), preSum (valAt (q ++ l)) l.length = ((num l : Nat) : Int) := by
    intro q l
    induction l generalizing q with
    | nil => rfl
    | cons c l ih =>
      have := ih (q ++ [c])
      rw [List.append_assoc] at this
      show preSum (valAt (q ++ c :: l)) l.length + valAt (q ++ c :: l) l.length = _
      have e : q ++ ([c] ++ l) = q ++ c :: l := rfl
      rw [e] at this
      rw [this, snoc]
      unfold valAt
      have hg : (q ++ c :: l).getD ((q ++ c :: l).length - 1 - l.length) 0 = c := by
        have hi : (q ++ c :: l).length - 1 - l.length = q.length := by simp only [List.length_append, List.length_cons]; omega
        rw [hi, List.getD_eq_getElem?_getD, List.getElem?_append_right (Nat.le_refl _), Nat.sub_self]
        rfl
      rw [hg, Nat.mul_comm]
      push_cast
      omega
  simpa using gen [] p
section
variable {w : World} {A : Around} {g : Heap} {C : Nat} {mean : ExcName → Option Value} {mg mb : Str → Option Value} {s : Shared} {m : Str → Option Value} {E : Value → Shared → Prop} {Q : Value → Shared → Prop}
theorem dec_sum (hh : A.handled = none) (hroom : A.depth < recursionLimit) (X : (kfrag w.params).In g) (T : ctxTop mean mg mb g) (h118 : g.get? 118 = none) (Fm : Fr g C s.heap m) {Tl : Addr} (hm : m (Str.ofString "chunk") = some (.ref Tl)) {its : Array Value} (hl : s.heap.IsList Tl its)
    {p : List UInt8} (hr : IntRow its p) (hp : p.length ≤ 8) (hc : CodeOk s.heap) (h : ∀ s' t, Fin5 s s' → Q (.int ((num p : Nat) : Int) t) s') :
    wpAny (model rw_.prog w) A (eval sumExpr (decEnv C)) Q E s := by
  refine wpAny_Call_ofName (nameX_B (v := .builtin "sum") Fm X (topRead_of T) (ns_sum w) rfl (by decide) ?_ rfl rfl rfl)
  k_steps
  refine dec_gen hh hroom X T h118 Fm hm hl hr hp hc fun a s' hG => ?_
  k_steps
  obtain ⟨fp, wr, G, St, W, st, fpb, fin⟩ := hG
  refine call_sum_walkAnyS ?_
  refine (WalksS.in4_1 W).self 0 _ _ _ st ⟨a, fp, wr, G, p.length, _, St, valAt p, rfl, WalksS.in4_1 W, st, fpb, fun i v hv => ?_, fun s'' t' mv => ?_⟩
  · obtain ⟨i', hi, hv⟩ := hv
    have hlt : i < p.length := by
      rcases Nat.lt_or_ge i (List.range p.length).length with q | q
      · simpa using q
      · rw [List.getElem?_eq_none q] at hi; cases hi
    rw [List.getElem?_range hlt] at hi
    cases hi
    exact hv
  · rw [preSum_num]
    exact h s'' t' (fin s'' mv)
end
end
-- JxDecG
section
theorem jxDecG_rows1 : True := by
  k_with_none
  (k_with "jx gg" => first | exact GG.refl _ | assumption | (refine GG.trans ?_ (by assumption); walk_at "jx gg"))
  (k_with "jx asks" => ((case k1 => k_asm); (case k2 => k_asm); (case k3 => k_asm); (case k4 => k_asm); (case k5 => k_asm); (case k6 => first | exact rfl | assumption); (case k7 => ktr_room); (case k8 => ktr_units)))
  (k_with "jx ne" => first | assumption | exact List.forall_mem_nil _ | (refine List.forall_mem_cons.mpr ⟨(by first | assumption | exact fun p9 z9 => absurd (congrArg Obj.cls z9) (by intro y9; cases y9) | exact notTab_cell (by assumption)), ?_⟩; walk_at "jx ne"))
  (k_with "jx backP" => (intro v9 ps9 h9 g9 tk9 R9 t9P F9 N9 G9; (first | (obtain ⟨t9, e9⟩ := R9; subst e9) | subst R9); (try dsimp only); (try k_sweep); (try k_fold)))
  (k_with "jx back" => (intro v9 h9 g9 tk9 R9 F9 N9 G9; (first | (obtain ⟨t9, e9⟩ := R9; subst e9) | subst R9); (try dsimp only); (try k_sweep); (try k_fold)))
  (k_with "jx back0" => (intro v9 h9 tk9 R9 F9 N9; (first | (obtain ⟨t9, e9⟩ := R9; subst e9) | subst R9); (try dsimp only); (try k_sweep); (try k_fold)))
  (k_with "jx dive" => skip)
  (k_with "jx fly0" => (intro e9 t9 xs9 h19 h9 tk9 F9 U9 R9; (try dsimp only); walk_at "jx dive"; (try k_fold)))
  (k_with "jx flyN" => (intro e9 h19 h9 g9 tk9 F9 U9 R9 G9; (try dsimp only); walk_at "jx diveN"; (try k_fold)))
  (k_with "jx diveN" => skip)
  (k_with "jx fly" => (intro e9 t9 xs9 h19 h9 g9 tk9 F9 U9 R9 G9; (try dsimp only); walk_at "jx dive"; (try k_fold)))
  (k_with "jx dec" => first | assumption | decide | (simp only [List.size_toArray, List.length_append, List.length_cons, List.length_nil, bne_iff_ne, ne_eq, beq_iff_eq, Bool.not_eq_true, Decidable.not_not, decide_eq_true_eq, decide_eq_false_iff_not, Bool.not_true, Bool.not_false, reduceCtorEq, not_false_eq_true, not_true_eq_false]; done) | (simp only [List.size_toArray, List.length_append, List.length_cons, List.length_nil, bne_iff_ne, ne_eq, beq_iff_eq, Bool.not_eq_true, Decidable.not_not, decide_eq_true_eq, decide_eq_false_iff_not]; omega))
  (k_with "ite" => (k_here; first | rw [if_pos (by walk_at "jx dec")] | rw [if_neg (by walk_at "jx dec")]))
  exact trivial
noncomputable abbrev cDec (C it : Addr) : Code := .forLoop (Expr.Name (Str.ofString "chunk") { line := 24, col := 8, endLine := 24, endCol := 13 }) (.ref it) decOut [] (decEnv C)
noncomputable def partAt (o : List UInt8) (j : Nat) : List UInt8 := (o.drop (8 * j)).take 8
structure Rows (o : List UInt8) (bad : List Nat) (D : Addr) (ys : Array Value) (h : Heap) : Prop where
  notD : D ∉ bad
  list : h.IsList D ys
  size : ys.size = (o.length + 7) / 8
  row : ∀ j, j < (o.length + 7) / 8 → ∃ T its, ys[j]? = some (.ref T) ∧ T ∉ bad ∧ h.IsList T its ∧ IntRow its (partAt o j)
theorem Rows.keep {o : List UInt8} {bad : List Nat} {D : Addr} {ys : Array Value} {h h' : Heap} (x : Rows o bad D ys h) (k : ∀ (b : Nat) (ob : Obj), b ∉ bad → h.get? b = some ob → h'.get? b = some ob) : Rows o bad D ys h' :=
  ⟨x.notD, x.list.at fun ob e => k D ob x.notD e, x.size, fun j hj => let ⟨T, its, e1, e2, e3, e4⟩ := x.row j hj; ⟨T, its, e1, e2, e3.at fun ob e => k T ob e2 e, e4⟩⟩
section
variable {w : World} {A : Around} {g : Heap} {C N : Nat} {ex : List Addr} {mean : ExcName → Option Value} {mg mb : Str → Option Value}
theorem dec_loop (X : (kfrag w.params).In g) (T : ctxTop mean mg mb g) (h118 : g.get? 118 = none) (hC : C + 1 < N) (h8 : 118 < C) (h2 : 122 < C) (hex : ∀ b ∈ ex, b ≠ C ∧ g.get? b = none) (hexN : ∀ b ∈ ex, C < b ∧ b < N)
    {K : Flow → Sem Fin} {H : Value → Sem Fin} {gd : Bool → Bool} {lv : List Value → List Value} {c : Code} {p : Pos} {fs : List Frame} {it : Nat} {D : Addr} {ys : Array Value} {o : List UInt8} {n₀ : Nat}
    (hit0 : N ≤ it) (hn0 : (o.length + 7) / 8 = n₀)
    (hsp : splitAtGen fs = none) (hgd : gd false = false) (hfg : fs.any Frame.guarded = false) (hnd : (A.over (cDec C it) (ownFrame K H gd lv (decEnv C) c p :: fs)).handled = none) (hdep : (A.over (cDec C it) (ownFrame K H gd lv (decEnv C) c p :: fs)).depth < recursionLimit)
    (hnext : ∀ s₀ s m, Fr g C s.heap m → CodeOk s.heap → Live N s.heap → Mv N [C, 118] s₀ s → Seg (model rw_.prog w) A (Rr N [C, 118] CodeOk) (Yy N [C, 118] ex n₀ (fun i v => ∃ t, v = .int ((num (partAt o i) : Nat) : Int) t)) 0 s₀ c (K .next) fs s) :
    ∀ k i, i + k = n₀ → ∀ s₀ s m, Fr g C s.heap m → s.heap.IsListIter it D i → Rows o (C :: it :: 118 :: ex) D ys s.heap → CodeOk s.heap → Live N s.heap → Mv N [C, 118] s₀ s →
      Seg (model rw_.prog w) A (Rr N [C, 118] CodeOk) (Yy N [C, 118] ex n₀ (fun i v => ∃ t, v = .int ((num (partAt o i) : Nat) : Int) t)) k s₀ (cDec C it) ((model rw_.prog w).den (cDec C it)) (ownFrame K H gd lv (decEnv C) c p :: fs) s := by
  have n1 : ∀ b : Nat, b < N → b ≠ it := fun b q e => by subst e; exact absurd q (Nat.not_lt.mpr hit0)
  intro k
  induction k with
  | zero =>
    intro i hi s₀ s m Fm hit hR hc lv' mv
    refine seg_forLoop ?_
    refine wpAny_pyNext_list_end hnd hit hR.list (Array.getElem?_eq_none (by rw [hR.size]; omega)) fun h' hx => ?_
    refine seg_block ?_
    refine hnext s₀ { s with heap := h' } m ⟨?_, fun b ob e => hx b ob (n1 b (Nat.lt_of_lt_of_le (Heap.lt_size e) (Nat.le_trans Fm.above (by omega)))) (Fm.keep b ob e), Fm.above⟩ ?_ ?_ ?_
    · exact Fm.ns.at' fun ob e => hx C ob (n1 C (by omega)) e
    · exact hc.at (fun ob e => hx 122 ob (n1 122 (by omega)) e) (fun ob e => hx 118 ob (n1 118 (by omega)) e)
    · obtain ⟨b, ob, e, ho⟩ := lv'
      exact ⟨b, ob, e, hx b ob (n1 b (by omega)) ho⟩
    · exact mv.step (tk := s.toks) fun b ob q _ e => hx b ob (n1 b q) e
  | succ k ih =>
    intro i hi s₀ s m Fm hit hR hc lv' mv
    refine seg_forLoop ?_
    obtain ⟨Tl, its, hx, hTb, hTl, hTr⟩ := hR.row i (by omega)
    refine wpAny_pyNext_list_item hit hR.list hx fun h' hit' hs1 => ?_
    have kx : ∀ (b : Nat) (ob : Obj), b ≠ it → s.heap.get? b = some ob → h'.get? b = some ob := fun b ob q e => hs1.extBut b ob q e
    have F1 : Fr g C h' m := ⟨Fm.ns.at' fun ob e => kx C ob (n1 C (by omega)) e, fun b ob e => kx b ob (n1 b (Nat.lt_of_lt_of_le (Heap.lt_size e) (Nat.le_trans Fm.above (by omega)))) (Fm.keep b ob e), Fm.above⟩
    refine wpAny_assign_Name (wpAny_storeName_local rfl F1.ns (fun h2' hn hs => ?_))
    have F2 := F1.set hn hs
    have kc : ∀ (b : Nat) (ob : Obj), b ≠ C → h'.get? b = some ob → h2'.get? b = some ob := fun b ob q e => hs.extBut b ob q e
    have kk : ∀ (b : Nat) (ob : Obj), b ≠ C → b ≠ it → s.heap.get? b = some ob → h2'.get? b = some ob := fun b ob q z e => kc b ob q (kx b ob z e)
    have hsp' : splitAtGen (ownFrame K H gd lv (decEnv C) c p :: fs) = none := by
      show (splitAtGen fs).map _ = none
      rw [hsp]; rfl
    have hfg' : (ownFrame K H gd lv (decEnv C) c p :: fs).any Frame.guarded = false := by
      show (gd false || fs.any Frame.guarded) = false
      rw [hgd, hfg]; rfl
    have c2 : CodeOk h2' := hc.at (fun ob e => kk 122 ob (by omega) (n1 122 (by omega)) e) (fun ob e => kk 118 ob (by omega) (n1 118 (by omega)) e)
    have tC : Tl ≠ C := fun z => hTb (by rw [z]; exact List.Mem.head _)
    have tI : Tl ≠ it := fun z => hTb (by rw [z]; exact List.Mem.tail _ (List.Mem.head _))
    have lv2 : Live N h2' := by
      obtain ⟨b, ob, e, ho⟩ := lv'
      exact ⟨b, ob, e, kk b ob (by omega) (n1 b (by omega)) ho⟩
    have itC : it ≠ C := by omega
    have it2 : h2'.IsListIter it D (i + 1) := hit'.at fun ob e => kc it ob itC e
    have R2 : Rows o (C :: it :: 118 :: ex) D ys h2' := hR.keep fun b ob nb e => kk b ob (fun z => nb (by rw [z]; exact List.Mem.head _)) (fun z => nb (by rw [z]; exact List.Mem.tail _ (List.Mem.head _))) e
    have mv2 : ∀ tk, Mv N [C, 118] s₀ { s with heap := h2', toks := tk } := fun tk => mv.step fun b ob q nw e => kk b ob (fun z => nw (by rw [z]; exact List.Mem.head _)) (n1 b q) e
    refine seg_execs_cons (seg_Expr_Yield (n := k) hsp' rfl hfg' ?_ rfl rfl)
    refine dec_sum hnd hdep X T h118 F2 (if_pos rfl) (hTl.at fun ob e => kk Tl ob tC tI e) hTr (by unfold partAt; rw [List.length_take]; exact Nat.min_le_left _ _) c2 fun s3 t fin => ?_
    intro kap hk
    refine ⟨?_, (mv2 _).trans ⟨fun b ob q nw e => fin.heap b ob (fun z => nw (by rw [z]; exact List.Mem.tail _ (List.Mem.head _))) e, fin.gens, fin.drawn, fin.os⟩, fun s'' kp => hk .none s'' ?_⟩
    · rw [show n₀ - 1 - k = i by omega]; exact ⟨t, rfl⟩
    · have up : ∀ (b : Nat) (ob : Obj), b ≠ 118 → b ∉ ex → h2'.get? b = some ob → s''.heap.get? b = some ob := fun b ob q nx e => kp.1 b ob nx (fin.heap b ob q e)
      have nex : ∀ b : Nat, (b ≤ C ∨ N ≤ b) → b ∉ ex := fun b q z => by
        obtain ⟨z1, z2⟩ := hexN b z
        exact q.elim (fun h => Nat.lt_irrefl _ (Nat.lt_of_lt_of_le z1 h)) (fun h => Nat.lt_irrefl _ (Nat.lt_of_lt_of_le z2 h))
      refine seg_execs_nil (seg_again rfl (ih (i + 1) (by omega) s'' s'' _ ⟨F2.ns.at' fun ob e => up C ob (by omega) (nex C (.inl (Nat.le_refl _))) e, fun b ob e => up b ob (fun z => by rw [z, h118] at e; cases e) (fun z => by have := (hex b z).2; rw [e] at this; cases this) (F2.keep b ob e), F2.above⟩ ?_ ?_ ?_ kp.2 Mv.refl))
      · exact it2.at fun ob e => up it ob (by omega) (nex it (.inr hit0)) e
      · exact R2.keep fun b ob nb e => up b ob (fun z => nb (by rw [z]; exact List.Mem.tail _ (List.Mem.tail _ (List.Mem.head _)))) (fun z => nb (List.Mem.tail _ (List.Mem.tail _ (List.Mem.tail _ z)))) e
      · exact fin.code.at (fun ob e => kp.1 122 ob (nex 122 (.inl (by omega))) e) (fun ob e => kp.1 118 ob (nex 118 (.inl (by omega))) e)
end
end
-- JxListD
section
theorem jxListD_rows1 : True := by
  k_with_none
  (k_with "jx gg" => first | exact GG.refl _ | assumption | (refine GG.trans ?_ (by assumption); walk_at "jx gg"))
  (k_with "jx asks" => ((case k1 => k_asm); (case k2 => k_asm); (case k3 => k_asm); (case k4 => k_asm); (case k5 => k_asm); (case k6 => first | exact rfl | assumption); (case k7 => ktr_room); (case k8 => ktr_units)))
  (k_with "jx ne" => first | assumption | exact List.forall_mem_nil _ | (refine List.forall_mem_cons.mpr ⟨(by first | assumption | exact fun p9 z9 => absurd (congrArg Obj.cls z9) (by intro y9; cases y9) | exact notTab_cell (by assumption)), ?_⟩; walk_at "jx ne"))
  (k_with "jx backP" => (intro v9 ps9 h9 g9 tk9 R9 t9P F9 N9 G9; (first | (obtain ⟨t9, e9⟩ := R9; subst e9) | subst R9); (try dsimp only); (try k_sweep); (try k_fold)))
  (k_with "jx back" => (intro v9 h9 g9 tk9 R9 F9 N9 G9; (first | (obtain ⟨t9, e9⟩ := R9; subst e9) | subst R9); (try dsimp only); (try k_sweep); (try k_fold)))
  (k_with "jx back0" => (intro v9 h9 tk9 R9 F9 N9; (first | (obtain ⟨t9, e9⟩ := R9; subst e9) | subst R9); (try dsimp only); (try k_sweep); (try k_fold)))
  (k_with "jx dive" => skip)
  (k_with "jx fly0" => (intro e9 t9 xs9 h19 h9 tk9 F9 U9 R9; (try dsimp only); walk_at "jx dive"; (try k_fold)))
  (k_with "jx flyN" => (intro e9 h19 h9 g9 tk9 F9 U9 R9 G9; (try dsimp only); walk_at "jx diveN"; (try k_fold)))
  (k_with "jx diveN" => skip)
  (k_with "jx fly" => (intro e9 t9 xs9 h19 h9 g9 tk9 F9 U9 R9 G9; (try dsimp only); walk_at "jx dive"; (try k_fold)))
  (k_with "jx dec" => first | assumption | decide | (simp only [List.size_toArray, List.length_append, List.length_cons, List.length_nil, bne_iff_ne, ne_eq, beq_iff_eq, Bool.not_eq_true, Decidable.not_not, decide_eq_true_eq, decide_eq_false_iff_not, Bool.not_true, Bool.not_false, reduceCtorEq, not_false_eq_true, not_true_eq_false]; done) | (simp only [List.size_toArray, List.length_append, List.length_cons, List.length_nil, bne_iff_ne, ne_eq, beq_iff_eq, Bool.not_eq_true, Decidable.not_not, decide_eq_true_eq, decide_eq_false_iff_not]; omega))
  (k_with "ite" => (k_here; first | rw [if_pos (by walk_at "jx dec")] | rw [if_neg (by walk_at "jx dec")]))
  exact trivial
noncomputable def Items (P : Nat → Value → Prop) (acc : Array Value) (i : Nat) : Prop := acc.size = i ∧ ∀ j, j < i → ∃ v, acc[j]? = some v ∧ P j v
theorem Items.push {P : Nat → Value → Prop} {acc : Array Value} {i : Nat} {x : Value} (h : Items P acc i) (hx : P i x) : Items P (acc.push x) (i + 1) := by
  refine ⟨by rw [Array.size_push, h.1], fun j hj => ?_⟩
  by_cases e : j < i
  · obtain ⟨v, a, b⟩ := h.2 j e
    exact ⟨v, by rw [Array.getElem?_push, if_neg (by rw [h.1]; omega)]; exact a, b⟩
  · obtain rfl : j = i := by omega
    exact ⟨x, by rw [Array.getElem?_push, if_pos h.1.symm], hx⟩
section
variable {w : World} {A : Around} {I : Addr} {S N n : Nat} {wr : List Addr} {P : Nat → Value → Prop} {g0 : Array GenState} {St : Nat → Shared → Prop} {J : Heap → Prop}
theorem loop_draw {R : Result → Shared → Prop} (W : Draws w A.in1 I N wr [S] n P g0 St J) (hn : n ≤ sizeLine) (hSN : S + 1 = N) (hSw : S ∉ wr) (res : Value) :
    ∀ (k i : Nat) (s : Shared) (acc : Array Value) (c : Nat), n - i = k → i ≤ n → St i s → s.heap.get? S = some { cls := .type "list", dict := none, data := .seq acc c, slots := #[] } → Items P acc i →
    (∀ s' acc' c', MvH N (S :: wr) s s' → GG g0 s'.gens → J s'.heap → s'.heap.get? S = some { cls := .type "list", dict := none, data := .seq acc' c', slots := #[] } → Items P acc' n → R (.ok (.ret res)) s') →
    codeAny (model rw_.prog w) A (.builtin "list.extend.loop" ⟨[.ref S, .ref I, res], []⟩) R s := by
  have sub : ∀ b ∈ wr, b ∈ S :: wr := fun b hb => List.Mem.tail _ hb
  have hlt0 : S < N := by omega
  intro k
  induction k with
  | zero =>
    intro i s acc c hk hi hst hS hacc hR
    obtain rfl : i = n := by omega
    refine codeAny_builtin F.entry_extend_loop ?_
    rw [Around.under_plainId F.plain_extend_loop _]
    show wpAny _ A.in1 (pyNext (.ref I) >>= _) _ _ s
    refine wpAny_bind (W.done s _ _ hst fun s' hg mv hj => ?_)
    exact wpAny_pure (hR s' acc c (mv.mono sub) hg hj (mv.heap S _ hlt0 hSw hS) hacc)
  | succ k ih =>
    intro i s acc c hk hi hst hS hacc hR
    have hlt : i < n := by omega
    refine codeAny_builtin F.entry_extend_loop ?_
    rw [Around.under_plainId F.plain_extend_loop _]
    show wpAny _ A.in1 (pyNext (.ref I) >>= _) _ _ s
    refine wpAny_bind (W.item i s _ _ hlt hst fun v s' hP hst' lv mv => ?_)
    have hS' := mv.heap S _ hlt0 hSw hS
    show wpAny _ A.in1 (updateSeq S (·.push v) >>= _) _ _ _
    refine wpAny_bind ?_
    have oth : ∀ (b : Nat) (o : Obj), b ≠ S → s'.heap.get? b = some o → (s'.heap.update S (Obj.mapSeq (·.push v))).get? b = some o := fun b o q e => (Heap.get?_update_other _ _ (Ne.symm q)).trans e
    refine wpAny_updateSeq hS' rfl (wpAny_pure ⟨plainId_quiet F.plain_extend_loop _, ih (i + 1) _ (acc.push v) _ (by omega) hlt
        (W.frame (i + 1) s' _ s'.toks hst' (fun b o nm e => oth b o (fun z => nm (by rw [z]; exact List.Mem.head _)) e) ?_) (Heap.get?_update_self _ hS' rfl) (hacc.push hP) fun s'' acc' c' mv2 hg hj hS'' hacc' => ?_⟩)
      (by rw [hacc.1]; omega) (by show (acc.push v).size ≤ sizeLine + 1; rw [Array.size_push, hacc.1]; omega)
    · exact ⟨S, _, hSN, Heap.get?_update_self _ hS' rfl⟩
    · have mid : MvH N (S :: wr) s' { s' with heap := s'.heap.update S (Obj.mapSeq (·.push v)) } := ⟨fun b o _ nm e => oth b o (fun z => nm (by rw [z]; exact List.Mem.head _)) e, rfl, rfl⟩
      exact hR s'' acc' c' (((mv.mono sub).trans mid).trans mv2) hg hj hS'' hacc'
theorem extend_draw {R : Result → Shared → Prop} {s : Shared} (W : Draws w A.in1 I N wr [S] n P g0 St J) (hn : n ≤ sizeLine) (hSN : S + 1 = N) (hSw : S ∉ wr) (hSI : S ≠ I) (res : Value) (c₀ : Nat) (hS : s.heap.get? S = some { cls := .type "list", data := .seq #[] c₀ })
    (hT : ∀ h : Heap, (∀ (b : Nat) (o : Obj), b ≠ S → s.heap.get? b = some o → h.get? b = some o) → ∃ o, h.get? I = some o ∧ o.cls = .type "generator") (hst : St 0 s)
    (hR : ∀ s' acc' c', MvH N (S :: wr) s s' → GG g0 s'.gens → J s'.heap → s'.heap.get? S = some { cls := .type "list", dict := none, data := .seq acc' c', slots := #[] } → Items P acc' n → R (.ok (.ret res)) s') :
    wpAny (model rw_.prog w) A.in1 (Builtin.List.listExtendWith (.ref S) (.ref I) res)
      (fun fin s' => match fin with | .done f => R (.ok f) s' | .again c' => c'.quiet = true ∧ codeAny (model rw_.prog w) A c' R s') (fun e s' => R (.error e) s') s := by
  have hTs : s.TypeIs (.ref I) "generator" := hT s.heap fun _ _ _ e => e
  unfold Builtin.List.listExtendWith
  refine wpAny_bind (wpAny_typeOf hTs ?_)
  have h1 : Builtin.List.listSameRef (.ref S) (.ref I) = false := by simp [Builtin.List.listSameRef, hSI]
  have h2 : (Value.type "generator" == Value.type "list") = false := by decide
  have h3 : (Value.type "generator" == Value.type "tuple") = false := by decide
  simp only [h1, h2, h3, Bool.or_false, Bool.false_eq_true, if_false]
  refine wpAny_bind (W.self 0 _ _ _ hst ?_)
  refine wpAny_bind (wpAny_holding ?_)
  unfold Builtin.List.listLengthHint
  refine wpAny_bind (wpAny_specialOf hTs F.gen_no_len ?_)
  show wpAny _ A.in1 (specialOf (Value.ref I) (Str.ofString "__length_hint__") >>= _) _ _ _
  refine wpAny_bind (wpAny_specialOf hTs F.gen_no_hint ?_)
  refine wpAny_pure ?_
  show wpAny _ A.in1 (rule "list.extend.makes-room" >>= fun _ => Builtin.List.listTouch (.ref S) >>= fun _ =>
    again (.builtin "list.extend.loop" ⟨[.ref S, .ref I, res], []⟩)) _ _ _
  refine wpAny_bind (wpAny_rule ?_)
  refine wpAny_bind ?_
  show wpAny _ A.in1 (updateSeq S (·.push .none) >>= fun _ => updateSeq S (·.pop)) _ _ _
  refine wpAny_bind (wpAny_updateSeq hS rfl ?_)
  have hS₂ := Heap.get?_update_self (Obj.mapSeq (·.push Value.none)) hS rfl
  refine wpAny_updateSeq hS₂ rfl ?_
  have hS₃ := Heap.get?_update_self (Obj.mapSeq (·.pop)) hS₂ rfl
  have oth : ∀ (b : Nat) (o : Obj), b ≠ S → s.heap.get? b = some o → ((s.heap.update S (Obj.mapSeq (·.push Value.none))).update S (Obj.mapSeq (·.pop))).get? b = some o :=
    fun b o hb e => (Heap.get?_update_other _ _ (Ne.symm hb)).trans ((Heap.get?_update_other _ _ (Ne.symm hb)).trans e)
  refine wpAny_pure ⟨plainId_quiet F.plain_extend_loop _, loop_draw W hn hSN hSw _ n 0 _ _ _ rfl (Nat.zero_le _)
    (W.frame 0 s _ s.toks hst (fun b o nm e => oth b o (fun z => nm (by rw [z]; exact List.Mem.head _)) e) ⟨S, _, hSN, hS₃⟩) hS₃ ⟨rfl, fun j h => absurd h (Nat.not_lt_zero j)⟩ fun s' acc' c' mv hg hj hS' hacc => ?_⟩
  have mid : MvH N (S :: wr) s { s with heap := (s.heap.update S (Obj.mapSeq (·.push Value.none))).update S (Obj.mapSeq (·.pop)) } := ⟨fun b o _ nm e => oth b o (fun z => nm (by rw [z]; exact List.Mem.head _)) e, rfl, rfl⟩
  exact hR s' acc' c' (mid.trans mv) hg hj hS' hacc
end
section
variable {w : World} {A : Around} {E : Value → Shared → Prop} {s : Shared} {I : Addr} {n : Nat} {wr : List Addr} {P : Nat → Value → Prop} {g0 : Array GenState} {St : Nat → Shared → Prop} {J : Heap → Prop}
theorem list_draw {Q : Value → Shared → Prop} (W : Draws w A.in1.in1 I (s.heap.objs.size + 1) wr [s.heap.objs.size] n P g0 St J) (hn : n ≤ sizeLine) (hSw : s.heap.objs.size ∉ wr) (hI : ∃ o, s.heap.get? I = some o ∧ o.cls = .type "generator")
    (hst : ∀ h' : Heap, (∀ (b : Nat) (o : Obj), s.heap.get? b = some o → h'.get? b = some o) → Live (s.heap.objs.size + 1) h' → St 0 { s with heap := h' })
    (hQ : ∀ s' acc' c', MvH (s.heap.objs.size + 1) (s.heap.objs.size :: wr) s s' → GG g0 s'.gens → J s'.heap → s'.heap.get? s.heap.objs.size = some (PySem.W.listOf acc' c') → Items P acc' n → Q (.ref s.heap.objs.size) s') :
    wpAny (model rw_.prog w) A (call (.type "list") [.ref I]) Q E s := by
  have hlt : I < s.heap.objs.size := by
    obtain ⟨o, ho, _⟩ := hI
    exact Heap.lt_size ho
  refine callType_codes (Q₁ := fun obj s₁ => obj = .ref s.heap.objs.size ∧ s₁ = { s with heap := s.heap.push { cls := .type "list", data := .seq #[] } }) F.called_list (F.typeCall_list_1 _) F.entry_list_init
    (code_list_new _ ⟨rfl, rfl⟩) fun obj s₁ h₁ => ?_
  obtain ⟨rfl, rfl⟩ := h₁
  have hS : (s.heap.push { cls := .type "list", data := .seq #[] }).get? s.heap.objs.size = some { cls := .type "list", data := .seq #[] } := Heap.get?_push_size _ rfl
  refine ⟨⟨_, hS, rfl⟩, F.args_list_init_2 _ _, ?_⟩
  show wpAny _ A.in1.in1 (do let old ← Builtin.List.listItems (.ref s.heap.objs.size); Builtin.List.listUpdate (.ref s.heap.objs.size) (fun _ => #[]); letGo old.toList.reverse; Builtin.List.listExtendWith (.ref s.heap.objs.size) (.ref I) .none) _ _ _
  refine wpAny_bind ?_
  unfold Builtin.List.listItems
  refine wpAny_bind (wpAny_seqItems hS rfl (wpAny_pure ?_))
  show wpAny _ _ (updateSeq s.heap.objs.size (fun _ => #[]) >>= fun _ => letGo (#[] : Array Value).toList.reverse >>= fun _ => Builtin.List.listExtendWith (.ref s.heap.objs.size) (.ref I) .none) _ _ _
  refine wpAny_bind (wpAny_updateSeq hS rfl ?_)
  have hS₂ := Heap.get?_update_self (Obj.mapSeq (fun _ => (#[] : Array Value))) hS rfl
  refine wpAny_bind (wpAny_letGo ?_)
  have up : ∀ (b : Nat) (o : Obj), s.heap.get? b = some o → ((s.heap.push { cls := .type "list", data := .seq #[] }).update s.heap.objs.size (Obj.mapSeq (fun _ => (#[] : Array Value)))).get? b = some o :=
    fun b o e => (Heap.get?_update_other _ _ (Nat.ne_of_gt (Heap.lt_size e))).trans (Heap.get?_push_of_some _ e)
  refine extend_draw (A := A.in1) W hn rfl hSw (Nat.ne_of_gt hlt) .none _ hS₂ (fun h k => ?_) (hst _ up ⟨_, _, rfl, hS₂⟩) fun s' acc' c' mv hg hj hS' hacc => ⟨rfl, hQ s' acc' c' ?_ hg hj hS' hacc⟩
  · obtain ⟨o, ho, hc⟩ := hI
    exact ⟨o, k _ _ (Nat.ne_of_lt hlt) (up _ _ ho), hc⟩
  · have mid : MvH (s.heap.objs.size + 1) (s.heap.objs.size :: wr) s { s with heap := (s.heap.push { cls := .type "list", data := .seq #[] }).update s.heap.objs.size (Obj.mapSeq (fun _ => (#[] : Array Value))) } := ⟨fun b o _ _ e => up b o e, rfl, rfl⟩
    exact mid.trans mv
end
end
-- JxDecF
section
theorem jxDecF_rows1 : True := by
  k_with_none
  (k_with "jx gg" => first | exact GG.refl _ | assumption | (refine GG.trans ?_ (by assumption); walk_at "jx gg"))
  (k_with "jx asks" => ((case k1 => k_asm); (case k2 => k_asm); (case k3 => k_asm); (case k4 => k_asm); (case k5 => k_asm); (case k6 => first | exact rfl | assumption); (case k7 => ktr_room); (case k8 => ktr_units)))
  (k_with "jx ne" => first | assumption | exact List.forall_mem_nil _ | (refine List.forall_mem_cons.mpr ⟨(by first | assumption | exact fun p9 z9 => absurd (congrArg Obj.cls z9) (by intro y9; cases y9) | exact notTab_cell (by assumption)), ?_⟩; walk_at "jx ne"))
  (k_with "jx backP" => (intro v9 ps9 h9 g9 tk9 R9 t9P F9 N9 G9; (first | (obtain ⟨t9, e9⟩ := R9; subst e9) | subst R9); (try dsimp only); (try k_sweep); (try k_fold)))
  (k_with "jx back" => (intro v9 h9 g9 tk9 R9 F9 N9 G9; (first | (obtain ⟨t9, e9⟩ := R9; subst e9) | subst R9); (try dsimp only); (try k_sweep); (try k_fold)))
  (k_with "jx back0" => (intro v9 h9 tk9 R9 F9 N9; (first | (obtain ⟨t9, e9⟩ := R9; subst e9) | subst R9); (try dsimp only); (try k_sweep); (try k_fold)))
  (k_with "jx dive" => skip)
  (k_with "jx fly0" => (intro e9 t9 xs9 h19 h9 tk9 F9 U9 R9; (try dsimp only); walk_at "jx dive"; (try k_fold)))
  (k_with "jx flyN" => (intro e9 h19 h9 g9 tk9 F9 U9 R9 G9; (try dsimp only); walk_at "jx diveN"; (try k_fold)))
  (k_with "jx diveN" => skip)
  (k_with "jx fly" => (intro e9 t9 xs9 h19 h9 g9 tk9 F9 U9 R9 G9; (try dsimp only); walk_at "jx dive"; (try k_fold)))
  (k_with "jx dec" => first | assumption | decide | (simp only [List.size_toArray, List.length_append, List.length_cons, List.length_nil, bne_iff_ne, ne_eq, beq_iff_eq, Bool.not_eq_true, Decidable.not_not, decide_eq_true_eq, decide_eq_false_iff_not, Bool.not_true, Bool.not_false, reduceCtorEq, not_false_eq_true, not_true_eq_false]; done) | (simp only [List.size_toArray, List.length_append, List.length_cons, List.length_nil, bne_iff_ne, ne_eq, beq_iff_eq, Bool.not_eq_true, Decidable.not_not, decide_eq_true_eq, decide_eq_false_iff_not]; omega))
  (k_with "ite" => (k_here; first | rw [if_pos (by walk_at "jx dec")] | rw [if_neg (by walk_at "jx dec")]))
  exact trivial
noncomputable def objsOf (h g : Heap) (C : Nat) : List (Addr × Obj) := (List.range h.objs.size).filterMap fun b => if b = C ∨ (g.get? b).isSome = true then none else (h.get? b).map fun o => (b, o)
theorem objsOf_news {h g : Heap} {C : Nat} : News g C h (objsOf h g C) := fun q hq => by
  obtain ⟨b, _, hb⟩ := List.mem_filterMap.mp hq
  split at hb
  · cases hb
  · rename_i hn
    cases e : h.get? b with
    | none => rw [e] at hb; cases hb
    | some o =>
      rw [e] at hb
      cases hb
      refine ⟨e, fun z => hn (.inl z), ?_⟩
      cases z : g.get? b with
      | none => rfl
      | some o' => exact absurd (.inr (by rw [z]; rfl)) hn
theorem objsOf_mem {h g : Heap} {C b : Nat} {o : Obj} (e : h.get? b = some o) (hC : b ≠ C) (hg : g.get? b = none) : (b, o) ∈ objsOf h g C :=
  List.mem_filterMap.mpr ⟨b, List.mem_range.mpr (Heap.lt_size e), by
    rw [if_neg (fun z => z.elim hC fun z => by rw [hg] at z; cases z), e]; rfl⟩
theorem objsOf_kept {h h' g : Heap} {C : Nat} {m m' : Str → Option Value} (F : Fr g C h m) (F' : Fr g C h' m') (N' : News g C h' (objsOf h g C)) {b : Nat} {o : Obj} (e : h.get? b = some o) (hC : b ≠ C) : h'.get? b = some o := by
  cases z : g.get? b with
  | none => exact (N' _ (objsOf_mem e hC z)).1
  | some o' =>
    have := F.keep b o' z
    rw [e] at this
    cases this
    exact F'.keep b o z
section
variable {w : World} {g base : Heap} {C N dp un : Nat} {gd : Option (List Code)} {outerL : List Env} {ex : List Addr} {A₀ : Around} {mean : ExcName → Option Value} {mg mb : Str → Option Value}
theorem dec_fresh (X : (kfrag w.params).In g) (T : ctxTop mean mg mb g) (h118 : g.get? 118 = none) (hC : C + 1 < N) (h8 : 118 < C) (h2 : 122 < C) (hex : ∀ b ∈ ex, b ≠ C ∧ g.get? b = none) (hexN : ∀ b ∈ ex, C < b ∧ b < N)
    {o : List UInt8} {tv : Tok} (hz : o.length ≤ 4000) {s : Shared} {m : Str → Option Value} (Fm : Fr g C s.heap m) (hm : m (Str.ofString "input_bin") = some (.bytes o.toArray tv)) (lv : Live N s.heap) (hc : CodeOk s.heap)
    (hocc : ∀ b ∈ ex, ∃ ob, s.heap.get? b = some ob) (B : Below A₀ base outerL g) (hd : dp + 10 < recursionLimit) (hu : un + 100 < cLine) :
    Seg (model rw_.prog w) { handled := none, depth := dp, frames := some outerL, guards := gd, units := un } (Rr N [C, 118] CodeOk) (Yy N [C, 118] ex ((o.length + 7) / 8) (fun i v => ∃ t, v = .int ((num (partAt o i) : Nat) : Int) t)) ((o.length + 7) / 8) s (.func fnB18 (decEnv C)) ((model rw_.prog w).den (.func fnB18 (decEnv C))) [] s := by
  refine seg_func ?_
  rw [decBody]
  refine seg_execs_cons (seg_For ?_)
  refine wpAny_Call_ofName (nameX_K Fm X (topRead_of T) (ns_parts w) ?_ rfl rfl rfl)
  refine (show (kfrag = kfrag → _) → _ from fun hh => hh rfl) ?_
  k_fill
  w_on
  intro _
  k_steps
  refine nameX_L Fm hm ?_ rfl rfl rfl
  k_steps
  rw [← decBody]
  have l118 : ∃ ob, s.heap.get? 118 = some ob := by
    obtain ⟨ps, _, ⟨_, d⟩⟩ := hc
    exact ⟨_, d⟩
  obtain ⟨o118, ho118⟩ := l118
  refine part_ok w o tv _ hz mean mg mb (dp + frameCount [] + Code.weight (.func fnB18 (decEnv C))) (un + 0 + Code.cUnits (.func fnB18 (decEnv C))) _ (Str.ofString "_decode_from_bin") fnS18 123 (.ref 122) [] outerL A₀ base g C m (objsOf s.heap g C) _ _ _ ⟨B, Fm, X, objsOf_news, T, rfl, ?_, ?_⟩ ?_
  · show dp + 0 + 1 + 4 < recursionLimit
    omega
  · show un + 0 + 3 * 1 + 8 * 4 < cLine
    omega
  intro D ys h' g' tk' HP F9 N9 G9
  obtain ⟨nD, lD, zD, rD⟩ := HP
  have kp : ∀ (b : Nat) (ob : Obj), b ≠ C → s.heap.get? b = some ob → h'.get? b = some ob := fun b ob q e => objsOf_kept Fm F9 N9 e q
  have new : ∀ b, NewAt g C (objsOf s.heap g C) b → b ∉ C :: h'.objs.size :: 118 :: ex ∨ ¬ (∃ ob, h'.get? b = some ob) := fun b nb => by
    by_cases z : ∃ ob, h'.get? b = some ob
    · refine .inl fun hm => ?_
      rcases List.mem_cons.mp hm with e | hm
      · exact nb.2.1 e
      · rcases List.mem_cons.mp hm with e | hm
        · obtain ⟨ob, e'⟩ := z
          exact Nat.lt_irrefl _ (e ▸ Heap.lt_size e')
        · have notin : ∀ ob, s.heap.get? b = some ob → False := fun ob e => nb.2.2 _ (objsOf_mem e nb.2.1 nb.1) rfl
          rcases List.mem_cons.mp hm with e | hm
          · exact notin o118 (e ▸ ho118)
          · obtain ⟨ob, e⟩ := hocc b hm
            exact notin ob e
    · exact .inr z
  refine wpAny_pyIter_list lD ?_
  intro p
  have up : ∀ (b : Nat) (ob : Obj) (o' : Obj), h'.get? b = some ob → (h'.push o').get? b = some ob := fun b ob o' e => Heap.get?_push_of_some _ e
  have hNs : N ≤ h'.objs.size := by
    obtain ⟨b, ob, e, ho⟩ := lv
    have : b < h'.objs.size := Heap.lt_size (kp b ob (by omega) ho)
    omega
  have there : ∀ (b : Addr) its, h'.IsList b its → ∃ ob, h'.get? b = some ob := fun b its x => let ⟨ob, e, _⟩ := x; ⟨ob, e⟩
  refine dec_loop (it := h'.objs.size) (D := D) (ys := ys) X T h118 hC h8 h2 hex hexN hNs rfl rfl rfl rfl ?_ ?_ ?_ _ 0 (Nat.zero_add _) s _ m ⟨F9.ns.at' fun ob e => up C ob _ e, fun b ob e => up b ob _ (F9.keep b ob e), F9.above⟩ ⟨_, Heap.get?_push_size _ rfl, rfl, rfl⟩ ?_ ?_ ?_ ?_
  · rfl
  · first
      | (show dp + 1 + 0 < recursionLimit; omega)
      | (show dp + (1 + 0) + 0 < recursionLimit; omega)
      | (show dp + (1 + 0) + 1 < recursionLimit; omega)
  · intro s₀ s m Fm hc lv mv
    exact seg_execs_nil (seg_end (.ok (.ret .none)) ⟨rfl, rfl, mv, hc⟩)
  · refine ⟨(new D nD).resolve_right (fun z => z (there D ys lD)), lD.at fun ob e => up D ob _ e, zD, fun j hj => ?_⟩
    obtain ⟨Tl, its, e1, e2, e3, e4⟩ := rD j hj
    exact ⟨Tl, its, e1, (new Tl e2).resolve_right (fun z => z (there Tl its e3)), e3.at fun ob e => up Tl ob _ e, e4⟩
  · exact hc.at (fun ob e => up 122 ob _ (kp 122 ob (by omega) e)) (fun ob e => up 118 ob _ (kp 118 ob (by omega) e))
  · obtain ⟨b, ob, e, ho⟩ := lv
    exact ⟨b, ob, e, up b ob _ (kp b ob (by omega) ho)⟩
  · exact ⟨fun b ob q nw e => up b ob _ (kp b ob (fun z => nw (by rw [z]; exact List.Mem.head _)) e), G9, rfl, rfl⟩
end
end
-- JxDecL
section
theorem jxDecL_rows1 : True := by
  k_with_none
  (k_with "jx gg" => first | exact GG.refl _ | assumption | (refine GG.trans ?_ (by assumption); walk_at "jx gg"))
  (k_with "jx asks" => ((case k1 => k_asm); (case k2 => k_asm); (case k3 => k_asm); (case k4 => k_asm); (case k5 => k_asm); (case k6 => first | exact rfl | assumption); (case k7 => ktr_room); (case k8 => ktr_units)))
  (k_with "jx ne" => first | assumption | exact List.forall_mem_nil _ | (refine List.forall_mem_cons.mpr ⟨(by first | assumption | exact fun p9 z9 => absurd (congrArg Obj.cls z9) (by intro y9; cases y9) | exact notTab_cell (by assumption)), ?_⟩; walk_at "jx ne"))
  (k_with "jx backP" => (intro v9 ps9 h9 g9 tk9 R9 t9P F9 N9 G9; (first | (obtain ⟨t9, e9⟩ := R9; subst e9) | subst R9); (try dsimp only); (try k_sweep); (try k_fold)))
  (k_with "jx back" => (intro v9 h9 g9 tk9 R9 F9 N9 G9; (first | (obtain ⟨t9, e9⟩ := R9; subst e9) | subst R9); (try dsimp only); (try k_sweep); (try k_fold)))
  (k_with "jx back0" => (intro v9 h9 tk9 R9 F9 N9; (first | (obtain ⟨t9, e9⟩ := R9; subst e9) | subst R9); (try dsimp only); (try k_sweep); (try k_fold)))
  (k_with "jx dive" => skip)
  (k_with "jx fly0" => (intro e9 t9 xs9 h19 h9 tk9 F9 U9 R9; (try dsimp only); walk_at "jx dive"; (try k_fold)))
  (k_with "jx flyN" => (intro e9 h19 h9 g9 tk9 F9 U9 R9 G9; (try dsimp only); walk_at "jx diveN"; (try k_fold)))
  (k_with "jx diveN" => skip)
  (k_with "jx fly" => (intro e9 t9 xs9 h19 h9 g9 tk9 F9 U9 R9 G9; (try dsimp only); walk_at "jx dive"; (try k_fold)))
  (k_with "jx dec" => first | assumption | decide | (simp only [List.size_toArray, List.length_append, List.length_cons, List.length_nil, bne_iff_ne, ne_eq, beq_iff_eq, Bool.not_eq_true, Decidable.not_not, decide_eq_true_eq, decide_eq_false_iff_not, Bool.not_true, Bool.not_false, reduceCtorEq, not_false_eq_true, not_true_eq_false]; done) | (simp only [List.size_toArray, List.length_append, List.length_cons, List.length_nil, bne_iff_ne, ne_eq, beq_iff_eq, Bool.not_eq_true, Decidable.not_not, decide_eq_true_eq, decide_eq_false_iff_not]; omega))
  (k_with "ite" => (k_here; first | rw [if_pos (by walk_at "jx dec")] | rw [if_neg (by walk_at "jx dec")]))
  exact trivial
noncomputable def NotTab (o : Obj) : Prop := ∀ ps, o ≠ tabObj ps
theorem notTab_cell {o : Obj} {v : Option Value} (h : o.data = .cell v) : NotTab o := fun ps e => by
  rw [e] at h
  cases h
theorem codeOk_of {P : Params} {h : Heap} {ps : Array Value} (h1 : h.get? 122 = some (o122_5 P)) (h2 : h.get? 118 = some (tabObj ps)) (t : TriplesOk ps.toList) : CodeOk h :=
  ⟨ps, ⟨_, _, _, _, _, _, _, _, _, _, h1, rfl, rfl, rfl, rfl, rfl, rfl, h2, rfl, t, by decide⟩, ⟨_, _, h1, rfl, rfl, rfl⟩, h2⟩
theorem CodeOk.tab {h : Heap} (x : CodeOk h) : ∃ ps, h.get? 118 = some (tabObj ps) ∧ TriplesOk ps.toList := by
  obtain ⟨ps, ⟨o, vs, file, tf, flags, tg, inF, text, tt, op, a, r1, r2, r3, r4, r5, r6, b, d, t, _⟩, ⟨_, e⟩⟩ := x
  exact ⟨ps, e, t⟩
noncomputable abbrev decListE : Expr := (Expr.Name (Str.ofString "list") { line := 22, col := 17, endLine := 22, endCol := 21 }).Call [(Expr.Name (Str.ofString "_decode_from_bin") { line := 22, col := 22, endLine := 22, endCol := 38 }).Call [Expr.Name (Str.ofString "input_bin") { line := 22, col := 39, endLine := 22, endCol := 48 }] [] { line := 22, col := 22, endLine := 22, endCol := 49 }] [] { line := 22, col := 17, endLine := 22, endCol := 50 }
theorem ns_dec (w : World) : nsIn (kfrag w.params) mainGlobals (Str.ofString "_decode_from_bin") = some (some (.ref 123)) := by kernel_rfl
section
variable {w : World} {mean : ExcName → Option Value} {mg mb : Str → Option Value} {dp un : Nat} {gd : Option (List Code)} {cn : Str} {cs : Scope} {a : Addr} {ccd : Value} {cl : List (Str × Addr)} {outer : List Env} {A₀ : Around} {base h₀ : Heap} {L : Addr} {m : Str → Option Value} {news : List (Addr × Obj)} {s : Shared} {Q E : Value → Shared → Prop}
theorem dec_listE {o : List UInt8} {tv : Tok} {ps : Array Value} (B : Below A₀ base outer h₀) (F : Fr h₀ L s.heap m) (X : (kfrag w.params).In h₀) (N : News h₀ L s.heap ((118, tabObj ps) :: news)) (T : ctxTop mean mg mb h₀) (hps : TriplesOk ps.toList) (hne : ∀ q ∈ news, NotTab q.2) (hk : cs.kind = .function) (hd : dp + 20 < recursionLimit) (hu : un + 150 < cLine) (hz : o.length ≤ 4000)
    (h1 : (envX cn cs L a ccd cl).kindOf (Str.ofString "list") = some .globalImplicit) (h2 : (envX cn cs L a ccd cl).kindOf (Str.ofString "_decode_from_bin") = some .globalImplicit) (h3 : (envX cn cs L a ccd cl).kindOf (Str.ofString "input_bin") = some .local) (hm : m (Str.ofString "input_bin") = some (.bytes o.toArray tv))
    (ret : ∀ D ys n ps', TriplesOk ps'.toList → Items (fun i v => ∃ t, v = .int ((num (partAt o i) : Nat) : Int) t) ys ((o.length + 7) / 8) → RetOk h₀ L m ((D, listOf ys n) :: (118, tabObj ps') :: news) s Q (.ref D)) :
    wpAny (model rw_.prog w) (ktrTop dp un gd cn cs L a ccd cl outer) (eval decListE (envX cn cs L a ccd cl)) Q E s := by
  refine wpAny_Call_ofName (nameX_B (v := .type "list") F X (topRead_of T) (ns_list w) rfl (by decide) ?_ hk h1 rfl)
  refine (show (kfrag = kfrag → _) → _ from fun hh => hh rfl) ?_
  k_fill
  w_on
  intro _
  k_steps
  refine nameX_K F X (topRead_of T) (ns_dec w) ?_ hk h2 rfl
  k_steps
  refine nameX_L F hm ?_ hk h3 rfl
  k_steps
  have hL : L < s.heap.objs.size := by
    obtain ⟨ob, _, _, ho, _⟩ := F.ns
    exact Heap.lt_size ho
  refine wpAny_call (gen_call (o := o123_5 w.params) (fd := fnOf (Str.ofString "_decode_from_bin") (Str.ofString "_decode_from_bin") fnP18 fnB18 fnS18 .none .none .none (.str (Str.ofString "trie.utils.binaries") 336) none (.ref 122) .none) (body := fnB18) (binds := [(Str.ofString "input_bin", .bytes o.toArray tv)])
    (by show dp < recursionLimit; omega) (F.keep _ _ (X 123 _ (by kernel_rfl))) rfl (T.nolimit.keeps F.keep) (codeRec_of (X.keeps F.keep) (by kernel_rfl)) rfl (BindsTo.of_eq rfl) (by decide) (locs rfl) (fun h₁ hns hk₁ hsz tk tk₁ tk₂ => ?_) rfl rfl rfl)
  obtain ⟨FG, BG, stG, _⟩ := groundX (R := fun _ _ => True) B F N (A := ktrTop dp un gd cn cs L a ccd cl outer) rfl rfl hk
  have g118 : (hideAll s.heap (((118, tabObj ps) :: news).map (·.1))).get? 118 = none := hideAll_none _ (List.Mem.head _)
  have gsz : (hideAll s.heap (((118, tabObj ps) :: news).map (·.1))).objs.size = s.heap.objs.size := hideAll_size _ _
  have gin : ∀ b ob, (hideAll s.heap (((118, tabObj ps) :: news).map (·.1))).get? b = some ob → s.heap.get? b = some ob := fun b ob e => of_hideAll _ e
  generalize hg : hideAll s.heap (((118, tabObj ps) :: news).map (·.1)) = g at FG BG stG g118 gsz gin
  have Xg := X.keeps stG
  have Tg := T.keeps stG
  have lt118 : (118 : Nat) < s.heap.objs.size := Heap.lt_size (N _ (List.Mem.head _)).1
  have h122 : s.heap.get? 122 = some (o122_5 w.params) := F.keep _ _ (X 122 _ (by kernel_rfl))
  have lt122 : (122 : Nat) < s.heap.objs.size := Heap.lt_size h122
  generalize hC : s.heap.objs.size = C at hns hsz gsz lt118 lt122 hL
  have gl : ∀ (b : Nat) ob, g.get? b = some ob → b < C := fun b ob e => by rw [← gsz]; exact Heap.lt_size e
  have a1 : h₁.objs.size = C + 1 := hsz
  generalize hg2 : h₁.push _ = H2
  have z2 : H2.objs.size = C + 2 := by rw [← hg2, Heap.size_push, a1]
  have up2 : ∀ b ob, h₁.get? b = some ob → H2.get? b = some ob := fun b ob e => hg2 ▸ Heap.get?_push_of_some _ e
  have hgen : H2.IsGen (C + 1) s.gens.size := hg2 ▸ ⟨_, _, _, a1 ▸ Heap.get?_push_size _ rfl, rfl, rfl, rfl⟩
  have up : ∀ (b : Nat) (ob : Obj), s.heap.get? b = some ob → H2.get? b = some ob := fun b ob e => up2 b ob (hk₁ b ob e)
  have FC : Fr g C H2 (fun x => [(Str.ofString "input_bin", Value.bytes o.toArray tv)].reverse.lookup x) := ⟨hns.at' fun ob e => up2 C ob e, fun b ob e => up b ob (gin b ob e), Nat.le_of_eq gsz⟩
  have hcode : CodeOk H2 := codeOk_of (up _ _ h122) (up _ _ (N _ (List.Mem.head _)).1) hps
  k_steps
  rw [a1]
  have one : ∀ b : Nat, b ≠ C → b ≠ 118 → b ∉ [C, 118] := fun b q1 q2 z => by
    rcases List.mem_cons.mp z with e | z
    · exact q1 e
    · exact q2 (List.mem_singleton.mp z)
  have hcs : (cStatics : Nat) < C ∧ (cStatics : Nat) ≠ 118 := by
    obtain ⟨mc, ⟨ob, _, _, ho, _⟩, _⟩ := Tg.nolimit
    exact ⟨gsz ▸ Heap.lt_size ho, fun z => by rw [show (cStatics : Nat) = 118 from z] at ho; rw [g118] at ho; cases ho⟩
  have W : Draws w (ktrTop dp un gd cn cs L a ccd cl outer).in1.in1 (C + 1) (H2.objs.size + 1) [C, 118] [H2.objs.size] ((o.length + 7) / 8) (fun i v => ∃ t, v = .int ((num (partAt o i) : Nat) : Int) t) s.gens (GenSt w (ktrTop dp un gd cn cs L a ccd cl outer).in1.in1 (H2.objs.size + 1) [C, 118] [H2.objs.size] ((o.length + 7) / 8) (fun i v => ∃ t, v = .int ((num (partAt o i) : Nat) : Int) t) s.gens (C + 1) s.gens.size CodeOk) CodeOk := by
    rw [z2]
    refine draws_fn rfl ?_ rfl (by omega) (one (C + 1) (Nat.succ_ne_self C) (by omega)) (fun z => ?_) (Nat.lt_of_lt_of_le hcs.1 (show C ≤ C + 2 + 1 by omega)) (one (cStatics : Nat) (Nat.ne_of_lt hcs.1) hcs.2) (fun z => ?_) (fun b q => one b (Nat.ne_of_gt (by omega)) (Nat.ne_of_gt (by omega))) (fun _ _ x k => x.keeps k)
    · first
        | (show dp < recursionLimit; omega)
        | (show dp + 1 + 1 < recursionLimit; omega)
    · exact absurd (List.mem_singleton.mp z) (Nat.ne_of_lt (Nat.lt_succ_self _))
    · exact absurd (List.mem_singleton.mp z) (Nat.ne_of_lt (Nat.lt_of_lt_of_le hcs.1 (Nat.le_add_right _ _)))
  refine list_draw W ?_ ?_ ?_ ?_ ?_
  · exact Nat.le_trans (show (o.length + 7) / 8 ≤ 4000 by omega) (by size_fits)
  · show H2.objs.size ∉ [C, 118]
    rw [z2]
    exact one (C + 2) (Nat.ne_of_gt (Nat.lt_add_of_pos_right (by decide))) (by omega)
  · obtain ⟨ob, nm, qn, ho, hcl, _⟩ := hgen
    exact ⟨ob, ho, hcl⟩
  · intro h' kk lv
    have hex : ∀ b ∈ [H2.objs.size], b ≠ C ∧ g.get? b = none := fun b hb => by
      rw [List.mem_singleton.mp hb, z2]
      refine ⟨Nat.ne_of_gt (Nat.lt_add_of_pos_right (by decide)), ?_⟩
      cases z : g.get? (C + 2) with
      | none => rfl
      | some ob => exact absurd (gl _ _ z) (Nat.not_lt.mpr (Nat.le_add_right C 2))
    have FC' : Fr g C h' (fun x => [(Str.ofString "input_bin", Value.bytes o.toArray tv)].reverse.lookup x) := ⟨FC.ns.at' fun ob e => kk C ob e, fun b ob e => kk b ob (FC.keep b ob e), FC.above⟩
    refine ⟨(isGen_keeps' hgen) fun ob e => kk _ ob e, Tg.nolimit.keeps fun b ob e => kk b ob (up b ob (gin b ob e)), lv, ⟨fun i x q e => ?_, fun i x q e => ?_⟩, _, Array.getElem?_push_size, fun s'' kp => ⟨rfl, ?_⟩⟩
    · show (s.gens.push _)[i]? = some x
      rw [Array.getElem?_push, if_neg q]; exact e
    · have e' : (s.gens.push (.fresh (.func fnB18 (decEnv C))))[i]? = some x := e
      rw [Array.getElem?_push, if_neg q] at e'; exact .inl e'
    · have nex : ∀ b : Nat, b < C → b ∉ [H2.objs.size] := fun b q z => by
        rw [List.mem_singleton.mp z, z2] at q
        exact absurd q (Nat.not_lt.mpr (Nat.le_add_right C 2))
      refine dec_fresh (dp := dp) (un := un + 1 + 1 + 1) (gd := gd) (outerL := envX cn cs L a ccd cl :: outer) (A₀ := ktrTop dp un gd cn cs L a ccd cl outer) (base := base) Xg Tg g118 (by omega) lt118 lt122 hex (fun b hb => ?_) hz (frKept FC' hex kp) rfl kp.2 (hcode.at (fun ob e => kp.1 122 ob (nex 122 lt122) (kk _ ob e)) (fun ob e => kp.1 118 ob (nex 118 lt118) (kk _ ob e))) (fun b hb => ?_) BG (by omega) (by omega)
      · rw [List.mem_singleton.mp hb, z2]
        exact ⟨Nat.lt_add_of_pos_right (by decide), Nat.lt_succ_self _⟩
      · obtain ⟨b', ob, e, ho⟩ := kp.2
        have : b' = H2.objs.size := by omega
        rw [List.mem_singleton.mp hb, ← this]
        exact ⟨ob, ho⟩
  · intro s' acc' c' mv hg9 hj hS hI
    obtain ⟨ps', t1, t2⟩ := hj.tab
    have hCs : ∀ (b : Nat) (ob : Obj), s.heap.get? b = some ob → b < C := fun b ob e => hC ▸ Heap.lt_size e
    have kk : ∀ (b : Nat) (ob : Obj), b ≠ 118 → s.heap.get? b = some ob → s'.heap.get? b = some ob := fun b ob q e => mv.heap b ob (by show b < H2.objs.size + 1; rw [z2]; have := hCs b ob e; omega) (fun z => by
      have lb := hCs b ob e
      rcases List.mem_cons.mp z with z | z
      · rw [show b = H2.objs.size from z, z2] at lb; exact absurd lb (Nat.not_lt.mpr (Nat.le_add_right C 2))
      · rcases List.mem_cons.mp z with z | z
        · exact absurd z (Nat.ne_of_lt lb)
        · exact q (List.mem_singleton.mp z)) (up b ob e)
    have n118 := N _ (List.Mem.head _)
    have h0ne : ∀ b ob, h₀.get? b = some ob → b ≠ 118 := fun b ob e z => by have := n118.2.2; rw [z] at e; rw [e] at this; cases this
    have F9 : Fr h₀ L s'.heap m := ⟨F.ns.at' fun ob e => kk L ob (fun z => n118.2.1 z.symm) e, fun b ob e => kk b ob (h0ne b ob e) (F.keep b ob e), F.above⟩
    have nD : h₀.get? H2.objs.size = none := by
      cases z : h₀.get? H2.objs.size with
      | none => rfl
      | some ob => have := hCs _ _ (F.keep _ _ z); rw [z2] at this; exact absurd this (Nat.not_lt.mpr (Nat.le_add_right C 2))
    have N9 : News h₀ L s'.heap ((H2.objs.size, listOf acc' c') :: (118, tabObj ps') :: news) := fun q hq => by
      rcases List.mem_cons.mp hq with rfl | hq
      · refine ⟨hS, ?_, nD⟩
        show H2.objs.size ≠ L
        rw [z2]
        exact Nat.ne_of_gt (Nat.lt_of_lt_of_le hL (Nat.le_add_right C 2))
      · rcases List.mem_cons.mp hq with rfl | hq
        · exact ⟨t1, n118.2⟩
        · obtain ⟨q1, q2, q3⟩ := N q (List.Mem.tail _ hq)
          have q118 : q.1 ≠ 118 := fun z => by
            have := n118.1
            rw [show ((118 : Nat), tabObj ps).1 = q.1 from z.symm, q1] at this
            exact hne q hq _ (Option.some.inj this)
          exact ⟨kk q.1 q.2 q118 q1, q2, q3⟩
    have := ret H2.objs.size acc' c' ps' t2 hI s'.heap s'.gens s'.toks F9 N9 hg9
    have e : s' = { s with heap := s'.heap, gens := s'.gens, toks := s'.toks } := by
      have e1 := mv.drawn
      have e2 := mv.os
      cases s'
      cases s
      dsimp only at e1 e2 ⊢
      subst e1 e2
      rfl
    rw [e]
    exact this
end
end
-- JxP
section
theorem jxP_rows1 : True := by
  k_with_none
  (k_with "jx gg" => first | exact GG.refl _ | assumption | (refine GG.trans ?_ (by assumption); walk_at "jx gg"))
  (k_with "jx asks" => ((case k1 => k_asm); (case k2 => k_asm); (case k3 => k_asm); (case k4 => k_asm); (case k5 => k_asm); (case k6 => first | exact rfl | assumption); (case k7 => ktr_room); (case k8 => ktr_units)))
  (k_with "jx ne" => first | assumption | exact List.forall_mem_nil _ | (refine List.forall_mem_cons.mpr ⟨(by first | assumption | exact fun p9 z9 => absurd (congrArg Obj.cls z9) (by intro y9; cases y9) | exact notTab_cell (by assumption)), ?_⟩; walk_at "jx ne"))
  (k_with "jx backP" => (intro v9 ps9 h9 g9 tk9 R9 t9P F9 N9 G9; (first | (obtain ⟨t9, e9⟩ := R9; subst e9) | subst R9); (try dsimp only); (try k_sweep); (try k_fold)))
  (k_with "jx back" => (intro v9 h9 g9 tk9 R9 F9 N9 G9; (first | (obtain ⟨t9, e9⟩ := R9; subst e9) | subst R9); (try dsimp only); (try k_sweep); (try k_fold)))
  (k_with "jx back0" => (intro v9 h9 tk9 R9 F9 N9; (first | (obtain ⟨t9, e9⟩ := R9; subst e9) | subst R9); (try dsimp only); (try k_sweep); (try k_fold)))
  (k_with "jx dive" => skip)
  (k_with "jx fly0" => (intro e9 t9 xs9 h19 h9 tk9 F9 U9 R9; (try dsimp only); walk_at "jx dive"; (try k_fold)))
  (k_with "jx flyN" => (intro e9 h19 h9 g9 tk9 F9 U9 R9 G9; (try dsimp only); walk_at "jx diveN"; (try k_fold)))
  (k_with "jx diveN" => skip)
  (k_with "jx fly" => (intro e9 t9 xs9 h19 h9 g9 tk9 F9 U9 R9 G9; (try dsimp only); walk_at "jx dive"; (try k_fold)))
  (k_with "jx dec" => first | assumption | decide | (simp only [List.size_toArray, List.length_append, List.length_cons, List.length_nil, bne_iff_ne, ne_eq, beq_iff_eq, Bool.not_eq_true, Decidable.not_not, decide_eq_true_eq, decide_eq_false_iff_not, Bool.not_true, Bool.not_false, reduceCtorEq, not_false_eq_true, not_true_eq_false]; done) | (simp only [List.size_toArray, List.length_append, List.length_cons, List.length_nil, bne_iff_ne, ne_eq, beq_iff_eq, Bool.not_eq_true, Decidable.not_not, decide_eq_true_eq, decide_eq_false_iff_not]; omega))
  (k_with "ite" => (k_here; first | rw [if_pos (by walk_at "jx dec")] | rw [if_neg (by walk_at "jx dec")]))
  exact trivial
noncomputable abbrev TellP (d : Nat) (w : World) (f : Addr) (vs : List Value) (R : Value → Prop) : Prop :=
  ∀ (mean : ExcName → Option Value) (mg mb : Str → Option Value) (dp un : Nat) (gd : Option (List Code)) (cn : Str) (cs : Scope) (a : Addr) (ccd : Value) (cl : List (Str × Addr)) (outer : List Env) (A₀ : Around) (base h₀ : Heap) (L : Addr) (m : Str → Option Value) (ps : Array Value) (news : List (Addr × Obj)) (s : Shared) (Q E : Value → Shared → Prop),
    At w d mean mg mb dp un cs outer A₀ base h₀ L m ((118, tabObj ps) :: news) s.heap → TriplesOk ps.toList → (∀ q ∈ news, NotTab q.2) →
    (∀ v ps' h' g' tk', R v → TriplesOk ps'.toList → Fr h₀ L h' m → News h₀ L h' ((118, tabObj ps') :: news) → GG s.gens g' → Q v { s with heap := h', gens := g', toks := tk' }) →
    wpAny (model rw_.prog w) (ktrTop dp un gd cn cs L a ccd cl outer) (call (.ref f) vs) Q E s
section
variable {w : World} {mean : ExcName → Option Value} {mg mb : Str → Option Value} {dp un : Nat} {gd : Option (List Code)} {cn : Str} {cs : Scope} {a : Addr} {ccd : Value} {cl : List (Str × Addr)} {outer : List Env} {A₀ : Around} {base h₀ : Heap} {L : Addr} {m : Str → Option Value} {news : List (Addr × Obj)} {s : Shared} {Q E : Value → Shared → Prop}
theorem TellP.use {d : Nat} {f : Addr} {vs : List Value} {R : Value → Prop} {ps : Array Value} (C : TellP d w f vs R) (B : Below A₀ base outer h₀) (F : Fr h₀ L s.heap m) (X : (kfrag w.params).In h₀) (N : News h₀ L s.heap ((118, tabObj ps) :: news)) (T : ctxTop mean mg mb h₀) (hk : cs.kind = .function) (hd : dp + d < recursionLimit) (hu : un + 8 * d < cLine)
    (t : TriplesOk ps.toList) (hne : ∀ q ∈ news, NotTab q.2)
    (ret : ∀ v ps' h' g' tk', R v → TriplesOk ps'.toList → Fr h₀ L h' m → News h₀ L h' ((118, tabObj ps') :: news) → GG s.gens g' → Q v { s with heap := h', gens := g', toks := tk' }) :
    wpAny (model rw_.prog w) (ktrTop dp un gd cn cs L a ccd cl outer) (call (.ref f) vs) Q E s := by
  refine C mean mg mb dp un gd cn cs a ccd cl outer A₀ base h₀ L m ps news s Q E ⟨B, F, X, N, T, hk, hd, hu⟩ t hne ?_
  exact ret
end
theorem num_lt {p : List UInt8} (hb : IsBits p) (h : p.length ≤ 8) : num p < 256 := by
  have key : ∀ (l : List UInt8), IsBits l → ∀ acc, l.foldl (fun n b => n * 2 + b.toNat) acc < (acc + 1) * 2 ^ l.length := by
    intro l
    induction l with
    | nil => intro _ acc; simp
    | cons c l ih =>
      intro hl acc
      have hc : c.toNat ≤ 1 := by
        rcases hl c (List.Mem.head _) with rfl | rfl <;> decide
      have := ih (fun b hb => hl b (List.Mem.tail _ hb)) (acc * 2 + c.toNat)
      rw [List.foldl_cons, List.length_cons, Nat.pow_succ, Nat.mul_comm (2 ^ l.length) 2, ← Nat.mul_assoc]
      refine Nat.lt_of_lt_of_le this (Nat.mul_le_mul_right _ (by omega))
  have := key p hb 0
  have h2 : 2 ^ p.length ≤ 2 ^ 8 := Nat.pow_le_pow_right (by decide) h
  unfold num
  omega
theorem unbits_get {l : List UInt8} {j : Nat} (h : j < (l.length + 7) / 8) : (unbits l)[j]? = some (UInt8.ofNat (num (partAt l j))) := by
  unfold unbits parts partAt
  rw [List.map_map, List.getElem?_map, List.getElem?_range h]
  rfl
theorem row_unbits {ys : Array Value} {o : List UInt8} (hb : IsBits o) (h : Items (fun i v => ∃ t, v = .int ((num (partAt o i) : Nat) : Int) t) ys ((o.length + 7) / 8)) : IntRow ys (unbits o) := by
  refine ⟨by rw [unbits_length]; exact h.1, fun j c e => ?_⟩
  have hj : j < (o.length + 7) / 8 := by
    rw [← unbits_length]
    rcases Nat.lt_or_ge j (unbits o).length with q | q
    · exact q
    · rw [List.getElem?_eq_none q] at e; cases e
  obtain ⟨v, e1, t, e2⟩ := h.2 j hj
  rw [unbits_get hj] at e
  cases e
  have lt : num (partAt o j) < 256 := num_lt ((hb.drop _).take _) (by unfold partAt; rw [List.length_take]; exact Nat.min_le_left _ _)
  refine ⟨t, e1.trans ?_⟩
  rw [e2, UInt8.toNat_ofNat_of_lt' lt]
end
-- JxLawB
section
theorem jxLawB_rows1 : True := by
  k_with_none
  (k_with "jx gg" => first | exact GG.refl _ | assumption | (refine GG.trans ?_ (by assumption); walk_at "jx gg"))
  (k_with "jx asks" => ((case k1 => k_asm); (case k2 => k_asm); (case k3 => k_asm); (case k4 => k_asm); (case k5 => k_asm); (case k6 => first | exact rfl | assumption); (case k7 => ktr_room); (case k8 => ktr_units)))
  (k_with "jx ne" => first | assumption | exact List.forall_mem_nil _ | (refine List.forall_mem_cons.mpr ⟨(by first | assumption | exact fun p9 z9 => absurd (congrArg Obj.cls z9) (by intro y9; cases y9) | exact notTab_cell (by assumption)), ?_⟩; walk_at "jx ne"))
  (k_with "jx backP" => (intro v9 ps9 h9 g9 tk9 R9 t9P F9 N9 G9; (first | (obtain ⟨t9, e9⟩ := R9; subst e9) | subst R9); (try dsimp only); (try k_sweep); (try k_fold)))
  (k_with "jx back" => (intro v9 h9 g9 tk9 R9 F9 N9 G9; (first | (obtain ⟨t9, e9⟩ := R9; subst e9) | subst R9); (try dsimp only); (try k_sweep); (try k_fold)))
  (k_with "jx back0" => (intro v9 h9 tk9 R9 F9 N9; (first | (obtain ⟨t9, e9⟩ := R9; subst e9) | subst R9); (try dsimp only); (try k_sweep); (try k_fold)))
  (k_with "jx dive" => skip)
  (k_with "jx fly0" => (intro e9 t9 xs9 h19 h9 tk9 F9 U9 R9; (try dsimp only); walk_at "jx dive"; (try k_fold)))
  (k_with "jx flyN" => (intro e9 h19 h9 g9 tk9 F9 U9 R9 G9; (try dsimp only); walk_at "jx diveN"; (try k_fold)))
  (k_with "jx diveN" => skip)
  (k_with "jx fly" => (intro e9 t9 xs9 h19 h9 g9 tk9 F9 U9 R9 G9; (try dsimp only); walk_at "jx dive"; (try k_fold)))
  (k_with "jx dec" => first | assumption | decide | (simp only [List.size_toArray, List.length_append, List.length_cons, List.length_nil, bne_iff_ne, ne_eq, beq_iff_eq, Bool.not_eq_true, Decidable.not_not, decide_eq_true_eq, decide_eq_false_iff_not, Bool.not_true, Bool.not_false, reduceCtorEq, not_false_eq_true, not_true_eq_false]; done) | (simp only [List.size_toArray, List.length_append, List.length_cons, List.length_nil, bne_iff_ne, ne_eq, beq_iff_eq, Bool.not_eq_true, Decidable.not_not, decide_eq_true_eq, decide_eq_false_iff_not]; omega))
  (k_with "ite" => (k_here; first | rw [if_pos (by walk_at "jx dec")] | rw [if_neg (by walk_at "jx dec")]))
  exact trivial
theorem jxLawB_rows2 : True := by
  (k_with "jx cut" => with_reducible first | exact cutL_from _ _ | exact cutL_to _ _ | exact cutL_mid _ _ _ | exact cutL_last _ _ (by decide) | exact cutL_but _ _ _ (by decide) | exact cut_all _ | exact cut_from _ _ | exact cut_to _ _ | exact cut_mid _ _ _)
  (k_with "jx len" => first | omega | (simp only [List.length_append, List.length_cons, List.length_nil, List.length_take, List.length_drop, List.length_replicate, List.length_map, List.length_reverse]; omega))
  (k_with "binaryOp Add bytes bytes" => (k_here; (with_reducible show wpAny _ _ (binaryOp Operator.Add (Value.bytes (List.toArray _) _) (Value.bytes (List.toArray _) _)) _ _ _); (refine jb_add (by walk_at "jx len") ?_); intro _ _))
  (k_with "call builtin:len" => (k_here; (with_reducible show wpAny _ _ (call (Value.builtin "len") [Value.bytes (List.toArray _) _]) _ _ _); (refine jb_len (by walk_at "jx len") ?_); intro _ _))
  (k_with "compareOp Eq bytes bytes" => refine jb_eq ?_)
  (k_with "compareOp NotEq bytes bytes" => refine jb_ne ?_)
  (k_with "subscriptTail" => (k_here; (with_reducible show wpAny _ _ (subscriptTail _ (Expr.Slice _ _ none _) (Value.bytes (List.toArray _) _) (Value.ref _)) _ _ _); (with_reducible rename Fr _ _ _ _ => F'); (with_reducible rename News _ _ _ _ => N'); (refine jb_slice (s := ⟨_, _, _, _, _⟩) F' N' (by constructor) (by constructor) (by walk_at "jx len") (by walk_at "jx cut") ?_); intro _ _ _ _ _))
  (k_with "subscriptTail" => (k_here; (with_reducible show wpAny _ _ (subscriptTail _ _ (Value.bytes (List.toArray _) _) (Value.int _ _)) _ _ _); (refine KBy.item_N (by walk_at "jx len") (by walk_at "jx len") (by walk_at "jx len") ?_)))
  (k_with "eval Constant int" => (k_here; refine wpAny_Constant_int ?_; (try dsimp only)))
  exact trivial
noncomputable def st0 : Stmt := Subtype.val (show {x : Stmt // x = fnB42.getD 0 (.Pass default)} from by
  refine ⟨?a, ?b⟩
  case b => conv => rhs; whnf)
noncomputable def st1 : Stmt := Subtype.val (show {x : Stmt // x = fnB42.getD 1 (.Pass default)} from by
  refine ⟨?a, ?b⟩
  case b => conv => rhs; whnf)
noncomputable def st2 : Stmt := Subtype.val (show {x : Stmt // x = fnB42.getD 2 (.Pass default)} from by
  refine ⟨?a, ?b⟩
  case b => conv => rhs; whnf)
noncomputable def st3 : Stmt := Subtype.val (show {x : Stmt // x = fnB42.getD 3 (.Pass default)} from by
  refine ⟨?a, ?b⟩
  case b => conv => rhs; whnf)
noncomputable def st4 : Stmt := Subtype.val (show {x : Stmt // x = fnB42.getD 4 (.Pass default)} from by
  refine ⟨?a, ?b⟩
  case b => conv => rhs; whnf)
noncomputable def st5 : Stmt := Subtype.val (show {x : Stmt // x = fnB42.getD 5 (.Pass default)} from by
  refine ⟨?a, ?b⟩
  case b => conv => rhs; whnf)
noncomputable def st6 : Stmt := Subtype.val (show {x : Stmt // x = fnB42.getD 6 (.Pass default)} from by
  refine ⟨?a, ?b⟩
  case b => conv => rhs; whnf)
noncomputable def st7 : Stmt := Subtype.val (show {x : Stmt // x = fnB42.getD 7 (.Pass default)} from by
  refine ⟨?a, ?b⟩
  case b => conv => rhs; whnf)
noncomputable def st8 : Stmt := Subtype.val (show {x : Stmt // x = fnB42.getD 8 (.Pass default)} from by
  refine ⟨?a, ?b⟩
  case b => conv => rhs; whnf)
noncomputable def st9 : Stmt := Subtype.val (show {x : Stmt // x = fnB42.getD 9 (.Pass default)} from by
  refine ⟨?a, ?b⟩
  case b => conv => rhs; whnf)
noncomputable def st10 : Stmt := Subtype.val (show {x : Stmt // x = fnB42.getD 10 (.Pass default)} from by
  refine ⟨?a, ?b⟩
  case b => conv => rhs; whnf)
noncomputable def st11 : Stmt := Subtype.val (show {x : Stmt // x = fnB42.getD 11 (.Pass default)} from by
  refine ⟨?a, ?b⟩
  case b => conv => rhs; whnf)
noncomputable def st12 : Stmt := Subtype.val (show {x : Stmt // x = fnB42.getD 12 (.Pass default)} from by
  refine ⟨?a, ?b⟩
  case b => conv => rhs; whnf)
noncomputable def st13 : Stmt := Subtype.val (show {x : Stmt // x = fnB42.getD 13 (.Pass default)} from by
  refine ⟨?a, ?b⟩
  case b => conv => rhs; whnf)
noncomputable def st14 : Stmt := Subtype.val (show {x : Stmt // x = fnB42.getD 14 (.Pass default)} from by
  refine ⟨?a, ?b⟩
  case b => conv => rhs; whnf)
noncomputable def st15 : Stmt := Subtype.val (show {x : Stmt // x = fnB42.getD 15 (.Pass default)} from by
  refine ⟨?a, ?b⟩
  case b => conv => rhs; whnf)
noncomputable def st16 : Stmt := Subtype.val (show {x : Stmt // x = fnB42.getD 16 (.Pass default)} from by
  refine ⟨?a, ?b⟩
  case b => conv => rhs; whnf)
noncomputable def st17 : Stmt := Subtype.val (show {x : Stmt // x = fnB42.getD 17 (.Pass default)} from by
  refine ⟨?a, ?b⟩
  case b => conv => rhs; whnf)
theorem law_body : fnB42 = [st0, st1, st2, st3, st4, st5, st6, st7, st8, st9, st10, st11, st12, st13, st14, st15, st16, st17] := by kernel_rfl
noncomputable abbrev lawCl (L : Addr) : List (Str × Addr) := [(Str.ofString "octets", L + 1 + 1), (Str.ofString "row", L + 1)]
noncomputable abbrev lawEnv (L : Addr) : Env := envX (Str.ofString "law") fnS42 L 262 (.ref 261) (lawCl L)
/-- what the law's end asks -/
noncomputable def LawEnd (g : Heap) (L : Addr) (Q : Flow → Shared → Prop) (s : Shared) : Prop :=
  ∀ ps' h' g' tk' m', Fr g L h' m' → h'.get? 118 = some (tabObj ps') → GG s.gens g' → Q (.ret (.bool true)) { s with heap := h', gens := g', toks := tk' }
theorem LawEnd.on {g : Heap} {L : Addr} {Q : Flow → Shared → Prop} {s : Shared} {h : Heap} {g' : Array GenState} {tk : Nat} (x : LawEnd g L Q s) (hg : GG s.gens g') : LawEnd g L Q { s with heap := h, gens := g', toks := tk } :=
  fun ps' h' g'' tk' m' F e G => x ps' h' g'' tk' m' F e (hg.trans G)
/-- a call that comes back, out of one that does -/
theorem Does.tell {d : Nat} {w : World} {f : Addr} {vs : List Value} {R : Value → List (Addr × Obj) → Prop} {X : Value → Prop} {XN : Prop} {R' : Value → Prop} (C : Does d w f vs R X XN) (hx : ∀ c, ¬ X c) (hn : ¬ XN) (hr : ∀ v ex, R v ex → ex = [] ∧ R' v) : Tell d w f vs R' :=
  fun mean mg mb dp un gd cn cs a ccd cl outer A₀ base h₀ L m news s Q E at_ ret =>
    C mean mg mb dp un gd cn cs a ccd cl outer A₀ base h₀ L m news s Q E at_ (fun v ex h' g' tk' r F N G => by
      obtain ⟨rfl, r'⟩ := hr v ex r
      exact ret v h' g' tk' r' F N G) (fun _ _ _ c _ _ _ _ x => (hx c x).elim) (fun _ _ _ _ _ x => (hn x).elim)
theorem back_ok (w : World) (r : List UInt8) (t1 : Tok) (hb : IsBits r) (hz : r.length ≤ 200) : Tell 6 w 149 [.bytes (enc r).toArray t1] (fun v => ∃ t, v = .bytes r.toArray t) :=
  Does.tell (dec_ok w (enc r) t1 (by rw [enc_length]; omega) (by rw [enc_length]; omega)) (fun _ x => x) (by rw [dec_enc hb]; intro z; cases z) (fun v ex ⟨p, t, e, e1, e2⟩ => ⟨e2, t, by rw [dec_enc hb] at e; cases e; exact e1⟩)
theorem packed_is (w : World) (o : List UInt8) (t1 : Tok) (hz : o.length ≤ 126) (hb : IsBits o) : Tell 4 w 205 [.bytes o.toArray t1] (fun v => ∃ t, v = .bytes (enc o).toArray t) := by
  have := packed_ok w o t1 hz hb
  rw [packed_enc hb] at this
  exact this
end
-- JxSt
section
theorem jxSt_rows1 : True := by
  k_with_none
  (k_with "jx gg" => first | exact GG.refl _ | assumption | (refine GG.trans ?_ (by assumption); walk_at "jx gg"))
  (k_with "jx asks" => ((case k1 => k_asm); (case k2 => k_asm); (case k3 => k_asm); (case k4 => k_asm); (case k5 => k_asm); (case k6 => first | exact rfl | assumption); (case k7 => ktr_room); (case k8 => ktr_units)))
  (k_with "jx ne" => first | assumption | exact List.forall_mem_nil _ | (refine List.forall_mem_cons.mpr ⟨(by first | assumption | exact fun p9 z9 => absurd (congrArg Obj.cls z9) (by intro y9; cases y9) | exact notTab_cell (by assumption)), ?_⟩; walk_at "jx ne"))
  (k_with "jx backP" => (intro v9 ps9 h9 g9 tk9 R9 t9P F9 N9 G9; (first | (obtain ⟨t9, e9⟩ := R9; subst e9) | subst R9); (try dsimp only); (try k_sweep); (try k_fold)))
  (k_with "jx back" => (intro v9 h9 g9 tk9 R9 F9 N9 G9; (first | (obtain ⟨t9, e9⟩ := R9; subst e9) | subst R9); (try dsimp only); (try k_sweep); (try k_fold)))
  (k_with "jx back0" => (intro v9 h9 tk9 R9 F9 N9; (first | (obtain ⟨t9, e9⟩ := R9; subst e9) | subst R9); (try dsimp only); (try k_sweep); (try k_fold)))
  (k_with "jx dive" => skip)
  (k_with "jx fly0" => (intro e9 t9 xs9 h19 h9 tk9 F9 U9 R9; (try dsimp only); walk_at "jx dive"; (try k_fold)))
  (k_with "jx flyN" => (intro e9 h19 h9 g9 tk9 F9 U9 R9 G9; (try dsimp only); walk_at "jx diveN"; (try k_fold)))
  (k_with "jx diveN" => skip)
  (k_with "jx fly" => (intro e9 t9 xs9 h19 h9 g9 tk9 F9 U9 R9 G9; (try dsimp only); walk_at "jx dive"; (try k_fold)))
  (k_with "jx dec" => first | assumption | decide | (simp only [List.size_toArray, List.length_append, List.length_cons, List.length_nil, bne_iff_ne, ne_eq, beq_iff_eq, Bool.not_eq_true, Decidable.not_not, decide_eq_true_eq, decide_eq_false_iff_not, Bool.not_true, Bool.not_false, reduceCtorEq, not_false_eq_true, not_true_eq_false]; done) | (simp only [List.size_toArray, List.length_append, List.length_cons, List.length_nil, bne_iff_ne, ne_eq, beq_iff_eq, Bool.not_eq_true, Decidable.not_not, decide_eq_true_eq, decide_eq_false_iff_not]; omega))
  (k_with "ite" => (k_here; first | rw [if_pos (by walk_at "jx dec")] | rw [if_neg (by walk_at "jx dec")]))
  exact trivial
noncomputable abbrev Tell0 (d : Nat) (w : World) (f : Addr) (vs : List Value) (R : Value → Prop) : Prop :=
  ∀ (mean : ExcName → Option Value) (mg mb : Str → Option Value) (dp un : Nat) (gd : Option (List Code)) (cn : Str) (cs : Scope) (a : Addr) (ccd : Value) (cl : List (Str × Addr)) (outer : List Env) (A₀ : Around) (base h₀ : Heap) (L : Addr) (m : Str → Option Value) (news : List (Addr × Obj)) (s : Shared) (Q E : Value → Shared → Prop),
    At w d mean mg mb dp un cs outer A₀ base h₀ L m news s.heap →
    (∀ v h' tk', R v → Fr h₀ L h' m → News h₀ L h' news → Q v { s with heap := h', toks := tk' }) →
    wpAny (model rw_.prog w) (ktrTop dp un gd cn cs L a ccd cl outer) (call (.ref f) vs) Q E s
noncomputable abbrev Raises0 (d : Nat) (w : World) (f : Addr) (vs : List Value) (cls : Value) : Prop :=
  ∀ (mean : ExcName → Option Value) (mg mb : Str → Option Value) (dp un : Nat) (gd : Option (List Code)) (cn : Str) (cs : Scope) (a : Addr) (ccd : Value) (cl : List (Str × Addr)) (outer : List Env) (A₀ : Around) (base h₀ : Heap) (L : Addr) (m : Str → Option Value) (news : List (Addr × Obj)) (s : Shared) (Q E : Value → Shared → Prop),
    At w d mean mg mb dp un cs outer A₀ base h₀ L m news s.heap →
    (∀ e t xs h₁ h' tk', Fr h₀ L h₁ m → h₁.UpToSlots h' → RaisedK base (envX cn cs L a ccd cl :: outer) e cls t xs news h' → E (.ref e) { s with heap := h', toks := tk' }) →
    wpAny (model rw_.prog w) (ktrTop dp un gd cn cs L a ccd cl outer) (call (.ref f) vs) Q E s
noncomputable abbrev TellT0 (d : Nat) (w : World) (f : Addr) (vs : List Value) (R : Value → Prop) : Prop :=
  ∀ (mean : ExcName → Option Value) (mg mb : Str → Option Value) (dp un : Nat) (gd : Option (List Code)) (cn : Str) (cs : Scope) (a : Addr) (ccd : Value) (cl : List (Str × Addr)) (A₀ : Around) (h₀ : Heap) (L : Addr) (m : Str → Option Value) (news : List (Addr × Obj)) (s : Shared) (Q E : Value → Shared → Prop),
    At w d mean mg mb dp un cs [] A₀ h₀ h₀ L m news s.heap →
    (∀ v h' tk', R v → Fr h₀ L h' m → News h₀ L h' news → Q v { s with heap := h', toks := tk' }) →
    wpAny (model rw_.prog w) (ktrTop dp un gd cn cs L a ccd cl []) (call (.ref f) vs) Q E s
section
variable {d : Nat} {w : World} {f : Addr} {vs : List Value} {R : Value → Prop} {cls : Value} {mean : ExcName → Option Value} {mg mb : Str → Option Value} {dp un : Nat} {gd : Option (List Code)} {cn : Str} {cs : Scope} {a : Addr} {ccd : Value} {cl : List (Str × Addr)} {outer : List Env} {A₀ : Around} {base h₀ : Heap} {L : Addr} {m : Str → Option Value} {news : List (Addr × Obj)} {s : Shared} {Q E : Value → Shared → Prop}
theorem Tell0.use (C : Tell0 d w f vs R) (B : Below A₀ base outer h₀) (F : Fr h₀ L s.heap m) (X : (kfrag w.params).In h₀) (N : News h₀ L s.heap news) (T : ctxTop mean mg mb h₀) (hk : cs.kind = .function) (hd : dp + d < recursionLimit) (hu : un + 8 * d < cLine)
    (ret : ∀ v h' tk', R v → Fr h₀ L h' m → News h₀ L h' news → Q v { s with heap := h', toks := tk' }) :
    wpAny (model rw_.prog w) (ktrTop dp un gd cn cs L a ccd cl outer) (call (.ref f) vs) Q E s := by
  refine C mean mg mb dp un gd cn cs a ccd cl outer A₀ base h₀ L m news s Q E ⟨B, F, X, N, T, hk, hd, hu⟩ ?_
  exact ret
theorem Raises0.use (C : Raises0 d w f vs cls) (B : Below A₀ base outer h₀) (F : Fr h₀ L s.heap m) (X : (kfrag w.params).In h₀) (N : News h₀ L s.heap news) (T : ctxTop mean mg mb h₀) (hk : cs.kind = .function) (hd : dp + d < recursionLimit) (hu : un + 8 * d < cLine)
    (ret : ∀ e t xs h₁ h' tk', Fr h₀ L h₁ m → h₁.UpToSlots h' → RaisedK base (envX cn cs L a ccd cl :: outer) e cls t xs news h' → E (.ref e) { s with heap := h', toks := tk' }) :
    wpAny (model rw_.prog w) (ktrTop dp un gd cn cs L a ccd cl outer) (call (.ref f) vs) Q E s := by
  refine C mean mg mb dp un gd cn cs a ccd cl outer A₀ base h₀ L m news s Q E ⟨B, F, X, N, T, hk, hd, hu⟩ ?_
  exact ret
theorem TellT0.use (C : TellT0 d w f vs R) (B : Below A₀ h₀ [] h₀) (F : Fr h₀ L s.heap m) (X : (kfrag w.params).In h₀) (N : News h₀ L s.heap news) (T : ctxTop mean mg mb h₀) (hk : cs.kind = .function) (hd : dp + d < recursionLimit) (hu : un + 8 * d < cLine)
    (ret : ∀ v h' tk', R v → Fr h₀ L h' m → News h₀ L h' news → Q v { s with heap := h', toks := tk' }) :
    wpAny (model rw_.prog w) (ktrTop dp un gd cn cs L a ccd cl []) (call (.ref f) vs) Q E s := by
  refine C mean mg mb dp un gd cn cs a ccd cl A₀ h₀ L m news s Q E ⟨B, F, X, N, T, hk, hd, hu⟩ ?_
  exact ret
end
end
-- JxVal
section
theorem jxVal_rows1 : True := by
  k_with_none
  (k_with "jx gg" => first | exact GG.refl _ | assumption | (refine GG.trans ?_ (by assumption); walk_at "jx gg"))
  (k_with "jx asks" => ((case k1 => k_asm); (case k2 => k_asm); (case k3 => k_asm); (case k4 => k_asm); (case k5 => k_asm); (case k6 => first | exact rfl | assumption); (case k7 => ktr_room); (case k8 => ktr_units)))
  (k_with "jx ne" => first | assumption | exact List.forall_mem_nil _ | (refine List.forall_mem_cons.mpr ⟨(by first | assumption | exact fun p9 z9 => absurd (congrArg Obj.cls z9) (by intro y9; cases y9) | exact notTab_cell (by assumption)), ?_⟩; walk_at "jx ne"))
  (k_with "jx backP" => (intro v9 ps9 h9 g9 tk9 R9 t9P F9 N9 G9; (first | (obtain ⟨t9, e9⟩ := R9; subst e9) | subst R9); (try dsimp only); (try k_sweep); (try k_fold)))
  (k_with "jx back" => (intro v9 h9 g9 tk9 R9 F9 N9 G9; (first | (obtain ⟨t9, e9⟩ := R9; subst e9) | subst R9); (try dsimp only); (try k_sweep); (try k_fold)))
  (k_with "jx back0" => (intro v9 h9 tk9 R9 F9 N9; (first | (obtain ⟨t9, e9⟩ := R9; subst e9) | subst R9); (try dsimp only); (try k_sweep); (try k_fold)))
  (k_with "jx dive" => skip)
  (k_with "jx fly0" => (intro e9 t9 xs9 h19 h9 tk9 F9 U9 R9; (try dsimp only); walk_at "jx dive"; (try k_fold)))
  (k_with "jx flyN" => (intro e9 h19 h9 g9 tk9 F9 U9 R9 G9; (try dsimp only); walk_at "jx diveN"; (try k_fold)))
  (k_with "jx diveN" => skip)
  (k_with "jx fly" => (intro e9 t9 xs9 h19 h9 g9 tk9 F9 U9 R9 G9; (try dsimp only); walk_at "jx dive"; (try k_fold)))
  (k_with "jx dec" => first | assumption | decide | (simp only [List.size_toArray, List.length_append, List.length_cons, List.length_nil, bne_iff_ne, ne_eq, beq_iff_eq, Bool.not_eq_true, Decidable.not_not, decide_eq_true_eq, decide_eq_false_iff_not, Bool.not_true, Bool.not_false, reduceCtorEq, not_false_eq_true, not_true_eq_false]; done) | (simp only [List.size_toArray, List.length_append, List.length_cons, List.length_nil, bne_iff_ne, ne_eq, beq_iff_eq, Bool.not_eq_true, Decidable.not_not, decide_eq_true_eq, decide_eq_false_iff_not]; omega))
  (k_with "ite" => (k_here; first | rw [if_pos (by walk_at "jx dec")] | rw [if_neg (by walk_at "jx dec")]))
  exact trivial
theorem jxVal_rows2 : True := by
  (k_with "pyReprObj type:str" => refine repr_str_type ?_)
  exact trivial
theorem vbytes_ok (w : World) (l : List UInt8) (t1 : Tok) : Tell0 1 w 156 [.bytes l.toArray t1] (fun v => v = .none) := by
  unfold Tell0
  refine (show (kfrag = kfrag → _) → _ from fun hh => hh rfl) ?_
  k_fill
  w_on
  intro _
  intro mean mg mb dp un gd cn cs a ccd cl outer A₀ base h₀ L m news s Q E ⟨B, F, X, N, T, hk, hd, hu⟩ hret
  refine wpAny_call (code_def (name := Str.ofString "validate_is_bytes") (params := fnP24) (body := fnB24) (scope := fnS24) (binds := [(Str.ofString "value", .bytes l.toArray t1)]) B F X N T rfl rfl hk (by k_is) (by k_is) (by ktr_room) (BindsTo.of_eq rfl) (locs rfl) ?_ rfl rfl rfl (by decide))
  intro g' L' h' FG' F' N' B' X' T'
  dsimp only [fnB24, fnS24, List.length, List.reverse, List.reverseAux] at F' ⊢

  k_fold
  k_steps
  all_goals cell_end hret 0 0
theorem vbytes_bad (w : World) (x : Str) (t1 : Tok) : Raises0 1 w 156 [.str x t1] (.ref 101) := by
  unfold Raises0
  refine (show (kfrag = kfrag → _) → _ from fun hh => hh rfl) ?_
  k_fill
  w_on
  intro _
  intro mean mg mb dp un gd cn cs a ccd cl outer A₀ base h₀ L m news s Q E ⟨B, F, X, N, T, hk, hd, hu⟩ hret
  refine wpAny_call (code_def (name := Str.ofString "validate_is_bytes") (params := fnP24) (body := fnB24) (scope := fnS24) (binds := [(Str.ofString "value", .str x t1)]) B F X N T rfl rfl hk (by k_is) (by k_is) (by ktr_room) (BindsTo.of_eq rfl) (locs rfl) ?_ rfl rfl rfl (by decide))
  intro g' L' h' FG' F' N' B' X' T'
  dsimp only [fnB24, fnS24, List.length, List.reverse, List.reverseAux] at F' ⊢

  k_fold
  k_steps
  all_goals cell_end hret 0 0
theorem vlen_ok (w : World) (l : List UInt8) (t1 t2 : Tok) (n : Int) (hb : (l.length : Int) = n) (hz : l.length ≤ 4000) : Tell0 1 w 163 [.bytes l.toArray t1, .int n t2] (fun v => v = .none) := by
  unfold Tell0
  refine (show (kfrag = kfrag → _) → _ from fun hh => hh rfl) ?_
  k_fill
  w_on
  intro _
  intro mean mg mb dp un gd cn cs a ccd cl outer A₀ base h₀ L m news s Q E ⟨B, F, X, N, T, hk, hd, hu⟩ hret
  refine wpAny_call (code_def (name := Str.ofString "validate_length") (params := fnP25) (body := fnB25) (scope := fnS25) (binds := [(Str.ofString "value", .bytes l.toArray t1), (Str.ofString "length", .int n t2)]) B F X N T rfl rfl hk (by k_is) (by k_is) (by ktr_room) (BindsTo.of_eq rfl) (locs rfl) ?_ rfl rfl rfl (by decide))
  intro g' L' h' FG' F' N' B' X' T'
  dsimp only [fnB25, fnS25, List.length, List.reverse, List.reverseAux] at F' ⊢

  k_fold
  k_steps
  all_goals cell_end hret 0 0
theorem vlen_bad (w : World) (l : List UInt8) (t1 t2 : Tok) (n : Int) (hb : (l.length : Int) ≠ n) (hz : l.length ≤ 4000) (hn : 0 ≤ n ∧ n ≤ 4000) : Raises0 1 w 163 [.bytes l.toArray t1, .int n t2] (.ref 101) := by
  unfold Raises0
  refine (show (kfrag = kfrag → _) → _ from fun hh => hh rfl) ?_
  k_fill
  w_on
  intro _
  intro mean mg mb dp un gd cn cs a ccd cl outer A₀ base h₀ L m news s Q E ⟨B, F, X, N, T, hk, hd, hu⟩ hret
  refine wpAny_call (code_def (name := Str.ofString "validate_length") (params := fnP25) (body := fnB25) (scope := fnS25) (binds := [(Str.ofString "value", .bytes l.toArray t1), (Str.ofString "length", .int n t2)]) B F X N T rfl rfl hk (by k_is) (by k_is) (by ktr_room) (BindsTo.of_eq rfl) (locs rfl) ?_ rfl rfl rfl (by decide))
  intro g' L' h' FG' F' N' B' X' T'
  dsimp only [fnB25, fnS25, List.length, List.reverse, List.reverseAux] at F' ⊢

  k_fold
  k_steps

  all_goals cell_end hret 0 0
end
-- JxParse
section
theorem jxParse_rows1 : True := by
  k_with_none
  (k_with "jx gg" => first | exact GG.refl _ | assumption | (refine GG.trans ?_ (by assumption); walk_at "jx gg"))
  (k_with "jx asks" => ((case k1 => k_asm); (case k2 => k_asm); (case k3 => k_asm); (case k4 => k_asm); (case k5 => k_asm); (case k6 => first | exact rfl | assumption); (case k7 => ktr_room); (case k8 => ktr_units)))
  (k_with "jx ne" => first | assumption | exact List.forall_mem_nil _ | (refine List.forall_mem_cons.mpr ⟨(by first | assumption | exact fun p9 z9 => absurd (congrArg Obj.cls z9) (by intro y9; cases y9) | exact notTab_cell (by assumption)), ?_⟩; walk_at "jx ne"))
  (k_with "jx backP" => (intro v9 ps9 h9 g9 tk9 R9 t9P F9 N9 G9; (first | (obtain ⟨t9, e9⟩ := R9; subst e9) | subst R9); (try dsimp only); (try k_sweep); (try k_fold)))
  (k_with "jx back" => (intro v9 h9 g9 tk9 R9 F9 N9 G9; (first | (obtain ⟨t9, e9⟩ := R9; subst e9) | subst R9); (try dsimp only); (try k_sweep); (try k_fold)))
  (k_with "jx back0" => (intro v9 h9 tk9 R9 F9 N9; (first | (obtain ⟨t9, e9⟩ := R9; subst e9) | subst R9); (try dsimp only); (try k_sweep); (try k_fold)))
  (k_with "jx dive" => skip)
  (k_with "jx fly0" => (intro e9 t9 xs9 h19 h9 tk9 F9 U9 R9; (try dsimp only); walk_at "jx dive"; (try k_fold)))
  (k_with "jx flyN" => (intro e9 h19 h9 g9 tk9 F9 U9 R9 G9; (try dsimp only); walk_at "jx diveN"; (try k_fold)))
  (k_with "jx diveN" => skip)
  (k_with "jx fly" => (intro e9 t9 xs9 h19 h9 g9 tk9 F9 U9 R9 G9; (try dsimp only); walk_at "jx dive"; (try k_fold)))
  (k_with "jx dec" => first | assumption | decide | (simp only [List.size_toArray, List.length_append, List.length_cons, List.length_nil, bne_iff_ne, ne_eq, beq_iff_eq, Bool.not_eq_true, Decidable.not_not, decide_eq_true_eq, decide_eq_false_iff_not, Bool.not_true, Bool.not_false, reduceCtorEq, not_false_eq_true, not_true_eq_false]; done) | (simp only [List.size_toArray, List.length_append, List.length_cons, List.length_nil, bne_iff_ne, ne_eq, beq_iff_eq, Bool.not_eq_true, Decidable.not_not, decide_eq_true_eq, decide_eq_false_iff_not]; omega))
  (k_with "ite" => (k_here; first | rw [if_pos (by walk_at "jx dec")] | rw [if_neg (by walk_at "jx dec")]))
  exact trivial
theorem jxParse_rows2 : True := by
  (k_with "jx cut" => with_reducible first | exact cutL_from _ _ | exact cutL_to _ _ | exact cutL_mid _ _ _ | exact cutL_last _ _ (by decide) | exact cutL_but _ _ _ (by decide) | exact cut_all _ | exact cut_from _ _ | exact cut_to _ _ | exact cut_mid _ _ _)
  (k_with "jx len" => first | omega | (simp only [List.length_append, List.length_cons, List.length_nil, List.length_take, List.length_drop, List.length_replicate, List.length_map, List.length_reverse]; omega))
  (k_with "binaryOp Add bytes bytes" => (k_here; (with_reducible show wpAny _ _ (binaryOp Operator.Add (Value.bytes (List.toArray _) _) (Value.bytes (List.toArray _) _)) _ _ _); (refine jb_add (by walk_at "jx len") ?_); intro _ _))
  (k_with "call builtin:len" => (k_here; (with_reducible show wpAny _ _ (call (Value.builtin "len") [Value.bytes (List.toArray _) _]) _ _ _); (refine jb_len (by walk_at "jx len") ?_); intro _ _))
  (k_with "compareOp Eq bytes bytes" => refine jb_eq ?_)
  (k_with "compareOp NotEq bytes bytes" => refine jb_ne ?_)
  (k_with "subscriptTail" => (k_here; (with_reducible show wpAny _ _ (subscriptTail _ (Expr.Slice _ _ none _) (Value.bytes (List.toArray _) _) (Value.ref _)) _ _ _); (with_reducible rename Fr _ _ _ _ => F'); (with_reducible rename News _ _ _ _ => N'); (refine jb_slice (s := ⟨_, _, _, _, _⟩) F' N' (by constructor) (by constructor) (by walk_at "jx len") (by walk_at "jx cut") ?_); intro _ _ _ _ _))
  (k_with "subscriptTail" => (k_here; (with_reducible show wpAny _ _ (subscriptTail _ _ (Value.bytes (List.toArray _) _) (Value.int _ _)) _ _ _); (refine KBy.item_N (by walk_at "jx len") (by walk_at "jx len") (by walk_at "jx len") ?_)))
  (k_with "eval Constant int" => (k_here; refine wpAny_Constant_int ?_; (try dsimp only)))
  (k_with "jx len" => first | omega | (simp only [List.length_append, List.length_cons, List.length_nil, List.length_take, List.length_drop, List.length_replicate, List.length_map]; omega))
  (k_with "call ref" => (k_here; (with_reducible show wpAny _ _ (call (Value.ref 156) [Value.bytes (List.toArray _) _]) _ _ _); (refine' Tell0.use (vbytes_ok _ _ _) ?k1 ?k2 ?k3 ?k4 ?k5 ?k6 ?k7 ?k8 ?_; walk_at "jx asks"); walk_at "jx back0"))
  (k_with "call ref" => (k_here; (with_reducible show wpAny _ _ (call (Value.ref 156) [Value.str _ _]) _ _ _); (refine' Raises0.use (vbytes_bad _ _ _) ?k1 ?k2 ?k3 ?k4 ?k5 ?k6 ?k7 ?k8 ?_; walk_at "jx asks"); walk_at "jx fly0"))
  (k_with "call ref" => (k_here; (with_reducible show wpAny _ _ (call (Value.ref 163) [Value.bytes (List.toArray _) _, Value.int _ _]) _ _ _); (refine' Raises0.use (vlen_bad _ _ _ _ _ (by walk_at "jx len") (by walk_at "jx len") (by omega)) ?k1 ?k2 ?k3 ?k4 ?k5 ?k6 ?k7 ?k8 ?_; walk_at "jx asks"); walk_at "jx fly0"))
  (k_with "call ref" => (k_here; (with_reducible show wpAny _ _ (call (Value.ref 163) [Value.bytes (List.toArray _) _, Value.int _ _]) _ _ _); (refine' Tell0.use (vlen_ok _ _ _ _ _ (by walk_at "jx len") (by walk_at "jx len")) ?k1 ?k2 ?k3 ?k4 ?k5 ?k6 ?k7 ?k8 ?_; walk_at "jx asks"); walk_at "jx back0"))
  (k_with "call ref" => (k_here; (with_reducible show wpAny _ _ (call (Value.ref 149) [Value.bytes (List.toArray _) _]) _ _ _); (refine' dec_use ?x1 ?x2 ?k1 ?k2 ?k3 ?k4 ?k5 ?k6 ?k7 ?k8 ?_ ?_; (case x1 => walk_at "jx len"); (case x2 => walk_at "jx len"); walk_at "jx asks"); (intro p9 t9 hp9 h9 g9 tk9 F9 N9 G9; (try dsimp only); (try k_sweep); (try k_fold)); rotate_left; (intro hp9; walk_at "jx flyN"); rotate_left))
  exact trivial
theorem parse_e (o : List UInt8) (h : ¬ (o == []) = true) : o ≠ [] := fun e => h (by rw [e]; rfl)
theorem jxParse_rows3 : True := by
  (k_with "jx way" => (unfold parseR; (repeat' split) <;> first | rfl | (exfalso; simp_all; done) | (exfalso; (simp only [Int.toNat_zero] at *); omega) | (simp_all; done) | (exfalso; (simp_all); omega)))
  exact trivial
theorem kv_eq {o p : List UInt8} (hne : o ≠ []) (q2 : ((o.getD (Int.toNat 0) 0).toNat : Int) = 0) (q3 : ¬ (o.length : Int) ≤ 33) (hp : dec ((o.take (o.length - 32)).drop 1) = some p) : parseR o = .kv p (o.drop (o.length - 32)) := by
  have q2 : ((o.getD 0 0).toNat : Int) = 0 := q2
  unfold parseR
  rw [if_neg hne, if_neg (by omega), if_pos (by omega), if_neg (by omega), hp]
theorem parse_cons (w : World) (o : List UInt8) (t1 : Tok) (h0 : 0 < o.length) (hb : ¬ (o == []) = true) (hz : o.length ≤ 3000) : Does 8 w 170 [.bytes o.toArray t1] (Parsed (parseR o)) (fun cls => parseR o = .node ∧ cls = .ref 88) (parseR o = .path) := by
  have hne := parse_e o hb
  unfold Does
  refine (show (kfrag = kfrag → _) → _ from fun hh => hh rfl) ?_
  k_fill
  w_on
  intro _
  intro mean mg mb dp un gd cn cs a ccd cl outer A₀ base h₀ L m news s Q E ⟨B, F, X, N, T, hk, hd, hu⟩ hret hfly hflyN
  refine wpAny_call (code_def (name := Str.ofString "parse_node") (params := fnP27) (body := fnB27) (scope := fnS27) (binds := [(Str.ofString "node", .bytes o.toArray t1)]) B F X N T rfl rfl hk (by k_is) (by k_is) (by ktr_room) (BindsTo.of_eq rfl) (locs rfl) ?_ rfl rfl rfl (by decide))
  intro g' L' h' FG' F' N' B' X' T'
  dsimp only [fnB27, fnS27, List.length, List.reverse, List.reverseAux] at F' ⊢

  k_fold
  k_steps
  all_goals clear_value qk ek
  all_goals first
    | (refine' hfly _ _ _ _ _ _ _ _ ⟨?r0, rfl⟩ ?r1 ?r2 ?r3 ?r4; (case r3 => assumption); (case r2 => assumption); (case r1 => assumption); (case r4 => walk_at "jx gg"); (case r0 => walk_at "jx way"))
    | (refine' hflyN _ _ _ _ _ ?r0 ?r1 ?r2 ?r3 ?r4; (case r3 => assumption); (case r2 => assumption); (case r1 => assumption); (case r4 => walk_at "jx gg"); (case r0 => walk_at "jx way"))
    | (have e : parseR o = .br ((o.drop 1).take 32) (o.drop 33) := by walk_at "jx way"
       refine' hret _ [(_, _)] _ _ _ ?r1 ?r2 ?r3 ?r4; (case r2 => assumption); (case r3 => assumption); (case r4 => walk_at "jx gg"); (case r1 => rw [e]; exact ⟨_, _, _, _, rfl, rfl⟩))
    | (have e : parseR o = .leaf (o.drop 1) := by walk_at "jx way"
       refine' hret _ [(_, _)] _ _ _ ?r1 ?r2 ?r3 ?r4; (case r2 => assumption); (case r3 => assumption); (case r4 => walk_at "jx gg"); (case r1 => rw [e]; exact ⟨_, _, _, rfl, rfl⟩))
    | (have e := kv_eq hne (by assumption) (by assumption) (by assumption)
       refine' hret _ [(_, _)] _ _ _ ?r1 ?r2 ?r3 ?r4; (case r2 => assumption); (case r3 => assumption); (case r4 => walk_at "jx gg"); (case r1 => rw [e]; exact ⟨_, _, _, _, rfl, rfl⟩))
    | trace_state
theorem parse_nil (w : World) (t1 : Tok) : Does 8 w 170 [.bytes (List.toArray []) t1] (Parsed (parseR [])) (fun cls => parseR [] = .node ∧ cls = .ref 88) (parseR [] = .path) := by
  unfold Does
  refine (show (kfrag = kfrag → _) → _ from fun hh => hh rfl) ?_
  k_fill
  w_on
  intro _
  intro mean mg mb dp un gd cn cs a ccd cl outer A₀ base h₀ L m news s Q E ⟨B, F, X, N, T, hk, hd, hu⟩ hret hfly hflyN
  refine wpAny_call (code_def (name := Str.ofString "parse_node") (params := fnP27) (body := fnB27) (scope := fnS27) (binds := [(Str.ofString "node", .bytes (List.toArray []) t1)]) B F X N T rfl rfl hk (by k_is) (by k_is) (by ktr_room) (BindsTo.of_eq rfl) (locs rfl) ?_ rfl rfl rfl (by decide))
  intro g' L' h' FG' F' N' B' X' T'
  dsimp only [fnB27, fnS27, List.length, List.reverse, List.reverseAux] at F' ⊢

  k_fold
  k_steps
  all_goals clear_value qk ek
  all_goals (refine' hfly _ _ _ _ _ _ _ _ ⟨?r0, rfl⟩ ?r1 ?r2 ?r3 ?r4; (case r3 => assumption); (case r2 => assumption); (case r1 => assumption); (case r4 => walk_at "jx gg"); (case r0 => rfl))
theorem parse_ok (w : World) (o : List UInt8) (t1 : Tok) (hz : o.length ≤ 3000) : Does 8 w 170 [.bytes o.toArray t1] (Parsed (parseR o)) (fun cls => parseR o = .node ∧ cls = .ref 88) (parseR o = .path) := by
  cases o with
  | nil => exact parse_nil w t1
  | cons c r => exact parse_cons w (c :: r) t1 (by simp) (by simp) hz
section
variable {w : World} {mean : ExcName → Option Value} {mg mb : Str → Option Value} {dp un : Nat} {gd : Option (List Code)} {cn : Str} {cs : Scope} {a : Addr} {ccd : Value} {cl : List (Str × Addr)} {outer : List Env} {A₀ : Around} {base h₀ : Heap} {L : Addr} {m : Str → Option Value} {news : List (Addr × Obj)} {s : Shared} {Q E : Value → Shared → Prop}
theorem parse_use {o : List UInt8} {t1 : Tok} (hz : o.length ≤ 3000) (B : Below A₀ base outer h₀) (F : Fr h₀ L s.heap m) (X : (kfrag w.params).In h₀) (N : News h₀ L s.heap news) (T : ctxTop mean mg mb h₀) (hk : cs.kind = .function) (hd : dp + 8 < recursionLimit) (hu : un + 8 * 8 < cLine)
    (kv : ∀ p c a t1 t2 t3, parseR o = .kv p c → RetOk h₀ L m ((a, tup3 (.int 0 t1) (.bytes p.toArray t2) (.bytes c.toArray t3)) :: news) s Q (.ref a))
    (br : ∀ p c a t1 t2 t3, parseR o = .br p c → RetOk h₀ L m ((a, tup3 (.int 1 t1) (.bytes p.toArray t2) (.bytes c.toArray t3)) :: news) s Q (.ref a))
    (leaf : ∀ c a t1 t3, parseR o = .leaf c → RetOk h₀ L m ((a, tup3 (.int 2 t1) .none (.bytes c.toArray t3)) :: news) s Q (.ref a))
    (node : parseR o = .node → FlyOk base (envX cn cs L a ccd cl :: outer) h₀ L m news s E (.ref 88))
    (path : parseR o = .path → FlyOkN base (envX cn cs L a ccd cl :: outer) h₀ L m news s E) :
    wpAny (model rw_.prog w) (ktrTop dp un gd cn cs L a ccd cl outer) (call (.ref 170) [.bytes o.toArray t1]) Q E s :=
  Does.use (parse_ok w o t1 hz) B F X N T hk hd hu (fun v ex h' g' tk' r F N G => by
      cases e : parseR o with
      | kv p c => rw [e] at r; obtain ⟨a, t1, t2, t3, rfl, rfl⟩ := r; exact kv p c a t1 t2 t3 e _ _ _ F N G
      | br p c => rw [e] at r; obtain ⟨a, t1, t2, t3, rfl, rfl⟩ := r; exact br p c a t1 t2 t3 e _ _ _ F N G
      | leaf c => rw [e] at r; obtain ⟨a, t1, t3, rfl, rfl⟩ := r; exact leaf c a t1 t3 e _ _ _ F N G
      | node => rw [e] at r; exact r.elim
      | path => rw [e] at r; exact r.elim)
    (fun _ _ _ _ _ _ _ _ x F U R G => by
      obtain ⟨e, rfl⟩ := x
      exact node e _ _ _ _ _ _ _ F U R G)
    (fun _ _ _ _ _ x F U R G => path x _ _ _ _ _ F U R G)
end
end
-- JxPar
section
theorem jxPar_rows1 : True := by
  k_with_none
  (k_with "jx gg" => first | exact GG.refl _ | assumption | (refine GG.trans ?_ (by assumption); walk_at "jx gg"))
  (k_with "jx asks" => ((case k1 => k_asm); (case k2 => k_asm); (case k3 => k_asm); (case k4 => k_asm); (case k5 => k_asm); (case k6 => first | exact rfl | assumption); (case k7 => ktr_room); (case k8 => ktr_units)))
  (k_with "jx ne" => first | assumption | exact List.forall_mem_nil _ | (refine List.forall_mem_cons.mpr ⟨(by first | assumption | exact fun p9 z9 => absurd (congrArg Obj.cls z9) (by intro y9; cases y9) | exact notTab_cell (by assumption)), ?_⟩; walk_at "jx ne"))
  (k_with "jx backP" => (intro v9 ps9 h9 g9 tk9 R9 t9P F9 N9 G9; (first | (obtain ⟨t9, e9⟩ := R9; subst e9) | subst R9); (try dsimp only); (try k_sweep); (try k_fold)))
  (k_with "jx back" => (intro v9 h9 g9 tk9 R9 F9 N9 G9; (first | (obtain ⟨t9, e9⟩ := R9; subst e9) | subst R9); (try dsimp only); (try k_sweep); (try k_fold)))
  (k_with "jx back0" => (intro v9 h9 tk9 R9 F9 N9; (first | (obtain ⟨t9, e9⟩ := R9; subst e9) | subst R9); (try dsimp only); (try k_sweep); (try k_fold)))
  (k_with "jx dive" => skip)
  (k_with "jx fly0" => (intro e9 t9 xs9 h19 h9 tk9 F9 U9 R9; (try dsimp only); walk_at "jx dive"; (try k_fold)))
  (k_with "jx flyN" => (intro e9 h19 h9 g9 tk9 F9 U9 R9 G9; (try dsimp only); walk_at "jx diveN"; (try k_fold)))
  (k_with "jx diveN" => skip)
  (k_with "jx fly" => (intro e9 t9 xs9 h19 h9 g9 tk9 F9 U9 R9 G9; (try dsimp only); walk_at "jx dive"; (try k_fold)))
  (k_with "jx dec" => first | assumption | decide | (simp only [List.size_toArray, List.length_append, List.length_cons, List.length_nil, bne_iff_ne, ne_eq, beq_iff_eq, Bool.not_eq_true, Decidable.not_not, decide_eq_true_eq, decide_eq_false_iff_not, Bool.not_true, Bool.not_false, reduceCtorEq, not_false_eq_true, not_true_eq_false]; done) | (simp only [List.size_toArray, List.length_append, List.length_cons, List.length_nil, bne_iff_ne, ne_eq, beq_iff_eq, Bool.not_eq_true, Decidable.not_not, decide_eq_true_eq, decide_eq_false_iff_not]; omega))
  (k_with "ite" => (k_here; first | rw [if_pos (by walk_at "jx dec")] | rw [if_neg (by walk_at "jx dec")]))
  exact trivial
section
variable {w : World} {mean : ExcName → Option Value} {mg mb : Str → Option Value} {dp un : Nat} {gd : Option (List Code)} {cn : Str} {cs : Scope} {a : Addr} {ccd : Value} {cl : List (Str × Addr)} {outer : List Env} {A₀ : Around} {base h₀ : Heap} {L : Addr} {m : Str → Option Value} {news : List (Addr × Obj)} {s : Shared} {Q E : Value → Shared → Prop}
theorem parse_br_use {a' b' : List UInt8} {t1 : Tok} (ha : a'.length = 32) (hb : b'.length = 32) (B : Below A₀ base outer h₀) (F : Fr h₀ L s.heap m) (X : (kfrag w.params).In h₀) (N : News h₀ L s.heap news) (T : ctxTop mean mg mb h₀) (hk : cs.kind = .function) (hd : dp + 8 < recursionLimit) (hu : un + 8 * 8 < cLine)
    (ret : ∀ r t1 t2 t3, RetOk h₀ L m ((r, tup3 (.int 1 t1) (.bytes a'.toArray t2) (.bytes b'.toArray t3)) :: news) s Q (.ref r)) :
    wpAny (model rw_.prog w) (ktrTop dp un gd cn cs L a ccd cl outer) (call (.ref 170) [.bytes (1 :: (a' ++ b')).toArray t1]) Q E s := by
  have e := parse_br ha hb
  refine parse_use (o := 1 :: (a' ++ b')) (by rw [List.length_cons, List.length_append]; omega) B F X N T hk hd hu ?_ ?_ ?_ ?_ ?_
  · intro p c r t1 t2 t3 q; rw [e] at q; cases q
  · intro p c r t1 t2 t3 q; rw [e] at q; cases q; exact ret r t1 t2 t3
  · intro c r t1 t3 q; rw [e] at q; cases q
  · intro q; rw [e] at q; cases q
  · intro q; rw [e] at q; cases q
theorem parse_kv_use {k' c' : List UInt8} {t1 : Tok} (hk' : IsBits k') (hz' : k'.length ≤ 200) (hc : c'.length = 32) (B : Below A₀ base outer h₀) (F : Fr h₀ L s.heap m) (X : (kfrag w.params).In h₀) (N : News h₀ L s.heap news) (T : ctxTop mean mg mb h₀) (hk : cs.kind = .function) (hd : dp + 8 < recursionLimit) (hu : un + 8 * 8 < cLine)
    (ret : ∀ r t1 t2 t3, RetOk h₀ L m ((r, tup3 (.int 0 t1) (.bytes k'.toArray t2) (.bytes c'.toArray t3)) :: news) s Q (.ref r)) :
    wpAny (model rw_.prog w) (ktrTop dp un gd cn cs L a ccd cl outer) (call (.ref 170) [.bytes (0 :: (enc k' ++ c')).toArray t1]) Q E s := by
  have e := parse_kv hk' hc
  refine parse_use (o := 0 :: (enc k' ++ c')) (by rw [List.length_cons, List.length_append, enc_length]; omega) B F X N T hk hd hu ?_ ?_ ?_ ?_ ?_
  · intro p c r t1 t2 t3 q; rw [e] at q; cases q; exact ret r t1 t2 t3
  · intro p c r t1 t2 t3 q; rw [e] at q; cases q
  · intro c r t1 t3 q; rw [e] at q; cases q
  · intro q; rw [e] at q; cases q
  · intro q; rw [e] at q; cases q
theorem parse_leaf_use {o : List UInt8} {t1 : Tok} (h0 : o ≠ []) (hz : o.length ≤ 2000) (B : Below A₀ base outer h₀) (F : Fr h₀ L s.heap m) (X : (kfrag w.params).In h₀) (N : News h₀ L s.heap news) (T : ctxTop mean mg mb h₀) (hk : cs.kind = .function) (hd : dp + 8 < recursionLimit) (hu : un + 8 * 8 < cLine)
    (ret : ∀ r t1 t3, RetOk h₀ L m ((r, tup3 (.int 2 t1) .none (.bytes o.toArray t3)) :: news) s Q (.ref r)) :
    wpAny (model rw_.prog w) (ktrTop dp un gd cn cs L a ccd cl outer) (call (.ref 170) [.bytes (2 :: o).toArray t1]) Q E s := by
  have e := parse_leaf h0
  refine parse_use (o := 2 :: o) (by rw [List.length_cons]; omega) B F X N T hk hd hu ?_ ?_ ?_ ?_ ?_
  · intro p c r t1 t2 t3 q; rw [e] at q; cases q
  · intro p c r t1 t2 t3 q; rw [e] at q; cases q
  · intro c r t1 t3 q; rw [e] at q; cases q; exact ret r t1 t3
  · intro q; rw [e] at q; cases q
  · intro q; rw [e] at q; cases q
theorem make_len {A : Around} {D : Addr} {vs : List Value} {ns : List Int} (F : Fr h₀ L s.heap m) (N : News h₀ L s.heap news) (hh : A.handled = none) (hl : s.heap.IsList D vs.toArray) (hi : IntsAre vs ns) (hr : KBa.In ns) (hn : ns.length ≤ 300)
    (h : ∀ (b : List UInt8) h' t' k, b.length = ns.length → Fr h₀ L h' m → News h₀ L h' news → Q (.bytes b.toArray t') { s with heap := h', toks := k }) : wpAny (model rw_.prog w) A (call (.type "bytes") [.ref D]) Q E s :=
  KBa.make_K F N hh hl hi hr (Nat.le_trans hn (by decide)) fun h' t' k F' N' _ => by
    have q := h (byteArr ns).toList h' t' k (by unfold byteArr; simp) F' N'
    rw [Array.toArray_toList] at q
    exact q
theorem make_bits {A : Around} {D : Addr} {vs : List Value} {ns : List Int} (F : Fr h₀ L s.heap m) (N : News h₀ L s.heap news) (hh : A.handled = none) (hl : s.heap.IsList D vs.toArray) (hi : IntsAre vs ns) (hr : ∀ k ∈ ns, k = 0 ∨ k = 1) (hn : ns.length ≤ 300)
    (h : ∀ (b : List UInt8) h' t' k, IsBits b → b.length = ns.length → Fr h₀ L h' m → News h₀ L h' news → Q (.bytes b.toArray t') { s with heap := h', toks := k }) : wpAny (model rw_.prog w) A (call (.type "bytes") [.ref D]) Q E s :=
  KBa.make_K F N hh hl hi (fun k hk => by rcases hr k hk with rfl | rfl <;> decide) (Nat.le_trans hn (by decide)) fun h' t' k F' N' _ => by
    have q := h (byteArr ns).toList h' t' k (fun c hc => by
      unfold byteArr at hc
      rw [List.mem_map] at hc
      obtain ⟨n, hn, rfl⟩ := hc
      rcases hr n hn with rfl | rfl
      · exact .inl rfl
      · exact .inr rfl) (by unfold byteArr; simp) F' N'
    rw [Array.toArray_toList] at q
    exact q
end
end
-- JxLw0
section
theorem jxLw0_rows1 : True := by
  k_with_none
  (k_with "jx gg" => first | exact GG.refl _ | assumption | (refine GG.trans ?_ (by assumption); walk_at "jx gg"))
  (k_with "jx asks" => ((case k1 => k_asm); (case k2 => k_asm); (case k3 => k_asm); (case k4 => k_asm); (case k5 => k_asm); (case k6 => first | exact rfl | assumption); (case k7 => ktr_room); (case k8 => ktr_units)))
  (k_with "jx ne" => first | assumption | exact List.forall_mem_nil _ | (refine List.forall_mem_cons.mpr ⟨(by first | assumption | exact fun p9 z9 => absurd (congrArg Obj.cls z9) (by intro y9; cases y9) | exact notTab_cell (by assumption)), ?_⟩; walk_at "jx ne"))
  (k_with "jx backP" => (intro v9 ps9 h9 g9 tk9 R9 t9P F9 N9 G9; (first | (obtain ⟨t9, e9⟩ := R9; subst e9) | subst R9); (try dsimp only); (try k_sweep); (try k_fold)))
  (k_with "jx back" => (intro v9 h9 g9 tk9 R9 F9 N9 G9; (first | (obtain ⟨t9, e9⟩ := R9; subst e9) | subst R9); (try dsimp only); (try k_sweep); (try k_fold)))
  (k_with "jx back0" => (intro v9 h9 tk9 R9 F9 N9; (first | (obtain ⟨t9, e9⟩ := R9; subst e9) | subst R9); (try dsimp only); (try k_sweep); (try k_fold)))
  (k_with "jx dive" => skip)
  (k_with "jx fly0" => (intro e9 t9 xs9 h19 h9 tk9 F9 U9 R9; (try dsimp only); walk_at "jx dive"; (try k_fold)))
  (k_with "jx flyN" => (intro e9 h19 h9 g9 tk9 F9 U9 R9 G9; (try dsimp only); walk_at "jx diveN"; (try k_fold)))
  (k_with "jx diveN" => skip)
  (k_with "jx fly" => (intro e9 t9 xs9 h19 h9 g9 tk9 F9 U9 R9 G9; (try dsimp only); walk_at "jx dive"; (try k_fold)))
  (k_with "jx dec" => first | assumption | decide | (simp only [List.size_toArray, List.length_append, List.length_cons, List.length_nil, bne_iff_ne, ne_eq, beq_iff_eq, Bool.not_eq_true, Decidable.not_not, decide_eq_true_eq, decide_eq_false_iff_not, Bool.not_true, Bool.not_false, reduceCtorEq, not_false_eq_true, not_true_eq_false]; done) | (simp only [List.size_toArray, List.length_append, List.length_cons, List.length_nil, bne_iff_ne, ne_eq, beq_iff_eq, Bool.not_eq_true, Decidable.not_not, decide_eq_true_eq, decide_eq_false_iff_not]; omega))
  (k_with "ite" => (k_here; first | rw [if_pos (by walk_at "jx dec")] | rw [if_neg (by walk_at "jx dec")]))
  exact trivial
theorem jxLw0_rows2 : True := by
  (k_with "jx cut" => with_reducible first | exact cutL_from _ _ | exact cutL_to _ _ | exact cutL_mid _ _ _ | exact cutL_last _ _ (by decide) | exact cutL_but _ _ _ (by decide) | exact cut_all _ | exact cut_from _ _ | exact cut_to _ _ | exact cut_mid _ _ _)
  (k_with "jx len" => first | omega | (simp only [List.length_append, List.length_cons, List.length_nil, List.length_take, List.length_drop, List.length_replicate, List.length_map, List.length_reverse]; omega))
  (k_with "binaryOp Add bytes bytes" => (k_here; (with_reducible show wpAny _ _ (binaryOp Operator.Add (Value.bytes (List.toArray _) _) (Value.bytes (List.toArray _) _)) _ _ _); (refine jb_add (by walk_at "jx len") ?_); intro _ _))
  (k_with "call builtin:len" => (k_here; (with_reducible show wpAny _ _ (call (Value.builtin "len") [Value.bytes (List.toArray _) _]) _ _ _); (refine jb_len (by walk_at "jx len") ?_); intro _ _))
  (k_with "compareOp Eq bytes bytes" => refine jb_eq ?_)
  (k_with "compareOp NotEq bytes bytes" => refine jb_ne ?_)
  (k_with "subscriptTail" => (k_here; (with_reducible show wpAny _ _ (subscriptTail _ (Expr.Slice _ _ none _) (Value.bytes (List.toArray _) _) (Value.ref _)) _ _ _); (with_reducible rename Fr _ _ _ _ => F'); (with_reducible rename News _ _ _ _ => N'); (refine jb_slice (s := ⟨_, _, _, _, _⟩) F' N' (by constructor) (by constructor) (by walk_at "jx len") (by walk_at "jx cut") ?_); intro _ _ _ _ _))
  (k_with "subscriptTail" => (k_here; (with_reducible show wpAny _ _ (subscriptTail _ _ (Value.bytes (List.toArray _) _) (Value.int _ _)) _ _ _); (refine KBy.item_N (by walk_at "jx len") (by walk_at "jx len") (by walk_at "jx len") ?_)))
  (k_with "eval Constant int" => (k_here; refine wpAny_Constant_int ?_; (try dsimp only)))
  (k_with "jx var" => first | with_reducible assumption | (refine (if_neg (by decide +kernel)).trans ?_; walk_at "jx var") | exact if_pos rfl)
  (k_with "eval Name" => (k_here; (refine' nameX_L ?F ?v ?_ ?a ?b; (case F => k_asm); (case a => rfl); (case b => rfl); (case v => walk_at "jx var"); k_whole)))
  (k_with "jx drop" => first | (with_reducible assumption) | ((with_reducible rename News _ _ _ _ => nn9); exact fun q9 hq9 => nn9 q9 (by repeat' (first | exact hq9 | apply List.Mem.tail))))
  exact trivial
theorem bit_abs (l : List Int) : ∀ k ∈ l.map (fun k' => ((if k' < 0 then -k' else k')).fmod 2), k = 0 ∨ k = 1 := fun k hk => by
  obtain ⟨y, _, rfl⟩ := List.mem_map.mp hk
  have h0 := Int.fmod_nonneg_of_pos (if y < 0 then -y else y) (show (0 : Int) < 2 by decide)
  have h1 := Int.fmod_lt_of_pos (if y < 0 then -y else y) (show (0 : Int) < 2 by decide)
  omega
theorem bit_abs3 (l : List Int) : ∀ k ∈ l.map (fun k' => ((if k' < 0 then -k' else k').fdiv 3).fmod 2), k = 0 ∨ k = 1 := fun k hk => by
  obtain ⟨y, _, rfl⟩ := List.mem_map.mp hk
  have h0 := Int.fmod_nonneg_of_pos ((if y < 0 then -y else y).fdiv 3) (show (0 : Int) < 2 by decide)
  have h1 := Int.fmod_lt_of_pos ((if y < 0 then -y else y).fdiv 3) (show (0 : Int) < 2 by decide)
  omega
theorem len63 (f : Int → Int) (ns : List Int) : ((List.take 63 ns).map f).length ≤ 300 := by rw [List.length_map, List.length_take]; omega
theorem jxLw0_rows3 : True := by
  (k_with "call type:bytes" => (k_here; (with_reducible show wpAny _ _ (call (Value.type "bytes") [Value.ref _]) _ _ _); k_dflt (refine' make_bits (vs := _) ?k1 ?k2 ?k3 ?k4 ?k5 ?k6 ?k7 ?_; (case k1 => k_asm); (case k2 => k_asm); (case k3 => exact rfl); (case k4 => is_list); (case k5 => first | assumption | l_ints); (case k6 => first | exact bit_abs _ | exact bit_abs3 _); (case k7 => exact len63 _ _)); intro b9 h9 t9 k9 hb9 hl9 F9 N9; (try rw [List.length_map, List.length_take] at hl9); (try dsimp only); (try k_sweep); (try k_fold)))
  exact trivial
theorem ch0 {w : World} {g : Heap} {L : Addr} {mean : ExcName → Option Value} {mg mb : Str → Option Value} {dp un : Nat} {gd : Option (List Code)} {s : Shared} {ps : Array Value} {m : Str → Option Value} {rest : List Stmt} {Q : Flow → Shared → Prop} {E : Value → Shared → Prop} (T : ctxTop mean mg mb g) (X : (kfrag w.params).In g) (hL : @LT.lt Nat _ 118 L) (hd : dp + 40 < recursionLimit) (hu : un + 8 * 40 < cLine) (t : TriplesOk ps.toList) {vs : List Value} {ns : List Int} {l : Addr} {oO oR : Obj}
    (hl : g.IsList l vs.toArray) (hi : IntsAre vs ns) (hz : ns.length ≤ 63) (hm : m (Str.ofString "script") = some (.ref l)) (F : Fr g L s.heap m) (N : News g L s.heap [(118, tabObj ps), (L + 1 + 1, oO), (L + 1, oR)]) (dR : oR.data = .cell none)
    (cont : ∀ row oR' tr h' g' tk', IsBits row → row.length ≤ 126 → oR'.data = .cell (some (.bytes (List.toArray row) tr)) → Fr g L h' m → News g L h' [(118, tabObj ps), (L + 1 + 1, oO), (L + 1, oR')] → GG s.gens g' →
      wpAny (model rw_.prog w) (ktrTop dp un gd (Str.ofString "law") fnS42 L 262 (.ref 261) (lawCl L) []) (execs rest (lawEnv L)) Q E { s with heap := h', gens := g', toks := tk' }) :
    wpAny (model rw_.prog w) (ktrTop dp un gd (Str.ofString "law") fnS42 L 262 (.ref 261) (lawCl L) []) (execs (st0 :: st1 :: rest) (lawEnv L)) Q E s := by
  refine (show (kfrag = kfrag → _) → _ from fun hh => hh rfl) ?_
  k_fill
  w_on
  intro _
  have B := below_caller g
  have hlen := hi.length
  dsimp only [st0, st1]
  k_steps
  all_goals (refine' cont _ _ _ _ _ _ ?cb ?cz ?cd ?cF ?cN ?cG; (case cd => with_reducible assumption); (case cb => first | (with_reducible assumption) | exact IsBits.app (by with_reducible assumption) (by with_reducible assumption)); (case cz => first | omega | (rw [List.length_append]; omega)); (case cF => with_reducible assumption); (case cN => walk_at "jx drop"); (case cG => walk_at "jx gg"))
end
-- JxFrom
section
theorem jxFrom_rows1 : True := by
  k_with_none
  (k_with "jx gg" => first | exact GG.refl _ | assumption | (refine GG.trans ?_ (by assumption); walk_at "jx gg"))
  (k_with "jx asks" => ((case k1 => k_asm); (case k2 => k_asm); (case k3 => k_asm); (case k4 => k_asm); (case k5 => k_asm); (case k6 => first | exact rfl | assumption); (case k7 => ktr_room); (case k8 => ktr_units)))
  (k_with "jx ne" => first | assumption | exact List.forall_mem_nil _ | (refine List.forall_mem_cons.mpr ⟨(by first | assumption | exact fun p9 z9 => absurd (congrArg Obj.cls z9) (by intro y9; cases y9) | exact notTab_cell (by assumption)), ?_⟩; walk_at "jx ne"))
  (k_with "jx backP" => (intro v9 ps9 h9 g9 tk9 R9 t9P F9 N9 G9; (first | (obtain ⟨t9, e9⟩ := R9; subst e9) | subst R9); (try dsimp only); (try k_sweep); (try k_fold)))
  (k_with "jx back" => (intro v9 h9 g9 tk9 R9 F9 N9 G9; (first | (obtain ⟨t9, e9⟩ := R9; subst e9) | subst R9); (try dsimp only); (try k_sweep); (try k_fold)))
  (k_with "jx back0" => (intro v9 h9 tk9 R9 F9 N9; (first | (obtain ⟨t9, e9⟩ := R9; subst e9) | subst R9); (try dsimp only); (try k_sweep); (try k_fold)))
  (k_with "jx dive" => skip)
  (k_with "jx fly0" => (intro e9 t9 xs9 h19 h9 tk9 F9 U9 R9; (try dsimp only); walk_at "jx dive"; (try k_fold)))
  (k_with "jx flyN" => (intro e9 h19 h9 g9 tk9 F9 U9 R9 G9; (try dsimp only); walk_at "jx diveN"; (try k_fold)))
  (k_with "jx diveN" => skip)
  (k_with "jx fly" => (intro e9 t9 xs9 h19 h9 g9 tk9 F9 U9 R9 G9; (try dsimp only); walk_at "jx dive"; (try k_fold)))
  (k_with "jx dec" => first | assumption | decide | (simp only [List.size_toArray, List.length_append, List.length_cons, List.length_nil, bne_iff_ne, ne_eq, beq_iff_eq, Bool.not_eq_true, Decidable.not_not, decide_eq_true_eq, decide_eq_false_iff_not, Bool.not_true, Bool.not_false, reduceCtorEq, not_false_eq_true, not_true_eq_false]; done) | (simp only [List.size_toArray, List.length_append, List.length_cons, List.length_nil, bne_iff_ne, ne_eq, beq_iff_eq, Bool.not_eq_true, Decidable.not_not, decide_eq_true_eq, decide_eq_false_iff_not]; omega))
  (k_with "ite" => (k_here; first | rw [if_pos (by walk_at "jx dec")] | rw [if_neg (by walk_at "jx dec")]))
  exact trivial
theorem jxFrom_rows2 : True := by
  (k_with "jx cut" => with_reducible first | exact cutL_from _ _ | exact cutL_to _ _ | exact cutL_mid _ _ _ | exact cutL_last _ _ (by decide) | exact cutL_but _ _ _ (by decide) | exact cut_all _ | exact cut_from _ _ | exact cut_to _ _ | exact cut_mid _ _ _)
  (k_with "jx len" => first | omega | (simp only [List.length_append, List.length_cons, List.length_nil, List.length_take, List.length_drop, List.length_replicate, List.length_map, List.length_reverse]; omega))
  (k_with "binaryOp Add bytes bytes" => (k_here; (with_reducible show wpAny _ _ (binaryOp Operator.Add (Value.bytes (List.toArray _) _) (Value.bytes (List.toArray _) _)) _ _ _); (refine jb_add (by walk_at "jx len") ?_); intro _ _))
  (k_with "call builtin:len" => (k_here; (with_reducible show wpAny _ _ (call (Value.builtin "len") [Value.bytes (List.toArray _) _]) _ _ _); (refine jb_len (by walk_at "jx len") ?_); intro _ _))
  (k_with "compareOp Eq bytes bytes" => refine jb_eq ?_)
  (k_with "compareOp NotEq bytes bytes" => refine jb_ne ?_)
  (k_with "subscriptTail" => (k_here; (with_reducible show wpAny _ _ (subscriptTail _ (Expr.Slice _ _ none _) (Value.bytes (List.toArray _) _) (Value.ref _)) _ _ _); (with_reducible rename Fr _ _ _ _ => F'); (with_reducible rename News _ _ _ _ => N'); (refine jb_slice (s := ⟨_, _, _, _, _⟩) F' N' (by constructor) (by constructor) (by walk_at "jx len") (by walk_at "jx cut") ?_); intro _ _ _ _ _))
  (k_with "subscriptTail" => (k_here; (with_reducible show wpAny _ _ (subscriptTail _ _ (Value.bytes (List.toArray _) _) (Value.int _ _)) _ _ _); (refine KBy.item_N (by walk_at "jx len") (by walk_at "jx len") (by walk_at "jx len") ?_)))
  (k_with "eval Constant int" => (k_here; refine wpAny_Constant_int ?_; (try dsimp only)))
  (k_with "eval Call" => (k_here; (with_reducible show wpAny _ _ (eval (Expr.Call (Expr.Name (PySem.Str.ofString "list") _) _ _ _) _) _ _ _); k_dflt (refine' dec_listE ?k1 ?k2 ?k3 ?k4 ?k5 ?k9 ?k10 ?k6 ?k7 ?k8 ?x1 ?y1 ?y2 ?y3 ?y4 ?_; (case k1 => k_asm); (case k2 => k_asm); (case k3 => k_asm); (case k4 => k_asm); (case k5 => k_asm); (case k9 => assumption); (case k10 => assumption); (case k6 => exact rfl); (case k7 => ktr_room); (case k8 => ktr_units); (case x1 => assumption); (case y1 => exact rfl); (case y2 => exact rfl); (case y3 => exact rfl); (case y4 => exact rfl)); (intro D9 ys9 n9 ps9 t9P i9 h9 g9 tk9 F9 N9 G9; have hr9 := row_unbits (by assumption) i9; (try dsimp only); (try k_sweep); (try k_fold))))
  (k_with "call type:bytes" => (k_here; (with_reducible show wpAny _ _ (call (Value.type "bytes") [Value.ref _]) _ _ _); k_dflt (refine' mk_bytes ?k1 ?k2 ?k3 ?k4 ?k5 ?k6 ?_; (case k1 => k_asm); (case k2 => k_asm); (case k3 => exact rfl); (case k4 => k_mem); (case k5 => assumption); (case k6 => walk_at "jx len")); intro t9 h9 k9 F9 N9; (try dsimp only); (try k_sweep); (try k_fold)))
  exact trivial
theorem from_ok (w : World) (o : List UInt8) (t1 : Tok) (hz : o.length ≤ 4000) (hb : IsBits o) : TellP 30 w 116 [.bytes o.toArray t1] (fun v => ∃ t, v = .bytes (unbits o).toArray t) := by
  unfold TellP
  refine (show (kfrag = kfrag → _) → _ from fun hh => hh rfl) ?_
  k_fill
  w_on
  intro _
  intro mean mg mb dp un gd cn cs a ccd cl outer A₀ base h₀ L m ps news s Q E ⟨B, F, X, N, T, hk, hd, hu⟩ hps hne hret
  refine wpAny_call (code_def (name := Str.ofString "decode_from_bin") (params := fnP17) (body := fnB17) (scope := fnS17) (binds := [(Str.ofString "input_bin", .bytes o.toArray t1)]) B F X N T rfl rfl hk (by k_is) (by k_is) (by ktr_room) (BindsTo.of_eq rfl) (locs rfl) ?_ rfl rfl rfl (by decide))
  intro g' L' h' FG' F' N' B' X' T'
  dsimp only [fnB17, fnS17, List.length, List.reverse, List.reverseAux] at F' ⊢

  k_fold
  have hbz := unbits_length o
  k_steps
  all_goals clear_value qk ek
  refine hret _ _ _ _ _ ⟨_, rfl⟩ (by assumption) (by assumption) ?_ (by walk_at "jx gg")
  first | assumption | exact news_tail (by assumption)
end
-- JxZero
section
theorem jxZero_rows1 : True := by
  k_with_none
  (k_with "jx gg" => first | exact GG.refl _ | assumption | (refine GG.trans ?_ (by assumption); walk_at "jx gg"))
  (k_with "jx asks" => ((case k1 => k_asm); (case k2 => k_asm); (case k3 => k_asm); (case k4 => k_asm); (case k5 => k_asm); (case k6 => first | exact rfl | assumption); (case k7 => ktr_room); (case k8 => ktr_units)))
  (k_with "jx ne" => first | assumption | exact List.forall_mem_nil _ | (refine List.forall_mem_cons.mpr ⟨(by first | assumption | exact fun p9 z9 => absurd (congrArg Obj.cls z9) (by intro y9; cases y9) | exact notTab_cell (by assumption)), ?_⟩; walk_at "jx ne"))
  (k_with "jx backP" => (intro v9 ps9 h9 g9 tk9 R9 t9P F9 N9 G9; (first | (obtain ⟨t9, e9⟩ := R9; subst e9) | subst R9); (try dsimp only); (try k_sweep); (try k_fold)))
  (k_with "jx back" => (intro v9 h9 g9 tk9 R9 F9 N9 G9; (first | (obtain ⟨t9, e9⟩ := R9; subst e9) | subst R9); (try dsimp only); (try k_sweep); (try k_fold)))
  (k_with "jx back0" => (intro v9 h9 tk9 R9 F9 N9; (first | (obtain ⟨t9, e9⟩ := R9; subst e9) | subst R9); (try dsimp only); (try k_sweep); (try k_fold)))
  (k_with "jx dive" => skip)
  (k_with "jx fly0" => (intro e9 t9 xs9 h19 h9 tk9 F9 U9 R9; (try dsimp only); walk_at "jx dive"; (try k_fold)))
  (k_with "jx flyN" => (intro e9 h19 h9 g9 tk9 F9 U9 R9 G9; (try dsimp only); walk_at "jx diveN"; (try k_fold)))
  (k_with "jx diveN" => skip)
  (k_with "jx fly" => (intro e9 t9 xs9 h19 h9 g9 tk9 F9 U9 R9 G9; (try dsimp only); walk_at "jx dive"; (try k_fold)))
  (k_with "jx dec" => first | assumption | decide | (simp only [List.size_toArray, List.length_append, List.length_cons, List.length_nil, bne_iff_ne, ne_eq, beq_iff_eq, Bool.not_eq_true, Decidable.not_not, decide_eq_true_eq, decide_eq_false_iff_not, Bool.not_true, Bool.not_false, reduceCtorEq, not_false_eq_true, not_true_eq_false]; done) | (simp only [List.size_toArray, List.length_append, List.length_cons, List.length_nil, bne_iff_ne, ne_eq, beq_iff_eq, Bool.not_eq_true, Decidable.not_not, decide_eq_true_eq, decide_eq_false_iff_not]; omega))
  (k_with "ite" => (k_here; first | rw [if_pos (by walk_at "jx dec")] | rw [if_neg (by walk_at "jx dec")]))
  exact trivial
theorem bz_no_bytes : typeLookup (.type "int") "__bytes__" = pure none := by rw [typeLookup_type, builtinLookup_eq_fast]; kernel_rfl
theorem bz_index : typeLookup (.type "int") "__index__" = pure (some (.builtin "int.__index__")) := by rw [typeLookup_type, builtinLookup_eq_fast]; kernel_rfl
section
variable {prog : Program} {w : World} {A : Around} {E : Value → Shared → Prop} {s : Shared}
theorem bz_new {n : Nat} {u : Tok} {Q : Value → Shared → Prop} (hn : n ≤ 4)
    (hQ : ∀ t k, Q (.bytes (List.replicate n (0 : UInt8)).toArray t) { s with toks := k }) :
    codeAny (model prog w) A (.call (.builtin "bytes.__new__") ⟨[.type "bytes", .int (n : Int) u], []⟩) (wants Q E) s := by
  refine codeAny_of_tree ?_
  show wpAny _ A.in1 (do checkBuiltinCall "bytes.__new__" ⟨[.type "bytes", .int (n : Int) u], []⟩; again (.builtin "bytes.__new__" ⟨[.type "bytes", .int (n : Int) u], []⟩)) _ _ s
  refine wpAny_bind (wpAny_of_eq (F.bm_newCall _) (wpAny_pure ⟨plainId_quiet F.bm_plain _, codeAny_builtin F.bm_entry ?_⟩))
  rw [Around.under_plainId F.bm_plain _]
  have hT : s.TypeIs (.int (n : Int) u) "int" := typeIs_int s _ u
  unfold Builtin.«bytes.__new__»
  generalize hx : Value.int (n : Int) u = x at hT
  refine wpAny_bind (wpAny_of_eq (a := true) rfl ?_)
  refine bm_if_false rfl ?_
  refine wpAny_bind (wpAny_of_eq F.bm_sub ?_)
  refine bm_if_false rfl ?_
  refine wpAny_bind (wpAny_of_eq (F.bm_bind _) ?_)
  refine wpAny_bind (wpAny_of_eq (a := ()) rfl ?_)
  refine wpAny_bind (wpAny_of_eq (a := ()) rfl ?_)
  refine bm_if_false rfl ?_
  refine wpAny_bind (wpAny_specialOf hT bz_no_bytes ?_)
  have e1 : (asStr? x) = pure none := by subst hx; rfl
  have e2 : (asIndex x) = pure (n : Int) := by subst hx; rfl
  have e63 : (2 : Int) ^ 63 = 9223372036854775808 := by decide
  refine wpAny_bind (m := asStr? x >>= fun r => pure r.isSome) (wpAny_bind (wpAny_of_eq e1 (wpAny_pure ?_)))
  refine bm_if_false rfl ?_
  refine wpAny_bind (wpAny_specialOf hT bz_index ?_)
  refine bm_if_false rfl ?_
  refine wpAny_bind (wpAny_attempt (wpAny_of_eq e2 ?_))
  generalize hnn : (n : Int) = k
  show wpAny _ _ (if (!Builtin.Bytes.fitsIndex k) = true then _ else _) _ _ _
  refine bm_if_false (by unfold Builtin.Bytes.fitsIndex; rw [e63, decide_eq_true (by omega), decide_eq_true (by omega)]; rfl) ?_
  show wpAny _ _ (if k < 0 then _ else _) _ _ s
  rw [if_neg (by omega)]
  show wpAny _ _ (if k > 2 ^ 63 - 34 then _ else _) _ _ s
  rw [if_neg (by rw [e63]; omega)]
  show wpAny _ _ (if Builtin.Bytes.tooLong k.toNat = true then _ else _) _ _ s
  refine bm_if_false (by unfold Builtin.Bytes.tooLong; exact decide_eq_false (by rw [sizeLine_eq]; omega)) ?_
  show wpAny _ _ (rule "bytes.__new__.count" >>= fun _ => mkBytes (Array.replicate k.toNat 0) >>= _) _ _ s
  refine wpAny_bind (wpAny_rule (wpAny_bind (wpAny_mkBytes ?_ (by rw [Array.size_replicate, sizeLine_eq]; omega))))
  rw [← hnn, Int.toNat_natCast]
  have := hQ s.toks (s.toks + 1)
  rw [List.toArray_replicate] at this
  exact wpAny_pure this
theorem bytes_zeros {n : Nat} {u : Tok} {Q : Value → Shared → Prop} (hn : n ≤ 4) (hQ : ∀ t k, Q (.bytes (List.replicate n (0 : UInt8)).toArray t) { s with toks := k }) :
    wpAny (model prog w) A (call (.type "bytes") [.int (n : Int) u]) Q E s := by
  refine callType_codes (Q₁ := fun obj s₁ => s₁.TypeIs obj "bytes" ∧ Q obj s₁) F.bm_called (F.bm_typeCall _) F.entry_object_init
    (bz_new hn fun t k => ⟨PySem.W.typeIs_bytes _ _ _, hQ t k⟩) fun obj s₁ h₁ => ?_
  exact ⟨h₁.1, F.args_object_init_2 obj _, object_init_meets F.bm_called.init.lookup F.bm_called.made (by decide) prog w A.in1 _ s₁ ⟨h₁.1, rfl, h₁.2⟩⟩
end
theorem pad_eq (n : Nat) : ((4 : Int) - (n : Int)).fmod 4 = (((4 - n % 4) % 4 : Nat) : Int) := by
  rw [Int.fmod_eq_emod_of_nonneg _ (by decide)]
  omega
section
variable {prog : Program} {w : World} {A : Around} {E : Value → Shared → Prop} {s : Shared}
theorem pad_zeros {n : Nat} {u : Tok} {Q : Value → Shared → Prop} (hQ : ∀ t k, Q (.bytes (List.replicate ((4 - n % 4) % 4) (0 : UInt8)).toArray t) { s with toks := k }) :
    wpAny (model prog w) A (call (.type "bytes") [.int (((4 : Int) - (n : Int)).fmod 4) u]) Q E s := by
  rw [pad_eq]
  exact bytes_zeros (by omega) hQ
end
theorem isBits_c0 {l : List UInt8} (h : IsBits l) : IsBits (0 :: l) := fun b hb => (List.mem_cons.mp hb).elim .inl (h b)
theorem isBits_c1 {l : List UInt8} (h : IsBits l) : IsBits (1 :: l) := fun b hb => (List.mem_cons.mp hb).elim .inr (h b)
theorem isBits_app {l l' : List UInt8} (h : IsBits l) (h' : IsBits l') : IsBits (l ++ l') := fun b hb => (List.mem_append.mp hb).elim (h b) (h' b)
theorem isBits_rep (n : Nat) : IsBits (List.replicate n (0 : UInt8)) := fun b hb => .inl (List.eq_of_mem_replicate hb)
theorem isBits_nil : IsBits [] := fun b hb => nomatch hb
end
-- JxEncK
section
theorem jxEncK_rows1 : True := by
  k_with_none
  (k_with "jx gg" => first | exact GG.refl _ | assumption | (refine GG.trans ?_ (by assumption); walk_at "jx gg"))
  (k_with "jx asks" => ((case k1 => k_asm); (case k2 => k_asm); (case k3 => k_asm); (case k4 => k_asm); (case k5 => k_asm); (case k6 => first | exact rfl | assumption); (case k7 => ktr_room); (case k8 => ktr_units)))
  (k_with "jx ne" => first | assumption | exact List.forall_mem_nil _ | (refine List.forall_mem_cons.mpr ⟨(by first | assumption | exact fun p9 z9 => absurd (congrArg Obj.cls z9) (by intro y9; cases y9) | exact notTab_cell (by assumption)), ?_⟩; walk_at "jx ne"))
  (k_with "jx backP" => (intro v9 ps9 h9 g9 tk9 R9 t9P F9 N9 G9; (first | (obtain ⟨t9, e9⟩ := R9; subst e9) | subst R9); (try dsimp only); (try k_sweep); (try k_fold)))
  (k_with "jx back" => (intro v9 h9 g9 tk9 R9 F9 N9 G9; (first | (obtain ⟨t9, e9⟩ := R9; subst e9) | subst R9); (try dsimp only); (try k_sweep); (try k_fold)))
  (k_with "jx back0" => (intro v9 h9 tk9 R9 F9 N9; (first | (obtain ⟨t9, e9⟩ := R9; subst e9) | subst R9); (try dsimp only); (try k_sweep); (try k_fold)))
  (k_with "jx dive" => skip)
  (k_with "jx fly0" => (intro e9 t9 xs9 h19 h9 tk9 F9 U9 R9; (try dsimp only); walk_at "jx dive"; (try k_fold)))
  (k_with "jx flyN" => (intro e9 h19 h9 g9 tk9 F9 U9 R9 G9; (try dsimp only); walk_at "jx diveN"; (try k_fold)))
  (k_with "jx diveN" => skip)
  (k_with "jx fly" => (intro e9 t9 xs9 h19 h9 g9 tk9 F9 U9 R9 G9; (try dsimp only); walk_at "jx dive"; (try k_fold)))
  (k_with "jx dec" => first | assumption | decide | (simp only [List.size_toArray, List.length_append, List.length_cons, List.length_nil, bne_iff_ne, ne_eq, beq_iff_eq, Bool.not_eq_true, Decidable.not_not, decide_eq_true_eq, decide_eq_false_iff_not, Bool.not_true, Bool.not_false, reduceCtorEq, not_false_eq_true, not_true_eq_false]; done) | (simp only [List.size_toArray, List.length_append, List.length_cons, List.length_nil, bne_iff_ne, ne_eq, beq_iff_eq, Bool.not_eq_true, Decidable.not_not, decide_eq_true_eq, decide_eq_false_iff_not]; omega))
  (k_with "ite" => (k_here; first | rw [if_pos (by walk_at "jx dec")] | rw [if_neg (by walk_at "jx dec")]))
  exact trivial
theorem jxEncK_rows2 : True := by
  (k_with "jx cut" => with_reducible first | exact cutL_from _ _ | exact cutL_to _ _ | exact cutL_mid _ _ _ | exact cutL_last _ _ (by decide) | exact cutL_but _ _ _ (by decide) | exact cut_all _ | exact cut_from _ _ | exact cut_to _ _ | exact cut_mid _ _ _)
  (k_with "jx len" => first | omega | (simp only [List.length_append, List.length_cons, List.length_nil, List.length_take, List.length_drop, List.length_replicate, List.length_map, List.length_reverse]; omega))
  (k_with "binaryOp Add bytes bytes" => (k_here; (with_reducible show wpAny _ _ (binaryOp Operator.Add (Value.bytes (List.toArray _) _) (Value.bytes (List.toArray _) _)) _ _ _); (refine jb_add (by walk_at "jx len") ?_); intro _ _))
  (k_with "call builtin:len" => (k_here; (with_reducible show wpAny _ _ (call (Value.builtin "len") [Value.bytes (List.toArray _) _]) _ _ _); (refine jb_len (by walk_at "jx len") ?_); intro _ _))
  (k_with "compareOp Eq bytes bytes" => refine jb_eq ?_)
  (k_with "compareOp NotEq bytes bytes" => refine jb_ne ?_)
  (k_with "subscriptTail" => (k_here; (with_reducible show wpAny _ _ (subscriptTail _ (Expr.Slice _ _ none _) (Value.bytes (List.toArray _) _) (Value.ref _)) _ _ _); (with_reducible rename Fr _ _ _ _ => F'); (with_reducible rename News _ _ _ _ => N'); (refine jb_slice (s := ⟨_, _, _, _, _⟩) F' N' (by constructor) (by constructor) (by walk_at "jx len") (by walk_at "jx cut") ?_); intro _ _ _ _ _))
  (k_with "subscriptTail" => (k_here; (with_reducible show wpAny _ _ (subscriptTail _ _ (Value.bytes (List.toArray _) _) (Value.int _ _)) _ _ _); (refine KBy.item_N (by walk_at "jx len") (by walk_at "jx len") (by walk_at "jx len") ?_)))
  (k_with "eval Constant int" => (k_here; refine wpAny_Constant_int ?_; (try dsimp only)))
  (k_with "jx bits" => first | assumption | exact isBits_all _ | (refine IsBits.take ?_ _; walk_at "jx bits") | (refine IsBits.drop ?_ _; walk_at "jx bits"))
  (k_with "getMethod ref" => (k_here; (with_reducible show wpAny _ _ (getMethod (Value.ref 53) (PySem.Str.ofString "index") _) _ _ _); (refine' tb_method ?k1 ?k2 ?_; (case k1 => k_asm); (case k2 => k_asm))))
  (k_with "call builtin:list.index" => (k_here; (k_dflt (show wpAny _ _ (call (Value.builtin "list.index") [Value.ref 53, Value.bytes (List.toArray _) _]) _ _ _)); (refine' tb_index' ?k1 ?k2 ?k3 ?k4 ?_; (case k1 => k_asm); (case k2 => k_asm); (case k3 => walk_at "jx bits"); (case k4 => walk_at "jx len"))))
  (k_with "jx bits" => first | assumption | exact isBits_all _ | exact isBits_nil | exact isBits_rep _ | (refine isBits_c0 ?_; walk_at "jx bits") | (refine isBits_c1 ?_; walk_at "jx bits") | (refine isBits_app ?_ ?_ <;> walk_at "jx bits") | (refine IsBits.take ?_ _; walk_at "jx bits") | (refine IsBits.drop ?_ _; walk_at "jx bits"))
  (k_with "call ref" => (k_here; (with_reducible show wpAny _ _ (call (Value.ref 116) [Value.bytes (List.toArray _) _]) _ _ _); (refine' TellP.use (from_ok _ _ _ ?x1 ?x2) ?k1 ?k2 ?k3 ?k4 ?k5 ?k6 ?k7 ?k8 ?x3 ?x4 ?_; (case x1 => walk_at "jx len"); (case x2 => walk_at "jx bits"); walk_at "jx asks"; (case x3 => assumption); (case x4 => walk_at "jx ne")); walk_at "jx backP"))
  (k_with "call type:bytes" => (k_here; (with_reducible show wpAny _ _ (call (Value.type "bytes") [Value.int (Int.fmod (4 - _) 4) _]) _ _ _); (refine pad_zeros ?_); intro _ _))
  exact trivial
theorem enc4 {o : List UInt8} {k : Nat} (h8 : (((List.replicate ((4 - o.length % 4) % 4) (0 : UInt8) ++ o).length : Nat) : Int).fmod 8 = 4) (hk : ((o.length : Nat) : Int).fmod 4 = (k : Int)) : enc o = unbits ([0, 0] ++ twoBits k ++ (List.replicate ((4 - o.length % 4) % 4) 0 ++ o)) := by
  rw [Int.fmod_eq_emod_of_nonneg _ (by decide)] at h8 hk
  unfold enc padded
  rw [if_pos (by omega), show o.length % 4 = k by omega]
theorem enc8 {o : List UInt8} {k : Nat} (h8 : (((List.replicate ((4 - o.length % 4) % 4) (0 : UInt8) ++ o).length : Nat) : Int).fmod 8 ≠ 4) (hk : ((o.length : Nat) : Int).fmod 4 = (k : Int)) : enc o = unbits ([1, 0, 0, 0, 0, 0] ++ twoBits k ++ (List.replicate ((4 - o.length % 4) % 4) 0 ++ o)) := by
  rw [Int.fmod_eq_emod_of_nonneg _ (by decide)] at h8 hk
  unfold enc padded
  rw [if_neg (by omega), show o.length % 4 = k by omega]
theorem enc4e {o : List UInt8} (k : Nat) (e : Int) (he : e = (k : Int)) (h8 : (((List.replicate ((4 - o.length % 4) % 4) (0 : UInt8) ++ o).length : Nat) : Int).fmod 8 = 4) (hk : ((o.length : Nat) : Int).fmod 4 = e) : enc o = unbits ([0, 0] ++ twoBits k ++ (List.replicate ((4 - o.length % 4) % 4) 0 ++ o)) := enc4 h8 (hk.trans he)
theorem enc8e {o : List UInt8} (k : Nat) (e : Int) (he : e = (k : Int)) (h8 : (((List.replicate ((4 - o.length % 4) % 4) (0 : UInt8) ++ o).length : Nat) : Int).fmod 8 ≠ 4) (hk : ((o.length : Nat) : Int).fmod 4 = e) : enc o = unbits ([1, 0, 0, 0, 0, 0] ++ twoBits k ++ (List.replicate ((4 - o.length % 4) % 4) 0 ++ o)) := enc8 h8 (hk.trans he)
theorem enc_ok (w : World) (o : List UInt8) (t1 : Tok) (hz : o.length ≤ 3000) (hb : IsBits o) : TellP 34 w 142 [.bytes o.toArray t1] (fun v => ∃ t, v = .bytes (enc o).toArray t) := by
  unfold TellP
  refine (show (kfrag = kfrag → _) → _ from fun hh => hh rfl) ?_
  k_fill
  w_on
  intro _
  intro mean mg mb dp un gd cn cs a ccd cl outer A₀ base h₀ L m ps news s Q E ⟨B, F, X, N, T, hk, hd, hu⟩ hps hne hret
  refine wpAny_call (code_def (name := Str.ofString "encode_from_bin_keypath") (params := fnP21) (body := fnB21) (scope := fnS21) (binds := [(Str.ofString "input_bin", .bytes o.toArray t1)]) B F X N T rfl rfl hk (by k_is) (by k_is) (by ktr_room) (BindsTo.of_eq rfl) (locs rfl) ?_ rfl rfl rfl (by decide))
  intro g' L' h' FG' F' N' B' X' T'
  dsimp only [fnB21, fnS21, List.length, List.reverse, List.reverseAux] at F' ⊢

  k_fold
  k_steps
  all_goals clear_value qk ek
  all_goals first | (exfalso; omega) | (refine' hret _ _ _ _ _ ⟨_, ?r⟩ ?a ?b ?c ?d; (case a => assumption); (case b => assumption); (case c => assumption); (case d => walk_at "jx gg"); (case r => (first
    | (rw [enc4e 0 0 rfl (by assumption) (by assumption)]; rfl)
    | (rw [enc4e 1 1 rfl (by assumption) (by assumption)]; rfl)
    | (rw [enc4e 2 2 rfl (by assumption) (by assumption)]; rfl)
    | (rw [enc4e 3 3 rfl (by assumption) (by assumption)]; rfl)
    | (rw [enc8e 0 0 rfl (by assumption) (by assumption)]; rfl)
    | (rw [enc8e 1 1 rfl (by assumption) (by assumption)]; rfl)
    | (rw [enc8e 2 2 rfl (by assumption) (by assumption)]; rfl)
    | (rw [enc8e 3 3 rfl (by assumption) (by assumption)]; rfl))))
end
-- JxLw1
section
theorem jxLw1_rows1 : True := by
  k_with_none
  (k_with "jx gg" => first | exact GG.refl _ | assumption | (refine GG.trans ?_ (by assumption); walk_at "jx gg"))
  (k_with "jx asks" => ((case k1 => k_asm); (case k2 => k_asm); (case k3 => k_asm); (case k4 => k_asm); (case k5 => k_asm); (case k6 => first | exact rfl | assumption); (case k7 => ktr_room); (case k8 => ktr_units)))
  (k_with "jx ne" => first | assumption | exact List.forall_mem_nil _ | (refine List.forall_mem_cons.mpr ⟨(by first | assumption | exact fun p9 z9 => absurd (congrArg Obj.cls z9) (by intro y9; cases y9) | exact notTab_cell (by assumption)), ?_⟩; walk_at "jx ne"))
  (k_with "jx backP" => (intro v9 ps9 h9 g9 tk9 R9 t9P F9 N9 G9; (first | (obtain ⟨t9, e9⟩ := R9; subst e9) | subst R9); (try dsimp only); (try k_sweep); (try k_fold)))
  (k_with "jx back" => (intro v9 h9 g9 tk9 R9 F9 N9 G9; (first | (obtain ⟨t9, e9⟩ := R9; subst e9) | subst R9); (try dsimp only); (try k_sweep); (try k_fold)))
  (k_with "jx back0" => (intro v9 h9 tk9 R9 F9 N9; (first | (obtain ⟨t9, e9⟩ := R9; subst e9) | subst R9); (try dsimp only); (try k_sweep); (try k_fold)))
  (k_with "jx dive" => skip)
  (k_with "jx fly0" => (intro e9 t9 xs9 h19 h9 tk9 F9 U9 R9; (try dsimp only); walk_at "jx dive"; (try k_fold)))
  (k_with "jx flyN" => (intro e9 h19 h9 g9 tk9 F9 U9 R9 G9; (try dsimp only); walk_at "jx diveN"; (try k_fold)))
  (k_with "jx diveN" => skip)
  (k_with "jx fly" => (intro e9 t9 xs9 h19 h9 g9 tk9 F9 U9 R9 G9; (try dsimp only); walk_at "jx dive"; (try k_fold)))
  (k_with "jx dec" => first | assumption | decide | (simp only [List.size_toArray, List.length_append, List.length_cons, List.length_nil, bne_iff_ne, ne_eq, beq_iff_eq, Bool.not_eq_true, Decidable.not_not, decide_eq_true_eq, decide_eq_false_iff_not, Bool.not_true, Bool.not_false, reduceCtorEq, not_false_eq_true, not_true_eq_false]; done) | (simp only [List.size_toArray, List.length_append, List.length_cons, List.length_nil, bne_iff_ne, ne_eq, beq_iff_eq, Bool.not_eq_true, Decidable.not_not, decide_eq_true_eq, decide_eq_false_iff_not]; omega))
  (k_with "ite" => (k_here; first | rw [if_pos (by walk_at "jx dec")] | rw [if_neg (by walk_at "jx dec")]))
  exact trivial
theorem jxLw1_rows2 : True := by
  (k_with "jx cut" => with_reducible first | exact cutL_from _ _ | exact cutL_to _ _ | exact cutL_mid _ _ _ | exact cutL_last _ _ (by decide) | exact cutL_but _ _ _ (by decide) | exact cut_all _ | exact cut_from _ _ | exact cut_to _ _ | exact cut_mid _ _ _)
  (k_with "jx len" => first | omega | (simp only [List.length_append, List.length_cons, List.length_nil, List.length_take, List.length_drop, List.length_replicate, List.length_map, List.length_reverse]; omega))
  (k_with "binaryOp Add bytes bytes" => (k_here; (with_reducible show wpAny _ _ (binaryOp Operator.Add (Value.bytes (List.toArray _) _) (Value.bytes (List.toArray _) _)) _ _ _); (refine jb_add (by walk_at "jx len") ?_); intro _ _))
  (k_with "call builtin:len" => (k_here; (with_reducible show wpAny _ _ (call (Value.builtin "len") [Value.bytes (List.toArray _) _]) _ _ _); (refine jb_len (by walk_at "jx len") ?_); intro _ _))
  (k_with "compareOp Eq bytes bytes" => refine jb_eq ?_)
  (k_with "compareOp NotEq bytes bytes" => refine jb_ne ?_)
  (k_with "subscriptTail" => (k_here; (with_reducible show wpAny _ _ (subscriptTail _ (Expr.Slice _ _ none _) (Value.bytes (List.toArray _) _) (Value.ref _)) _ _ _); (with_reducible rename Fr _ _ _ _ => F'); (with_reducible rename News _ _ _ _ => N'); (refine jb_slice (s := ⟨_, _, _, _, _⟩) F' N' (by constructor) (by constructor) (by walk_at "jx len") (by walk_at "jx cut") ?_); intro _ _ _ _ _))
  (k_with "subscriptTail" => (k_here; (with_reducible show wpAny _ _ (subscriptTail _ _ (Value.bytes (List.toArray _) _) (Value.int _ _)) _ _ _); (refine KBy.item_N (by walk_at "jx len") (by walk_at "jx len") (by walk_at "jx len") ?_)))
  (k_with "eval Constant int" => (k_here; refine wpAny_Constant_int ?_; (try dsimp only)))
  (k_with "call ref" => (k_here; (with_reducible show wpAny _ _ (call (Value.ref 142) [Value.bytes (List.toArray _) _]) _ _ _); (refine' TellP.use (enc_ok _ _ _ ?x1 ?x2) ?k1 ?k2 ?k3 ?k4 ?k5 ?k6 ?k7 ?k8 ?x3 ?x4 ?_; (case x1 => walk_at "jx len"); (case x2 => walk_at "jx bits"); walk_at "jx asks"; (case x3 => assumption); (case x4 => walk_at "jx ne")); walk_at "jx backP"))
  (k_with "call ref" => (k_here; (with_reducible show wpAny _ _ (call (Value.ref 116) [Value.bytes (List.toArray _) _]) _ _ _); (refine' TellP.use (from_ok _ _ _ ?x1 ?x2) ?k1 ?k2 ?k3 ?k4 ?k5 ?k6 ?k7 ?k8 ?x3 ?x4 ?_; (case x1 => walk_at "jx len"); (case x2 => walk_at "jx bits"); walk_at "jx asks"; (case x3 => assumption); (case x4 => walk_at "jx ne")); walk_at "jx backP"))
  (k_with "jx bits" => assumption)
  (k_with "call ref" => (k_here; (with_reducible show wpAny _ _ (call (Value.ref 205) [Value.bytes (List.toArray _) _]) _ _ _); (refine' Tell.use (packed_is _ _ _ (by assumption) (by assumption)) ?k1 ?k2 ?k3 ?k4 ?k5 ?k6 ?k7 ?k8 ?_; walk_at "jx asks"); walk_at "jx back"))
  (k_with "call ref" => (k_here; (with_reducible show wpAny _ _ (call (Value.ref 149) [Value.bytes (List.toArray (enc _)) _]) _ _ _); (refine' Tell.use (back_ok _ _ _ (by assumption) (by omega)) ?k1 ?k2 ?k3 ?k4 ?k5 ?k6 ?k7 ?k8 ?_; walk_at "jx asks"); walk_at "jx back"))
  (k_with "jx dec" => first | (exact fun z9 => absurd z9 (by rw [bne_self_eq_false]; exact Bool.false_ne_true)) | exact bne_self_eq_false _)
  exact trivial
theorem ch1 {w : World} {g : Heap} {L : Addr} {mean : ExcName → Option Value} {mg mb : Str → Option Value} {dp un : Nat} {gd : Option (List Code)} {s : Shared} {ps : Array Value} {m : Str → Option Value} {rest : List Stmt} {Q : Flow → Shared → Prop} {E : Value → Shared → Prop} (T : ctxTop mean mg mb g) (X : (kfrag w.params).In g) (hL : @LT.lt Nat _ 118 L) (hd : dp + 40 < recursionLimit) (hu : un + 8 * 40 < cLine) (t : TriplesOk ps.toList) {row : List UInt8} {tr : Tok} {oO oR : Obj}
    (hb : IsBits row) (hz : row.length ≤ 126) (F : Fr g L s.heap m) (N : News g L s.heap [(118, tabObj ps), (L + 1 + 1, oO), (L + 1, oR)]) (dR : oR.data = .cell (some (.bytes row.toArray tr))) (nO : NotTab oO)
    (cont : ∀ ps' t' h' g' tk', TriplesOk ps'.toList → Fr g L h' (fun y => if y = Str.ofString "told" then some (.bytes (enc row).toArray t') else m y) → News g L h' [(118, tabObj ps'), (L + 1 + 1, oO), (L + 1, oR)] → GG s.gens g' →
      wpAny (model rw_.prog w) (ktrTop dp un gd (Str.ofString "law") fnS42 L 262 (.ref 261) (lawCl L) []) (execs rest (lawEnv L)) Q E { s with heap := h', gens := g', toks := tk' }) :
    wpAny (model rw_.prog w) (ktrTop dp un gd (Str.ofString "law") fnS42 L 262 (.ref 261) (lawCl L) []) (execs (st2 :: st3 :: rest) (lawEnv L)) Q E s := by
  refine (show (kfrag = kfrag → _) → _ from fun hh => hh rfl) ?_
  k_fill
  w_on
  intro _
  have B := below_caller g
  have hz200 : row.length ≤ 200 := by omega
  have hz3 : row.length ≤ 3000 := by omega
  dsimp only [st2, st3]
  k_steps
  refine' cont _ _ _ _ _ ?a ?b ?c ?d
  case b => with_reducible assumption
  case c => with_reducible assumption
  case a => with_reducible assumption
  case d => walk_at "jx gg"
end
-- JxOcts
section
theorem jxOcts_rows1 : True := by
  k_with_none
  (k_with "jx gg" => first | exact GG.refl _ | assumption | (refine GG.trans ?_ (by assumption); walk_at "jx gg"))
  (k_with "jx asks" => ((case k1 => k_asm); (case k2 => k_asm); (case k3 => k_asm); (case k4 => k_asm); (case k5 => k_asm); (case k6 => first | exact rfl | assumption); (case k7 => ktr_room); (case k8 => ktr_units)))
  (k_with "jx ne" => first | assumption | exact List.forall_mem_nil _ | (refine List.forall_mem_cons.mpr ⟨(by first | assumption | exact fun p9 z9 => absurd (congrArg Obj.cls z9) (by intro y9; cases y9) | exact notTab_cell (by assumption)), ?_⟩; walk_at "jx ne"))
  (k_with "jx backP" => (intro v9 ps9 h9 g9 tk9 R9 t9P F9 N9 G9; (first | (obtain ⟨t9, e9⟩ := R9; subst e9) | subst R9); (try dsimp only); (try k_sweep); (try k_fold)))
  (k_with "jx back" => (intro v9 h9 g9 tk9 R9 F9 N9 G9; (first | (obtain ⟨t9, e9⟩ := R9; subst e9) | subst R9); (try dsimp only); (try k_sweep); (try k_fold)))
  (k_with "jx back0" => (intro v9 h9 tk9 R9 F9 N9; (first | (obtain ⟨t9, e9⟩ := R9; subst e9) | subst R9); (try dsimp only); (try k_sweep); (try k_fold)))
  (k_with "jx dive" => skip)
  (k_with "jx fly0" => (intro e9 t9 xs9 h19 h9 tk9 F9 U9 R9; (try dsimp only); walk_at "jx dive"; (try k_fold)))
  (k_with "jx flyN" => (intro e9 h19 h9 g9 tk9 F9 U9 R9 G9; (try dsimp only); walk_at "jx diveN"; (try k_fold)))
  (k_with "jx diveN" => skip)
  (k_with "jx fly" => (intro e9 t9 xs9 h19 h9 g9 tk9 F9 U9 R9 G9; (try dsimp only); walk_at "jx dive"; (try k_fold)))
  (k_with "jx dec" => first | assumption | decide | (simp only [List.size_toArray, List.length_append, List.length_cons, List.length_nil, bne_iff_ne, ne_eq, beq_iff_eq, Bool.not_eq_true, Decidable.not_not, decide_eq_true_eq, decide_eq_false_iff_not, Bool.not_true, Bool.not_false, reduceCtorEq, not_false_eq_true, not_true_eq_false]; done) | (simp only [List.size_toArray, List.length_append, List.length_cons, List.length_nil, bne_iff_ne, ne_eq, beq_iff_eq, Bool.not_eq_true, Decidable.not_not, decide_eq_true_eq, decide_eq_false_iff_not]; omega))
  (k_with "ite" => (k_here; first | rw [if_pos (by walk_at "jx dec")] | rw [if_neg (by walk_at "jx dec")]))
  exact trivial
theorem jxOcts_rows2 : True := by
  (k_with "jx cut" => with_reducible first | exact cutL_from _ _ | exact cutL_to _ _ | exact cutL_mid _ _ _ | exact cutL_last _ _ (by decide) | exact cutL_but _ _ _ (by decide) | exact cut_all _ | exact cut_from _ _ | exact cut_to _ _ | exact cut_mid _ _ _)
  (k_with "jx len" => first | omega | (simp only [List.length_append, List.length_cons, List.length_nil, List.length_take, List.length_drop, List.length_replicate, List.length_map, List.length_reverse]; omega))
  (k_with "binaryOp Add bytes bytes" => (k_here; (with_reducible show wpAny _ _ (binaryOp Operator.Add (Value.bytes (List.toArray _) _) (Value.bytes (List.toArray _) _)) _ _ _); (refine jb_add (by walk_at "jx len") ?_); intro _ _))
  (k_with "call builtin:len" => (k_here; (with_reducible show wpAny _ _ (call (Value.builtin "len") [Value.bytes (List.toArray _) _]) _ _ _); (refine jb_len (by walk_at "jx len") ?_); intro _ _))
  (k_with "compareOp Eq bytes bytes" => refine jb_eq ?_)
  (k_with "compareOp NotEq bytes bytes" => refine jb_ne ?_)
  (k_with "subscriptTail" => (k_here; (with_reducible show wpAny _ _ (subscriptTail _ (Expr.Slice _ _ none _) (Value.bytes (List.toArray _) _) (Value.ref _)) _ _ _); (with_reducible rename Fr _ _ _ _ => F'); (with_reducible rename News _ _ _ _ => N'); (refine jb_slice (s := ⟨_, _, _, _, _⟩) F' N' (by constructor) (by constructor) (by walk_at "jx len") (by walk_at "jx cut") ?_); intro _ _ _ _ _))
  (k_with "subscriptTail" => (k_here; (with_reducible show wpAny _ _ (subscriptTail _ _ (Value.bytes (List.toArray _) _) (Value.int _ _)) _ _ _); (refine KBy.item_N (by walk_at "jx len") (by walk_at "jx len") (by walk_at "jx len") ?_)))
  (k_with "eval Constant int" => (k_here; refine wpAny_Constant_int ?_; (try dsimp only)))
  exact trivial
local macro_rules | `(tactic| k_all) => `(tactic| with_reducible assumption)
theorem jxOcts_rows3 : True := by
  (k_with "storeName" => (k_here; (with_reducible show wpAny _ _ (storeName _ (Str.ofString "first") _) _ _ _); (refine' storeX_C ?F ?N ?c ?U ?d ?_ ?a ?b; (case a => rfl); (case b => rfl); (case F => k_asm); (case N => k_asm); (case c => rfl); (case U => k_updF); (case d => k_asm); k_whole; intro h9 o9 F9 N9 d9; (try dsimp only at N9); (try dsimp only); (try k_sweep); (try k_fold))))
  exact trivial
theorem elt_at {L : List Int} {P : Int → Prop} (h : ∀ v ∈ L, P v) (h0 : P 0) (i : Nat) : P (L.getD i 0) := by
  rcases Nat.lt_or_ge i L.length with q | q
  · rw [List.getD_eq_getElem?_getD, List.getElem?_eq_getElem q]; exact h _ (List.getElem_mem q)
  · rw [List.getD_eq_getElem?_getD, List.getElem?_eq_none q]; exact h0
noncomputable abbrev Oct (k : Int) : Prop := 0 ≤ k ∧ k < 256
theorem oct_mod (f n : Int) (h0 : 0 < n) (h1 : n ≤ 256) : Oct (f.fmod n) := ⟨Int.fmod_nonneg_of_pos _ h0, Int.lt_of_lt_of_le (Int.fmod_lt_of_pos _ h0) h1⟩
theorem in_X (f : Int) (i : Nat) (ms : List Int) (g : Int → Int) : KBa.In ([[f.fmod 4, f.fmod 256, f.fmod 3, 0].getD i 0] ++ (List.replicate (Int.toNat 3) (List.drop 1 (List.map (fun k' => (g k').fmod 256) ms))).flatten) := fun k hk => by
  rcases List.mem_append.mp hk with q | q
  · rw [List.mem_singleton.mp q]
    refine elt_at (P := Oct) (fun v hv => ?_) (by decide) i
    simp only [List.mem_cons, List.not_mem_nil, or_false] at hv
    rcases hv with rfl | rfl | rfl | rfl
    · exact oct_mod _ _ (by decide) (by decide)
    · exact oct_mod _ _ (by decide) (by decide)
    · exact oct_mod _ _ (by decide) (by decide)
    · decide
  · obtain ⟨l, hl, hk⟩ := List.mem_flatten.mp q
    rw [List.eq_of_mem_replicate hl] at hk
    obtain ⟨y, _, rfl⟩ := List.mem_map.mp (List.mem_of_mem_drop hk)
    exact oct_mod _ _ (by decide) (by decide)
theorem in_X0 (h : Int) (hh : Oct h) (ms : List Int) (g : Int → Int) : KBa.In ([h] ++ (List.replicate (Int.toNat 3) (List.drop 1 (List.map (fun k' => (g k').fmod 256) ms))).flatten) := fun k hk => by
  rcases List.mem_append.mp hk with q | q
  · rw [List.mem_singleton.mp q]; exact hh
  · obtain ⟨l, hl, hk⟩ := List.mem_flatten.mp q
    rw [List.eq_of_mem_replicate hl] at hk
    obtain ⟨y, _, rfl⟩ := List.mem_map.mp (List.mem_of_mem_drop hk)
    exact oct_mod _ _ (by decide) (by decide)
theorem len_X0 (h : Int) (ns : List Int) (g : Int → Int) : ([h] ++ (List.replicate (Int.toNat 3) (List.drop 1 (List.map g (List.take 63 ns)))).flatten).length ≤ 300 := by
  have e : Int.toNat 3 = 3 := rfl
  rw [e]
  simp only [List.length_append, List.length_cons, List.length_nil, List.replicate_succ, List.replicate_zero, List.flatten_cons, List.flatten_nil, List.length_drop, List.length_map, List.length_take]
  omega
theorem len_X (L : List Int) (i : Nat) (ns : List Int) (g : Int → Int) : ([L.getD i 0] ++ (List.replicate (Int.toNat 3) (List.drop 1 (List.map g (List.take 63 ns)))).flatten).length ≤ 300 := by
  have e : Int.toNat 3 = 3 := rfl
  rw [e]
  simp only [List.length_append, List.length_cons, List.length_nil, List.replicate_succ, List.replicate_zero, List.flatten_cons, List.flatten_nil, List.length_drop, List.length_map, List.length_take]
  omega
theorem cut_le {x : List UInt8} {k : Int} (h : 0 ≤ k) (h9 : k ≤ 90) : (cut x none (some k)).length ≤ 90 := by
  obtain ⟨n, rfl⟩ := Int.eq_ofNat_of_zero_le h
  rw [cut_to, List.length_take]
  omega
theorem pick_end {X : Array UInt8} {lo hi : Option Int} : KBy.picked X lo hi = (cut X.toList lo hi).toArray := by
  have := picked_cut X.toList lo hi
  rwa [Array.toArray_toList] at this
theorem cut_map {x : List UInt8} {ns : List Int} {g : Int → Int} : (cut x none (some (((List.map g (List.take 63 ns)).length : Nat) : Int))).length ≤ 90 :=
  cut_le (Int.natCast_nonneg _) (by rw [List.length_map, List.length_take]; omega)
theorem cut_90 {x : List UInt8} : (cut x none (some 90)).length ≤ 90 := cut_le (by decide) (by decide)
theorem le63 (ns : List Int) (g : Int → Int) : (List.map g (List.take 63 ns)).length ≤ 63 := by
  rw [List.length_map, List.length_take]; omega
theorem cut_size {x : List UInt8} {m : Nat} (hm : m ≤ 63) (i : Nat) : (cut x none (some ([(m : Int), 33, 34, 35, 36, 65, 64, 66, 1, 2].getD i 0))).length ≤ 90 := by
  have := elt_at (L := [(m : Int), 33, 34, 35, 36, 65, 64, 66, 1, 2]) (P := fun k => 0 ≤ k ∧ k ≤ 90) (fun v hv => by
    simp only [List.mem_cons, List.not_mem_nil, or_false] at hv
    rcases hv with rfl | rfl | rfl | rfl | rfl | rfl | rfl | rfl | rfl | rfl <;> omega) (by decide) i
  exact cut_le this.1 this.2
section
variable {w : World} {mean : ExcName → Option Value} {mg mb : Str → Option Value} {dp un : Nat} {gd : Option (List Code)} {cn : Str} {cs : Scope} {a : Addr} {ccd : Value} {cl : List (Str × Addr)} {outer : List Env} {A₀ : Around} {base h₀ : Heap} {L : Addr} {m : Str → Option Value} {news : List (Addr × Obj)} {s : Shared} {Q E : Value → Shared → Prop}
theorem make_any {A : Around} {D : Addr} {vs : List Value} {ns : List Int} (F : Fr h₀ L s.heap m) (N : News h₀ L s.heap news) (hh : A.handled = none) (hl : s.heap.IsList D vs.toArray) (hi : IntsAre vs ns) (hr : KBa.In ns) (hn : ns.length ≤ 300)
    (h : ∀ (b : List UInt8) h' t' k, b.length ≤ 300 → Fr h₀ L h' m → News h₀ L h' news → Q (.bytes b.toArray t') { s with heap := h', toks := k }) : wpAny (model rw_.prog w) A (call (.type "bytes") [.ref D]) Q E s :=
  KBa.make_K F N hh hl hi hr (Nat.le_trans hn (by decide)) fun h' t' k F' N' _ => by
    have q := h (byteArr ns).toList h' t' k (by unfold byteArr; simpa using hn) F' N'
    rw [Array.toArray_toList] at q
    exact q
end
theorem jxOcts_rows4 : True := by
  (k_with "call type:bytes" => (k_here; (with_reducible show wpAny _ _ (call (Value.type "bytes") [Value.ref _]) _ _ _); k_dflt (refine' make_any (vs := _) ?k1 ?k2 ?k3 ?k4 ?k5 ?k6 ?k7 ?_; (case k1 => k_asm); (case k2 => k_asm); (case k3 => exact rfl); (case k4 => is_list); (case k5 => first | assumption | l_ints); (case k6 => first | exact in_X _ _ _ _ | exact in_X0 _ (by decide) _ _); (case k7 => first | exact len_X _ _ _ _ | exact len_X0 _ _ _)); intro b9 h9 t9 k9 hb9 F9 N9; (try dsimp only); (try k_sweep); (try k_fold)))
  (k_with "jx cut" => exact rfl)
  exact trivial
section
variable {w : World} {mean : ExcName → Option Value} {mg mb : Str → Option Value} {dp un : Nat} {gd : Option (List Code)} {cn : Str} {cs : Scope} {a : Addr} {ccd : Value} {cl : List (Str × Addr)} {outer : List Env} {A₀ : Around} {base h₀ : Heap} {L : Addr} {m : Str → Option Value} {news : List (Addr × Obj)} {s : Shared} {Q E : Value → Shared → Prop}
theorem octs_ok {l : Addr} {vs : List Value} {ns : List Int} (hl : h₀.IsList l vs.toArray) (hi : IntsAre vs ns) (hz : ns.length ≤ 63) (B : Below A₀ base outer h₀) (F : Fr h₀ L s.heap m) (X : (kfrag w.params).In h₀) (N : News h₀ L s.heap news) (T : ctxTop mean mg mb h₀) (hk : cs.kind = .function) (hd : dp + 4 < recursionLimit) (hu : un + 8 * 4 < cLine)
    (hret : ∀ (o : List UInt8) t h' g' tk', o.length ≤ 90 → Fr h₀ L h' m → News h₀ L h' news → GG s.gens g' → Q (.bytes o.toArray t) { s with heap := h', gens := g', toks := tk' }) :
    wpAny (model rw_.prog w) (ktrTop dp un gd cn cs L a ccd cl outer) (call (.ref 257) [.ref l]) Q E s := by
  refine (show (kfrag = kfrag → _) → _ from fun hh => hh rfl) ?_
  k_fill
  w_on
  intro _
  refine wpAny_call (code_defC (name := Str.ofString "_law_octets") (params := fnP41) (body := fnB41) (scope := fnS41) (binds := [(Str.ofString "script", .ref l)]) B F X N T rfl rfl hk (by k_is) (by k_is) (by ktr_room) (BindsTo.of_eq rfl) rfl (by decide) ?_ rfl rfl rfl)
  k_whole
  intro g' L' h' tk' cells' FG' F' N' Y' B' X' T' l1
  dsimp only [fnB41, fnS41, List.length, List.reverse, List.reverseAux] at F' Y' ⊢
  have hnC : ∀ q ∈ news, @Ne Nat q.1 (L' + 1) := fun q hq => Nat.ne_of_lt (Nat.lt_succ_of_lt (l1 q hq))
  (try k_lt l1)
  k_cells Y'
  (try simp only [List.cons_append, List.nil_append] at N')
  (try dsimp only)
  (try k_lift B')
  (try k_fold)
  have hl' : g'.IsList l vs.toArray := let ⟨ob, e, r⟩ := hl; ⟨ob, FG'.keep _ _ e, r⟩
  have hlen := hi.length
  k_steps
  all_goals clear_value qk ek
  all_goals (rw [pick_end]; refine hret _ _ _ _ _ ?r0 ?r1 ?r2 ?r3; (case r0 => with_reducible first | exact cut_map | exact cut_90 | exact cut_size (le63 _ _) _); (case r1 => with_reducible assumption); (case r2 => first | with_reducible assumption | ((with_reducible rename News _ _ _ _ => nn9); exact fun q hq => nn9 q (by repeat' (first | exact hq | apply List.Mem.tail)))); (case r3 => walk_at "jx gg"))
end
end
-- JxSigns
section
theorem jxSigns_rows1 : True := by
  k_with_none
  (k_with "jx gg" => first | exact GG.refl _ | assumption | (refine GG.trans ?_ (by assumption); walk_at "jx gg"))
  (k_with "jx asks" => ((case k1 => k_asm); (case k2 => k_asm); (case k3 => k_asm); (case k4 => k_asm); (case k5 => k_asm); (case k6 => first | exact rfl | assumption); (case k7 => ktr_room); (case k8 => ktr_units)))
  (k_with "jx ne" => first | assumption | exact List.forall_mem_nil _ | (refine List.forall_mem_cons.mpr ⟨(by first | assumption | exact fun p9 z9 => absurd (congrArg Obj.cls z9) (by intro y9; cases y9) | exact notTab_cell (by assumption)), ?_⟩; walk_at "jx ne"))
  (k_with "jx backP" => (intro v9 ps9 h9 g9 tk9 R9 t9P F9 N9 G9; (first | (obtain ⟨t9, e9⟩ := R9; subst e9) | subst R9); (try dsimp only); (try k_sweep); (try k_fold)))
  (k_with "jx back" => (intro v9 h9 g9 tk9 R9 F9 N9 G9; (first | (obtain ⟨t9, e9⟩ := R9; subst e9) | subst R9); (try dsimp only); (try k_sweep); (try k_fold)))
  (k_with "jx back0" => (intro v9 h9 tk9 R9 F9 N9; (first | (obtain ⟨t9, e9⟩ := R9; subst e9) | subst R9); (try dsimp only); (try k_sweep); (try k_fold)))
  (k_with "jx dive" => skip)
  (k_with "jx fly0" => (intro e9 t9 xs9 h19 h9 tk9 F9 U9 R9; (try dsimp only); walk_at "jx dive"; (try k_fold)))
  (k_with "jx flyN" => (intro e9 h19 h9 g9 tk9 F9 U9 R9 G9; (try dsimp only); walk_at "jx diveN"; (try k_fold)))
  (k_with "jx diveN" => skip)
  (k_with "jx fly" => (intro e9 t9 xs9 h19 h9 g9 tk9 F9 U9 R9 G9; (try dsimp only); walk_at "jx dive"; (try k_fold)))
  (k_with "jx dec" => first | assumption | decide | (simp only [List.size_toArray, List.length_append, List.length_cons, List.length_nil, bne_iff_ne, ne_eq, beq_iff_eq, Bool.not_eq_true, Decidable.not_not, decide_eq_true_eq, decide_eq_false_iff_not, Bool.not_true, Bool.not_false, reduceCtorEq, not_false_eq_true, not_true_eq_false]; done) | (simp only [List.size_toArray, List.length_append, List.length_cons, List.length_nil, bne_iff_ne, ne_eq, beq_iff_eq, Bool.not_eq_true, Decidable.not_not, decide_eq_true_eq, decide_eq_false_iff_not]; omega))
  (k_with "ite" => (k_here; first | rw [if_pos (by walk_at "jx dec")] | rw [if_neg (by walk_at "jx dec")]))
  exact trivial
theorem jxSigns_rows2 : True := by
  (k_with "jx cut" => with_reducible first | exact cutL_from _ _ | exact cutL_to _ _ | exact cutL_mid _ _ _ | exact cutL_last _ _ (by decide) | exact cutL_but _ _ _ (by decide) | exact cut_all _ | exact cut_from _ _ | exact cut_to _ _ | exact cut_mid _ _ _)
  (k_with "jx len" => first | omega | (simp only [List.length_append, List.length_cons, List.length_nil, List.length_take, List.length_drop, List.length_replicate, List.length_map, List.length_reverse]; omega))
  (k_with "binaryOp Add bytes bytes" => (k_here; (with_reducible show wpAny _ _ (binaryOp Operator.Add (Value.bytes (List.toArray _) _) (Value.bytes (List.toArray _) _)) _ _ _); (refine jb_add (by walk_at "jx len") ?_); intro _ _))
  (k_with "call builtin:len" => (k_here; (with_reducible show wpAny _ _ (call (Value.builtin "len") [Value.bytes (List.toArray _) _]) _ _ _); (refine jb_len (by walk_at "jx len") ?_); intro _ _))
  (k_with "compareOp Eq bytes bytes" => refine jb_eq ?_)
  (k_with "compareOp NotEq bytes bytes" => refine jb_ne ?_)
  (k_with "subscriptTail" => (k_here; (with_reducible show wpAny _ _ (subscriptTail _ (Expr.Slice _ _ none _) (Value.bytes (List.toArray _) _) (Value.ref _)) _ _ _); (with_reducible rename Fr _ _ _ _ => F'); (with_reducible rename News _ _ _ _ => N'); (refine jb_slice (s := ⟨_, _, _, _, _⟩) F' N' (by constructor) (by constructor) (by walk_at "jx len") (by walk_at "jx cut") ?_); intro _ _ _ _ _))
  (k_with "subscriptTail" => (k_here; (with_reducible show wpAny _ _ (subscriptTail _ _ (Value.bytes (List.toArray _) _) (Value.int _ _)) _ _ _); (refine KBy.item_N (by walk_at "jx len") (by walk_at "jx len") (by walk_at "jx len") ?_)))
  (k_with "eval Constant int" => (k_here; refine wpAny_Constant_int ?_; (try dsimp only)))
  exact trivial
noncomputable def sg (l : List UInt8) : Str := ⟨(l.map fun b => 48 + b.toNat).toArray⟩
noncomputable def sgI (b : Int) : Str := if b = 1 then sg [1] else sg [0]
theorem bit_ite {b : Int} {prog : Program} {w : World} {A : Around} {e1 e2 : Env} {p1 p2 : Pos} {K E : Value → Shared → Prop} {s : Shared} (h : ∀ t tk, K (.str (sgI b) t) { s with toks := tk }) :
    if (b == 1) = true then wpAny (model prog w) A (eval (Expr.Constant (Const.str (Str.ofString "1")) 0 p1) e1) K E s else wpAny (model prog w) A (eval (Expr.Constant (Const.str (Str.ofString "0")) 0 p2) e2) K E s := by
  by_cases q : b = 1
  · rw [if_pos (by rw [q]; rfl)]
    unfold sgI at h
    rw [if_pos q] at h
    exact Calls.Constant_str (h _ _)
  · rw [if_neg (by simpa using q)]
    unfold sgI at h
    rw [if_neg q] at h
    exact Calls.Constant_str (h _ _)
theorem sg_append (a b : List UInt8) : sg (a ++ b) = sg a ++ sg b := by
  show (⟨_⟩ : Str) = ⟨_ ++ _⟩
  simp [sg]
theorem str_assoc (a b c : Str) : a ++ b ++ c = a ++ (b ++ c) := by
  show (⟨(a.cps ++ b.cps) ++ c.cps⟩ : Str) = ⟨a.cps ++ (b.cps ++ c.cps)⟩
  rw [Array.append_assoc]
theorem signs8 {k : Int} (a : Str) (h0 : 0 ≤ k) (h1 : k < 256) {e0 e1 e2 e3 e4 e5 e6 e7 : Nat} (i0 : e0 = 7) (i1 : e1 = 6) (i2 : e2 = 5) (i3 : e3 = 4) (i4 : e4 = 3) (i5 : e5 = 2) (i6 : e6 = 1) (i7 : e7 = 0) :
    a ++ sgI ((k.fdiv (2 ^ e0)).fmod 2) ++ sgI ((k.fdiv (2 ^ e1)).fmod 2) ++ sgI ((k.fdiv (2 ^ e2)).fmod 2) ++ sgI ((k.fdiv (2 ^ e3)).fmod 2) ++ sgI ((k.fdiv (2 ^ e4)).fmod 2) ++ sgI ((k.fdiv (2 ^ e5)).fmod 2) ++ sgI ((k.fdiv (2 ^ e6)).fmod 2) ++ sgI ((k.fdiv (2 ^ e7)).fmod 2) = a ++ sg (bitsOf (UInt8.ofNat k.toNat)) := by
  subst i0 i1 i2 i3 i4 i5 i6 i7
  have key : ∀ n : Fin 256, sgI (((n.val : Int).fdiv (2 ^ 7)).fmod 2) ++ sgI (((n.val : Int).fdiv (2 ^ 6)).fmod 2) ++ sgI (((n.val : Int).fdiv (2 ^ 5)).fmod 2) ++ sgI (((n.val : Int).fdiv (2 ^ 4)).fmod 2) ++ sgI (((n.val : Int).fdiv (2 ^ 3)).fmod 2) ++ sgI (((n.val : Int).fdiv (2 ^ 2)).fmod 2) ++ sgI (((n.val : Int).fdiv (2 ^ 1)).fmod 2) ++ sgI (((n.val : Int).fdiv (2 ^ 0)).fmod 2) = sg (bitsOf (UInt8.ofNat n.val)) := by decide +kernel
  have := key ⟨k.toNat, by omega⟩
  rw [show (((⟨k.toNat, by omega⟩ : Fin 256).val : Nat) : Int) = k from Int.toNat_of_nonneg h0] at this
  show _ = a ++ sg (bitsOf (UInt8.ofNat (⟨k.toNat, by omega⟩ : Fin 256).val))
  rw [← this]
  simp only [str_assoc]
theorem str_len (a b : Str) : (a ++ b).length = a.length + b.length := by
  show (a.cps ++ b.cps).size = _
  rw [Array.size_append]; rfl
theorem sg_len (l : List UInt8) : (sg l).length = l.length := by
  show (l.map _).toArray.size = _
  rw [List.size_toArray, List.length_map]
theorem sgI_len (b : Int) : (sgI b).length = 1 := by
  unfold sgI
  by_cases q : b = 1
  · rw [if_pos q]; rfl
  · rw [if_neg q]; rfl
section
open KBw
variable {prog : Program} {w : World} {A : Around} {E : Value → Shared → Prop} {s : Shared} {env : Env} {h₀ : Heap} {x : PySem.Str} {body : List Stmt} {Q : Flow → Shared → Prop} {b : Array UInt8} {tb : Tok} {ks : List Int}
  {m₀ : PySem.Str → Option Value} {news : List (Addr × Obj)}
theorem map_oneY {x y y' : Str} {m₁ m₀ : Str → Option Value} {v u : Value} (ha : m₁ y = some u) (hm : ∀ z, z ≠ x → z ≠ y → z ≠ y' → m₁ z = m₀ z) :
    (fun z => if z = x then some v else m₁ z) = fun z => if z = x then some v else if z = y then some u else if z = y' then m₁ y' else m₀ z := by
  funext z
  by_cases h1 : z = x
  · rw [if_pos h1, if_pos h1]
  · rw [if_neg h1, if_neg h1]
    by_cases h2 : z = y
    · rw [if_pos h2, h2, ha]
    · rw [if_neg h2]
      by_cases h3 : z = y'
      · rw [if_pos h3, h3]
      · rw [if_neg h3, hm z h1 h2 h3]
/-- a loop over octets with one name that holds V i behind i turns, and one that holds anything -/
theorem bytes_idx (V : Nat → Tok → Value) (y y' : Str) {tc : Tok}
    (hk : bInts b = ks) (hh : A.handled = none) (F : Fr h₀ env.locals s.heap m₀) (N : News h₀ env.locals s.heap news) (hy : m₀ y = some (V 0 tc))
    (turn : ∀ i k t ta u h tk own, ks[i]? = some k → 0 ≤ k → k < 256 → OwnOff own (news.map (·.1)) → Fr h₀ env.locals h (fun z => if z = x then some (.int k t) else if z = y then some (V i ta) else if z = y' then u else m₀ z) → News h₀ env.locals h (news ++ own) →
      wpAny (model prog w) A (execs body env) (InvPostN h₀ env.locals (fun m' nx => nx = news ∧ (∃ t', m' y = some (V (i + 1) t')) ∧ ∀ z, z ≠ x → z ≠ y → z ≠ y' → m' z = m₀ z) own (news.map (·.1)) { s with heap := h, toks := tk } Q) E { s with heap := h, toks := tk })
    (done : ∀ (u : Option Value) (v : PySem.Str → Option Value) t h tk, Fr h₀ env.locals h (fun z => if z = x then v z else if z = y then some (V ks.length t) else if z = y' then u else m₀ z) → News h₀ env.locals h news → Q .next { s with heap := h, toks := tk }) :
    wpAny (model prog w) A (pyIter (.bytes b tb)) (fun it s₂ => LoopAtV prog w A h₀ env x body Q E it s₂) E s := by
  refine KBmo.iter_bytesN (fun i m nx => nx = news ∧ (∃ t, m y = some (V i t)) ∧ ∀ z, z ≠ x → z ≠ y → z ≠ y' → m z = m₀ z) hk hh F N ⟨rfl, ⟨tc, hy⟩, fun _ _ _ _ => rfl⟩ ?_ ?_
  · rintro i k t m₁ nx h tk own hm0 h0 h1 hoff ⟨rfl, ⟨ta, ha⟩, hm⟩ F₁ N₁
    rw [map_oneY ha hm] at F₁
    exact turn i k t ta _ h tk own hm0 h0 h1 hoff F₁ N₁
  · rintro m₁ nx h tk ⟨rfl, ⟨t, ha⟩, hm⟩ F₁ N₁
    refine done (m₁ y') m₁ t h tk ?_ N₁
    have e : (fun z => if z = x then m₁ z else if z = y then some (V ks.length t) else if z = y' then m₁ y' else m₀ z) = m₁ := by
      funext z
      by_cases h1 : z = x
      · rw [if_pos h1]
      · rw [if_neg h1]
        by_cases h2 : z = y
        · rw [if_pos h2, h2, ha]
        · rw [if_neg h2]
          by_cases h3 : z = y'
          · rw [if_pos h3, h3]
          · rw [if_neg h3, hm z h1 h2 h3]
    rw [e]; exact F₁
end
theorem take_snoc {o : List UInt8} {i : Nat} {k : Int} (h : (KBw.bInts o.toArray)[i]? = some k) : ∃ c : UInt8, k = ((c.toNat : Nat) : Int) ∧ o.take (i + 1) = o.take i ++ [c] ∧ i < o.length := by
  rw [KBw.ints_list, List.getElem?_map] at h
  cases e : o[i]? with
  | none => rw [e] at h; cases h
  | some c =>
    rw [e] at h
    refine ⟨c, (Option.some.inj h).symm, ?_, ?_⟩
    · rw [List.take_add_one, e]; rfl
    · rcases Nat.lt_or_ge i o.length with q | q
      · exact q
      · rw [List.getElem?_eq_none q] at e; cases e
theorem jxSigns_rows3 : True := by
  (k_with "ite" => (k_here; refine bit_ite ?_; intro _ _))
  (k_with "binaryOp Add str str" => (k_here; k_dflt (refine add_str ?_ ?hsz; (case hsz => (simp only [str_len, sg_len, sgI_len, bitsAll_length, List.length_take, sizeLine_eq]; omega)); intro _ _)))
  (k_with "pyIter ref" => (k_here; (with_reducible rename Fr _ _ _ _ => lF'); (with_reducible rename News _ _ _ _ => lN'); (rename IsRange _ _ _ _ _ _ _ _ => lR'); (with_unfolding_all refine iter_rangeUnr (n := 8) (by rfl) lR' (by first | decide | rfl) (by first | decide | rfl) lF' lN' ?_); clear lF' lN'; intro i' l1; replace l1 := fun p hp => Nat.ne_of_lt (l1 p hp)))
  (k_with "UnrEnd" => (refine UnrEnd.intro (by assumption) (by assumption) _ (fun p hp => hp) (by assumption) ?_))
  exact trivial
theorem signs_ok (w : World) (o : List UInt8) (t1 : Tok) (hz : o.length ≤ 300) : Tell 2 w 212 [.bytes o.toArray t1] (fun v => ∃ t, v = .str (sg (bitsAll o)) t) := by
  unfold Tell
  refine (show (kfrag = kfrag → _) → _ from fun hh => hh rfl) ?_
  k_fill
  w_on
  intro _
  intro mean mg mb dp un gd cn cs a ccd cl outer A₀ base h₀ L m news s Q E ⟨B, F, X, N, T, hk, hd, hu⟩ hret
  refine wpAny_call (code_def (name := Str.ofString "_law_signs") (params := fnP34) (body := fnB34) (scope := fnS34) (binds := [(Str.ofString "octets", .bytes o.toArray t1)]) B F X N T rfl rfl hk (by k_is) (by k_is) (by ktr_room) (BindsTo.of_eq rfl) (locs rfl) ?_ rfl rfl rfl (by decide))
  intro g' L' h' FG' F' N' B' X' T'
  dsimp only [fnB34, fnS34, List.length, List.reverse, List.reverseAux] at F' ⊢

  k_fold
  k_steps
  refine bytes_idx (V := fun i t => .str (sg (bitsAll (o.take i))) t) (Str.ofString "signs") (Str.ofString "k") rfl rfl (by assumption) (by assumption) rfl ?turn ?done
  case turn =>
    intro i k t ta u h tk own hik h0 h1 ho F1 N1
    obtain ⟨c, hc, hs, hi⟩ := take_snoc hik
    k_steps
    with_reducible rename Fr _ _ _ _ => F2
    with_reducible rename News _ _ _ _ => N2
    exact ⟨_, _, _, _, news, rfl, F2, N2, fun p hp => List.mem_append_left _ hp, fun p hp => List.mem_append_right _ hp, rfl, rfl, ⟨_, congrArg (fun z => some (Value.str z _)) ((signs8 _ h0 h1 rfl rfl rfl rfl rfl rfl rfl rfl).trans (by rw [hs, hc, Int.toNat_natCast, UInt8.ofNat_toNat, bitsAll_append, bitsAll_one, sg_append]))⟩, fun z z1 z2 z3 => by simp [z1, z2, z3]⟩
  case done =>
    intro u v t h tk F1 N1
    rw [show o.take (KBw.bInts o.toArray).length = o by rw [KBw.ints_list, List.length_map, List.take_length]] at F1
    k_steps
    clear_value qk ek
    cell_end hret 0 0
end
-- JxRow
section
theorem jxRow_rows1 : True := by
  k_with_none
  (k_with "jx gg" => first | exact GG.refl _ | assumption | (refine GG.trans ?_ (by assumption); walk_at "jx gg"))
  (k_with "jx asks" => ((case k1 => k_asm); (case k2 => k_asm); (case k3 => k_asm); (case k4 => k_asm); (case k5 => k_asm); (case k6 => first | exact rfl | assumption); (case k7 => ktr_room); (case k8 => ktr_units)))
  (k_with "jx ne" => first | assumption | exact List.forall_mem_nil _ | (refine List.forall_mem_cons.mpr ⟨(by first | assumption | exact fun p9 z9 => absurd (congrArg Obj.cls z9) (by intro y9; cases y9) | exact notTab_cell (by assumption)), ?_⟩; walk_at "jx ne"))
  (k_with "jx backP" => (intro v9 ps9 h9 g9 tk9 R9 t9P F9 N9 G9; (first | (obtain ⟨t9, e9⟩ := R9; subst e9) | subst R9); (try dsimp only); (try k_sweep); (try k_fold)))
  (k_with "jx back" => (intro v9 h9 g9 tk9 R9 F9 N9 G9; (first | (obtain ⟨t9, e9⟩ := R9; subst e9) | subst R9); (try dsimp only); (try k_sweep); (try k_fold)))
  (k_with "jx back0" => (intro v9 h9 tk9 R9 F9 N9; (first | (obtain ⟨t9, e9⟩ := R9; subst e9) | subst R9); (try dsimp only); (try k_sweep); (try k_fold)))
  (k_with "jx dive" => skip)
  (k_with "jx fly0" => (intro e9 t9 xs9 h19 h9 tk9 F9 U9 R9; (try dsimp only); walk_at "jx dive"; (try k_fold)))
  (k_with "jx flyN" => (intro e9 h19 h9 g9 tk9 F9 U9 R9 G9; (try dsimp only); walk_at "jx diveN"; (try k_fold)))
  (k_with "jx diveN" => skip)
  (k_with "jx fly" => (intro e9 t9 xs9 h19 h9 g9 tk9 F9 U9 R9 G9; (try dsimp only); walk_at "jx dive"; (try k_fold)))
  (k_with "jx dec" => first | assumption | decide | (simp only [List.size_toArray, List.length_append, List.length_cons, List.length_nil, bne_iff_ne, ne_eq, beq_iff_eq, Bool.not_eq_true, Decidable.not_not, decide_eq_true_eq, decide_eq_false_iff_not, Bool.not_true, Bool.not_false, reduceCtorEq, not_false_eq_true, not_true_eq_false]; done) | (simp only [List.size_toArray, List.length_append, List.length_cons, List.length_nil, bne_iff_ne, ne_eq, beq_iff_eq, Bool.not_eq_true, Decidable.not_not, decide_eq_true_eq, decide_eq_false_iff_not]; omega))
  (k_with "ite" => (k_here; first | rw [if_pos (by walk_at "jx dec")] | rw [if_neg (by walk_at "jx dec")]))
  exact trivial
theorem jxRow_rows2 : True := by
  (k_with "jx cut" => with_reducible first | exact cutL_from _ _ | exact cutL_to _ _ | exact cutL_mid _ _ _ | exact cutL_last _ _ (by decide) | exact cutL_but _ _ _ (by decide) | exact cut_all _ | exact cut_from _ _ | exact cut_to _ _ | exact cut_mid _ _ _)
  (k_with "jx len" => first | omega | (simp only [List.length_append, List.length_cons, List.length_nil, List.length_take, List.length_drop, List.length_replicate, List.length_map, List.length_reverse]; omega))
  (k_with "binaryOp Add bytes bytes" => (k_here; (with_reducible show wpAny _ _ (binaryOp Operator.Add (Value.bytes (List.toArray _) _) (Value.bytes (List.toArray _) _)) _ _ _); (refine jb_add (by walk_at "jx len") ?_); intro _ _))
  (k_with "call builtin:len" => (k_here; (with_reducible show wpAny _ _ (call (Value.builtin "len") [Value.bytes (List.toArray _) _]) _ _ _); (refine jb_len (by walk_at "jx len") ?_); intro _ _))
  (k_with "compareOp Eq bytes bytes" => refine jb_eq ?_)
  (k_with "compareOp NotEq bytes bytes" => refine jb_ne ?_)
  (k_with "subscriptTail" => (k_here; (with_reducible show wpAny _ _ (subscriptTail _ (Expr.Slice _ _ none _) (Value.bytes (List.toArray _) _) (Value.ref _)) _ _ _); (with_reducible rename Fr _ _ _ _ => F'); (with_reducible rename News _ _ _ _ => N'); (refine jb_slice (s := ⟨_, _, _, _, _⟩) F' N' (by constructor) (by constructor) (by walk_at "jx len") (by walk_at "jx cut") ?_); intro _ _ _ _ _))
  (k_with "subscriptTail" => (k_here; (with_reducible show wpAny _ _ (subscriptTail _ _ (Value.bytes (List.toArray _) _) (Value.int _ _)) _ _ _); (refine KBy.item_N (by walk_at "jx len") (by walk_at "jx len") (by walk_at "jx len") ?_)))
  (k_with "eval Constant int" => (k_here; refine wpAny_Constant_int ?_; (try dsimp only)))
  (k_with "call type:bytes" => (k_here; (with_reducible show wpAny _ _ (call (Value.type "bytes") [Value.ref _]) _ _ _); k_dflt (refine' KBa.make_K (vs := _) ?k1 ?k2 ?k3 ?k4 ?k5 ?k6 ?k7 ?_; (case k1 => k_asm); (case k2 => k_asm); (case k3 => exact rfl); (case k4 => assumption); (case k5 => exact CarriedAll.intsOf (by assumption)); (case k6 => walk_at "jx in"); (case k7 => walk_at "jx len")); intro h9 t9 k9 F9 N9 _; (try dsimp only); (try k_sweep); (try k_fold)))
  exact trivial
noncomputable def sb (x : Str) : Int := if x = Str.ofString "1" then 1 else 0
theorem sb_signs (l : List UInt8) (hb : IsBits l) : (((signs (sg l)).filter fun _ => true).map fun x => sb x) = l.map fun c => ((c.toNat : Nat) : Int) := by
  rw [List.filter_eq_self.mpr (fun _ _ => rfl)]
  unfold signs sg
  rw [List.map_map, List.map_map]
  refine List.map_congr_left fun c hc => ?_
  rcases hb c hc with rfl | rfl
  · show sb ⟨#[48 + (0 : UInt8).toNat]⟩ = _
    decide +kernel
  · show sb ⟨#[48 + (1 : UInt8).toNat]⟩ = _
    decide +kernel
theorem in_row (l : List UInt8) : KBa.In (l.map fun c => ((c.toNat : Nat) : Int)) := fun k hk => by
  obtain ⟨c, _, rfl⟩ := List.mem_map.mp hk
  exact ⟨Int.natCast_nonneg _, by have := c.toNat_lt; omega⟩
theorem jxRow_rows3 : True := by
  (k_with "jx in" => (rw [sb_signs _ (by assumption)]; exact in_row _))
  (k_with "jx len" => (rw [sb_signs _ (by assumption), List.length_map]; omega))
  exact trivial
theorem row_ok (w : World) (l : List UInt8) (t1 : Tok) (hz : l.length ≤ 2400) (hb : IsBits l) : Tell 2 w 217 [.str (sg l) t1] (fun v => ∃ t, v = .bytes l.toArray t) := by
  unfold Tell
  refine (show (kfrag = kfrag → _) → _ from fun hh => hh rfl) ?_
  k_fill
  w_on
  intro _
  intro mean mg mb dp un gd cn cs a ccd cl outer A₀ base h₀ L m news s Q E ⟨B, F, X, N, T, hk, hd, hu⟩ hret
  refine wpAny_call (code_def (name := Str.ofString "_law_row") (params := fnP35) (body := fnB35) (scope := fnS35) (binds := [(Str.ofString "signs", .str (sg l) t1)]) B F X N T rfl rfl hk (by k_is) (by k_is) (by ktr_room) (BindsTo.of_eq rfl) (locs rfl) ?_ rfl rfl rfl (by decide))
  intro g' L' h' FG' F' N' B' X' T'
  dsimp only [fnB35, fnS35, List.length, List.reverse, List.reverseAux] at F' ⊢

  k_fold
  k_steps
  refine srcC_signsD (pz := fun _ => true) (d := fun x => PyData.int (sb x)) rfl (by assumption) (by assumption) ?g1 ?g2 ?g3 (by rw [sg_len, sizeLine_eq]; omega)
  case g1 =>
    intro C a v s₂ m₂ E' _ _ _ _
    exact wpAny_pure ⟨rfl, _, _, rfl, fun _ _ e => e⟩
  case g2 =>
    intro C a v s₂ m₂ E' ha hp hn hm _
    obtain ⟨t, rfl⟩ := ha
    k_steps
    all_goals first | exact ⟨_, _, rfl, fun _ _ e => e⟩ | skip
    · have h1 : sb a = 1 := if_pos (by first | assumption | exact eq_of_beq (by assumption))
      rw [h1]; exact .int _ _
    · have h1 : sb a = 0 := if_neg (by first | assumption | exact ne_of_beq_false (by assumption) | (intro z; rename _ = false => hz9; rw [z] at hz9; exact absurd hz9 (by decide)) | (intro z; rename ¬ _ = true => hz9; rw [z] at hz9; exact hz9 (by decide)))
      rw [h1]; exact .int _ _
  case g3 =>
    intro D ys h' tk F1 N1 hD hl hpl hc
    k_steps
    rw [sb_signs _ hb, byteArr_row]
    clear_value qk ek
    cell_end hret 0 0
end
-- JxRead0
section
theorem jxRead0_rows1 : True := by
  k_with_none
  (k_with "jx gg" => first | exact GG.refl _ | assumption | (refine GG.trans ?_ (by assumption); walk_at "jx gg"))
  (k_with "jx asks" => ((case k1 => k_asm); (case k2 => k_asm); (case k3 => k_asm); (case k4 => k_asm); (case k5 => k_asm); (case k6 => first | exact rfl | assumption); (case k7 => ktr_room); (case k8 => ktr_units)))
  (k_with "jx ne" => first | assumption | exact List.forall_mem_nil _ | (refine List.forall_mem_cons.mpr ⟨(by first | assumption | exact fun p9 z9 => absurd (congrArg Obj.cls z9) (by intro y9; cases y9) | exact notTab_cell (by assumption)), ?_⟩; walk_at "jx ne"))
  (k_with "jx backP" => (intro v9 ps9 h9 g9 tk9 R9 t9P F9 N9 G9; (first | (obtain ⟨t9, e9⟩ := R9; subst e9) | subst R9); (try dsimp only); (try k_sweep); (try k_fold)))
  (k_with "jx back" => (intro v9 h9 g9 tk9 R9 F9 N9 G9; (first | (obtain ⟨t9, e9⟩ := R9; subst e9) | subst R9); (try dsimp only); (try k_sweep); (try k_fold)))
  (k_with "jx back0" => (intro v9 h9 tk9 R9 F9 N9; (first | (obtain ⟨t9, e9⟩ := R9; subst e9) | subst R9); (try dsimp only); (try k_sweep); (try k_fold)))
  (k_with "jx dive" => skip)
  (k_with "jx fly0" => (intro e9 t9 xs9 h19 h9 tk9 F9 U9 R9; (try dsimp only); walk_at "jx dive"; (try k_fold)))
  (k_with "jx flyN" => (intro e9 h19 h9 g9 tk9 F9 U9 R9 G9; (try dsimp only); walk_at "jx diveN"; (try k_fold)))
  (k_with "jx diveN" => skip)
  (k_with "jx fly" => (intro e9 t9 xs9 h19 h9 g9 tk9 F9 U9 R9 G9; (try dsimp only); walk_at "jx dive"; (try k_fold)))
  (k_with "jx dec" => first | assumption | decide | (simp only [List.size_toArray, List.length_append, List.length_cons, List.length_nil, bne_iff_ne, ne_eq, beq_iff_eq, Bool.not_eq_true, Decidable.not_not, decide_eq_true_eq, decide_eq_false_iff_not, Bool.not_true, Bool.not_false, reduceCtorEq, not_false_eq_true, not_true_eq_false]; done) | (simp only [List.size_toArray, List.length_append, List.length_cons, List.length_nil, bne_iff_ne, ne_eq, beq_iff_eq, Bool.not_eq_true, Decidable.not_not, decide_eq_true_eq, decide_eq_false_iff_not]; omega))
  (k_with "ite" => (k_here; first | rw [if_pos (by walk_at "jx dec")] | rw [if_neg (by walk_at "jx dec")]))
  exact trivial
theorem jxRead0_rows2 : True := by
  (k_with "jx cut" => with_reducible first | exact cutL_from _ _ | exact cutL_to _ _ | exact cutL_mid _ _ _ | exact cutL_last _ _ (by decide) | exact cutL_but _ _ _ (by decide) | exact cut_all _ | exact cut_from _ _ | exact cut_to _ _ | exact cut_mid _ _ _)
  (k_with "jx len" => first | omega | (simp only [List.length_append, List.length_cons, List.length_nil, List.length_take, List.length_drop, List.length_replicate, List.length_map, List.length_reverse]; omega))
  (k_with "binaryOp Add bytes bytes" => (k_here; (with_reducible show wpAny _ _ (binaryOp Operator.Add (Value.bytes (List.toArray _) _) (Value.bytes (List.toArray _) _)) _ _ _); (refine jb_add (by walk_at "jx len") ?_); intro _ _))
  (k_with "call builtin:len" => (k_here; (with_reducible show wpAny _ _ (call (Value.builtin "len") [Value.bytes (List.toArray _) _]) _ _ _); (refine jb_len (by walk_at "jx len") ?_); intro _ _))
  (k_with "compareOp Eq bytes bytes" => refine jb_eq ?_)
  (k_with "compareOp NotEq bytes bytes" => refine jb_ne ?_)
  (k_with "subscriptTail" => (k_here; (with_reducible show wpAny _ _ (subscriptTail _ (Expr.Slice _ _ none _) (Value.bytes (List.toArray _) _) (Value.ref _)) _ _ _); (with_reducible rename Fr _ _ _ _ => F'); (with_reducible rename News _ _ _ _ => N'); (refine jb_slice (s := ⟨_, _, _, _, _⟩) F' N' (by constructor) (by constructor) (by walk_at "jx len") (by walk_at "jx cut") ?_); intro _ _ _ _ _))
  (k_with "subscriptTail" => (k_here; (with_reducible show wpAny _ _ (subscriptTail _ _ (Value.bytes (List.toArray _) _) (Value.int _ _)) _ _ _); (refine KBy.item_N (by walk_at "jx len") (by walk_at "jx len") (by walk_at "jx len") ?_)))
  (k_with "eval Constant int" => (k_here; refine wpAny_Constant_int ?_; (try dsimp only)))
  exact trivial
theorem sg_cps (l : List UInt8) : (sg l).cps.toList = l.map fun b => 48 + b.toNat := rfl
theorem sg_mk {l : List UInt8} {x : Str} (h : x.cps.toList = l.map fun b => 48 + b.toNat) : x = sg l := by
  show x = ⟨_⟩
  rw [← h]
theorem sl_cut {l : List UInt8} {i j : Int} (h : 0 ≤ i ∧ i ≤ j ∧ j ≤ l.length) : Txt.slice (sg l) (some i) (some j) = sg ((l.drop i.toNat).take (j - i).toNat) := by
  refine sg_mk ?_
  rw [eq_of_beq (slice_closes (x := sg l) (i := i) (j := j) (by rw [sg_cps, List.length_map]; exact h))]
  show (((sg l).cps.toList.drop i.toNat).take (j - i).toNat) = _
  rw [sg_cps, List.map_take, List.map_drop]
theorem sl_to {l : List UInt8} {j : Int} (h : 0 ≤ j ∧ j ≤ l.length) : Txt.slice (sg l) none (some j) = sg (l.take j.toNat) := by
  refine sg_mk ?_
  rw [eq_of_beq (slice_closes_to (x := sg l) (j := j) (by rw [sg_cps, List.length_map]; exact h))]
  show (((sg l).cps.toList.drop (0 : Int).toNat).take (j - 0).toNat) = _
  rw [sg_cps, List.map_take, Int.sub_zero]
  rfl
theorem sl_from {l : List UInt8} {i : Int} (h : 0 ≤ i) : Txt.slice (sg l) (some i) none = sg (l.drop i.toNat) := by
  by_cases q : i ≤ l.length
  · refine sg_mk ?_
    rw [slice_from_eq (x := sg l) (b := l.length) h (by rw [sg_len]; exact q) (by rw [sg_len])]
    show (((sg l).cps.toList.drop i.toNat).take (((l.length : Nat) : Int) - i).toNat) = _
    rw [sg_cps, List.map_drop, List.take_of_length_le]
    rw [List.length_drop, List.length_map]
    omega
  · rw [slice_from_beyond (by rw [sg_len]; omega), List.drop_eq_nil_of_le (by omega)]
    rfl
theorem it_zero {l : List UInt8} (hb : IsBits l) (h : 0 < l.length) : (Txt.item (sg l) 0 == Str.ofString "1") = decide (l.getD 0 0 = 1) := by
  match l, h with
  | c :: r, _ =>
    have e : Txt.item (sg (c :: r)) 0 = ⟨#[48 + c.toNat]⟩ := by
      show (⟨#[((seqIndex? 0 (sg (c :: r)).length).bind ((sg (c :: r)).cps[·]?)).getD 0]⟩ : Str) = _
      rw [sg_len]
      have : seqIndex? 0 (c :: r).length = some 0 := by
        show (if (0 ≤ (0 : Int) && decide ((0 : Int) < ((c :: r).length : Nat))) = true then some ((0 : Int).toNat) else none) = some 0
        rw [if_pos (by rw [List.length_cons, Bool.and_eq_true, decide_eq_true_iff, decide_eq_true_iff]; omega)]
        rfl
      rw [this]
      rfl
    rw [e]
    rcases hb c (List.Mem.head _) with rfl | rfl
    · show _ = decide ((0 : UInt8) = 1)
      decide +kernel
    · show _ = decide ((1 : UInt8) = 1)
      decide +kernel
theorem four {l : List UInt8} (h : 4 ≤ l.length) : ∃ a b c d r, l = a :: b :: c :: d :: r := by
  match l, h with
  | a :: b :: c :: d :: r, _ => exact ⟨a, b, c, d, r, rfl⟩
theorem key_goal {P : Str → Prop} {l : List UInt8} (hb : IsBits l) (h4 : 4 ≤ l.length)
    (h00 : 2 * (l.getD 2 0).toNat + (l.getD 3 0).toNat = 0 → P (Str.ofString "00")) (h01 : 2 * (l.getD 2 0).toNat + (l.getD 3 0).toNat = 1 → P (Str.ofString "01"))
    (h10 : 2 * (l.getD 2 0).toNat + (l.getD 3 0).toNat = 2 → P (Str.ofString "10")) (h11 : 2 * (l.getD 2 0).toNat + (l.getD 3 0).toNat = 3 → P (Str.ofString "11")) : P (Txt.slice (sg l) (some 2) (some 4)) := by
  rw [sl_cut (by omega)]
  obtain ⟨a, b, c, d, r, rfl⟩ := four h4
  have e : ((a :: b :: c :: d :: r).drop (2 : Int).toNat).take ((4 : Int) - 2).toNat = [c, d] := rfl
  rw [e]
  have hc := hb c (by simp)
  have hd := hb d (by simp)
  rcases hc with rfl | rfl <;> rcases hd with rfl | rfl
  · rw [show sg [0, 0] = Str.ofString "00" by decide +kernel]; exact h00 rfl
  · rw [show sg [0, 1] = Str.ofString "01" by decide +kernel]; exact h01 rfl
  · rw [show sg [1, 0] = Str.ofString "10" by decide +kernel]; exact h10 rfl
  · rw [show sg [1, 1] = Str.ofString "11" by decide +kernel]; exact h11 rfl
theorem two_ne {l : List UInt8} (hb : IsBits l) (h4 : 4 ≤ l.length) : (Txt.slice (sg l) none (some 2) != Str.ofString "00") = !decide (l.take 2 = [0, 0]) := by
  rw [sl_to (by omega)]
  obtain ⟨a, b, c, d, r, rfl⟩ := four h4
  have e : (a :: b :: c :: d :: r).take (2 : Int).toNat = [a, b] := rfl
  rw [e]
  show _ = !decide ([a, b] = [0, 0])
  have hc := hb a (by simp)
  have hd := hb b (by simp)
  rcases hc with rfl | rfl <;> rcases hd with rfl | rfl <;> decide +kernel
noncomputable def decR (p : List UInt8) : Option (List UInt8) := if p.take 2 = [0, 0] then some (p.drop (4 + (4 - (2 * (p.getD 2 0).toNat + (p.getD 3 0).toNat)) % 4)) else none
theorem bits4 {o : List UInt8} (h : 0 < o.length) : 4 ≤ (bitsAll o).length := by rw [bitsAll_length]; omega
theorem bits44 {o : List UInt8} (h : 0 < o.length) : 4 ≤ ((bitsAll o).drop 4).length := by rw [List.length_drop, bitsAll_length]; omega
theorem sl4 {o : List UInt8} : Txt.slice (sg (bitsAll o)) (some 4) none = sg ((bitsAll o).drop 4) := sl_from (by decide)
theorem sl40 {l : List UInt8} : Txt.slice (sg l) (some (4 + 0)) none = sg (l.drop 4) := sl_from (by decide)
theorem sl41 {l : List UInt8} : Txt.slice (sg l) (some (4 + 1)) none = sg (l.drop 5) := sl_from (by decide)
theorem sl42 {l : List UInt8} : Txt.slice (sg l) (some (4 + 2)) none = sg (l.drop 6) := sl_from (by decide)
theorem sl43 {l : List UInt8} : Txt.slice (sg l) (some (4 + 3)) none = sg (l.drop 7) := sl_from (by decide)
theorem dec_1 {o : List UInt8} (h0 : 0 < o.length) (hi : (Txt.item (sg (bitsAll o)) 0 == Str.ofString "1") = true) : dec o = decR ((bitsAll o).drop 4) := by
  rw [it_zero (bitsAll_isBits o) (by rw [bitsAll_length]; omega), decide_eq_true_iff] at hi
  show decR (if (bitsAll o).getD 0 0 = 1 then (bitsAll o).drop 4 else bitsAll o) = _
  rw [if_pos hi]
theorem dec_0 {o : List UInt8} (h0 : 0 < o.length) (hi : (Txt.item (sg (bitsAll o)) 0 == Str.ofString "1") = false) : dec o = decR (bitsAll o) := by
  rw [it_zero (bitsAll_isBits o) (by rw [bitsAll_length]; omega), decide_eq_false_iff_not] at hi
  show decR (if (bitsAll o).getD 0 0 = 1 then (bitsAll o).drop 4 else bitsAll o) = _
  rw [if_neg hi]
theorem decR_n {p : List UInt8} (hb : IsBits p) (h4 : 4 ≤ p.length) (h : (Txt.slice (sg p) none (some 2) != Str.ofString "00") = true) : decR p = none := by
  rw [two_ne hb h4, Bool.not_eq_true', decide_eq_false_iff_not] at h
  exact if_neg h
theorem decR_s {p : List UInt8} (hb : IsBits p) (h4 : 4 ≤ p.length) (h : (Txt.slice (sg p) none (some 2) != Str.ofString "00") = false) {k j : Nat} (hk : 2 * (p.getD 2 0).toNat + (p.getD 3 0).toNat = k) (hj : 4 + (4 - k) % 4 = j) : decR p = some (p.drop j) := by
  rw [two_ne hb h4, Bool.not_eq_false', decide_eq_true_iff] at h
  unfold decR
  rw [if_pos h, hk, hj]
noncomputable def Nz (o : List UInt8) : Prop := 0 < o.length
theorem end_1n {o : List UInt8} (h0 : Nz o) (hi : (Txt.item (sg (bitsAll o)) 0 == Str.ofString "1") = true) (h : (Txt.slice (Txt.slice (sg (bitsAll o)) (some 4) none) none (some 2) != Str.ofString "00") = true) : decV (dec o) .none := by
  rw [sl4] at h
  rw [dec_1 h0 hi, decR_n ((bitsAll_isBits o).drop 4) (bits44 h0) h]
  rfl
theorem end_0n {o : List UInt8} (h0 : Nz o) (hi : (Txt.item (sg (bitsAll o)) 0 == Str.ofString "1") = false) (h : (Txt.slice (sg (bitsAll o)) none (some 2) != Str.ofString "00") = true) : decV (dec o) .none := by
  rw [dec_0 h0 hi, decR_n (bitsAll_isBits o) (bits4 h0) h]
  rfl
theorem end_1s {o : List UInt8} (h0 : Nz o) (hi : (Txt.item (sg (bitsAll o)) 0 == Str.ofString "1") = true) (h : (Txt.slice (Txt.slice (sg (bitsAll o)) (some 4) none) none (some 2) != Str.ofString "00") = false) {k j : Nat} {t : Tok} (hk : 2 * (((bitsAll o).drop 4).getD 2 0).toNat + (((bitsAll o).drop 4).getD 3 0).toNat = k) (hj : 4 + (4 - k) % 4 = j) : decV (dec o) (.bytes (((bitsAll o).drop 4).drop j).toArray t) := by
  rw [sl4] at h
  rw [dec_1 h0 hi, decR_s ((bitsAll_isBits o).drop 4) (bits44 h0) h hk hj]
  exact ⟨_, rfl⟩
theorem end_0s {o : List UInt8} (h0 : Nz o) (hi : (Txt.item (sg (bitsAll o)) 0 == Str.ofString "1") = false) (h : (Txt.slice (sg (bitsAll o)) none (some 2) != Str.ofString "00") = false) {k j : Nat} {t : Tok} (hk : 2 * ((bitsAll o).getD 2 0).toNat + ((bitsAll o).getD 3 0).toNat = k) (hj : 4 + (4 - k) % 4 = j) : decV (dec o) (.bytes ((bitsAll o).drop j).toArray t) := by
  rw [dec_0 h0 hi, decR_s (bitsAll_isBits o) (bits4 h0) h hk hj]
  exact ⟨_, rfl⟩
noncomputable def Z200 (o : List UInt8) : Prop := o.length ≤ 200
theorem row_len {o : List UInt8} {j : Nat} (h : Z200 o) : ((bitsAll o).drop j).length ≤ 2400 := by
  unfold Z200 at h
  rw [List.length_drop, bitsAll_length]; omega
theorem row_len2 {o : List UInt8} {i j : Nat} (h : Z200 o) : (((bitsAll o).drop i).drop j).length ≤ 2400 := by
  unfold Z200 at h
  rw [List.length_drop, List.length_drop, bitsAll_length]; omega
theorem sl440 {o : List UInt8} : Txt.slice (Txt.slice (sg (bitsAll o)) (some 4) none) (some (4 + 0)) none = sg (((bitsAll o).drop 4).drop 4) := by rw [sl4]; exact sl40
theorem sl441 {o : List UInt8} : Txt.slice (Txt.slice (sg (bitsAll o)) (some 4) none) (some (4 + 1)) none = sg (((bitsAll o).drop 4).drop 5) := by rw [sl4]; exact sl41
theorem sl442 {o : List UInt8} : Txt.slice (Txt.slice (sg (bitsAll o)) (some 4) none) (some (4 + 2)) none = sg (((bitsAll o).drop 4).drop 6) := by rw [sl4]; exact sl42
theorem sl443 {o : List UInt8} : Txt.slice (Txt.slice (sg (bitsAll o)) (some 4) none) (some (4 + 3)) none = sg (((bitsAll o).drop 4).drop 7) := by rw [sl4]; exact sl43
noncomputable def twoD : List (PyData × PyData) := [(.str (Str.ofString "00"), .int 0), (.str (Str.ofString "01"), .int 3), (.str (Str.ofString "10"), .int 2), (.str (Str.ofString "11"), .int 1)]
theorem sd_two (t0 t1 t2 t3 u0 u1 u2 u3 : Tok) : strData [(.str (Str.ofString "00") t0, .int 0 u0), (.str (Str.ofString "01") t1, .int 3 u1), (.str (Str.ofString "10") t2, .int 2 u2), (.str (Str.ofString "11") t3, .int 1 u3)] = twoD := by kernel_rfl
theorem lk00 : PySem.Spec.lookup (.str (Str.ofString "00")) twoD = some (.int 0) := by kernel_rfl
theorem lk01 : PySem.Spec.lookup (.str (Str.ofString "01")) twoD = some (.int 3) := by kernel_rfl
theorem lk10 : PySem.Spec.lookup (.str (Str.ofString "10")) twoD = some (.int 2) := by kernel_rfl
theorem lk11 : PySem.Spec.lookup (.str (Str.ofString "11")) twoD = some (.int 1) := by kernel_rfl
theorem flat_int {v : Value} {i : Int} (h : PyProof.V.Flat v (.int i)) : ∃ t, v = .int i t := by
  have := h default
  cases this
  exact ⟨_, rfl⟩
section
variable {prog : Program} {w : World} {A : Around} {value slice : Expr} {d L : Addr} {t : Tok} {Q E : Value → Shared → Prop} {s : Shared} {o : List UInt8} {h₀ : Heap} {nws : List (Addr × Obj)} {ob : Obj} {kvs : List (Str × Value)} {D : List (PyData × PyData)}
theorem dict_one {p : List UInt8} (hb : IsBits p) (h4 : 4 ≤ p.length) (N : News h₀ L s.heap nws) (hm : (d, ob) ∈ nws) (lo : (d == sysModules) = false) (hd : ob.IsDictOf (PySem.strKind prog w) kvs) (hf : PyProof.V.FlatPairs PyData.str kvs twoD)
    (h : ∀ (j : Nat) t, j = (4 - (2 * (p.getD 2 0).toNat + (p.getD 3 0).toNat)) % 4 → Q (.int (j : Int) t) { s with toks := s.toks + 1 })
    (hs : ∀ x, subscripted slice false (.ref d) (.str x t) = operate [.ref d, .str x t] (getItem (.ref d) (.str x t))) :
    wpAny (model prog w) A (subscriptTail value slice (.ref d) (.str (Txt.slice (sg p) (some 2) (some 4)) t)) Q E s := by
  have T : StrTab prog w s.heap d twoD := TabAt.ofNews N hm lo hd hf
  refine key_goal (P := fun k => wpAny (model prog w) A (subscriptTail value slice (.ref d) (.str k t)) Q E s) hb h4 ?_ ?_ ?_ ?_
  · intro hk
    refine item_tab_any PyProof.V.same_str (strKind_is prog w _ t) T lk00 (fun v hv => ?_) (hs _)
    obtain ⟨t', rfl⟩ := flat_int hv
    exact h 0 t' (by rw [hk])
  · intro hk
    refine item_tab_any PyProof.V.same_str (strKind_is prog w _ t) T lk01 (fun v hv => ?_) (hs _)
    obtain ⟨t', rfl⟩ := flat_int hv
    exact h 3 t' (by rw [hk])
  · intro hk
    refine item_tab_any PyProof.V.same_str (strKind_is prog w _ t) T lk10 (fun v hv => ?_) (hs _)
    obtain ⟨t', rfl⟩ := flat_int hv
    exact h 2 t' (by rw [hk])
  · intro hk
    refine item_tab_any PyProof.V.same_str (strKind_is prog w _ t) T lk11 (fun v hv => ?_) (hs _)
    obtain ⟨t', rfl⟩ := flat_int hv
    exact h 1 t' (by rw [hk])
theorem dict_0 (h0 : Nz o) (N : News h₀ L s.heap nws) (hm : (d, ob) ∈ nws) (lo : (d == sysModules) = false) (hd : ob.IsDictOf (PySem.strKind prog w) kvs) (hf : PyProof.V.FlatPairs PyData.str kvs D) (hD : D = twoD)
    (h : ∀ (j : Nat) t, j = (4 - (2 * ((bitsAll o).getD 2 0).toNat + ((bitsAll o).getD 3 0).toNat)) % 4 → Q (.int (j : Int) t) { s with toks := s.toks + 1 })
    (hs : ∀ x, subscripted slice false (.ref d) (.str x t) = operate [.ref d, .str x t] (getItem (.ref d) (.str x t)) := by intro _; with_unfolding_all rfl) :
    wpAny (model prog w) A (subscriptTail value slice (.ref d) (.str (Txt.slice (sg (bitsAll o)) (some 2) (some 4)) t)) Q E s := dict_one (bitsAll_isBits o) (bits4 h0) N hm lo hd (hD ▸ hf) h hs
theorem dict_4 (h0 : Nz o) (N : News h₀ L s.heap nws) (hm : (d, ob) ∈ nws) (lo : (d == sysModules) = false) (hd : ob.IsDictOf (PySem.strKind prog w) kvs) (hf : PyProof.V.FlatPairs PyData.str kvs D) (hD : D = twoD)
    (h : ∀ (j : Nat) t, j = (4 - (2 * (((bitsAll o).drop 4).getD 2 0).toNat + (((bitsAll o).drop 4).getD 3 0).toNat)) % 4 → Q (.int (j : Int) t) { s with toks := s.toks + 1 })
    (hs : ∀ x, subscripted slice false (.ref d) (.str x t) = operate [.ref d, .str x t] (getItem (.ref d) (.str x t)) := by intro _; with_unfolding_all rfl) :
    wpAny (model prog w) A (subscriptTail value slice (.ref d) (.str (Txt.slice (Txt.slice (sg (bitsAll o)) (some 4) none) (some 2) (some 4)) t)) Q E s := by
  rw [sl4]
  exact dict_one ((bitsAll_isBits o).drop 4) (bits44 h0) N hm lo hd (hD ▸ hf) h hs
end
theorem slj {l : List UInt8} {j : Nat} : Txt.slice (sg l) (some (4 + (j : Int))) none = sg (l.drop (4 + j)) := by
  rw [sl_from (by omega)]
  congr 2
theorem slj4 {o : List UInt8} {j : Nat} : Txt.slice (Txt.slice (sg (bitsAll o)) (some 4) none) (some (4 + (j : Int))) none = sg (((bitsAll o).drop 4).drop (4 + j)) := by rw [sl4]; exact slj
theorem fin_1 {o : List UInt8} (h0 : Nz o) (hi : (Txt.item (sg (bitsAll o)) 0 == Str.ofString "1") = true) (h : (Txt.slice (Txt.slice (sg (bitsAll o)) (some 4) none) none (some 2) != Str.ofString "00") = false) {j : Nat} {t : Tok} (hj : j = (4 - (2 * (((bitsAll o).drop 4).getD 2 0).toNat + (((bitsAll o).drop 4).getD 3 0).toNat)) % 4) : decV (dec o) (.bytes (((bitsAll o).drop 4).drop (4 + j)).toArray t) := end_1s h0 hi h rfl (by rw [hj])
theorem fin_0 {o : List UInt8} (h0 : Nz o) (hi : (Txt.item (sg (bitsAll o)) 0 == Str.ofString "1") = false) (h : (Txt.slice (sg (bitsAll o)) none (some 2) != Str.ofString "00") = false) {j : Nat} {t : Tok} (hj : j = (4 - (2 * ((bitsAll o).getD 2 0).toNat + ((bitsAll o).getD 3 0).toNat)) % 4) : decV (dec o) (.bytes ((bitsAll o).drop (4 + j)).toArray t) := end_0s h0 hi h rfl (by rw [hj])
theorem row_ok2 (w : World) (x : Str) (l : List UInt8) (t1 : Tok) (hx : x = sg l) (hz : l.length ≤ 2400) (hb : IsBits l) : Tell 2 w 217 [.str x t1] (fun v => ∃ t, v = .bytes l.toArray t) := by
  subst hx
  exact row_ok w l t1 hz hb
end
-- JxRead
section
theorem jxRead_rows1 : True := by
  k_with_none
  (k_with "jx gg" => first | exact GG.refl _ | assumption | (refine GG.trans ?_ (by assumption); walk_at "jx gg"))
  (k_with "jx asks" => ((case k1 => k_asm); (case k2 => k_asm); (case k3 => k_asm); (case k4 => k_asm); (case k5 => k_asm); (case k6 => first | exact rfl | assumption); (case k7 => ktr_room); (case k8 => ktr_units)))
  (k_with "jx ne" => first | assumption | exact List.forall_mem_nil _ | (refine List.forall_mem_cons.mpr ⟨(by first | assumption | exact fun p9 z9 => absurd (congrArg Obj.cls z9) (by intro y9; cases y9) | exact notTab_cell (by assumption)), ?_⟩; walk_at "jx ne"))
  (k_with "jx backP" => (intro v9 ps9 h9 g9 tk9 R9 t9P F9 N9 G9; (first | (obtain ⟨t9, e9⟩ := R9; subst e9) | subst R9); (try dsimp only); (try k_sweep); (try k_fold)))
  (k_with "jx back" => (intro v9 h9 g9 tk9 R9 F9 N9 G9; (first | (obtain ⟨t9, e9⟩ := R9; subst e9) | subst R9); (try dsimp only); (try k_sweep); (try k_fold)))
  (k_with "jx back0" => (intro v9 h9 tk9 R9 F9 N9; (first | (obtain ⟨t9, e9⟩ := R9; subst e9) | subst R9); (try dsimp only); (try k_sweep); (try k_fold)))
  (k_with "jx dive" => skip)
  (k_with "jx fly0" => (intro e9 t9 xs9 h19 h9 tk9 F9 U9 R9; (try dsimp only); walk_at "jx dive"; (try k_fold)))
  (k_with "jx flyN" => (intro e9 h19 h9 g9 tk9 F9 U9 R9 G9; (try dsimp only); walk_at "jx diveN"; (try k_fold)))
  (k_with "jx diveN" => skip)
  (k_with "jx fly" => (intro e9 t9 xs9 h19 h9 g9 tk9 F9 U9 R9 G9; (try dsimp only); walk_at "jx dive"; (try k_fold)))
  (k_with "jx dec" => first | assumption | decide | (simp only [List.size_toArray, List.length_append, List.length_cons, List.length_nil, bne_iff_ne, ne_eq, beq_iff_eq, Bool.not_eq_true, Decidable.not_not, decide_eq_true_eq, decide_eq_false_iff_not, Bool.not_true, Bool.not_false, reduceCtorEq, not_false_eq_true, not_true_eq_false]; done) | (simp only [List.size_toArray, List.length_append, List.length_cons, List.length_nil, bne_iff_ne, ne_eq, beq_iff_eq, Bool.not_eq_true, Decidable.not_not, decide_eq_true_eq, decide_eq_false_iff_not]; omega))
  (k_with "ite" => (k_here; first | rw [if_pos (by walk_at "jx dec")] | rw [if_neg (by walk_at "jx dec")]))
  exact trivial
theorem jxRead_rows2 : True := by
  (k_with "jx cut" => with_reducible first | exact cutL_from _ _ | exact cutL_to _ _ | exact cutL_mid _ _ _ | exact cutL_last _ _ (by decide) | exact cutL_but _ _ _ (by decide) | exact cut_all _ | exact cut_from _ _ | exact cut_to _ _ | exact cut_mid _ _ _)
  (k_with "jx len" => first | omega | (simp only [List.length_append, List.length_cons, List.length_nil, List.length_take, List.length_drop, List.length_replicate, List.length_map, List.length_reverse]; omega))
  (k_with "binaryOp Add bytes bytes" => (k_here; (with_reducible show wpAny _ _ (binaryOp Operator.Add (Value.bytes (List.toArray _) _) (Value.bytes (List.toArray _) _)) _ _ _); (refine jb_add (by walk_at "jx len") ?_); intro _ _))
  (k_with "call builtin:len" => (k_here; (with_reducible show wpAny _ _ (call (Value.builtin "len") [Value.bytes (List.toArray _) _]) _ _ _); (refine jb_len (by walk_at "jx len") ?_); intro _ _))
  (k_with "compareOp Eq bytes bytes" => refine jb_eq ?_)
  (k_with "compareOp NotEq bytes bytes" => refine jb_ne ?_)
  (k_with "subscriptTail" => (k_here; (with_reducible show wpAny _ _ (subscriptTail _ (Expr.Slice _ _ none _) (Value.bytes (List.toArray _) _) (Value.ref _)) _ _ _); (with_reducible rename Fr _ _ _ _ => F'); (with_reducible rename News _ _ _ _ => N'); (refine jb_slice (s := ⟨_, _, _, _, _⟩) F' N' (by constructor) (by constructor) (by walk_at "jx len") (by walk_at "jx cut") ?_); intro _ _ _ _ _))
  (k_with "subscriptTail" => (k_here; (with_reducible show wpAny _ _ (subscriptTail _ _ (Value.bytes (List.toArray _) _) (Value.int _ _)) _ _ _); (refine KBy.item_N (by walk_at "jx len") (by walk_at "jx len") (by walk_at "jx len") ?_)))
  (k_with "eval Constant int" => (k_here; refine wpAny_Constant_int ?_; (try dsimp only)))
  (k_with "call ref" => (k_here; (with_reducible show wpAny _ _ (call (Value.ref 212) [Value.bytes (List.toArray _) _]) _ _ _); (refine' Tell.use (signs_ok _ _ _ (by omega)) ?k1 ?k2 ?k3 ?k4 ?k5 ?k6 ?k7 ?k8 ?_; walk_at "jx asks"); walk_at "jx back"))
  (k_with "call ref" => (k_here; (with_reducible show wpAny _ _ (call (Value.ref 217) [Value.str (Txt.slice (sg _) _ _) _]) _ _ _); (refine' Tell.use (row_ok2 _ _ _ _ slj (row_len (by with_reducible assumption)) ((bitsAll_isBits _).drop _)) ?k1 ?k2 ?k3 ?k4 ?k5 ?k6 ?k7 ?k8 ?_; walk_at "jx asks"); walk_at "jx back"))
  (k_with "call ref" => (k_here; (with_reducible show wpAny _ _ (call (Value.ref 217) [Value.str (Txt.slice (Txt.slice _ _ _) _ _) _]) _ _ _); (refine' Tell.use (row_ok2 _ _ _ _ slj4 (row_len2 (by with_reducible assumption)) (((bitsAll_isBits _).drop _).drop _)) ?k1 ?k2 ?k3 ?k4 ?k5 ?k6 ?k7 ?k8 ?_; walk_at "jx asks"); walk_at "jx back"))
  exact trivial
noncomputable def Held (p : Prop) : Prop := p
theorem unheld {p : Prop} (h : Held p) : p := h
theorem jxRead_rows3 : True := by
  (k_with "subscriptTail" => (k_here; (with_reducible show wpAny _ _ (subscriptTail _ _ (Value.ref _) (Value.str (Txt.slice _ (some 2) (some 4)) _)) _ _ _); refine unheld ?_))
  exact trivial
theorem read_ok (w : World) (o : List UInt8) (t1 : Tok) (hz : o.length ≤ 200) (h0 : Nz o) : Tell 4 w 224 [.bytes o.toArray t1] (decV (dec o)) := by
  unfold Tell
  refine (show (kfrag = kfrag → _) → _ from fun hh => hh rfl) ?_
  k_fill
  w_on
  intro _
  intro mean mg mb dp un gd cn cs a ccd cl outer A₀ base h₀ L m news s Q E ⟨B, F, X, N, T, hk, hd, hu⟩ hret
  refine wpAny_call (code_def (name := Str.ofString "_law_read") (params := fnP36) (body := fnB36) (scope := fnS36) (binds := [(Str.ofString "octets", .bytes o.toArray t1)]) B F X N T rfl rfl hk (by k_is) (by k_is) (by ktr_room) (BindsTo.of_eq rfl) (locs rfl) ?_ rfl rfl rfl (by decide))
  intro g' L' h' FG' F' N' B' X' T'
  dsimp only [fnB36, fnS36, List.length, List.reverse, List.reverseAux] at F' ⊢

  k_fold
  have hL : (sg (bitsAll o)).length = 8 * o.length := by rw [sg_len, bitsAll_length]
  have h0' : 0 < o.length := h0
  have hzz : Z200 o := hz
  k_steps
  all_goals try ((with_reducible show Q Value.none _); (refine hret _ _ _ _ ?r1 ?r2 ?r3 ?r4; (case r2 => assumption); (case r3 => assumption); (case r4 => walk_at "jx gg"); (case r1 => with_reducible first | exact end_1n h0 (by assumption) (by assumption) | exact end_0n h0 (by assumption) (by assumption))))
  · unfold Held; (with_reducible rename PyProof.V.FlatPairs _ _ _ => hf9); (with_reducible rename Obj.IsDictOf _ _ _ => hd9); (with_reducible rename News _ _ _ _ => hN9); (rename (_ == sysModules) = false => hl9); (with_reducible rename Nz _ => hz9); (with_reducible refine' dict_4 ?z ?n ?m ?l ?d ?f ?D ?h ?hs); (case z => exact hz9); (case n => exact hN9); (case m => exact List.Mem.head _); (case l => exact hl9); (case d => exact hd9); (case f => exact hf9); (case D => exact (sd_two _ _ _ _ _ _ _ _)); (case hs => (intro _; with_unfolding_all rfl)); clear hf9 hd9; intro j9 t9 hj9; (try dsimp only); (try k_sweep); (try k_fold); k_steps
    (refine hret _ _ _ _ ?r1 ?r2 ?r3 ?r4; (case r2 => assumption); (case r3 => exact news_tail (by assumption)); (case r4 => walk_at "jx gg"); (case r1 => with_reducible first | exact fin_1 hz9 (by assumption) (by assumption) hj9 | exact fin_0 hz9 (by assumption) (by assumption) hj9))
  · unfold Held; (with_reducible rename PyProof.V.FlatPairs _ _ _ => hf9); (with_reducible rename Obj.IsDictOf _ _ _ => hd9); (with_reducible rename News _ _ _ _ => hN9); (rename (_ == sysModules) = false => hl9); (with_reducible rename Nz _ => hz9); (with_reducible refine' dict_0 ?z ?n ?m ?l ?d ?f ?D ?h ?hs); (case z => exact hz9); (case n => exact hN9); (case m => exact List.Mem.head _); (case l => exact hl9); (case d => exact hd9); (case f => exact hf9); (case D => exact (sd_two _ _ _ _ _ _ _ _)); (case hs => (intro _; with_unfolding_all rfl)); clear hf9 hd9; intro j9 t9 hj9; (try dsimp only); (try k_sweep); (try k_fold); k_steps
    (refine hret _ _ _ _ ?r1 ?r2 ?r3 ?r4; (case r2 => assumption); (case r3 => exact news_tail (by assumption)); (case r4 => walk_at "jx gg"); (case r1 => with_reducible first | exact fin_1 hz9 (by assumption) (by assumption) hj9 | exact fin_0 hz9 (by assumption) (by assumption) hj9))
end
-- JxDue
section
theorem jxDue_rows1 : True := by
  k_with_none
  (k_with "jx gg" => first | exact GG.refl _ | assumption | (refine GG.trans ?_ (by assumption); walk_at "jx gg"))
  (k_with "jx asks" => ((case k1 => k_asm); (case k2 => k_asm); (case k3 => k_asm); (case k4 => k_asm); (case k5 => k_asm); (case k6 => first | exact rfl | assumption); (case k7 => ktr_room); (case k8 => ktr_units)))
  (k_with "jx ne" => first | assumption | exact List.forall_mem_nil _ | (refine List.forall_mem_cons.mpr ⟨(by first | assumption | exact fun p9 z9 => absurd (congrArg Obj.cls z9) (by intro y9; cases y9) | exact notTab_cell (by assumption)), ?_⟩; walk_at "jx ne"))
  (k_with "jx backP" => (intro v9 ps9 h9 g9 tk9 R9 t9P F9 N9 G9; (first | (obtain ⟨t9, e9⟩ := R9; subst e9) | subst R9); (try dsimp only); (try k_sweep); (try k_fold)))
  (k_with "jx back" => (intro v9 h9 g9 tk9 R9 F9 N9 G9; (first | (obtain ⟨t9, e9⟩ := R9; subst e9) | subst R9); (try dsimp only); (try k_sweep); (try k_fold)))
  (k_with "jx back0" => (intro v9 h9 tk9 R9 F9 N9; (first | (obtain ⟨t9, e9⟩ := R9; subst e9) | subst R9); (try dsimp only); (try k_sweep); (try k_fold)))
  (k_with "jx dive" => skip)
  (k_with "jx fly0" => (intro e9 t9 xs9 h19 h9 tk9 F9 U9 R9; (try dsimp only); walk_at "jx dive"; (try k_fold)))
  (k_with "jx flyN" => (intro e9 h19 h9 g9 tk9 F9 U9 R9 G9; (try dsimp only); walk_at "jx diveN"; (try k_fold)))
  (k_with "jx diveN" => skip)
  (k_with "jx fly" => (intro e9 t9 xs9 h19 h9 g9 tk9 F9 U9 R9 G9; (try dsimp only); walk_at "jx dive"; (try k_fold)))
  (k_with "jx dec" => first | assumption | decide | (simp only [List.size_toArray, List.length_append, List.length_cons, List.length_nil, bne_iff_ne, ne_eq, beq_iff_eq, Bool.not_eq_true, Decidable.not_not, decide_eq_true_eq, decide_eq_false_iff_not, Bool.not_true, Bool.not_false, reduceCtorEq, not_false_eq_true, not_true_eq_false]; done) | (simp only [List.size_toArray, List.length_append, List.length_cons, List.length_nil, bne_iff_ne, ne_eq, beq_iff_eq, Bool.not_eq_true, Decidable.not_not, decide_eq_true_eq, decide_eq_false_iff_not]; omega))
  (k_with "ite" => (k_here; first | rw [if_pos (by walk_at "jx dec")] | rw [if_neg (by walk_at "jx dec")]))
  exact trivial
theorem jxDue_rows2 : True := by
  (k_with "jx cut" => with_reducible first | exact cutL_from _ _ | exact cutL_to _ _ | exact cutL_mid _ _ _ | exact cutL_last _ _ (by decide) | exact cutL_but _ _ _ (by decide) | exact cut_all _ | exact cut_from _ _ | exact cut_to _ _ | exact cut_mid _ _ _)
  (k_with "jx len" => first | omega | (simp only [List.length_append, List.length_cons, List.length_nil, List.length_take, List.length_drop, List.length_replicate, List.length_map, List.length_reverse]; omega))
  (k_with "binaryOp Add bytes bytes" => (k_here; (with_reducible show wpAny _ _ (binaryOp Operator.Add (Value.bytes (List.toArray _) _) (Value.bytes (List.toArray _) _)) _ _ _); (refine jb_add (by walk_at "jx len") ?_); intro _ _))
  (k_with "call builtin:len" => (k_here; (with_reducible show wpAny _ _ (call (Value.builtin "len") [Value.bytes (List.toArray _) _]) _ _ _); (refine jb_len (by walk_at "jx len") ?_); intro _ _))
  (k_with "compareOp Eq bytes bytes" => refine jb_eq ?_)
  (k_with "compareOp NotEq bytes bytes" => refine jb_ne ?_)
  (k_with "subscriptTail" => (k_here; (with_reducible show wpAny _ _ (subscriptTail _ (Expr.Slice _ _ none _) (Value.bytes (List.toArray _) _) (Value.ref _)) _ _ _); (with_reducible rename Fr _ _ _ _ => F'); (with_reducible rename News _ _ _ _ => N'); (refine jb_slice (s := ⟨_, _, _, _, _⟩) F' N' (by constructor) (by constructor) (by walk_at "jx len") (by walk_at "jx cut") ?_); intro _ _ _ _ _))
  (k_with "subscriptTail" => (k_here; (with_reducible show wpAny _ _ (subscriptTail _ _ (Value.bytes (List.toArray _) _) (Value.int _ _)) _ _ _); (refine KBy.item_N (by walk_at "jx len") (by walk_at "jx len") (by walk_at "jx len") ?_)))
  (k_with "eval Constant int" => (k_here; refine wpAny_Constant_int ?_; (try dsimp only)))
  exact trivial
theorem cut_1m {o : List UInt8} (h : 32 ≤ o.length) : cut o (some 1) (some ((o.length : Int) - 32)) = (o.take (o.length - 32)).drop 1 := by
  have := cut_mid o 1 (o.length - 32)
  rw [List.drop_take, ← this]
  congr 2
  omega
theorem cut_m {o : List UInt8} (h : 32 ≤ o.length) : cut o (some ((o.length : Int) - 32)) none = o.drop (o.length - 32) := by
  have := cut_from o (o.length - 32)
  rw [← this]
  congr 2
  omega
theorem decV_cases {r : Option (List UInt8)} {v : Value} (h : decV r v) : (r = none ∧ v = .none) ∨ ∃ p t, r = some p ∧ v = .bytes p.toArray t := by
  cases r with
  | none => exact .inl ⟨rfl, h⟩
  | some p => obtain ⟨t, h⟩ := h; exact .inr ⟨p, t, rfl, h⟩
theorem take1 {o : List UInt8} {c : UInt8} (h : o.take 1 = [c]) : o ≠ [] ∧ o.getD 0 0 = c := by
  cases o with
  | nil => cases h
  | cons a r => cases h; exact ⟨by simp, rfl⟩
theorem take1' {o : List UInt8} (h : o ≠ []) : o.take 1 = [o.getD 0 0] := by
  cases o with
  | nil => exact absurd rfl h
  | cons a r => rfl
theorem due_br {o : List UInt8} (h1 : o.take 1 = [1]) (h2 : o.length = 65) : parseR o = .br ((o.drop 1).take 32) (o.drop 33) := by
  obtain ⟨a, b⟩ := take1 h1
  unfold parseR
  rw [if_neg a, b, if_pos (by decide), if_pos h2]
theorem due_kv {o p : List UInt8} (h1 : o.take 1 = [0]) (h2 : 33 < o.length) (hp : dec ((o.take (o.length - 32)).drop 1) = some p) : parseR o = .kv p (o.drop (o.length - 32)) := by
  obtain ⟨a, b⟩ := take1 h1
  unfold parseR
  rw [if_neg a, b, if_neg (by decide), if_pos (by decide), if_neg (by omega), hp]
theorem due_path {o : List UInt8} (h1 : o.take 1 = [0]) (h2 : 33 < o.length) (hp : dec ((o.take (o.length - 32)).drop 1) = none) : parseR o = .path := by
  obtain ⟨a, b⟩ := take1 h1
  unfold parseR
  rw [if_neg a, b, if_neg (by decide), if_pos (by decide), if_neg (by omega), hp]
theorem due_leaf {o : List UInt8} (h1 : o.take 1 = [2]) (h2 : 1 < o.length) : parseR o = .leaf (o.drop 1) := by
  obtain ⟨a, b⟩ := take1 h1
  unfold parseR
  rw [if_neg a, b, if_neg (by decide), if_neg (by decide), if_pos (by decide), if_neg (by omega)]
theorem due_node {o : List UInt8} (h1 : o.take 1 = [1] → o.length ≠ 65) (h2 : o.take 1 = [0] → ¬ 33 < o.length) (h3 : o.take 1 = [2] → ¬ 1 < o.length) : parseR o = .node := by
  unfold parseR
  by_cases a : o = []
  · rw [if_pos a]
  · rw [if_neg a]
    have e := take1' a
    have key : ∀ k : Nat, k < 256 → (o.getD 0 0).toNat = k → o.take 1 = [UInt8.ofNat k] := fun k hk q => by rw [e, ← q, UInt8.ofNat_toNat]
    by_cases q1 : (o.getD 0 0).toNat = 1
    · rw [if_pos q1, if_neg (h1 (key 1 (by decide) q1))]
    · rw [if_neg q1]
      by_cases q0 : (o.getD 0 0).toNat = 0
      · have := h2 (key 0 (by decide) q0)
        rw [if_pos q0, if_pos (by omega)]
      · rw [if_neg q0]
        by_cases q2 : (o.getD 0 0).toNat = 2
        · have := h3 (key 2 (by decide) q2)
          have hl : o.length ≠ 0 := fun z => a (List.length_eq_zero_iff.mp z)
          rw [if_pos q2, if_pos (by omega)]
        · rw [if_neg q2]
theorem jxDue_rows3 : True := by
  (k_with "jx cut" => with_reducible first | exact cut_1m (by walk_at "jx len") | exact cut_m (by walk_at "jx len"))
  exact trivial
theorem nz_cut {o : List UInt8} (h : (33 : Int) < o.length) : Nz ((o.take (o.length - 32)).drop 1) := by
  unfold Nz
  rw [List.length_drop, List.length_take]; omega
theorem z_cut {o : List UInt8} (h : Z200 o) : ((o.take (o.length - 32)).drop 1).length ≤ 200 := by
  unfold Z200 at h
  rw [List.length_drop, List.length_take]; omega
theorem jxDue_rows4 : True := by
  (k_with "call ref" => (k_here; (with_reducible show wpAny _ _ (call (Value.ref 224) [Value.bytes (List.toArray _) _]) _ _ _); (refine' Tell.use (read_ok _ _ _ (z_cut (by with_reducible assumption)) (nz_cut (by omega))) ?k1 ?k2 ?k3 ?k4 ?k5 ?k6 ?k7 ?k8 ?_; walk_at "jx asks"); (intro v9 h9 g9 tk9 R9 F9 N9 G9; obtain ⟨hd9, e9⟩ | ⟨p9, t9, hd9, e9⟩ := decV_cases R9 <;> (subst e9; (try dsimp only); (try k_sweep); (try k_fold)))))
  exact trivial
theorem eq_take {o b : List UInt8} (h : (o.take 1 == b) = true) : o.take 1 = b := eq_of_beq h
theorem node_at {o : List UInt8} {P : Prop} {c : UInt8} (h : (o.take 1 == [c]) = false ∨ ¬ P) : o.take 1 = [c] → ¬ P := fun e => by
  rcases h with h | h
  · rw [e, beq_self_eq_true] at h; cases h
  · exact h
theorem jxDue_rows5 : True := by
  (k_with "jx n" => (refine node_at ?_; first | exact Or.inl (by with_reducible assumption) | exact Or.inr (by omega)))
  exact trivial
theorem due_ok (w : World) (o : List UInt8) (t1 : Tok) (hz : o.length ≤ 200) : Does 6 w 245 [.bytes o.toArray t1] (Said (parseR o)) (fun _ => False) False := by
  unfold Does
  refine (show (kfrag = kfrag → _) → _ from fun hh => hh rfl) ?_
  k_fill
  w_on
  intro _
  intro mean mg mb dp un gd cn cs a ccd cl outer A₀ base h₀ L m news s Q E ⟨B, F, X, N, T, hk, hd, hu⟩ hret hfly hflyN
  refine wpAny_call (code_def (name := Str.ofString "_law_due") (params := fnP39) (body := fnB39) (scope := fnS39) (binds := [(Str.ofString "octets", .bytes o.toArray t1)]) B F X N T rfl rfl hk (by k_is) (by k_is) (by ktr_room) (BindsTo.of_eq rfl) (locs rfl) ?_ rfl rfl rfl (by decide))
  intro g' L' h' FG' F' N' B' X' T'
  dsimp only [fnB39, fnS39, List.length, List.reverse, List.reverseAux] at F' ⊢

  k_fold
  have hzz : Z200 o := hz
  k_steps
  all_goals clear_value qk ek
  all_goals first
    | (refine hret _ [] _ _ _ ?_ (by assumption) (by assumption) (by walk_at "jx gg"); rw [due_path (eq_take (by with_reducible assumption)) (by omega) (by with_reducible assumption)]; exact ⟨_, rfl, rfl⟩)
    | (refine hret _ [] _ _ _ ?_ (by assumption) (by assumption) (by walk_at "jx gg"); rw [due_node (by walk_at "jx n") (by walk_at "jx n") (by walk_at "jx n")]; exact ⟨_, rfl, rfl⟩)
    | (have e := due_br (o := o) (eq_take (by with_reducible assumption)) (by omega)
       refine' hret _ [(_, _)] _ _ _ ?r1 ?r2 ?r3 ?r4; (case r2 => assumption); (case r3 => assumption); (case r4 => walk_at "jx gg"); (case r1 => rw [e]; exact ⟨_, _, _, _, rfl, rfl⟩))
    | (have e := due_leaf (o := o) (eq_take (by with_reducible assumption)) (by omega)
       refine' hret _ [(_, _)] _ _ _ ?r1 ?r2 ?r3 ?r4; (case r2 => assumption); (case r3 => assumption); (case r4 => walk_at "jx gg"); (case r1 => rw [e]; exact ⟨_, _, _, rfl, rfl⟩))
    | (have e := due_kv (o := o) (eq_take (by with_reducible assumption)) (by omega) (by with_reducible assumption)
       refine' hret _ [(_, _)] _ _ _ ?r1 ?r2 ?r3 ?r4; (case r2 => assumption); (case r3 => assumption); (case r4 => walk_at "jx gg"); (case r1 => rw [e]; exact ⟨_, _, _, _, rfl, rfl⟩))
    | trace_state
end
-- JxTold
section
theorem jxTold_rows1 : True := by
  k_with_none
  (k_with "jx gg" => first | exact GG.refl _ | assumption | (refine GG.trans ?_ (by assumption); walk_at "jx gg"))
  (k_with "jx asks" => ((case k1 => k_asm); (case k2 => k_asm); (case k3 => k_asm); (case k4 => k_asm); (case k5 => k_asm); (case k6 => first | exact rfl | assumption); (case k7 => ktr_room); (case k8 => ktr_units)))
  (k_with "jx ne" => first | assumption | exact List.forall_mem_nil _ | (refine List.forall_mem_cons.mpr ⟨(by first | assumption | exact fun p9 z9 => absurd (congrArg Obj.cls z9) (by intro y9; cases y9) | exact notTab_cell (by assumption)), ?_⟩; walk_at "jx ne"))
  (k_with "jx backP" => (intro v9 ps9 h9 g9 tk9 R9 t9P F9 N9 G9; (first | (obtain ⟨t9, e9⟩ := R9; subst e9) | subst R9); (try dsimp only); (try k_sweep); (try k_fold)))
  (k_with "jx back" => (intro v9 h9 g9 tk9 R9 F9 N9 G9; (first | (obtain ⟨t9, e9⟩ := R9; subst e9) | subst R9); (try dsimp only); (try k_sweep); (try k_fold)))
  (k_with "jx back0" => (intro v9 h9 tk9 R9 F9 N9; (first | (obtain ⟨t9, e9⟩ := R9; subst e9) | subst R9); (try dsimp only); (try k_sweep); (try k_fold)))
  (k_with "jx dive" => skip)
  (k_with "jx fly0" => (intro e9 t9 xs9 h19 h9 tk9 F9 U9 R9; (try dsimp only); walk_at "jx dive"; (try k_fold)))
  (k_with "jx flyN" => (intro e9 h19 h9 g9 tk9 F9 U9 R9 G9; (try dsimp only); walk_at "jx diveN"; (try k_fold)))
  (k_with "jx diveN" => skip)
  (k_with "jx fly" => (intro e9 t9 xs9 h19 h9 g9 tk9 F9 U9 R9 G9; (try dsimp only); walk_at "jx dive"; (try k_fold)))
  (k_with "jx dec" => first | assumption | decide | (simp only [List.size_toArray, List.length_append, List.length_cons, List.length_nil, bne_iff_ne, ne_eq, beq_iff_eq, Bool.not_eq_true, Decidable.not_not, decide_eq_true_eq, decide_eq_false_iff_not, Bool.not_true, Bool.not_false, reduceCtorEq, not_false_eq_true, not_true_eq_false]; done) | (simp only [List.size_toArray, List.length_append, List.length_cons, List.length_nil, bne_iff_ne, ne_eq, beq_iff_eq, Bool.not_eq_true, Decidable.not_not, decide_eq_true_eq, decide_eq_false_iff_not]; omega))
  (k_with "ite" => (k_here; first | rw [if_pos (by walk_at "jx dec")] | rw [if_neg (by walk_at "jx dec")]))
  exact trivial
theorem jxTold_rows2 : True := by
  (k_with "jx cut" => with_reducible first | exact cutL_from _ _ | exact cutL_to _ _ | exact cutL_mid _ _ _ | exact cutL_last _ _ (by decide) | exact cutL_but _ _ _ (by decide) | exact cut_all _ | exact cut_from _ _ | exact cut_to _ _ | exact cut_mid _ _ _)
  (k_with "jx len" => first | omega | (simp only [List.length_append, List.length_cons, List.length_nil, List.length_take, List.length_drop, List.length_replicate, List.length_map, List.length_reverse]; omega))
  (k_with "binaryOp Add bytes bytes" => (k_here; (with_reducible show wpAny _ _ (binaryOp Operator.Add (Value.bytes (List.toArray _) _) (Value.bytes (List.toArray _) _)) _ _ _); (refine jb_add (by walk_at "jx len") ?_); intro _ _))
  (k_with "call builtin:len" => (k_here; (with_reducible show wpAny _ _ (call (Value.builtin "len") [Value.bytes (List.toArray _) _]) _ _ _); (refine jb_len (by walk_at "jx len") ?_); intro _ _))
  (k_with "compareOp Eq bytes bytes" => refine jb_eq ?_)
  (k_with "compareOp NotEq bytes bytes" => refine jb_ne ?_)
  (k_with "subscriptTail" => (k_here; (with_reducible show wpAny _ _ (subscriptTail _ (Expr.Slice _ _ none _) (Value.bytes (List.toArray _) _) (Value.ref _)) _ _ _); (with_reducible rename Fr _ _ _ _ => F'); (with_reducible rename News _ _ _ _ => N'); (refine jb_slice (s := ⟨_, _, _, _, _⟩) F' N' (by constructor) (by constructor) (by walk_at "jx len") (by walk_at "jx cut") ?_); intro _ _ _ _ _))
  (k_with "subscriptTail" => (k_here; (with_reducible show wpAny _ _ (subscriptTail _ _ (Value.bytes (List.toArray _) _) (Value.int _ _)) _ _ _); (refine KBy.item_N (by walk_at "jx len") (by walk_at "jx len") (by walk_at "jx len") ?_)))
  (k_with "eval Constant int" => (k_here; refine wpAny_Constant_int ?_; (try dsimp only)))
  (k_with "call ref" => (k_here; (with_reducible show wpAny _ _ (call (Value.ref 149) [Value.bytes (List.toArray _) _]) _ _ _); (refine' dec_use ?x1 ?x2 ?k1 ?k2 ?k3 ?k4 ?k5 ?k6 ?k7 ?k8 ?_ ?_; (case x1 => walk_at "jx len"); (case x2 => walk_at "jx len"); walk_at "jx asks"); (intro p9 t9 hp9 h9 g9 tk9 F9 N9 G9; (try dsimp only); (try k_sweep); (try k_fold)); rotate_left; (intro hp9; walk_at "jx flyN"); rotate_left))
  (k_with "jx dive" => ((with_reducible rename RaisedK _ _ _ _ _ _ _ _ => rkQ); (with_reducible rename Heap.UpToSlots _ _ => uQ); obtain ⟨gQ, sQ, fQ, u2Q⟩ := toS rkQ (by assumption) uQ rfl (by assumption) (by assumption) (by assumption); clear rkQ))
  (k_with "jx diveN" => ((with_reducible rename RaisedN _ _ _ _ _ _ => rkQ); (with_reducible rename Heap.UpToSlots _ _ => uQ); obtain ⟨gQ, sQ, fQ, u2Q⟩ := toSN rkQ (by assumption) uQ rfl (by assumption) (by assumption) (by assumption); clear rkQ))
  exact trivial
theorem told_ok (w : World) (o : List UInt8) (t1 : Tok) (h0 : 0 < o.length) (hz : o.length ≤ 3000) : TellT 8 w 231 [.bytes o.toArray t1] (decV (dec o)) := by
  unfold TellT
  refine (show (kfrag = kfrag → _) → _ from fun hh => hh rfl) ?_
  k_fill
  w_on
  intro _
  intro mean mg mb dp un gd cn cs a ccd cl A₀ h₀ L m news s Q E ⟨B, F, X, N, T, hk, hd, hu⟩ hret
  refine wpAny_call (call_try (name := Str.ofString "_law_told") (params := fnP37) (body := fnB37) (scope := fnS37) (binds := [(Str.ofString "octets", .bytes o.toArray t1)]) B F X N T rfl rfl (by k_is) (by ktr_room) (BindsTo.of_eq rfl) (locs rfl) ?_ hk rfl rfl rfl (by decide))
  intro g' L' h' FG' F' N' B' X' T' D'
  dsimp only [fnB37, fnS37, List.length, List.reverse, List.reverseAux] at F' ⊢
  obtain ⟨b', B'', XB', TB', SB'⟩ := hideBase B' FG' X T
  clear B'
  (try k_lift B'')
  k_fold
  k_steps
  all_goals clear_value qk ek
  all_goals (refine hret _ _ _ _ ?_ (by assumption) (by assumption) (by walk_at "jx gg"))
  all_goals (simp only [decV, *]; try exact ⟨_, rfl⟩)
end
-- JxLw2
section
theorem jxLw2_rows1 : True := by
  k_with_none
  (k_with "jx gg" => first | exact GG.refl _ | assumption | (refine GG.trans ?_ (by assumption); walk_at "jx gg"))
  (k_with "jx asks" => ((case k1 => k_asm); (case k2 => k_asm); (case k3 => k_asm); (case k4 => k_asm); (case k5 => k_asm); (case k6 => first | exact rfl | assumption); (case k7 => ktr_room); (case k8 => ktr_units)))
  (k_with "jx ne" => first | assumption | exact List.forall_mem_nil _ | (refine List.forall_mem_cons.mpr ⟨(by first | assumption | exact fun p9 z9 => absurd (congrArg Obj.cls z9) (by intro y9; cases y9) | exact notTab_cell (by assumption)), ?_⟩; walk_at "jx ne"))
  (k_with "jx backP" => (intro v9 ps9 h9 g9 tk9 R9 t9P F9 N9 G9; (first | (obtain ⟨t9, e9⟩ := R9; subst e9) | subst R9); (try dsimp only); (try k_sweep); (try k_fold)))
  (k_with "jx back" => (intro v9 h9 g9 tk9 R9 F9 N9 G9; (first | (obtain ⟨t9, e9⟩ := R9; subst e9) | subst R9); (try dsimp only); (try k_sweep); (try k_fold)))
  (k_with "jx back0" => (intro v9 h9 tk9 R9 F9 N9; (first | (obtain ⟨t9, e9⟩ := R9; subst e9) | subst R9); (try dsimp only); (try k_sweep); (try k_fold)))
  (k_with "jx dive" => skip)
  (k_with "jx fly0" => (intro e9 t9 xs9 h19 h9 tk9 F9 U9 R9; (try dsimp only); walk_at "jx dive"; (try k_fold)))
  (k_with "jx flyN" => (intro e9 h19 h9 g9 tk9 F9 U9 R9 G9; (try dsimp only); walk_at "jx diveN"; (try k_fold)))
  (k_with "jx diveN" => skip)
  (k_with "jx fly" => (intro e9 t9 xs9 h19 h9 g9 tk9 F9 U9 R9 G9; (try dsimp only); walk_at "jx dive"; (try k_fold)))
  (k_with "jx dec" => first | assumption | decide | (simp only [List.size_toArray, List.length_append, List.length_cons, List.length_nil, bne_iff_ne, ne_eq, beq_iff_eq, Bool.not_eq_true, Decidable.not_not, decide_eq_true_eq, decide_eq_false_iff_not, Bool.not_true, Bool.not_false, reduceCtorEq, not_false_eq_true, not_true_eq_false]; done) | (simp only [List.size_toArray, List.length_append, List.length_cons, List.length_nil, bne_iff_ne, ne_eq, beq_iff_eq, Bool.not_eq_true, Decidable.not_not, decide_eq_true_eq, decide_eq_false_iff_not]; omega))
  (k_with "ite" => (k_here; first | rw [if_pos (by walk_at "jx dec")] | rw [if_neg (by walk_at "jx dec")]))
  exact trivial
theorem jxLw2_rows2 : True := by
  (k_with "jx cut" => with_reducible first | exact cutL_from _ _ | exact cutL_to _ _ | exact cutL_mid _ _ _ | exact cutL_last _ _ (by decide) | exact cutL_but _ _ _ (by decide) | exact cut_all _ | exact cut_from _ _ | exact cut_to _ _ | exact cut_mid _ _ _)
  (k_with "jx len" => first | omega | (simp only [List.length_append, List.length_cons, List.length_nil, List.length_take, List.length_drop, List.length_replicate, List.length_map, List.length_reverse]; omega))
  (k_with "binaryOp Add bytes bytes" => (k_here; (with_reducible show wpAny _ _ (binaryOp Operator.Add (Value.bytes (List.toArray _) _) (Value.bytes (List.toArray _) _)) _ _ _); (refine jb_add (by walk_at "jx len") ?_); intro _ _))
  (k_with "call builtin:len" => (k_here; (with_reducible show wpAny _ _ (call (Value.builtin "len") [Value.bytes (List.toArray _) _]) _ _ _); (refine jb_len (by walk_at "jx len") ?_); intro _ _))
  (k_with "compareOp Eq bytes bytes" => refine jb_eq ?_)
  (k_with "compareOp NotEq bytes bytes" => refine jb_ne ?_)
  (k_with "subscriptTail" => (k_here; (with_reducible show wpAny _ _ (subscriptTail _ (Expr.Slice _ _ none _) (Value.bytes (List.toArray _) _) (Value.ref _)) _ _ _); (with_reducible rename Fr _ _ _ _ => F'); (with_reducible rename News _ _ _ _ => N'); (refine jb_slice (s := ⟨_, _, _, _, _⟩) F' N' (by constructor) (by constructor) (by walk_at "jx len") (by walk_at "jx cut") ?_); intro _ _ _ _ _))
  (k_with "subscriptTail" => (k_here; (with_reducible show wpAny _ _ (subscriptTail _ _ (Value.bytes (List.toArray _) _) (Value.int _ _)) _ _ _); (refine KBy.item_N (by walk_at "jx len") (by walk_at "jx len") (by walk_at "jx len") ?_)))
  (k_with "eval Constant int" => (k_here; refine wpAny_Constant_int ?_; (try dsimp only)))
  (k_with "jx var" => first | with_reducible assumption | (refine (if_neg (by decide +kernel)).trans ?_; walk_at "jx var") | exact if_pos rfl)
  (k_with "eval Name" => (k_here; (refine' nameX_L ?F ?v ?_ ?a ?b; (case F => k_asm); (case a => rfl); (case b => rfl); (case v => walk_at "jx var"); k_whole)))
  (k_with "jx drop" => first | (with_reducible assumption) | ((with_reducible rename News _ _ _ _ => nn9); exact fun q9 hq9 => nn9 q9 (by repeat' (first | exact hq9 | apply List.Mem.tail))))
  exact trivial
theorem pos_take {o : List UInt8} (h : ((o.toArray.size : Nat) : Int) ≠ 0) : 0 < (o.take 40).length := by
  rw [List.size_toArray] at h
  rw [List.length_take]; omega
theorem jxLw2_rows3 : True := by
  (k_with "call ref" => (k_here; (with_reducible show wpAny _ _ (call (Value.ref 257) _) _ _ _); (refine' octs_ok (by with_reducible assumption) (by with_reducible assumption) (by with_reducible assumption) ?k1 ?k2 ?k3 ?k4 ?k5 ?k6 ?k7 ?k8 ?_; walk_at "jx asks"); (intro o9 t9 h9 g9 tk9 hz9 F9 N9 G9; (try dsimp only); (try k_sweep); (try k_fold))))
  (k_with "call ref" => (k_here; (with_reducible show wpAny _ _ (call (Value.ref 231) [Value.bytes (List.toArray _) _]) _ _ _); (refine' TellT.use (told_ok _ _ _ ?x1 ?x2) ?k1 ?k2 ?k3 ?k4 ?k5 ?k6 ?k7 ?k8 ?_; (case x1 => exact pos_take (by with_reducible assumption)); (case x2 => walk_at "jx len"); walk_at "jx asks"); (intro v9 h9 g9 tk9 R9 F9 N9 G9; obtain ⟨hd9, e9⟩ | ⟨p9, t9, hd9, e9⟩ := decV_cases R9 <;> (subst e9; (try dsimp only); (try k_sweep); (try k_fold)))))
  (k_with "call ref" => (k_here; (with_reducible show wpAny _ _ (call (Value.ref 224) [Value.bytes (List.toArray _) _]) _ _ _); (refine' Tell.use (read_ok _ _ _ ?x1 ?x2) ?k1 ?k2 ?k3 ?k4 ?k5 ?k6 ?k7 ?k8 ?_; (case x1 => walk_at "jx len"); (case x2 => exact pos_take (by with_reducible assumption)); walk_at "jx asks"); (intro v9 h9 g9 tk9 R9 F9 N9 G9; obtain ⟨hd9, e9⟩ | ⟨p9, t9, hd9, e9⟩ := decV_cases R9 <;> (subst e9; (try dsimp only); (try k_sweep); (try k_fold)))))
  exact trivial
theorem ch2 {w : World} {g : Heap} {L : Addr} {mean : ExcName → Option Value} {mg mb : Str → Option Value} {dp un : Nat} {gd : Option (List Code)} {s : Shared} {ps : Array Value} {m : Str → Option Value} {rest : List Stmt} {Q : Flow → Shared → Prop} {E : Value → Shared → Prop} (T : ctxTop mean mg mb g) (X : (kfrag w.params).In g) (hL : @LT.lt Nat _ 118 L) (hd : dp + 40 < recursionLimit) (hu : un + 8 * 40 < cLine) (t : TriplesOk ps.toList) {vs : List Value} {ns : List Int} {l : Addr} {row : List UInt8} {tr : Tok} {oO oR : Obj}
    (hl : g.IsList l vs.toArray) (hi : IntsAre vs ns) (hz : ns.length ≤ 63) (hm : m (Str.ofString "script") = some (.ref l)) (F : Fr g L s.heap m) (N : News g L s.heap [(118, tabObj ps), (L + 1 + 1, oO), (L + 1, oR)]) (dR : oR.data = .cell (some (.bytes row.toArray tr))) (dO : oO.data = .cell none)
    (cont : ∀ o oO' tO h' g' tk', o.length ≤ 90 → oO'.data = .cell (some (.bytes (List.toArray o) tO)) → Fr g L h' m → News g L h' [(118, tabObj ps), (L + 1 + 1, oO'), (L + 1, oR)] → GG s.gens g' →
      wpAny (model rw_.prog w) (ktrTop dp un gd (Str.ofString "law") fnS42 L 262 (.ref 261) (lawCl L) []) (execs rest (lawEnv L)) Q E { s with heap := h', gens := g', toks := tk' }) :
    wpAny (model rw_.prog w) (ktrTop dp un gd (Str.ofString "law") fnS42 L 262 (.ref 261) (lawCl L) []) (execs (st4 :: st5 :: rest) (lawEnv L)) Q E s := by
  refine (show (kfrag = kfrag → _) → _ from fun hh => hh rfl) ?_
  k_fill
  w_on
  intro _
  have B := below_caller g
  dsimp only [st4, st5]
  k_steps
  all_goals first
    | (refine' cont _ _ _ _ _ _ ?z ?dd ?F ?N ?G; (case dd => with_reducible assumption); (case F => with_reducible assumption); (case N => with_reducible assumption); (case z => with_reducible assumption); (case G => walk_at "jx gg"))
    | (exfalso; (with_reducible rename dec _ = none => e1); (with_reducible rename dec _ = some _ => e2); rw [e1] at e2; cases e2)
    | (exfalso; (with_reducible rename (_ != _) = true => e3); (with_reducible rename dec _ = some _ => e1); revert e1; (with_reducible rename dec _ = some _ => e2); intro e1; rw [e1] at e2; cases e2; rw [bne_self_eq_false] at e3; cases e3)
    | skip
end
-- JxLw3
section
theorem jxLw3_rows1 : True := by
  k_with_none
  (k_with "jx gg" => first | exact GG.refl _ | assumption | (refine GG.trans ?_ (by assumption); walk_at "jx gg"))
  (k_with "jx asks" => ((case k1 => k_asm); (case k2 => k_asm); (case k3 => k_asm); (case k4 => k_asm); (case k5 => k_asm); (case k6 => first | exact rfl | assumption); (case k7 => ktr_room); (case k8 => ktr_units)))
  (k_with "jx ne" => first | assumption | exact List.forall_mem_nil _ | (refine List.forall_mem_cons.mpr ⟨(by first | assumption | exact fun p9 z9 => absurd (congrArg Obj.cls z9) (by intro y9; cases y9) | exact notTab_cell (by assumption)), ?_⟩; walk_at "jx ne"))
  (k_with "jx backP" => (intro v9 ps9 h9 g9 tk9 R9 t9P F9 N9 G9; (first | (obtain ⟨t9, e9⟩ := R9; subst e9) | subst R9); (try dsimp only); (try k_sweep); (try k_fold)))
  (k_with "jx back" => (intro v9 h9 g9 tk9 R9 F9 N9 G9; (first | (obtain ⟨t9, e9⟩ := R9; subst e9) | subst R9); (try dsimp only); (try k_sweep); (try k_fold)))
  (k_with "jx back0" => (intro v9 h9 tk9 R9 F9 N9; (first | (obtain ⟨t9, e9⟩ := R9; subst e9) | subst R9); (try dsimp only); (try k_sweep); (try k_fold)))
  (k_with "jx dive" => skip)
  (k_with "jx fly0" => (intro e9 t9 xs9 h19 h9 tk9 F9 U9 R9; (try dsimp only); walk_at "jx dive"; (try k_fold)))
  (k_with "jx flyN" => (intro e9 h19 h9 g9 tk9 F9 U9 R9 G9; (try dsimp only); walk_at "jx diveN"; (try k_fold)))
  (k_with "jx diveN" => skip)
  (k_with "jx fly" => (intro e9 t9 xs9 h19 h9 g9 tk9 F9 U9 R9 G9; (try dsimp only); walk_at "jx dive"; (try k_fold)))
  (k_with "jx dec" => first | assumption | decide | (simp only [List.size_toArray, List.length_append, List.length_cons, List.length_nil, bne_iff_ne, ne_eq, beq_iff_eq, Bool.not_eq_true, Decidable.not_not, decide_eq_true_eq, decide_eq_false_iff_not, Bool.not_true, Bool.not_false, reduceCtorEq, not_false_eq_true, not_true_eq_false]; done) | (simp only [List.size_toArray, List.length_append, List.length_cons, List.length_nil, bne_iff_ne, ne_eq, beq_iff_eq, Bool.not_eq_true, Decidable.not_not, decide_eq_true_eq, decide_eq_false_iff_not]; omega))
  (k_with "ite" => (k_here; first | rw [if_pos (by walk_at "jx dec")] | rw [if_neg (by walk_at "jx dec")]))
  exact trivial
theorem jxLw3_rows2 : True := by
  (k_with "jx cut" => with_reducible first | exact cutL_from _ _ | exact cutL_to _ _ | exact cutL_mid _ _ _ | exact cutL_last _ _ (by decide) | exact cutL_but _ _ _ (by decide) | exact cut_all _ | exact cut_from _ _ | exact cut_to _ _ | exact cut_mid _ _ _)
  (k_with "jx len" => first | omega | (simp only [List.length_append, List.length_cons, List.length_nil, List.length_take, List.length_drop, List.length_replicate, List.length_map, List.length_reverse]; omega))
  (k_with "binaryOp Add bytes bytes" => (k_here; (with_reducible show wpAny _ _ (binaryOp Operator.Add (Value.bytes (List.toArray _) _) (Value.bytes (List.toArray _) _)) _ _ _); (refine jb_add (by walk_at "jx len") ?_); intro _ _))
  (k_with "call builtin:len" => (k_here; (with_reducible show wpAny _ _ (call (Value.builtin "len") [Value.bytes (List.toArray _) _]) _ _ _); (refine jb_len (by walk_at "jx len") ?_); intro _ _))
  (k_with "compareOp Eq bytes bytes" => refine jb_eq ?_)
  (k_with "compareOp NotEq bytes bytes" => refine jb_ne ?_)
  (k_with "subscriptTail" => (k_here; (with_reducible show wpAny _ _ (subscriptTail _ (Expr.Slice _ _ none _) (Value.bytes (List.toArray _) _) (Value.ref _)) _ _ _); (with_reducible rename Fr _ _ _ _ => F'); (with_reducible rename News _ _ _ _ => N'); (refine jb_slice (s := ⟨_, _, _, _, _⟩) F' N' (by constructor) (by constructor) (by walk_at "jx len") (by walk_at "jx cut") ?_); intro _ _ _ _ _))
  (k_with "subscriptTail" => (k_here; (with_reducible show wpAny _ _ (subscriptTail _ _ (Value.bytes (List.toArray _) _) (Value.int _ _)) _ _ _); (refine KBy.item_N (by walk_at "jx len") (by walk_at "jx len") (by walk_at "jx len") ?_)))
  (k_with "eval Constant int" => (k_here; refine wpAny_Constant_int ?_; (try dsimp only)))
  (k_with "jx var" => first | with_reducible assumption | (refine (if_neg (by decide +kernel)).trans ?_; walk_at "jx var") | exact if_pos rfl)
  (k_with "eval Name" => (k_here; (refine' nameX_L ?F ?v ?_ ?a ?b; (case F => k_asm); (case a => rfl); (case b => rfl); (case v => walk_at "jx var"); k_whole)))
  (k_with "jx drop" => first | (with_reducible assumption) | ((with_reducible rename News _ _ _ _ => nn9); exact fun q9 hq9 => nn9 q9 (by repeat' (first | exact hq9 | apply List.Mem.tail))))
  (k_with "call ref" => (k_here; (with_reducible show wpAny _ _ (call (Value.ref 128) [Value.bytes (List.toArray _) _]) _ _ _); (refine' Tell.use (tobin_ok _ _ _ ?x1) ?k1 ?k2 ?k3 ?k4 ?k5 ?k6 ?k7 ?k8 ?_; (case x1 => walk_at "jx len"); walk_at "jx asks"); walk_at "jx back"))
  (k_with "call ref" => (k_here; (with_reducible show wpAny _ _ (call (Value.ref 116) [Value.bytes (List.toArray _) _]) _ _ _); (refine' TellP.use (from_ok _ _ _ ?x1 ?x2) ?k1 ?k2 ?k3 ?k4 ?k5 ?k6 ?k7 ?k8 ?x3 ?x4 ?_; (case x1 => walk_at "jx len"); (case x2 => walk_at "jx bits"); walk_at "jx asks"; (case x3 => assumption); (case x4 => walk_at "jx ne")); walk_at "jx backP"))
  (k_with "jx bits" => exact bitsAll_isBits _)
  (k_with "jx len" => (simp only [bitsAll_length, List.length_take]; omega))
  (k_with "call ref" => (k_here; (with_reducible show wpAny _ _ (call (Value.ref 212) [Value.bytes (List.toArray _) _]) _ _ _); (refine' Tell.use (signs_ok _ _ _ (by rw [List.length_take]; omega)) ?k1 ?k2 ?k3 ?k4 ?k5 ?k6 ?k7 ?k8 ?_; walk_at "jx asks"); walk_at "jx back"))
  (k_with "call ref" => (k_here; (with_reducible show wpAny _ _ (call (Value.ref 217) [Value.str (sg (bitsAll _)) _]) _ _ _); (refine' Tell.use (row_ok _ _ _ (by rw [bitsAll_length, List.length_take]; omega) (bitsAll_isBits _)) ?k1 ?k2 ?k3 ?k4 ?k5 ?k6 ?k7 ?k8 ?_; walk_at "jx asks"); walk_at "jx back"))
  exact trivial
theorem same_bits {o : List UInt8} : (o != unbits (bitsAll o)) = false := by rw [unbits_bits, bne_self_eq_false]
theorem same_bits' {o : List UInt8} : (unbits (bitsAll o) != o) = false := by rw [unbits_bits, bne_self_eq_false]
theorem jxLw3_rows3 : True := by
  (k_with "jx dec" => first | (exact fun z9 => absurd z9 (by rw [bne_self_eq_false]; exact Bool.false_ne_true)) | exact bne_self_eq_false _ | (exact fun z9 => absurd z9 (by rw [same_bits']; exact Bool.false_ne_true)))
  exact trivial
theorem ch3 {w : World} {g : Heap} {L : Addr} {mean : ExcName → Option Value} {mg mb : Str → Option Value} {dp un : Nat} {gd : Option (List Code)} {s : Shared} {ps : Array Value} {m : Str → Option Value} {rest : List Stmt} {Q : Flow → Shared → Prop} {E : Value → Shared → Prop} (T : ctxTop mean mg mb g) (X : (kfrag w.params).In g) (hL : @LT.lt Nat _ 118 L) (hd : dp + 40 < recursionLimit) (hu : un + 8 * 40 < cLine) (t : TriplesOk ps.toList) {row o : List UInt8} {tr tO : Tok} {oO oR : Obj}
    (hz : o.length ≤ 90) (F : Fr g L s.heap m) (N : News g L s.heap [(118, tabObj ps), (L + 1 + 1, oO), (L + 1, oR)]) (dR : oR.data = .cell (some (.bytes row.toArray tr))) (dO : oO.data = .cell (some (.bytes o.toArray tO)))
    (cont : ∀ ps' v h' g' tk', TriplesOk ps'.toList → Fr g L h' (fun y => if y = Str.ofString "bits" then some v else m y) → News g L h' [(118, tabObj ps'), (L + 1 + 1, oO), (L + 1, oR)] → GG s.gens g' →
      wpAny (model rw_.prog w) (ktrTop dp un gd (Str.ofString "law") fnS42 L 262 (.ref 261) (lawCl L) []) (execs rest (lawEnv L)) Q E { s with heap := h', gens := g', toks := tk' }) :
    wpAny (model rw_.prog w) (ktrTop dp un gd (Str.ofString "law") fnS42 L 262 (.ref 261) (lawCl L) []) (execs (st6 :: st7 :: rest) (lawEnv L)) Q E s := by
  refine (show (kfrag = kfrag → _) → _ from fun hh => hh rfl) ?_
  k_fill
  w_on
  intro _
  have B := below_caller g
  dsimp only [st6, st7]
  k_steps
  all_goals first
    | (exfalso; (with_reducible rename (_ != _) = true => e3); rw [unbits_bits, bne_self_eq_false] at e3; cases e3)
    | (refine' cont _ _ _ _ _ ?z ?F ?N ?G; (case F => with_reducible assumption); (case N => with_reducible assumption); (case z => with_reducible assumption); (case G => walk_at "jx gg"))
end
-- JxNumK
section
theorem jxNumK_rows1 : True := by
  k_with_none
  (k_with "jx gg" => first | exact GG.refl _ | assumption | (refine GG.trans ?_ (by assumption); walk_at "jx gg"))
  (k_with "jx asks" => ((case k1 => k_asm); (case k2 => k_asm); (case k3 => k_asm); (case k4 => k_asm); (case k5 => k_asm); (case k6 => first | exact rfl | assumption); (case k7 => ktr_room); (case k8 => ktr_units)))
  (k_with "jx ne" => first | assumption | exact List.forall_mem_nil _ | (refine List.forall_mem_cons.mpr ⟨(by first | assumption | exact fun p9 z9 => absurd (congrArg Obj.cls z9) (by intro y9; cases y9) | exact notTab_cell (by assumption)), ?_⟩; walk_at "jx ne"))
  (k_with "jx backP" => (intro v9 ps9 h9 g9 tk9 R9 t9P F9 N9 G9; (first | (obtain ⟨t9, e9⟩ := R9; subst e9) | subst R9); (try dsimp only); (try k_sweep); (try k_fold)))
  (k_with "jx back" => (intro v9 h9 g9 tk9 R9 F9 N9 G9; (first | (obtain ⟨t9, e9⟩ := R9; subst e9) | subst R9); (try dsimp only); (try k_sweep); (try k_fold)))
  (k_with "jx back0" => (intro v9 h9 tk9 R9 F9 N9; (first | (obtain ⟨t9, e9⟩ := R9; subst e9) | subst R9); (try dsimp only); (try k_sweep); (try k_fold)))
  (k_with "jx dive" => skip)
  (k_with "jx fly0" => (intro e9 t9 xs9 h19 h9 tk9 F9 U9 R9; (try dsimp only); walk_at "jx dive"; (try k_fold)))
  (k_with "jx flyN" => (intro e9 h19 h9 g9 tk9 F9 U9 R9 G9; (try dsimp only); walk_at "jx diveN"; (try k_fold)))
  (k_with "jx diveN" => skip)
  (k_with "jx fly" => (intro e9 t9 xs9 h19 h9 g9 tk9 F9 U9 R9 G9; (try dsimp only); walk_at "jx dive"; (try k_fold)))
  (k_with "jx dec" => first | assumption | decide | (simp only [List.size_toArray, List.length_append, List.length_cons, List.length_nil, bne_iff_ne, ne_eq, beq_iff_eq, Bool.not_eq_true, Decidable.not_not, decide_eq_true_eq, decide_eq_false_iff_not, Bool.not_true, Bool.not_false, reduceCtorEq, not_false_eq_true, not_true_eq_false]; done) | (simp only [List.size_toArray, List.length_append, List.length_cons, List.length_nil, bne_iff_ne, ne_eq, beq_iff_eq, Bool.not_eq_true, Decidable.not_not, decide_eq_true_eq, decide_eq_false_iff_not]; omega))
  (k_with "ite" => (k_here; first | rw [if_pos (by walk_at "jx dec")] | rw [if_neg (by walk_at "jx dec")]))
  exact trivial
theorem jxNumK_rows2 : True := by
  (k_with "jx cut" => with_reducible first | exact cutL_from _ _ | exact cutL_to _ _ | exact cutL_mid _ _ _ | exact cutL_last _ _ (by decide) | exact cutL_but _ _ _ (by decide) | exact cut_all _ | exact cut_from _ _ | exact cut_to _ _ | exact cut_mid _ _ _)
  (k_with "jx len" => first | omega | (simp only [List.length_append, List.length_cons, List.length_nil, List.length_take, List.length_drop, List.length_replicate, List.length_map, List.length_reverse]; omega))
  (k_with "binaryOp Add bytes bytes" => (k_here; (with_reducible show wpAny _ _ (binaryOp Operator.Add (Value.bytes (List.toArray _) _) (Value.bytes (List.toArray _) _)) _ _ _); (refine jb_add (by walk_at "jx len") ?_); intro _ _))
  (k_with "call builtin:len" => (k_here; (with_reducible show wpAny _ _ (call (Value.builtin "len") [Value.bytes (List.toArray _) _]) _ _ _); (refine jb_len (by walk_at "jx len") ?_); intro _ _))
  (k_with "compareOp Eq bytes bytes" => refine jb_eq ?_)
  (k_with "compareOp NotEq bytes bytes" => refine jb_ne ?_)
  (k_with "subscriptTail" => (k_here; (with_reducible show wpAny _ _ (subscriptTail _ (Expr.Slice _ _ none _) (Value.bytes (List.toArray _) _) (Value.ref _)) _ _ _); (with_reducible rename Fr _ _ _ _ => F'); (with_reducible rename News _ _ _ _ => N'); (refine jb_slice (s := ⟨_, _, _, _, _⟩) F' N' (by constructor) (by constructor) (by walk_at "jx len") (by walk_at "jx cut") ?_); intro _ _ _ _ _))
  (k_with "subscriptTail" => (k_here; (with_reducible show wpAny _ _ (subscriptTail _ _ (Value.bytes (List.toArray _) _) (Value.int _ _)) _ _ _); (refine KBy.item_N (by walk_at "jx len") (by walk_at "jx len") (by walk_at "jx len") ?_)))
  (k_with "eval Constant int" => (k_here; refine wpAny_Constant_int ?_; (try dsimp only)))
  exact trivial
theorem at198 (P : Params) : (kfrag P).lookup 198 = some (o198_6 P) := by kernel_rfl
/-- _law_number, all that stood standing -/
theorem number_keeps {w : World} {s : Shared} {A : Around} {o : List UInt8} {t1 : Tok} {Q E : Value → Shared → Prop} (hh : A.handled = none) (X : (kfrag w.params).In s.heap) (lim : s.heap.NoLimit) (room : A.depth < recursionLimit) (hz : o.length ≤ 300)
    (fin : ∀ t h' tk, (∀ b ob, s.heap.get? b = some ob → h'.get? b = some ob) → Q (.int ((num o : Nat) : Int) t) { s with heap := h', toks := tk }) :
    wpAny (model rw_.prog w) A (call (.ref 198) [.bytes o.toArray t1]) Q E s := by
  refine wpAny_call ?_
  refine call_fullW (name := Str.ofString "_law_number") (params := fnP32) (body := fnB32) (scope := fnS32) (binds := [(Str.ofString "row", .bytes o.toArray t1)]) room (X _ _ (at198 _)) rfl lim (codeRec_of X (by kernel_rfl)) (BindsTo.of_eq rfl) (locs rfl) ?_ rfl rfl rfl (by decide)
  intro h₁ F
  have N : News s.heap s.heap.objs.size h₁ [] := News.nil
  dsimp only [fnB32]
  k_steps
  refine KBw.iterBytes_acc1 (y := Str.ofString "number") (c₀ := 0) (g := fun a k => a * 2 + k) rfl hh (by assumption) (by assumption) rfl ?turn ?done
  case turn =>
    intro k t a ta h tk own _ h0 h1 ho F1 N1
    k_steps
  case done =>
    intro u t h tk F1 N1
    k_steps
    have e : List.foldl (fun a k => a * 2 + k) (0 : Int) (KBw.bInts o.toArray) = ((num o : Nat) : Int) := by
      rw [KBw.ints_list]
      unfold num
      have key : ∀ (l : List UInt8) (acc : Nat), List.foldl (fun a k : Int => a * 2 + k) (acc : Int) (l.map fun c => ((c.toNat : Nat) : Int)) = ((l.foldl (fun n b => n * 2 + b.toNat) acc : Nat) : Int) := by
        intro l
        induction l with
        | nil => intro acc; rfl
        | cons c l ih =>
          intro acc
          have := ih (acc * 2 + c.toNat)
          rw [List.map_cons, List.foldl_cons, List.foldl_cons, ← this]
          congr 1
      exact key o 0
    rw [e]
    with_reducible rename Fr _ _ _ _ => F3
    exact fin _ _ _ F3.keep
end
-- JxLw4
section
theorem jxLw4_rows1 : True := by
  k_with_none
  (k_with "jx gg" => first | exact GG.refl _ | assumption | (refine GG.trans ?_ (by assumption); walk_at "jx gg"))
  (k_with "jx asks" => ((case k1 => k_asm); (case k2 => k_asm); (case k3 => k_asm); (case k4 => k_asm); (case k5 => k_asm); (case k6 => first | exact rfl | assumption); (case k7 => ktr_room); (case k8 => ktr_units)))
  (k_with "jx ne" => first | assumption | exact List.forall_mem_nil _ | (refine List.forall_mem_cons.mpr ⟨(by first | assumption | exact fun p9 z9 => absurd (congrArg Obj.cls z9) (by intro y9; cases y9) | exact notTab_cell (by assumption)), ?_⟩; walk_at "jx ne"))
  (k_with "jx backP" => (intro v9 ps9 h9 g9 tk9 R9 t9P F9 N9 G9; (first | (obtain ⟨t9, e9⟩ := R9; subst e9) | subst R9); (try dsimp only); (try k_sweep); (try k_fold)))
  (k_with "jx back" => (intro v9 h9 g9 tk9 R9 F9 N9 G9; (first | (obtain ⟨t9, e9⟩ := R9; subst e9) | subst R9); (try dsimp only); (try k_sweep); (try k_fold)))
  (k_with "jx back0" => (intro v9 h9 tk9 R9 F9 N9; (first | (obtain ⟨t9, e9⟩ := R9; subst e9) | subst R9); (try dsimp only); (try k_sweep); (try k_fold)))
  (k_with "jx dive" => skip)
  (k_with "jx fly0" => (intro e9 t9 xs9 h19 h9 tk9 F9 U9 R9; (try dsimp only); walk_at "jx dive"; (try k_fold)))
  (k_with "jx flyN" => (intro e9 h19 h9 g9 tk9 F9 U9 R9 G9; (try dsimp only); walk_at "jx diveN"; (try k_fold)))
  (k_with "jx diveN" => skip)
  (k_with "jx fly" => (intro e9 t9 xs9 h19 h9 g9 tk9 F9 U9 R9 G9; (try dsimp only); walk_at "jx dive"; (try k_fold)))
  (k_with "jx dec" => first | assumption | decide | (simp only [List.size_toArray, List.length_append, List.length_cons, List.length_nil, bne_iff_ne, ne_eq, beq_iff_eq, Bool.not_eq_true, Decidable.not_not, decide_eq_true_eq, decide_eq_false_iff_not, Bool.not_true, Bool.not_false, reduceCtorEq, not_false_eq_true, not_true_eq_false]; done) | (simp only [List.size_toArray, List.length_append, List.length_cons, List.length_nil, bne_iff_ne, ne_eq, beq_iff_eq, Bool.not_eq_true, Decidable.not_not, decide_eq_true_eq, decide_eq_false_iff_not]; omega))
  (k_with "ite" => (k_here; first | rw [if_pos (by walk_at "jx dec")] | rw [if_neg (by walk_at "jx dec")]))
  exact trivial
theorem jxLw4_rows2 : True := by
  (k_with "jx cut" => with_reducible first | exact cutL_from _ _ | exact cutL_to _ _ | exact cutL_mid _ _ _ | exact cutL_last _ _ (by decide) | exact cutL_but _ _ _ (by decide) | exact cut_all _ | exact cut_from _ _ | exact cut_to _ _ | exact cut_mid _ _ _)
  (k_with "jx len" => first | omega | (simp only [List.length_append, List.length_cons, List.length_nil, List.length_take, List.length_drop, List.length_replicate, List.length_map, List.length_reverse]; omega))
  (k_with "binaryOp Add bytes bytes" => (k_here; (with_reducible show wpAny _ _ (binaryOp Operator.Add (Value.bytes (List.toArray _) _) (Value.bytes (List.toArray _) _)) _ _ _); (refine jb_add (by walk_at "jx len") ?_); intro _ _))
  (k_with "call builtin:len" => (k_here; (with_reducible show wpAny _ _ (call (Value.builtin "len") [Value.bytes (List.toArray _) _]) _ _ _); (refine jb_len (by walk_at "jx len") ?_); intro _ _))
  (k_with "compareOp Eq bytes bytes" => refine jb_eq ?_)
  (k_with "compareOp NotEq bytes bytes" => refine jb_ne ?_)
  (k_with "subscriptTail" => (k_here; (with_reducible show wpAny _ _ (subscriptTail _ (Expr.Slice _ _ none _) (Value.bytes (List.toArray _) _) (Value.ref _)) _ _ _); (with_reducible rename Fr _ _ _ _ => F'); (with_reducible rename News _ _ _ _ => N'); (refine jb_slice (s := ⟨_, _, _, _, _⟩) F' N' (by constructor) (by constructor) (by walk_at "jx len") (by walk_at "jx cut") ?_); intro _ _ _ _ _))
  (k_with "subscriptTail" => (k_here; (with_reducible show wpAny _ _ (subscriptTail _ _ (Value.bytes (List.toArray _) _) (Value.int _ _)) _ _ _); (refine KBy.item_N (by walk_at "jx len") (by walk_at "jx len") (by walk_at "jx len") ?_)))
  (k_with "eval Constant int" => (k_here; refine wpAny_Constant_int ?_; (try dsimp only)))
  (k_with "jx var" => first | with_reducible assumption | (refine (if_neg (by decide +kernel)).trans ?_; walk_at "jx var") | exact if_pos rfl)
  (k_with "eval Name" => (k_here; (refine' nameX_L ?F ?v ?_ ?a ?b; (case F => k_asm); (case a => rfl); (case b => rfl); (case v => walk_at "jx var"); k_whole)))
  (k_with "jx drop" => first | (with_reducible assumption) | ((with_reducible rename News _ _ _ _ => nn9); exact fun q9 hq9 => nn9 q9 (by repeat' (first | exact hq9 | apply List.Mem.tail))))
  (k_with "call ref" => (k_here; (with_reducible show wpAny _ _ (call (Value.ref 116) [Value.bytes (List.toArray _) _]) _ _ _); (refine' TellP.use (from_ok _ _ _ ?x1 ?x2) ?k1 ?k2 ?k3 ?k4 ?k5 ?k6 ?k7 ?k8 ?x3 ?x4 ?_; (case x1 => walk_at "jx len"); (case x2 => walk_at "jx bits"); walk_at "jx asks"; (case x3 => assumption); (case x4 => walk_at "jx ne")); walk_at "jx backP"))
  exact trivial
theorem ne_off {a b : List UInt8} (h : a = b) : ¬ ((a != b) = true) := by rw [h, bne_self_eq_false]; exact Bool.false_ne_true
theorem jxLw4_rows3 : True := by
  (k_with "jx dec" => first | (with_reducible exact ne_off rfl) | (k_dflt (exact ne_off rfl)))
  (k_with "jx bits" => with_reducible assumption)
  exact trivial
noncomputable abbrev numElt : Expr := ((Expr.Name (Str.ofString "_law_number") { line := 170, col := 38, endLine := 170, endCol := 49 }).Call
                    [(Expr.Name (Str.ofString "row") { line := 170, col := 50, endLine := 170, endCol := 53 }).Subscript
                        (Expr.Slice
                          (some (Expr.Name (Str.ofString "k") { line := 170, col := 54, endLine := 170, endCol := 55 }))
                          (some
                            ((Expr.Name (Str.ofString "k")
                                  { line := 170, col := 56, endLine := 170, endCol := 57 }).BinOp
                              Operator.Add
                              (Expr.Constant (Const.int 8) 0 { line := 170, col := 60, endLine := 170, endCol := 61 })
                              { line := 170, col := 56, endLine := 170, endCol := 61 }))
                          none { line := 170, col := 54, endLine := 170, endCol := 61 })
                        { line := 170, col := 50, endLine := 170, endCol := 62 }]
                    [] { line := 170, col := 38, endLine := 170, endCol := 63 })
noncomputable abbrev numScope : Scope := { kind := ScopeKind.function, names := [(Str.ofString ".0", NameKind.local), (Str.ofString "k", NameKind.local), (Str.ofString "_law_number", NameKind.globalImplicit), (Str.ofString "row", NameKind.free)], isGenerator := false, isCoroutine := false }
noncomputable def numG (row : List UInt8) (v y : Value) : Prop := ∀ (k : Nat) (t : Tok), v = .int (k : Int) t → ∃ u, y = .int ((num ((row.drop k).take 8) : Nat) : Int) u
theorem ns_num (w : World) : nsIn (kfrag w.params) mainGlobals (Str.ofString "_law_number") = some (some (.ref 198)) := by kernel_rfl
theorem jxLw4_rows4 : True := by
  (k_with "eval Name" => ((with_reducible rename HasCell _ _ (Value.bytes _ _) => hC1); (with_reducible show wpAny _ _ (eval (Expr.Name (PySem.Str.ofString "row") _) (compEnvC _ _ _ _)) _ _ _); k_dflt (refine wpAny_Name (wpAny_loadName_cell (v := Value.bytes _ _) rfl rfl rfl hC1 ?_) rfl)))
  exact trivial
theorem num_elt {w : World} {A : Around} {s : Shared} {h₀ : Heap} {mean : ExcName → Option Value} {mg mb : Str → Option Value} {C c : Nat} {m₃ : Str → Option Value} {E' : Value → Shared → Prop} {L : Addr} {row : List UInt8} {k : Nat} {t1 tk : Tok}
    (hh : A.handled = none) (room : A.depth < recursionLimit) (hz : row.length ≤ 4000) (X : (kfrag w.params).In h₀) (T : ctxTop mean mg mb h₀) (kp : ∀ b o, h₀.get? b = some o → s.heap.get? b = some o) (hn : s.heap.Ns C m₃) (hm : m₃ (Str.ofString "k") = some (.int (k : Int) tk))
    (hC1 : HasCell s.heap c (.bytes row.toArray t1)) :
    wpAny (model rw_.prog w) A (eval numElt (compEnvC numScope [(Str.ofString "row", c)] C (lawEnv L))) (fun y s₄ => (∃ u, y = .int ((num ((row.drop k).take 8) : Nat) : Int) u) ∧ Keeps s s₄) E' s := by
  refine wpAny_Call_ofName (Name_function_global rfl rfl (loadGlobal_global (T.g.keeps kp) (mg_of X T.g (ns_num w)) ?_) rfl)
  refine callWith_K X (by kernel_rfl) ?_
  k_steps
  refine jb_sliceP (s := ⟨_, _, _, _, _⟩) (.int _ _) (.int _ _) (by omega) (cut_eight row k) ?_
  intro t' k'
  have kp2 : ∀ (ob2 : Obj) b o, h₀.get? b = some o → (s.heap.push ob2).get? b = some o := fun ob2 b o e => Heap.get?_push_of_some _ (kp b o e)
  k_steps
  · exact X.keeps (kp2 _)
  · refine number_keeps hh (X.keeps (kp2 _)) (T.nolimit.keeps (kp2 _)) room ?_ ?_
    · have : ((row.drop k).take 8).length ≤ 8 := by rw [List.length_take]; exact Nat.min_le_left _ _
      omega
    · intro t h' tk' kk
      exact ⟨⟨_, rfl⟩, _, _, rfl, fun b o e => kk b o (Heap.get?_push_of_some _ e)⟩
noncomputable def RunQ (Q : Value → Shared → Prop) (v : Value) (s : Shared) : Prop := Q v s
theorem num_comp {row : List UInt8} (_ : IsBits row) {prog : Program} {w : World} {A : Around} {E : Value → Shared → Prop} {env : Env} {s : Shared} {elt iter : Expr} {x : Str} {px : Pos} {ifs : List Expr} {scope : Scope} {cl : List (Str × Addr)} {pos : Pos} {Q : Value → Shared → Prop}
    (hclos : closureFor scope env = pure cl) (hcell : ∀ y ∈ scope.names, y.2 ≠ .cell) (hkind : scope.kind = .function)
    (hnames : ∀ y ∈ scope.names, y.2 = .local → scope.names.lookup y.1 = some .local) (hx : scope.names.lookup x = some .local)
    (h : wpAny (model prog w) A (eval iter env) (fun xv s₁ => wpAny (model prog w) A (pyIter xv) (fun it s₂ => ∃ I fp wr n P St, it = .ref I ∧ Walks prog w A I fp wr n P St ∧ n ≤ sizeLine ∧ St 0 s₂.heap ∧ (∀ b ∈ fp, b < s₂.heap.objs.size) ∧
      QuietOnC prog w A env scope cl x ifs elt wr P (fun _ => true) (numG row) s₂ ∧
      (∀ D h' tk ys (vs : List Value), s₂.heap.get? D = none → h'.IsList D ys → h'.PlainList D ys → vs.length = n → (∀ j v, vs[j]? = some v → P j v) → Paired (numG row) (vs.filter fun _ => true) ys.toList →
        (∀ b o, b ∉ wr → s₂.heap.get? b = some o → h'.get? b = some o) → RunQ Q (.ref D) { s₂ with heap := h', toks := tk })) E s₁) E s) (hs : ∀ x, foldedSetIterable iter env x = pure x) :
    wpAny (model prog w) A (eval (.ListComp elt [⟨.Name x px, iter, ifs, 0⟩] scope pos) env) Q E s :=
  wpAny_ListComp_free (fun _ => true) (numG row) hclos hcell hkind hnames hx h hs
theorem num_fin {w : World} {A : Around} (hh : A.handled = none) (room : A.depth < recursionLimit) {s₂ : Shared} {g : Heap} {mean : ExcName → Option Value} {mg mb : Str → Option Value} {I c : Nat} {L : Addr} {row : List UInt8} {t1 : Tok} {Q : Value → Shared → Prop}
    (hz : row.length ≤ 4000) (X : (kfrag w.params).In g) (T : ctxTop mean mg mb g) (kp : ∀ b o, g.get? b = some o → s₂.heap.get? b = some o) (hIg : g.get? I = none) (hI : IsRangeIter s₂.heap I 0 (((row.length + 7) / 8 : Nat) : Int) 8)
    (hC1 : HasCell s₂.heap c (.bytes row.toArray t1)) (h1 : c ≠ I)
    (ret : ∀ D h' tk ys, h'.IsList D ys → IntsAre ys.toList ((unbits row).map fun c => ((c.toNat : Nat) : Int)) ∨ True → (∀ b o, b ≠ I → s₂.heap.get? b = some o → h'.get? b = some o) →
      ys.size = (row.length + 7) / 8 → (∀ j, j < (row.length + 7) / 8 → ∃ t, ys[j]? = some (.int ((num ((row.drop (8 * j)).take 8) : Nat) : Int) t)) → RunQ Q (.ref D) { s₂ with heap := h', toks := tk }) :
    ∃ I' fp wr n P St, Value.ref I = .ref I' ∧ Walks (rw_.prog) w A I' fp wr n P St ∧ n ≤ sizeLine ∧ St 0 s₂.heap ∧ (∀ b ∈ fp, b < s₂.heap.objs.size) ∧
      QuietOnC rw_.prog w A (lawEnv L) numScope [(Str.ofString "row", c)] (Str.ofString "k") [] numElt wr P (fun _ => true) (numG row) s₂ ∧
      (∀ D h' tk ys (vs : List Value), s₂.heap.get? D = none → h'.IsList D ys → h'.PlainList D ys → vs.length = n → (∀ j v, vs[j]? = some v → P j v) → Paired (numG row) (vs.filter fun _ => true) ys.toList →
        (∀ b o, b ∉ wr → s₂.heap.get? b = some o → h'.get? b = some o) → RunQ Q (.ref D) { s₂ with heap := h', toks := tk }) := by
  refine ⟨I, _, _, _, _, _, rfl, Walks.range hh I 0 8 ((row.length + 7) / 8), Nat.le_trans (show (row.length + 7) / 8 ≤ 4000 by omega) (by size_fits), ?_, fun b hb => ?_, ⟨fun C i v s₃ m₃ E' _ hv hn hm kk _ => ?_, fun C i v s₃ m₃ E' _ hv _ hn hm kk _ => ?_⟩, fun D h' tk ys vs hD hl _ hlen hP hF kk => ?_⟩
  · show IsRangeIter s₂.heap I (0 + ((0 : Nat) : Int) * 8) ((((row.length + 7) / 8 : Nat) : Int) - ((0 : Nat) : Int)) 8
    simpa using hI
  · rw [List.mem_singleton.mp hb]; exact Heap.lt_size hI
  · exact wpAny_pure ⟨rfl, _, _, rfl, fun _ _ e => e⟩
  · obtain ⟨t, rfl⟩ := hv
    have one : ∀ b : Nat, b ≠ I → b ∉ [I] := fun b q z => q (List.mem_singleton.mp z)
    have gI : ∀ b ob, g.get? b = some ob → b ≠ I := fun b ob e z => by rw [z, hIg] at e; cases e
    have hm' : m₃ (Str.ofString "k") = some (.int ((8 * i : Nat) : Int) t) := by
      rw [hm]
      congr 2
      omega
    refine wpAny_mono (num_elt (k := 8 * i) (t1 := t1) hh room hz X T (fun b ob e => kk b ob (one b (gI b ob e)) (kp b ob e)) hn hm' ?_) (fun y s₄ hy => ?_) fun _ _ e => e
    · obtain ⟨ob, e, d⟩ := hC1
      exact ⟨ob, kk _ _ (one _ h1) e, d⟩
    · obtain ⟨⟨u, e1⟩, kk4⟩ := hy
      refine ⟨fun k t' e => ?_, kk4⟩
      injection e with e5
      obtain rfl : k = 8 * i := by omega
      exact ⟨u, e1⟩
  · have hF' := hF
    rw [List.filter_eq_self.mpr (fun _ _ => rfl)] at hF'
    have hl2 := paired_len hF'
    refine ret D h' tk ys hl (.inr trivial) (fun b ob q e => kk b ob (fun z => q (List.mem_singleton.mp z)) e) (by rw [← Array.length_toList, hl2, hlen]) (fun j hj => ?_)
    obtain ⟨y, hy, hG⟩ := paired_get hF' j vs[j] (List.getElem?_eq_getElem (by omega))
    obtain ⟨t, hv⟩ := hP j vs[j] (List.getElem?_eq_getElem (by omega))
    obtain ⟨u, rfl⟩ := hG (8 * j) t (by
      rw [hv]
      congr 1
      omega)
    exact ⟨u, by rw [← Array.getElem?_toList]; exact hy⟩
section
variable {w : World} {mean : ExcName → Option Value} {mg mb : Str → Option Value} {dp un : Nat} {gd : Option (List Code)} {cn : Str} {cs : Scope} {a : Addr} {ccd : Value} {cl : List (Str × Addr)} {outer : List Env} {A₀ : Around} {base h₀ : Heap} {L : Addr} {m : Str → Option Value} {news : List (Addr × Obj)} {s : Shared} {Q E : Value → Shared → Prop}
theorem num_bytes {A : Around} {D : Addr} {ys : Array Value} {row : List UInt8} (hb : IsBits row) (F : Fr h₀ L s.heap m) (N : News h₀ L s.heap news) (hh : A.handled = none) (hl : s.heap.IsList D ys) (hz : row.length ≤ 4000)
    (hs : ys.size = (row.length + 7) / 8) (he : ∀ j, j < (row.length + 7) / 8 → ∃ t, ys[j]? = some (.int ((num ((row.drop (8 * j)).take 8) : Nat) : Int) t))
    (h : ∀ t' h' k, Fr h₀ L h' m → News h₀ L h' news → Q (.bytes (unbits row).toArray t') { s with heap := h', toks := k }) : wpAny (model rw_.prog w) A (call (.type "bytes") [.ref D]) Q E s := by
  have hr : IntRow ys (unbits row) := by
    refine ⟨by rw [unbits_length]; exact hs, fun j c e => ?_⟩
    have hj : j < (row.length + 7) / 8 := by
      rw [← unbits_length row]
      rcases Nat.lt_or_ge j (unbits row).length with q | q
      · exact q
      · rw [List.getElem?_eq_none q] at e; cases e
    obtain ⟨t, ht⟩ := he j hj
    refine ⟨t, ht.trans ?_⟩
    have e2 : (unbits row)[j]? = some (UInt8.ofNat (num ((row.drop (8 * j)).take 8))) := by
      unfold unbits parts
      rw [List.getElem?_map, List.getElem?_map, List.getElem?_range hj]
      rfl
    rw [e2] at e
    cases e
    have lt : num ((row.drop (8 * j)).take 8) < 256 := by
      have h1 := num_below ((hb.drop (8 * j)).take 8)
      have h2 : ((row.drop (8 * j)).take 8).length ≤ 8 := by rw [List.length_take]; exact Nat.min_le_left _ _
      exact Nat.lt_of_lt_of_le h1 (Nat.pow_le_pow_right (by decide) h2)
    rw [UInt8.toNat_ofNat_of_lt' lt]
  refine KBa.make_K (vs := ys.toList) (ns := (unbits row).map fun c => ((c.toNat : Nat) : Int)) F N hh (by rw [Array.toArray_toList]; exact hl) hr.ints (fun k hk => ?_) (by rw [List.length_map, unbits_length]; omega) fun h' t' k F' N' _ => ?_
  · obtain ⟨c, _, rfl⟩ := List.mem_map.mp hk
    exact ⟨Int.natCast_nonneg _, by have := c.toNat_lt; omega⟩
  · rw [byteArr_row]
    exact h t' h' k F' N'
end
theorem jxLw4_rows5 : True := by
  (k_with "eval ListComp" => (k_here; k_dflt (refine' num_comp ?lp ?la ?lb ?lc ?ld ?le ?_ ?lf; (case lp => with_reducible assumption); (case la => exact rfl); (case lb => decide); (case lc => exact rfl); (case ld => decide); (case le => exact rfl); (case lf => (intro _; rfl)))))
  (k_with "call type:bytes" => (k_here; (with_reducible show wpAny _ _ (call (Value.type "bytes") [Value.ref _]) _ _ _); k_dflt (refine' num_bytes ?k0 ?k1 ?k2 ?k3 ?k4 ?k5 ?k6 ?k7 ?_; (case k0 => with_reducible assumption); (case k1 => k_asm); (case k2 => k_asm); (case k3 => exact rfl); (case k4 => with_reducible assumption); (case k6 => with_reducible assumption); (case k7 => with_reducible assumption); (case k5 => omega)); intro t9 h9 k9 F9 N9; (try dsimp only); (try k_sweep); (try k_fold)))
  exact trivial
theorem ch4 {w : World} {g : Heap} {L : Addr} {mean : ExcName → Option Value} {mg mb : Str → Option Value} {dp un : Nat} {gd : Option (List Code)} {s : Shared} {ps : Array Value} {m : Str → Option Value} {rest : List Stmt} {Q : Flow → Shared → Prop} {E : Value → Shared → Prop} (T : ctxTop mean mg mb g) (X : (kfrag w.params).In g) (hL : @LT.lt Nat _ 118 L) (hd : dp + 40 < recursionLimit) (hu : un + 8 * 40 < cLine) (t : TriplesOk ps.toList) {row : List UInt8} {tr : Tok} {oO oR : Obj}
    (hb : IsBits row) (hz : row.length ≤ 126) (F : Fr g L s.heap m) (N : News g L s.heap [(118, tabObj ps), (L + 1 + 1, oO), (L + 1, oR)]) (dR : oR.data = .cell (some (.bytes row.toArray tr))) (nO : NotTab oO)
    (cont : ∀ ps' h' g' tk', TriplesOk ps'.toList → Fr g L h' m → News g L h' [(118, tabObj ps'), (L + 1 + 1, oO), (L + 1, oR)] → GG s.gens g' →
      wpAny (model rw_.prog w) (ktrTop dp un gd (Str.ofString "law") fnS42 L 262 (.ref 261) (lawCl L) []) (execs rest (lawEnv L)) Q E { s with heap := h', gens := g', toks := tk' }) :
    wpAny (model rw_.prog w) (ktrTop dp un gd (Str.ofString "law") fnS42 L 262 (.ref 261) (lawCl L) []) (execs (st8 :: rest) (lawEnv L)) Q E s := by
  refine (show (kfrag = kfrag → _) → _ from fun hh => hh rfl) ?_
  k_fill
  w_on
  intro _
  have B := below_caller g
  dsimp only [st8]
  k_steps
  with_reducible rename IsRange _ _ _ _ _ _ _ _ => hR9
  with_reducible rename News _ _ _ _ => N9
  with_reducible rename Fr _ _ _ _ => F9
  dsimp only at hR9 ⊢
  refine wpAny_pyIter_range hR9 (small_8 (by omega)) ?_
  rw [rangeSize_8]
  dsimp only
  have mR := N9 (L + 1, oR) (List.Mem.tail _ (List.Mem.tail _ (List.Mem.head _)))
  refine' num_fin (s₂ := ⟨_, _, _, _, _⟩) (row := row) (t1 := tr) ?jh ?jr ?jz X T ?jk ?jg ?jI ?jc ?jn ?jret
  case jh => exact rfl
  case jr => show dp < recursionLimit; omega
  case jz => omega
  case jk => exact fun b ob e => Heap.get?_push_of_some _ (F9.keep b ob e)
  case jI => exact Heap.get?_push_size _ rfl
  case jg =>
    cases z : g.get? _ with
    | none => rfl
    | some ob => exact absurd (Heap.lt_size (F9.keep _ _ z)) (Nat.lt_irrefl _)
  case jc => exact ⟨_, Heap.get?_push_of_some _ mR.1, dR⟩
  case jn => exact Nat.ne_of_lt (Heap.lt_size mR.1)
  case jret =>
    intro D h9 tk9 ys hl9 _ hk9 hs9 he9
    have up : ∀ (b : Addr) (ob : Obj), _ → h9.get? b = some ob := fun b ob e => hk9 b ob (Nat.ne_of_lt (Heap.lt_size e)) (Heap.get?_push_of_some _ e)
    have F10 := Fr.mk (F9.ns.at' fun ob e => up _ ob e) (fun b ob e => up b ob (F9.keep b ob e)) F9.above
    have N10 : News g L h9 _ := fun q hq => ⟨up _ _ (N9 q hq).1, (N9 q hq).2⟩
    clear up hk9 mR hR9 N9 F9
    dsimp only [RunQ]
    k_steps
    refine' cont _ _ _ _ ?ct ?cF ?cN ?cG
    case cF => with_reducible assumption
    case cN => walk_at "jx drop"
    case ct => with_reducible assumption
    case cG => walk_at "jx gg"
end
-- JxParsed
section
theorem jxParsed_rows1 : True := by
  k_with_none
  (k_with "jx gg" => first | exact GG.refl _ | assumption | (refine GG.trans ?_ (by assumption); walk_at "jx gg"))
  (k_with "jx asks" => ((case k1 => k_asm); (case k2 => k_asm); (case k3 => k_asm); (case k4 => k_asm); (case k5 => k_asm); (case k6 => first | exact rfl | assumption); (case k7 => ktr_room); (case k8 => ktr_units)))
  (k_with "jx ne" => first | assumption | exact List.forall_mem_nil _ | (refine List.forall_mem_cons.mpr ⟨(by first | assumption | exact fun p9 z9 => absurd (congrArg Obj.cls z9) (by intro y9; cases y9) | exact notTab_cell (by assumption)), ?_⟩; walk_at "jx ne"))
  (k_with "jx backP" => (intro v9 ps9 h9 g9 tk9 R9 t9P F9 N9 G9; (first | (obtain ⟨t9, e9⟩ := R9; subst e9) | subst R9); (try dsimp only); (try k_sweep); (try k_fold)))
  (k_with "jx back" => (intro v9 h9 g9 tk9 R9 F9 N9 G9; (first | (obtain ⟨t9, e9⟩ := R9; subst e9) | subst R9); (try dsimp only); (try k_sweep); (try k_fold)))
  (k_with "jx back0" => (intro v9 h9 tk9 R9 F9 N9; (first | (obtain ⟨t9, e9⟩ := R9; subst e9) | subst R9); (try dsimp only); (try k_sweep); (try k_fold)))
  (k_with "jx dive" => skip)
  (k_with "jx fly0" => (intro e9 t9 xs9 h19 h9 tk9 F9 U9 R9; (try dsimp only); walk_at "jx dive"; (try k_fold)))
  (k_with "jx flyN" => (intro e9 h19 h9 g9 tk9 F9 U9 R9 G9; (try dsimp only); walk_at "jx diveN"; (try k_fold)))
  (k_with "jx diveN" => skip)
  (k_with "jx fly" => (intro e9 t9 xs9 h19 h9 g9 tk9 F9 U9 R9 G9; (try dsimp only); walk_at "jx dive"; (try k_fold)))
  (k_with "jx dec" => first | assumption | decide | (simp only [List.size_toArray, List.length_append, List.length_cons, List.length_nil, bne_iff_ne, ne_eq, beq_iff_eq, Bool.not_eq_true, Decidable.not_not, decide_eq_true_eq, decide_eq_false_iff_not, Bool.not_true, Bool.not_false, reduceCtorEq, not_false_eq_true, not_true_eq_false]; done) | (simp only [List.size_toArray, List.length_append, List.length_cons, List.length_nil, bne_iff_ne, ne_eq, beq_iff_eq, Bool.not_eq_true, Decidable.not_not, decide_eq_true_eq, decide_eq_false_iff_not]; omega))
  (k_with "ite" => (k_here; first | rw [if_pos (by walk_at "jx dec")] | rw [if_neg (by walk_at "jx dec")]))
  exact trivial
theorem jxParsed_rows2 : True := by
  (k_with "jx cut" => with_reducible first | exact cutL_from _ _ | exact cutL_to _ _ | exact cutL_mid _ _ _ | exact cutL_last _ _ (by decide) | exact cutL_but _ _ _ (by decide) | exact cut_all _ | exact cut_from _ _ | exact cut_to _ _ | exact cut_mid _ _ _)
  (k_with "jx len" => first | omega | (simp only [List.length_append, List.length_cons, List.length_nil, List.length_take, List.length_drop, List.length_replicate, List.length_map, List.length_reverse]; omega))
  (k_with "binaryOp Add bytes bytes" => (k_here; (with_reducible show wpAny _ _ (binaryOp Operator.Add (Value.bytes (List.toArray _) _) (Value.bytes (List.toArray _) _)) _ _ _); (refine jb_add (by walk_at "jx len") ?_); intro _ _))
  (k_with "call builtin:len" => (k_here; (with_reducible show wpAny _ _ (call (Value.builtin "len") [Value.bytes (List.toArray _) _]) _ _ _); (refine jb_len (by walk_at "jx len") ?_); intro _ _))
  (k_with "compareOp Eq bytes bytes" => refine jb_eq ?_)
  (k_with "compareOp NotEq bytes bytes" => refine jb_ne ?_)
  (k_with "subscriptTail" => (k_here; (with_reducible show wpAny _ _ (subscriptTail _ (Expr.Slice _ _ none _) (Value.bytes (List.toArray _) _) (Value.ref _)) _ _ _); (with_reducible rename Fr _ _ _ _ => F'); (with_reducible rename News _ _ _ _ => N'); (refine jb_slice (s := ⟨_, _, _, _, _⟩) F' N' (by constructor) (by constructor) (by walk_at "jx len") (by walk_at "jx cut") ?_); intro _ _ _ _ _))
  (k_with "subscriptTail" => (k_here; (with_reducible show wpAny _ _ (subscriptTail _ _ (Value.bytes (List.toArray _) _) (Value.int _ _)) _ _ _); (refine KBy.item_N (by walk_at "jx len") (by walk_at "jx len") (by walk_at "jx len") ?_)))
  (k_with "eval Constant int" => (k_here; refine wpAny_Constant_int ?_; (try dsimp only)))
  (k_with "call ref" => (k_here; (with_reducible show wpAny _ _ (call (Value.ref 170) [Value.bytes (List.toArray _) _]) _ _ _); (refine' parse_use ?x1 ?k1 ?k2 ?k3 ?k4 ?k5 ?k6 ?k7 ?k8 ?_ ?_ ?_ ?_ ?_; (case x1 => walk_at "jx len"); walk_at "jx asks"); (intro p9 c9 a9 t7 t8 t9 hp9 h9 g9 tk9 F9 N9 G9; (try dsimp only); (try k_sweep); (try k_fold)); rotate_left; (intro p9 c9 a9 t7 t8 t9 hp9 h9 g9 tk9 F9 N9 G9; (try dsimp only); (try k_sweep); (try k_fold)); rotate_left; (intro c9 a9 t8 t9 hp9 h9 g9 tk9 F9 N9 G9; (try dsimp only); (try k_sweep); (try k_fold)); rotate_left; (intro hp9 e9 t9 xs9 h19 h9 g9 tk9 F9 U9 R9 G9; (try dsimp only); walk_at "jx dive"; (try k_fold)); rotate_left; (intro hp9; walk_at "jx flyN"); rotate_left))
  (k_with "jx dive" => ((with_reducible rename RaisedK _ _ _ _ _ _ _ _ => rkQ); (with_reducible rename Heap.UpToSlots _ _ => uQ); obtain ⟨gQ, sQ, fQ, u2Q⟩ := toS rkQ (by assumption) uQ rfl (by assumption) (by assumption) (by assumption); clear rkQ))
  (k_with "jx diveN" => ((with_reducible rename RaisedN _ _ _ _ _ _ => rkQ); (with_reducible rename Heap.UpToSlots _ _ => uQ); obtain ⟨gQ, sQ, fQ, u2Q⟩ := toSN rkQ (by assumption) uQ rfl (by assumption) (by assumption) (by assumption); clear rkQ))
  exact trivial
theorem parsed_ok (w : World) (o : List UInt8) (t1 : Tok) (hz : o.length ≤ 3000) : NewsT 10 w 238 [.bytes o.toArray t1] (Said (parseR o)) := by
  unfold NewsT
  refine (show (kfrag = kfrag → _) → _ from fun hh => hh rfl) ?_
  k_fill
  w_on
  intro _
  intro mean mg mb dp un gd cn cs a ccd cl A₀ h₀ L m news s Q E ⟨B, F, X, N, T, hk, hd, hu⟩ hret
  refine wpAny_call (call_try (name := Str.ofString "_law_parsed") (params := fnP38) (body := fnB38) (scope := fnS38) (binds := [(Str.ofString "octets", .bytes o.toArray t1)]) B F X N T rfl rfl (by k_is) (by ktr_room) (BindsTo.of_eq rfl) (locs rfl) ?_ hk rfl rfl rfl (by decide))
  intro g' L' h' FG' F' N' B' X' T' D'
  dsimp only [fnB38, fnS38, List.length, List.reverse, List.reverseAux] at F' ⊢
  obtain ⟨b', B'', XB', TB', SB'⟩ := hideBase B' FG' X T
  clear B'
  (try k_lift B'')
  k_fold
  k_steps
  all_goals clear_value qk ek
  all_goals first
    | (refine hret _ [] _ _ _ ?_ (by assumption) (by assumption) (by walk_at "jx gg"); (first | rw [show parseR o = PR.path by assumption] | rw [show parseR o = PR.node by assumption]); exact ⟨_, rfl, rfl⟩)
    | (refine' hret _ [_] _ _ _ ?r1 ?r2 ?r3 ?r4; (case r3 => assumption); (case r2 => assumption); (case r4 => walk_at "jx gg"); (case r1 => (first | (rw [show parseR o = PR.kv _ _ by assumption]; exact ⟨_, _, _, _, rfl, rfl⟩) | (rw [show parseR o = PR.br _ _ by assumption]; exact ⟨_, _, _, _, rfl, rfl⟩) | (rw [show parseR o = PR.leaf _ by assumption]; exact ⟨_, _, _, rfl, rfl⟩))))
end
-- JxCmp
section
theorem jxCmp_rows1 : True := by
  k_with_none
  (k_with "jx gg" => first | exact GG.refl _ | assumption | (refine GG.trans ?_ (by assumption); walk_at "jx gg"))
  (k_with "jx asks" => ((case k1 => k_asm); (case k2 => k_asm); (case k3 => k_asm); (case k4 => k_asm); (case k5 => k_asm); (case k6 => first | exact rfl | assumption); (case k7 => ktr_room); (case k8 => ktr_units)))
  (k_with "jx ne" => first | assumption | exact List.forall_mem_nil _ | (refine List.forall_mem_cons.mpr ⟨(by first | assumption | exact fun p9 z9 => absurd (congrArg Obj.cls z9) (by intro y9; cases y9) | exact notTab_cell (by assumption)), ?_⟩; walk_at "jx ne"))
  (k_with "jx backP" => (intro v9 ps9 h9 g9 tk9 R9 t9P F9 N9 G9; (first | (obtain ⟨t9, e9⟩ := R9; subst e9) | subst R9); (try dsimp only); (try k_sweep); (try k_fold)))
  (k_with "jx back" => (intro v9 h9 g9 tk9 R9 F9 N9 G9; (first | (obtain ⟨t9, e9⟩ := R9; subst e9) | subst R9); (try dsimp only); (try k_sweep); (try k_fold)))
  (k_with "jx back0" => (intro v9 h9 tk9 R9 F9 N9; (first | (obtain ⟨t9, e9⟩ := R9; subst e9) | subst R9); (try dsimp only); (try k_sweep); (try k_fold)))
  (k_with "jx dive" => skip)
  (k_with "jx fly0" => (intro e9 t9 xs9 h19 h9 tk9 F9 U9 R9; (try dsimp only); walk_at "jx dive"; (try k_fold)))
  (k_with "jx flyN" => (intro e9 h19 h9 g9 tk9 F9 U9 R9 G9; (try dsimp only); walk_at "jx diveN"; (try k_fold)))
  (k_with "jx diveN" => skip)
  (k_with "jx fly" => (intro e9 t9 xs9 h19 h9 g9 tk9 F9 U9 R9 G9; (try dsimp only); walk_at "jx dive"; (try k_fold)))
  (k_with "jx dec" => first | assumption | decide | (simp only [List.size_toArray, List.length_append, List.length_cons, List.length_nil, bne_iff_ne, ne_eq, beq_iff_eq, Bool.not_eq_true, Decidable.not_not, decide_eq_true_eq, decide_eq_false_iff_not, Bool.not_true, Bool.not_false, reduceCtorEq, not_false_eq_true, not_true_eq_false]; done) | (simp only [List.size_toArray, List.length_append, List.length_cons, List.length_nil, bne_iff_ne, ne_eq, beq_iff_eq, Bool.not_eq_true, Decidable.not_not, decide_eq_true_eq, decide_eq_false_iff_not]; omega))
  (k_with "ite" => (k_here; first | rw [if_pos (by walk_at "jx dec")] | rw [if_neg (by walk_at "jx dec")]))
  exact trivial
section
open PySem.SeqAt
variable {prog : Program} {w : World} {A : Around} {E : Value → Shared → Prop} {s : Shared} {h₀ : Heap} {L : Addr} {news : List (Addr × Obj)} {Q : Value → Shared → Prop}
theorem eqAt_bytes (p : List UInt8) (t u : Tok) (B : Around) : EqAt B s (.bytes p.toArray t) (.bytes p.toArray u) true := fun prog w E Q hq => by
  unfold eqBool
  refine wpAny_holding ?_
  refine wpAny_ite_split (fun _ => ?_) (fun _ => ?_)
  · exact wpAny_bind (wpAny_rule (wpAny_pure hq))
  · refine wpAny_bind ?_
    show wpAny _ _ (compareOp .Eq _ _) _ _ _
    refine eq_bytes ?_
    rw [beq_self_eq_true]
    exact wpAny_truthy_bool hq
theorem eqAt_int (k : Int) (t u : Tok) (B : Around) : EqAt B s (.int k t) (.int k u) true := by
  have := EqAt.int_int (A := B) (s := s) k t k u
  rwa [beq_self_eq_true] at this
theorem ne_tup {a b : Addr} {x1 x2 x3 y1 y2 y3 : Value} {sl sl2 : Array (Option Value)} {n n2 : Nat} (N : News h₀ L s.heap news) (ha : (a, { cls := .type "tuple", data := .seq #[x1, x2, x3] n, slots := sl }) ∈ news) (hb : (b, { cls := .type "tuple", data := .seq #[y1, y2, y3] n2, slots := sl2 }) ∈ news)
    (e1 : EqAt A.in1 s x1 y1 true) (e2 : EqAt A.in1 s x2 y2 true) (e3 : EqAt A.in1 s x3 y3 true) (hu : A.units < cLine) (h : Q (.bool false) s) : wpAny (model prog w) A (compareOp .NotEq (.ref a) (.ref b)) Q E s := by
  have := RcNeAt.tuples (A := A) (s := s) (l := a) (b := b) (items := #[x1, x2, x3]) (items2 := #[y1, y2, y3]) (e := fun _ => true) ⟨_, (N _ ha).1, rfl, _, rfl⟩ ⟨_, (N _ hb).1, rfl, _, rfl⟩ hu (fun j h1 h2 => by
    match j, h1 with
    | 0, _ => exact e1
    | 1, _ => exact e2
    | 2, _ => exact e3)
  exact this prog w E Q h
theorem eq_tup {a b : Addr} {x1 x2 x3 y1 y2 y3 : Value} {sl sl2 : Array (Option Value)} {n n2 : Nat} (N : News h₀ L s.heap news) (ha : (a, { cls := .type "tuple", data := .seq #[x1, x2, x3] n, slots := sl }) ∈ news) (hb : (b, { cls := .type "tuple", data := .seq #[y1, y2, y3] n2, slots := sl2 }) ∈ news)
    (e1 : EqAt A.in1 s x1 y1 true) (e2 : EqAt A.in1 s x2 y2 true) (e3 : EqAt A.in1 s x3 y3 true) (hu : A.units < cLine) (h : Q (.bool true) s) : wpAny (model prog w) A (compareOp .Eq (.ref a) (.ref b)) Q E s := by
  have := RcAt.tuples (A := A) (s := s) (l := a) (b := b) (items := #[x1, x2, x3]) (items2 := #[y1, y2, y3]) (e := fun _ => true) ⟨_, (N _ ha).1, rfl, _, rfl⟩ ⟨_, (N _ hb).1, rfl, _, rfl⟩ hu (fun j h1 h2 => by
    match j, h1 with
    | 0, _ => exact e1
    | 1, _ => exact e2
    | 2, _ => exact e3)
  exact this prog w E Q h
end
end
-- JxLw5
section
theorem jxLw5_rows1 : True := by
  k_with_none
  (k_with "jx gg" => first | exact GG.refl _ | assumption | (refine GG.trans ?_ (by assumption); walk_at "jx gg"))
  (k_with "jx asks" => ((case k1 => k_asm); (case k2 => k_asm); (case k3 => k_asm); (case k4 => k_asm); (case k5 => k_asm); (case k6 => first | exact rfl | assumption); (case k7 => ktr_room); (case k8 => ktr_units)))
  (k_with "jx ne" => first | assumption | exact List.forall_mem_nil _ | (refine List.forall_mem_cons.mpr ⟨(by first | assumption | exact fun p9 z9 => absurd (congrArg Obj.cls z9) (by intro y9; cases y9) | exact notTab_cell (by assumption)), ?_⟩; walk_at "jx ne"))
  (k_with "jx backP" => (intro v9 ps9 h9 g9 tk9 R9 t9P F9 N9 G9; (first | (obtain ⟨t9, e9⟩ := R9; subst e9) | subst R9); (try dsimp only); (try k_sweep); (try k_fold)))
  (k_with "jx back" => (intro v9 h9 g9 tk9 R9 F9 N9 G9; (first | (obtain ⟨t9, e9⟩ := R9; subst e9) | subst R9); (try dsimp only); (try k_sweep); (try k_fold)))
  (k_with "jx back0" => (intro v9 h9 tk9 R9 F9 N9; (first | (obtain ⟨t9, e9⟩ := R9; subst e9) | subst R9); (try dsimp only); (try k_sweep); (try k_fold)))
  (k_with "jx dive" => skip)
  (k_with "jx fly0" => (intro e9 t9 xs9 h19 h9 tk9 F9 U9 R9; (try dsimp only); walk_at "jx dive"; (try k_fold)))
  (k_with "jx flyN" => (intro e9 h19 h9 g9 tk9 F9 U9 R9 G9; (try dsimp only); walk_at "jx diveN"; (try k_fold)))
  (k_with "jx diveN" => skip)
  (k_with "jx fly" => (intro e9 t9 xs9 h19 h9 g9 tk9 F9 U9 R9 G9; (try dsimp only); walk_at "jx dive"; (try k_fold)))
  (k_with "jx dec" => first | assumption | decide | (simp only [List.size_toArray, List.length_append, List.length_cons, List.length_nil, bne_iff_ne, ne_eq, beq_iff_eq, Bool.not_eq_true, Decidable.not_not, decide_eq_true_eq, decide_eq_false_iff_not, Bool.not_true, Bool.not_false, reduceCtorEq, not_false_eq_true, not_true_eq_false]; done) | (simp only [List.size_toArray, List.length_append, List.length_cons, List.length_nil, bne_iff_ne, ne_eq, beq_iff_eq, Bool.not_eq_true, Decidable.not_not, decide_eq_true_eq, decide_eq_false_iff_not]; omega))
  (k_with "ite" => (k_here; first | rw [if_pos (by walk_at "jx dec")] | rw [if_neg (by walk_at "jx dec")]))
  exact trivial
theorem jxLw5_rows2 : True := by
  (k_with "jx cut" => with_reducible first | exact cutL_from _ _ | exact cutL_to _ _ | exact cutL_mid _ _ _ | exact cutL_last _ _ (by decide) | exact cutL_but _ _ _ (by decide) | exact cut_all _ | exact cut_from _ _ | exact cut_to _ _ | exact cut_mid _ _ _)
  (k_with "jx len" => first | omega | (simp only [List.length_append, List.length_cons, List.length_nil, List.length_take, List.length_drop, List.length_replicate, List.length_map, List.length_reverse]; omega))
  (k_with "binaryOp Add bytes bytes" => (k_here; (with_reducible show wpAny _ _ (binaryOp Operator.Add (Value.bytes (List.toArray _) _) (Value.bytes (List.toArray _) _)) _ _ _); (refine jb_add (by walk_at "jx len") ?_); intro _ _))
  (k_with "call builtin:len" => (k_here; (with_reducible show wpAny _ _ (call (Value.builtin "len") [Value.bytes (List.toArray _) _]) _ _ _); (refine jb_len (by walk_at "jx len") ?_); intro _ _))
  (k_with "compareOp Eq bytes bytes" => refine jb_eq ?_)
  (k_with "compareOp NotEq bytes bytes" => refine jb_ne ?_)
  (k_with "subscriptTail" => (k_here; (with_reducible show wpAny _ _ (subscriptTail _ (Expr.Slice _ _ none _) (Value.bytes (List.toArray _) _) (Value.ref _)) _ _ _); (with_reducible rename Fr _ _ _ _ => F'); (with_reducible rename News _ _ _ _ => N'); (refine jb_slice (s := ⟨_, _, _, _, _⟩) F' N' (by constructor) (by constructor) (by walk_at "jx len") (by walk_at "jx cut") ?_); intro _ _ _ _ _))
  (k_with "subscriptTail" => (k_here; (with_reducible show wpAny _ _ (subscriptTail _ _ (Value.bytes (List.toArray _) _) (Value.int _ _)) _ _ _); (refine KBy.item_N (by walk_at "jx len") (by walk_at "jx len") (by walk_at "jx len") ?_)))
  (k_with "eval Constant int" => (k_here; refine wpAny_Constant_int ?_; (try dsimp only)))
  (k_with "jx var" => first | with_reducible assumption | (refine (if_neg (by decide +kernel)).trans ?_; walk_at "jx var") | exact if_pos rfl)
  (k_with "eval Name" => (k_here; (refine' nameX_L ?F ?v ?_ ?a ?b; (case F => k_asm); (case a => rfl); (case b => rfl); (case v => walk_at "jx var"); k_whole)))
  (k_with "jx drop" => first | (with_reducible assumption) | ((with_reducible rename News _ _ _ _ => nn9); exact fun q9 hq9 => nn9 q9 (by repeat' (first | exact hq9 | apply List.Mem.tail))))
  (k_with "jx tm" => first | exact List.Mem.head _ | (refine List.Mem.tail _ ?_; walk_at "jx tm"))
  (k_with "jx eqa" => first | (with_reducible exact eqAt_bytes _ _ _ _) | (with_reducible exact eqAt_int _ _ _ _) | (with_reducible exact PySem.SeqAt.EqAt.same _))
  (k_with "compareOp NotEq ref ref" => (k_here; (with_reducible show wpAny _ _ (compareOp CmpOp.NotEq (Value.ref _) (Value.ref _)) _ _ _); (with_reducible rename News _ _ _ _ => nn9); (with_reducible refine' ne_tup nn9 ?ha ?hb ?e1 ?e2 ?e3 ?hu ?_); (case ha => k_dflt (walk_at "jx tm")); (case hb => k_dflt (walk_at "jx tm")); (case e1 => walk_at "jx eqa"); (case e2 => walk_at "jx eqa"); (case e3 => walk_at "jx eqa"); (case hu => k_dflt ((try dsimp only); omega))))
  (k_with "compareOp Eq ref ref" => (k_here; (with_reducible show wpAny _ _ (compareOp CmpOp.Eq (Value.ref _) (Value.ref _)) _ _ _); (with_reducible rename News _ _ _ _ => nn9); (with_reducible refine' eq_tup nn9 ?ha ?hb ?e1 ?e2 ?e3 ?hu ?_); (case ha => k_dflt (walk_at "jx tm")); (case hb => k_dflt (walk_at "jx tm")); (case e1 => walk_at "jx eqa"); (case e2 => walk_at "jx eqa"); (case e3 => walk_at "jx eqa"); (case hu => k_dflt ((try dsimp only); omega))))
  exact trivial
theorem said_cases {r : PR} {v : Value} {ex : List (Addr × Obj)} (h : Said r v ex) : (r = .node ∧ ∃ t : Tok, v = .str (Str.ofString "no node") t ∧ ex = []) ∨ (r = .path ∧ ∃ t : Tok, v = .str (Str.ofString "no path") t ∧ ex = []) ∨ ∃ (a : Addr) (k : Int) (t1 : Tok) (v2 v3 : Value), v = .ref a ∧ ex = [(a, tup3 (.int k t1) v2 v3)] := by
  cases r with
  | node => obtain ⟨t, e, x⟩ := h; exact .inl ⟨rfl, t, e, x⟩
  | path => obtain ⟨t, e, x⟩ := h; exact .inr (.inl ⟨rfl, t, e, x⟩)
  | kv p c => obtain ⟨a, t1, t2, t3, e, x⟩ := h; exact .inr (.inr ⟨a, 0, t1, _, _, e, x⟩)
  | br p c => obtain ⟨a, t1, t2, t3, e, x⟩ := h; exact .inr (.inr ⟨a, 1, t1, _, _, e, x⟩)
  | leaf c => obtain ⟨a, t1, t3, e, x⟩ := h; exact .inr (.inr ⟨a, 2, t1, _, _, e, x⟩)
theorem jxLw5_rows3 : True := by
  (k_with "jx said" => ((with_reducible rename Said _ _ _ => R9); first | (obtain ⟨a9, t7, t8, t9, e9, x9⟩ := R9; subst e9; subst x9) | (obtain ⟨a9, t7, t8, e9, x9⟩ := R9; subst e9; subst x9) | (obtain ⟨t9, e9, x9⟩ := R9; subst e9; subst x9)))
  (k_with "call ref" => (k_here; (with_reducible show wpAny _ _ (call (Value.ref 238) [Value.bytes (List.toArray _) _]) _ _ _); (refine' NewsT.use (parsed_ok _ _ _ ?x1) ?k1 ?k2 ?k3 ?k4 ?k5 ?k6 ?k7 ?k8 ?_; (case x1 => omega); walk_at "jx asks"); (intro v9 ex9 h9 g9 tk9 R9 F9 N9 G9; (with_reducible rename parseR _ = _ => p9); rw [p9] at R9; walk_at "jx said"; (try simp only [List.cons_append, List.nil_append] at N9); (try dsimp only); (try k_sweep); (try k_fold))))
  (k_with "call ref" => (k_here; (with_reducible show wpAny _ _ (call (Value.ref 245) [Value.bytes (List.toArray _) _]) _ _ _); (refine' Does.use (due_ok _ _ _ ?x1) ?k1 ?k2 ?k3 ?k4 ?k5 ?k6 ?k7 ?k8 ?_ ?f1 ?f2; (case x1 => omega); walk_at "jx asks"; (case f1 => (intro _ _ _ _ _ _ _ _ f9; exact f9.elim)); (case f2 => (intro _ _ _ _ _ f9; exact f9.elim))); (intro v9 ex9 h9 g9 tk9 R9 F9 N9 G9; (with_reducible rename parseR _ = _ => p9); rw [p9] at R9; walk_at "jx said"; (try simp only [List.cons_append, List.nil_append] at N9); (try dsimp only); (try k_sweep); (try k_fold))))
  exact trivial
theorem ch5 {w : World} {g : Heap} {L : Addr} {mean : ExcName → Option Value} {mg mb : Str → Option Value} {dp un : Nat} {gd : Option (List Code)} {s : Shared} {ps : Array Value} {m : Str → Option Value} {rest : List Stmt} {Q : Flow → Shared → Prop} {E : Value → Shared → Prop} (T : ctxTop mean mg mb g) (X : (kfrag w.params).In g) (hL : @LT.lt Nat _ 118 L) (hd : dp + 40 < recursionLimit) (hu : un + 8 * 40 < cLine) (t : TriplesOk ps.toList) {row o : List UInt8} {tr tO : Tok} {oO oR : Obj}
    (hz : o.length ≤ 90) (F : Fr g L s.heap m) (N : News g L s.heap [(118, tabObj ps), (L + 1 + 1, oO), (L + 1, oR)]) (dO : oO.data = .cell (some (.bytes o.toArray tO)))
    (cont : ∀ h' g' tk', Fr g L h' m → News g L h' [(118, tabObj ps), (L + 1 + 1, oO), (L + 1, oR)] → GG s.gens g' →
      wpAny (model rw_.prog w) (ktrTop dp un gd (Str.ofString "law") fnS42 L 262 (.ref 261) (lawCl L) []) (execs rest (lawEnv L)) Q E { s with heap := h', gens := g', toks := tk' }) :
    wpAny (model rw_.prog w) (ktrTop dp un gd (Str.ofString "law") fnS42 L 262 (.ref 261) (lawCl L) []) (execs (st9 :: rest) (lawEnv L)) Q E s := by
  refine (show (kfrag = kfrag → _) → _ from fun hh => hh rfl) ?_
  k_fill
  w_on
  intro _
  have B := below_caller g
  dsimp only [st9]
  cases hp : parseR o
  all_goals k_steps
  all_goals (refine' cont _ _ _ ?F ?N ?G; (case F => with_reducible assumption); (case N => first | with_reducible assumption | exact news_tail (news_tail (by with_reducible assumption))); (case G => walk_at "jx gg"))
end
-- JxKv
section
theorem jxKv_rows1 : True := by
  k_with_none
  (k_with "jx gg" => first | exact GG.refl _ | assumption | (refine GG.trans ?_ (by assumption); walk_at "jx gg"))
  (k_with "jx asks" => ((case k1 => k_asm); (case k2 => k_asm); (case k3 => k_asm); (case k4 => k_asm); (case k5 => k_asm); (case k6 => first | exact rfl | assumption); (case k7 => ktr_room); (case k8 => ktr_units)))
  (k_with "jx ne" => first | assumption | exact List.forall_mem_nil _ | (refine List.forall_mem_cons.mpr ⟨(by first | assumption | exact fun p9 z9 => absurd (congrArg Obj.cls z9) (by intro y9; cases y9) | exact notTab_cell (by assumption)), ?_⟩; walk_at "jx ne"))
  (k_with "jx backP" => (intro v9 ps9 h9 g9 tk9 R9 t9P F9 N9 G9; (first | (obtain ⟨t9, e9⟩ := R9; subst e9) | subst R9); (try dsimp only); (try k_sweep); (try k_fold)))
  (k_with "jx back" => (intro v9 h9 g9 tk9 R9 F9 N9 G9; (first | (obtain ⟨t9, e9⟩ := R9; subst e9) | subst R9); (try dsimp only); (try k_sweep); (try k_fold)))
  (k_with "jx back0" => (intro v9 h9 tk9 R9 F9 N9; (first | (obtain ⟨t9, e9⟩ := R9; subst e9) | subst R9); (try dsimp only); (try k_sweep); (try k_fold)))
  (k_with "jx dive" => skip)
  (k_with "jx fly0" => (intro e9 t9 xs9 h19 h9 tk9 F9 U9 R9; (try dsimp only); walk_at "jx dive"; (try k_fold)))
  (k_with "jx flyN" => (intro e9 h19 h9 g9 tk9 F9 U9 R9 G9; (try dsimp only); walk_at "jx diveN"; (try k_fold)))
  (k_with "jx diveN" => skip)
  (k_with "jx fly" => (intro e9 t9 xs9 h19 h9 g9 tk9 F9 U9 R9 G9; (try dsimp only); walk_at "jx dive"; (try k_fold)))
  (k_with "jx dec" => first | assumption | decide | (simp only [List.size_toArray, List.length_append, List.length_cons, List.length_nil, bne_iff_ne, ne_eq, beq_iff_eq, Bool.not_eq_true, Decidable.not_not, decide_eq_true_eq, decide_eq_false_iff_not, Bool.not_true, Bool.not_false, reduceCtorEq, not_false_eq_true, not_true_eq_false]; done) | (simp only [List.size_toArray, List.length_append, List.length_cons, List.length_nil, bne_iff_ne, ne_eq, beq_iff_eq, Bool.not_eq_true, Decidable.not_not, decide_eq_true_eq, decide_eq_false_iff_not]; omega))
  (k_with "ite" => (k_here; first | rw [if_pos (by walk_at "jx dec")] | rw [if_neg (by walk_at "jx dec")]))
  exact trivial
theorem jxKv_rows2 : True := by
  (k_with "jx cut" => with_reducible first | exact cutL_from _ _ | exact cutL_to _ _ | exact cutL_mid _ _ _ | exact cutL_last _ _ (by decide) | exact cutL_but _ _ _ (by decide) | exact cut_all _ | exact cut_from _ _ | exact cut_to _ _ | exact cut_mid _ _ _)
  (k_with "jx len" => first | omega | (simp only [List.length_append, List.length_cons, List.length_nil, List.length_take, List.length_drop, List.length_replicate, List.length_map, List.length_reverse]; omega))
  (k_with "binaryOp Add bytes bytes" => (k_here; (with_reducible show wpAny _ _ (binaryOp Operator.Add (Value.bytes (List.toArray _) _) (Value.bytes (List.toArray _) _)) _ _ _); (refine jb_add (by walk_at "jx len") ?_); intro _ _))
  (k_with "call builtin:len" => (k_here; (with_reducible show wpAny _ _ (call (Value.builtin "len") [Value.bytes (List.toArray _) _]) _ _ _); (refine jb_len (by walk_at "jx len") ?_); intro _ _))
  (k_with "compareOp Eq bytes bytes" => refine jb_eq ?_)
  (k_with "compareOp NotEq bytes bytes" => refine jb_ne ?_)
  (k_with "subscriptTail" => (k_here; (with_reducible show wpAny _ _ (subscriptTail _ (Expr.Slice _ _ none _) (Value.bytes (List.toArray _) _) (Value.ref _)) _ _ _); (with_reducible rename Fr _ _ _ _ => F'); (with_reducible rename News _ _ _ _ => N'); (refine jb_slice (s := ⟨_, _, _, _, _⟩) F' N' (by constructor) (by constructor) (by walk_at "jx len") (by walk_at "jx cut") ?_); intro _ _ _ _ _))
  (k_with "subscriptTail" => (k_here; (with_reducible show wpAny _ _ (subscriptTail _ _ (Value.bytes (List.toArray _) _) (Value.int _ _)) _ _ _); (refine KBy.item_N (by walk_at "jx len") (by walk_at "jx len") (by walk_at "jx len") ?_)))
  (k_with "eval Constant int" => (k_here; refine wpAny_Constant_int ?_; (try dsimp only)))
  (k_with "jx len" => first | omega | (simp only [List.length_append, List.length_cons, List.length_nil, List.length_take, List.length_drop, List.length_replicate, List.length_map]; omega))
  (k_with "call ref" => (k_here; (with_reducible show wpAny _ _ (call (Value.ref 156) [Value.bytes (List.toArray _) _]) _ _ _); (refine' Tell0.use (vbytes_ok _ _ _) ?k1 ?k2 ?k3 ?k4 ?k5 ?k6 ?k7 ?k8 ?_; walk_at "jx asks"); walk_at "jx back0"))
  (k_with "call ref" => (k_here; (with_reducible show wpAny _ _ (call (Value.ref 156) [Value.str _ _]) _ _ _); (refine' Raises0.use (vbytes_bad _ _ _) ?k1 ?k2 ?k3 ?k4 ?k5 ?k6 ?k7 ?k8 ?_; walk_at "jx asks"); walk_at "jx fly0"))
  (k_with "call ref" => (k_here; (with_reducible show wpAny _ _ (call (Value.ref 163) [Value.bytes (List.toArray _) _, Value.int _ _]) _ _ _); (refine' Raises0.use (vlen_bad _ _ _ _ _ (by walk_at "jx len") (by walk_at "jx len") (by omega)) ?k1 ?k2 ?k3 ?k4 ?k5 ?k6 ?k7 ?k8 ?_; walk_at "jx asks"); walk_at "jx fly0"))
  (k_with "call ref" => (k_here; (with_reducible show wpAny _ _ (call (Value.ref 163) [Value.bytes (List.toArray _) _, Value.int _ _]) _ _ _); (refine' Tell0.use (vlen_ok _ _ _ _ _ (by walk_at "jx len") (by walk_at "jx len")) ?k1 ?k2 ?k3 ?k4 ?k5 ?k6 ?k7 ?k8 ?_; walk_at "jx asks"); walk_at "jx back0"))
  (k_with "jx bits" => first | assumption | exact isBits_all _ | (refine IsBits.take ?_ _; walk_at "jx bits") | (refine IsBits.drop ?_ _; walk_at "jx bits"))
  (k_with "getMethod ref" => (k_here; (with_reducible show wpAny _ _ (getMethod (Value.ref 53) (PySem.Str.ofString "index") _) _ _ _); (refine' tb_method ?k1 ?k2 ?_; (case k1 => k_asm); (case k2 => k_asm))))
  (k_with "call builtin:list.index" => (k_here; (k_dflt (show wpAny _ _ (call (Value.builtin "list.index") [Value.ref 53, Value.bytes (List.toArray _) _]) _ _ _)); (refine' tb_index' ?k1 ?k2 ?k3 ?k4 ?_; (case k1 => k_asm); (case k2 => k_asm); (case k3 => walk_at "jx bits"); (case k4 => walk_at "jx len"))))
  (k_with "jx bits" => first | assumption | exact isBits_all _ | exact isBits_nil | exact isBits_rep _ | (refine isBits_c0 ?_; walk_at "jx bits") | (refine isBits_c1 ?_; walk_at "jx bits") | (refine isBits_app ?_ ?_ <;> walk_at "jx bits") | (refine IsBits.take ?_ _; walk_at "jx bits") | (refine IsBits.drop ?_ _; walk_at "jx bits"))
  (k_with "call ref" => (k_here; (with_reducible show wpAny _ _ (call (Value.ref 142) [Value.bytes (List.toArray _) _]) _ _ _); (refine' TellP.use (enc_ok _ _ _ ?x1 ?x2) ?k1 ?k2 ?k3 ?k4 ?k5 ?k6 ?k7 ?k8 ?x3 ?x4 ?_; (case x1 => walk_at "jx len"); (case x2 => walk_at "jx bits"); walk_at "jx asks"; (case x3 => assumption); (case x4 => walk_at "jx ne")); walk_at "jx backP"))
  exact trivial
theorem kv_ok (w : World) (k c : List UInt8) (t1 t2 : Tok) (hk0 : ¬ (k == []) = true) (hz : k.length ≤ 3000) (hb : IsBits k) (hc : c.length = 32) (he : (enc k).length ≤ 4000) : TellP 36 w 177 [.bytes k.toArray t1, .bytes c.toArray t2] (fun v => ∃ t, v = .bytes (0 :: (enc k ++ c)).toArray t) := by
  unfold TellP
  refine (show (kfrag = kfrag → _) → _ from fun hh => hh rfl) ?_
  k_fill
  w_on
  intro _
  intro mean mg mb dp un gd cn cs a ccd cl outer A₀ base h₀ L m ps news s Q E ⟨B, F, X, N, T, hk, hd, hu⟩ hps hne hret
  refine wpAny_call (code_def (name := Str.ofString "encode_kv_node") (params := fnP28) (body := fnB28) (scope := fnS28) (binds := [(Str.ofString "keypath", .bytes k.toArray t1), (Str.ofString "child_node_hash", .bytes c.toArray t2)]) B F X N T rfl rfl hk (by k_is) (by k_is) (by ktr_room) (BindsTo.of_eq rfl) (locs rfl) ?_ rfl rfl rfl (by decide))
  intro g' L' h' FG' F' N' B' X' T'
  dsimp only [fnB28, fnS28, List.length, List.reverse, List.reverseAux] at F' ⊢

  k_fold
  k_steps
  all_goals clear_value qk ek
  all_goals (refine' hret _ _ _ _ _ ⟨_, ?r⟩ ?a ?b ?c ?d; (case a => assumption); (case b => assumption); (case c => assumption); (case d => walk_at "jx gg"); (case r => rfl))
end
-- JxEnc
section
theorem jxEnc_rows1 : True := by
  k_with_none
  (k_with "jx gg" => first | exact GG.refl _ | assumption | (refine GG.trans ?_ (by assumption); walk_at "jx gg"))
  (k_with "jx asks" => ((case k1 => k_asm); (case k2 => k_asm); (case k3 => k_asm); (case k4 => k_asm); (case k5 => k_asm); (case k6 => first | exact rfl | assumption); (case k7 => ktr_room); (case k8 => ktr_units)))
  (k_with "jx ne" => first | assumption | exact List.forall_mem_nil _ | (refine List.forall_mem_cons.mpr ⟨(by first | assumption | exact fun p9 z9 => absurd (congrArg Obj.cls z9) (by intro y9; cases y9) | exact notTab_cell (by assumption)), ?_⟩; walk_at "jx ne"))
  (k_with "jx backP" => (intro v9 ps9 h9 g9 tk9 R9 t9P F9 N9 G9; (first | (obtain ⟨t9, e9⟩ := R9; subst e9) | subst R9); (try dsimp only); (try k_sweep); (try k_fold)))
  (k_with "jx back" => (intro v9 h9 g9 tk9 R9 F9 N9 G9; (first | (obtain ⟨t9, e9⟩ := R9; subst e9) | subst R9); (try dsimp only); (try k_sweep); (try k_fold)))
  (k_with "jx back0" => (intro v9 h9 tk9 R9 F9 N9; (first | (obtain ⟨t9, e9⟩ := R9; subst e9) | subst R9); (try dsimp only); (try k_sweep); (try k_fold)))
  (k_with "jx dive" => skip)
  (k_with "jx fly0" => (intro e9 t9 xs9 h19 h9 tk9 F9 U9 R9; (try dsimp only); walk_at "jx dive"; (try k_fold)))
  (k_with "jx flyN" => (intro e9 h19 h9 g9 tk9 F9 U9 R9 G9; (try dsimp only); walk_at "jx diveN"; (try k_fold)))
  (k_with "jx diveN" => skip)
  (k_with "jx fly" => (intro e9 t9 xs9 h19 h9 g9 tk9 F9 U9 R9 G9; (try dsimp only); walk_at "jx dive"; (try k_fold)))
  (k_with "jx dec" => first | assumption | decide | (simp only [List.size_toArray, List.length_append, List.length_cons, List.length_nil, bne_iff_ne, ne_eq, beq_iff_eq, Bool.not_eq_true, Decidable.not_not, decide_eq_true_eq, decide_eq_false_iff_not, Bool.not_true, Bool.not_false, reduceCtorEq, not_false_eq_true, not_true_eq_false]; done) | (simp only [List.size_toArray, List.length_append, List.length_cons, List.length_nil, bne_iff_ne, ne_eq, beq_iff_eq, Bool.not_eq_true, Decidable.not_not, decide_eq_true_eq, decide_eq_false_iff_not]; omega))
  (k_with "ite" => (k_here; first | rw [if_pos (by walk_at "jx dec")] | rw [if_neg (by walk_at "jx dec")]))
  exact trivial
theorem jxEnc_rows2 : True := by
  (k_with "jx cut" => with_reducible first | exact cutL_from _ _ | exact cutL_to _ _ | exact cutL_mid _ _ _ | exact cutL_last _ _ (by decide) | exact cutL_but _ _ _ (by decide) | exact cut_all _ | exact cut_from _ _ | exact cut_to _ _ | exact cut_mid _ _ _)
  (k_with "jx len" => first | omega | (simp only [List.length_append, List.length_cons, List.length_nil, List.length_take, List.length_drop, List.length_replicate, List.length_map, List.length_reverse]; omega))
  (k_with "binaryOp Add bytes bytes" => (k_here; (with_reducible show wpAny _ _ (binaryOp Operator.Add (Value.bytes (List.toArray _) _) (Value.bytes (List.toArray _) _)) _ _ _); (refine jb_add (by walk_at "jx len") ?_); intro _ _))
  (k_with "call builtin:len" => (k_here; (with_reducible show wpAny _ _ (call (Value.builtin "len") [Value.bytes (List.toArray _) _]) _ _ _); (refine jb_len (by walk_at "jx len") ?_); intro _ _))
  (k_with "compareOp Eq bytes bytes" => refine jb_eq ?_)
  (k_with "compareOp NotEq bytes bytes" => refine jb_ne ?_)
  (k_with "subscriptTail" => (k_here; (with_reducible show wpAny _ _ (subscriptTail _ (Expr.Slice _ _ none _) (Value.bytes (List.toArray _) _) (Value.ref _)) _ _ _); (with_reducible rename Fr _ _ _ _ => F'); (with_reducible rename News _ _ _ _ => N'); (refine jb_slice (s := ⟨_, _, _, _, _⟩) F' N' (by constructor) (by constructor) (by walk_at "jx len") (by walk_at "jx cut") ?_); intro _ _ _ _ _))
  (k_with "subscriptTail" => (k_here; (with_reducible show wpAny _ _ (subscriptTail _ _ (Value.bytes (List.toArray _) _) (Value.int _ _)) _ _ _); (refine KBy.item_N (by walk_at "jx len") (by walk_at "jx len") (by walk_at "jx len") ?_)))
  (k_with "eval Constant int" => (k_here; refine wpAny_Constant_int ?_; (try dsimp only)))
  (k_with "jx len" => first | omega | (simp only [List.length_append, List.length_cons, List.length_nil, List.length_take, List.length_drop, List.length_replicate, List.length_map]; omega))
  (k_with "call ref" => (k_here; (with_reducible show wpAny _ _ (call (Value.ref 156) [Value.bytes (List.toArray _) _]) _ _ _); (refine' Tell0.use (vbytes_ok _ _ _) ?k1 ?k2 ?k3 ?k4 ?k5 ?k6 ?k7 ?k8 ?_; walk_at "jx asks"); walk_at "jx back0"))
  (k_with "call ref" => (k_here; (with_reducible show wpAny _ _ (call (Value.ref 156) [Value.str _ _]) _ _ _); (refine' Raises0.use (vbytes_bad _ _ _) ?k1 ?k2 ?k3 ?k4 ?k5 ?k6 ?k7 ?k8 ?_; walk_at "jx asks"); walk_at "jx fly0"))
  (k_with "call ref" => (k_here; (with_reducible show wpAny _ _ (call (Value.ref 163) [Value.bytes (List.toArray _) _, Value.int _ _]) _ _ _); (refine' Raises0.use (vlen_bad _ _ _ _ _ (by walk_at "jx len") (by walk_at "jx len") (by omega)) ?k1 ?k2 ?k3 ?k4 ?k5 ?k6 ?k7 ?k8 ?_; walk_at "jx asks"); walk_at "jx fly0"))
  (k_with "call ref" => (k_here; (with_reducible show wpAny _ _ (call (Value.ref 163) [Value.bytes (List.toArray _) _, Value.int _ _]) _ _ _); (refine' Tell0.use (vlen_ok _ _ _ _ _ (by walk_at "jx len") (by walk_at "jx len")) ?k1 ?k2 ?k3 ?k4 ?k5 ?k6 ?k7 ?k8 ?_; walk_at "jx asks"); walk_at "jx back0"))
  exact trivial
theorem branch_ok (w : World) (l r : List UInt8) (t1 t2 : Tok) (hl : l.length = 32) (hr : r.length = 32) : Tell 2 w 184 [.bytes l.toArray t1, .bytes r.toArray t2] (fun v => ∃ t, v = .bytes (1 :: (l ++ r)).toArray t) := by
  unfold Tell
  refine (show (kfrag = kfrag → _) → _ from fun hh => hh rfl) ?_
  k_fill
  w_on
  intro _
  intro mean mg mb dp un gd cn cs a ccd cl outer A₀ base h₀ L m news s Q E ⟨B, F, X, N, T, hk, hd, hu⟩ hret
  refine wpAny_call (code_def (name := Str.ofString "encode_branch_node") (params := fnP29) (body := fnB29) (scope := fnS29) (binds := [(Str.ofString "left_child_node_hash", .bytes l.toArray t1), (Str.ofString "right_child_node_hash", .bytes r.toArray t2)]) B F X N T rfl rfl hk (by k_is) (by k_is) (by ktr_room) (BindsTo.of_eq rfl) (locs rfl) ?_ rfl rfl rfl (by decide))
  intro g' L' h' FG' F' N' B' X' T'
  dsimp only [fnB29, fnS29, List.length, List.reverse, List.reverseAux] at F' ⊢

  k_fold
  k_steps
  all_goals (cell_end hret 0 0)
theorem branch_bad1 (w : World) (l : List UInt8) (r : Value) (t1 : Tok) (hl : l.length ≠ 32) (hz : l.length ≤ 4000) : Raises0 2 w 184 [.bytes l.toArray t1, r] (.ref 101) := by
  unfold Raises0
  refine (show (kfrag = kfrag → _) → _ from fun hh => hh rfl) ?_
  k_fill
  w_on
  intro _
  intro mean mg mb dp un gd cn cs a ccd cl outer A₀ base h₀ L m news s Q E ⟨B, F, X, N, T, hk, hd, hu⟩ hret
  refine wpAny_call (code_def (name := Str.ofString "encode_branch_node") (params := fnP29) (body := fnB29) (scope := fnS29) (binds := [(Str.ofString "left_child_node_hash", .bytes l.toArray t1), (Str.ofString "right_child_node_hash", r)]) B F X N T rfl rfl hk (by k_is) (by k_is) (by ktr_room) (BindsTo.of_eq rfl) (locs rfl) ?_ rfl rfl rfl (by decide))
  intro g' L' h' FG' F' N' B' X' T'
  dsimp only [fnB29, fnS29, List.length, List.reverse, List.reverseAux] at F' ⊢

  k_fold
  k_steps
  all_goals (cell_end hret 0 0)
theorem branch_str1 (w : World) (x : Str) (r : Value) (t1 : Tok) : Raises0 2 w 184 [.str x t1, r] (.ref 101) := by
  unfold Raises0
  refine (show (kfrag = kfrag → _) → _ from fun hh => hh rfl) ?_
  k_fill
  w_on
  intro _
  intro mean mg mb dp un gd cn cs a ccd cl outer A₀ base h₀ L m news s Q E ⟨B, F, X, N, T, hk, hd, hu⟩ hret
  refine wpAny_call (code_def (name := Str.ofString "encode_branch_node") (params := fnP29) (body := fnB29) (scope := fnS29) (binds := [(Str.ofString "left_child_node_hash", .str x t1), (Str.ofString "right_child_node_hash", r)]) B F X N T rfl rfl hk (by k_is) (by k_is) (by ktr_room) (BindsTo.of_eq rfl) (locs rfl) ?_ rfl rfl rfl (by decide))
  intro g' L' h' FG' F' N' B' X' T'
  dsimp only [fnB29, fnS29, List.length, List.reverse, List.reverseAux] at F' ⊢

  k_fold
  k_steps
  all_goals (cell_end hret 0 0)
theorem branch_bad2 (w : World) (l r : List UInt8) (t1 t2 : Tok) (hl : l.length = 32) (hr : r.length ≠ 32) (hz : r.length ≤ 4000) : Raises0 2 w 184 [.bytes l.toArray t1, .bytes r.toArray t2] (.ref 101) := by
  unfold Raises0
  refine (show (kfrag = kfrag → _) → _ from fun hh => hh rfl) ?_
  k_fill
  w_on
  intro _
  intro mean mg mb dp un gd cn cs a ccd cl outer A₀ base h₀ L m news s Q E ⟨B, F, X, N, T, hk, hd, hu⟩ hret
  refine wpAny_call (code_def (name := Str.ofString "encode_branch_node") (params := fnP29) (body := fnB29) (scope := fnS29) (binds := [(Str.ofString "left_child_node_hash", .bytes l.toArray t1), (Str.ofString "right_child_node_hash", .bytes r.toArray t2)]) B F X N T rfl rfl hk (by k_is) (by k_is) (by ktr_room) (BindsTo.of_eq rfl) (locs rfl) ?_ rfl rfl rfl (by decide))
  intro g' L' h' FG' F' N' B' X' T'
  dsimp only [fnB29, fnS29, List.length, List.reverse, List.reverseAux] at F' ⊢

  k_fold
  k_steps
  all_goals (cell_end hret 0 0)
theorem branch_str2 (w : World) (l : List UInt8) (x : Str) (t1 t2 : Tok) (hl : l.length = 32) : Raises0 2 w 184 [.bytes l.toArray t1, .str x t2] (.ref 101) := by
  unfold Raises0
  refine (show (kfrag = kfrag → _) → _ from fun hh => hh rfl) ?_
  k_fill
  w_on
  intro _
  intro mean mg mb dp un gd cn cs a ccd cl outer A₀ base h₀ L m news s Q E ⟨B, F, X, N, T, hk, hd, hu⟩ hret
  refine wpAny_call (code_def (name := Str.ofString "encode_branch_node") (params := fnP29) (body := fnB29) (scope := fnS29) (binds := [(Str.ofString "left_child_node_hash", .bytes l.toArray t1), (Str.ofString "right_child_node_hash", .str x t2)]) B F X N T rfl rfl hk (by k_is) (by k_is) (by ktr_room) (BindsTo.of_eq rfl) (locs rfl) ?_ rfl rfl rfl (by decide))
  intro g' L' h' FG' F' N' B' X' T'
  dsimp only [fnB29, fnS29, List.length, List.reverse, List.reverseAux] at F' ⊢

  k_fold
  k_steps
  all_goals (cell_end hret 0 0)
theorem leaf_ok (w : World) (l : List UInt8) (t1 : Tok) (hl : ¬ (l == []) = true) (hz : l.length ≤ 4000) : Tell 2 w 191 [.bytes l.toArray t1] (fun v => ∃ t, v = .bytes (2 :: l).toArray t) := by
  unfold Tell
  refine (show (kfrag = kfrag → _) → _ from fun hh => hh rfl) ?_
  k_fill
  w_on
  intro _
  intro mean mg mb dp un gd cn cs a ccd cl outer A₀ base h₀ L m news s Q E ⟨B, F, X, N, T, hk, hd, hu⟩ hret
  refine wpAny_call (code_def (name := Str.ofString "encode_leaf_node") (params := fnP30) (body := fnB30) (scope := fnS30) (binds := [(Str.ofString "value", .bytes l.toArray t1)]) B F X N T rfl rfl hk (by k_is) (by k_is) (by ktr_room) (BindsTo.of_eq rfl) (locs rfl) ?_ rfl rfl rfl (by decide))
  intro g' L' h' FG' F' N' B' X' T'
  dsimp only [fnB30, fnS30, List.length, List.reverse, List.reverseAux] at F' ⊢

  k_fold
  k_steps
  all_goals (cell_end hret 0 0)
theorem leaf_nil (w : World) (t1 : Tok) : Raises0 2 w 191 [.bytes (List.toArray []) t1] (.ref 101) := by
  unfold Raises0
  refine (show (kfrag = kfrag → _) → _ from fun hh => hh rfl) ?_
  k_fill
  w_on
  intro _
  intro mean mg mb dp un gd cn cs a ccd cl outer A₀ base h₀ L m news s Q E ⟨B, F, X, N, T, hk, hd, hu⟩ hret
  refine wpAny_call (code_def (name := Str.ofString "encode_leaf_node") (params := fnP30) (body := fnB30) (scope := fnS30) (binds := [(Str.ofString "value", .bytes (List.toArray []) t1)]) B F X N T rfl rfl hk (by k_is) (by k_is) (by ktr_room) (BindsTo.of_eq rfl) (locs rfl) ?_ rfl rfl rfl (by decide))
  intro g' L' h' FG' F' N' B' X' T'
  dsimp only [fnB30, fnS30, List.length, List.reverse, List.reverseAux] at F' ⊢

  k_fold
  k_steps
  all_goals (cell_end hret 0 0)
theorem leaf_str (w : World) (x : Str) (t1 : Tok) : Raises0 2 w 191 [.str x t1] (.ref 101) := by
  unfold Raises0
  refine (show (kfrag = kfrag → _) → _ from fun hh => hh rfl) ?_
  k_fill
  w_on
  intro _
  intro mean mg mb dp un gd cn cs a ccd cl outer A₀ base h₀ L m news s Q E ⟨B, F, X, N, T, hk, hd, hu⟩ hret
  refine wpAny_call (code_def (name := Str.ofString "encode_leaf_node") (params := fnP30) (body := fnB30) (scope := fnS30) (binds := [(Str.ofString "value", .str x t1)]) B F X N T rfl rfl hk (by k_is) (by k_is) (by ktr_room) (BindsTo.of_eq rfl) (locs rfl) ?_ rfl rfl rfl (by decide))
  intro g' L' h' FG' F' N' B' X' T'
  dsimp only [fnB30, fnS30, List.length, List.reverse, List.reverseAux] at F' ⊢

  k_fold
  k_steps
  all_goals (cell_end hret 0 0)
end
-- JxKvB
section
theorem jxKvB_rows1 : True := by
  k_with_none
  (k_with "jx gg" => first | exact GG.refl _ | assumption | (refine GG.trans ?_ (by assumption); walk_at "jx gg"))
  (k_with "jx asks" => ((case k1 => k_asm); (case k2 => k_asm); (case k3 => k_asm); (case k4 => k_asm); (case k5 => k_asm); (case k6 => first | exact rfl | assumption); (case k7 => ktr_room); (case k8 => ktr_units)))
  (k_with "jx ne" => first | assumption | exact List.forall_mem_nil _ | (refine List.forall_mem_cons.mpr ⟨(by first | assumption | exact fun p9 z9 => absurd (congrArg Obj.cls z9) (by intro y9; cases y9) | exact notTab_cell (by assumption)), ?_⟩; walk_at "jx ne"))
  (k_with "jx backP" => (intro v9 ps9 h9 g9 tk9 R9 t9P F9 N9 G9; (first | (obtain ⟨t9, e9⟩ := R9; subst e9) | subst R9); (try dsimp only); (try k_sweep); (try k_fold)))
  (k_with "jx back" => (intro v9 h9 g9 tk9 R9 F9 N9 G9; (first | (obtain ⟨t9, e9⟩ := R9; subst e9) | subst R9); (try dsimp only); (try k_sweep); (try k_fold)))
  (k_with "jx back0" => (intro v9 h9 tk9 R9 F9 N9; (first | (obtain ⟨t9, e9⟩ := R9; subst e9) | subst R9); (try dsimp only); (try k_sweep); (try k_fold)))
  (k_with "jx dive" => skip)
  (k_with "jx fly0" => (intro e9 t9 xs9 h19 h9 tk9 F9 U9 R9; (try dsimp only); walk_at "jx dive"; (try k_fold)))
  (k_with "jx flyN" => (intro e9 h19 h9 g9 tk9 F9 U9 R9 G9; (try dsimp only); walk_at "jx diveN"; (try k_fold)))
  (k_with "jx diveN" => skip)
  (k_with "jx fly" => (intro e9 t9 xs9 h19 h9 g9 tk9 F9 U9 R9 G9; (try dsimp only); walk_at "jx dive"; (try k_fold)))
  (k_with "jx dec" => first | assumption | decide | (simp only [List.size_toArray, List.length_append, List.length_cons, List.length_nil, bne_iff_ne, ne_eq, beq_iff_eq, Bool.not_eq_true, Decidable.not_not, decide_eq_true_eq, decide_eq_false_iff_not, Bool.not_true, Bool.not_false, reduceCtorEq, not_false_eq_true, not_true_eq_false]; done) | (simp only [List.size_toArray, List.length_append, List.length_cons, List.length_nil, bne_iff_ne, ne_eq, beq_iff_eq, Bool.not_eq_true, Decidable.not_not, decide_eq_true_eq, decide_eq_false_iff_not]; omega))
  (k_with "ite" => (k_here; first | rw [if_pos (by walk_at "jx dec")] | rw [if_neg (by walk_at "jx dec")]))
  exact trivial
theorem jxKvB_rows2 : True := by
  (k_with "jx cut" => with_reducible first | exact cutL_from _ _ | exact cutL_to _ _ | exact cutL_mid _ _ _ | exact cutL_last _ _ (by decide) | exact cutL_but _ _ _ (by decide) | exact cut_all _ | exact cut_from _ _ | exact cut_to _ _ | exact cut_mid _ _ _)
  (k_with "jx len" => first | omega | (simp only [List.length_append, List.length_cons, List.length_nil, List.length_take, List.length_drop, List.length_replicate, List.length_map, List.length_reverse]; omega))
  (k_with "binaryOp Add bytes bytes" => (k_here; (with_reducible show wpAny _ _ (binaryOp Operator.Add (Value.bytes (List.toArray _) _) (Value.bytes (List.toArray _) _)) _ _ _); (refine jb_add (by walk_at "jx len") ?_); intro _ _))
  (k_with "call builtin:len" => (k_here; (with_reducible show wpAny _ _ (call (Value.builtin "len") [Value.bytes (List.toArray _) _]) _ _ _); (refine jb_len (by walk_at "jx len") ?_); intro _ _))
  (k_with "compareOp Eq bytes bytes" => refine jb_eq ?_)
  (k_with "compareOp NotEq bytes bytes" => refine jb_ne ?_)
  (k_with "subscriptTail" => (k_here; (with_reducible show wpAny _ _ (subscriptTail _ (Expr.Slice _ _ none _) (Value.bytes (List.toArray _) _) (Value.ref _)) _ _ _); (with_reducible rename Fr _ _ _ _ => F'); (with_reducible rename News _ _ _ _ => N'); (refine jb_slice (s := ⟨_, _, _, _, _⟩) F' N' (by constructor) (by constructor) (by walk_at "jx len") (by walk_at "jx cut") ?_); intro _ _ _ _ _))
  (k_with "subscriptTail" => (k_here; (with_reducible show wpAny _ _ (subscriptTail _ _ (Value.bytes (List.toArray _) _) (Value.int _ _)) _ _ _); (refine KBy.item_N (by walk_at "jx len") (by walk_at "jx len") (by walk_at "jx len") ?_)))
  (k_with "eval Constant int" => (k_here; refine wpAny_Constant_int ?_; (try dsimp only)))
  (k_with "jx len" => first | omega | (simp only [List.length_append, List.length_cons, List.length_nil, List.length_take, List.length_drop, List.length_replicate, List.length_map]; omega))
  (k_with "call ref" => (k_here; (with_reducible show wpAny _ _ (call (Value.ref 156) [Value.bytes (List.toArray _) _]) _ _ _); (refine' Tell0.use (vbytes_ok _ _ _) ?k1 ?k2 ?k3 ?k4 ?k5 ?k6 ?k7 ?k8 ?_; walk_at "jx asks"); walk_at "jx back0"))
  (k_with "call ref" => (k_here; (with_reducible show wpAny _ _ (call (Value.ref 156) [Value.str _ _]) _ _ _); (refine' Raises0.use (vbytes_bad _ _ _) ?k1 ?k2 ?k3 ?k4 ?k5 ?k6 ?k7 ?k8 ?_; walk_at "jx asks"); walk_at "jx fly0"))
  (k_with "call ref" => (k_here; (with_reducible show wpAny _ _ (call (Value.ref 163) [Value.bytes (List.toArray _) _, Value.int _ _]) _ _ _); (refine' Raises0.use (vlen_bad _ _ _ _ _ (by walk_at "jx len") (by walk_at "jx len") (by omega)) ?k1 ?k2 ?k3 ?k4 ?k5 ?k6 ?k7 ?k8 ?_; walk_at "jx asks"); walk_at "jx fly0"))
  (k_with "call ref" => (k_here; (with_reducible show wpAny _ _ (call (Value.ref 163) [Value.bytes (List.toArray _) _, Value.int _ _]) _ _ _); (refine' Tell0.use (vlen_ok _ _ _ _ _ (by walk_at "jx len") (by walk_at "jx len")) ?k1 ?k2 ?k3 ?k4 ?k5 ?k6 ?k7 ?k8 ?_; walk_at "jx asks"); walk_at "jx back0"))
  exact trivial
theorem kv_bad2 (w : World) (k c : List UInt8) (t1 t2 : Tok) (hk0 : ¬ (k == []) = true) (hc : c.length ≠ 32) (hz : c.length ≤ 4000) : Raises0 2 w 177 [.bytes k.toArray t1, .bytes c.toArray t2] (.ref 101) := by
  unfold Raises0
  refine (show (kfrag = kfrag → _) → _ from fun hh => hh rfl) ?_
  k_fill
  w_on
  intro _
  intro mean mg mb dp un gd cn cs a ccd cl outer A₀ base h₀ L m news s Q E ⟨B, F, X, N, T, hk, hd, hu⟩ hret
  refine wpAny_call (code_def (name := Str.ofString "encode_kv_node") (params := fnP28) (body := fnB28) (scope := fnS28) (binds := [(Str.ofString "keypath", .bytes k.toArray t1), (Str.ofString "child_node_hash", .bytes c.toArray t2)]) B F X N T rfl rfl hk (by k_is) (by k_is) (by ktr_room) (BindsTo.of_eq rfl) (locs rfl) ?_ rfl rfl rfl (by decide))
  intro g' L' h' FG' F' N' B' X' T'
  dsimp only [fnB28, fnS28, List.length, List.reverse, List.reverseAux] at F' ⊢

  k_fold
  k_steps
  all_goals (cell_end hret 0 0)
theorem kv_str2 (w : World) (k : List UInt8) (x : Str) (t1 t2 : Tok) (hk0 : ¬ (k == []) = true) : Raises0 2 w 177 [.bytes k.toArray t1, .str x t2] (.ref 101) := by
  unfold Raises0
  refine (show (kfrag = kfrag → _) → _ from fun hh => hh rfl) ?_
  k_fill
  w_on
  intro _
  intro mean mg mb dp un gd cn cs a ccd cl outer A₀ base h₀ L m news s Q E ⟨B, F, X, N, T, hk, hd, hu⟩ hret
  refine wpAny_call (code_def (name := Str.ofString "encode_kv_node") (params := fnP28) (body := fnB28) (scope := fnS28) (binds := [(Str.ofString "keypath", .bytes k.toArray t1), (Str.ofString "child_node_hash", .str x t2)]) B F X N T rfl rfl hk (by k_is) (by k_is) (by ktr_room) (BindsTo.of_eq rfl) (locs rfl) ?_ rfl rfl rfl (by decide))
  intro g' L' h' FG' F' N' B' X' T'
  dsimp only [fnB28, fnS28, List.length, List.reverse, List.reverseAux] at F' ⊢

  k_fold
  k_steps
  all_goals (cell_end hret 0 0)
theorem kv_nil (w : World) (r : Value) (t1 : Tok) : Raises0 2 w 177 [.bytes (List.toArray []) t1, r] (.ref 101) := by
  unfold Raises0
  refine (show (kfrag = kfrag → _) → _ from fun hh => hh rfl) ?_
  k_fill
  w_on
  intro _
  intro mean mg mb dp un gd cn cs a ccd cl outer A₀ base h₀ L m news s Q E ⟨B, F, X, N, T, hk, hd, hu⟩ hret
  refine wpAny_call (code_def (name := Str.ofString "encode_kv_node") (params := fnP28) (body := fnB28) (scope := fnS28) (binds := [(Str.ofString "keypath", .bytes (List.toArray []) t1), (Str.ofString "child_node_hash", r)]) B F X N T rfl rfl hk (by k_is) (by k_is) (by ktr_room) (BindsTo.of_eq rfl) (locs rfl) ?_ rfl rfl rfl (by decide))
  intro g' L' h' FG' F' N' B' X' T'
  dsimp only [fnB28, fnS28, List.length, List.reverse, List.reverseAux] at F' ⊢

  k_fold
  k_steps
  all_goals (cell_end hret 0 0)
end
-- JxKvB1
section
theorem jxKvB1_rows1 : True := by
  k_with_none
  (k_with "jx gg" => first | exact GG.refl _ | assumption | (refine GG.trans ?_ (by assumption); walk_at "jx gg"))
  (k_with "jx asks" => ((case k1 => k_asm); (case k2 => k_asm); (case k3 => k_asm); (case k4 => k_asm); (case k5 => k_asm); (case k6 => first | exact rfl | assumption); (case k7 => ktr_room); (case k8 => ktr_units)))
  (k_with "jx ne" => first | assumption | exact List.forall_mem_nil _ | (refine List.forall_mem_cons.mpr ⟨(by first | assumption | exact fun p9 z9 => absurd (congrArg Obj.cls z9) (by intro y9; cases y9) | exact notTab_cell (by assumption)), ?_⟩; walk_at "jx ne"))
  (k_with "jx backP" => (intro v9 ps9 h9 g9 tk9 R9 t9P F9 N9 G9; (first | (obtain ⟨t9, e9⟩ := R9; subst e9) | subst R9); (try dsimp only); (try k_sweep); (try k_fold)))
  (k_with "jx back" => (intro v9 h9 g9 tk9 R9 F9 N9 G9; (first | (obtain ⟨t9, e9⟩ := R9; subst e9) | subst R9); (try dsimp only); (try k_sweep); (try k_fold)))
  (k_with "jx back0" => (intro v9 h9 tk9 R9 F9 N9; (first | (obtain ⟨t9, e9⟩ := R9; subst e9) | subst R9); (try dsimp only); (try k_sweep); (try k_fold)))
  (k_with "jx dive" => skip)
  (k_with "jx fly0" => (intro e9 t9 xs9 h19 h9 tk9 F9 U9 R9; (try dsimp only); walk_at "jx dive"; (try k_fold)))
  (k_with "jx flyN" => (intro e9 h19 h9 g9 tk9 F9 U9 R9 G9; (try dsimp only); walk_at "jx diveN"; (try k_fold)))
  (k_with "jx diveN" => skip)
  (k_with "jx fly" => (intro e9 t9 xs9 h19 h9 g9 tk9 F9 U9 R9 G9; (try dsimp only); walk_at "jx dive"; (try k_fold)))
  (k_with "jx dec" => first | assumption | decide | (simp only [List.size_toArray, List.length_append, List.length_cons, List.length_nil, bne_iff_ne, ne_eq, beq_iff_eq, Bool.not_eq_true, Decidable.not_not, decide_eq_true_eq, decide_eq_false_iff_not, Bool.not_true, Bool.not_false, reduceCtorEq, not_false_eq_true, not_true_eq_false]; done) | (simp only [List.size_toArray, List.length_append, List.length_cons, List.length_nil, bne_iff_ne, ne_eq, beq_iff_eq, Bool.not_eq_true, Decidable.not_not, decide_eq_true_eq, decide_eq_false_iff_not]; omega))
  (k_with "ite" => (k_here; first | rw [if_pos (by walk_at "jx dec")] | rw [if_neg (by walk_at "jx dec")]))
  exact trivial
theorem jxKvB1_rows2 : True := by
  (k_with "jx cut" => with_reducible first | exact cutL_from _ _ | exact cutL_to _ _ | exact cutL_mid _ _ _ | exact cutL_last _ _ (by decide) | exact cutL_but _ _ _ (by decide) | exact cut_all _ | exact cut_from _ _ | exact cut_to _ _ | exact cut_mid _ _ _)
  (k_with "jx len" => first | omega | (simp only [List.length_append, List.length_cons, List.length_nil, List.length_take, List.length_drop, List.length_replicate, List.length_map, List.length_reverse]; omega))
  (k_with "binaryOp Add bytes bytes" => (k_here; (with_reducible show wpAny _ _ (binaryOp Operator.Add (Value.bytes (List.toArray _) _) (Value.bytes (List.toArray _) _)) _ _ _); (refine jb_add (by walk_at "jx len") ?_); intro _ _))
  (k_with "call builtin:len" => (k_here; (with_reducible show wpAny _ _ (call (Value.builtin "len") [Value.bytes (List.toArray _) _]) _ _ _); (refine jb_len (by walk_at "jx len") ?_); intro _ _))
  (k_with "compareOp Eq bytes bytes" => refine jb_eq ?_)
  (k_with "compareOp NotEq bytes bytes" => refine jb_ne ?_)
  (k_with "subscriptTail" => (k_here; (with_reducible show wpAny _ _ (subscriptTail _ (Expr.Slice _ _ none _) (Value.bytes (List.toArray _) _) (Value.ref _)) _ _ _); (with_reducible rename Fr _ _ _ _ => F'); (with_reducible rename News _ _ _ _ => N'); (refine jb_slice (s := ⟨_, _, _, _, _⟩) F' N' (by constructor) (by constructor) (by walk_at "jx len") (by walk_at "jx cut") ?_); intro _ _ _ _ _))
  (k_with "subscriptTail" => (k_here; (with_reducible show wpAny _ _ (subscriptTail _ _ (Value.bytes (List.toArray _) _) (Value.int _ _)) _ _ _); (refine KBy.item_N (by walk_at "jx len") (by walk_at "jx len") (by walk_at "jx len") ?_)))
  (k_with "eval Constant int" => (k_here; refine wpAny_Constant_int ?_; (try dsimp only)))
  (k_with "jx len" => first | omega | (simp only [List.length_append, List.length_cons, List.length_nil, List.length_take, List.length_drop, List.length_replicate, List.length_map]; omega))
  (k_with "call ref" => (k_here; (with_reducible show wpAny _ _ (call (Value.ref 156) [Value.bytes (List.toArray _) _]) _ _ _); (refine' Tell0.use (vbytes_ok _ _ _) ?k1 ?k2 ?k3 ?k4 ?k5 ?k6 ?k7 ?k8 ?_; walk_at "jx asks"); walk_at "jx back0"))
  (k_with "call ref" => (k_here; (with_reducible show wpAny _ _ (call (Value.ref 156) [Value.str _ _]) _ _ _); (refine' Raises0.use (vbytes_bad _ _ _) ?k1 ?k2 ?k3 ?k4 ?k5 ?k6 ?k7 ?k8 ?_; walk_at "jx asks"); walk_at "jx fly0"))
  (k_with "call ref" => (k_here; (with_reducible show wpAny _ _ (call (Value.ref 163) [Value.bytes (List.toArray _) _, Value.int _ _]) _ _ _); (refine' Raises0.use (vlen_bad _ _ _ _ _ (by walk_at "jx len") (by walk_at "jx len") (by omega)) ?k1 ?k2 ?k3 ?k4 ?k5 ?k6 ?k7 ?k8 ?_; walk_at "jx asks"); walk_at "jx fly0"))
  (k_with "call ref" => (k_here; (with_reducible show wpAny _ _ (call (Value.ref 163) [Value.bytes (List.toArray _) _, Value.int _ _]) _ _ _); (refine' Tell0.use (vlen_ok _ _ _ _ _ (by walk_at "jx len") (by walk_at "jx len")) ?k1 ?k2 ?k3 ?k4 ?k5 ?k6 ?k7 ?k8 ?_; walk_at "jx asks"); walk_at "jx back0"))
  exact trivial
theorem str_eq_bytes0 (a : Str) (t : Tok) (b : Array UInt8) (u : Tok) : Gives (Builtin.«str.__eq__» ⟨[.str a t, .bytes b u], []⟩) (.val (Value.notImplemented)) :=
  .of_wp fun M A E s Q h => by obtain ⟨hp, g, d, tk, os⟩ := s; wp_walk; exact ⟨_, rfl, h⟩
theorem bytes_eq_str0 (a : Str) (t : Tok) (b : Array UInt8) (u : Tok) : Gives (Builtin.«bytes.__eq__» ⟨[.bytes b u, .str a t], []⟩) (.val (Value.notImplemented)) :=
  .of_wp fun M A E s Q h => by obtain ⟨hp, g, d, tk, os⟩ := s; have hsub : isSubtype (.type "str") (.type "bytes") = pure false := (by rw [isSubtype_type]; kernel_rfl); wp_walk; exact ⟨_, rfl, h⟩
theorem eq_str_bytes {prog : Program} {w : World} {A : Around} {E : Value → Shared → Prop} {s : Shared} {Q : Value → Shared → Prop} {a : Str} {t : Tok} {b : Array UInt8} {u : Tok} (h : Q (.bool false) s) : wpAny (model prog w) A (compareOp .Eq (.str a t) (.bytes b u)) Q E s := by
  show wpAny _ A (richCompare .Eq _ _) Q E s
  exact EqNone.wpAny_richCompare_eq_decline (k := false) (fun s' => typeIs_str s' a t) (fun s' => PySem.W.typeIs_bytes s' b u) (by decide) (by rw [isSubtype_type]; kernel_rfl) F.slot_str_eq FB.slot_bytes_eq rfl
    (call_gives F.slot_str_eq (typeIs_str s a t) F.entry_str_eq (F.args_str_eq_2 _ _) (str_eq_bytes0 a t b u)
      ⟨rfl, call_gives FB.slot_bytes_eq (PySem.W.typeIs_bytes s b u) FB.entry_bytes_eq (FB.args_bytes_eq_2 _ _) (bytes_eq_str0 a t b u) ⟨rfl, h⟩⟩)
theorem jxKvB1_rows3 : True := by
  (k_with "compareOp Eq str bytes" => refine eq_str_bytes ?_)
  exact trivial
theorem kv_str1 (w : World) (x : Str) (r : Value) (t1 : Tok) : Raises0 2 w 177 [.str x t1, r] (.ref 101) := by
  unfold Raises0
  refine (show (kfrag = kfrag → _) → _ from fun hh => hh rfl) ?_
  k_fill
  w_on
  intro _
  intro mean mg mb dp un gd cn cs a ccd cl outer A₀ base h₀ L m news s Q E ⟨B, F, X, N, T, hk, hd, hu⟩ hret
  refine wpAny_call (code_def (name := Str.ofString "encode_kv_node") (params := fnP28) (body := fnB28) (scope := fnS28) (binds := [(Str.ofString "keypath", .str x t1), (Str.ofString "child_node_hash", r)]) B F X N T rfl rfl hk (by k_is) (by k_is) (by ktr_room) (BindsTo.of_eq rfl) (locs rfl) ?_ rfl rfl rfl (by decide))
  intro g' L' h' FG' F' N' B' X' T'
  dsimp only [fnB28, fnS28, List.length, List.reverse, List.reverseAux] at F' ⊢

  k_fold
  k_steps
  all_goals (cell_end hret 0 0)
end
-- JxRef
section
theorem jxRef_rows1 : True := by
  k_with_none
  (k_with "jx gg" => first | exact GG.refl _ | assumption | (refine GG.trans ?_ (by assumption); walk_at "jx gg"))
  (k_with "jx asks" => ((case k1 => k_asm); (case k2 => k_asm); (case k3 => k_asm); (case k4 => k_asm); (case k5 => k_asm); (case k6 => first | exact rfl | assumption); (case k7 => ktr_room); (case k8 => ktr_units)))
  (k_with "jx ne" => first | assumption | exact List.forall_mem_nil _ | (refine List.forall_mem_cons.mpr ⟨(by first | assumption | exact fun p9 z9 => absurd (congrArg Obj.cls z9) (by intro y9; cases y9) | exact notTab_cell (by assumption)), ?_⟩; walk_at "jx ne"))
  (k_with "jx backP" => (intro v9 ps9 h9 g9 tk9 R9 t9P F9 N9 G9; (first | (obtain ⟨t9, e9⟩ := R9; subst e9) | subst R9); (try dsimp only); (try k_sweep); (try k_fold)))
  (k_with "jx back" => (intro v9 h9 g9 tk9 R9 F9 N9 G9; (first | (obtain ⟨t9, e9⟩ := R9; subst e9) | subst R9); (try dsimp only); (try k_sweep); (try k_fold)))
  (k_with "jx back0" => (intro v9 h9 tk9 R9 F9 N9; (first | (obtain ⟨t9, e9⟩ := R9; subst e9) | subst R9); (try dsimp only); (try k_sweep); (try k_fold)))
  (k_with "jx dive" => skip)
  (k_with "jx fly0" => (intro e9 t9 xs9 h19 h9 tk9 F9 U9 R9; (try dsimp only); walk_at "jx dive"; (try k_fold)))
  (k_with "jx flyN" => (intro e9 h19 h9 g9 tk9 F9 U9 R9 G9; (try dsimp only); walk_at "jx diveN"; (try k_fold)))
  (k_with "jx diveN" => skip)
  (k_with "jx fly" => (intro e9 t9 xs9 h19 h9 g9 tk9 F9 U9 R9 G9; (try dsimp only); walk_at "jx dive"; (try k_fold)))
  (k_with "jx dec" => first | assumption | decide | (simp only [List.size_toArray, List.length_append, List.length_cons, List.length_nil, bne_iff_ne, ne_eq, beq_iff_eq, Bool.not_eq_true, Decidable.not_not, decide_eq_true_eq, decide_eq_false_iff_not, Bool.not_true, Bool.not_false, reduceCtorEq, not_false_eq_true, not_true_eq_false]; done) | (simp only [List.size_toArray, List.length_append, List.length_cons, List.length_nil, bne_iff_ne, ne_eq, beq_iff_eq, Bool.not_eq_true, Decidable.not_not, decide_eq_true_eq, decide_eq_false_iff_not]; omega))
  (k_with "ite" => (k_here; first | rw [if_pos (by walk_at "jx dec")] | rw [if_neg (by walk_at "jx dec")]))
  exact trivial
theorem jxRef_rows2 : True := by
  (k_with "jx cut" => with_reducible first | exact cutL_from _ _ | exact cutL_to _ _ | exact cutL_mid _ _ _ | exact cutL_last _ _ (by decide) | exact cutL_but _ _ _ (by decide) | exact cut_all _ | exact cut_from _ _ | exact cut_to _ _ | exact cut_mid _ _ _)
  (k_with "jx len" => first | omega | (simp only [List.length_append, List.length_cons, List.length_nil, List.length_take, List.length_drop, List.length_replicate, List.length_map, List.length_reverse]; omega))
  (k_with "binaryOp Add bytes bytes" => (k_here; (with_reducible show wpAny _ _ (binaryOp Operator.Add (Value.bytes (List.toArray _) _) (Value.bytes (List.toArray _) _)) _ _ _); (refine jb_add (by walk_at "jx len") ?_); intro _ _))
  (k_with "call builtin:len" => (k_here; (with_reducible show wpAny _ _ (call (Value.builtin "len") [Value.bytes (List.toArray _) _]) _ _ _); (refine jb_len (by walk_at "jx len") ?_); intro _ _))
  (k_with "compareOp Eq bytes bytes" => refine jb_eq ?_)
  (k_with "compareOp NotEq bytes bytes" => refine jb_ne ?_)
  (k_with "subscriptTail" => (k_here; (with_reducible show wpAny _ _ (subscriptTail _ (Expr.Slice _ _ none _) (Value.bytes (List.toArray _) _) (Value.ref _)) _ _ _); (with_reducible rename Fr _ _ _ _ => F'); (with_reducible rename News _ _ _ _ => N'); (refine jb_slice (s := ⟨_, _, _, _, _⟩) F' N' (by constructor) (by constructor) (by walk_at "jx len") (by walk_at "jx cut") ?_); intro _ _ _ _ _))
  (k_with "subscriptTail" => (k_here; (with_reducible show wpAny _ _ (subscriptTail _ _ (Value.bytes (List.toArray _) _) (Value.int _ _)) _ _ _); (refine KBy.item_N (by walk_at "jx len") (by walk_at "jx len") (by walk_at "jx len") ?_)))
  (k_with "eval Constant int" => (k_here; refine wpAny_Constant_int ?_; (try dsimp only)))
  (k_with "jx dive" => ((with_reducible rename RaisedK _ _ _ _ _ _ _ _ => rkQ); (with_reducible rename Heap.UpToSlots _ _ => uQ); obtain ⟨gQ, sQ, fQ, u2Q⟩ := toS rkQ (by assumption) uQ rfl (by assumption) (by assumption) (by assumption); clear rkQ))
  (k_with "jx diveN" => ((with_reducible rename RaisedN _ _ _ _ _ _ => rkQ); (with_reducible rename Heap.UpToSlots _ _ => uQ); obtain ⟨gQ, sQ, fQ, u2Q⟩ := toSN rkQ (by assumption) uQ rfl (by assumption) (by assumption) (by assumption); clear rkQ))
  (k_with "call ref" => (k_here; (with_reducible show wpAny _ _ (call (Value.ref 177) [Value.bytes (List.toArray []) _, _]) _ _ _); (refine' Raises0.use (kv_nil _ _ _) ?k1 ?k2 ?k3 ?k4 ?k5 ?k6 ?k7 ?k8 ?_; walk_at "jx asks"); walk_at "jx fly0"))
  (k_with "call ref" => (k_here; (with_reducible show wpAny _ _ (call (Value.ref 177) [Value.str _ _, _]) _ _ _); (refine' Raises0.use (kv_str1 _ _ _ _) ?k1 ?k2 ?k3 ?k4 ?k5 ?k6 ?k7 ?k8 ?_; walk_at "jx asks"); walk_at "jx fly0"))
  (k_with "call ref" => (k_here; (with_reducible show wpAny _ _ (call (Value.ref 177) [Value.bytes (List.toArray _) _, Value.str _ _]) _ _ _); (refine' Raises0.use (kv_str2 _ _ _ _ _ (by assumption)) ?k1 ?k2 ?k3 ?k4 ?k5 ?k6 ?k7 ?k8 ?_; walk_at "jx asks"); walk_at "jx fly0"))
  (k_with "call ref" => (k_here; (with_reducible show wpAny _ _ (call (Value.ref 177) [Value.bytes (List.toArray _) _, Value.bytes (List.toArray _) _]) _ _ _); (refine' Raises0.use (kv_bad2 _ _ _ _ _ (by assumption) (by omega) (by omega)) ?k1 ?k2 ?k3 ?k4 ?k5 ?k6 ?k7 ?k8 ?_; walk_at "jx asks"); walk_at "jx fly0"))
  (k_with "call ref" => (k_here; (with_reducible show wpAny _ _ (call (Value.ref 184) [Value.bytes (List.toArray _) _, _]) _ _ _); (refine' Raises0.use (branch_bad1 _ _ _ _ (by assumption) (by omega)) ?k1 ?k2 ?k3 ?k4 ?k5 ?k6 ?k7 ?k8 ?_; walk_at "jx asks"); walk_at "jx fly0"))
  (k_with "call ref" => (k_here; (with_reducible show wpAny _ _ (call (Value.ref 184) [Value.bytes (List.toArray _) _, Value.bytes (List.toArray _) _]) _ _ _); (refine' Raises0.use (branch_bad2 _ _ _ _ _ (by assumption) (by assumption) (by omega)) ?k1 ?k2 ?k3 ?k4 ?k5 ?k6 ?k7 ?k8 ?_; walk_at "jx asks"); walk_at "jx fly0"))
  (k_with "call ref" => (k_here; (with_reducible show wpAny _ _ (call (Value.ref 184) [Value.str _ _, _]) _ _ _); (refine' Raises0.use (branch_str1 _ _ _ _) ?k1 ?k2 ?k3 ?k4 ?k5 ?k6 ?k7 ?k8 ?_; walk_at "jx asks"); walk_at "jx fly0"))
  (k_with "call ref" => (k_here; (with_reducible show wpAny _ _ (call (Value.ref 184) [Value.bytes (List.toArray _) _, Value.str _ _]) _ _ _); (refine' Raises0.use (branch_str2 _ _ _ _ _ (by assumption)) ?k1 ?k2 ?k3 ?k4 ?k5 ?k6 ?k7 ?k8 ?_; walk_at "jx asks"); walk_at "jx fly0"))
  (k_with "call ref" => (k_here; (with_reducible show wpAny _ _ (call (Value.ref 191) [Value.str _ _]) _ _ _); (refine' Raises0.use (leaf_str _ _ _) ?k1 ?k2 ?k3 ?k4 ?k5 ?k6 ?k7 ?k8 ?_; walk_at "jx asks"); walk_at "jx fly0"))
  (k_with "call ref" => (k_here; (with_reducible show wpAny _ _ (call (Value.ref 191) [Value.bytes (List.toArray []) _]) _ _ _); (refine' Raises0.use (leaf_nil _ _) ?k1 ?k2 ?k3 ?k4 ?k5 ?k6 ?k7 ?k8 ?_; walk_at "jx asks"); walk_at "jx fly0"))
  exact trivial
theorem ref_kvnil (w : World) (c : Value) (t1 : Tok) (t0 : Tok)  : TellT0 4 w 252 [.int 0 t0, .bytes (List.toArray []) t1, c] (fun v => v = .bool true) := by
  unfold TellT0
  refine (show (kfrag = kfrag → _) → _ from fun hh => hh rfl) ?_
  k_fill
  w_on
  intro _
  intro mean mg mb dp un gd cn cs a ccd cl A₀ h₀ L m news s Q E ⟨B, F, X, N, T, hk, hd, hu⟩ hret
  refine wpAny_call (call_try (name := Str.ofString "_law_refused") (params := fnP40) (body := fnB40) (scope := fnS40) (binds := [(Str.ofString "which", .int 0 t0), (Str.ofString "one", .bytes (List.toArray []) t1), (Str.ofString "other", c)]) B F X N T rfl rfl (by k_is) (by ktr_room) (BindsTo.of_eq rfl) (locs rfl) ?_ hk rfl rfl rfl (by decide))
  intro g' L' h' FG' F' N' B' X' T' D'
  dsimp only [fnB40, fnS40, List.length, List.reverse, List.reverseAux] at F' ⊢
  obtain ⟨b', B'', XB', TB', SB'⟩ := hideBase B' FG' X T
  clear B'
  (try k_lift B'')
  k_fold
  k_steps
  all_goals clear_value qk ek
  all_goals (refine hret _ _ _ rfl (by assumption) (by assumption))
theorem ref_kvstr1 (w : World) (x : Str) (c : Value) (t1 : Tok) (t0 : Tok)  : TellT0 4 w 252 [.int 0 t0, .str x t1, c] (fun v => v = .bool true) := by
  unfold TellT0
  refine (show (kfrag = kfrag → _) → _ from fun hh => hh rfl) ?_
  k_fill
  w_on
  intro _
  intro mean mg mb dp un gd cn cs a ccd cl A₀ h₀ L m news s Q E ⟨B, F, X, N, T, hk, hd, hu⟩ hret
  refine wpAny_call (call_try (name := Str.ofString "_law_refused") (params := fnP40) (body := fnB40) (scope := fnS40) (binds := [(Str.ofString "which", .int 0 t0), (Str.ofString "one", .str x t1), (Str.ofString "other", c)]) B F X N T rfl rfl (by k_is) (by ktr_room) (BindsTo.of_eq rfl) (locs rfl) ?_ hk rfl rfl rfl (by decide))
  intro g' L' h' FG' F' N' B' X' T' D'
  dsimp only [fnB40, fnS40, List.length, List.reverse, List.reverseAux] at F' ⊢
  obtain ⟨b', B'', XB', TB', SB'⟩ := hideBase B' FG' X T
  clear B'
  (try k_lift B'')
  k_fold
  k_steps
  all_goals clear_value qk ek
  all_goals (refine hret _ _ _ rfl (by assumption) (by assumption))
theorem ref_kvstr2 (w : World) (k : List UInt8) (x : Str) (t1 t2 : Tok) (t0 : Tok) (hk0 : ¬ (k == []) = true) : TellT0 4 w 252 [.int 0 t0, .bytes k.toArray t1, .str x t2] (fun v => v = .bool true) := by
  unfold TellT0
  refine (show (kfrag = kfrag → _) → _ from fun hh => hh rfl) ?_
  k_fill
  w_on
  intro _
  intro mean mg mb dp un gd cn cs a ccd cl A₀ h₀ L m news s Q E ⟨B, F, X, N, T, hk, hd, hu⟩ hret
  refine wpAny_call (call_try (name := Str.ofString "_law_refused") (params := fnP40) (body := fnB40) (scope := fnS40) (binds := [(Str.ofString "which", .int 0 t0), (Str.ofString "one", .bytes k.toArray t1), (Str.ofString "other", .str x t2)]) B F X N T rfl rfl (by k_is) (by ktr_room) (BindsTo.of_eq rfl) (locs rfl) ?_ hk rfl rfl rfl (by decide))
  intro g' L' h' FG' F' N' B' X' T' D'
  dsimp only [fnB40, fnS40, List.length, List.reverse, List.reverseAux] at F' ⊢
  obtain ⟨b', B'', XB', TB', SB'⟩ := hideBase B' FG' X T
  clear B'
  (try k_lift B'')
  k_fold
  k_steps
  all_goals clear_value qk ek
  all_goals (refine hret _ _ _ rfl (by assumption) (by assumption))
theorem ref_kvbad2 (w : World) (k c : List UInt8) (t1 t2 : Tok) (t0 : Tok) (hk0 : ¬ (k == []) = true) (hc : c.length ≠ 32) (hz : c.length ≤ 4000) : TellT0 4 w 252 [.int 0 t0, .bytes k.toArray t1, .bytes c.toArray t2] (fun v => v = .bool true) := by
  unfold TellT0
  refine (show (kfrag = kfrag → _) → _ from fun hh => hh rfl) ?_
  k_fill
  w_on
  intro _
  intro mean mg mb dp un gd cn cs a ccd cl A₀ h₀ L m news s Q E ⟨B, F, X, N, T, hk, hd, hu⟩ hret
  refine wpAny_call (call_try (name := Str.ofString "_law_refused") (params := fnP40) (body := fnB40) (scope := fnS40) (binds := [(Str.ofString "which", .int 0 t0), (Str.ofString "one", .bytes k.toArray t1), (Str.ofString "other", .bytes c.toArray t2)]) B F X N T rfl rfl (by k_is) (by ktr_room) (BindsTo.of_eq rfl) (locs rfl) ?_ hk rfl rfl rfl (by decide))
  intro g' L' h' FG' F' N' B' X' T' D'
  dsimp only [fnB40, fnS40, List.length, List.reverse, List.reverseAux] at F' ⊢
  obtain ⟨b', B'', XB', TB', SB'⟩ := hideBase B' FG' X T
  clear B'
  (try k_lift B'')
  k_fold
  k_steps
  all_goals clear_value qk ek
  all_goals (refine hret _ _ _ rfl (by assumption) (by assumption))
theorem ref_brbad1 (w : World) (l : List UInt8) (r : Value) (t1 : Tok) (t0 : Tok) (hl : l.length ≠ 32) (hz : l.length ≤ 4000) : TellT0 4 w 252 [.int 1 t0, .bytes l.toArray t1, r] (fun v => v = .bool true) := by
  unfold TellT0
  refine (show (kfrag = kfrag → _) → _ from fun hh => hh rfl) ?_
  k_fill
  w_on
  intro _
  intro mean mg mb dp un gd cn cs a ccd cl A₀ h₀ L m news s Q E ⟨B, F, X, N, T, hk, hd, hu⟩ hret
  refine wpAny_call (call_try (name := Str.ofString "_law_refused") (params := fnP40) (body := fnB40) (scope := fnS40) (binds := [(Str.ofString "which", .int 1 t0), (Str.ofString "one", .bytes l.toArray t1), (Str.ofString "other", r)]) B F X N T rfl rfl (by k_is) (by ktr_room) (BindsTo.of_eq rfl) (locs rfl) ?_ hk rfl rfl rfl (by decide))
  intro g' L' h' FG' F' N' B' X' T' D'
  dsimp only [fnB40, fnS40, List.length, List.reverse, List.reverseAux] at F' ⊢
  obtain ⟨b', B'', XB', TB', SB'⟩ := hideBase B' FG' X T
  clear B'
  (try k_lift B'')
  k_fold
  k_steps
  all_goals clear_value qk ek
  all_goals (refine hret _ _ _ rfl (by assumption) (by assumption))
theorem ref_brbad2 (w : World) (l r : List UInt8) (t1 t2 : Tok) (t0 : Tok) (hl : l.length = 32) (hr : r.length ≠ 32) (hz : r.length ≤ 4000) : TellT0 4 w 252 [.int 1 t0, .bytes l.toArray t1, .bytes r.toArray t2] (fun v => v = .bool true) := by
  unfold TellT0
  refine (show (kfrag = kfrag → _) → _ from fun hh => hh rfl) ?_
  k_fill
  w_on
  intro _
  intro mean mg mb dp un gd cn cs a ccd cl A₀ h₀ L m news s Q E ⟨B, F, X, N, T, hk, hd, hu⟩ hret
  refine wpAny_call (call_try (name := Str.ofString "_law_refused") (params := fnP40) (body := fnB40) (scope := fnS40) (binds := [(Str.ofString "which", .int 1 t0), (Str.ofString "one", .bytes l.toArray t1), (Str.ofString "other", .bytes r.toArray t2)]) B F X N T rfl rfl (by k_is) (by ktr_room) (BindsTo.of_eq rfl) (locs rfl) ?_ hk rfl rfl rfl (by decide))
  intro g' L' h' FG' F' N' B' X' T' D'
  dsimp only [fnB40, fnS40, List.length, List.reverse, List.reverseAux] at F' ⊢
  obtain ⟨b', B'', XB', TB', SB'⟩ := hideBase B' FG' X T
  clear B'
  (try k_lift B'')
  k_fold
  k_steps
  all_goals clear_value qk ek
  all_goals (refine hret _ _ _ rfl (by assumption) (by assumption))
theorem ref_brstr1 (w : World) (x : Str) (r : Value) (t1 : Tok) (t0 : Tok)  : TellT0 4 w 252 [.int 1 t0, .str x t1, r] (fun v => v = .bool true) := by
  unfold TellT0
  refine (show (kfrag = kfrag → _) → _ from fun hh => hh rfl) ?_
  k_fill
  w_on
  intro _
  intro mean mg mb dp un gd cn cs a ccd cl A₀ h₀ L m news s Q E ⟨B, F, X, N, T, hk, hd, hu⟩ hret
  refine wpAny_call (call_try (name := Str.ofString "_law_refused") (params := fnP40) (body := fnB40) (scope := fnS40) (binds := [(Str.ofString "which", .int 1 t0), (Str.ofString "one", .str x t1), (Str.ofString "other", r)]) B F X N T rfl rfl (by k_is) (by ktr_room) (BindsTo.of_eq rfl) (locs rfl) ?_ hk rfl rfl rfl (by decide))
  intro g' L' h' FG' F' N' B' X' T' D'
  dsimp only [fnB40, fnS40, List.length, List.reverse, List.reverseAux] at F' ⊢
  obtain ⟨b', B'', XB', TB', SB'⟩ := hideBase B' FG' X T
  clear B'
  (try k_lift B'')
  k_fold
  k_steps
  all_goals clear_value qk ek
  all_goals (refine hret _ _ _ rfl (by assumption) (by assumption))
theorem ref_brstr2 (w : World) (l : List UInt8) (x : Str) (t1 t2 : Tok) (t0 : Tok) (hl : l.length = 32) : TellT0 4 w 252 [.int 1 t0, .bytes l.toArray t1, .str x t2] (fun v => v = .bool true) := by
  unfold TellT0
  refine (show (kfrag = kfrag → _) → _ from fun hh => hh rfl) ?_
  k_fill
  w_on
  intro _
  intro mean mg mb dp un gd cn cs a ccd cl A₀ h₀ L m news s Q E ⟨B, F, X, N, T, hk, hd, hu⟩ hret
  refine wpAny_call (call_try (name := Str.ofString "_law_refused") (params := fnP40) (body := fnB40) (scope := fnS40) (binds := [(Str.ofString "which", .int 1 t0), (Str.ofString "one", .bytes l.toArray t1), (Str.ofString "other", .str x t2)]) B F X N T rfl rfl (by k_is) (by ktr_room) (BindsTo.of_eq rfl) (locs rfl) ?_ hk rfl rfl rfl (by decide))
  intro g' L' h' FG' F' N' B' X' T' D'
  dsimp only [fnB40, fnS40, List.length, List.reverse, List.reverseAux] at F' ⊢
  obtain ⟨b', B'', XB', TB', SB'⟩ := hideBase B' FG' X T
  clear B'
  (try k_lift B'')
  k_fold
  k_steps
  all_goals clear_value qk ek
  all_goals (refine hret _ _ _ rfl (by assumption) (by assumption))
theorem ref_lfstr (w : World) (x : Str) (u : Value) (t1 : Tok) (t0 : Tok)  : TellT0 4 w 252 [.int 2 t0, .str x t1, u] (fun v => v = .bool true) := by
  unfold TellT0
  refine (show (kfrag = kfrag → _) → _ from fun hh => hh rfl) ?_
  k_fill
  w_on
  intro _
  intro mean mg mb dp un gd cn cs a ccd cl A₀ h₀ L m news s Q E ⟨B, F, X, N, T, hk, hd, hu⟩ hret
  refine wpAny_call (call_try (name := Str.ofString "_law_refused") (params := fnP40) (body := fnB40) (scope := fnS40) (binds := [(Str.ofString "which", .int 2 t0), (Str.ofString "one", .str x t1), (Str.ofString "other", u)]) B F X N T rfl rfl (by k_is) (by ktr_room) (BindsTo.of_eq rfl) (locs rfl) ?_ hk rfl rfl rfl (by decide))
  intro g' L' h' FG' F' N' B' X' T' D'
  dsimp only [fnB40, fnS40, List.length, List.reverse, List.reverseAux] at F' ⊢
  obtain ⟨b', B'', XB', TB', SB'⟩ := hideBase B' FG' X T
  clear B'
  (try k_lift B'')
  k_fold
  k_steps
  all_goals clear_value qk ek
  all_goals (refine hret _ _ _ rfl (by assumption) (by assumption))
theorem ref_lfnil (w : World) (u : Value) (t1 : Tok) (t0 : Tok)  : TellT0 4 w 252 [.int 2 t0, .bytes (List.toArray []) t1, u] (fun v => v = .bool true) := by
  unfold TellT0
  refine (show (kfrag = kfrag → _) → _ from fun hh => hh rfl) ?_
  k_fill
  w_on
  intro _
  intro mean mg mb dp un gd cn cs a ccd cl A₀ h₀ L m news s Q E ⟨B, F, X, N, T, hk, hd, hu⟩ hret
  refine wpAny_call (call_try (name := Str.ofString "_law_refused") (params := fnP40) (body := fnB40) (scope := fnS40) (binds := [(Str.ofString "which", .int 2 t0), (Str.ofString "one", .bytes (List.toArray []) t1), (Str.ofString "other", u)]) B F X N T rfl rfl (by k_is) (by ktr_room) (BindsTo.of_eq rfl) (locs rfl) ?_ hk rfl rfl rfl (by decide))
  intro g' L' h' FG' F' N' B' X' T' D'
  dsimp only [fnB40, fnS40, List.length, List.reverse, List.reverseAux] at F' ⊢
  obtain ⟨b', B'', XB', TB', SB'⟩ := hideBase B' FG' X T
  clear B'
  (try k_lift B'')
  k_fold
  k_steps
  all_goals clear_value qk ek
  all_goals (refine hret _ _ _ rfl (by assumption) (by assumption))
end
-- JxLw6
section
theorem jxLw6_rows1 : True := by
  k_with_none
  (k_with "jx gg" => first | exact GG.refl _ | assumption | (refine GG.trans ?_ (by assumption); walk_at "jx gg"))
  (k_with "jx asks" => ((case k1 => k_asm); (case k2 => k_asm); (case k3 => k_asm); (case k4 => k_asm); (case k5 => k_asm); (case k6 => first | exact rfl | assumption); (case k7 => ktr_room); (case k8 => ktr_units)))
  (k_with "jx ne" => first | assumption | exact List.forall_mem_nil _ | (refine List.forall_mem_cons.mpr ⟨(by first | assumption | exact fun p9 z9 => absurd (congrArg Obj.cls z9) (by intro y9; cases y9) | exact notTab_cell (by assumption)), ?_⟩; walk_at "jx ne"))
  (k_with "jx backP" => (intro v9 ps9 h9 g9 tk9 R9 t9P F9 N9 G9; (first | (obtain ⟨t9, e9⟩ := R9; subst e9) | subst R9); (try dsimp only); (try k_sweep); (try k_fold)))
  (k_with "jx back" => (intro v9 h9 g9 tk9 R9 F9 N9 G9; (first | (obtain ⟨t9, e9⟩ := R9; subst e9) | subst R9); (try dsimp only); (try k_sweep); (try k_fold)))
  (k_with "jx back0" => (intro v9 h9 tk9 R9 F9 N9; (first | (obtain ⟨t9, e9⟩ := R9; subst e9) | subst R9); (try dsimp only); (try k_sweep); (try k_fold)))
  (k_with "jx dive" => skip)
  (k_with "jx fly0" => (intro e9 t9 xs9 h19 h9 tk9 F9 U9 R9; (try dsimp only); walk_at "jx dive"; (try k_fold)))
  (k_with "jx flyN" => (intro e9 h19 h9 g9 tk9 F9 U9 R9 G9; (try dsimp only); walk_at "jx diveN"; (try k_fold)))
  (k_with "jx diveN" => skip)
  (k_with "jx fly" => (intro e9 t9 xs9 h19 h9 g9 tk9 F9 U9 R9 G9; (try dsimp only); walk_at "jx dive"; (try k_fold)))
  (k_with "jx dec" => first | assumption | decide | (simp only [List.size_toArray, List.length_append, List.length_cons, List.length_nil, bne_iff_ne, ne_eq, beq_iff_eq, Bool.not_eq_true, Decidable.not_not, decide_eq_true_eq, decide_eq_false_iff_not, Bool.not_true, Bool.not_false, reduceCtorEq, not_false_eq_true, not_true_eq_false]; done) | (simp only [List.size_toArray, List.length_append, List.length_cons, List.length_nil, bne_iff_ne, ne_eq, beq_iff_eq, Bool.not_eq_true, Decidable.not_not, decide_eq_true_eq, decide_eq_false_iff_not]; omega))
  (k_with "ite" => (k_here; first | rw [if_pos (by walk_at "jx dec")] | rw [if_neg (by walk_at "jx dec")]))
  exact trivial
theorem jxLw6_rows2 : True := by
  (k_with "jx cut" => with_reducible first | exact cutL_from _ _ | exact cutL_to _ _ | exact cutL_mid _ _ _ | exact cutL_last _ _ (by decide) | exact cutL_but _ _ _ (by decide) | exact cut_all _ | exact cut_from _ _ | exact cut_to _ _ | exact cut_mid _ _ _)
  (k_with "jx len" => first | omega | (simp only [List.length_append, List.length_cons, List.length_nil, List.length_take, List.length_drop, List.length_replicate, List.length_map, List.length_reverse]; omega))
  (k_with "binaryOp Add bytes bytes" => (k_here; (with_reducible show wpAny _ _ (binaryOp Operator.Add (Value.bytes (List.toArray _) _) (Value.bytes (List.toArray _) _)) _ _ _); (refine jb_add (by walk_at "jx len") ?_); intro _ _))
  (k_with "call builtin:len" => (k_here; (with_reducible show wpAny _ _ (call (Value.builtin "len") [Value.bytes (List.toArray _) _]) _ _ _); (refine jb_len (by walk_at "jx len") ?_); intro _ _))
  (k_with "compareOp Eq bytes bytes" => refine jb_eq ?_)
  (k_with "compareOp NotEq bytes bytes" => refine jb_ne ?_)
  (k_with "subscriptTail" => (k_here; (with_reducible show wpAny _ _ (subscriptTail _ (Expr.Slice _ _ none _) (Value.bytes (List.toArray _) _) (Value.ref _)) _ _ _); (with_reducible rename Fr _ _ _ _ => F'); (with_reducible rename News _ _ _ _ => N'); (refine jb_slice (s := ⟨_, _, _, _, _⟩) F' N' (by constructor) (by constructor) (by walk_at "jx len") (by walk_at "jx cut") ?_); intro _ _ _ _ _))
  (k_with "subscriptTail" => (k_here; (with_reducible show wpAny _ _ (subscriptTail _ _ (Value.bytes (List.toArray _) _) (Value.int _ _)) _ _ _); (refine KBy.item_N (by walk_at "jx len") (by walk_at "jx len") (by walk_at "jx len") ?_)))
  (k_with "eval Constant int" => (k_here; refine wpAny_Constant_int ?_; (try dsimp only)))
  (k_with "jx var" => first | with_reducible assumption | (refine (if_neg (by decide +kernel)).trans ?_; walk_at "jx var") | exact if_pos rfl)
  (k_with "eval Name" => (k_here; (refine' nameX_L ?F ?v ?_ ?a ?b; (case F => k_asm); (case a => rfl); (case b => rfl); (case v => walk_at "jx var"); k_whole)))
  (k_with "jx drop" => first | (with_reducible assumption) | ((with_reducible rename News _ _ _ _ => nn9); exact fun q9 hq9 => nn9 q9 (by repeat' (first | exact hq9 | apply List.Mem.tail))))
  (k_with "jx tm" => first | exact List.Mem.head _ | (refine List.Mem.tail _ ?_; walk_at "jx tm"))
  (k_with "jx eqa" => first | (with_reducible exact eqAt_bytes _ _ _ _) | (with_reducible exact eqAt_int _ _ _ _) | (with_reducible exact PySem.SeqAt.EqAt.same _))
  (k_with "compareOp NotEq ref ref" => (k_here; (with_reducible show wpAny _ _ (compareOp CmpOp.NotEq (Value.ref _) (Value.ref _)) _ _ _); (with_reducible rename News _ _ _ _ => nn9); (with_reducible refine' ne_tup nn9 ?ha ?hb ?e1 ?e2 ?e3 ?hu ?_); (case ha => k_dflt (walk_at "jx tm")); (case hb => k_dflt (walk_at "jx tm")); (case e1 => walk_at "jx eqa"); (case e2 => walk_at "jx eqa"); (case e3 => walk_at "jx eqa"); (case hu => k_dflt ((try dsimp only); omega))))
  (k_with "compareOp Eq ref ref" => (k_here; (with_reducible show wpAny _ _ (compareOp CmpOp.Eq (Value.ref _) (Value.ref _)) _ _ _); (with_reducible rename News _ _ _ _ => nn9); (with_reducible refine' eq_tup nn9 ?ha ?hb ?e1 ?e2 ?e3 ?hu ?_); (case ha => k_dflt (walk_at "jx tm")); (case hb => k_dflt (walk_at "jx tm")); (case e1 => walk_at "jx eqa"); (case e2 => walk_at "jx eqa"); (case e3 => walk_at "jx eqa"); (case hu => k_dflt ((try dsimp only); omega))))
  (k_with "jx p4" => (intro r9 t7 t8 t9 h9 g9 tk9 F9 N9 G9; (try dsimp only); (try k_sweep); (try k_fold)))
  (k_with "call ref" => (k_here; (with_reducible show wpAny _ _ (call (Value.ref 170) [Value.bytes (List.toArray (1 :: (_ ++ _))) _]) _ _ _); (refine' parse_br_use ?x1 ?x2 ?k1 ?k2 ?k3 ?k4 ?k5 ?k6 ?k7 ?k8 ?_; (case x1 => with_reducible assumption); (case x2 => with_reducible assumption); walk_at "jx asks"); walk_at "jx p4"))
  (k_with "call ref" => (k_here; (with_reducible show wpAny _ _ (call (Value.ref 170) [Value.bytes (List.toArray (0 :: (enc _ ++ _))) _]) _ _ _); (refine' parse_kv_use ?x1 ?x2 ?x3 ?k1 ?k2 ?k3 ?k4 ?k5 ?k6 ?k7 ?k8 ?_; (case x1 => with_reducible assumption); (case x2 => omega); (case x3 => with_reducible assumption); walk_at "jx asks"); walk_at "jx p4"))
  (k_with "call ref" => (k_here; (with_reducible show wpAny _ _ (call (Value.ref 170) [Value.bytes (List.toArray (2 :: _)) _]) _ _ _); (refine' parse_leaf_use ?x1 ?x2 ?k1 ?k2 ?k3 ?k4 ?k5 ?k6 ?k7 ?k8 ?_; (case x1 => walk_at "jx nil"); (case x2 => omega); walk_at "jx asks"); (intro r9 t7 t9 h9 g9 tk9 F9 N9 G9; (try dsimp only); (try k_sweep); (try k_fold))))
  exact trivial
theorem jxLw6_rows3 : True := by
  (k_with "jx dec" => first | (with_reducible exact ne_off rfl) | (k_dflt (exact ne_off rfl)))
  (k_with "jx k0" => with_reducible assumption)
  (k_with "jx r4" => (intro v9 h9 tk9 R9 F9 N9; subst R9; (try dsimp only); (try k_sweep); (try k_fold)))
  (k_with "jx ref" => (first | (with_reducible refine' TellT0.use (ref_kvnil _ _ _ _) ?k1 ?k2 ?k3 ?k4 ?k5 ?k6 ?k7 ?k8 ?_) | (with_reducible refine' TellT0.use (ref_kvstr1 _ _ _ _ _) ?k1 ?k2 ?k3 ?k4 ?k5 ?k6 ?k7 ?k8 ?_) | (with_reducible refine' TellT0.use (ref_kvstr2 _ _ _ _ _ _ (by walk_at "jx k0")) ?k1 ?k2 ?k3 ?k4 ?k5 ?k6 ?k7 ?k8 ?_) | (with_reducible refine' TellT0.use (ref_kvbad2 _ _ _ _ _ _ (by walk_at "jx k0") (by walk_at "jx bad") (by walk_at "jx len")) ?k1 ?k2 ?k3 ?k4 ?k5 ?k6 ?k7 ?k8 ?_) | (with_reducible refine' TellT0.use (ref_brstr1 _ _ _ _ _) ?k1 ?k2 ?k3 ?k4 ?k5 ?k6 ?k7 ?k8 ?_) | (with_reducible refine' TellT0.use (ref_brstr2 _ _ _ _ _ _ (by with_reducible assumption)) ?k1 ?k2 ?k3 ?k4 ?k5 ?k6 ?k7 ?k8 ?_) | (with_reducible refine' TellT0.use (ref_brbad2 _ _ _ _ _ _ (by with_reducible assumption) (by walk_at "jx bad") (by walk_at "jx len")) ?k1 ?k2 ?k3 ?k4 ?k5 ?k6 ?k7 ?k8 ?_) | (with_reducible refine' TellT0.use (ref_brbad1 _ _ _ _ _ (by walk_at "jx bad") (by walk_at "jx len")) ?k1 ?k2 ?k3 ?k4 ?k5 ?k6 ?k7 ?k8 ?_) | (with_reducible refine' TellT0.use (ref_lfstr _ _ _ _ _) ?k1 ?k2 ?k3 ?k4 ?k5 ?k6 ?k7 ?k8 ?_) | (with_reducible refine' TellT0.use (ref_lfnil _ _ _ _) ?k1 ?k2 ?k3 ?k4 ?k5 ?k6 ?k7 ?k8 ?_)))
  (k_with "jx bad" => first | omega | (simp only [List.length_append, List.length_cons, List.length_nil]; omega))
  (k_with "call ref" => (k_here; (with_reducible show wpAny _ _ (call (Value.ref 252) [_, _, _]) _ _ _); walk_at "jx ref"; walk_at "jx asks"; walk_at "jx r4"))
  exact trivial
theorem bne_nil {k : List UInt8} (h : (k != []) = true) : ¬ (k == []) = true := fun e => by
  rw [eq_of_beq e] at h
  cases h
theorem jxLw6_rows4 : True := by
  (k_with "jx k0" => exact bne_nil (by with_reducible assumption))
  exact trivial
local macro_rules | `(tactic| passes_own) => `(tactic| with_reducible assumption)
theorem jxLw6_rows5 : True := by
  (k_with "call ref" => (k_here; (with_reducible show wpAny _ _ (call (Value.ref 177) [Value.bytes (List.toArray _) _, Value.bytes (List.toArray _) _]) _ _ _); (refine' TellP.use (kv_ok _ _ _ _ _ ?x0 ?x1 ?x2 ?x5 ?x6) ?k1 ?k2 ?k3 ?k4 ?k5 ?k6 ?k7 ?k8 ?x3 ?x4 ?_; (case x0 => walk_at "jx k0"); (case x1 => omega); (case x2 => with_reducible assumption); (case x5 => with_reducible assumption); (case x6 => (rw [enc_length]; omega)); walk_at "jx asks"; (case x3 => with_reducible assumption); (case x4 => walk_at "jx ne")); walk_at "jx backP"))
  exact trivial
theorem take32b {x b : List UInt8} (h : b.length = 32) : ((x ++ b).take 32).length = 32 := by
  rw [List.length_take, List.length_append]; omega
theorem store_child {M : Model} {A : Around} {env : Env} {nm : Str} {t : Tok} {Q : Unit → Shared → Prop} {E : Value → Shared → Prop} {s : Shared} {x b : List UInt8} (hb : b.length = 32) (h : ∀ c, c.length = 32 → wpAny M A (storeName env nm (.bytes (List.toArray c) t)) Q E s) :
    wpAny M A (storeName env nm (.bytes ((x ++ b).take 32).toArray t)) Q E s := h _ (take32b hb)
theorem store_short {M : Model} {A : Around} {env : Env} {nm : Str} {t : Tok} {Q : Unit → Shared → Prop} {E : Value → Shared → Prop} {s : Shared} {x : List UInt8} (h : ∀ c, c.length ≤ 31 → wpAny M A (storeName env nm (.bytes (List.toArray c) t)) Q E s) :
    wpAny M A (storeName env nm (.bytes (x.take 31).toArray t)) Q E s := h _ (by rw [List.length_take]; omega)
theorem jxLw6_rows6 : True := by
  (k_with "storeName" => (k_here; (with_reducible refine store_child ?hb9 ?_); (case hb9 => k_dflt rfl); intro child9 hchild9))
  (k_with "storeName" => (k_here; (with_reducible refine store_short ?_); intro short9 hshort9))
  exact trivial
theorem ch6 {w : World} {g : Heap} {L : Addr} {mean : ExcName → Option Value} {mg mb : Str → Option Value} {dp un : Nat} {gd : Option (List Code)} {s : Shared} {ps : Array Value} {m : Str → Option Value} {rest : List Stmt} {Q : Flow → Shared → Prop} {E : Value → Shared → Prop} (T : ctxTop mean mg mb g) (X : (kfrag w.params).In g) (hL : @LT.lt Nat _ 118 L) (hd : dp + 40 < recursionLimit) (hu : un + 8 * 40 < cLine) (t : TriplesOk ps.toList) {row o : List UInt8} {tr tO tt : Tok} {oO oR : Obj}
    (hE : PassesOwn (model rw_.prog w) (ktrTop dp un gd (Str.ofString "law") fnS42 L 262 (.ref 261) (lawCl L) []) (lawEnv L) E) (hz : o.length ≤ 90) (hb : IsBits row) (hr : row.length ≤ 126) (hm : m (Str.ofString "told") = some (.bytes (enc row).toArray tt)) (F : Fr g L s.heap m) (N : News g L s.heap [(118, tabObj ps), (L + 1 + 1, oO), (L + 1, oR)])
    (dO : oO.data = .cell (some (.bytes o.toArray tO))) (dR : oR.data = .cell (some (.bytes row.toArray tr)))
    (cont : ∀ ps' child short tc ts m' h' g' tk', TriplesOk (Array.toList ps') → List.length child = 32 → List.length short ≤ 31 → m' (Str.ofString "child") = some (.bytes (List.toArray child) tc) → m' (Str.ofString "short") = some (.bytes (List.toArray short) ts) → Fr g L h' m' → News g L h' [(118, tabObj ps'), (L + 1 + 1, oO), (L + 1, oR)] → GG s.gens g' →
      wpAny (model rw_.prog w) (ktrTop dp un gd (Str.ofString "law") fnS42 L 262 (.ref 261) (lawCl L) []) (execs rest (lawEnv L)) Q E { s with heap := h', gens := g', toks := tk' }) :
    wpAny (model rw_.prog w) (ktrTop dp un gd (Str.ofString "law") fnS42 L 262 (.ref 261) (lawCl L) []) (execs (st10 :: st11 :: st12 :: rest) (lawEnv L)) Q E s := by
  refine (show (kfrag = kfrag → _) → _ from fun hh => hh rfl) ?_
  k_fill
  w_on
  intro _
  have B := below_caller g
  have hel : (enc row).length ≤ 200 := by rw [enc_length]; omega
  dsimp only [st10, st11, st12]
  k_steps
  all_goals (refine' cont _ _ _ _ _ _ _ _ _ ?ct ?cc ?cs ?cm ?cm2 ?cF ?cN ?cG; (case cF => with_reducible assumption); (case cm => walk_at "jx var"); (case cm2 => walk_at "jx var"); (case cc => with_reducible assumption); (case cs => with_reducible assumption); (case cN => walk_at "jx drop"); (case ct => with_reducible assumption); (case cG => walk_at "jx gg"))
end
-- JxLw7
section
theorem jxLw7_rows1 : True := by
  k_with_none
  (k_with "jx gg" => first | exact GG.refl _ | assumption | (refine GG.trans ?_ (by assumption); walk_at "jx gg"))
  (k_with "jx asks" => ((case k1 => k_asm); (case k2 => k_asm); (case k3 => k_asm); (case k4 => k_asm); (case k5 => k_asm); (case k6 => first | exact rfl | assumption); (case k7 => ktr_room); (case k8 => ktr_units)))
  (k_with "jx ne" => first | assumption | exact List.forall_mem_nil _ | (refine List.forall_mem_cons.mpr ⟨(by first | assumption | exact fun p9 z9 => absurd (congrArg Obj.cls z9) (by intro y9; cases y9) | exact notTab_cell (by assumption)), ?_⟩; walk_at "jx ne"))
  (k_with "jx backP" => (intro v9 ps9 h9 g9 tk9 R9 t9P F9 N9 G9; (first | (obtain ⟨t9, e9⟩ := R9; subst e9) | subst R9); (try dsimp only); (try k_sweep); (try k_fold)))
  (k_with "jx back" => (intro v9 h9 g9 tk9 R9 F9 N9 G9; (first | (obtain ⟨t9, e9⟩ := R9; subst e9) | subst R9); (try dsimp only); (try k_sweep); (try k_fold)))
  (k_with "jx back0" => (intro v9 h9 tk9 R9 F9 N9; (first | (obtain ⟨t9, e9⟩ := R9; subst e9) | subst R9); (try dsimp only); (try k_sweep); (try k_fold)))
  (k_with "jx dive" => skip)
  (k_with "jx fly0" => (intro e9 t9 xs9 h19 h9 tk9 F9 U9 R9; (try dsimp only); walk_at "jx dive"; (try k_fold)))
  (k_with "jx flyN" => (intro e9 h19 h9 g9 tk9 F9 U9 R9 G9; (try dsimp only); walk_at "jx diveN"; (try k_fold)))
  (k_with "jx diveN" => skip)
  (k_with "jx fly" => (intro e9 t9 xs9 h19 h9 g9 tk9 F9 U9 R9 G9; (try dsimp only); walk_at "jx dive"; (try k_fold)))
  (k_with "jx dec" => first | assumption | decide | (simp only [List.size_toArray, List.length_append, List.length_cons, List.length_nil, bne_iff_ne, ne_eq, beq_iff_eq, Bool.not_eq_true, Decidable.not_not, decide_eq_true_eq, decide_eq_false_iff_not, Bool.not_true, Bool.not_false, reduceCtorEq, not_false_eq_true, not_true_eq_false]; done) | (simp only [List.size_toArray, List.length_append, List.length_cons, List.length_nil, bne_iff_ne, ne_eq, beq_iff_eq, Bool.not_eq_true, Decidable.not_not, decide_eq_true_eq, decide_eq_false_iff_not]; omega))
  (k_with "ite" => (k_here; first | rw [if_pos (by walk_at "jx dec")] | rw [if_neg (by walk_at "jx dec")]))
  exact trivial
theorem jxLw7_rows2 : True := by
  (k_with "jx cut" => with_reducible first | exact cutL_from _ _ | exact cutL_to _ _ | exact cutL_mid _ _ _ | exact cutL_last _ _ (by decide) | exact cutL_but _ _ _ (by decide) | exact cut_all _ | exact cut_from _ _ | exact cut_to _ _ | exact cut_mid _ _ _)
  (k_with "jx len" => first | omega | (simp only [List.length_append, List.length_cons, List.length_nil, List.length_take, List.length_drop, List.length_replicate, List.length_map, List.length_reverse]; omega))
  (k_with "binaryOp Add bytes bytes" => (k_here; (with_reducible show wpAny _ _ (binaryOp Operator.Add (Value.bytes (List.toArray _) _) (Value.bytes (List.toArray _) _)) _ _ _); (refine jb_add (by walk_at "jx len") ?_); intro _ _))
  (k_with "call builtin:len" => (k_here; (with_reducible show wpAny _ _ (call (Value.builtin "len") [Value.bytes (List.toArray _) _]) _ _ _); (refine jb_len (by walk_at "jx len") ?_); intro _ _))
  (k_with "compareOp Eq bytes bytes" => refine jb_eq ?_)
  (k_with "compareOp NotEq bytes bytes" => refine jb_ne ?_)
  (k_with "subscriptTail" => (k_here; (with_reducible show wpAny _ _ (subscriptTail _ (Expr.Slice _ _ none _) (Value.bytes (List.toArray _) _) (Value.ref _)) _ _ _); (with_reducible rename Fr _ _ _ _ => F'); (with_reducible rename News _ _ _ _ => N'); (refine jb_slice (s := ⟨_, _, _, _, _⟩) F' N' (by constructor) (by constructor) (by walk_at "jx len") (by walk_at "jx cut") ?_); intro _ _ _ _ _))
  (k_with "subscriptTail" => (k_here; (with_reducible show wpAny _ _ (subscriptTail _ _ (Value.bytes (List.toArray _) _) (Value.int _ _)) _ _ _); (refine KBy.item_N (by walk_at "jx len") (by walk_at "jx len") (by walk_at "jx len") ?_)))
  (k_with "eval Constant int" => (k_here; refine wpAny_Constant_int ?_; (try dsimp only)))
  (k_with "jx var" => first | with_reducible assumption | (refine (if_neg (by decide +kernel)).trans ?_; walk_at "jx var") | exact if_pos rfl)
  (k_with "eval Name" => (k_here; (refine' nameX_L ?F ?v ?_ ?a ?b; (case F => k_asm); (case a => rfl); (case b => rfl); (case v => walk_at "jx var"); k_whole)))
  (k_with "jx drop" => first | (with_reducible assumption) | ((with_reducible rename News _ _ _ _ => nn9); exact fun q9 hq9 => nn9 q9 (by repeat' (first | exact hq9 | apply List.Mem.tail))))
  (k_with "jx tm" => first | exact List.Mem.head _ | (refine List.Mem.tail _ ?_; walk_at "jx tm"))
  (k_with "jx eqa" => first | (with_reducible exact eqAt_bytes _ _ _ _) | (with_reducible exact eqAt_int _ _ _ _) | (with_reducible exact PySem.SeqAt.EqAt.same _))
  (k_with "compareOp NotEq ref ref" => (k_here; (with_reducible show wpAny _ _ (compareOp CmpOp.NotEq (Value.ref _) (Value.ref _)) _ _ _); (with_reducible rename News _ _ _ _ => nn9); (with_reducible refine' ne_tup nn9 ?ha ?hb ?e1 ?e2 ?e3 ?hu ?_); (case ha => k_dflt (walk_at "jx tm")); (case hb => k_dflt (walk_at "jx tm")); (case e1 => walk_at "jx eqa"); (case e2 => walk_at "jx eqa"); (case e3 => walk_at "jx eqa"); (case hu => k_dflt ((try dsimp only); omega))))
  (k_with "compareOp Eq ref ref" => (k_here; (with_reducible show wpAny _ _ (compareOp CmpOp.Eq (Value.ref _) (Value.ref _)) _ _ _); (with_reducible rename News _ _ _ _ => nn9); (with_reducible refine' eq_tup nn9 ?ha ?hb ?e1 ?e2 ?e3 ?hu ?_); (case ha => k_dflt (walk_at "jx tm")); (case hb => k_dflt (walk_at "jx tm")); (case e1 => walk_at "jx eqa"); (case e2 => walk_at "jx eqa"); (case e3 => walk_at "jx eqa"); (case hu => k_dflt ((try dsimp only); omega))))
  (k_with "jx p4" => (intro r9 t7 t8 t9 h9 g9 tk9 F9 N9 G9; (try dsimp only); (try k_sweep); (try k_fold)))
  (k_with "call ref" => (k_here; (with_reducible show wpAny _ _ (call (Value.ref 170) [Value.bytes (List.toArray (1 :: (_ ++ _))) _]) _ _ _); (refine' parse_br_use ?x1 ?x2 ?k1 ?k2 ?k3 ?k4 ?k5 ?k6 ?k7 ?k8 ?_; (case x1 => with_reducible assumption); (case x2 => with_reducible assumption); walk_at "jx asks"); walk_at "jx p4"))
  (k_with "call ref" => (k_here; (with_reducible show wpAny _ _ (call (Value.ref 170) [Value.bytes (List.toArray (0 :: (enc _ ++ _))) _]) _ _ _); (refine' parse_kv_use ?x1 ?x2 ?x3 ?k1 ?k2 ?k3 ?k4 ?k5 ?k6 ?k7 ?k8 ?_; (case x1 => with_reducible assumption); (case x2 => omega); (case x3 => with_reducible assumption); walk_at "jx asks"); walk_at "jx p4"))
  (k_with "call ref" => (k_here; (with_reducible show wpAny _ _ (call (Value.ref 170) [Value.bytes (List.toArray (2 :: _)) _]) _ _ _); (refine' parse_leaf_use ?x1 ?x2 ?k1 ?k2 ?k3 ?k4 ?k5 ?k6 ?k7 ?k8 ?_; (case x1 => walk_at "jx nil"); (case x2 => omega); walk_at "jx asks"); (intro r9 t7 t9 h9 g9 tk9 F9 N9 G9; (try dsimp only); (try k_sweep); (try k_fold))))
  exact trivial
theorem jxLw7_rows3 : True := by
  (k_with "jx dec" => first | (with_reducible exact ne_off rfl) | (k_dflt (exact ne_off rfl)))
  exact trivial
theorem in_fm (f : Int → Int) (l : List Int) : KBa.In (l.map fun k => (f k).fmod 256) := fun k hk => by
  obtain ⟨y, _, rfl⟩ := List.mem_map.mp hk
  exact oct_mod _ _ (by decide) (by decide)
theorem len_32 (f : Int → Int) : ((rangeKs 0 ((32 : Int) - 0).toNat).map f).length = 32 := by rw [List.length_map]; rfl
theorem len_fm (f : Int → Int) : ((rangeKs 0 ((32 : Int) - 0).toNat).map f).length ≤ 300 := by rw [len_32]; decide
theorem take32 {x b : List UInt8} (h : b.length = 32) : ((x ++ b).take 32).length = 32 := by
  rw [List.length_take, List.length_append]; omega
theorem store_both {M : Model} {A : Around} {env : Env} {nm : Str} {t : Tok} {Q : Unit → Shared → Prop} {E : Value → Shared → Prop} {s : Shared} {x b : List UInt8} (hb : b.length = 32) (h : ∀ c, c.length = 32 → wpAny M A (storeName env nm (.bytes (List.toArray c) t)) Q E s) :
    wpAny M A (storeName env nm (.bytes ((x ++ b).take 32).toArray t)) Q E s := h _ (take32 hb)
theorem jxLw7_rows4 : True := by
  (k_with "storeName" => (k_here; (with_reducible refine store_both (by assumption) ?_); intro both9 hboth9))
  (k_with "call type:bytes" => (k_here; (with_reducible show wpAny _ _ (call (Value.type "bytes") [Value.ref _]) _ _ _); k_dflt (refine' make_len (vs := _) ?k1 ?k2 ?k3 ?k4 ?k5 ?k6 ?k7 ?_; (case k1 => k_asm); (case k2 => k_asm); (case k3 => exact rfl); (case k4 => is_list); (case k5 => first | assumption | l_ints); (case k6 => exact in_fm _ _); (case k7 => exact len_fm _)); intro b9 h9 t9 k9 hb9 F9 N9; replace hb9 := hb9.trans (len_32 _); (try dsimp only); (try k_sweep); (try k_fold)))
  (k_with "call ref" => (k_here; (with_reducible show wpAny _ _ (call (Value.ref 184) [Value.bytes (List.toArray _) _, Value.bytes (List.toArray _) _]) _ _ _); (refine' Tell.use (branch_ok _ _ _ _ _ (by with_reducible assumption) (by with_reducible assumption)) ?k1 ?k2 ?k3 ?k4 ?k5 ?k6 ?k7 ?k8 ?_; walk_at "jx asks"); walk_at "jx back"))
  exact trivial
theorem ch7 {w : World} {g : Heap} {L : Addr} {mean : ExcName → Option Value} {mg mb : Str → Option Value} {dp un : Nat} {gd : Option (List Code)} {s : Shared} {ps : Array Value} {m : Str → Option Value} {rest : List Stmt} {Q : Flow → Shared → Prop} {E : Value → Shared → Prop} (T : ctxTop mean mg mb g) (X : (kfrag w.params).In g) (hL : @LT.lt Nat _ 118 L) (hd : dp + 40 < recursionLimit) (hu : un + 8 * 40 < cLine) (t : TriplesOk ps.toList) {o child : List UInt8} {tO tc : Tok} {oO oR : Obj}
    (hz : o.length ≤ 90) (hc : child.length = 32) (hm : m (Str.ofString "child") = some (.bytes child.toArray tc)) (F : Fr g L s.heap m) (N : News g L s.heap [(118, tabObj ps), (L + 1 + 1, oO), (L + 1, oR)]) (dO : oO.data = .cell (some (.bytes o.toArray tO)))
    (cont : ∀ v h' g' tk', Fr g L h' (fun y => if y = Str.ofString "both" then some v else m y) → News g L h' [(118, tabObj ps), (L + 1 + 1, oO), (L + 1, oR)] → GG s.gens g' →
      wpAny (model rw_.prog w) (ktrTop dp un gd (Str.ofString "law") fnS42 L 262 (.ref 261) (lawCl L) []) (execs rest (lawEnv L)) Q E { s with heap := h', gens := g', toks := tk' }) :
    wpAny (model rw_.prog w) (ktrTop dp un gd (Str.ofString "law") fnS42 L 262 (.ref 261) (lawCl L) []) (execs (st13 :: st14 :: rest) (lawEnv L)) Q E s := by
  refine (show (kfrag = kfrag → _) → _ from fun hh => hh rfl) ?_
  k_fill
  w_on
  intro _
  have B := below_caller g
  dsimp only [st13, st14]
  k_steps
  all_goals (refine' cont _ _ _ _ ?cF ?cN ?cG; (case cF => with_reducible assumption); (case cN => walk_at "jx drop"); (case cG => walk_at "jx gg"))
end
-- JxLw8
section
theorem jxLw8_rows1 : True := by
  k_with_none
  (k_with "jx gg" => first | exact GG.refl _ | assumption | (refine GG.trans ?_ (by assumption); walk_at "jx gg"))
  (k_with "jx asks" => ((case k1 => k_asm); (case k2 => k_asm); (case k3 => k_asm); (case k4 => k_asm); (case k5 => k_asm); (case k6 => first | exact rfl | assumption); (case k7 => ktr_room); (case k8 => ktr_units)))
  (k_with "jx ne" => first | assumption | exact List.forall_mem_nil _ | (refine List.forall_mem_cons.mpr ⟨(by first | assumption | exact fun p9 z9 => absurd (congrArg Obj.cls z9) (by intro y9; cases y9) | exact notTab_cell (by assumption)), ?_⟩; walk_at "jx ne"))
  (k_with "jx backP" => (intro v9 ps9 h9 g9 tk9 R9 t9P F9 N9 G9; (first | (obtain ⟨t9, e9⟩ := R9; subst e9) | subst R9); (try dsimp only); (try k_sweep); (try k_fold)))
  (k_with "jx back" => (intro v9 h9 g9 tk9 R9 F9 N9 G9; (first | (obtain ⟨t9, e9⟩ := R9; subst e9) | subst R9); (try dsimp only); (try k_sweep); (try k_fold)))
  (k_with "jx back0" => (intro v9 h9 tk9 R9 F9 N9; (first | (obtain ⟨t9, e9⟩ := R9; subst e9) | subst R9); (try dsimp only); (try k_sweep); (try k_fold)))
  (k_with "jx dive" => skip)
  (k_with "jx fly0" => (intro e9 t9 xs9 h19 h9 tk9 F9 U9 R9; (try dsimp only); walk_at "jx dive"; (try k_fold)))
  (k_with "jx flyN" => (intro e9 h19 h9 g9 tk9 F9 U9 R9 G9; (try dsimp only); walk_at "jx diveN"; (try k_fold)))
  (k_with "jx diveN" => skip)
  (k_with "jx fly" => (intro e9 t9 xs9 h19 h9 g9 tk9 F9 U9 R9 G9; (try dsimp only); walk_at "jx dive"; (try k_fold)))
  (k_with "jx dec" => first | assumption | decide | (simp only [List.size_toArray, List.length_append, List.length_cons, List.length_nil, bne_iff_ne, ne_eq, beq_iff_eq, Bool.not_eq_true, Decidable.not_not, decide_eq_true_eq, decide_eq_false_iff_not, Bool.not_true, Bool.not_false, reduceCtorEq, not_false_eq_true, not_true_eq_false]; done) | (simp only [List.size_toArray, List.length_append, List.length_cons, List.length_nil, bne_iff_ne, ne_eq, beq_iff_eq, Bool.not_eq_true, Decidable.not_not, decide_eq_true_eq, decide_eq_false_iff_not]; omega))
  (k_with "ite" => (k_here; first | rw [if_pos (by walk_at "jx dec")] | rw [if_neg (by walk_at "jx dec")]))
  exact trivial
theorem jxLw8_rows2 : True := by
  (k_with "jx cut" => with_reducible first | exact cutL_from _ _ | exact cutL_to _ _ | exact cutL_mid _ _ _ | exact cutL_last _ _ (by decide) | exact cutL_but _ _ _ (by decide) | exact cut_all _ | exact cut_from _ _ | exact cut_to _ _ | exact cut_mid _ _ _)
  (k_with "jx len" => first | omega | (simp only [List.length_append, List.length_cons, List.length_nil, List.length_take, List.length_drop, List.length_replicate, List.length_map, List.length_reverse]; omega))
  (k_with "binaryOp Add bytes bytes" => (k_here; (with_reducible show wpAny _ _ (binaryOp Operator.Add (Value.bytes (List.toArray _) _) (Value.bytes (List.toArray _) _)) _ _ _); (refine jb_add (by walk_at "jx len") ?_); intro _ _))
  (k_with "call builtin:len" => (k_here; (with_reducible show wpAny _ _ (call (Value.builtin "len") [Value.bytes (List.toArray _) _]) _ _ _); (refine jb_len (by walk_at "jx len") ?_); intro _ _))
  (k_with "compareOp Eq bytes bytes" => refine jb_eq ?_)
  (k_with "compareOp NotEq bytes bytes" => refine jb_ne ?_)
  (k_with "subscriptTail" => (k_here; (with_reducible show wpAny _ _ (subscriptTail _ (Expr.Slice _ _ none _) (Value.bytes (List.toArray _) _) (Value.ref _)) _ _ _); (with_reducible rename Fr _ _ _ _ => F'); (with_reducible rename News _ _ _ _ => N'); (refine jb_slice (s := ⟨_, _, _, _, _⟩) F' N' (by constructor) (by constructor) (by walk_at "jx len") (by walk_at "jx cut") ?_); intro _ _ _ _ _))
  (k_with "subscriptTail" => (k_here; (with_reducible show wpAny _ _ (subscriptTail _ _ (Value.bytes (List.toArray _) _) (Value.int _ _)) _ _ _); (refine KBy.item_N (by walk_at "jx len") (by walk_at "jx len") (by walk_at "jx len") ?_)))
  (k_with "eval Constant int" => (k_here; refine wpAny_Constant_int ?_; (try dsimp only)))
  (k_with "jx var" => first | with_reducible assumption | (refine (if_neg (by decide +kernel)).trans ?_; walk_at "jx var") | exact if_pos rfl)
  (k_with "eval Name" => (k_here; (refine' nameX_L ?F ?v ?_ ?a ?b; (case F => k_asm); (case a => rfl); (case b => rfl); (case v => walk_at "jx var"); k_whole)))
  (k_with "jx drop" => first | (with_reducible assumption) | ((with_reducible rename News _ _ _ _ => nn9); exact fun q9 hq9 => nn9 q9 (by repeat' (first | exact hq9 | apply List.Mem.tail))))
  (k_with "jx k0" => with_reducible assumption)
  (k_with "jx r4" => (intro v9 h9 tk9 R9 F9 N9; subst R9; (try dsimp only); (try k_sweep); (try k_fold)))
  (k_with "jx ref" => (first | (with_reducible refine' TellT0.use (ref_kvnil _ _ _ _) ?k1 ?k2 ?k3 ?k4 ?k5 ?k6 ?k7 ?k8 ?_) | (with_reducible refine' TellT0.use (ref_kvstr1 _ _ _ _ _) ?k1 ?k2 ?k3 ?k4 ?k5 ?k6 ?k7 ?k8 ?_) | (with_reducible refine' TellT0.use (ref_kvstr2 _ _ _ _ _ _ (by walk_at "jx k0")) ?k1 ?k2 ?k3 ?k4 ?k5 ?k6 ?k7 ?k8 ?_) | (with_reducible refine' TellT0.use (ref_kvbad2 _ _ _ _ _ _ (by walk_at "jx k0") (by walk_at "jx bad") (by walk_at "jx len")) ?k1 ?k2 ?k3 ?k4 ?k5 ?k6 ?k7 ?k8 ?_) | (with_reducible refine' TellT0.use (ref_brstr1 _ _ _ _ _) ?k1 ?k2 ?k3 ?k4 ?k5 ?k6 ?k7 ?k8 ?_) | (with_reducible refine' TellT0.use (ref_brstr2 _ _ _ _ _ _ (by with_reducible assumption)) ?k1 ?k2 ?k3 ?k4 ?k5 ?k6 ?k7 ?k8 ?_) | (with_reducible refine' TellT0.use (ref_brbad2 _ _ _ _ _ _ (by with_reducible assumption) (by walk_at "jx bad") (by walk_at "jx len")) ?k1 ?k2 ?k3 ?k4 ?k5 ?k6 ?k7 ?k8 ?_) | (with_reducible refine' TellT0.use (ref_brbad1 _ _ _ _ _ (by walk_at "jx bad") (by walk_at "jx len")) ?k1 ?k2 ?k3 ?k4 ?k5 ?k6 ?k7 ?k8 ?_) | (with_reducible refine' TellT0.use (ref_lfstr _ _ _ _ _) ?k1 ?k2 ?k3 ?k4 ?k5 ?k6 ?k7 ?k8 ?_) | (with_reducible refine' TellT0.use (ref_lfnil _ _ _ _) ?k1 ?k2 ?k3 ?k4 ?k5 ?k6 ?k7 ?k8 ?_)))
  (k_with "jx bad" => first | omega | (simp only [List.length_append, List.length_cons, List.length_nil]; omega))
  (k_with "call ref" => (k_here; (with_reducible show wpAny _ _ (call (Value.ref 252) [_, _, _]) _ _ _); walk_at "jx ref"; walk_at "jx asks"; walk_at "jx r4"))
  exact trivial
local macro_rules | `(tactic| passes_own) => `(tactic| with_reducible assumption)
theorem ch8 {w : World} {g : Heap} {L : Addr} {mean : ExcName → Option Value} {mg mb : Str → Option Value} {dp un : Nat} {gd : Option (List Code)} {s : Shared} {ps : Array Value} {m : Str → Option Value} {rest : List Stmt} {Q : Flow → Shared → Prop} {E : Value → Shared → Prop} (T : ctxTop mean mg mb g) (X : (kfrag w.params).In g) (hL : @LT.lt Nat _ 118 L) (hd : dp + 40 < recursionLimit) (hu : un + 8 * 40 < cLine) (t : TriplesOk ps.toList) {short child : List UInt8} {ts tc : Tok} {oO oR : Obj}
    (hE : PassesOwn (model rw_.prog w) (ktrTop dp un gd (Str.ofString "law") fnS42 L 262 (.ref 261) (lawCl L) []) (lawEnv L) E) (hs : short.length ≤ 31) (hc : child.length = 32) (hm : m (Str.ofString "child") = some (.bytes child.toArray tc)) (hm2 : m (Str.ofString "short") = some (.bytes short.toArray ts)) (F : Fr g L s.heap m) (N : News g L s.heap [(118, tabObj ps), (L + 1 + 1, oO), (L + 1, oR)])
    (cont : ∀ m' h' g' tk', m' (Str.ofString "child") = some (.bytes child.toArray tc) → Fr g L h' m' → News g L h' [(118, tabObj ps), (L + 1 + 1, oO), (L + 1, oR)] → GG s.gens g' →
      wpAny (model rw_.prog w) (ktrTop dp un gd (Str.ofString "law") fnS42 L 262 (.ref 261) (lawCl L) []) (execs rest (lawEnv L)) Q E { s with heap := h', gens := g', toks := tk' }) :
    wpAny (model rw_.prog w) (ktrTop dp un gd (Str.ofString "law") fnS42 L 262 (.ref 261) (lawCl L) []) (execs (st15 :: rest) (lawEnv L)) Q E s := by
  refine (show (kfrag = kfrag → _) → _ from fun hh => hh rfl) ?_
  k_fill
  w_on
  intro _
  have B := below_caller g
  dsimp only [st15]
  k_steps
  all_goals (refine' cont _ _ _ _ ?cm ?cF ?cN ?cG; (case cF => with_reducible assumption); (case cm => walk_at "jx var"); (case cN => walk_at "jx drop"); (case cG => walk_at "jx gg"))
end
-- JxLw9
section
theorem jxLw9_rows1 : True := by
  k_with_none
  (k_with "jx gg" => first | exact GG.refl _ | assumption | (refine GG.trans ?_ (by assumption); walk_at "jx gg"))
  (k_with "jx asks" => ((case k1 => k_asm); (case k2 => k_asm); (case k3 => k_asm); (case k4 => k_asm); (case k5 => k_asm); (case k6 => first | exact rfl | assumption); (case k7 => ktr_room); (case k8 => ktr_units)))
  (k_with "jx ne" => first | assumption | exact List.forall_mem_nil _ | (refine List.forall_mem_cons.mpr ⟨(by first | assumption | exact fun p9 z9 => absurd (congrArg Obj.cls z9) (by intro y9; cases y9) | exact notTab_cell (by assumption)), ?_⟩; walk_at "jx ne"))
  (k_with "jx backP" => (intro v9 ps9 h9 g9 tk9 R9 t9P F9 N9 G9; (first | (obtain ⟨t9, e9⟩ := R9; subst e9) | subst R9); (try dsimp only); (try k_sweep); (try k_fold)))
  (k_with "jx back" => (intro v9 h9 g9 tk9 R9 F9 N9 G9; (first | (obtain ⟨t9, e9⟩ := R9; subst e9) | subst R9); (try dsimp only); (try k_sweep); (try k_fold)))
  (k_with "jx back0" => (intro v9 h9 tk9 R9 F9 N9; (first | (obtain ⟨t9, e9⟩ := R9; subst e9) | subst R9); (try dsimp only); (try k_sweep); (try k_fold)))
  (k_with "jx dive" => skip)
  (k_with "jx fly0" => (intro e9 t9 xs9 h19 h9 tk9 F9 U9 R9; (try dsimp only); walk_at "jx dive"; (try k_fold)))
  (k_with "jx flyN" => (intro e9 h19 h9 g9 tk9 F9 U9 R9 G9; (try dsimp only); walk_at "jx diveN"; (try k_fold)))
  (k_with "jx diveN" => skip)
  (k_with "jx fly" => (intro e9 t9 xs9 h19 h9 g9 tk9 F9 U9 R9 G9; (try dsimp only); walk_at "jx dive"; (try k_fold)))
  (k_with "jx dec" => first | assumption | decide | (simp only [List.size_toArray, List.length_append, List.length_cons, List.length_nil, bne_iff_ne, ne_eq, beq_iff_eq, Bool.not_eq_true, Decidable.not_not, decide_eq_true_eq, decide_eq_false_iff_not, Bool.not_true, Bool.not_false, reduceCtorEq, not_false_eq_true, not_true_eq_false]; done) | (simp only [List.size_toArray, List.length_append, List.length_cons, List.length_nil, bne_iff_ne, ne_eq, beq_iff_eq, Bool.not_eq_true, Decidable.not_not, decide_eq_true_eq, decide_eq_false_iff_not]; omega))
  (k_with "ite" => (k_here; first | rw [if_pos (by walk_at "jx dec")] | rw [if_neg (by walk_at "jx dec")]))
  exact trivial
theorem jxLw9_rows2 : True := by
  (k_with "jx cut" => with_reducible first | exact cutL_from _ _ | exact cutL_to _ _ | exact cutL_mid _ _ _ | exact cutL_last _ _ (by decide) | exact cutL_but _ _ _ (by decide) | exact cut_all _ | exact cut_from _ _ | exact cut_to _ _ | exact cut_mid _ _ _)
  (k_with "jx len" => first | omega | (simp only [List.length_append, List.length_cons, List.length_nil, List.length_take, List.length_drop, List.length_replicate, List.length_map, List.length_reverse]; omega))
  (k_with "binaryOp Add bytes bytes" => (k_here; (with_reducible show wpAny _ _ (binaryOp Operator.Add (Value.bytes (List.toArray _) _) (Value.bytes (List.toArray _) _)) _ _ _); (refine jb_add (by walk_at "jx len") ?_); intro _ _))
  (k_with "call builtin:len" => (k_here; (with_reducible show wpAny _ _ (call (Value.builtin "len") [Value.bytes (List.toArray _) _]) _ _ _); (refine jb_len (by walk_at "jx len") ?_); intro _ _))
  (k_with "compareOp Eq bytes bytes" => refine jb_eq ?_)
  (k_with "compareOp NotEq bytes bytes" => refine jb_ne ?_)
  (k_with "subscriptTail" => (k_here; (with_reducible show wpAny _ _ (subscriptTail _ (Expr.Slice _ _ none _) (Value.bytes (List.toArray _) _) (Value.ref _)) _ _ _); (with_reducible rename Fr _ _ _ _ => F'); (with_reducible rename News _ _ _ _ => N'); (refine jb_slice (s := ⟨_, _, _, _, _⟩) F' N' (by constructor) (by constructor) (by walk_at "jx len") (by walk_at "jx cut") ?_); intro _ _ _ _ _))
  (k_with "subscriptTail" => (k_here; (with_reducible show wpAny _ _ (subscriptTail _ _ (Value.bytes (List.toArray _) _) (Value.int _ _)) _ _ _); (refine KBy.item_N (by walk_at "jx len") (by walk_at "jx len") (by walk_at "jx len") ?_)))
  (k_with "eval Constant int" => (k_here; refine wpAny_Constant_int ?_; (try dsimp only)))
  (k_with "jx var" => first | with_reducible assumption | (refine (if_neg (by decide +kernel)).trans ?_; walk_at "jx var") | exact if_pos rfl)
  (k_with "eval Name" => (k_here; (refine' nameX_L ?F ?v ?_ ?a ?b; (case F => k_asm); (case a => rfl); (case b => rfl); (case v => walk_at "jx var"); k_whole)))
  (k_with "jx drop" => first | (with_reducible assumption) | ((with_reducible rename News _ _ _ _ => nn9); exact fun q9 hq9 => nn9 q9 (by repeat' (first | exact hq9 | apply List.Mem.tail))))
  (k_with "jx tm" => first | exact List.Mem.head _ | (refine List.Mem.tail _ ?_; walk_at "jx tm"))
  (k_with "jx eqa" => first | (with_reducible exact eqAt_bytes _ _ _ _) | (with_reducible exact eqAt_int _ _ _ _) | (with_reducible exact PySem.SeqAt.EqAt.same _))
  (k_with "compareOp NotEq ref ref" => (k_here; (with_reducible show wpAny _ _ (compareOp CmpOp.NotEq (Value.ref _) (Value.ref _)) _ _ _); (with_reducible rename News _ _ _ _ => nn9); (with_reducible refine' ne_tup nn9 ?ha ?hb ?e1 ?e2 ?e3 ?hu ?_); (case ha => k_dflt (walk_at "jx tm")); (case hb => k_dflt (walk_at "jx tm")); (case e1 => walk_at "jx eqa"); (case e2 => walk_at "jx eqa"); (case e3 => walk_at "jx eqa"); (case hu => k_dflt ((try dsimp only); omega))))
  (k_with "compareOp Eq ref ref" => (k_here; (with_reducible show wpAny _ _ (compareOp CmpOp.Eq (Value.ref _) (Value.ref _)) _ _ _); (with_reducible rename News _ _ _ _ => nn9); (with_reducible refine' eq_tup nn9 ?ha ?hb ?e1 ?e2 ?e3 ?hu ?_); (case ha => k_dflt (walk_at "jx tm")); (case hb => k_dflt (walk_at "jx tm")); (case e1 => walk_at "jx eqa"); (case e2 => walk_at "jx eqa"); (case e3 => walk_at "jx eqa"); (case hu => k_dflt ((try dsimp only); omega))))
  (k_with "jx p4" => (intro r9 t7 t8 t9 h9 g9 tk9 F9 N9 G9; (try dsimp only); (try k_sweep); (try k_fold)))
  (k_with "call ref" => (k_here; (with_reducible show wpAny _ _ (call (Value.ref 170) [Value.bytes (List.toArray (1 :: (_ ++ _))) _]) _ _ _); (refine' parse_br_use ?x1 ?x2 ?k1 ?k2 ?k3 ?k4 ?k5 ?k6 ?k7 ?k8 ?_; (case x1 => with_reducible assumption); (case x2 => with_reducible assumption); walk_at "jx asks"); walk_at "jx p4"))
  (k_with "call ref" => (k_here; (with_reducible show wpAny _ _ (call (Value.ref 170) [Value.bytes (List.toArray (0 :: (enc _ ++ _))) _]) _ _ _); (refine' parse_kv_use ?x1 ?x2 ?x3 ?k1 ?k2 ?k3 ?k4 ?k5 ?k6 ?k7 ?k8 ?_; (case x1 => with_reducible assumption); (case x2 => omega); (case x3 => with_reducible assumption); walk_at "jx asks"); walk_at "jx p4"))
  (k_with "call ref" => (k_here; (with_reducible show wpAny _ _ (call (Value.ref 170) [Value.bytes (List.toArray (2 :: _)) _]) _ _ _); (refine' parse_leaf_use ?x1 ?x2 ?k1 ?k2 ?k3 ?k4 ?k5 ?k6 ?k7 ?k8 ?_; (case x1 => walk_at "jx nil"); (case x2 => omega); walk_at "jx asks"); (intro r9 t7 t9 h9 g9 tk9 F9 N9 G9; (try dsimp only); (try k_sweep); (try k_fold))))
  exact trivial
theorem jxLw9_rows3 : True := by
  (k_with "jx dec" => first | (with_reducible exact ne_off rfl) | (k_dflt (exact ne_off rfl)))
  (k_with "jx k0" => with_reducible assumption)
  (k_with "jx r4" => (intro v9 h9 tk9 R9 F9 N9; subst R9; (try dsimp only); (try k_sweep); (try k_fold)))
  (k_with "jx ref" => (first | (with_reducible refine' TellT0.use (ref_kvnil _ _ _ _) ?k1 ?k2 ?k3 ?k4 ?k5 ?k6 ?k7 ?k8 ?_) | (with_reducible refine' TellT0.use (ref_kvstr1 _ _ _ _ _) ?k1 ?k2 ?k3 ?k4 ?k5 ?k6 ?k7 ?k8 ?_) | (with_reducible refine' TellT0.use (ref_kvstr2 _ _ _ _ _ _ (by walk_at "jx k0")) ?k1 ?k2 ?k3 ?k4 ?k5 ?k6 ?k7 ?k8 ?_) | (with_reducible refine' TellT0.use (ref_kvbad2 _ _ _ _ _ _ (by walk_at "jx k0") (by walk_at "jx bad") (by walk_at "jx len")) ?k1 ?k2 ?k3 ?k4 ?k5 ?k6 ?k7 ?k8 ?_) | (with_reducible refine' TellT0.use (ref_brstr1 _ _ _ _ _) ?k1 ?k2 ?k3 ?k4 ?k5 ?k6 ?k7 ?k8 ?_) | (with_reducible refine' TellT0.use (ref_brstr2 _ _ _ _ _ _ (by with_reducible assumption)) ?k1 ?k2 ?k3 ?k4 ?k5 ?k6 ?k7 ?k8 ?_) | (with_reducible refine' TellT0.use (ref_brbad2 _ _ _ _ _ _ (by with_reducible assumption) (by walk_at "jx bad") (by walk_at "jx len")) ?k1 ?k2 ?k3 ?k4 ?k5 ?k6 ?k7 ?k8 ?_) | (with_reducible refine' TellT0.use (ref_brbad1 _ _ _ _ _ (by walk_at "jx bad") (by walk_at "jx len")) ?k1 ?k2 ?k3 ?k4 ?k5 ?k6 ?k7 ?k8 ?_) | (with_reducible refine' TellT0.use (ref_lfstr _ _ _ _ _) ?k1 ?k2 ?k3 ?k4 ?k5 ?k6 ?k7 ?k8 ?_) | (with_reducible refine' TellT0.use (ref_lfnil _ _ _ _) ?k1 ?k2 ?k3 ?k4 ?k5 ?k6 ?k7 ?k8 ?_)))
  (k_with "jx bad" => first | omega | (simp only [List.length_append, List.length_cons, List.length_nil]; omega))
  (k_with "call ref" => (k_here; (with_reducible show wpAny _ _ (call (Value.ref 252) [_, _, _]) _ _ _); walk_at "jx ref"; walk_at "jx asks"; walk_at "jx r4"))
  exact trivial
theorem nil_ne {o : List UInt8} (h : (o == []) = false) : o ≠ [] := fun e => by rw [e] at h; cases h
theorem nil_ne2 {o : List UInt8} (h : (o == []) = false) : ¬ (o == []) = true := by rw [h]; exact Bool.false_ne_true
theorem jxLw9_rows4 : True := by
  (k_with "jx nil" => first | (with_reducible assumption) | exact nil_ne (by with_reducible assumption))
  (k_with "call ref" => (k_here; (with_reducible show wpAny _ _ (call (Value.ref 191) [Value.bytes (List.toArray _) _]) _ _ _); (refine' Tell.use (leaf_ok _ _ _ (nil_ne2 (by with_reducible assumption)) (by omega)) ?k1 ?k2 ?k3 ?k4 ?k5 ?k6 ?k7 ?k8 ?_; walk_at "jx asks"); walk_at "jx back"))
  exact trivial
theorem ch9 {w : World} {g : Heap} {L : Addr} {mean : ExcName → Option Value} {mg mb : Str → Option Value} {dp un : Nat} {gd : Option (List Code)} {s : Shared} {ps : Array Value} {m : Str → Option Value} {rest : List Stmt} {Q : Flow → Shared → Prop} {E : Value → Shared → Prop} (T : ctxTop mean mg mb g) (X : (kfrag w.params).In g) (hL : @LT.lt Nat _ 118 L) (hd : dp + 40 < recursionLimit) (hu : un + 8 * 40 < cLine) (t : TriplesOk ps.toList) {o child : List UInt8} {tO tc : Tok} {oO oR : Obj}
    (hz : o.length ≤ 90) (hc : child.length = 32) (hm : m (Str.ofString "child") = some (.bytes child.toArray tc)) (F : Fr g L s.heap m) (N : News g L s.heap [(118, tabObj ps), (L + 1 + 1, oO), (L + 1, oR)]) (dO : oO.data = .cell (some (.bytes o.toArray tO)))
    (fin : LawEnd g L Q s) : wpAny (model rw_.prog w) (ktrTop dp un gd (Str.ofString "law") fnS42 L 262 (.ref 261) (lawCl L) []) (execs (st16 :: st17 :: []) (lawEnv L)) Q E s := by
  refine (show (kfrag = kfrag → _) → _ from fun hh => hh rfl) ?_
  k_fill
  w_on
  intro _
  have B := below_caller g
  dsimp only [st16, st17]
  k_steps
  all_goals first
    | (exfalso; (with_reducible rename (_ == _) = false => e9); exact absurd e9 (by rw [show (2 :: o == [2] ++ o) = true from beq_self_eq_true (2 :: o)]; exact Bool.noConfusion))
    | (refine' fin _ _ _ _ _ ?cF ?cE ?cG; (case cF => with_reducible assumption); (case cE => ((with_reducible rename News _ _ _ _ => nn9); exact (nn9 (118, tabObj _) (by walk_at "jx tm")).1)); (case cG => walk_at "jx gg"))
    | ((with_reducible rename (o == []) = true => e9); rw [e9]; refine' fin _ _ _ _ _ ?cF ?cE ?cG; (case cF => with_reducible assumption); (case cE => ((with_reducible rename News _ _ _ _ => nn9); exact (nn9 (118, tabObj _) (by walk_at "jx tm")).1)); (case cG => walk_at "jx gg"))
end
-- JxLaw
section
theorem jxLaw_rows1 : True := by
  k_with_none
  (k_with "jx gg" => first | exact GG.refl _ | assumption | (refine GG.trans ?_ (by assumption); walk_at "jx gg"))
  (k_with "jx asks" => ((case k1 => k_asm); (case k2 => k_asm); (case k3 => k_asm); (case k4 => k_asm); (case k5 => k_asm); (case k6 => first | exact rfl | assumption); (case k7 => ktr_room); (case k8 => ktr_units)))
  (k_with "jx ne" => first | assumption | exact List.forall_mem_nil _ | (refine List.forall_mem_cons.mpr ⟨(by first | assumption | exact fun p9 z9 => absurd (congrArg Obj.cls z9) (by intro y9; cases y9) | exact notTab_cell (by assumption)), ?_⟩; walk_at "jx ne"))
  (k_with "jx backP" => (intro v9 ps9 h9 g9 tk9 R9 t9P F9 N9 G9; (first | (obtain ⟨t9, e9⟩ := R9; subst e9) | subst R9); (try dsimp only); (try k_sweep); (try k_fold)))
  (k_with "jx back" => (intro v9 h9 g9 tk9 R9 F9 N9 G9; (first | (obtain ⟨t9, e9⟩ := R9; subst e9) | subst R9); (try dsimp only); (try k_sweep); (try k_fold)))
  (k_with "jx back0" => (intro v9 h9 tk9 R9 F9 N9; (first | (obtain ⟨t9, e9⟩ := R9; subst e9) | subst R9); (try dsimp only); (try k_sweep); (try k_fold)))
  (k_with "jx dive" => skip)
  (k_with "jx fly0" => (intro e9 t9 xs9 h19 h9 tk9 F9 U9 R9; (try dsimp only); walk_at "jx dive"; (try k_fold)))
  (k_with "jx flyN" => (intro e9 h19 h9 g9 tk9 F9 U9 R9 G9; (try dsimp only); walk_at "jx diveN"; (try k_fold)))
  (k_with "jx diveN" => skip)
  (k_with "jx fly" => (intro e9 t9 xs9 h19 h9 g9 tk9 F9 U9 R9 G9; (try dsimp only); walk_at "jx dive"; (try k_fold)))
  (k_with "jx dec" => first | assumption | decide | (simp only [List.size_toArray, List.length_append, List.length_cons, List.length_nil, bne_iff_ne, ne_eq, beq_iff_eq, Bool.not_eq_true, Decidable.not_not, decide_eq_true_eq, decide_eq_false_iff_not, Bool.not_true, Bool.not_false, reduceCtorEq, not_false_eq_true, not_true_eq_false]; done) | (simp only [List.size_toArray, List.length_append, List.length_cons, List.length_nil, bne_iff_ne, ne_eq, beq_iff_eq, Bool.not_eq_true, Decidable.not_not, decide_eq_true_eq, decide_eq_false_iff_not]; omega))
  (k_with "ite" => (k_here; first | rw [if_pos (by walk_at "jx dec")] | rw [if_neg (by walk_at "jx dec")]))
  exact trivial
theorem env_is (L : Addr) : envOfC (Str.ofString "law") fnS42 L 262 (.ref 261) = lawEnv L := by kernel_rfl
theorem around_is (L : Addr) : ∃ dp un gd, callerA.deeper (lawEnv L) = ktrTop dp un gd (Str.ofString "law") fnS42 L 262 (.ref 261) (lawCl L) [] ∧ dp + 40 < recursionLimit ∧ un + 8 * 40 < cLine :=
  ⟨_, _, _, rfl, by decide, by show _ < cLine; rw [cLine_is]; decide⟩
theorem var_off {m : Str → Option Value} {x y : Str} {u v : Option Value} (h : x ≠ y) (e : m x = v) : (fun z => if z = y then u else m z) x = v := (if_neg h).trans e
theorem hid_list {h : Heap} {l : Addr} {items : Array Value} (h118 : h.get? 118 = some (tabObj #[])) (hl : h.IsList l items) : (hid h).IsList l items := by
  obtain ⟨o, e, c, r⟩ := hl
  refine ⟨o, hid_get (fun z => ?_) e, c, r⟩
  rw [z, h118] at e
  cases e
  cases c
theorem law_run (w : World) (s₁ : Shared) (mg mb : Str → Option Value) (mean : ExcName → Option Value) (T : Top qv (looseW qv looseN) mean mg mb s₁.heap) (X : (kfrag w.params).In s₁.heap) (h118 : s₁.heap.get? 118 = some (tabObj #[]))
    {l : Addr} {vs : List Value} {ns : List Int} (hl : s₁.heap.IsList l vs.toArray) (hi : IntsAre vs ns) (hz : ns.length ≤ 63) :
    wpAny (model rw_.prog w) callerA (call (.ref 262) [.ref l]) (fun v s' => v = .bool true ∧ Grow s₁ s') (fun _ _ => False) s₁ := by
  have T' := top_hid T h118
  have X' := kin_hid X
  have hL : @LT.lt Nat _ 118 s₁.heap.objs.size := Heap.lt_size h118
  have hl' := hid_list h118 hl
  refine wpAny_call (law_in w s₁ mg mb mean T X h118 hl hi hz fun h₁ tk oR oO F N dR dO => ?_)
  rw [law_body, env_is]
  rw [env_is] at F
  obtain ⟨dp, un, gd, ar, hd, hu⟩ := around_is s₁.heap.objs.size
  rw [ar]
  have nO := notTab_cell dO
  have hm : bindL (lawEnv s₁.heap.objs.size).kindOf [(Str.ofString "script", Value.ref l)] (fun _ => none) (Str.ofString "script") = some (.ref l) := rfl
  dsimp only
  refine ch0 (ps := #[]) T' X' hL hd hu (show TriplesOk (#[] : Array Value).toList from trivial) hl' hi hz hm F N dR fun row oR tr h1 g1 tk1 hb hr dR F1 N1 G1 => ?_
  refine ch1 (ps := #[]) T' X' hL hd hu (show TriplesOk (#[] : Array Value).toList from trivial) hb hr F1 N1 dR nO fun ps2 tt h2 g2 tk2 t2 F2 N2 G2 => ?_
  have hm2 := var_off (x := Str.ofString "script") (y := Str.ofString "told") (u := some (.bytes (enc row).toArray tt)) (by decide +kernel) hm
  refine ch2 T' X' hL hd hu t2 hl' hi hz hm2 F2 N2 dR dO fun o oO tO h3 g3 tk3 ho dO F3 N3 G3 => ?_
  have nO := notTab_cell dO
  refine ch3 T' X' hL hd hu t2 ho F3 N3 dR dO fun ps4 v4 h4 g4 tk4 t4 F4 N4 G4 => ?_
  refine ch4 T' X' hL hd hu t4 hb hr F4 N4 dR nO fun ps5 h5 g5 tk5 t5 F5 N5 G5 => ?_
  refine ch5 (row := row) (tr := tr) T' X' hL hd hu t5 ho F5 N5 dO fun h6 g6 tk6 F6 N6 G6 => ?_
  have hm6 : (fun y => if y = Str.ofString "bits" then some v4 else (fun y => if y = Str.ofString "told" then some (Value.bytes (enc row).toArray tt) else bindL (lawEnv s₁.heap.objs.size).kindOf [(Str.ofString "script", Value.ref l)] (fun _ => none) y) y) (Str.ofString "told") = some (.bytes (enc row).toArray tt) := by
    show (if Str.ofString "told" = Str.ofString "bits" then some v4 else (if Str.ofString "told" = Str.ofString "told" then some (Value.bytes (enc row).toArray tt) else _)) = _
    rw [if_neg (by decide +kernel), if_pos rfl]
  refine ch6 T' X' hL hd hu t5 (by passes_own) ho hb hr hm6 F6 N6 dO dR fun ps7 child short tc ts m7 h7 g7 tk7 t7 hc hs hmc hms F7 N7 G7 => ?_
  refine ch7 T' X' hL hd hu t7 ho hc hmc F7 N7 dO fun v8 h8 g8 tk8 F8 N8 G8 => ?_
  have hmc8 := var_off (x := Str.ofString "child") (y := Str.ofString "both") (u := some v8) (by decide +kernel) hmc
  have hms8 := var_off (x := Str.ofString "short") (y := Str.ofString "both") (u := some v8) (by decide +kernel) hms
  refine ch8 (m := fun y => if y = Str.ofString "both" then some v8 else m7 y) T' X' hL hd hu t7 (by passes_own) hs hc hmc8 hms8 F8 N8 fun m9 h9 g9 tk9 hmc9 F9 N9 G9 => ?_
  refine ch9 (rest := []) T' X' hL hd hu t7 ho hc hmc9 F9 N9 dO ?_
  intro ps' h' g' tk' m' F' e G
  refine ⟨rfl, ⟨fun b ob hb e => F'.keep b ob (hid_get hb e), ⟨ps', e⟩, rfl, ?_⟩⟩
  exact G1.trans (G2.trans (G3.trans (G4.trans (G5.trans (G6.trans (G7.trans (G8.trans (G9.trans G))))))))
theorem walk : WalkM := by
  intro w s₀ s₁ mg mb T X h118 hfin args vals as hpre hlay hrd hwl hlo
  wrow_args hpre hlay hrd hwl hlo
  rename Heap.IsList _ _ _ => hl
  rename IntsAre _ _ => hi
  rename ¬ _ < _ => hz'
  exact law_run w s₁ mg mb _ T X h118 hl hi (Nat.le_of_not_lt fun z => hz' (Int.ofNat_lt.mpr z))
theorem law_is_right : rw_.Holds := law_holds walk
end
end Jx
theorem PySem.Challenge.cw_jx0031_01_holds : PySem.Challenge.rw_jx0031_01.Holds := by
  exact Jx.law_is_right
