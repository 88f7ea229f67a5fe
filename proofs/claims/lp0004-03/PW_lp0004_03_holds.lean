import PyProof.Rows.All
import Wide.All
import OpenK.AllK
import Wide.FinOn
import PySem.Challenge.RW_lp0004_03
open PySem PySem.W PyProof.Rows
set_option Elab.async false
set_option maxRecDepth 100000
set_option maxHeartbeats 8000000
namespace Mine

abbrev pw : Program := PySem.Challenge.pw_lp0004_03
noncomputable def stmtAt (l : List Stmt) (n : Nat) : Stmt := l.getD n (.Pass default)
noncomputable def clsBody : Stmt → List Stmt
  | .ClassDef _ _ _ b _ _ _ _ _ _ _ => b
  | _ => []
noncomputable def defBody : Stmt → List Stmt
  | .FunctionDef _ _ b _ _ _ _ _ _ _ => b
  | _ => []
noncomputable def defArgs : Stmt → Arguments
  | .FunctionDef _ a _ _ _ _ _ _ _ _ => a
  | _ => default
noncomputable def defScope : Stmt → Scope
  | .FunctionDef _ _ _ _ _ _ s _ _ _ => s
  | _ => default
@[reducible] noncomputable def CellId_body : {x : List Stmt // clsBody (stmtAt pw.main.body 3) = x} := by refine ⟨?x, ?h⟩; case h => conv => lhs; whnf
@[reducible] noncomputable def CellUnion_body : {x : List Stmt // clsBody (stmtAt pw.main.body 4) = x} := by refine ⟨?x, ?h⟩; case h => conv => lhs; whnf
@[reducible] noncomputable def st0 : {x : Stmt // stmtAt pw.main.body 0 = x} := by refine ⟨?x, ?h⟩; case h => conv => lhs; whnf
@[reducible] noncomputable def st1 : {x : Stmt // stmtAt pw.main.body 1 = x} := by refine ⟨?x, ?h⟩; case h => conv => lhs; whnf
@[reducible] noncomputable def st2 : {x : Stmt // stmtAt pw.main.body 2 = x} := by refine ⟨?x, ?h⟩; case h => conv => lhs; whnf
@[reducible] noncomputable def st5 : {x : Stmt // stmtAt pw.main.body 5 = x} := by refine ⟨?x, ?h⟩; case h => conv => lhs; whnf
@[reducible] noncomputable def st6 : {x : Stmt // stmtAt pw.main.body 6 = x} := by refine ⟨?x, ?h⟩; case h => conv => lhs; whnf
@[reducible] noncomputable def st7 : {x : Stmt // stmtAt pw.main.body 7 = x} := by refine ⟨?x, ?h⟩; case h => conv => lhs; whnf
@[reducible] noncomputable def st8 : {x : Stmt // stmtAt pw.main.body 8 = x} := by refine ⟨?x, ?h⟩; case h => conv => lhs; whnf
@[reducible] noncomputable def q : Program := { pw with main := { pw.main with body := [st0.1, st1.1, st2.1, st5.1, st6.1, st7.1, st8.1] } }
-- K BEGIN
@[reducible] noncomputable def CellId__init_a : {x : Arguments // defArgs (stmtAt CellId_body.1 10) = x} := by refine ⟨?x, ?h⟩; case h => conv => lhs; whnf
@[reducible] noncomputable def CellId__init_b : {x : (List Stmt) // defBody (stmtAt CellId_body.1 10) = x} := by refine ⟨?x, ?h⟩; case h => conv => lhs; whnf
@[reducible] noncomputable def CellId__init_s : {x : Scope // defScope (stmtAt CellId_body.1 10) = x} := by refine ⟨?x, ?h⟩; case h => conv => lhs; whnf
@[reducible] noncomputable def CellId__eq_a : {x : Arguments // defArgs (stmtAt CellId_body.1 13) = x} := by refine ⟨?x, ?h⟩; case h => conv => lhs; whnf
@[reducible] noncomputable def CellId__eq_b : {x : (List Stmt) // defBody (stmtAt CellId_body.1 13) = x} := by refine ⟨?x, ?h⟩; case h => conv => lhs; whnf
@[reducible] noncomputable def CellId__eq_s : {x : Scope // defScope (stmtAt CellId_body.1 13) = x} := by refine ⟨?x, ?h⟩; case h => conv => lhs; whnf
@[reducible] noncomputable def CellId__ne_a : {x : Arguments // defArgs (stmtAt CellId_body.1 14) = x} := by refine ⟨?x, ?h⟩; case h => conv => lhs; whnf
@[reducible] noncomputable def CellId__ne_b : {x : (List Stmt) // defBody (stmtAt CellId_body.1 14) = x} := by refine ⟨?x, ?h⟩; case h => conv => lhs; whnf
@[reducible] noncomputable def CellId__ne_s : {x : Scope // defScope (stmtAt CellId_body.1 14) = x} := by refine ⟨?x, ?h⟩; case h => conv => lhs; whnf
@[reducible] noncomputable def CellId_lsb_for_level_a : {x : Arguments // defArgs (stmtAt CellId_body.1 24) = x} := by refine ⟨?x, ?h⟩; case h => conv => lhs; whnf
@[reducible] noncomputable def CellId_lsb_for_level_b : {x : (List Stmt) // defBody (stmtAt CellId_body.1 24) = x} := by refine ⟨?x, ?h⟩; case h => conv => lhs; whnf
@[reducible] noncomputable def CellId_lsb_for_level_s : {x : Scope // defScope (stmtAt CellId_body.1 24) = x} := by refine ⟨?x, ?h⟩; case h => conv => lhs; whnf
@[reducible] noncomputable def CellId_id_a : {x : Arguments // defArgs (stmtAt CellId_body.1 30) = x} := by refine ⟨?x, ?h⟩; case h => conv => lhs; whnf
@[reducible] noncomputable def CellId_id_b : {x : (List Stmt) // defBody (stmtAt CellId_body.1 30) = x} := by refine ⟨?x, ?h⟩; case h => conv => lhs; whnf
@[reducible] noncomputable def CellId_id_s : {x : Scope // defScope (stmtAt CellId_body.1 30) = x} := by refine ⟨?x, ?h⟩; case h => conv => lhs; whnf
@[reducible] noncomputable def CellId_is_valid_a : {x : Arguments // defArgs (stmtAt CellId_body.1 31) = x} := by refine ⟨?x, ?h⟩; case h => conv => lhs; whnf
@[reducible] noncomputable def CellId_is_valid_b : {x : (List Stmt) // defBody (stmtAt CellId_body.1 31) = x} := by refine ⟨?x, ?h⟩; case h => conv => lhs; whnf
@[reducible] noncomputable def CellId_is_valid_s : {x : Scope // defScope (stmtAt CellId_body.1 31) = x} := by refine ⟨?x, ?h⟩; case h => conv => lhs; whnf
@[reducible] noncomputable def CellId_lsb_a : {x : Arguments // defArgs (stmtAt CellId_body.1 32) = x} := by refine ⟨?x, ?h⟩; case h => conv => lhs; whnf
@[reducible] noncomputable def CellId_lsb_b : {x : (List Stmt) // defBody (stmtAt CellId_body.1 32) = x} := by refine ⟨?x, ?h⟩; case h => conv => lhs; whnf
@[reducible] noncomputable def CellId_lsb_s : {x : Scope // defScope (stmtAt CellId_body.1 32) = x} := by refine ⟨?x, ?h⟩; case h => conv => lhs; whnf
@[reducible] noncomputable def CellId_face_a : {x : Arguments // defArgs (stmtAt CellId_body.1 33) = x} := by refine ⟨?x, ?h⟩; case h => conv => lhs; whnf
@[reducible] noncomputable def CellId_face_b : {x : (List Stmt) // defBody (stmtAt CellId_body.1 33) = x} := by refine ⟨?x, ?h⟩; case h => conv => lhs; whnf
@[reducible] noncomputable def CellId_face_s : {x : Scope // defScope (stmtAt CellId_body.1 33) = x} := by refine ⟨?x, ?h⟩; case h => conv => lhs; whnf
@[reducible] noncomputable def CellId_is_leaf_a : {x : Arguments // defArgs (stmtAt CellId_body.1 35) = x} := by refine ⟨?x, ?h⟩; case h => conv => lhs; whnf
@[reducible] noncomputable def CellId_is_leaf_b : {x : (List Stmt) // defBody (stmtAt CellId_body.1 35) = x} := by refine ⟨?x, ?h⟩; case h => conv => lhs; whnf
@[reducible] noncomputable def CellId_is_leaf_s : {x : Scope // defScope (stmtAt CellId_body.1 35) = x} := by refine ⟨?x, ?h⟩; case h => conv => lhs; whnf
@[reducible] noncomputable def CellId_level_a : {x : Arguments // defArgs (stmtAt CellId_body.1 36) = x} := by refine ⟨?x, ?h⟩; case h => conv => lhs; whnf
@[reducible] noncomputable def CellId_level_b : {x : (List Stmt) // defBody (stmtAt CellId_body.1 36) = x} := by refine ⟨?x, ?h⟩; case h => conv => lhs; whnf
@[reducible] noncomputable def CellId_level_s : {x : Scope // defScope (stmtAt CellId_body.1 36) = x} := by refine ⟨?x, ?h⟩; case h => conv => lhs; whnf
@[reducible] noncomputable def CellId_child_begin_a : {x : Arguments // defArgs (stmtAt CellId_body.1 37) = x} := by refine ⟨?x, ?h⟩; case h => conv => lhs; whnf
@[reducible] noncomputable def CellId_child_begin_b : {x : (List Stmt) // defBody (stmtAt CellId_body.1 37) = x} := by refine ⟨?x, ?h⟩; case h => conv => lhs; whnf
@[reducible] noncomputable def CellId_child_begin_s : {x : Scope // defScope (stmtAt CellId_body.1 37) = x} := by refine ⟨?x, ?h⟩; case h => conv => lhs; whnf
@[reducible] noncomputable def CellId_child_end_a : {x : Arguments // defArgs (stmtAt CellId_body.1 38) = x} := by refine ⟨?x, ?h⟩; case h => conv => lhs; whnf
@[reducible] noncomputable def CellId_child_end_b : {x : (List Stmt) // defBody (stmtAt CellId_body.1 38) = x} := by refine ⟨?x, ?h⟩; case h => conv => lhs; whnf
@[reducible] noncomputable def CellId_child_end_s : {x : Scope // defScope (stmtAt CellId_body.1 38) = x} := by refine ⟨?x, ?h⟩; case h => conv => lhs; whnf
@[reducible] noncomputable def CellId_next_a : {x : Arguments // defArgs (stmtAt CellId_body.1 40) = x} := by refine ⟨?x, ?h⟩; case h => conv => lhs; whnf
@[reducible] noncomputable def CellId_next_b : {x : (List Stmt) // defBody (stmtAt CellId_body.1 40) = x} := by refine ⟨?x, ?h⟩; case h => conv => lhs; whnf
@[reducible] noncomputable def CellId_next_s : {x : Scope // defScope (stmtAt CellId_body.1 40) = x} := by refine ⟨?x, ?h⟩; case h => conv => lhs; whnf
@[reducible] noncomputable def CellId_children_a : {x : Arguments // defArgs (stmtAt CellId_body.1 41) = x} := by refine ⟨?x, ?h⟩; case h => conv => lhs; whnf
@[reducible] noncomputable def CellId_children_b : {x : (List Stmt) // defBody (stmtAt CellId_body.1 41) = x} := by refine ⟨?x, ?h⟩; case h => conv => lhs; whnf
@[reducible] noncomputable def CellId_children_s : {x : Scope // defScope (stmtAt CellId_body.1 41) = x} := by refine ⟨?x, ?h⟩; case h => conv => lhs; whnf
@[reducible] noncomputable def CellUnion__init_a : {x : Arguments // defArgs (stmtAt CellUnion_body.1 0) = x} := by refine ⟨?x, ?h⟩; case h => conv => lhs; whnf
@[reducible] noncomputable def CellUnion__init_b : {x : (List Stmt) // defBody (stmtAt CellUnion_body.1 0) = x} := by refine ⟨?x, ?h⟩; case h => conv => lhs; whnf
@[reducible] noncomputable def CellUnion__init_s : {x : Scope // defScope (stmtAt CellUnion_body.1 0) = x} := by refine ⟨?x, ?h⟩; case h => conv => lhs; whnf
@[reducible] noncomputable def CellUnion_cell_ids_a : {x : Arguments // defArgs (stmtAt CellUnion_body.1 11) = x} := by refine ⟨?x, ?h⟩; case h => conv => lhs; whnf
@[reducible] noncomputable def CellUnion_cell_ids_b : {x : (List Stmt) // defBody (stmtAt CellUnion_body.1 11) = x} := by refine ⟨?x, ?h⟩; case h => conv => lhs; whnf
@[reducible] noncomputable def CellUnion_cell_ids_s : {x : Scope // defScope (stmtAt CellUnion_body.1 11) = x} := by refine ⟨?x, ?h⟩; case h => conv => lhs; whnf
@[reducible] noncomputable def CellUnion_denormalize_a : {x : Arguments // defArgs (stmtAt CellUnion_body.1 13) = x} := by refine ⟨?x, ?h⟩; case h => conv => lhs; whnf
@[reducible] noncomputable def CellUnion_denormalize_b : {x : (List Stmt) // defBody (stmtAt CellUnion_body.1 13) = x} := by refine ⟨?x, ?h⟩; case h => conv => lhs; whnf
@[reducible] noncomputable def CellUnion_denormalize_s : {x : Scope // defScope (stmtAt CellUnion_body.1 13) = x} := by refine ⟨?x, ?h⟩; case h => conv => lhs; whnf
@[reducible] noncomputable def F_law_id_a : {x : Arguments // defArgs (stmtAt pw.main.body 6) = x} := by refine ⟨?x, ?h⟩; case h => conv => lhs; whnf
@[reducible] noncomputable def F_law_id_b : {x : (List Stmt) // defBody (stmtAt pw.main.body 6) = x} := by refine ⟨?x, ?h⟩; case h => conv => lhs; whnf
@[reducible] noncomputable def F_law_id_s : {x : Scope // defScope (stmtAt pw.main.body 6) = x} := by refine ⟨?x, ?h⟩; case h => conv => lhs; whnf
@[reducible] noncomputable def F_law_parts_a : {x : Arguments // defArgs (stmtAt pw.main.body 7) = x} := by refine ⟨?x, ?h⟩; case h => conv => lhs; whnf
@[reducible] noncomputable def F_law_parts_b : {x : (List Stmt) // defBody (stmtAt pw.main.body 7) = x} := by refine ⟨?x, ?h⟩; case h => conv => lhs; whnf
@[reducible] noncomputable def F_law_parts_s : {x : Scope // defScope (stmtAt pw.main.body 7) = x} := by refine ⟨?x, ?h⟩; case h => conv => lhs; whnf
@[reducible] noncomputable def F_law_a : {x : Arguments // defArgs (stmtAt pw.main.body 8) = x} := by refine ⟨?x, ?h⟩; case h => conv => lhs; whnf
@[reducible] noncomputable def F_law_b : {x : (List Stmt) // defBody (stmtAt pw.main.body 8) = x} := by refine ⟨?x, ?h⟩; case h => conv => lhs; whnf
@[reducible] noncomputable def F_law_s : {x : Scope // defScope (stmtAt pw.main.body 8) = x} := by refine ⟨?x, ?h⟩; case h => conv => lhs; whnf
noncomputable def K (P : Params) : Frag :=
  (nat_lit 2, ⟨.none, none, .dict (List.toArray (⟨PyData.keyHash P (.ofString "\x69mport.loaded._bisect"), .str (.ofString "\x69mport.loaded._bisect") 185, .bool true⟩ :: ⟨PyData.keyHash P (.ofString "class._frozen_importlib_external._LoaderBasics"), .str (.ofString "class._frozen_importlib_external._LoaderBasics") 190, .ref 16⟩ :: ⟨PyData.keyHash P (.ofString "watched.\x69mport"), .str (.ofString "watched.\x69mport") 206, .ref 20⟩ :: ⟨PyData.keyHash P (.ofString "class._frozen_importlib_external.FileLoader"), .str (.ofString "class._frozen_importlib_external.FileLoader") 207, .ref 22⟩ :: ⟨PyData.keyHash P (.ofString "class._frozen_importlib_external.ExtensionFileLoader"), .str (.ofString "class._frozen_importlib_external.ExtensionFileLoader") 228, .ref 27⟩ :: ⟨PyData.keyHash P (.ofString "class._frozen_importlib.ModuleSpec"), .str (.ofString "class._frozen_importlib.ModuleSpec") 256, .ref 33⟩ :: ⟨PyData.keyHash P (.ofString "sys.modules.booked-epoch"), .str (.ofString "sys.modules.booked-epoch") 285, .int (3) 0⟩ :: ⟨PyData.keyHash P (.ofString "\x69mport.later-laid._bisect"), .str (.ofString "\x69mport.later-laid._bisect") 298, .bool true⟩ :: ⟨PyData.keyHash P (.ofString "watched.library"), .str (.ofString "watched.library") 300, .ref 38⟩ :: ⟨PyData.keyHash P (.ofString "watched.library-objects"), .str (.ofString "watched.library-objects") 0, .str ⟨#[13]⟩ 0⟩ :: [])) 10, #[]⟩) ::
  (nat_lit 3, ⟨.type "dict", none, .dict (List.toArray (⟨PyData.keyHash P (.ofString "__name__"), .str (.ofString "__name__") 165, .str (.ofString "law_lp0004_03") 1130⟩ :: ⟨PyData.keyHash P (.ofString "__doc__"), .str (.ofString "__doc__") 166, .none⟩ :: ⟨PyData.keyHash P (.ofString "__package__"), .str (.ofString "__package__") 167, .none⟩ :: ⟨PyData.keyHash P (.ofString "__loader__"), .str (.ofString "__loader__") 168, .builtin "__main__.__loader__#opaque"⟩ :: ⟨PyData.keyHash P (.ofString "__spec__"), .str (.ofString "__spec__") 169, .none⟩ :: ⟨PyData.keyHash P (.ofString "__annotations__"), .str (.ofString "__annotations__") 170, .ref 6⟩ :: ⟨PyData.keyHash P (.ofString "__builtins__"), .str (.ofString "__builtins__") 171, .ref 4⟩ :: ⟨PyData.keyHash P (.ofString "__file__"), .str (.ofString "__file__") 173, .str (.ofString "/claim/cut.py") 172⟩ :: ⟨PyData.keyHash P (.ofString "__cached__"), .str (.ofString "__cached__") 174, .none⟩ :: ⟨PyData.keyHash P (.ofString "bisect_left"), .str (.ofString "bisect_left") 306, .builtin "_bisect.bisect_left"⟩ :: ⟨PyData.keyHash P (.ofString "_wall"), .str (.ofString "_wall") 319, .ref 49⟩ :: ⟨PyData.keyHash P (.ofString "CellId"), .str (.ofString "CellId") 917, .ref 453⟩ :: ⟨PyData.keyHash P (.ofString "CellUnion"), .str (.ofString "CellUnion") 1129, .ref 590⟩ :: ⟨PyData.keyHash P (.ofString "_law_id"), .str (.ofString "_law_id") 1139, .ref 601⟩ :: ⟨PyData.keyHash P (.ofString "_law_parts"), .str (.ofString "_law_parts") 1145, .ref 606⟩ :: ⟨PyData.keyHash P (.ofString "law"), .str (.ofString "law") 1151, .ref 611⟩ :: [])) 16, #[]⟩) ::
  (nat_lit 57, ⟨.type "tuple", none, .seq #[.int (0) 357] 0, #[]⟩) ::
  (nat_lit 63, ⟨.type "code", none, .fields #[.str (.ofString "__init__") 358, .str (.ofString "CellId.__init__") 359, .str (.ofString "/claim/cut.py") 360, .int (18) 0, .int (2) 0, .int (0) 0, .int (0) 0, .int (3) 0, .ref 58, .bool true, .int (307) 0, .ref 59, .none, .ref 60, .ref 61, .ref 62, .int (363) 0, .int (18) 0, .str (.ofString "/claim/cut.py") 364], #[]⟩) ::
  (nat_lit 64, ⟨.type "function", none, .func { name := (.ofString "__init__"), qualname := (.ofString "CellId.__init__"), params := CellId__init_a.1, body := .stmts CellId__init_b.1, scope := CellId__init_s.1, globals := 3, closure := [], defaults := .ref 57, kwdefaults := .none, doc := .none, pyModule := .str (.ofString "s2sphere.sphere") 320, annotations := none, code := .ref 63, closureTuple := .none, builtins := 0 }, #[]⟩) ::
  (nat_lit 84, ⟨.type "code", none, .fields #[.str (.ofString "__eq__") 380, .str (.ofString "CellId.__eq__") 381, .str (.ofString "/claim/cut.py") 382, .int (27) 0, .int (2) 0, .int (0) 0, .int (0) 0, .int (3) 0, .ref 79, .bool true, .int (307) 0, .ref 80, .none, .ref 81, .ref 82, .ref 83, .int (385) 0, .int (27) 0, .str (.ofString "/claim/cut.py") 386], #[]⟩) ::
  (nat_lit 85, ⟨.type "function", none, .func { name := (.ofString "__eq__"), qualname := (.ofString "CellId.__eq__"), params := CellId__eq_a.1, body := .stmts CellId__eq_b.1, scope := CellId__eq_s.1, globals := 3, closure := [], defaults := .none, kwdefaults := .none, doc := .none, pyModule := .str (.ofString "s2sphere.sphere") 320, annotations := none, code := .ref 84, closureTuple := .none, builtins := 0 }, #[]⟩) ::
  (nat_lit 91, ⟨.type "code", none, .fields #[.str (.ofString "__ne__") 388, .str (.ofString "CellId.__ne__") 389, .str (.ofString "/claim/cut.py") 390, .int (30) 0, .int (2) 0, .int (0) 0, .int (0) 0, .int (3) 0, .ref 86, .bool true, .int (307) 0, .ref 87, .none, .ref 88, .ref 89, .ref 90, .int (393) 0, .int (30) 0, .str (.ofString "/claim/cut.py") 394], #[]⟩) ::
  (nat_lit 92, ⟨.type "function", none, .func { name := (.ofString "__ne__"), qualname := (.ofString "CellId.__ne__"), params := CellId__ne_a.1, body := .stmts CellId__ne_b.1, scope := CellId__ne_s.1, globals := 3, closure := [], defaults := .none, kwdefaults := .none, doc := .none, pyModule := .str (.ofString "s2sphere.sphere") 320, annotations := none, code := .ref 91, closureTuple := .none, builtins := 0 }, #[]⟩) ::
  (nat_lit 176, ⟨.type "code", none, .fields #[.str (.ofString "lsb_for_level") 537, .str (.ofString "CellId.lsb_for_level") 538, .str (.ofString "/claim/cut.py") 539, .int (65) 0, .int (2) 0, .int (0) 0, .int (0) 0, .int (3) 0, .ref 171, .bool true, .int (307) 0, .ref 172, .none, .ref 173, .ref 174, .ref 175, .int (542) 0, .int (65) 0, .str (.ofString "/claim/cut.py") 543], #[]⟩) ::
  (nat_lit 177, ⟨.type "function", none, .func { name := (.ofString "lsb_for_level"), qualname := (.ofString "CellId.lsb_for_level"), params := CellId_lsb_for_level_a.1, body := .stmts CellId_lsb_for_level_b.1, scope := CellId_lsb_for_level_s.1, globals := 3, closure := [], defaults := .none, kwdefaults := .none, doc := .none, pyModule := .str (.ofString "s2sphere.sphere") 320, annotations := (some 180), code := .ref 176, closureTuple := .none, builtins := 0 }, #[]⟩) ::
  (nat_lit 179, ⟨.type "classmethod", (some 178), .fields #[.ref 177, .bool false], #[]⟩) ::
  (nat_lit 221, ⟨.type "code", none, .fields #[.str (.ofString "id") 599, .str (.ofString "CellId.id") 600, .str (.ofString "/claim/cut.py") 601, .int (101) 0, .int (1) 0, .int (0) 0, .int (0) 0, .int (3) 0, .ref 216, .bool true, .int (307) 0, .ref 217, .none, .ref 218, .ref 219, .ref 220, .int (603) 0, .int (101) 0, .str (.ofString "/claim/cut.py") 604], #[]⟩) ::
  (nat_lit 222, ⟨.type "function", none, .func { name := (.ofString "id"), qualname := (.ofString "CellId.id"), params := CellId_id_a.1, body := .stmts CellId_id_b.1, scope := CellId_id_s.1, globals := 3, closure := [], defaults := .none, kwdefaults := .none, doc := .none, pyModule := .str (.ofString "s2sphere.sphere") 320, annotations := none, code := .ref 221, closureTuple := .none, builtins := 0 }, #[]⟩) ::
  (nat_lit 228, ⟨.type "code", none, .fields #[.str (.ofString "is_valid") 606, .str (.ofString "CellId.is_valid") 607, .str (.ofString "/claim/cut.py") 608, .int (104) 0, .int (1) 0, .int (0) 0, .int (0) 0, .int (3) 0, .ref 223, .bool true, .int (307) 0, .ref 224, .none, .ref 225, .ref 226, .ref 227, .int (610) 0, .int (104) 0, .str (.ofString "/claim/cut.py") 611], #[]⟩) ::
  (nat_lit 229, ⟨.type "function", none, .func { name := (.ofString "is_valid"), qualname := (.ofString "CellId.is_valid"), params := CellId_is_valid_a.1, body := .stmts CellId_is_valid_b.1, scope := CellId_is_valid_s.1, globals := 3, closure := [], defaults := .none, kwdefaults := .none, doc := .none, pyModule := .str (.ofString "s2sphere.sphere") 320, annotations := none, code := .ref 228, closureTuple := .none, builtins := 0 }, #[]⟩) ::
  (nat_lit 235, ⟨.type "code", none, .fields #[.str (.ofString "lsb") 613, .str (.ofString "CellId.lsb") 614, .str (.ofString "/claim/cut.py") 615, .int (107) 0, .int (1) 0, .int (0) 0, .int (0) 0, .int (3) 0, .ref 230, .bool true, .int (307) 0, .ref 231, .none, .ref 232, .ref 233, .ref 234, .int (617) 0, .int (107) 0, .str (.ofString "/claim/cut.py") 618], #[]⟩) ::
  (nat_lit 236, ⟨.type "function", none, .func { name := (.ofString "lsb"), qualname := (.ofString "CellId.lsb"), params := CellId_lsb_a.1, body := .stmts CellId_lsb_b.1, scope := CellId_lsb_s.1, globals := 3, closure := [], defaults := .none, kwdefaults := .none, doc := .none, pyModule := .str (.ofString "s2sphere.sphere") 320, annotations := none, code := .ref 235, closureTuple := .none, builtins := 0 }, #[]⟩) ::
  (nat_lit 242, ⟨.type "code", none, .fields #[.str (.ofString "face") 620, .str (.ofString "CellId.face") 621, .str (.ofString "/claim/cut.py") 622, .int (110) 0, .int (1) 0, .int (0) 0, .int (0) 0, .int (3) 0, .ref 237, .bool true, .int (307) 0, .ref 238, .none, .ref 239, .ref 240, .ref 241, .int (624) 0, .int (110) 0, .str (.ofString "/claim/cut.py") 625], #[]⟩) ::
  (nat_lit 243, ⟨.type "function", none, .func { name := (.ofString "face"), qualname := (.ofString "CellId.face"), params := CellId_face_a.1, body := .stmts CellId_face_b.1, scope := CellId_face_s.1, globals := 3, closure := [], defaults := .none, kwdefaults := .none, doc := .none, pyModule := .str (.ofString "s2sphere.sphere") 320, annotations := none, code := .ref 242, closureTuple := .none, builtins := 0 }, #[]⟩) ::
  (nat_lit 256, ⟨.type "code", none, .fields #[.str (.ofString "is_leaf") 634, .str (.ofString "CellId.is_leaf") 635, .str (.ofString "/claim/cut.py") 636, .int (116) 0, .int (1) 0, .int (0) 0, .int (0) 0, .int (3) 0, .ref 251, .bool true, .int (307) 0, .ref 252, .none, .ref 253, .ref 254, .ref 255, .int (638) 0, .int (116) 0, .str (.ofString "/claim/cut.py") 639], #[]⟩) ::
  (nat_lit 257, ⟨.type "function", none, .func { name := (.ofString "is_leaf"), qualname := (.ofString "CellId.is_leaf"), params := CellId_is_leaf_a.1, body := .stmts CellId_is_leaf_b.1, scope := CellId_is_leaf_s.1, globals := 3, closure := [], defaults := .none, kwdefaults := .none, doc := .none, pyModule := .str (.ofString "s2sphere.sphere") 320, annotations := none, code := .ref 256, closureTuple := .none, builtins := 0 }, #[]⟩) ::
  (nat_lit 263, ⟨.type "code", none, .fields #[.str (.ofString "level") 641, .str (.ofString "CellId.level") 642, .str (.ofString "/claim/cut.py") 643, .int (119) 0, .int (1) 0, .int (0) 0, .int (0) 0, .int (3) 0, .ref 258, .bool true, .int (307) 0, .ref 259, .none, .ref 260, .ref 261, .ref 262, .int (647) 0, .int (119) 0, .str (.ofString "/claim/cut.py") 648], #[]⟩) ::
  (nat_lit 264, ⟨.type "function", none, .func { name := (.ofString "level"), qualname := (.ofString "CellId.level"), params := CellId_level_a.1, body := .stmts CellId_level_b.1, scope := CellId_level_s.1, globals := 3, closure := [], defaults := .none, kwdefaults := .none, doc := .none, pyModule := .str (.ofString "s2sphere.sphere") 320, annotations := none, code := .ref 263, closureTuple := .none, builtins := 0 }, #[]⟩) ::
  (nat_lit 270, ⟨.type "code", none, .fields #[.str (.ofString "child_begin") 650, .str (.ofString "CellId.child_begin") 651, .str (.ofString "/claim/cut.py") 652, .int (141) 0, .int (1) 0, .int (0) 0, .int (0) 0, .int (7) 0, .ref 265, .bool true, .int (307) 0, .ref 266, .none, .ref 267, .ref 268, .ref 269, .int (657) 0, .int (141) 0, .str (.ofString "/claim/cut.py") 658], #[]⟩) ::
  (nat_lit 271, ⟨.type "function", none, .func { name := (.ofString "child_begin"), qualname := (.ofString "CellId.child_begin"), params := CellId_child_begin_a.1, body := .stmts CellId_child_begin_b.1, scope := CellId_child_begin_s.1, globals := 3, closure := [], defaults := .none, kwdefaults := .none, doc := .none, pyModule := .str (.ofString "s2sphere.sphere") 320, annotations := none, code := .ref 270, closureTuple := .none, builtins := 0 }, #[]⟩) ::
  (nat_lit 277, ⟨.type "code", none, .fields #[.str (.ofString "child_end") 660, .str (.ofString "CellId.child_end") 661, .str (.ofString "/claim/cut.py") 662, .int (155) 0, .int (1) 0, .int (0) 0, .int (0) 0, .int (7) 0, .ref 272, .bool true, .int (307) 0, .ref 273, .none, .ref 274, .ref 275, .ref 276, .int (667) 0, .int (155) 0, .str (.ofString "/claim/cut.py") 668], #[]⟩) ::
  (nat_lit 278, ⟨.type "function", none, .func { name := (.ofString "child_end"), qualname := (.ofString "CellId.child_end"), params := CellId_child_end_a.1, body := .stmts CellId_child_end_b.1, scope := CellId_child_end_s.1, globals := 3, closure := [], defaults := .none, kwdefaults := .none, doc := .none, pyModule := .str (.ofString "s2sphere.sphere") 320, annotations := none, code := .ref 277, closureTuple := .none, builtins := 0 }, #[]⟩) ::
  (nat_lit 291, ⟨.type "code", none, .fields #[.str (.ofString "next") 677, .str (.ofString "CellId.next") 678, .str (.ofString "/claim/cut.py") 679, .int (172) 0, .int (1) 0, .int (0) 0, .int (0) 0, .int (3) 0, .ref 286, .bool true, .int (307) 0, .ref 287, .none, .ref 288, .ref 289, .ref 290, .int (681) 0, .int (172) 0, .str (.ofString "/claim/cut.py") 682], #[]⟩) ::
  (nat_lit 292, ⟨.type "function", none, .func { name := (.ofString "next"), qualname := (.ofString "CellId.next"), params := CellId_next_a.1, body := .stmts CellId_next_b.1, scope := CellId_next_s.1, globals := 3, closure := [], defaults := .none, kwdefaults := .none, doc := .none, pyModule := .str (.ofString "s2sphere.sphere") 320, annotations := none, code := .ref 291, closureTuple := .none, builtins := 0 }, #[]⟩) ::
  (nat_lit 298, ⟨.type "code", none, .fields #[.str (.ofString "children") 684, .str (.ofString "CellId.children") 685, .str (.ofString "/claim/cut.py") 686, .int (175) 0, .int (1) 0, .int (0) 0, .int (0) 0, .int (39) 0, .ref 293, .bool true, .int (307) 0, .ref 294, .none, .ref 295, .ref 296, .ref 297, .int (691) 0, .int (175) 0, .str (.ofString "/claim/cut.py") 692], #[]⟩) ::
  (nat_lit 299, ⟨.type "function", none, .func { name := (.ofString "children"), qualname := (.ofString "CellId.children"), params := CellId_children_a.1, body := .stmts CellId_children_b.1, scope := CellId_children_s.1, globals := 3, closure := [], defaults := .none, kwdefaults := .none, doc := .none, pyModule := .str (.ofString "s2sphere.sphere") 320, annotations := none, code := .ref 298, closureTuple := .none, builtins := 0 }, #[]⟩) ::
  (nat_lit 452, ⟨.type "dict", none, .dict (List.toArray (⟨PyData.keyHash P (.ofString "__module__"), .str (.ofString "__module__") 329, .str (.ofString "s2sphere.sphere") 320⟩ :: ⟨PyData.keyHash P (.ofString "__firstlineno__"), .str (.ofString "__firstlineno__") 333, .int (6) 332⟩ :: ⟨PyData.keyHash P (.ofString "LINEAR_PROJECTION"), .str (.ofString "LINEAR_PROJECTION") 335, .int (0) 334⟩ :: ⟨PyData.keyHash P (.ofString "TAN_PROJECTION"), .str (.ofString "TAN_PROJECTION") 337, .int (1) 336⟩ :: ⟨PyData.keyHash P (.ofString "QUADRATIC_PROJECTION"), .str (.ofString "QUADRATIC_PROJECTION") 339, .int (2) 338⟩ :: ⟨PyData.keyHash P (.ofString "PROJECTION"), .str (.ofString "PROJECTION") 340, .int (2) 338⟩ :: ⟨PyData.keyHash P (.ofString "FACE_BITS"), .str (.ofString "FACE_BITS") 342, .int (3) 341⟩ :: ⟨PyData.keyHash P (.ofString "NUM_FACES"), .str (.ofString "NUM_FACES") 344, .int (6) 343⟩ :: ⟨PyData.keyHash P (.ofString "MAX_LEVEL"), .str (.ofString "MAX_LEVEL") 346, .int (30) 345⟩ :: ⟨PyData.keyHash P (.ofString "POS_BITS"), .str (.ofString "POS_BITS") 351, .int (61) 350⟩ :: ⟨PyData.keyHash P (.ofString "MAX_SIZE"), .str (.ofString "MAX_SIZE") 354, .int (1073741824) 353⟩ :: ⟨PyData.keyHash P (.ofString "WRAP_OFFSET"), .str (.ofString "WRAP_OFFSET") 356, .int (13835058055282163712) 355⟩ :: ⟨PyData.keyHash P (.ofString "__init__"), .str (.ofString "__init__") 365, .ref 64⟩ :: ⟨PyData.keyHash P (.ofString "__repr__"), .str (.ofString "__repr__") 372, .ref 71⟩ :: ⟨PyData.keyHash P (.ofString "__hash__"), .str (.ofString "__hash__") 379, .ref 78⟩ :: ⟨PyData.keyHash P (.ofString "__eq__"), .str (.ofString "__eq__") 387, .ref 85⟩ :: ⟨PyData.keyHash P (.ofString "__ne__"), .str (.ofString "__ne__") 395, .ref 92⟩ :: ⟨PyData.keyHash P (.ofString "__lt__"), .str (.ofString "__lt__") 403, .ref 99⟩ :: ⟨PyData.keyHash P (.ofString "__le__"), .str (.ofString "__le__") 411, .ref 106⟩ :: ⟨PyData.keyHash P (.ofString "__gt__"), .str (.ofString "__gt__") 419, .ref 113⟩ :: ⟨PyData.keyHash P (.ofString "__ge__"), .str (.ofString "__ge__") 427, .ref 120⟩ :: ⟨PyData.keyHash P (.ofString "from_face_pos_level"), .str (.ofString "from_face_pos_level") 449, .ref 129⟩ :: ⟨PyData.keyHash P (.ofString "from_face_ij"), .str (.ofString "from_face_ij") 471, .ref 139⟩ :: ⟨PyData.keyHash P (.ofString "from_face_ij_wrap"), .str (.ofString "from_face_ij_wrap") 493, .ref 149⟩ :: ⟨PyData.keyHash P (.ofString "from_face_ij_same"), .str (.ofString "from_face_ij_same") 516, .ref 159⟩ :: ⟨PyData.keyHash P (.ofString "st_to_ij"), .str (.ofString "st_to_ij") 536, .ref 169⟩ :: ⟨PyData.keyHash P (.ofString "lsb_for_level"), .str (.ofString "lsb_for_level") 556, .ref 179⟩ :: ⟨PyData.keyHash P (.ofString "parent"), .str (.ofString "parent") 566, .ref 187⟩ :: ⟨PyData.keyHash P (.ofString "child"), .str (.ofString "child") 575, .ref 194⟩ :: ⟨PyData.keyHash P (.ofString "contains"), .str (.ofString "contains") 583, .ref 201⟩ :: ⟨PyData.keyHash P (.ofString "intersects"), .str (.ofString "intersects") 591, .ref 208⟩ :: ⟨PyData.keyHash P (.ofString "is_face"), .str (.ofString "is_face") 598, .ref 215⟩ :: ⟨PyData.keyHash P (.ofString "id"), .str (.ofString "id") 605, .ref 222⟩ :: ⟨PyData.keyHash P (.ofString "is_valid"), .str (.ofString "is_valid") 612, .ref 229⟩ :: ⟨PyData.keyHash P (.ofString "lsb"), .str (.ofString "lsb") 619, .ref 236⟩ :: ⟨PyData.keyHash P (.ofString "face"), .str (.ofString "face") 626, .ref 243⟩ :: ⟨PyData.keyHash P (.ofString "pos"), .str (.ofString "pos") 633, .ref 250⟩ :: ⟨PyData.keyHash P (.ofString "is_leaf"), .str (.ofString "is_leaf") 640, .ref 257⟩ :: ⟨PyData.keyHash P (.ofString "level"), .str (.ofString "level") 649, .ref 264⟩ :: ⟨PyData.keyHash P (.ofString "child_begin"), .str (.ofString "child_begin") 659, .ref 271⟩ :: ⟨PyData.keyHash P (.ofString "child_end"), .str (.ofString "child_end") 669, .ref 278⟩ :: ⟨PyData.keyHash P (.ofString "prev"), .str (.ofString "prev") 676, .ref 285⟩ :: ⟨PyData.keyHash P (.ofString "next"), .str (.ofString "next") 683, .ref 292⟩ :: ⟨PyData.keyHash P (.ofString "children"), .str (.ofString "children") 693, .ref 299⟩ :: ⟨PyData.keyHash P (.ofString "range_min"), .str (.ofString "range_min") 700, .ref 306⟩ :: ⟨PyData.keyHash P (.ofString "range_max"), .str (.ofString "range_max") 707, .ref 313⟩ :: ⟨PyData.keyHash P (.ofString "begin"), .str (.ofString "begin") 727, .ref 322⟩ :: ⟨PyData.keyHash P (.ofString "end"), .str (.ofString "end") 747, .ref 332⟩ :: ⟨PyData.keyHash P (.ofString "walk"), .str (.ofString "walk") 767, .ref 342⟩ :: ⟨PyData.keyHash P (.ofString "walk_fast"), .str (.ofString "walk_fast") 787, .ref 352⟩ :: ⟨PyData.keyHash P (.ofString "none"), .str (.ofString "none") 806, .ref 362⟩ :: ⟨PyData.keyHash P (.ofString "prev_wrap"), .str (.ofString "prev_wrap") 813, .ref 370⟩ :: ⟨PyData.keyHash P (.ofString "next_wrap"), .str (.ofString "next_wrap") 820, .ref 377⟩ :: ⟨PyData.keyHash P (.ofString "advance_wrap"), .str (.ofString "advance_wrap") 828, .ref 384⟩ :: ⟨PyData.keyHash P (.ofString "advance"), .str (.ofString "advance") 836, .ref 391⟩ :: ⟨PyData.keyHash P (.ofString "get_center_si_ti"), .str (.ofString "get_center_si_ti") 843, .ref 398⟩ :: ⟨PyData.keyHash P (.ofString "to_face_ij_orientation"), .str (.ofString "to_face_ij_orientation") 850, .ref 405⟩ :: ⟨PyData.keyHash P (.ofString "get_edge_neighbors"), .str (.ofString "get_edge_neighbors") 857, .ref 412⟩ :: ⟨PyData.keyHash P (.ofString "get_vertex_neighbors"), .str (.ofString "get_vertex_neighbors") 865, .ref 419⟩ :: ⟨PyData.keyHash P (.ofString "get_all_neighbors"), .str (.ofString "get_all_neighbors") 873, .ref 426⟩ :: ⟨PyData.keyHash P (.ofString "get_size_ij"), .str (.ofString "get_size_ij") 881, .ref 433⟩ :: ⟨PyData.keyHash P (.ofString "to_token"), .str (.ofString "to_token") 888, .ref 440⟩ :: ⟨PyData.keyHash P (.ofString "from_token"), .str (.ofString "from_token") 908, .ref 449⟩ :: ⟨PyData.keyHash P (.ofString "__static_attributes__"), .str (.ofString "__static_attributes__") 910, .ref 451⟩ :: ⟨PyData.keyHash P (.ofString "__dict__"), .str (.ofString "__dict__") 912, .ref 454⟩ :: ⟨PyData.keyHash P (.ofString "__weakref__"), .str (.ofString "__weakref__") 914, .ref 455⟩ :: ⟨PyData.keyHash P (.ofString "__doc__"), .str (.ofString "__doc__") 915, .none⟩ :: [])) 4, #[]⟩) ::
  (nat_lit 453, ⟨.type "type", none, .cls { name := (.ofString "CellId"), bases := [.type "object"], mro := [.ref 453, .type "object"], ns := 452, qualname := (.ofString "CellId"), hasDict := true, slotNames := [], subclasses := [], abstract := false, collection := none, hasDel := false }, #[(some (.ref 50)), none, (some (.str (.ofString "CellId") 322)), (some (.str (.ofString "CellId") 330)), (some (.builtin "object.__new__")), (some (.bool true))]⟩) ::
  (nat_lit 465, ⟨.type "tuple", none, .seq #[.none, .bool true] 0, #[]⟩) ::
  (nat_lit 469, ⟨.type "code", none, .fields #[.str (.ofString "__init__") 930, .str (.ofString "CellUnion.__init__") 931, .str (.ofString "/claim/cut.py") 932, .int (246) 0, .int (3) 0, .int (0) 0, .int (0) 0, .int (3) 0, .ref 466, .bool true, .int (307) 0, .ref 467, .none, .none, .none, .ref 468, .int (933) 0, .int (246) 0, .str (.ofString "/claim/cut.py") 934], #[]⟩) ::
  (nat_lit 470, ⟨.type "function", none, .func { name := (.ofString "__init__"), qualname := (.ofString "CellUnion.__init__"), params := CellUnion__init_a.1, body := .stmts CellUnion__init_b.1, scope := CellUnion__init_s.1, globals := 3, closure := [], defaults := .ref 465, kwdefaults := .none, doc := .none, pyModule := .str (.ofString "s2sphere.sphere") 320, annotations := none, code := .ref 469, closureTuple := .none, builtins := 0 }, #[]⟩) ::
  (nat_lit 558, ⟨.type "code", none, .fields #[.str (.ofString "cell_ids") 1066, .str (.ofString "CellUnion.cell_ids") 1067, .str (.ofString "/claim/cut.py") 1068, .int (292) 0, .int (1) 0, .int (0) 0, .int (0) 0, .int (3) 0, .ref 553, .bool true, .int (307) 0, .ref 554, .none, .ref 555, .ref 556, .ref 557, .int (1070) 0, .int (292) 0, .str (.ofString "/claim/cut.py") 1071], #[]⟩) ::
  (nat_lit 559, ⟨.type "function", none, .func { name := (.ofString "cell_ids"), qualname := (.ofString "CellUnion.cell_ids"), params := CellUnion_cell_ids_a.1, body := .stmts CellUnion_cell_ids_b.1, scope := CellUnion_cell_ids_s.1, globals := 3, closure := [], defaults := .none, kwdefaults := .none, doc := .none, pyModule := .str (.ofString "s2sphere.sphere") 320, annotations := none, code := .ref 558, closureTuple := .none, builtins := 0 }, #[]⟩) ::
  (nat_lit 572, ⟨.type "code", none, .fields #[.str (.ofString "denormalize") 1084, .str (.ofString "CellUnion.denormalize") 1085, .str (.ofString "/claim/cut.py") 1086, .int (321) 0, .int (3) 0, .int (0) 0, .int (0) 0, .int (3) 0, .ref 567, .bool true, .int (307) 0, .ref 568, .none, .ref 569, .ref 570, .ref 571, .int (1095) 0, .int (321) 0, .str (.ofString "/claim/cut.py") 1096], #[]⟩) ::
  (nat_lit 573, ⟨.type "function", none, .func { name := (.ofString "denormalize"), qualname := (.ofString "CellUnion.denormalize"), params := CellUnion_denormalize_a.1, body := .stmts CellUnion_denormalize_b.1, scope := CellUnion_denormalize_s.1, globals := 3, closure := [], defaults := .none, kwdefaults := .none, doc := .none, pyModule := .str (.ofString "s2sphere.sphere") 320, annotations := none, code := .ref 572, closureTuple := .none, builtins := 0 }, #[]⟩) ::
  (nat_lit 589, ⟨.type "dict", none, .dict (List.toArray (⟨PyData.keyHash P (.ofString "__module__"), .str (.ofString "__module__") 925, .str (.ofString "s2sphere.sphere") 320⟩ :: ⟨PyData.keyHash P (.ofString "__firstlineno__"), .str (.ofString "__firstlineno__") 929, .int (244) 928⟩ :: ⟨PyData.keyHash P (.ofString "__init__"), .str (.ofString "__init__") 935, .ref 470⟩ :: ⟨PyData.keyHash P (.ofString "__eq__"), .str (.ofString "__eq__") 943, .ref 477⟩ :: ⟨PyData.keyHash P (.ofString "__ne__"), .str (.ofString "__ne__") 951, .ref 484⟩ :: ⟨PyData.keyHash P (.ofString "__hash__"), .str (.ofString "__hash__") 958, .ref 491⟩ :: ⟨PyData.keyHash P (.ofString "__repr__"), .str (.ofString "__repr__") 965, .ref 498⟩ :: ⟨PyData.keyHash P (.ofString "get_union"), .str (.ofString "get_union") 986, .ref 507⟩ :: ⟨PyData.keyHash P (.ofString "get_intersection"), .str (.ofString "get_intersection") 1006, .ref 517⟩ :: ⟨PyData.keyHash P (.ofString "get_difference"), .str (.ofString "get_difference") 1027, .ref 527⟩ :: ⟨PyData.keyHash P (.ofString "_CellUnion__get_difference"), .str (.ofString "_CellUnion__get_difference") 1050, .ref 537⟩ :: ⟨PyData.keyHash P (.ofString "num_cells"), .str (.ofString "num_cells") 1057, .ref 545⟩ :: ⟨PyData.keyHash P (.ofString "cell_id"), .str (.ofString "cell_id") 1065, .ref 552⟩ :: ⟨PyData.keyHash P (.ofString "cell_ids"), .str (.ofString "cell_ids") 1072, .ref 559⟩ :: ⟨PyData.keyHash P (.ofString "normalize"), .str (.ofString "normalize") 1083, .ref 566⟩ :: ⟨PyData.keyHash P (.ofString "denormalize"), .str (.ofString "denormalize") 1097, .ref 573⟩ :: ⟨PyData.keyHash P (.ofString "contains"), .str (.ofString "contains") 1109, .ref 580⟩ :: ⟨PyData.keyHash P (.ofString "intersects"), .str (.ofString "intersects") 1120, .ref 587⟩ :: ⟨PyData.keyHash P (.ofString "__static_attributes__"), .str (.ofString "__static_attributes__") 1122, .ref 588⟩ :: ⟨PyData.keyHash P (.ofString "__dict__"), .str (.ofString "__dict__") 1124, .ref 591⟩ :: ⟨PyData.keyHash P (.ofString "__weakref__"), .str (.ofString "__weakref__") 1126, .ref 592⟩ :: ⟨PyData.keyHash P (.ofString "__doc__"), .str (.ofString "__doc__") 1127, .none⟩ :: [])) 4, #[]⟩) ::
  (nat_lit 590, ⟨.type "type", none, .cls { name := (.ofString "CellUnion"), bases := [.type "object"], mro := [.ref 590, .type "object"], ns := 589, qualname := (.ofString "CellUnion"), hasDict := true, slotNames := [], subclasses := [], abstract := false, collection := none, hasDel := false }, #[(some (.ref 458)), none, (some (.str (.ofString "CellUnion") 918)), (some (.str (.ofString "CellUnion") 926)), (some (.builtin "object.__new__")), (some (.bool true))]⟩) ::
  (nat_lit 600, ⟨.type "code", none, .fields #[.str (.ofString "_law_id") 1132, .str (.ofString "_law_id") 1133, .str (.ofString "/claim/cut.py") 1134, .int (372) 0, .int (2) 0, .int (0) 0, .int (0) 0, .int (3) 0, .ref 595, .bool true, .int (307) 0, .ref 596, .none, .ref 597, .ref 598, .ref 599, .int (1137) 0, .int (372) 0, .str (.ofString "/claim/cut.py") 1138], #[]⟩) ::
  (nat_lit 601, ⟨.type "function", none, .func { name := (.ofString "_law_id"), qualname := (.ofString "_law_id"), params := F_law_id_a.1, body := .stmts F_law_id_b.1, scope := F_law_id_s.1, globals := 3, closure := [], defaults := .none, kwdefaults := .none, doc := .none, pyModule := .str (.ofString "law_lp0004_03") 1130, annotations := none, code := .ref 600, closureTuple := .none, builtins := 0 }, #[]⟩) ::
  (nat_lit 605, ⟨.type "code", none, .fields #[.str (.ofString "_law_parts") 1140, .str (.ofString "_law_parts") 1141, .str (.ofString "/claim/cut.py") 1142, .int (374) 0, .int (3) 0, .int (0) 0, .int (0) 0, .int (3) 0, .ref 602, .bool true, .int (307) 0, .ref 603, .none, .none, .none, .ref 604, .int (1143) 0, .int (374) 0, .str (.ofString "/claim/cut.py") 1144], #[]⟩) ::
  (nat_lit 606, ⟨.type "function", none, .func { name := (.ofString "_law_parts"), qualname := (.ofString "_law_parts"), params := F_law_parts_a.1, body := .stmts F_law_parts_b.1, scope := F_law_parts_s.1, globals := 3, closure := [], defaults := .none, kwdefaults := .none, doc := .none, pyModule := .str (.ofString "law_lp0004_03") 1130, annotations := none, code := .ref 605, closureTuple := .none, builtins := 0 }, #[]⟩) ::
  (nat_lit 610, ⟨.type "code", none, .fields #[.str (.ofString "law") 1146, .str (.ofString "law") 1147, .str (.ofString "/claim/cut.py") 1148, .int (382) 0, .int (1) 0, .int (0) 0, .int (0) 0, .int (3) 0, .ref 607, .bool true, .int (307) 0, .ref 608, .none, .none, .none, .ref 609, .int (1149) 0, .int (382) 0, .str (.ofString "/claim/cut.py") 1150], #[]⟩) ::
  (nat_lit 611, ⟨.type "function", none, .func { name := (.ofString "law"), qualname := (.ofString "law"), params := F_law_a.1, body := .stmts F_law_b.1, scope := F_law_s.1, globals := 3, closure := [], defaults := .none, kwdefaults := .none, doc := .none, pyModule := .str (.ofString "law_lp0004_03") 1130, annotations := none, code := .ref 610, closureTuple := .none, builtins := 0 }, #[]⟩) ::
  []
def Kas : List Addr := nat_lit 2 :: nat_lit 3 :: nat_lit 57 :: nat_lit 63 :: nat_lit 64 :: nat_lit 84 :: nat_lit 85 :: nat_lit 91 :: nat_lit 92 :: nat_lit 176 :: nat_lit 177 :: nat_lit 179 :: nat_lit 221 :: nat_lit 222 :: nat_lit 228 :: nat_lit 229 :: nat_lit 235 :: nat_lit 236 :: nat_lit 242 :: nat_lit 243 :: nat_lit 256 :: nat_lit 257 :: nat_lit 263 :: nat_lit 264 :: nat_lit 270 :: nat_lit 271 :: nat_lit 277 :: nat_lit 278 :: nat_lit 291 :: nat_lit 292 :: nat_lit 298 :: nat_lit 299 :: nat_lit 452 :: nat_lit 453 :: nat_lit 465 :: nat_lit 469 :: nat_lit 470 :: nat_lit 558 :: nat_lit 559 :: nat_lit 572 :: nat_lit 573 :: nat_lit 589 :: nat_lit 590 :: nat_lit 600 :: nat_lit 601 :: nat_lit 605 :: nat_lit 606 :: nat_lit 610 :: nat_lit 611 :: []
-- 64 CellId__init
-- 85 CellId__eq
-- 92 CellId__ne
-- 177 CellId_lsb_for_level
-- 222 CellId_id
-- 229 CellId_is_valid
-- 236 CellId_lsb
-- 243 CellId_face
-- 257 CellId_is_leaf
-- 264 CellId_level
-- 271 CellId_child_begin
-- 278 CellId_child_end
-- 292 CellId_next
-- 299 CellId_children
-- 470 CellUnion__init
-- 559 CellUnion_cell_ids
-- 573 CellUnion_denormalize
-- 601 F_law_id
-- 606 F_law_parts
-- 611 F_law
-- K END

noncomputable def pushAll : List Obj → BT → Nat → Option BT
  | [], t, _ => some t
  | o :: l, t, n => match ((t.ins n o).get n).isSome with
    | true => pushAll l (t.ins n o) (n + 1)
    | false => none
theorem pushAll_spec (life : Life) : ∀ (l : List Obj) (t : BT) (n : Nat) (t' : BT), pushAll l t n = some t' → absHeap t' (n + l.length) life = ⟨(absHeap t n life).objs ++ l.toArray, life⟩
  | [], t, n, t', h => by
    obtain rfl : t = t' := Option.some.inj h
    show absHeap t n life = _
    unfold absHeap; simp
  | o :: l, t, n, t', h => by
    unfold pushAll at h
    split at h
    · rename_i g
      have e := pushAll_spec life l _ _ _ h
      rw [show n + (o :: l).length = n + 1 + l.length by simp only [List.length_cons]; omega, e, absHeap_ins g]
      unfold absHeap Heap.push
      simp
    · cases h
noncomputable def toT (s : Shared) : Option SharedT := match pushAll s.heap.objs.toList .nil 0 with
  | some t => some ⟨t, s.heap.objs.toList.length, s.heap.life, s.gens, s.drawn, s.toks, s.os⟩
  | none => none
theorem toT_abs {s : Shared} {x : SharedT} (h : toT s = some x) : x.abs = s := by
  unfold toT at h
  split at h
  · rename_i t ht
    cases h
    have e := pushAll_spec s.heap.life _ _ _ _ ht
    rw [Nat.zero_add] at e
    unfold SharedT.abs
    dsimp only
    rw [e]
    obtain ⟨⟨objs, life⟩, g, d, k, os⟩ := s
    have : (absHeap BT.nil 0 life).objs = #[] := by unfold absHeap BT.list; simp
    simp only [this]
    simp
  · cases h
noncomputable def runT (stp : SharedT → Thread → Option (SharedT × Thread)) (ok : Thread → Bool) : Nat → SharedT → Thread → Option SharedT
  | 0, _, _ => none
  | n + 1, s, t => match through t with
    | true => some s
    | false => match ok t with
      | false => none
      | true => match stp s t with
        | some (s', t') => runT stp ok n s' t'
        | none => none
theorem runT_spec {tb : String → Option Builtin} {p : Program} {w : World} {m : Nat} {ann : Option Value} : ∀ (n : Nat) (s : SharedT) (t : Thread) (s' : SharedT),
    runT (stepT (denote tb) p w) (stepOk m ann) n s t = some s' → topRun tb p w m ann n s.abs t = some s'.abs
  | 0, _, _, _, h => by cases h
  | n + 1, s, t, s', h => by
    unfold runT at h
    unfold topRun
    split at h
    · rename_i e; rw [e]; cases h; rfl
    · rename_i e
      rw [e]
      split at h
      · cases h
      · rename_i e2
        rw [e2]
        split at h
        · rename_i s2 t2 e3
          have := stepT_spec e3
          dsimp only
          rw [this]
          exact runT_spec n s2 t2 s' h
        · cases h
noncomputable def whole {β : Type} (imp : Option Shared) (fence : Shared → Option Shared) (stp : SharedT → Thread → Option (SharedT × Thread)) (ok : Nat → Option Value → Thread → Bool) (nsm : Heap → Addr → Str → Option Value)
    (stat : Shared → Shared → Bool) (looks : Shared → β) (stub : Thread) (N : Nat) : Option β :=
  match imp.bind fence with
  | none => none
  | some s0 => match s0.heap.isNs mainGlobals && s0.gens.size == 0 with
    | false => none
    | true => match toT s0 with
      | none => none
      | some x => match runT stp (ok s0.heap.objs.size (nsm s0.heap mainGlobals "__annotations__")) N x stub with
        | none => none
        | some y => match stat s0 y.abs with
          | true => some (looks y.abs)
          | false => none
noncomputable def statOk (mods : List Str) (p : Program) (s₀ s₁ : Shared) : Bool := staticsOk mods s₀.heap s₁.heap && namesBound p s₁.heap && gensDone s₁ && laidKept s₀.heap s₁.heap
theorem whole_spec {β : Type} {p : Program} {w : World} {N : Nat} {looks : Shared → β} {b : β}
    (h : whole (importEnds treeTable (opening p) w N (start (opening p)).1 (start (opening p)).2) (fenceModules? p) (stepT (denote treeTable) p w) stepOk Heap.nsMap (statOk (importedModules p.main.body) p) looks (topStub p) N = some b) :
    (openEnds treeTable p w N).map looks = some b := by
  unfold whole at h
  unfold openEnds fencedOpening
  cases e0 : (importEnds treeTable (opening p) w N (start (opening p)).1 (start (opening p)).2).bind (fenceModules? p) with
  | none => rw [e0] at h; cases h
  | some s0 =>
    rw [e0] at h
    dsimp only at h
    show (topFrom treeTable p w N s0).map looks = some b
    unfold topFrom
    split at h
    · cases h
    · rename_i e1
      rw [e1]
      dsimp only
      split at h
      · cases h
      · rename_i x e2
        split at h
        · cases h
        · rename_i y e3
          have r := runT_spec _ _ _ _ e3
          rw [toT_abs e2] at r
          rw [r]
          split at h
          · rename_i e4
            cases h
            show Option.map looks (match statOk _ _ _ _ with | true => _ | false => _) = _
            rw [e4]
            rfl
          · cases h
abbrev N0 : Nat := 20000
abbrev loose : List Str := [.ofString "CellId", .ofString "CellUnion"]
abbrev rr : OpenRow := PySem.Challenge.rw_lp0004_03.row
noncomputable abbrev Xt : Shared → Bool := fun s => xlAt q [] s && recOk (RowW.records rr.toRowW) s
theorem Kas_ok : ∀ P, Kas = (K P).map (·.1) := fun _ => by kernel_rfl
noncomputable abbrev HK : Hook := kHook K Kas Kas_ok
theorem run_ok : ∀ w : World, whole (PySem.W.Fast.tw10274390034422433532 PySem.W.Fast.tw14364793385576792824 (opening pw) w N0 (PySem.W.Fast.tw1435165496053646825 (opening pw)).1 (PySem.W.Fast.tw1435165496053646825 (opening pw)).2)
    (PySem.W.Fast.tw14289696077712309145 pw) (PySem.W.Fast.tw10156331382660048174 (PySem.W.Fast.tw11892475500146522536 PySem.W.Fast.tw14364793385576792824) pw w) PySem.W.Fast.tw6613529449190102663
    PySem.W.Fast.tw8920871248978507458 (statOk (PySem.W.Fast.tw5923862056798008813 pw.main.body) pw)
    (fun s => (PySem.W.Fast.tw4187177175401517315 q loose (PySem.W.Fast.tw5923862056798008813 pw.main.body) Xt true s, HK.obs s)) (topStub pw) N0 = some (openGood q loose, HK.val w) := fun w => by kernel_rfl
theorem run_raw : ∀ w : World, whole (importEnds treeTable (opening pw) w N0 (start (opening pw)).1 (start (opening pw)).2) (fenceModules? pw) (stepT (denote treeTable) pw w) stepOk Heap.nsMap (statOk (importedModules pw.main.body) pw)
    (fun s => (openSeen q loose (importedModules pw.main.body) Xt true s, HK.obs s)) (topStub pw) N0 = some (openGood q loose, HK.val w) := by
  rw [show @importEnds = PySem.W.Fast.tw10274390034422433532 from PySem.W.Fast.te10274390034422433532, show @treeTable = PySem.W.Fast.tw14364793385576792824 from PySem.W.Fast.te14364793385576792824,
    show @start = PySem.W.Fast.tw1435165496053646825 from PySem.W.Fast.te1435165496053646825, show @fenceModules? = PySem.W.Fast.tw14289696077712309145 from PySem.W.Fast.te14289696077712309145,
    show @stepT = PySem.W.Fast.tw10156331382660048174 from PySem.W.Fast.te10156331382660048174, show @denote = PySem.W.Fast.tw11892475500146522536 from PySem.W.Fast.te11892475500146522536,
    show @stepOk = PySem.W.Fast.tw6613529449190102663 from PySem.W.Fast.te6613529449190102663, show @Heap.nsMap = PySem.W.Fast.tw8920871248978507458 from PySem.W.Fast.te8920871248978507458,
    show @importedModules = PySem.W.Fast.tw5923862056798008813 from PySem.W.Fast.te5923862056798008813, show @openSeen = PySem.W.Fast.tw4187177175401517315 from PySem.W.Fast.te4187177175401517315]
  exact run_ok
theorem left : LeftO pw q loose Xt HK.obs HK.val N0 := fun w => whole_spec (run_raw w)



-- M3
theorem lsb_pow (p : Int) : ∀ j : Nat, Builtin.bitAnd ((2 * p + 1) * 2 ^ j) (-((2 * p + 1) * 2 ^ j)) = 2 ^ j
  | 0 => by
    rw [kbt_halves]
    have e1 : (2 * p + 1) * 2 ^ 0 / 2 = p := by rw [Int.pow_zero, Int.mul_one]; omega
    have e2 : -((2 * p + 1) * 2 ^ 0) / 2 = Builtin.bitNot p := by rw [Int.pow_zero, Int.mul_one]; unfold Builtin.bitNot; omega
    rw [e1, e2, bitAnd_not, bitAnd_self, Int.pow_zero, Int.mul_one, if_pos (by omega)]; omega
  | j + 1 => by
    rw [kbt_halves]
    have e : (2 * p + 1) * 2 ^ (j + 1) = 2 * ((2 * p + 1) * 2 ^ j) := by rw [Int.pow_succ, Int.mul_comm (2 ^ j) 2, ← Int.mul_assoc, Int.mul_comm _ 2, Int.mul_assoc]
    have ih := lsb_pow p j
    rw [e]
    generalize (2 * p + 1) * 2 ^ j = X at *
    rw [show 2 * X / 2 = X by omega, show -(2 * X) / 2 = -X by omega, ih, if_neg (by omega), Int.pow_succ]; omega

/-- a valid id: the cell's place p at the level 30 - k -/
def Vld (i : Int) (k : Nat) : Prop := ∃ p : Int, i = (2 * p + 1) * 4 ^ k ∧ 0 ≤ p ∧ p < 6 * 4 ^ (30 - k) ∧ k ≤ 30
theorem four_pow (k : Nat) : (4 : Int) ^ k = 2 ^ (2 * k) := by rw [show (4 : Int) = 2 ^ 2 by decide, ← Int.pow_mul]
theorem four_pos (k : Nat) : (0 : Int) < 4 ^ k := Int.pow_pos (by decide)
theorem four_split {k : Nat} (h : k ≤ 30) : (4 : Int) ^ (30 - k) * 4 ^ k = 1152921504606846976 := by
  rw [← Int.pow_add, show 30 - k + k = 30 by omega]; decide
theorem Vld.lsb {i : Int} {k : Nat} (V : Vld i k) : Builtin.bitAnd i (-i) = 4 ^ k := by
  obtain ⟨p, rfl, _⟩ := V
  rw [four_pow]; exact lsb_pow p _
theorem Vld.bounds {i : Int} {k : Nat} (V : Vld i k) : 4 ^ k ≤ i ∧ i + 4 ^ k ≤ 13835058055282163712 := by
  obtain ⟨p, rfl, h0, h1, hk⟩ := V
  have hp := four_pos k
  have hs := four_split hk
  have a : (0 : Int) ≤ p * 4 ^ k := Int.mul_nonneg h0 (Int.le_of_lt hp)
  have b : (p + 1) * 4 ^ k ≤ 6 * 4 ^ (30 - k) * 4 ^ k := Int.mul_le_mul_of_nonneg_right (by omega) (Int.le_of_lt hp)
  rw [Int.mul_assoc, hs] at b
  have e : (2 * p + 1) * 4 ^ k = 2 * (p * 4 ^ k) + 4 ^ k := by rw [Int.add_mul, Int.one_mul, Int.mul_assoc]
  have e2 : (p + 1) * 4 ^ k = p * 4 ^ k + 4 ^ k := by rw [Int.add_mul, Int.one_mul]
  rw [e2] at b
  rw [e]; omega
theorem four_le {k : Nat} (h : k ≤ 30) : (4 : Int) ^ k ≤ 1152921504606846976 := by
  have := four_split h
  have h1 := four_pos k
  have h2 := four_pos (30 - k)
  have : 1 * (4 : Int) ^ k ≤ 4 ^ (30 - k) * 4 ^ k := Int.mul_le_mul_of_nonneg_right (by omega) (Int.le_of_lt h1)
  omega
theorem Vld.k_le {i : Int} {k : Nat} (V : Vld i k) : k ≤ 30 := by obtain ⟨_, _, _, _, h⟩ := V; exact h
theorem Vld.face {i : Int} {k : Nat} (V : Vld i k) : 0 ≤ i / 2305843009213693952 ∧ i / 2305843009213693952 < 6 := by
  have := V.bounds; have := four_pos k; omega
theorem mask_ne : ∀ k : Fin 31, Builtin.bitAnd ((4 : Int) ^ k.val) 1537228672809129301 ≠ 0 := by decide +kernel
theorem Vld.mask {i : Int} {k : Nat} (V : Vld i k) : Builtin.bitAnd (4 ^ k) 1537228672809129301 ≠ 0 := mask_ne ⟨k, by have := V.k_le; omega⟩
theorem Vld.leaf {i : Int} {k : Nat} (V : Vld i k) : i % 2 = if k = 0 then 1 else 0 := by
  obtain ⟨p, rfl, _⟩ := V
  cases k with
  | zero => rw [if_pos rfl, Int.pow_zero, Int.mul_one]; omega
  | succ k =>
    rw [if_neg (Nat.succ_ne_zero k), Int.pow_succ, ← Int.mul_assoc]; omega
theorem two_one : (2 : Int) ^ Int.toNat 1 = 2 := by decide
theorem two_32 : (2 : Int) ^ Int.toNat 32 = 4294967296 := by decide
/-- the low half of an odd number times a power -/
theorem low_part (p : Int) (j : Nat) (hj : j ≤ 15) : ∃ r : Int, ((2 * p + 1) * 4 ^ j) % 4294967296 = (2 * r + 1) * 2 ^ (2 * j) := by
  have e : (4294967296 : Int) = (2 * 2 ^ (31 - 2 * j)) * 4 ^ j := by
    rw [four_pow, Int.mul_assoc, ← Int.pow_add, show 31 - 2 * j + 2 * j = 31 by omega]; decide
  rw [e, Int.mul_comm _ (4 ^ j), Int.mul_comm _ (4 ^ j), Int.mul_emod_mul_of_pos _ _ (four_pos j), ← four_pow, Int.mul_comm]
  refine ⟨(2 * p + 1) % (2 * 2 ^ (31 - 2 * j)) / 2, ?_⟩
  congr 1
  have h : (2 * p + 1) % (2 * 2 ^ (31 - 2 * j)) % 2 = (2 * p + 1) % 2 := Int.emod_emod_of_dvd _ ⟨_, rfl⟩
  omega
theorem low_lsb (p : Int) (j : Nat) (hj : j ≤ 15) : (((2 * p + 1) * 4 ^ j) % 4294967296 ≠ 0) ∧ Builtin.bitAnd (((2 * p + 1) * 4 ^ j) % 4294967296) (-(((2 * p + 1) * 4 ^ j) % 4294967296)) = 4 ^ j := by
  obtain ⟨r, e⟩ := low_part p j hj
  rw [e, lsb_pow, four_pow]
  refine ⟨fun h => ?_, rfl⟩
  have hp : (0 : Int) < 2 ^ (2 * j) := Int.pow_pos (by decide)
  rcases Int.mul_eq_zero.mp h with h | h <;> omega
theorem lvl_table : ∀ j : Fin 16, (Builtin.bitAnd ((4 : Int) ^ j.val) 21845 ≠ 0 ↔ j.val < 8) ∧ (Builtin.bitAnd ((4 : Int) ^ j.val) 5570645 ≠ 0 ↔ j.val % 8 < 4) ∧ (Builtin.bitAnd ((4 : Int) ^ j.val) 84215045 ≠ 0 ↔ j.val % 4 < 2) ∧ (Builtin.bitAnd ((4 : Int) ^ j.val) 286331153 ≠ 0 ↔ j.val % 2 < 1) := by decide +kernel
theorem Vld.low {i : Int} {k : Nat} (V : Vld i k) (hk : k < 16) : Builtin.bitAnd i 4294967295 ≠ 0 ∧ Builtin.bitAnd (Builtin.bitAnd i 4294967295) (-Builtin.bitAnd i 4294967295) = 4 ^ k := by
  obtain ⟨p, rfl, _⟩ := V
  rw [bitAnd_m32]; exact low_lsb p k (by omega)
theorem Vld.high {i : Int} {k : Nat} (V : Vld i k) (hk : ¬ k < 16) : Builtin.bitAnd i 4294967295 = 0 ∧ Builtin.bitAnd (Builtin.bitAnd (i.fdiv (2 ^ Int.toNat 32)) 4294967295) (-Builtin.bitAnd (i.fdiv (2 ^ Int.toNat 32)) 4294967295) = 4 ^ (k - 16) := by
  obtain ⟨p, rfl, _, _, h30⟩ := V
  have e : (2 * p + 1) * (4 : Int) ^ k = (2 * p + 1) * 4 ^ (k - 16) * 4294967296 := by
    rw [show (4294967296 : Int) = 4 ^ 16 by decide, Int.mul_assoc, ← Int.pow_add, show k - 16 + 16 = k by omega]
  rw [two_32, bitAnd_m32, bitAnd_m32, Int.fdiv_eq_ediv_of_nonneg _ (by decide), e]
  rw [Int.mul_ediv_cancel _ (by decide)]
  exact ⟨Int.mul_emod_left _ _, (low_lsb p (k - 16) (by omega)).2⟩
theorem lvl_sum {B1 B2 B3 B4 b r1 r2 r3 r4 : Int} {j : Nat} (hj : j < 16) (tb : (B1 ≠ 0 ↔ j < 8) ∧ (B2 ≠ 0 ↔ j % 8 < 4) ∧ (B3 ≠ 0 ↔ j % 4 < 2) ∧ (B4 ≠ 0 ↔ j % 2 < 1))
    (h1 : B1 ≠ 0 ∧ r1 = b + 8 ∨ (B1 != 0) = false ∧ r1 = b) (h2 : B2 ≠ 0 ∧ r2 = r1 + 4 ∨ (B2 != 0) = false ∧ r2 = r1) (h3 : B3 ≠ 0 ∧ r3 = r2 + 2 ∨ (B3 != 0) = false ∧ r3 = r2)
    (h4 : B4 ≠ 0 ∧ r4 = r3 + 1 ∨ (B4 != 0) = false ∧ r4 = r3) : r4 = b + 15 - j := by
  obtain ⟨t1, t2, t3, t4⟩ := tb
  have e1 : r1 = b + (if j < 8 then 8 else 0) := by
    rcases h1 with ⟨a, e⟩ | ⟨a, e⟩
    · rw [if_pos (t1.mp a)]; exact e
    · rw [if_neg (fun x => (t1.mpr x) (by simpa using a))]; omega
  have e2 : r2 = r1 + (if j % 8 < 4 then 4 else 0) := by
    rcases h2 with ⟨a, e⟩ | ⟨a, e⟩
    · rw [if_pos (t2.mp a)]; exact e
    · rw [if_neg (fun x => (t2.mpr x) (by simpa using a))]; omega
  have e3 : r3 = r2 + (if j % 4 < 2 then 2 else 0) := by
    rcases h3 with ⟨a, e⟩ | ⟨a, e⟩
    · rw [if_pos (t3.mp a)]; exact e
    · rw [if_neg (fun x => (t3.mpr x) (by simpa using a))]; omega
  have e4 : r4 = r3 + (if j % 2 < 1 then 1 else 0) := by
    rcases h4 with ⟨a, e⟩ | ⟨a, e⟩
    · rw [if_pos (t4.mp a)]; exact e
    · rw [if_neg (fun x => (t4.mpr x) (by simpa using a))]; omega
  clear h1 h2 h3 h4 t1 t2 t3 t4
  have : ∀ j : Fin 16, (if j.val < 8 then 8 else 0) + (if j.val % 8 < 4 then 4 else 0) + (if j.val % 4 < 2 then 2 else 0) + (if j.val % 2 < 1 then (1 : Int) else 0) = 15 - (j.val : Int) := by decide
  have := this ⟨j, hj⟩
  dsimp only at this
  omega

-- M4
theorem four_mul {j k : Nat} (h : j ≤ k) : (4 : Int) ^ k = 4 ^ j * ((4 ^ (k - j) : Nat) : Int) := by
  rw [Int.natCast_pow]
  show (4 : Int) ^ k = 4 ^ j * 4 ^ (k - j)
  rw [← Int.pow_add, show j + (k - j) = k by omega]
theorem Vld.child {i : Int} {j k r : Nat} (V : Vld i k) (hj : j ≤ k) (hr : r < 4 ^ (k - j)) : Vld (i + 4 ^ k + 4 ^ j - 2 * 4 ^ j * ((r : Int) + 1)) j := by
  obtain ⟨p, rfl, h0, h1, hk⟩ := V
  have e := four_mul hj
  generalize hN : 4 ^ (k - j) = N at e hr
  refine ⟨(p + 1) * N - r - 1, ?_, ?_, ?_, by omega⟩
  · rw [e]
    generalize (4 : Int) ^ j = y
    simp only [Int.add_mul, Int.sub_mul, Int.mul_add, Int.mul_sub, Int.one_mul, Int.mul_one, Int.mul_assoc, Int.mul_comm, Int.mul_left_comm]
    have z : y * ((N : Int) * 2) = 2 * (y * N) := by rw [Int.mul_comm (N : Int) 2, Int.mul_left_comm]
    omega
  · have : (0 : Int) ≤ p * N := Int.mul_nonneg h0 (by omega)
    have e2 : (p + 1) * (N : Int) = p * N + N := by rw [Int.add_mul, Int.one_mul]
    omega
  · have a : (p + 1) * (N : Int) ≤ 6 * 4 ^ (30 - k) * N := Int.mul_le_mul_of_nonneg_right (by omega) (by omega)
    have b : (6 : Int) * 4 ^ (30 - k) * N = 6 * 4 ^ (30 - j) := by
      rw [Int.mul_assoc, ← hN, Int.natCast_pow]
      show (6 : Int) * (4 ^ (30 - k) * 4 ^ (k - j)) = _
      rw [← Int.pow_add, show 30 - k + (k - j) = 30 - j by omega]
    omega
open PySem.Calls

-- Base3
/-- every object that stood stands -/
abbrev Grows (h h' : Heap) : Prop := ∀ b o, h.get? b = some o → h'.get? b = some o
theorem Grows.rfl' {h : Heap} : Grows h h := fun _ _ e => e
theorem Grows.trans' {a b c : Heap} (x : Grows a b) (y : Grows b c) : Grows a c := fun p o e => y p o (x p o e)

/-- what the walks ask of a heap: the written part, the top's facts -/
structure Wd (w : World) (h : Heap) : Prop where
  X : (K w.params).In h
  T : ∃ mean mg mb, Top q (looseW q loose) mean mg mb h
theorem Wd.keeps {w : World} {h h' : Heap} (W : Wd w h) (g : Grows h h') : Wd w h' :=
  ⟨W.X.keeps g, let ⟨a, b, c, T⟩ := W.T; ⟨a, b, c, T.keeps g⟩⟩

/-- the end of a pure call -/
def LeaveP (g : Heap) (R : Value → Shared → Prop) (v : Value) (s' : Shared) : Prop := ∃ L' m', Fr g L' s'.heap m' ∧ (Grows g s'.heap → R v s')
theorem leaveP_ {g : Heap} {L : Addr} {m : Str → Option Value} {R : Value → Shared → Prop} {v : Value} {s' : Shared} (F : Fr g L s'.heap m) (k : Grows g s'.heap → R v s') : LeaveP g R v s' := ⟨L, m, F, k⟩

/-- the end of a call that may have turned its ledger -/
def LeaveM (g : Heap) (R : Result → Shared → Prop) (v : Value) (s' : Shared) : Prop := ∃ L' m' news', Fr g L' s'.heap m' ∧ News g L' s'.heap news' ∧ (Grows g s'.heap → News g L' s'.heap news' → R (.ok (.ret v)) s')
theorem leaveM_ {g : Heap} {L : Addr} {m : Str → Option Value} {news : List (Addr × Obj)} {R : Result → Shared → Prop} {v : Value} {s' : Shared} (F : Fr g L s'.heap m) (N : News g L s'.heap news) (k : Grows g s'.heap → News g L s'.heap news → R (.ok (.ret v)) s') : LeaveM g R v s' := ⟨L, m, news, F, N, k⟩

section
variable {prog : Program} {w : World} {A : Around} {s : Shared} {Kx : Frag} {name qual : Str} {params : Arguments} {body : List Stmt} {scope : Scope} {dV kV doc pm cdv ct oc : Value} {an od : Option Addr} {osl : Array (Option Value)} {f : Addr} {args : Args} {binds : List (Str × Value)} {Q E : Value → Shared → Prop}
theorem code_enter {R : Result → Shared → Prop} (g : Heap) (news : List (Addr × Obj)) (hg : Grows g s.heap) (hs : g.objs.size ≤ s.heap.objs.size) (hn : ∀ p ∈ news, s.heap.get? p.1 = some p.2 ∧ g.get? p.1 = none) (X : Kx.In g) (hlim : g.NoLimit)
    (ho : Kx.lookup f = some ⟨oc, od, .func (fnOf name qual params body scope dV kV doc pm an cdv ct), osl⟩) (hcd : codeIn Kx cdv qual = true) (hroom : A.depth < recursionLimit)
    (hbind : BindsTo s (fnOf name qual params body scope dV kV doc pm an cdv ct) args binds) (hloc : ∀ y ∈ binds, scope.names.lookup y.1 = some .local)
    (h : ∀ h₁, Fr g s.heap.objs.size h₁ (fun y => binds.reverse.lookup y) → News g s.heap.objs.size h₁ news → Grows s.heap h₁ →
      wpAny (model prog w) (A.deeper (envOf qual scope s.heap.objs.size f cdv)) (execs body (envOf qual scope s.heap.objs.size f cdv))
        (fun fl s' => R (.ok (.ret (match fl with | .ret v => v | _ => .none))) s')
        (fun e s' => wpAny (model prog w) (A.deeper (envOf qual scope s.heap.objs.size f cdv)) (leaving (envOf qual scope s.heap.objs.size f cdv) e) (fun _ s'' => R (.error e) s'') (fun e' s'' => R (.error e') s'') s')
        { s with heap := h₁, toks := s.toks + binds.length })
    (hco : scope.isCoroutine = false) (hgen : scope.isGenerator = false) (hk : scope.kind = .function)
    (hcell : ∀ x ∈ scope.names, x.2 ≠ .cell) : codeAny (model prog w) A (.call (.ref f) args) R s :=
  codeAny_call_def (fd := fnOf name qual params body scope dV kV doc pm an cdv ct) (body := body) (binds := binds) hroom ((X.keeps hg) _ _ ho) rfl (hlim.keeps hg) (codeRec_of (X.keeps hg) hcd) rfl hbind hcell hloc
    (fun h₁ hns hk₁ => h h₁ ⟨hns, fun b o e => hk₁ b o (hg b o e), hs⟩ (fun p hp => ⟨hk₁ _ _ (hn p hp).1, Nat.ne_of_lt (Heap.lt_size (hn p hp).1), (hn p hp).2⟩) hk₁) hco hgen hk

theorem call_pure {vs : List Value} {kw : List (Str × Value)} (X : Kx.In s.heap) (hlim : s.heap.NoLimit)
    (ho : Kx.lookup f = some ⟨oc, od, .func (fnOf name qual params body scope dV kV doc pm an cdv ct), osl⟩) (hcd : codeIn Kx cdv qual = true) (hroom : A.depth < recursionLimit)
    (hbind : BindsTo s (fnOf name qual params body scope dV kV doc pm an cdv ct) ⟨vs, kw⟩ binds) (hloc : ∀ y ∈ binds, scope.names.lookup y.1 = some .local)
    (h : ∀ L' h₁, s.heap.objs.size ≤ L' → Fr s.heap L' h₁ (fun y => binds.reverse.lookup y) → News s.heap L' h₁ [] →
      wpAny (model prog w) (A.deeper (envOf qual scope L' f cdv)) (execs body (envOf qual scope L' f cdv))
        (fun fl s' => LeaveP s.heap Q (match fl with | .ret v => v | _ => .none) s') (fun _ _ => False)
        { s with heap := h₁, toks := s.toks + binds.length })
    (hco : scope.isCoroutine = false) (hgen : scope.isGenerator = false) (hk : scope.kind = .function)
    (hcell : ∀ x ∈ scope.names, x.2 ≠ .cell) : wpAny (model prog w) A (call (.ref f) vs kw) Q E s := by
  refine wpAny_call (code_enter s.heap [] Grows.rfl' (Nat.le_refl _) (fun _ h => nomatch h) X hlim ho hcd hroom hbind hloc (fun h₁ F N _ => ?_) hco hgen hk hcell)
  refine wpAny_mono (h s.heap.objs.size h₁ (Nat.le_refl _) F N) ?_ (fun _ _ x => x.elim)
  intro fl s' hl
  obtain ⟨L', m', F, k⟩ := hl
  exact k F.keep

/-- a new instance: the empty object, then its __init__ -/
theorem call_new {C fI : Addr} {vs : List Value} (X : Kx.In s.heap) (hm : makesIn Kx C = true) (hi : findIn Kx (.ref C) "__init__" = some (some (.ref fI))) (hf : isFn Kx (.ref fI) = true)
    (h : ∀ h₁ dx, dx = s.heap.objs.size → Grows s.heap h₁ → s.heap.objs.size ≤ h₁.objs.size → (∀ p ∈ [(dx + 1, instObj C dx), (dx, dictOf [] 0)], h₁.get? p.1 = some p.2 ∧ s.heap.get? p.1 = none) →
      codeAny (model prog w) (A.under (.builtin "type.__call__" ⟨.ref C :: vs, []⟩)) (.call (.ref fI) ⟨.ref (dx + 1) :: vs, []⟩)
        (InitBack (dx + 1) fun r s' => match r with | .ok (.ret v) => Q v s' | .ok _ => False | .error e => E e s') { s with heap := h₁ }) :
    wpAny (model prog w) A (call (.ref C) vs []) Q E s := by
  obtain ⟨hh, g, d, t, os⟩ := s
  refine wpAny_call (make_core (makes_of X hm) (looks_findIn X hi) (fun self => bind_fn X self (beq_iff_eq.mp hf)) (.inl rfl) ?_)
  have none_at : ∀ a, hh.objs.size ≤ a → hh.get? a = none := fun a ha => by
    cases e : hh.get? a with
    | none => rfl
    | some o => exact absurd (Heap.lt_size e) (Nat.not_lt.mpr ha)
  refine h ((hh.push emptyDict).push (instObj C hh.objs.size)) hh.objs.size rfl (fun b o e => Heap.get?_push_of_some _ (Heap.get?_push_of_some _ e)) ?_ ?_
  · simp only [Heap.size_push]; show hh.objs.size ≤ _; omega
  · intro p hp
    rcases List.mem_cons.mp hp with rfl | hp
    · refine ⟨?_, none_at _ (Nat.le_succ _)⟩
      have := Heap.get?_push_size (hh.push emptyDict) (o := instObj C hh.objs.size) rfl
      rwa [Heap.size_push] at this
    · rcases List.mem_cons.mp hp with rfl | hp
      · exact ⟨Heap.get?_push_of_some _ (Heap.get?_push_size hh rfl), none_at _ (Nat.le_refl _)⟩
      · cases hp
end

/-- a cell: an instance of CellId that bears an int -/
def CellAt (h : Heap) (x : Addr) (i : Int) : Prop := ∃ dx hs t1 t2 n, h.get? x = some (instObj 453 dx) ∧ h.get? dx = some (dictOf [⟨hs, .str (.ofString "_CellId__id") t1, .int i t2⟩] n)
theorem CellAt.grows {h h' : Heap} {x : Addr} {i : Int} (c : CellAt h x i) (g : Grows h h') : CellAt h' x i := let ⟨dx, hs, t1, t2, n, a, b⟩ := c; ⟨dx, hs, t1, t2, n, g _ _ a, g _ _ b⟩
theorem inst_base {h₀ h : Heap} {L : Addr} {m : Str → Option Value} {x C dx : Addr} {o : Obj} (F : Fr h₀ L h m) (h1 : h₀.get? x = some (instObj C dx)) (h2 : h₀.get? dx = some o) : InstAt h x (instObj C dx) C (some o) :=
  ⟨F.keep _ _ h1, rfl, rfl, F.keep _ _ h2⟩

section
variable {h₀ h h' : Heap} {L : Addr} {m : Str → Option Value} {news : List (Addr × Obj)}
theorem fr_lt (F : Fr h₀ L h m) : L < h.objs.size := by
  obtain ⟨oL, es, ep, hL, r⟩ := F.ns
  exact Heap.lt_size hL
theorem fr_past {h₀ h : Heap} {L a : Nat} {m : Str → Option Value} (F : Fr h₀ L h m) (l : h.objs.size ≤ a) : L < a := Nat.lt_of_lt_of_le (fr_lt F) l
theorem fr_grows (F : Fr h₀ L h m) (g : Grows h h') : Fr h₀ L h' m := by
  obtain ⟨oL, es, ep, hL, r⟩ := F.ns
  exact ⟨⟨oL, es, ep, g _ _ hL, r⟩, fun b o e => g _ _ (F.keep b o e), F.above⟩
theorem news_grows (N : News h₀ L h news) (g : Grows h h') : News h₀ L h' news := fun p hp => ⟨g _ _ (N p hp).1, (N p hp).2⟩
theorem wd_cur {w : World} (W : Wd w h₀) (F : Fr h₀ L h m) : Wd w h := W.keeps F.keep
theorem cell_base {x : Addr} {i : Int} (c : CellAt h₀ x i) (F : Fr h₀ L h m) : CellAt h x i := c.grows F.keep
theorem cell_news {x dx : Addr} {i hs : Int} {t1 t2 : Tok} {n : Nat} (N : News h₀ L h news) (h1 : (x, instObj 453 dx) ∈ news) (h2 : (dx, dictOf [⟨hs, .str (.ofString "_CellId__id") t1, .int i t2⟩] n) ∈ news) : CellAt h x i :=
  ⟨dx, hs, t1, t2, n, (N _ h1).1, (N _ h2).1⟩
/-- two objects that a call has made -/
theorem news_two {a b : Addr} {oa ob : Obj} (F : Fr h₀ L h m) (N : News h₀ L h news) (g : Grows h h') (ha : h'.get? a = some oa) (hb : h'.get? b = some ob) (la : h.objs.size ≤ a) (lb : h.objs.size ≤ b) : News h₀ L h' ((a, oa) :: (b, ob) :: news) := by
  have none_at : ∀ c, h.objs.size ≤ c → h.get? c = none := fun c hc => by
    cases e : h.get? c with
    | none => rfl
    | some o => exact absurd (Heap.lt_size e) (Nat.not_lt.mpr hc)
  have ne : ∀ c, h.objs.size ≤ c → c ≠ L ∧ h₀.get? c = none := fun c hc => by
    obtain ⟨oL, es, ep, hL, r⟩ := F.ns
    refine ⟨fun e => ?_, ?_⟩
    · rw [← e, none_at c hc] at hL; cases hL
    · cases e : h₀.get? c with
      | none => rfl
      | some o => have := F.keep _ _ e; rw [none_at c hc] at this; cases this
  intro p hp
  rcases List.mem_cons.mp hp with rfl | hp
  · exact ⟨ha, ne _ la⟩
  · rcases List.mem_cons.mp hp with rfl | hp
    · exact ⟨hb, ne _ lb⟩
    · exact ⟨g _ _ (N p hp).1, (N p hp).2⟩
end
section
variable {w : World} {A : Around} {s : Shared} {name qual : Str} {params : Arguments} {body : List Stmt} {scope : Scope} {dV kV doc pm cdv ct oc : Value} {an od : Option Addr} {osl : Array (Option Value)} {f : Addr} {binds : List (Str × Value)} {Q E : Value → Shared → Prop}
theorem code_pureW {args : Args} {R : Result → Shared → Prop} (W : Wd w s.heap)
    (ho : (K w.params).lookup f = some ⟨oc, od, .func (fnOf name qual params body scope dV kV doc pm an cdv ct), osl⟩) (hcd : codeIn (K w.params) cdv qual = true) (hroom : A.depth < recursionLimit)
    (hbind : BindsTo s (fnOf name qual params body scope dV kV doc pm an cdv ct) args binds) (hloc : ∀ y ∈ binds, scope.names.lookup y.1 = some .local)
    (h : ∀ L' h₁ mean mg mb, (K w.params).In s.heap → Top q (looseW q loose) mean mg mb s.heap → s.heap.objs.size ≤ L' → Fr s.heap L' h₁ (fun y => binds.reverse.lookup y) → News s.heap L' h₁ [] →
      wpAny (model rr.prog w) (A.deeper (envOf qual scope L' f cdv)) (execs body (envOf qual scope L' f cdv))
        (fun fl s' => LeaveP s.heap (fun v s' => R (.ok (.ret v)) s') (match fl with | .ret v => v | _ => .none) s') (fun _ _ => False)
        { s with heap := h₁, toks := s.toks + binds.length })
    (hco : scope.isCoroutine = false) (hgen : scope.isGenerator = false) (hk : scope.kind = .function)
    (hcell : ∀ x ∈ scope.names, x.2 ≠ .cell) : codeAny (model rr.prog w) A (.call (.ref f) args) R s := by
  obtain ⟨mean, mg, mb, T⟩ := W.T
  refine code_enter s.heap [] Grows.rfl' (Nat.le_refl _) (fun _ h => nomatch h) W.X T.nolimit ho hcd hroom hbind hloc (fun h₁ F N _ => ?_) hco hgen hk hcell
  refine wpAny_mono (h s.heap.objs.size h₁ mean mg mb W.X T (Nat.le_refl _) F N) ?_ (fun _ _ x => x.elim)
  intro fl s' hl
  obtain ⟨L', m', F, k⟩ := hl
  exact k F.keep
theorem call_pureW {vs : List Value} {kw : List (Str × Value)} (W : Wd w s.heap)
    (ho : (K w.params).lookup f = some ⟨oc, od, .func (fnOf name qual params body scope dV kV doc pm an cdv ct), osl⟩) (hcd : codeIn (K w.params) cdv qual = true) (hroom : A.depth < recursionLimit)
    (hbind : BindsTo s (fnOf name qual params body scope dV kV doc pm an cdv ct) ⟨vs, kw⟩ binds) (hloc : ∀ y ∈ binds, scope.names.lookup y.1 = some .local)
    (h : ∀ L' h₁ mean mg mb, (K w.params).In s.heap → Top q (looseW q loose) mean mg mb s.heap → s.heap.objs.size ≤ L' → Fr s.heap L' h₁ (fun y => binds.reverse.lookup y) → News s.heap L' h₁ [] →
      wpAny (model rr.prog w) (A.deeper (envOf qual scope L' f cdv)) (execs body (envOf qual scope L' f cdv))
        (fun fl s' => LeaveP s.heap Q (match fl with | .ret v => v | _ => .none) s') (fun _ _ => False)
        { s with heap := h₁, toks := s.toks + binds.length })
    (hco : scope.isCoroutine = false) (hgen : scope.isGenerator = false) (hk : scope.kind = .function)
    (hcell : ∀ x ∈ scope.names, x.2 ≠ .cell) : wpAny (model rr.prog w) A (call (.ref f) vs kw) Q E s := by
  obtain ⟨mean, mg, mb, T⟩ := W.T
  exact call_pure W.X T.nolimit ho hcd hroom hbind hloc (fun L' h₁ l F N => h L' h₁ mean mg mb W.X T l F N) hco hgen hk hcell
end

/-- a look that makes one object -/
theorem wp_peek1 {α : Type} {Kx : Frag} {M : Model} {A : Around} {E : Value → Shared → Prop} {Q : α → Shared → Prop} {s : Shared} {o : Obj} {r : Addr → α} (X : Kx.In s.heap)
    (q : Q (r s.heap.objs.size) { s with heap := s.heap.push o }) : ∀ (t : Sem α) (g : Addr → Option α), peek1 Kx ⟨M.prog, M.w.params⟩ t = some (o, g) → (∀ D, g D = some (r D)) → wpAny M A t Q E s := by
  intro t
  induction t with
  | rule _ k ih => intro g e hg Γ p hΓ; exact ih () g e hg Γ p hΓ
  | point _ k ih => intro g e hg Γ p hΓ; exact ih () g e hg Γ p hΓ
  | ask k ih => intro g e hg Γ p hΓ; exact ih _ g e hg Γ p hΓ
  | load a _ k ih =>
    intro g e hg Γ p hΓ
    simp only [peek1] at e
    split at e
    · rename_i ob ho; exact ⟨ob, X _ _ ho, ih ob g e hg Γ p hΓ⟩
    · cases e
  | alloc ob k _ =>
    intro g e hg
    have e : some (ob, fun D => peek Kx ⟨M.prog, M.w.params⟩ (k D)) = some (o, g) := e
    obtain ⟨e1, e2⟩ := Prod.mk.inj (Option.some.inj e)
    subst e1
    subst e2
    have X' : Kx.In (s.heap.push ob) := X.keeps fun b x hb => Heap.get?_push_of_some _ hb
    show wpAny M A (alloc ob >>= k) Q E s
    refine wpAny_bind (wpAny_alloc ?_)
    exact (Looks.of_peek (M := M) (h := s.heap.push ob) X' (hg s.heap.objs.size)).here (s := { s with heap := s.heap.push ob }) q
  | _ => intro g e; cases e

section
variable {w : World} {A : Around} {s : Shared} {name qual : Str} {params : Arguments} {body : List Stmt} {scope : Scope} {dV kV doc pm cdv ct oc : Value} {an od : Option Addr} {osl : Array (Option Value)} {f : Addr} {Q E : Value → Shared → Prop}
abbrev tupObj (vs : List Value) : Obj := { cls := .type "tuple", data := .seq vs.toArray }
/-- a def with a starred parameter: the tuple of the rest is made, then the frame -/
theorem code_restW {R : Result → Shared → Prop} {vs rest : List Value} {g₁ : Addr → Option (List (Str × Value))} {binds : Addr → List (Str × Value)} (W : Wd w s.heap)
    (ho : (K w.params).lookup f = some ⟨oc, od, .func (fnOf name qual params body scope dV kV doc pm an cdv ct), osl⟩) (hcd : codeIn (K w.params) cdv qual = true) (hroom : A.depth < recursionLimit)
    (hp : peek1 (K w.params) ⟨rr.prog, w.params⟩ (bindArgs (fnOf name qual params body scope dV kV doc pm an cdv ct) ⟨vs, []⟩) = some (tupObj rest, g₁))
    (hg : ∀ D, g₁ D = some (binds D)) (hloc : ∀ D, ∀ y ∈ binds D, scope.names.lookup y.1 = some .local)
    (h : ∀ D L' h₁ mean mg mb, (K w.params).In s.heap → Top q (looseW q loose) mean mg mb s.heap → s.heap.objs.size ≤ D → D < L' → Fr s.heap L' h₁ (fun y => (binds D).reverse.lookup y) → News s.heap L' h₁ [(D, tupObj rest)] →
      wpAny (model rr.prog w) (A.deeper (envOf qual scope L' f cdv)) (execs body (envOf qual scope L' f cdv))
        (fun fl s' => LeaveP s.heap (fun v s' => R (.ok (.ret v)) s') (match fl with | .ret v => v | _ => .none) s') (fun _ _ => False)
        { s with heap := h₁, toks := s.toks + (binds D).length })
    (hco : scope.isCoroutine = false) (hgen : scope.isGenerator = false) (hk : scope.kind = .function)
    (hcell : ∀ x ∈ scope.names, x.2 ≠ .cell) : codeAny (model rr.prog w) A (.call (.ref f) ⟨vs, []⟩) R s := by
  obtain ⟨mean, mg, mb, T⟩ := W.T
  refine codeAny_call_function (fd := fnOf name qual params body scope dV kV doc pm an cdv ct) (body := body) hroom (W.X _ _ ho) rfl hco hgen rfl (codeRec_of W.X hcd) ?_
  refine wp_peek1 (o := tupObj rest) (r := binds) W.X ?_ _ g₁ hp hg
  have g1 : Grows s.heap (s.heap.push (tupObj rest)) := fun b o e => Heap.get?_push_of_some _ e
  refine wpAny_newFunctionEnv (hcell) (hloc s.heap.objs.size) (fun h₁ hns hsb => ⟨(T.nolimit.keeps g1).fresh _ hsb, codeAny_func ?_⟩) hk
  have hk₁ : Grows (s.heap.push (tupObj rest)) h₁ := fun b o e => hsb.extBut b o (Nat.ne_of_lt (Heap.lt_size e)) (Heap.get?_push_of_some _ e)
  have hD : (s.heap.push (tupObj rest)).get? s.heap.objs.size = some (tupObj rest) := Heap.get?_push_size s.heap rfl
  refine wpAny_mono (h s.heap.objs.size (s.heap.push (tupObj rest)).objs.size h₁ mean mg mb W.X T (Nat.le_refl _) (by simp) ⟨hns, fun b o e => hk₁ b o (g1 b o e), by simp⟩ ?_) ?_ (fun _ _ x => x.elim)
  · intro p hp
    rcases List.mem_cons.mp hp with rfl | hp
    · refine ⟨hk₁ _ _ hD, by simp, ?_⟩
      cases e : s.heap.get? s.heap.objs.size with
      | none => rfl
      | some o => exact absurd (Heap.lt_size e) (Nat.lt_irrefl _)
    · cases hp
  · intro fl s' hl
    obtain ⟨L', m', F, k⟩ := hl
    exact k F.keep
theorem call_restW {vs rest : List Value} {g₁ : Addr → Option (List (Str × Value))} {binds : Addr → List (Str × Value)} (W : Wd w s.heap)
    (ho : (K w.params).lookup f = some ⟨oc, od, .func (fnOf name qual params body scope dV kV doc pm an cdv ct), osl⟩) (hcd : codeIn (K w.params) cdv qual = true) (hroom : A.depth < recursionLimit)
    (hp : peek1 (K w.params) ⟨rr.prog, w.params⟩ (bindArgs (fnOf name qual params body scope dV kV doc pm an cdv ct) ⟨vs, []⟩) = some (tupObj rest, g₁))
    (hg : ∀ D, g₁ D = some (binds D)) (hloc : ∀ D, ∀ y ∈ binds D, scope.names.lookup y.1 = some .local)
    (h : ∀ D L' h₁ mean mg mb, (K w.params).In s.heap → Top q (looseW q loose) mean mg mb s.heap → s.heap.objs.size ≤ D → D < L' → Fr s.heap L' h₁ (fun y => (binds D).reverse.lookup y) → News s.heap L' h₁ [(D, tupObj rest)] →
      wpAny (model rr.prog w) (A.deeper (envOf qual scope L' f cdv)) (execs body (envOf qual scope L' f cdv))
        (fun fl s' => LeaveP s.heap Q (match fl with | .ret v => v | _ => .none) s') (fun _ _ => False)
        { s with heap := h₁, toks := s.toks + (binds D).length })
    (hco : scope.isCoroutine = false) (hgen : scope.isGenerator = false) (hk : scope.kind = .function)
    (hcell : ∀ x ∈ scope.names, x.2 ≠ .cell) : wpAny (model rr.prog w) A (call (.ref f) vs []) Q E s :=
  wpAny_call (code_restW W ho hcd hroom hp hg hloc h hco hgen hk hcell)
end

-- C1
theorem fill : K = K ∧ rr = rr := by k_fill; exact ⟨rfl, rfl⟩

local macro_rules | `(tactic| k_inst) => `(tactic| first | (refine' inst_base ?F ?h1 ?h2; (case F => k_asm); (case h1 => assumption); (case h2 => assumption)) | fail "my k_inst")
local macro_rules | `(tactic| walk_at "LeaveP") => `(tactic| (k_dflt (refine' leaveP_ ?k1 ?_; (case k1 => k_asm); k_whole); intro kG; (try dsimp only)))
-- my own words: a pure call is entered; the room; the world; a cell; the state behind a call
local macro_rules | `(tactic| walk_at "my_pure") => `(tactic| (refine' call_pureW ?W ?ho ?hcd ?room ?bind ?loc ?h ?c1 ?c2 ?c3 ?c4; (case W => assumption); (case ho => k_is); (case hcd => k_is); (case room => walk_at "my_room"); (case bind => exact BindsTo.of_eq rfl); (case loc => exact locs rfl); (case c1 => exact rfl); (case c2 => exact rfl); (case c3 => exact rfl); (case c4 => decide); intro L9 h9 mean9 mg9 mb9 X9 T9 l9 F9 N9))
local macro_rules | `(tactic| walk_at "my_room") => `(tactic| ((try simp only [depth_under_make, depth_under_kw, depth_in1, depth_deeper]); omega))
local macro_rules | `(tactic| walk_at "my_W") => `(tactic| exact wd_cur (by assumption) (by k_asm))
local macro_rules | `(tactic| walk_at "my_cell") => `(tactic| first | exact cell_base (by assumption) (by k_asm) | exact cell_news (by k_asm) (by k_mem) (by k_mem))
local macro_rules | `(tactic| walk_at "my_grown") => `(tactic| (intro t9 h9 tk9 G9; (have F9 := fr_grows (by k_asm) G9); (have N9 := news_grows (by k_asm) G9); clear G9; (try k_sweep); (try dsimp only)))
local macro_rules | `(tactic| walk_at "my_end") => `(tactic| (first | (apply_assumption; done) | skip))

local macro_rules | `(tactic| walk_at "my_pureC") => `(tactic| (refine' code_pureW ?W ?ho ?hcd ?room ?bind ?loc ?h ?c1 ?c2 ?c3 ?c4; (case W => assumption); (case ho => k_is); (case hcd => k_is); (case room => walk_at "my_room"); (case bind => exact BindsTo.of_eq rfl); (case loc => exact locs rfl); (case c1 => exact rfl); (case c2 => exact rfl); (case c3 => exact rfl); (case c4 => decide); intro L9 h9 mean9 mg9 mb9 X9 T9 l9 F9 N9))
local macro_rules | `(tactic| walk_at "my_grown0") => `(tactic| (intro h9 tk9 G9; (have F9 := fr_grows (by k_asm) G9); (have N9 := news_grows (by k_asm) G9); clear G9; (try k_sweep); (try dsimp only)))
local macro_rules | `(tactic| walk_at "my_made") => `(tactic| (intro y9 d9 hs9 u9 v9 n9 h9 tk9 G9 a9 b9 l9 m9; (have F9 := fr_grows (by k_asm) G9); (have N9 := news_two (by k_asm) (by k_asm) G9 a9 b9 l9 m9); (have p9 := fr_past (by k_asm) l9); (have q9 := fr_past (by k_asm) m9); clear G9 a9 b9 l9 m9; (try k_sweep); (try dsimp only)))
local macro_rules | `(tactic| walk_at "getMethod ref") => `(tactic| (k_here; (with_reducible show wpAny _ _ (getMethod (Value.ref _) (PySem.Str.ofString "__class__") _) _ _ _); k_dflt (refine' method_usual ?X ?I ?a ?b ?c ?d ?_; (case X => exact Frag.In.keeps (by k_asm) (Fr.keep (by k_asm))); (case I => k_inst); (case a => k_is); (case b => k_is); (case c => k_is); (case d => kernel_rfl); k_whole)))
local macro_rules | `(tactic| walk_at "my_fact") => `(tactic| first | omega | ((try rw [two_one]); omega))
section
variable {w : World} {A : Around} {s : Shared} {Q E : Value → Shared → Prop}
theorem c_id {x : Addr} {i : Int} (W : Wd w s.heap) (hd : A.depth + 1 < recursionLimit) (c : CellAt s.heap x i)
    (h : ∀ t h' tk', Grows s.heap h' → Q (.int i t) { s with heap := h', toks := tk' }) :
    wpAny (model rr.prog w) A (call (.ref 222) [.ref x] []) Q E s := by
  have ⟨dx, hs, t1, t2, n, c1, c2⟩ := c
  walk_at "my_pure"
  k_steps
  exact h _ _ _ (by assumption)
local macro_rules | `(tactic| walk_at "call ref") => `(tactic| (k_here; (with_reducible show wpAny _ _ (call (Value.ref 222) _ _) _ _ _); k_dflt (refine' c_id ?W ?d ?c ?_; (case W => walk_at "my_W"); (case d => walk_at "my_room"); (case c => walk_at "my_cell"); k_whole); walk_at "my_grown"))
theorem c_lsb {x : Addr} {i : Int} {k : Nat} (V : Vld i k) (W : Wd w s.heap) (hd : A.depth + 2 < recursionLimit) (c : CellAt s.heap x i)
    (h : ∀ t h' tk', Grows s.heap h' → Q (.int (4 ^ k) t) { s with heap := h', toks := tk' }) :
    wpAny (model rr.prog w) A (call (.ref 236) [.ref x] []) Q E s := by
  have ⟨dx, hs, t1, t2, n, c1, c2⟩ := c
  walk_at "my_pure"
  k_steps
  rw [V.lsb]
  exact h _ _ _ (by assumption)
local macro_rules | `(tactic| walk_at "call ref") => `(tactic| (k_here; (with_reducible show wpAny _ _ (call (Value.ref 236) _ _) _ _ _); k_dflt (refine' c_lsb ?V ?W ?d ?c ?_; (case W => walk_at "my_W"); (case d => walk_at "my_room"); (case c => walk_at "my_cell"); (case V => assumption); k_whole); walk_at "my_grown"))
theorem c_is_leaf {x : Addr} {i : Int} {k : Nat} (V : Vld i k) (W : Wd w s.heap) (hd : A.depth + 2 < recursionLimit) (c : CellAt s.heap x i)
    (h : ∀ h' tk', Grows s.heap h' → Q (.bool (decide (k = 0))) { s with heap := h', toks := tk' }) :
    wpAny (model rr.prog w) A (call (.ref 257) [.ref x] []) Q E s := by
  have ⟨dx, hs, t1, t2, n, c1, c2⟩ := c
  walk_at "my_pure"
  k_steps
  rw [show (Builtin.bitAnd i 1 != 0) = decide (k = 0) by rw [bitAnd_m1, V.leaf]; by_cases e : k = 0 <;> simp [e]]
  exact h _ _ (by assumption)
local macro_rules | `(tactic| walk_at "call ref") => `(tactic| (k_here; (with_reducible show wpAny _ _ (call (Value.ref 257) _ _) _ _ _); k_dflt (refine' c_is_leaf ?V ?W ?d ?c ?_; (case W => walk_at "my_W"); (case d => walk_at "my_room"); (case c => walk_at "my_cell"); (case V => assumption); k_whole); walk_at "my_grown0"))
theorem face_val (i : Int) : i.fdiv (2 ^ Int.toNat 61) = i / 2305843009213693952 := by rw [Int.fdiv_eq_ediv_of_nonneg _ (by decide)]; rfl
theorem c_face {x : Addr} {i : Int} (W : Wd w s.heap) (hd : A.depth + 2 < recursionLimit) (c : CellAt s.heap x i)
    (h : ∀ t h' tk', Grows s.heap h' → Q (.int (i / 2305843009213693952) t) { s with heap := h', toks := tk' }) :
    wpAny (model rr.prog w) A (call (.ref 243) [.ref x] []) Q E s := by
  have ⟨dx, hs, t1, t2, n, c1, c2⟩ := c
  walk_at "my_pure"
  k_steps
  rw [face_val]
  exact h _ _ _ (by assumption)
local macro_rules | `(tactic| walk_at "call ref") => `(tactic| (k_here; (with_reducible show wpAny _ _ (call (Value.ref 243) _ _) _ _ _); k_dflt (refine' c_face ?W ?d ?c ?_; (case W => walk_at "my_W"); (case d => walk_at "my_room"); (case c => walk_at "my_cell"); k_whole); walk_at "my_grown"))
theorem c_is_valid {x : Addr} {i : Int} {k : Nat} (V : Vld i k) (W : Wd w s.heap) (hd : A.depth + 3 < recursionLimit) (c : CellAt s.heap x i)
    (h : ∀ h' tk', Grows s.heap h' → Q (.bool true) { s with heap := h', toks := tk' }) :
    wpAny (model rr.prog w) A (call (.ref 229) [.ref x] []) Q E s := by
  have ⟨dx, hs, t1, t2, n, c1, c2⟩ := c
  have fb := V.face
  have mk := V.mask
  walk_at "my_pure"
  k_steps
  rw [show (Builtin.bitAnd (4 ^ k) 1537228672809129301 != 0) = true from bne_iff_ne.mpr mk]
  exact h _ _ (by assumption)
local macro_rules | `(tactic| walk_at "call ref") => `(tactic| (k_here; (with_reducible show wpAny _ _ (call (Value.ref 229) _ _) _ _ _); k_dflt (refine' c_is_valid ?V ?W ?d ?c ?_; (case W => walk_at "my_W"); (case d => walk_at "my_room"); (case c => walk_at "my_cell"); (case V => assumption); k_whole); walk_at "my_grown0"))
theorem c_new {v : Int} {t : Tok} (W : Wd w s.heap) (hd : A.depth + 2 < recursionLimit) (h0 : 0 ≤ v) (h1 : v < 18446744073709551615)
    (h : ∀ y dy hs t1 t2 n h' tk', Grows s.heap h' → h'.get? y = some (instObj 453 dy) → h'.get? dy = some (dictOf [⟨hs, .str (.ofString "_CellId__id") t1, .int v t2⟩] n) → s.heap.objs.size ≤ y → s.heap.objs.size ≤ dy → Q (.ref y) { s with heap := h', toks := tk' }) :
    wpAny (model rr.prog w) A (call (.ref 453) [.int v t] []) Q E s := by
  obtain ⟨mean, mg, mb, T⟩ := W.T
  have X := W.X
  refine' call_new X ?hm ?hi ?hf ?hx
  case hm => k_is
  case hi => k_is
  case hf => k_is
  intro h₁ dx hdx G sz hn
  refine' code_enter s.heap _ G sz hn X T.nolimit ?ho ?hcd ?room ?bind ?loc ?h ?c1 ?c2 ?c3 ?c4
  case ho => k_is
  case hcd => k_is
  case room => walk_at "my_room"
  case bind => exact binds_K (W.X.keeps G) rfl (by k_is) rfl rfl rfl
  case loc => exact locs rfl
  case c1 => exact rfl
  case c2 => exact rfl
  case c3 => exact rfl
  case c4 => decide
  intro h₂ F N G2
  k_steps
  refine ⟨rfl, ?_⟩
  rename Fr _ _ _ _ => F8
  rename News _ _ _ _ => N8
  rw [show Int.fmod v 18446744073709551615 = v by rw [Int.fmod_eq_emod_of_nonneg _ (by decide)]; omega] at N8
  exact h _ _ _ _ _ _ _ _ F8.keep (N8.get (.head _)) (N8.get (.tail _ (.head _))) (by omega) (by omega)
local macro_rules | `(tactic| walk_at "call ref") => `(tactic| (k_here; (with_reducible show wpAny _ _ (call (Value.ref 453) _ _) _ _ _); k_dflt (refine' c_new ?W ?d ?a ?b ?_; (case W => walk_at "my_W"); (case d => walk_at "my_room"); (case a => walk_at "my_fact"); (case b => walk_at "my_fact"); k_whole); walk_at "my_made"))
theorem c_next {x : Addr} {i : Int} {k : Nat} (V : Vld i k) (W : Wd w s.heap) (hd : A.depth + 4 < recursionLimit) (c : CellAt s.heap x i)
    (h : ∀ y dy hs t1 t2 n h' tk', Grows s.heap h' → h'.get? y = some (instObj 453 dy) → h'.get? dy = some (dictOf [⟨hs, .str (.ofString "_CellId__id") t1, .int (i + 2 * 4 ^ k) t2⟩] n) → s.heap.objs.size ≤ y → s.heap.objs.size ≤ dy → Q (.ref y) { s with heap := h', toks := tk' }) :
    wpAny (model rr.prog w) A (call (.ref 292) [.ref x] []) Q E s := by
  have ⟨dx, hs, t1, t2, n, c1, c2⟩ := c
  have fb := V.bounds
  have fk := four_pos k
  have fl := four_le V.k_le
  walk_at "my_pure"
  k_steps
  rename Fr _ _ _ _ => F8
  rename News _ _ _ _ => N8
  rw [two_one, show i + 4 ^ k * 2 = i + 2 * 4 ^ k by omega] at N8
  exact h _ _ _ _ _ _ _ _ F8.keep (N8.get (.head _)) (N8.get (.tail _ (.head _))) (by omega) (by omega)
theorem c_lfl {l : Int} {t : Tok} {R : Result → Shared → Prop} (W : Wd w s.heap) (hd : A.depth + 1 < recursionLimit) (h0 : 0 ≤ l) (h1 : l ≤ 30)
    (h : ∀ t h' tk', Grows s.heap h' → R (.ok (.ret (.int (4 ^ (30 - l).toNat) t))) { s with heap := h', toks := tk' }) :
    codeAny (model rr.prog w) A (.call (.ref 177) ⟨[.ref 453, .int l t], []⟩) R s := by
  walk_at "my_pureC"
  k_steps
  rw [show (1 : Int) * 2 ^ (2 * (30 - l)).toNat = 4 ^ (30 - l).toNat by rw [Int.one_mul, four_pow]; congr 1; omega]
  exact h _ _ _ (by assumption)
local macro_rules | `(tactic| walk_at "exec If") => `(tactic| (k_here; (with_reducible show wpAny _ _ (PySem.exec (Stmt.If (Expr.BinOp _ Operator.BitAnd _ _) [Stmt.AugAssign _ _ _ _] [] _) _) _ _ _); kj_step))
theorem c_level_end {Q : Value → Shared → Prop} {r r' : Int} {t : Tok} {s : Shared} (h : Q (.int r t) s) (e : r' = r) : Q (.int r' t) s := e ▸ h
theorem c_level {x : Addr} {i : Int} {k : Nat} (V : Vld i k) (W : Wd w s.heap) (hd : A.depth + 4 < recursionLimit) (c : CellAt s.heap x i)
    (h : ∀ t h' tk', Grows s.heap h' → Q (.int (30 - k) t) { s with heap := h', toks := tk' }) :
    wpAny (model rr.prog w) A (call (.ref 264) [.ref x] []) Q E s := by
  have ⟨dx, hs, t1, t2, n, c1, c2⟩ := c
  have hk := V.k_le
  by_cases h16 : k < 16
  · have hx := (V.low h16).1
    walk_at "my_pure"
    k_steps
    all_goals (have hy := (V.low h16).2)
    all_goals (have tb := lvl_table ⟨k, h16⟩)
    all_goals (dsimp only at tb; rw [← hy] at tb; clear hy)
    all_goals (first
      | exact absurd (by assumption) hx
      | exact absurd hx (by assumption)
      | (have e9 := lvl_sum (by omega) tb (by assumption) (by assumption) (by assumption) (by assumption); clear tb; first
          | (simp only [decide_eq_true_eq]; omega)
          | (refine c_level_end (h _ _ _ (by assumption)) ?_; omega))
      | (refine c_level_end (h _ _ _ (by assumption)) ?_; clear tb; omega)
      | trace_state)
  · have hx := (V.high h16).1
    walk_at "my_pure"
    k_steps
    all_goals (have hy := (V.high h16).2)
    all_goals (have tb := lvl_table ⟨k - 16, by omega⟩)
    all_goals (dsimp only at tb; rw [← hy] at tb; clear hy)
    all_goals (first
      | exact absurd (by assumption) hx
      | exact absurd hx (by assumption)
      | (have e9 := lvl_sum (by omega) tb (by assumption) (by assumption) (by assumption) (by assumption); clear tb; first
          | (simp only [decide_eq_true_eq]; omega)
          | (refine c_level_end (h _ _ _ (by assumption)) ?_; omega))
      | (refine c_level_end (h _ _ _ (by assumption)) ?_; clear tb; omega)
      | trace_state)
end

-- C2
-- my own words: a pure call is entered; the room; the world; a cell; the state behind a call

local macro_rules | `(tactic| walk_at "call ref") => `(tactic| (k_here; (with_reducible show wpAny _ _ (call (Value.ref 222) _ _) _ _ _); k_dflt (refine' c_id ?W ?d ?c ?_; (case W => walk_at "my_W"); (case d => walk_at "my_room"); (case c => walk_at "my_cell"); k_whole); walk_at "my_grown"))
local macro_rules | `(tactic| walk_at "call ref") => `(tactic| (k_here; (with_reducible show wpAny _ _ (call (Value.ref 236) _ _) _ _ _); k_dflt (refine' c_lsb ?V ?W ?d ?c ?_; (case W => walk_at "my_W"); (case d => walk_at "my_room"); (case c => walk_at "my_cell"); (case V => assumption); k_whole); walk_at "my_grown"))
local macro_rules | `(tactic| walk_at "call ref") => `(tactic| (k_here; (with_reducible show wpAny _ _ (call (Value.ref 257) _ _) _ _ _); k_dflt (refine' c_is_leaf ?V ?W ?d ?c ?_; (case W => walk_at "my_W"); (case d => walk_at "my_room"); (case c => walk_at "my_cell"); (case V => assumption); k_whole); walk_at "my_grown0"))
local macro_rules | `(tactic| walk_at "call ref") => `(tactic| (k_here; (with_reducible show wpAny _ _ (call (Value.ref 243) _ _) _ _ _); k_dflt (refine' c_face ?W ?d ?c ?_; (case W => walk_at "my_W"); (case d => walk_at "my_room"); (case c => walk_at "my_cell"); k_whole); walk_at "my_grown"))
local macro_rules | `(tactic| walk_at "call ref") => `(tactic| (k_here; (with_reducible show wpAny _ _ (call (Value.ref 229) _ _) _ _ _); k_dflt (refine' c_is_valid ?V ?W ?d ?c ?_; (case W => walk_at "my_W"); (case d => walk_at "my_room"); (case c => walk_at "my_cell"); (case V => assumption); k_whole); walk_at "my_grown0"))
local macro_rules | `(tactic| walk_at "call ref") => `(tactic| (k_here; (with_reducible show wpAny _ _ (call (Value.ref 453) _ _) _ _ _); k_dflt (refine' c_new ?W ?d ?a ?b ?_; (case W => walk_at "my_W"); (case d => walk_at "my_room"); (case a => walk_at "my_fact"); (case b => walk_at "my_fact"); k_whole); walk_at "my_made"))
local macro_rules | `(tactic| walk_at "call ref") => `(tactic| (k_here; (with_reducible show wpAny _ _ (call (Value.ref 292) _ _) _ _ _); k_dflt (refine' c_next ?V ?W ?d ?c ?_; (case W => walk_at "my_W"); (case d => walk_at "my_room"); (case c => walk_at "my_cell"); (case V => assumption); k_whole); walk_at "my_made"))
local macro_rules | `(tactic| walk_at "call ref") => `(tactic| (k_here; (with_reducible show wpAny _ _ (call (Value.ref 264) _ _) _ _ _); k_dflt (refine' c_level ?V ?W ?d ?c ?_; (case W => walk_at "my_W"); (case d => walk_at "my_room"); (case c => walk_at "my_cell"); (case V => assumption); k_whole); walk_at "my_grown"))
local macro_rules | `(tactic| walk_at "call ref") => `(tactic| (k_here; k_dflt (refine' call_meth ?k1 ?k2 ?_; (case k1 => k_asm); (case k2 => k_mem); k_whole; refine' c_lfl ?W ?d ?a ?b ?_; (case W => walk_at "my_W"); (case d => walk_at "my_room"); (case a => walk_at "my_fact"); (case b => walk_at "my_fact"); k_whole); walk_at "my_grown"))
local macro_rules | `(tactic| walk_at "my_rest") => `(tactic| (refine' call_restW ?W ?ho ?hcd ?room ?hp ?hg ?hloc ?h ?c1 ?c2 ?c3 ?c4; (case W => assumption); (case ho => k_is); (case hcd => k_is); (case room => walk_at "my_room"); (case hp => exact rfl); (case hg => intro D; exact rfl); (case hloc => intro D; exact locs rfl); (case c1 => exact rfl); (case c2 => exact rfl); (case c3 => exact rfl); (case c4 => decide); intro D9 L9 h9 mean9 mg9 mb9 X9 T9 l9 m9 F9 N9))
local macro_rules | `(tactic| walk_at "my_restC") => `(tactic| (refine' code_restW ?W ?ho ?hcd ?room ?hp ?hg ?hloc ?h ?c1 ?c2 ?c3 ?c4; (case W => assumption); (case ho => k_is); (case hcd => k_is); (case room => walk_at "my_room"); (case hp => exact rfl); (case hg => intro D; exact rfl); (case hloc => intro D; exact locs rfl); (case c1 => exact rfl); (case c2 => exact rfl); (case c3 => exact rfl); (case c4 => decide); intro D9 L9 h9 mean9 mg9 mb9 X9 T9 l9 m9 F9 N9))
section
variable {w : World} {A : Around} {s : Shared} {Q E : Value → Shared → Prop}
theorem c_eq {x y : Addr} {i j : Int} (W : Wd w s.heap) (hd : A.depth + 3 < recursionLimit) (c : CellAt s.heap x i) (c' : CellAt s.heap y j)
    (h : ∀ h' tk', Grows s.heap h' → Q (.bool (i == j)) { s with heap := h', toks := tk' }) :
    wpAny (model rr.prog w) A (call (.ref 85) [.ref x, .ref y] []) Q E s := by
  have ⟨dx, hs, t1, t2, n, c1, c2⟩ := c
  have ⟨dx', hs', t1', t2', n', c1', c2'⟩ := c'
  walk_at "my_pure"
  k_steps
  exact h _ _ (by assumption)
local macro_rules | `(tactic| walk_at "call ref") => `(tactic| (k_here; (with_reducible show wpAny _ _ (call (Value.ref 85) _ _) _ _ _); k_dflt (refine' c_eq ?W ?d ?c ?c2 ?_; (case W => walk_at "my_W"); (case d => walk_at "my_room"); (case c => walk_at "my_cell"); (case c2 => walk_at "my_cell"); k_whole); walk_at "my_grown0"))
theorem c_begin {R : Result → Shared → Prop} {x : Addr} {i l : Int} {k : Nat} {t : Tok} (V : Vld i k) (W : Wd w s.heap) (hd : A.depth + 8 < recursionLimit) (c : CellAt s.heap x i) (h0 : 30 - (k : Int) ≤ l) (h1 : l ≤ 30)
    (h : ∀ y dy hs t1 t2 n h' tk', Grows s.heap h' → h'.get? y = some (instObj 453 dy) → h'.get? dy = some (dictOf [⟨hs, .str (.ofString "_CellId__id") t1, .int (i - 4 ^ k + 4 ^ (30 - l).toNat) t2⟩] n) → s.heap.objs.size ≤ y → s.heap.objs.size ≤ dy → R (.ok (.ret (.ref y))) { s with heap := h', toks := tk' }) :
    codeAny (model rr.prog w) A (.call (.ref 271) ⟨[.ref x, .int l t], []⟩) R s := by
  have ⟨dx, hs, t1, t2, n, c1, c2⟩ := c
  have fb := V.bounds
  have fk := four_pos k
  have fl := four_le V.k_le
  have f30 := V.k_le
  have fm := four_pos (30 - l).toNat
  have fn := four_le (k := (30 - l).toNat) (by have := V.k_le; omega)
  walk_at "my_restC"
  k_steps
  rename Fr _ _ _ _ => F8
  rename News _ _ _ _ => N8
  exact h _ _ _ _ _ _ _ _ F8.keep (N8.get (.head _)) (N8.get (.tail _ (.head _))) (by omega) (by omega)
theorem c_end {R : Result → Shared → Prop} {x : Addr} {i l : Int} {k : Nat} {t : Tok} (V : Vld i k) (W : Wd w s.heap) (hd : A.depth + 8 < recursionLimit) (c : CellAt s.heap x i) (h0 : 30 - (k : Int) ≤ l) (h1 : l ≤ 30)
    (h : ∀ y dy hs t1 t2 n h' tk', Grows s.heap h' → h'.get? y = some (instObj 453 dy) → h'.get? dy = some (dictOf [⟨hs, .str (.ofString "_CellId__id") t1, .int (i + 4 ^ k + 4 ^ (30 - l).toNat) t2⟩] n) → s.heap.objs.size ≤ y → s.heap.objs.size ≤ dy → R (.ok (.ret (.ref y))) { s with heap := h', toks := tk' }) :
    codeAny (model rr.prog w) A (.call (.ref 278) ⟨[.ref x, .int l t], []⟩) R s := by
  have ⟨dx, hs, t1, t2, n, c1, c2⟩ := c
  have fb := V.bounds
  have fk := four_pos k
  have fl := four_le V.k_le
  have f30 := V.k_le
  have fm := four_pos (30 - l).toNat
  have fn := four_le (k := (30 - l).toNat) (by have := V.k_le; omega)
  walk_at "my_restC"
  k_steps
  rename Fr _ _ _ _ => F8
  rename News _ _ _ _ => N8
  exact h _ _ _ _ _ _ _ _ F8.keep (N8.get (.head _)) (N8.get (.tail _ (.head _))) (by omega) (by omega)
theorem c_ne {x y : Addr} {i j : Int} (W : Wd w s.heap) (hd : A.depth + 4 < recursionLimit) (c : CellAt s.heap x i) (c' : CellAt s.heap y j)
    (h : ∀ h' tk', Grows s.heap h' → Q (.bool (!(i == j))) { s with heap := h', toks := tk' }) :
    wpAny (model rr.prog w) A (call (.ref 92) [.ref x, .ref y] []) Q E s := by
  have ⟨dx, hs, t1, t2, n, c1, c2⟩ := c
  have ⟨dx', hs', t1', t2', n', c1', c2'⟩ := c'
  walk_at "my_pure"
  k_steps
  exact h _ _ (by assumption)
end

-- C3
-- my own words: a pure call is entered; the room; the world; a cell; the state behind a call

local macro_rules | `(tactic| walk_at "my_grown0") => `(tactic| (intro h9 tk9 G9; (have F9 := fr_grows (by k_asm) G9); (have N9 := news_grows (by k_asm) G9); clear G9; (try k_sweep); (try dsimp only [PySem.W.CmpBack])))
local macro_rules | `(tactic| walk_at "call ref") => `(tactic| (k_here; (with_reducible show wpAny _ _ (call (Value.ref 85) _ _) _ _ _); k_dflt (refine' c_eq ?W ?d ?c ?c2 ?_; (case W => walk_at "my_W"); (case d => walk_at "my_room"); (case c => walk_at "my_cell"); (case c2 => walk_at "my_cell"); k_whole); walk_at "my_grown0"))
local macro_rules | `(tactic| walk_at "call ref") => `(tactic| (k_here; (with_reducible show wpAny _ _ (call (Value.ref 92) _ _) _ _ _); k_dflt (refine' c_ne ?W ?d ?c ?c2 ?_; (case W => walk_at "my_W"); (case d => walk_at "my_room"); (case c => walk_at "my_cell"); (case c2 => walk_at "my_cell"); k_whole); walk_at "my_grown0"))

def whileTest : Stmt → Expr
  | .While t _ _ _ => t
  | _ => .Constant .none 0 default
def whileBody : Stmt → List Stmt
  | .While _ b _ _ => b
  | _ => []
@[reducible] noncomputable def wh_t : {x : Expr // whileTest (stmtAt CellId_children_b.1 2) = x} := by refine ⟨?x, ?h⟩; case h => conv => lhs; whnf
@[reducible] noncomputable def wh_b : {x : List Stmt // whileBody (stmtAt CellId_children_b.1 2) = x} := by refine ⟨?x, ?h⟩; case h => conv => lhs; whnf
local macro_rules | `(tactic| k_units) => `(tactic| first | exact Nat.le_of_ble_eq_true rfl | ((try simp only [units_in1, units_deeper]); omega))
/-- the frame of the generator -/
noncomputable abbrev gEnv (L' : Addr) : Env := envOf (.ofString "CellId.children") CellId_children_s.1 L' 299 (.ref 298)
noncomputable abbrev wCode (L' : Addr) : Code := .whileLoop wh_t.1 wh_b.1 [] (gEnv L')
/-- all objects but those at two addresses stand -/
def Keeps2 (Lc D : Nat) (h h' : Heap) : Prop := ∀ b o, b ≠ Lc → b ≠ D → h.get? b = some o → h'.get? b = some o
/-- a turn of the generator turns its own frame alone -/
def GM (L' : Nat) (s s' : Shared) : Prop := (∃ h tk, s' = { s with heap := h, toks := tk }) ∧ ∀ b o, b ≠ L' → s.heap.get? b = some o → s'.heap.get? b = some o
/-- all that stands beside a frozen heap and a frame -/
def restL (h₀ : Heap) (L' : Nat) (h : Heap) : List (Addr × Obj) := (List.range h.objs.size).filterMap fun b => if b = L' ∨ (h₀.get? b).isSome then none else (h.get? b).map fun o => (b, o)
theorem restL_mem {h₀ h : Heap} {L' : Nat} {b : Addr} {o : Obj} (h1 : b ≠ L') (h2 : h₀.get? b = none) (h3 : h.get? b = some o) : (b, o) ∈ restL h₀ L' h := by
  unfold restL
  refine List.mem_filterMap.mpr ⟨b, List.mem_range.mpr (Heap.lt_size h3), ?_⟩
  rw [if_neg (by rw [h2]; simpa using h1), h3]; rfl
theorem restL_news {h₀ h : Heap} {L' : Nat} : News h₀ L' h (restL h₀ L' h) := by
  intro p hp
  obtain ⟨b, _, e⟩ := List.mem_filterMap.mp hp
  split at e
  · cases e
  · rename_i q
    obtain ⟨o, ho, e⟩ := Option.map_eq_some_iff.mp e
    subst e
    refine ⟨ho, fun x => q (.inl x), ?_⟩
    cases z : h₀.get? b with
    | none => rfl
    | some o' => exact absurd (.inr (by rw [z]; rfl)) q
theorem gm_of {h₀ : Heap} {L' : Nat} {s₀ s : Shared} {m : Str → Option Value} {news : List (Addr × Obj)} (st : ∃ h tk, s = { s₀ with heap := h, toks := tk }) (hk : Grows h₀ s₀.heap) (F : Fr h₀ L' s.heap m) (N : News h₀ L' s.heap news)
    (sub : ∀ p ∈ restL h₀ L' s₀.heap, p ∈ news) : GM L' s₀ s := by
  refine ⟨st, fun b o hb ho => ?_⟩
  cases e : h₀.get? b with
  | none => exact (N _ (sub _ (restL_mem hb e ho))).1
  | some o' =>
    have := hk _ _ e
    rw [ho] at this
    cases this
    exact F.keep _ _ e
theorem fr_keeps2 {h₀ h h' : Heap} {Lc D L' : Nat} {m : Str → Option Value} (F : Fr h₀ L' h m) (k : Keeps2 Lc D h h') (h1 : Lc < L') (h2 : D < L') (h0c : h₀.get? Lc = none) (h0D : h₀.get? D = none) : Fr h₀ L' h' m := by
  obtain ⟨oL, es, ep, hL, r⟩ := F.ns
  refine ⟨⟨oL, es, ep, k _ _ (by omega) (by omega) hL, r⟩, fun b o e => k b o (fun q => ?_) (fun q => ?_) (F.keep b o e), F.above⟩
  · rw [q, h0c] at e; cases e
  · rw [q, h0D] at e; cases e
theorem news_next {h₀ h : Heap} {L : Addr} {a b c d : Addr × Obj} {l : List (Addr × Obj)} (N : News h₀ L h (a :: b :: c :: d :: l)) : News h₀ L h (a :: b :: l) := by
  intro p hp
  rcases List.mem_cons.mp hp with rfl | hp
  · exact N _ (.head _)
  rcases List.mem_cons.mp hp with rfl | hp
  · exact N _ (.tail _ (.head _))
  exact N _ (.tail _ (.tail _ (.tail _ (.tail _ hp))))
theorem fr_map {h₀ h : Heap} {L : Addr} {m m' : Str → Option Value} (F : Fr h₀ L h m) (e : ∀ z, m z = m' z) : Fr h₀ L h m' := funext e ▸ F
section
variable {w : World} {A : Around} {h₀ : Heap} {Lc D L' : Nat}
/-- what a yield hands on: the cell whose id lies m + 1 steps ahead of the end -/
def gY (Lc D L' : Nat) (eid stp : Int) : Protocol := fun m s₀ v s' kap => ∃ y dy hs t1 t2 n, v = .ref y ∧ s'.heap.get? y = some (instObj 453 dy) ∧ s'.heap.get? dy = some (dictOf [⟨hs, .str (.ofString "_CellId__id") t1, .int (eid - stp * (m + 1)) t2⟩] n) ∧
  L' < y ∧ L' < dy ∧ GM L' s₀ s' ∧ ∀ s'', Keeps2 Lc D s'.heap s''.heap → kap (.send .none) s''
def gR (L' : Nat) : GenEnd := fun n s₀ r s' => r = .ok (.ret .none) ∧ n = 0 ∧ GM L' s₀ s'
abbrev gLoc (y e : Addr) (m0 : Str → Option Value) : Str → Option Value := fun z => if z = Str.ofString "cell_id" then some (.ref y) else if z = Str.ofString "end" then some (.ref e) else m0 z
theorem seg_loop (W : Wd w h₀) (eid stp : Int) (j : Nat) (hstp : stp = 2 * 4 ^ j) (fs : List Frame) (hfs : splitAtGen fs = none) (hfg : fs.any Frame.guarded = false) (hroom : (A.over (wCode L') fs).depth + 8 < recursionLimit) (hun : (A.over (wCode L') fs).units + 20 < cLine)
    (hLc : Lc < L') (hD : D < L') (h0c : h₀.get? Lc = none) (h0D : h₀.get? D = none)
    (hend : ∀ s₀ s m, GM L' s₀ s → Fr h₀ L' s.heap m → Seg (model rr.prog w) A (gR L') (gY Lc D L' eid stp) 0 s₀ (wCode L') (.pure (.done .next)) fs s) :
    ∀ (n : Nat) (s₀ s : Shared) (y dy e de : Addr) (hs t1 t2 n1 hs' t1' t2' n2) (m0 : Str → Option Value) (cn : List (Addr × Obj)), (∀ r : Nat, r < n → Vld (eid - stp * (r + 1)) j) → (∃ h tk, s = { s₀ with heap := h, toks := tk }) → Grows h₀ s₀.heap → cn = restL h₀ L' s₀.heap →
      Fr h₀ L' s.heap (gLoc y e m0) →
      News h₀ L' s.heap ((y, instObj 453 dy) :: (dy, dictOf [⟨hs, .str (.ofString "_CellId__id") t1, .int (eid - stp * n) t2⟩] n1) :: (e, instObj 453 de) :: (de, dictOf [⟨hs', .str (.ofString "_CellId__id") t1', .int eid t2'⟩] n2) :: cn) →
      L' < y → L' < dy → L' < e → L' < de →
      Seg (model rr.prog w) A (gR L') (gY Lc D L' eid stp) n s₀ (wCode L') ((model rr.prog w).den (wCode L')) fs s := by
  intro n
  induction n with
  | zero =>
    intro s₀ s y dy e de hs t1 t2 n1 hs' t1' t2' n2 m0 cn hV st hk hcn F N ly ldy le lde
    obtain ⟨mean, mg, mb, T⟩ := W.T
    have X := W.X
    refine seg_whileLoop ?_
    generalize A.over (wCode L') fs = A2 at hroom hun ⊢
    dsimp only [wh_t]
    k_steps
    · refine seg_execs_nil ?_
      rename Fr _ _ _ _ => F8
      rename News _ _ _ _ => N8
      refine hend _ _ _ (gm_of ?_ hk F8 N8 (fun p hp => .tail _ (.tail _ (.tail _ (.tail _ (hcn ▸ hp)))))) F8
      obtain ⟨h, tk, rfl⟩ := st
      exact ⟨_, _, rfl⟩
    · exact absurd (by simp) (by assumption : ¬ eid - stp * ((0 : Nat) : Int) = eid)
  | succ n ih =>
    intro s₀ s y dy e de hs t1 t2 n1 hs' t1' t2' n2 m0 cn hV st hk hcn F N ly ldy le lde
    obtain ⟨mean, mg, mb, T⟩ := W.T
    have X := W.X
    refine seg_whileLoop ?_
    generalize hA2 : A.over (wCode L') fs = A2 at hroom hun ⊢
    dsimp only [wh_t]
    k_steps
    · exfalso
      have e1 := (by assumption : eid - stp * ((n + 1 : Nat) : Int) = eid)
      have e2 : 0 < stp * ((n + 1 : Nat) : Int) := Int.mul_pos (by have := four_pos j; omega) (by omega)
      omega
    · rename Fr _ _ _ _ => F8
      rename News _ _ _ _ => N8
      refine seg_execs_cons ?_
      refine seg_Expr_Yield hfs rfl hfg ?_
      refine ld F8 rfl ?_
      intro kap hkap
      refine ⟨y, dy, hs, t1, t2, n1, rfl, (N8 _ (.head _)).1, (N8 _ (.tail _ (.head _))).1, ly, ldy, gm_of ?_ hk F8 N8 (fun p hp => .tail _ (.tail _ (.tail _ (.tail _ (hcn ▸ hp))))), ?_⟩
      · obtain ⟨h, tk, rfl⟩ := st
        exact ⟨_, _, rfl⟩
      intro s'' k2
      refine hkap .none s'' ?_
      dsimp only
      have F' := fr_keeps2 F8 k2 hLc hD h0c h0D
      have at2 : ∀ a o, L' < a → (a, o) ∈ (y, instObj 453 dy) :: (dy, dictOf [⟨hs, .str (.ofString "_CellId__id") t1, .int (eid - stp * ((n + 1 : Nat) : Int)) t2⟩] n1) :: (e, instObj 453 de) :: (de, dictOf [⟨hs', .str (.ofString "_CellId__id") t1', .int eid t2'⟩] n2) :: cn → s''.heap.get? a = some o ∧ a ≠ L' ∧ h₀.get? a = none :=
        fun a o l hm => ⟨k2 _ _ (by omega) (by omega) (N8 _ hm).1, (N8 _ hm).2⟩
      have N' : News h₀ L' s''.heap ((y, instObj 453 dy) :: (dy, dictOf [⟨hs, .str (.ofString "_CellId__id") t1, .int (eid - stp * ((n + 1 : Nat) : Int)) t2⟩] n1) :: (e, instObj 453 de) :: (de, dictOf [⟨hs', .str (.ofString "_CellId__id") t1', .int eid t2'⟩] n2) :: restL h₀ L' s''.heap) := by
        intro p hp
        rcases List.mem_cons.mp hp with rfl | hp
        · exact at2 _ _ ly (.head _)
        rcases List.mem_cons.mp hp with rfl | hp
        · exact at2 _ _ ldy (.tail _ (.head _))
        rcases List.mem_cons.mp hp with rfl | hp
        · exact at2 _ _ le (.tail _ (.tail _ (.head _)))
        rcases List.mem_cons.mp hp with rfl | hp
        · exact at2 _ _ lde (.tail _ (.tail _ (.tail _ (.head _))))
        exact restL_news p hp
      have V := hV n (Nat.lt_succ_self n)
      rw [show ((n : Int) + 1) = ((n + 1 : Nat) : Int) from rfl] at V
      have hk'' : Grows h₀ s''.heap := F'.keep
      clear F8 N8 at2
      generalize hcn' : restL h₀ L' s''.heap = cn' at N'
      refine seg_execs_cons (seg_wrap ?_)
      rw [hA2]
      k_steps
      rename Fr _ _ _ _ => F9
      rename News _ _ _ _ => N9
      refine seg_execs_nil (seg_again rfl ?_)
      have ev : eid - stp * ((n + 1 : Nat) : Int) + 2 * 4 ^ j = eid - stp * (n : Int) := by
        rw [show ((n + 1 : Nat) : Int) = (n : Int) + 1 from rfl, Int.mul_add, Int.mul_one, ← hstp]; omega
      rw [ev] at N9
      refine ih s'' _ _ _ e de _ _ _ _ hs' t1' t2' n2 m0 cn' (fun r hr => hV r (by omega)) ⟨_, _, rfl⟩ hk'' hcn'.symm (fr_map F9 fun z => ?_)
        (news_next N9) (by assumption) (by assumption) le lde
      unfold gLoc
      by_cases hz : z = Str.ofString "cell_id" <;> simp [hz]
end

-- C4
-- my own words: a pure call is entered; the room; the world; a cell; the state behind a call


section
variable {M : Model} {A : Around} {E : Value → Shared → Prop} {s : Shared} {Kx : Frag} {env : Env}
theorem MethodCall_S {o : Expr} {name : Str} {apos pos p : Pos} {e : Expr} {Q : Value → Shared → Prop}
    (h : wpAny M A (eval o env) (fun ov s₁ => wpAny M A (getAttr ov name true) (fun f s₂ => wpAny M A (callWith pos f [] (backTo pos (starEach [.Starred e p] env)) []) Q E s₂) E s₁) E s)
    (he : eval (.Call (.Attribute o name apos) [.Starred e p] [] pos) env = (do
      let ov ← eval o env
      standAt apos.atName
      let (f, first) ← holding [ov] (do pure (← getAttr ov name true, []))
      callWith pos f first (backTo pos (starEach [.Starred e p] env)) []) := by rfl) :
    wpAny M A (eval (.Call (.Attribute o name apos) [.Starred e p] [] pos) env) Q E s := by
  rw [he]
  refine wpAny_bind (wpAny_mono h (fun ov s₁ h₁ => wpAny_bind (wpAny_standAt (wpAny_bind (wpAny_holding (wpAny_bind (wpAny_mono h₁ (fun fx s₂ h₂ => wpAny_pure ?_) fun _ _ x => x)))))) fun _ _ x => x)
  exact h₂
theorem callWith_MS {h₀ : Heap} {L : Addr} {news : List (Addr × Obj)} {q g : Addr} {self : Value} {first : List Value} {e : Expr} {pos p : Pos} {Q : Value → Shared → Prop} (_X : Kx.In h₀) (_N : News h₀ L s.heap news) (_q : (q, methodObj (.ref g) self) ∈ news) (hf : fnIn Kx g = true)
    (h : wpAny M A (eval e env) (fun v s₁ => StarOf M A E v (fun vs s₂ => MethP Kx q g self s₂.heap ∧ wpAny M A (call (.ref q) (first ++ vs)) Q E s₂) s₁) E s)
    (he : starEach [.Starred e p] env = [(true, eval e env)] := by rfl) :
    wpAny M A (callWith pos (.ref q) first (backTo pos (starEach [.Starred e p] env)) []) Q E s := by
  rw [he]
  exact ks_call rfl (keeps_M hf) (ks_lone h)
end
local macro_rules | `(tactic| walk_at "eval Call Attribute") => `(tactic| (k_here; (with_reducible show wpAny _ _ (eval (Expr.Call (Expr.Attribute _ _ _) [Expr.Starred _ _] [] _) _) _ _ _); refine MethodCall_S ?_))
local macro_rules | `(tactic| walk_at "callWith ref") => `(tactic| (k_here; (with_reducible show wpAny _ _ (callWith _ (Value.ref _) _ (backTo _ (starEach [Expr.Starred _ _] _)) []) _ _ _); k_dflt (refine' callWith_MS ?k1 ?k2 ?k3 ?k4 ?_; (case k1 => k_asm); (case k2 => k_asm); (case k3 => k_mem); (case k4 => k_is); k_whole)))
local macro_rules | `(tactic| walk_at "my_bound") => `(tactic| ((case W => walk_at "my_W"); (case d => walk_at "my_room"); (case c => walk_at "my_cell"); (case V => assumption); (case a => walk_at "my_fact"); (case b => walk_at "my_fact"); k_whole))
local macro_rules | `(tactic| walk_at "call ref") => `(tactic| (k_here; k_dflt (refine' call_meth ?k1 ?k2 ?_; (case k1 => k_asm); (case k2 => k_mem); k_whole; (first | refine' c_begin ?V ?W ?d ?c ?a ?b ?_ | refine' c_end ?V ?W ?d ?c ?a ?b ?_); walk_at "my_bound"); walk_at "my_made"))
theorem news_pick {h₀ h : Heap} {L : Addr} {a b c d e f g : Addr × Obj} {l : List (Addr × Obj)} (N : News h₀ L h (a :: b :: c :: d :: e :: f :: g :: l)) : News h₀ L h (d :: e :: a :: b :: l) := by
  intro p hp
  refine N p ?_
  simp only [List.mem_cons] at hp ⊢
  rcases hp with h | h | h | h | h <;> simp [h]
section
variable {w : World} {A : Around} {h₀ : Heap} {Lc D L' : Nat}
noncomputable abbrev fCode (L' : Addr) : Code := .func CellId_children_b.1 (gEnv L')
theorem over_depth (fs : List Frame) (L' : Addr) : (A.over (wCode L') fs).depth = A.depth + frameCount (fs.map Frame.where_) := rfl
theorem over_depthF (L' : Addr) : (A.over (fCode L') []).depth = A.depth + 1 := rfl
theorem over_unitsF (L' : Addr) : (A.over (fCode L') []).units = A.units + 3 := rfl
abbrev aLoc (x T : Addr) : Str → Option Value := fun z => if z = Str.ofString "self" then some (.ref x) else if z = Str.ofString "args" then some (.ref T) else none
theorem seg_body (W : Wd w h₀) {x : Addr} {i l : Int} {k : Nat} {t : Tok} (V : Vld i k) (c : CellAt h₀ x i) (h0 : 30 - (k : Int) ≤ l) (h1 : l ≤ 30) (hd : A.depth + 14 < recursionLimit) (hu : A.units + 40 < cLine)
    (hLc : Lc < L') (hD : D < L') (h0c : h₀.get? Lc = none) (h0D : h₀.get? D = none) (T : Addr) (lT : L' < T ∨ T < L') (s₀ : Shared) (F : Fr h₀ L' s₀.heap (aLoc x T)) (N : News h₀ L' s₀.heap [(T, tupObj [.int l t])]) :
    Seg (model rr.prog w) A (gR L') (gY Lc D L' (i + 4 ^ k + 4 ^ (30 - l).toNat) (2 * 4 ^ (30 - l).toNat)) (4 ^ (k - (30 - l).toNat)) s₀ (fCode L') ((model rr.prog w).den (fCode L')) [] s₀ := by
  obtain ⟨mean, mg, mb, T9⟩ := W.T
  have X := W.X
  have hk := F.keep
  have N' : News h₀ L' s₀.heap ((T, tupObj [.int l t]) :: restL h₀ L' s₀.heap) := by
    intro p hp
    rcases List.mem_cons.mp hp with rfl | hp
    · exact N _ (.head _)
    · exact restL_news p hp
  clear N
  generalize hcn : restL h₀ L' s₀.heap = cn at N'
  have ⟨dx, hs, t1, t2, n, c1, c2⟩ := c
  refine seg_func ?_
  refine seg_execs_cons (seg_wrap ?_)
  have hA2 := over_depthF (A := A) L'
  have hA3 := over_unitsF (A := A) L'
  generalize hAA : A.over (fCode L') [] = A2 at hA2 hA3 ⊢
  k_steps
  refine seg_execs_cons (seg_wrap ?_)
  rw [hAA]
  k_steps
  rename Fr _ _ _ _ => F8
  rename News _ _ _ _ => N8
  refine seg_execs_cons ?_
  refine seg_While ?_
  intro pf
  have hj : (30 - l).toNat ≤ k := by omega
  have ev : i - 4 ^ k + 4 ^ (30 - l).toNat = (i + 4 ^ k + 4 ^ (30 - l).toNat) - 2 * 4 ^ (30 - l).toNat * ((4 ^ (k - (30 - l).toNat) : Nat) : Int) := by
    have e := four_mul hj
    rw [Int.mul_assoc, ← e]; omega
  rw [ev] at N8
  have N9 := news_pick N8
  refine seg_loop (L' := L') W _ _ (30 - l).toNat rfl _ rfl rfl ?_ ?_ hLc hD h0c h0D ?_ _ s₀ _ _ _ _ _ _ _ _ _ _ _ _ _ (aLoc x T) cn (fun r hr => V.child hj hr) ⟨_, _, rfl⟩ hk hcn.symm ?zF N9 ?za ?zb ?zc ?zd
  case za => assumption
  case zb => assumption
  case zc => assumption
  case zd => assumption
  case zF =>
    refine fr_map F8 fun z => ?_
    unfold gLoc
    have ne : Str.ofString "cell_id" ≠ Str.ofString "end" := by decide
    by_cases hz : z = Str.ofString "cell_id"
    · subst hz; rw [if_neg ne]; rfl
    · simp only [hz, if_false]
  · first
      | (show A.depth + 1 + 8 < _; omega)
      | (show A.depth + 2 + 8 < _; omega)
      | (show A.depth + 0 + 8 < _; omega)
  · first
      | (show A.units + 3 + 20 < _; omega)
      | (show A.units + 4 + 20 < _; omega)
      | (show A.units + 5 + 20 < _; omega)
      | (show A.units + 6 + 20 < _; omega)
      | (show A.units + 7 + 20 < _; omega)
      | (show A.units + 8 + 20 < _; omega)
      | trace_state
  · intro s₁ s₂ m2 hgm hF
    refine seg_leaf (.ok .next) ?_
    exact seg_end (.ok (.ret .none)) ⟨rfl, rfl, hgm⟩
end

-- C5
section
variable {w : World} {A : Around} {s : Shared} {name qual : Str} {params : Arguments} {body : List Stmt} {scope : Scope} {dV kV doc pm cdv ct oc : Value} {an od : Option Addr} {osl : Array (Option Value)} {f : Addr} {Q E : Value → Shared → Prop}
/-- a generator's def with a starred parameter is called: the tuple of the rest, the frame and the generator are made -/
theorem code_genW {R : Result → Shared → Prop} {vs rest : List Value} {g₁ : Addr → Option (List (Str × Value))} {binds : Addr → List (Str × Value)} (W : Wd w s.heap)
    (ho : (K w.params).lookup f = some ⟨oc, od, .func (fnOf name qual params body scope dV kV doc pm an cdv ct), osl⟩) (hcd : codeIn (K w.params) cdv qual = true) (hroom : A.depth < recursionLimit)
    (hp : peek1 (K w.params) ⟨rr.prog, w.params⟩ (bindArgs (fnOf name qual params body scope dV kV doc pm an cdv ct) ⟨vs, []⟩) = some (tupObj rest, g₁))
    (hg : ∀ D, g₁ D = some (binds D)) (hloc : ∀ D, ∀ y ∈ binds D, scope.names.lookup y.1 = some .local)
    (h : ∀ D L' h' tk a, s.heap.objs.size ≤ D → D < L' → L' < a → Grows s.heap h' → Fr s.heap L' h' (fun y => (binds D).reverse.lookup y) → News s.heap L' h' [(D, tupObj rest)] → h'.IsGen a s.gens.size →
      R (.ok (.ret (.ref a))) { s with heap := h', gens := s.gens.push (.fresh (.func body (envOf qual scope L' f cdv))), toks := tk })
    (hco : scope.isCoroutine = false) (hgen : scope.isGenerator = true) (hk : scope.kind = .function)
    (hcell : ∀ x ∈ scope.names, x.2 ≠ .cell) : codeAny (model rr.prog w) A (.call (.ref f) ⟨vs, []⟩) R s := by
  obtain ⟨mean, mg, mb, T⟩ := W.T
  refine codeAny_call_generator (fd := fnOf name qual params body scope dV kV doc pm an cdv ct) (body := body) hroom (W.X _ _ ho) rfl hco hgen rfl (codeRec_of W.X hcd) ?_
  refine wp_peek1 (o := tupObj rest) (r := binds) W.X ?_ _ g₁ hp hg
  have g1 : Grows s.heap (s.heap.push (tupObj rest)) := fun b o e => Heap.get?_push_of_some _ e
  refine wpAny_newFunctionEnv (hcell) (hloc s.heap.objs.size) (fun h₁ hns hsb => ⟨(T.nolimit.keeps g1).fresh _ hsb, ?_⟩) hk
  have hk₁ : Grows (s.heap.push (tupObj rest)) h₁ := fun b o e => hsb.extBut b o (Nat.ne_of_lt (Heap.lt_size e)) (Heap.get?_push_of_some _ e)
  have hD : (s.heap.push (tupObj rest)).get? s.heap.objs.size = some (tupObj rest) := Heap.get?_push_size s.heap rfl
  have lt : (s.heap.push (tupObj rest)).objs.size < h₁.objs.size := by
    obtain ⟨oL, es, ep, hL, r⟩ := hns
    exact Heap.lt_size hL
  refine h s.heap.objs.size (s.heap.push (tupObj rest)).objs.size _ _ h₁.objs.size (Nat.le_refl _) (by simp) lt ?_ ?_ ?_ ?_
  · exact fun b o e => Heap.get?_push_of_some _ (hk₁ _ _ (g1 _ _ e))
  · exact fr_grows (h := h₁) ⟨hns, fun b o e => hk₁ b o (g1 b o e), by simp⟩ (fun b o e => Heap.get?_push_of_some _ e)
  · intro p hp
    rcases List.mem_cons.mp hp with rfl | hp
    · refine ⟨Heap.get?_push_of_some _ (hk₁ _ _ hD), by simp, ?_⟩
      cases e : s.heap.get? s.heap.objs.size with
      | none => rfl
      | some o => exact absurd (Heap.lt_size e) (Nat.lt_irrefl _)
    · cases hp
  · exact ⟨_, _, _, Heap.get?_push_size _ rfl, rfl, rfl, rfl⟩
theorem code_children {R : Result → Shared → Prop} {x : Addr} {l : Int} {t : Tok} (W : Wd w s.heap) (hd : A.depth < recursionLimit)
    (h : ∀ T L' h' tk a, s.heap.objs.size ≤ T → T < L' → L' < a → Grows s.heap h' → Fr s.heap L' h' (aLoc x T) → News s.heap L' h' [(T, tupObj [.int l t])] → h'.IsGen a s.gens.size →
      R (.ok (.ret (.ref a))) { s with heap := h', gens := s.gens.push (.fresh (fCode L')), toks := tk }) :
    codeAny (model rr.prog w) A (.call (.ref 299) ⟨[.ref x, .int l t], []⟩) R s := by
  refine' code_genW ?W ?ho ?hcd ?room ?hp ?hg ?hloc ?h ?c1 ?c2 ?c3 ?c4
  case W => assumption
  case ho => k_is
  case hcd => k_is
  case room => exact hd
  case hp => exact rfl
  case hg => intro D; exact rfl
  case hloc => intro D; exact locs rfl
  case c1 => exact rfl
  case c2 => exact rfl
  case c3 => exact rfl
  case c4 => decide
  case h =>
    intro D L' h' tk a h1 h2 h3 h4 h5 h6 h7
    exact h D L' h' tk a h1 h2 h3 h4 (fr_map h5 fun z => by
      show List.lookup z [((Str.ofString "args"), Value.ref D), ((Str.ofString "self"), Value.ref x)] = _
      have ne : Str.ofString "self" ≠ Str.ofString "args" := by decide
      unfold aLoc
      by_cases hz : z = Str.ofString "args"
      · subst hz; simp [List.lookup, ne.symm]
      · by_cases hz2 : z = Str.ofString "self"
        · have b : (Str.ofString "self" == Str.ofString "args") = false := by decide
          subst hz2; simp [List.lookup, b]
        · simp only [List.lookup, beq_false_of_ne hz, beq_false_of_ne hz2, hz, hz2, if_false]) h6 h7
end

section
variable {prog : Program} {w : World} {A : Around} {E : Value → Shared → Prop} {s : Shared}
/-- one step of a generator that ends by its function's end -/
theorem pyNext_genF {a : Addr} {g n : Nat} {gs : GenState} {P : Nat → Shared → Shared → Prop} {Y : Protocol} {Q : Option Value → Shared → Prop} (hh : A.handled = none)
    (hl : s.heap.NoLimit) (hroom : A.depth < recursionLimit) (hg : s.heap.IsGen a g) (hgs : s.gens[g]? = some gs)
    (hgo : gs.Goes (model prog w) A.in1 (fun n s₀ r s₁ => r = .ok (.ret .none) ∧ P n s₀ s₁) Y n (.send .none) (s.setGen g .running))
    (hY : ∀ v s₁ gs', gs'.bare = true → Y (n - 1) (s.setGen g .running) v s₁ (fun r' s'' => match n with
        | 0 => False
        | m + 1 => gs'.Goes (model prog w) A.in1 (fun n s₀ r s₁ => r = .ok (.ret .none) ∧ P n s₀ s₁) Y m r' s'') → Q (some v) (s₁.setGen g gs'))
    (hP : ∀ s₁, P n (s.setGen g .running) s₁ → ∀ h', Grows s₁.heap h' → Q none { s₁.setGen g .finished with heap := h' }) :
    wpAny (model prog w) A (pyNext (.ref a)) Q E s := by
  unfold pyNext
  refine wpAny_bind (wpAny_attempt (wpAny_callSpecial?_slot (name := Str.ofString "__next__") hg.typeIs slot_gen_next
    (wpAny_call_entry slot_gen_next hg.typeIs entry_gen_next ?_ (args_gen_next _))))
  show wpAny _ A.in1 (Builtin.Generator.genWake (.ref a) (.send .none)) _ _ s
  unfold Builtin.Generator.genWake
  refine wpAny_bind (wpAny_holding (wpAny_genNumber hg (wpAny_bind (wpAny_genState hgs ?_))))
  cases gs with
  | running => exact hgo.elim
  | finished => exact hgo.elim
  | _ =>
    refine wpAny_bind (wpAny_roomToWake hl hroom ?_)
    show wpAny _ A.in1 (.resume g (.send .none) [] _) _ _ s
    refine wpAny_resumeQ hgs hgo (fun x s₁ hx => ?_) (fun v s₁ gs' hb hv => wpAny_pure ⟨v, rfl, wpAny_pure (hY v s₁ gs' hb hv)⟩)
    obtain ⟨rfl, hp⟩ := hx
    show wpAny _ A.in1 (newExc (.type "StopIteration") [] >>= _) _ _ _
    refine wpAny_bind ?_
    simp only [newExc, newTuple]
    refine wpAny_bind (wpAny_newObj_type ?_ (by size_fits))
    refine wpAny_bind (m := firstArgMember _ _) (wpAny_of_eq (a := Value.none) (by first | rfl | (simp only [firstArgMember]; rfl)) ?_)
    refine wpAny_newObj_type ?_ (by size_fits)
    simp only [raiseNew]
    refine wpAny_bind (wpAny_bind (wpAny_handled ?_))
    first | rw [show A.in1.handled = none from hh] | rw [hh]
    refine wpAny_throw ?_
    refine wpAny_bind (wpAny_isInstance (T := "StopIteration") (b := true) ⟨_, Heap.get?_push_size _ rfl, rfl⟩ isSubtype_stop ?_)
    exact wpAny_pure (hP s₁ hp _ fun b o hb => Heap.get?_push_of_some _ (Heap.get?_push_of_some _ hb))
end

theorem Keeps2.refl (Lc D : Nat) (h : Heap) : Keeps2 Lc D h h := fun _ _ _ _ e => e
theorem Keeps2.trans {Lc D : Nat} {h h' h'' : Heap} (a : Keeps2 Lc D h h') (b : Keeps2 Lc D h' h'') : Keeps2 Lc D h h'' := fun x o h1 h2 e => b x o h1 h2 (a x o h1 h2 e)
def Keeps1 (L' : Nat) (h h' : Heap) : Prop := ∀ b o, b ≠ L' → h.get? b = some o → h'.get? b = some o
def Bare (g : Array GenState) : Prop := ∀ y ∈ g, y.bare = true
theorem Bare.set {g : Array GenState} (b : Bare g) (k : Nat) {x : GenState} (hx : x.bare = true) : Bare (g.setIfInBounds k x) := by
  intro y hy
  obtain ⟨i, hi, e⟩ := Array.mem_iff_getElem.mp hy
  have hi' : i < g.size := by simpa using hi
  rw [Array.getElem_setIfInBounds hi'] at e
  split at e
  · exact e ▸ hx
  · exact e ▸ b _ (Array.getElem_mem _)
theorem Bare.push {g : Array GenState} (b : Bare g) {x : GenState} (hx : x.bare = true) : Bare (g.push x) := by
  intro y hy
  rcases Array.mem_push.mp hy with h | h
  · exact b _ h
  · exact h ▸ hx

/-- a generator of children that will hand on n more -/
structure GenAt (w : World) (A : Around) (Lc D L' a g : Nat) (eid stp : Int) (n : Nat) (s : Shared) : Prop where
  is : s.heap.IsGen a g
  n1 : a ≠ L'
  n2 : a ≠ Lc
  n3 : a ≠ D
  go : ∃ gs, s.gens[g]? = some gs ∧ ∀ s'', Keeps2 Lc D s.heap s''.heap → gs.Goes (model rr.prog w) A (gR L') (gY Lc D L' eid stp) n (.send .none) s''
theorem GenAt.stays {w : World} {A : Around} {Lc D L' a g n : Nat} {eid stp : Int} {s s' : Shared} (G : GenAt w A Lc D L' a g eid stp n s) (k : Keeps2 Lc D s.heap s'.heap) (e : s'.gens = s.gens) : GenAt w A Lc D L' a g eid stp n s' := by
  obtain ⟨⟨o, nm, qn, ho, r⟩, n1, n2, n3, gs, h1, h2⟩ := G
  exact ⟨⟨o, nm, qn, k _ _ n2 n3 ho, r⟩, n1, n2, n3, gs, e ▸ h1, fun s'' k' => h2 s'' (k.trans k')⟩
section
variable {w : World} {A : Around} {E : Value → Shared → Prop} {s : Shared}
theorem gen_next {Lc D L' a g n : Nat} {eid stp : Int} {Q : Option Value → Shared → Prop} (G : GenAt w A.in1 Lc D L' a g eid stp n s) (hh : A.handled = none) (hl : s.heap.NoLimit) (hroom : A.depth < recursionLimit) (hb : Bare s.gens)
    (hmore : ∀ m y dy hs t1 t2 k h' g' tk', n = m + 1 → h'.get? y = some (instObj 453 dy) → h'.get? dy = some (dictOf [⟨hs, .str (.ofString "_CellId__id") t1, .int (eid - stp * (m + 1)) t2⟩] k) → L' < y → L' < dy → Keeps1 L' s.heap h' → Bare g' →
      GenAt w A.in1 Lc D L' a g eid stp m { s with heap := h', gens := g', toks := tk' } → Q (some (.ref y)) { s with heap := h', gens := g', toks := tk' })
    (hdone : n = 0 → ∀ h' g' tk', Keeps1 L' s.heap h' → Bare g' → Q none { s with heap := h', gens := g', toks := tk' }) :
    wpAny (model rr.prog w) A (pyNext (.ref a)) Q E s := by
  obtain ⟨is, n1, n2, n3, gs, h1, h2⟩ := G
  refine pyNext_genF (P := fun n s₀ s' => n = 0 ∧ GM L' s₀ s') hh hl hroom is h1 (h2 (s.setGen g .running) (Keeps2.refl _ _ _)) ?_ ?_
  · intro v s₁ gs' hbare hY
    obtain ⟨y, dy, hs, t1, t2, k, rfl, hy, hdy, ly, ldy, ⟨⟨h', tk', rfl⟩, hk⟩, hkap⟩ := hY
    cases n with
    | zero => exact (hkap _ (Keeps2.refl _ _ _)).elim
    | succ m =>
      have hlen : g < s.gens.size := by
        rcases Nat.lt_or_ge g s.gens.size with h | h
        · exact h
        · rw [Array.getElem?_eq_none h] at h1; cases h1
      refine hmore m y dy hs t1 t2 k h' _ tk' rfl hy hdy ly ldy hk ?_ ⟨?_, n1, n2, n3, gs', ?_, ?_⟩
      · exact (hb.set g (x := .running) rfl).set g hbare
      · obtain ⟨o, nm, qn, ho, r⟩ := is
        exact ⟨o, nm, qn, hk _ _ n1 ho, r⟩
      · simp [Shared.setGen, hlen]
      · intro s'' k2
        exact hkap s'' k2
  · intro s₁ hp h' hg
    obtain ⟨rfl, ⟨⟨h₁, tk', rfl⟩, hk⟩⟩ := hp
    exact hdone rfl h' _ tk' (fun b o hb' e => hg _ _ (hk b o hb' e)) ((hb.set g (x := .running) rfl).set g (x := .finished) rfl)
end

-- C6
-- my own words: a pure call is entered; the room; the world; a cell; the state behind a call
-- names out of a locals map that is given by facts
local macro_rules | `(tactic| walk_at "eval Name") => `(tactic| (k_here; k_dflt (refine' ld ?k1 ?k2 ?_; (case k1 => k_asm); (case k2 => assumption); k_whole)))

def forBody : Stmt → List Stmt
  | .For _ _ b _ _ => b
  | _ => []
def ifElse : Stmt → List Stmt
  | .If _ _ b _ => b
  | _ => []
@[reducible] noncomputable def dn_b : {x : List Stmt // forBody (stmtAt CellUnion_denormalize_b.1 5) = x} := by refine ⟨?x, ?h⟩; case h => conv => lhs; whnf
@[reducible] noncomputable def dn_for : {x : Stmt // stmtAt (ifElse (stmtAt dn_b.1 3)) 0 = x} := by refine ⟨?x, ?h⟩; case h => conv => lhs; whnf
def forTgt : Stmt → Expr
  | .For t _ _ _ _ => t
  | _ => .Constant .none 0 default
@[reducible] noncomputable def dn_tgt : {x : Expr // forTgt dn_for.1 = x} := by refine ⟨?x, ?h⟩; case h => conv => lhs; whnf
@[reducible] noncomputable def dn_ab : {x : List Stmt // forBody dn_for.1 = x} := by refine ⟨?x, ?h⟩; case h => conv => lhs; whnf
noncomputable abbrev dEnv (L : Addr) : Env := envOf (.ofString "CellUnion.denormalize") CellUnion_denormalize_s.1 L 573 (.ref 572)

def KeepsL (av : List Nat) (h h' : Heap) : Prop := ∀ (b : Nat) o, b ∉ av → h.get? b = some o → h'.get? b = some o
theorem KeepsL.refl (av : List Nat) (h : Heap) : KeepsL av h h := fun _ _ _ e => e
theorem KeepsL.trans {av : List Nat} {h h' h'' : Heap} (a : KeepsL av h h') (b : KeepsL av h' h'') : KeepsL av h h'' := fun x o n e => b x o n (a x o n e)
theorem KeepsL.mono {av av' : List Nat} {h h' : Heap} (a : KeepsL av h h') (s : ∀ x ∈ av, x ∈ av') : KeepsL av' h h' := fun x o n e => a x o (fun z => n (s _ z)) e
theorem KeepsL.of2 {Lc D : Nat} {h h' : Heap} (k : Keeps2 Lc D h h') : KeepsL [Lc, D] h h' := fun x o n e => k x o (fun z => n (by simp [z])) (fun z => n (by simp [z])) e
theorem KeepsL.to2 {Lc D : Nat} {h h' : Heap} (k : KeepsL [Lc, D] h h') : Keeps2 Lc D h h' := fun x o n1 n2 e => k x o (by simp [n1, n2]) e
theorem KeepsL.of1 {L : Nat} {h h' : Heap} (k : Keeps1 L h h') : KeepsL [L] h h' := fun x o n e => k x o (fun z => n (by simp [z])) e
theorem KeepsL.ofG {av : List Nat} {h h' : Heap} (k : Grows h h') : KeepsL av h h' := fun _ _ _ e => k _ _ e
/-- a cell that lies in a heap, apart from some addresses -/
def CellX (av : List Nat) (h : Heap) (y : Addr) (i : Int) : Prop := ∃ dx hs t1 t2 n, h.get? y = some (instObj 453 dx) ∧ h.get? dx = some (dictOf [⟨hs, .str (.ofString "_CellId__id") t1, .int i t2⟩] n) ∧ y ∉ av ∧ dx ∉ av
theorem CellX.keeps {av : List Nat} {h h' : Heap} {y : Addr} {i : Int} (c : CellX av h y i) (k : KeepsL av h h') : CellX av h' y i := by
  obtain ⟨dx, hs, t1, t2, n, a, b, n1, n2⟩ := c
  exact ⟨dx, hs, t1, t2, n, k _ _ n1 a, k _ _ n2 b, n1, n2⟩
theorem CellX.at {av : List Nat} {h : Heap} {y : Addr} {i : Int} (c : CellX av h y i) : CellAt h y i := by
  obtain ⟨dx, hs, t1, t2, n, a, b, _⟩ := c
  exact ⟨dx, hs, t1, t2, n, a, b⟩
noncomputable def CellsX (av : List Nat) (h : Heap) : List Value → List Int → Prop
  | [], [] => True
  | v :: vs, i :: is => (∃ y, v = .ref y ∧ CellX av h y i) ∧ CellsX av h vs is
  | _, _ => False
theorem CellsX.keeps {av : List Nat} {h h' : Heap} (k : KeepsL av h h') : ∀ {vs : List Value} {is : List Int}, CellsX av h vs is → CellsX av h' vs is
  | [], [], _ => trivial
  | _ :: _, _ :: _, ⟨⟨y, e, c⟩, r⟩ => ⟨⟨y, e, c.keeps k⟩, CellsX.keeps k r⟩
theorem CellsX.anti {av av' : List Nat} {h : Heap} (s : ∀ x ∈ av, x ∈ av') : ∀ {vs : List Value} {is : List Int}, CellsX av' h vs is → CellsX av h vs is
  | [], [], _ => trivial
  | _ :: _, _ :: _, ⟨⟨y, e, dx, hs, t1, t2, n, a, b, n1, n2⟩, r⟩ => ⟨⟨y, e, dx, hs, t1, t2, n, a, b, fun z => n1 (s _ z), fun z => n2 (s _ z)⟩, CellsX.anti s r⟩
theorem CellsX.append {av : List Nat} {h : Heap} : ∀ {vs : List Value} {is : List Int} {vs' : List Value} {is' : List Int}, CellsX av h vs is → CellsX av h vs' is' → CellsX av h (vs ++ vs') (is ++ is')
  | [], [], _, _, _, b => b
  | _ :: _, _ :: _, _, _, ⟨a, r⟩, b => ⟨a, CellsX.append r b⟩
theorem CellsX.length {av : List Nat} {h : Heap} : ∀ {vs : List Value} {is : List Int}, CellsX av h vs is → vs.length = is.length
  | [], [], _ => rfl
  | _ :: _, _ :: _, ⟨_, r⟩ => congrArg (· + 1) (CellsX.length r)
/-- all that stands beside a frozen heap and some addresses -/
def restA (h₀ : Heap) (av : List Nat) (h : Heap) : List (Addr × Obj) := (List.range h.objs.size).filterMap fun b => if b ∈ av ∨ (h₀.get? b).isSome then none else (h.get? b).map fun o => (b, o)
theorem restA_mem {h₀ h : Heap} {av : List Nat} {b : Nat} {o : Obj} (h1 : b ∉ av) (h2 : h₀.get? b = none) (h3 : h.get? b = some o) : (b, o) ∈ restA h₀ av h := by
  unfold restA
  refine List.mem_filterMap.mpr ⟨b, List.mem_range.mpr (Heap.lt_size h3), ?_⟩
  rw [if_neg (by rw [h2]; simpa using h1), h3]; rfl
theorem restA_spec {h₀ h : Heap} {av : List Nat} {p : Addr × Obj} (hp : p ∈ restA h₀ av h) : h.get? p.1 = some p.2 ∧ p.1 ∉ av ∧ h₀.get? p.1 = none := by
  obtain ⟨b, _, e⟩ := List.mem_filterMap.mp hp
  split at e
  · cases e
  · rename_i q
    obtain ⟨o, ho, e⟩ := Option.map_eq_some_iff.mp e
    subst e
    refine ⟨ho, fun x => q (.inl x), ?_⟩
    cases z : h₀.get? b with
    | none => rfl
    | some o' => exact absurd (.inr (by rw [z]; rfl)) q
/-- the ledger with a list ahead of all the rest -/
theorem ledger {h₀ h : Heap} {L acc : Addr} {o : Obj} (ha : h.get? acc = some o) (ne : acc ≠ L) (h0 : h₀.get? acc = none) : News h₀ L h ((acc, o) :: restA h₀ [L, acc] h) := by
  intro p hp
  rcases List.mem_cons.mp hp with rfl | hp
  · exact ⟨ha, ne, h0⟩
  · have ⟨a, b, c⟩ := restA_spec hp
    exact ⟨a, fun z => b (by simp [z]), c⟩
theorem ledger_ne {h₀ h : Heap} {L acc : Nat} : ∀ p ∈ restA h₀ [L, acc] h, p.1 ≠ acc := fun p hp z => (restA_spec hp).2.1 (by simp [z])
theorem ledger_keeps {h₀ h h' : Heap} {L acc : Addr} {m : Str → Option Value} {news : List (Addr × Obj)} (F0 : Grows h₀ h) (F : Fr h₀ L h' m) (N : News h₀ L h' news) (sub : ∀ p ∈ restA h₀ [L, acc] h, p ∈ news) : KeepsL [L, acc] h h' := by
  intro b o hb ho
  cases e : h₀.get? b with
  | none => exact (N _ (sub _ (restA_mem hb e ho))).1
  | some o' =>
    have := F0 _ _ e
    rw [ho] at this
    cases this
    exact F.keep _ _ e
theorem my_append {prog : Program} {w : World} {A : Around} {E : Value → Shared → Prop} {s : Shared} {h₀ : Heap} {L D : Addr} {m : Str → Option Value} {cn : List (Addr × Obj)} {its : Array Value} {n : Nat} {x : Value} {Q : Value → Shared → Prop} (F : Fr h₀ L s.heap m) (N : News h₀ L s.heap ((D, listOf its n) :: cn)) (ne : ∀ p ∈ cn, p.1 ≠ D)
    (hz : its.size ≤ sizeLine) (h : ∀ h', Fr h₀ L h' m → News h₀ L h' ((D, listOf (its.push x) (n + 1)) :: cn) → Q .none { s with heap := h' }) : wpAny (model prog w) A (call (.builtin "list.append") [.ref D, x]) Q E s := by
  have z := N (D, listOf its n) (.head _)
  exact append_at (hsz := hz) z.1 fun h' hs ho' => h h' (F.change hs z.2.1 z.2.2) (news_set (pre := []) N (fun _ h => nomatch h) ne hs ho')
local macro_rules | `(tactic| walk_at "call builtin:list.append") => `(tactic| (k_here; k_dflt (refine' my_append ?F ?N ?ne ?z ?_; (case F => k_asm); (case N => k_asm); (case ne => assumption); (case z => first | omega | assumption); k_whole); intro h' F' N'; (try k_sweep)))
/-- the ids of the first q children -/
def kids (base stp : Int) (q : Nat) : List Int := (List.range q).map fun (k : Nat) => base + stp * (k : Int)
theorem kids_succ (base stp : Int) (q : Nat) : kids base stp (q + 1) = kids base stp q ++ [base + stp * (q : Int)] := by simp [kids, List.range_succ]
theorem kids_length (base stp : Int) (q : Nat) : (kids base stp q).length = q := by simp [kids]
theorem fr_keeps1 {h₀ h h' : Heap} {L L' : Nat} {m : Str → Option Value} (F : Fr h₀ L h m) (k : Keeps1 L' h h') (ne : L ≠ L') (h0 : h₀.get? L' = none) : Fr h₀ L h' m := by
  obtain ⟨oL, es, ep, hL, r⟩ := F.ns
  refine ⟨⟨oL, es, ep, k _ _ ne hL, r⟩, fun b o e => k b o (fun q => ?_) (F.keep b o e), F.above⟩
  rw [q, h0] at e; cases e

section
variable {w : World} {A : Around} {h₀ : Heap} {s : Shared} {E : Value → Shared → Prop}
theorem turn_append {L acc y : Addr} {m : Str → Option Value} {its : Array Value} {n : Nat} {cn : List (Addr × Obj)} {P : Flow → Shared → Prop} {E' : Value → Shared → Prop} (X : (K w.params).In h₀) (F : Fr h₀ L s.heap m) (N : News h₀ L s.heap ((acc, listOf its n) :: cn)) (ne : ∀ p ∈ cn, p.1 ≠ acc)
    (hac : m (.ofString "cell_ids") = some (.ref acc)) (hz : its.size ≤ sizeLine) (hu : A.units + 60 < cLine)
    (h : ∀ h' tk', Fr h₀ L h' (fun z => if z = .ofString "child" then some (.ref y) else m z) → News h₀ L h' ((acc, listOf (its.push (.ref y)) (n + 1)) :: cn) → P .next { s with heap := h', toks := tk' }) :
    wpAny (model rr.prog w) A (assign dn_tgt.1 (dEnv L) (.ref y)) (fun _ s₂ => wpAny (model rr.prog w) A (execs dn_ab.1 (dEnv L)) P E' s₂) E s := by
  k_steps
  rename Fr _ _ _ _ => F8
  rename News _ _ _ _ => N8
  exact h _ _ F8 N8
theorem inner_for {L acc x : Addr} {i l : Int} {k n : Nat} {t : Tok} {m0 : Str → Option Value} {its : Array Value} {Q : Flow → Shared → Prop} (W : Wd w h₀) (V : Vld i k) (c : CellAt h₀ x i) (h0 : 30 - (k : Int) ≤ l) (h1 : l ≤ 30)
    (hd : A.depth + 24 < recursionLimit) (hu : A.units + 60 < cLine) (hh : A.handled = none) (F : Fr h₀ L s.heap m0) (hx : m0 (.ofString "cell_id") = some (.ref x)) (hl : m0 (.ofString "new_level") = some (.int l t)) (hac : m0 (.ofString "cell_ids") = some (.ref acc))
    (ha : s.heap.get? acc = some (listOf its n)) (ne : acc ≠ L) (h0a : h₀.get? acc = none) (hb : Bare s.gens) (hz : its.size + 4 ^ (k - (30 - l).toNat) ≤ sizeLine)
    (h : ∀ vs' h' g' tk' m' n', Fr h₀ L h' m' → (∀ z, z ≠ .ofString "child" → m' z = m0 z) → h'.get? acc = some (listOf (its ++ vs'.toArray) n') → CellsX [L, acc] h' vs' (kids (i - 4 ^ k + 4 ^ (30 - l).toNat) (2 * 4 ^ (30 - l).toNat) (4 ^ (k - (30 - l).toNat))) →
      KeepsL [L, acc] s.heap h' → Bare g' → Q .next { s with heap := h', gens := g', toks := tk' }) :
    wpAny (model rr.prog w) A (PySem.exec dn_for.1 (dEnv L)) Q E s := by
  obtain ⟨mean, mg, mb, T9⟩ := W.T
  have X := W.X
  have ⟨dx, hs, t1, t2, nn, c1, c2⟩ := c
  have N := ledger ha ne h0a
  have hne := ledger_ne (h₀ := h₀) (h := s.heap) (L := L) (acc := acc)
  have lL := fr_lt F
  have lA : (acc : Nat) < s.heap.objs.size := Heap.lt_size ha
  have h0L : h₀.objs.size ≤ L := F.above
  have h0Ln : h₀.get? L = none := by
    cases e : h₀.get? L with
    | none => rfl
    | some o => exact absurd (Heap.lt_size e) (Nat.not_lt.mpr h0L)
  have hj : (30 - l).toNat ≤ k := by omega
  generalize hj0 : (30 - l).toNat = j at *
  generalize hN0 : 4 ^ (k - j) = N0 at *
  generalize hcn : restA h₀ [L, acc] s.heap = cn at N hne
  refine wpAny_For ?_
  k_steps
  refine wpAny_call (code_children ?_ ?_ ?_)
  · exact W.keeps F.keep
  · omega
  intro T L' h' tk a hT hTL hLa hg F1 N1 is
  dsimp only at F1 N1 is hT hg ⊢
  refine wpAny_pyIter_gen is ?_
  have F1' : Fr h₀ L' h' (aLoc x T) := ⟨F1.ns, fun b o e => F1.keep _ _ (F.keep _ _ e), Nat.le_trans (Nat.le_trans h0L (Nat.le_of_lt lL)) F1.above⟩
  have lLT : (L : Nat) < T := Nat.lt_of_lt_of_le lL hT
  have lAT : (acc : Nat) < T := Nat.lt_of_lt_of_le lA hT
  have h0L' : h₀.get? L' = none := by
    cases e : h₀.get? L' with
    | none => rfl
    | some o => exact absurd (Heap.lt_size e) (Nat.not_lt.mpr (Nat.le_trans h0L (Nat.le_of_lt (Nat.lt_trans lLT hTL))))
  have G0 : GenAt w A.in1 L acc L' a s.gens.size (i + 4 ^ k + 4 ^ j) (2 * 4 ^ j) N0 { s with heap := h', gens := s.gens.push (.fresh (fCode L')), toks := tk } := by
    refine ⟨is, Nat.ne_of_gt hLa, ?_, ?_, .fresh (fCode L'), ?_, fun s'' k2 => ⟨rfl, ?_⟩⟩
    · exact Nat.ne_of_gt (Nat.lt_trans lLT (Nat.lt_trans hTL hLa))
    · exact Nat.ne_of_gt (Nat.lt_trans lAT (Nat.lt_trans hTL hLa))
    · simp
    · have z := seg_body (A := A.in1) (Lc := L) (D := acc) (L' := L') (t := t) W V c h0 h1 (by rw [depth_in1]; omega) (by rw [units_in1]; omega) (Nat.lt_trans lLT hTL) (Nat.lt_trans lAT hTL) h0Ln h0a T (.inr hTL) s'' (fr_keeps2 F1' k2 (Nat.lt_trans lLT hTL) (Nat.lt_trans lAT hTL) h0Ln h0a) ?_
      · rw [hj0, hN0] at z; exact z
      · intro p hp
        rcases List.mem_cons.mp hp with rfl | hp
        · have z := N1 _ (.head _)
          refine ⟨k2 _ _ (Nat.ne_of_gt lLT) (Nat.ne_of_gt lAT) z.1, z.2.1, ?_⟩
          cases e : h₀.get? T with
          | none => rfl
          | some o => have := F.keep _ _ e; rw [z.2.2] at this; cases this
        · cases hp
  refine codeAny_forLoop (fun r st => ∃ m' vs' n' h' g' tk', st = { s with heap := h', gens := g', toks := tk' } ∧ r ≤ N0 ∧ Fr h₀ L h' m' ∧ (∀ z, z ≠ .ofString "child" → m' z = m0 z) ∧ h'.get? acc = some (listOf (its ++ vs'.toArray) n') ∧
    CellsX [L, acc, L'] h' vs' (kids (i - 4 ^ k + 4 ^ j) (2 * 4 ^ j) (N0 - r)) ∧ KeepsL [L, acc] s.heap h' ∧ Bare g' ∧ GenAt w A.in1 L acc L' a s.gens.size (i + 4 ^ k + 4 ^ j) (2 * 4 ^ j) r st) ?turn N0 ?init
  case init =>
    refine ⟨m0, [], n, h', _, tk, rfl, Nat.le_refl _, fr_grows F hg, fun _ _ => rfl, ?_, ?_, KeepsL.ofG hg, hb.push rfl, G0⟩
    · rw [hg _ _ ha]; simp
    · rw [Nat.sub_self]; exact trivial
  case turn =>
    intro r st ⟨m', vs', n', h', g', tk', e, hr, F2, hm, ha2, hc, hk, hb2, G⟩
    subst e
    have kkp : ∀ h2, Keeps1 L' h' h2 → KeepsL [L, acc] s.heap h2 := fun h2 k1 b o hb e => k1 b o (Nat.ne_of_lt (Nat.lt_trans (Nat.lt_of_lt_of_le (Heap.lt_size e) hT) hTL)) (hk b o hb e)
    have nL : (L : Nat) ≠ L' := Nat.ne_of_lt (Nat.lt_trans lLT hTL)
    have nA : (acc : Nat) ≠ L' := Nat.ne_of_lt (Nat.lt_trans lAT hTL)
    have lenv : vs'.length = N0 - r := by rw [hc.length, kids_length]
    refine gen_next G hh (T9.nolimit.keeps F2.keep) (by omega) hb2 ?_ ?_
    · intro r' y dy hs' u1 u2 kk h2 g2 tk2 er hy hdy ly ldy k1 b2 G2
      subst er
      have F3 := fr_keeps1 F2 k1 nL h0L'
      have ha3 := k1 _ _ nA ha2
      have N3 := ledger (h₀ := h₀) ha3 ne h0a
      have hne3 := ledger_ne (h₀ := h₀) (h := h2) (L := L) (acc := acc)
      have hsz : (its ++ vs'.toArray).size ≤ sizeLine := by simp; omega
      have hac3 : m' (.ofString "cell_ids") = some (.ref acc) := (hm _ (by decide)).trans hac
      generalize hcn3 : restA h₀ [L, acc] h2 = cn3 at N3 hne3
      refine turn_append X F3 N3 hne3 hac3 hsz hu fun h4 tk4 F4 N4 => ?_
      have hk4 : KeepsL [L, acc] h2 h4 := ledger_keeps F3.keep F4 N4 (fun p hp => .tail _ (hcn3 ▸ hp))
      have k13 : KeepsL [L, acc, L'] h' h4 := ((KeepsL.of1 k1).mono (by simp)).trans (hk4.mono (by simp))
      refine ⟨r', Nat.lt_succ_self _, _, vs' ++ [.ref y], n' + 1, h4, g2, tk4, rfl, by omega, F4, ?_, ?_, ?_, ?_, b2, G2.stays hk4.to2 rfl⟩
      · intro z hz'
        rw [if_neg hz']; exact hm z hz'
      · have z := (N4 _ (.head _)).1
        rw [z]
        simp
      · have e : N0 - r' = (N0 - (r' + 1)) + 1 := by omega
        rw [e, kids_succ]
        refine (hc.keeps k13).append ⟨⟨y, rfl, ?_⟩, trivial⟩
        refine CellX.keeps (h := h2) ?_ (hk4.mono (by simp))
        refine ⟨dy, hs', u1, u2, kk, hy, ?_, ?_, ?_⟩
        · rw [hdy]
          have e1 : i + 4 ^ k + 4 ^ j - 2 * 4 ^ j * ((r' : Int) + 1) = i - 4 ^ k + 4 ^ j + 2 * 4 ^ j * ((N0 - (r' + 1) : Nat) : Int) := by
            have e2 := four_mul hj
            rw [hN0] at e2
            have e4 : ((N0 - (r' + 1) : Nat) : Int) = (N0 : Int) - ((r' : Int) + 1) := by omega
            rw [e4, Int.mul_sub, e2]
            rw [show (2 : Int) * 4 ^ j * (N0 : Int) = 4 ^ j * N0 + 4 ^ j * N0 by rw [Int.mul_assoc, Int.two_mul]]
            omega
          rw [e1]
        · simp only [List.mem_cons, List.not_mem_nil, or_false, not_or]
          exact ⟨Nat.ne_of_gt (Nat.lt_trans (Nat.lt_trans lLT hTL) ly), Nat.ne_of_gt (Nat.lt_trans (Nat.lt_trans lAT hTL) ly), Nat.ne_of_gt ly⟩
        · simp only [List.mem_cons, List.not_mem_nil, or_false, not_or]
          exact ⟨Nat.ne_of_gt (Nat.lt_trans (Nat.lt_trans lLT hTL) ldy), Nat.ne_of_gt (Nat.lt_trans (Nat.lt_trans lAT hTL) ldy), Nat.ne_of_gt ldy⟩
      · exact KeepsL.trans (kkp h2 k1) hk4
    · intro er h2 g2 tk2 k1 b2
      subst er
      have F3 := fr_keeps1 F2 k1 nL h0L'
      dsimp only
      refine wpAny_pure ?_
      refine h vs' h2 g2 tk2 m' n' F3 hm (k1 _ _ nA ha2) ?_ ?_ b2
      · exact ((hc.keeps ((KeepsL.of1 k1).mono (by simp))).anti (by simp))
      · exact kkp h2 k1
end

-- C7
-- my own words: a pure call is entered; the room; the world; a cell; the state behind a call

section
variable {prog : Program} {w : World} {A : Around} {E : Value → Shared → Prop} {s : Shared} {h₀ : Heap} {L : Addr} {m : Str → Option Value} {news : List (Addr × Obj)}
theorem max_two_T {a b : Int} {t u : Tok} {Q : Value → Shared → Prop} (hh : A.handled = none) (F : Fr h₀ L s.heap m) (N : News h₀ L s.heap news)
    (h : ∀ h' tk u', Fr h₀ L h' m → News h₀ L h' news → Q (.int (if b > a then b else a) u') { s with heap := h', toks := tk }) :
    wpAny (model prog w) A (call (.builtin "max") [.int a t, .int b u]) Q E s := max_two_N hh F N fun h' tk F' N' => h h' tk _ F' N'
theorem min_two_T {a b : Int} {t u : Tok} {Q : Value → Shared → Prop} (hh : A.handled = none) (F : Fr h₀ L s.heap m) (N : News h₀ L s.heap news)
    (h : ∀ h' tk u', Fr h₀ L h' m → News h₀ L h' news → Q (.int (if b < a then b else a) u') { s with heap := h', toks := tk }) :
    wpAny (model prog w) A (call (.builtin "min") [.int a t, .int b u]) Q E s := min_two_N hh F N fun h' tk F' N' => h h' tk _ F' N'
end
local macro_rules | `(tactic| walk_at "call builtin:max") => `(tactic| (k_here; (with_reducible show wpAny _ _ (call (Value.builtin _) [Value.int _ _, Value.int _ _]) _ _ _); k_dflt (refine' max_two_T ?hh ?F ?N ?_; (case hh => assumption); (case F => k_asm); (case N => k_asm); k_whole); intro h' tk' u' F' N'; (try k_sweep)))
local macro_rules | `(tactic| walk_at "call builtin:min") => `(tactic| (k_here; (with_reducible show wpAny _ _ (call (Value.builtin _) [Value.int _ _, Value.int _ _]) _ _ _); k_dflt (refine' min_two_T ?hh ?F ?N ?_; (case hh => assumption); (case F => k_asm); (case N => k_asm); k_whole); intro h' tk' u' F' N'; (try k_sweep)))
/-- the level at which denormalize parts a cell -/
def newLevel (k : Nat) (mm dd : Int) : Int :=
  if 1 < dd then (if (if 30 - (k : Int) > mm then 30 - (k : Int) else mm) + (30 - ((if 30 - (k : Int) > mm then 30 - (k : Int) else mm) - mm)).fmod dd < 30 then
      (if 30 - (k : Int) > mm then 30 - (k : Int) else mm) + (30 - ((if 30 - (k : Int) > mm then 30 - (k : Int) else mm) - mm)).fmod dd
    else 30) else (if 30 - (k : Int) > mm then 30 - (k : Int) else mm)
theorem newLevel_pos {k : Nat} {mm dd : Int} (h : 1 < dd) : newLevel k mm dd = (if (if 30 - (k : Int) > mm then 30 - (k : Int) else mm) + (30 - ((if 30 - (k : Int) > mm then 30 - (k : Int) else mm) - mm)).fmod dd < 30 then
      (if 30 - (k : Int) > mm then 30 - (k : Int) else mm) + (30 - ((if 30 - (k : Int) > mm then 30 - (k : Int) else mm) - mm)).fmod dd
    else 30) := if_pos h
theorem newLevel_neg {k : Nat} {mm dd : Int} (h : ¬ 1 < dd) : newLevel k mm dd = (if 30 - (k : Int) > mm then 30 - (k : Int) else mm) := if_neg h
theorem newLevel_bounds {k : Nat} {mm dd : Int} (h0 : 0 ≤ mm) (h1 : mm ≤ 30) : 30 - (k : Int) ≤ newLevel k mm dd ∧ newLevel k mm dd ≤ 30 := by
  unfold newLevel
  have e : (if 30 - (k : Int) > mm then 30 - (k : Int) else mm) ≥ 30 - (k : Int) ∧ (if 30 - (k : Int) > mm then 30 - (k : Int) else mm) ≤ 30 := by split <;> omega
  generalize (if 30 - (k : Int) > mm then 30 - (k : Int) else mm) = n0 at e
  split
  · have f := Int.fmod_nonneg_of_pos (30 - (n0 - mm)) (show 0 < dd by omega)
    split <;> omega
  · exact e

section
variable {w : World} {A : Around} {h₀ : Heap} {s : Shared} {E : Value → Shared → Prop}
theorem dn_turn {L acc x : Addr} {i mm dd : Int} {k n : Nat} {tm td : Tok} {m0 : Str → Option Value} {its : Array Value} {P : Flow → Shared → Prop} (W : Wd w h₀) (V : Vld i k) (c : CellAt h₀ x i) (hm0 : 0 ≤ mm) (hm1 : mm ≤ 30) (hd0 : 1 ≤ dd) (hd1 : dd ≤ 3)
    (hd : A.depth + 24 < recursionLimit) (hu : A.units + 60 < cLine) (hh : A.handled = none) (F : Fr h₀ L s.heap m0) (hx : m0 (.ofString "cell_id") = some (.ref x)) (hmm : m0 (.ofString "min_level") = some (.int mm tm)) (hdd : m0 (.ofString "level_mod") = some (.int dd td)) (hac : m0 (.ofString "cell_ids") = some (.ref acc))
    (ha : s.heap.get? acc = some (listOf its n)) (ne : acc ≠ L) (h0a : h₀.get? acc = none) (hb : Bare s.gens) (hz : its.size + 4 ^ (k - (30 - newLevel k mm dd).toNat) ≤ sizeLine)
    (h : ∀ vs' h' g' tk' m' n', Fr h₀ L h' m' → (∀ z, z ≠ .ofString "child" → z ≠ .ofString "level" → z ≠ .ofString "new_level" → m' z = m0 z) → h'.get? acc = some (listOf (its ++ vs'.toArray) n') → CellsX [L, acc] h' vs' (kids (i - 4 ^ k + 4 ^ (30 - newLevel k mm dd).toNat) (2 * 4 ^ (30 - newLevel k mm dd).toNat) (4 ^ (k - (30 - newLevel k mm dd).toNat))) →
      KeepsL [L, acc] s.heap h' → Bare g' → P .next { s with heap := h', gens := g', toks := tk' }) :
    wpAny (model rr.prog w) A (execs dn_b.1 (dEnv L)) P E s := by
  obtain ⟨mean, mg, mb, T9⟩ := W.T
  have X := W.X
  have ⟨dx, hs, t1, t2, nn, c1, c2⟩ := c
  have N := ledger ha ne h0a
  have hne := ledger_ne (h₀ := h₀) (h := s.heap) (L := L) (acc := acc)
  generalize hcn : restA h₀ [L, acc] s.heap = cn at N hne
  have hz1 : its.size ≤ sizeLine := Nat.le_trans (Nat.le_add_right _ _) hz
  have nb := newLevel_bounds (k := k) (dd := dd) hm0 hm1
  have app : newLevel k mm dd = 30 - (k : Int) → ∀ {h' tk m'}, Fr h₀ L h' m' → News h₀ L h' ((acc, listOf (its.push (.ref x)) (n + 1)) :: cn) → (∀ z, z ≠ .ofString "child" → z ≠ .ofString "level" → z ≠ .ofString "new_level" → m' z = m0 z) →
      P .next { s with heap := h', toks := tk } := by
    intro e h' tk m' F8 N8 hm
    have hk8 : KeepsL [L, acc] s.heap h' := ledger_keeps F.keep F8 N8 (fun p hp => .tail _ (hcn ▸ hp))
    refine h [.ref x] h' s.gens tk m' (n + 1) F8 hm ?_ ?_ hk8 hb
    · rw [(N8 _ (.head _)).1]; simp
    · rw [e, show (30 - (30 - (k : Int))).toNat = k by omega, Nat.sub_self]
      refine ⟨⟨x, rfl, dx, hs, t1, t2, nn, F8.keep _ _ c1, ?_, ?_, ?_⟩, trivial⟩
      · rw [F8.keep _ _ c2]
        simp
      · have e1 := Heap.lt_size c1
        have : h₀.objs.size ≤ L := F.above
        simp only [List.mem_cons, List.not_mem_nil, or_false, not_or]
        exact ⟨Nat.ne_of_lt (Nat.lt_of_lt_of_le e1 this), fun z => by rw [z, h0a] at c1; cases c1⟩
      · have e1 := Heap.lt_size c2
        have : h₀.objs.size ≤ L := F.above
        simp only [List.mem_cons, List.not_mem_nil, or_false, not_or]
        exact ⟨Nat.ne_of_lt (Nat.lt_of_lt_of_le e1 this), fun z => by rw [z, h0a] at c2; cases c2⟩
  have forr : ∀ {h' tk m' t'}, Fr h₀ L h' m' → News h₀ L h' ((acc, listOf its n) :: cn) → (∀ z, z ≠ .ofString "child" → z ≠ .ofString "level" → z ≠ .ofString "new_level" → m' z = m0 z) → m' (.ofString "new_level") = some (.int (newLevel k mm dd) t') →
      ∀ {Q : Flow → Shared → Prop}, (∀ st, P .next st → Q .next st) → wpAny (model rr.prog w) A (PySem.exec dn_for.1 (dEnv L)) Q E { s with heap := h', toks := tk } := by
    intro h' tk m' t' F8 N8 hm hnl Q hq
    have hk8 : KeepsL [L, acc] s.heap h' := ledger_keeps F.keep F8 N8 (fun p hp => .tail _ (hcn ▸ hp))
    refine inner_for W V c nb.1 nb.2 hd hu hh F8 ((hm _ (by decide) (by decide) (by decide)).trans hx) hnl ((hm _ (by decide) (by decide) (by decide)).trans hac) (N8 _ (.head _)).1 ne h0a hb hz ?_
    intro vs' h9 g9 tk9 m9 n9 F9 hm9 ha9 hc9 hk9 hb9
    exact hq _ (h vs' h9 g9 tk9 m9 n9 F9 (fun z z1 z2 z3 => (hm9 z z1).trans (hm z z1 z2 z3)) ha9 hc9 (hk8.trans hk9) hb9)
  k_steps
  all_goals (rename Fr _ _ _ _ => F8; rename News _ _ _ _ => N8)
  · refine app ?_ F8 N8 ?_
    · rw [newLevel_pos (by omega)]; assumption
    · intro z z1 z2 z3; simp [z2, z3]
  · refine forr (t' := ?tt) F8 N8 ?za ?zb ?zc
    case za => intro z z1 z2 z3; simp [z2, z3]
    case zb => rw [newLevel_pos (by omega)]; exact rfl
    case zc => exact fun st hp => wpAny_pure (wpAny_pure hp)
  · refine app ?_ F8 N8 ?_
    · rw [newLevel_neg (by omega)]; assumption
    · intro z z1 z2 z3; simp [z2, z3]
  · refine forr (t' := ?tt2) F8 N8 ?za2 ?zb2 ?zc2
    case za2 => intro z z1 z2 z3; simp [z2, z3]
    case zb2 => rw [newLevel_neg (by omega)]; exact rfl
    case zc2 => exact fun st hp => wpAny_pure (wpAny_pure hp)
end

-- M5
theorem fmod_cases {x dd : Int} (h : dd = 1 ∨ dd = 2 ∨ dd = 3) : x.fmod dd = x % dd := Int.fmod_eq_emod_of_nonneg _ (by omega)
theorem newLevel_stop {k : Nat} {mm dd f : Int} (h : dd = 1 ∨ dd = 2 ∨ dd = 3) (hk : k ≤ 30) (h0 : 0 ≤ mm) (h1 : mm ≤ 30) (hf : (if 30 - (k : Int) > mm then 30 - (k : Int) else mm) ≤ f) (hf2 : f ≤ newLevel k mm dd) :
    (f < 30 ∧ (f - mm).fmod dd ≠ 0) ↔ f < newLevel k mm dd := by
  unfold newLevel at hf2 ⊢
  generalize hn : (if 30 - (k : Int) > mm then 30 - (k : Int) else mm) = n0 at *
  have hn0 : mm ≤ n0 ∧ n0 ≤ 30 := by split at hn <;> omega
  rw [fmod_cases h] at *
  rw [fmod_cases h] at *
  rcases h with rfl | rfl | rfl
  · simp only [show ¬ (1 : Int) < 1 by decide, if_false] at hf2 ⊢
    omega
  · simp only [show (1 : Int) < 2 by decide, if_true] at hf2 ⊢
    split at hf2 <;> rename_i c <;> simp only [c, if_true, if_false] <;> omega
  · simp only [show (1 : Int) < 3 by decide, if_true] at hf2 ⊢
    split at hf2 <;> rename_i c <;> simp only [c, if_true, if_false] <;> omega
theorem newLevel_ge {k : Nat} {mm dd : Int} (h : dd = 1 ∨ dd = 2 ∨ dd = 3) (hk : k ≤ 30) (h0 : 0 ≤ mm) (h1 : mm ≤ 30) : (if 30 - (k : Int) > mm then 30 - (k : Int) else mm) ≤ newLevel k mm dd := by
  unfold newLevel
  generalize hn : (if 30 - (k : Int) > mm then 30 - (k : Int) else mm) = n0 at *
  have hn0 : mm ≤ n0 ∧ n0 ≤ 30 := by split at hn <;> omega
  have := Int.fmod_nonneg_of_pos (30 - (n0 - mm)) (show 0 < dd by omega)
  split
  · split <;> omega
  · omega
theorem part_eq {p c : Int} {k j : Nat} (h : j ≤ k) : (2 * (p * ((4 ^ (k - j) : Nat) : Int) + c) + 1) * 4 ^ j = (2 * p + 1) * 4 ^ k - 4 ^ k + 4 ^ j + 2 * 4 ^ j * c := by
  rw [four_mul h]
  generalize ((4 ^ (k - j) : Nat) : Int) = N
  generalize (4 : Int) ^ j = y
  have e1 : (2 * (p * N + c) + 1) * y = 2 * (p * N * y) + 2 * (c * y) + y := by rw [Int.add_mul, Int.one_mul, Int.mul_assoc, Int.add_mul, Int.mul_add]
  have e2 : (2 * p + 1) * (y * N) = 2 * (p * N * y) + y * N := by rw [Int.add_mul, Int.one_mul, Int.mul_assoc, Int.mul_assoc p N y, Int.mul_comm N y]
  have e3 : 2 * y * c = 2 * (c * y) := by rw [Int.mul_assoc, Int.mul_comm y c]
  rw [e1, e2, e3]
  omega
/-- a cell parts into at most sixteen: the least level lies at most two above the cell's -/
theorem newLevel_le {k : Nat} {mm dd : Int} (h : dd = 1 ∨ dd = 2 ∨ dd = 3) (hk : k ≤ 30) (h0 : 0 ≤ mm) (h1 : mm ≤ 30) (h2 : mm ≤ 30 - (k : Int) + 2) : newLevel k mm dd ≤ 30 - (k : Int) + 2 := by
  unfold newLevel
  generalize hn : (if 30 - (k : Int) > mm then 30 - (k : Int) else mm) = n0 at *
  have hn0 : mm ≤ n0 ∧ n0 ≤ 30 ∧ n0 ≤ 30 - (k : Int) + 2 ∧ (n0 = mm ∨ n0 = 30 - (k : Int)) := by split at hn <;> omega
  rw [fmod_cases h]
  rcases h with rfl | rfl | rfl
  · simp only [show ¬ (1 : Int) < 1 by decide, if_false]
    omega
  · simp only [show (1 : Int) < 2 by decide, if_true]
    split <;> omega
  · simp only [show (1 : Int) < 3 by decide, if_true]
    split <;> omega

-- C8
-- my own words: a pure call is entered; the room; the world; a cell; the state behind a call


noncomputable def CellsV (h : Heap) : List Value → List (Int × Nat) → Prop
  | [], [] => True
  | v :: vs, p :: ps => (∃ x, v = .ref x ∧ CellAt h x p.1 ∧ Vld p.1 p.2) ∧ CellsV h vs ps
  | _, _ => False
theorem CellsV.grows {h h' : Heap} (g : Grows h h') : ∀ {vs : List Value} {ps : List (Int × Nat)}, CellsV h vs ps → CellsV h' vs ps
  | [], [], _ => trivial
  | _ :: _, _ :: _, ⟨⟨x, e, c, V⟩, r⟩ => ⟨⟨x, e, c.grows g, V⟩, CellsV.grows g r⟩
theorem CellsV.length {h : Heap} : ∀ {vs : List Value} {ps : List (Int × Nat)}, CellsV h vs ps → vs.length = ps.length
  | [], [], _ => rfl
  | _ :: _, _ :: _, ⟨_, r⟩ => congrArg (· + 1) (CellsV.length r)
theorem CellsV.get {h : Heap} : ∀ {vs : List Value} {ps : List (Int × Nat)} {r : Nat}, CellsV h vs ps → r < vs.length → ∃ x p, vs[r]? = some (.ref x) ∧ ps[r]? = some p ∧ CellAt h x p.1 ∧ Vld p.1 p.2
  | _ :: _, p :: _, 0, ⟨⟨x, e, c, V⟩, _⟩, _ => ⟨x, p, by rw [e]; rfl, rfl, c, V⟩
  | _ :: _, _ :: _, r + 1, ⟨_, t⟩, l => by
    obtain ⟨x, p, a, b, c⟩ := CellsV.get (r := r) t (Nat.lt_of_succ_lt_succ l)
    exact ⟨x, p, by simpa using a, by simpa using b, c⟩
def kidsAt (i : Int) (k : Nat) (l : Int) : List Int := kids (i - 4 ^ k + 4 ^ (30 - l).toNat) (2 * 4 ^ (30 - l).toNat) (4 ^ (k - (30 - l).toNat))
def dnIds (ps : List (Int × Nat)) (mm dd : Int) : List Int := ps.flatMap fun p => kidsAt p.1 p.2 (newLevel p.2 mm dd)
theorem dnIds_append (a b : List (Int × Nat)) (mm dd : Int) : dnIds (a ++ b) mm dd = dnIds a mm dd ++ dnIds b mm dd := by simp [dnIds]
theorem dnIds_succ {ps : List (Int × Nat)} {mm dd : Int} {r : Nat} {p : Int × Nat} (h : ps[r]? = some p) : dnIds (ps.take (r + 1)) mm dd = dnIds (ps.take r) mm dd ++ kidsAt p.1 p.2 (newLevel p.2 mm dd) := by
  rw [List.take_succ, h, dnIds_append]; simp [dnIds]
theorem dnIds_le (ps : List (Int × Nat)) (mm dd : Int) (r : Nat) : (dnIds (ps.take r) mm dd).length ≤ (dnIds ps mm dd).length := by
  have e : dnIds ps mm dd = dnIds (ps.take r) mm dd ++ dnIds (ps.drop r) mm dd := by rw [← dnIds_append, List.take_append_drop]
  rw [e, List.length_append]; exact Nat.le_add_right _ _
theorem cellX_iter {av : List Nat} {h h' : Heap} {I l : Addr} {n : Nat} {y : Addr} {i : Int} (c : CellX av h y i) (hI : h.IsListIter I l n) (k : Heap.ExtBut I h h') : CellX av h' y i := by
  obtain ⟨dx, hs, t1, t2, n, a, b, n1, n2⟩ := c
  obtain ⟨o, ho, hc, _⟩ := hI
  refine ⟨dx, hs, t1, t2, n, k _ _ (fun e => ?_) a, k _ _ (fun e => ?_) b, n1, n2⟩
  · rw [e, ho] at a; cases a; cases hc
  · rw [e, ho] at b; cases b; exact absurd hc (by simp)
theorem cellsX_iter {av : List Nat} {h h' : Heap} {I l : Addr} {n : Nat} (hI : h.IsListIter I l n) (k : Heap.ExtBut I h h') : ∀ {vs : List Value} {is : List Int}, CellsX av h vs is → CellsX av h' vs is
  | [], [], _ => trivial
  | _ :: _, _ :: _, ⟨⟨y, e, c⟩, r⟩ => ⟨⟨y, e, cellX_iter c hI k⟩, cellsX_iter hI k r⟩
theorem fr_iter {h₀ h h' : Heap} {L I : Addr} {m : Str → Option Value} (F : Fr h₀ L h m) (k : Heap.ExtBut I h h') (ne : L ≠ I) (h0 : h₀.get? I = none) : Fr h₀ L h' m := by
  obtain ⟨oL, es, ep, hL, r⟩ := F.ns
  refine ⟨⟨oL, es, ep, k _ _ ne hL, r⟩, fun b o e => k b o (fun q => ?_) (F.keep b o e), F.above⟩
  rw [q, h0] at e; cases e

@[reducible] noncomputable def dn_for0 : {x : Stmt // stmtAt CellUnion_denormalize_b.1 5 = x} := by refine ⟨?x, ?h⟩; case h => conv => lhs; whnf
@[reducible] noncomputable def dn_tgt0 : {x : Expr // forTgt dn_for0.1 = x} := by refine ⟨?x, ?h⟩; case h => conv => lhs; whnf

section
variable {w : World} {A : Around} {h₀ : Heap} {s : Shared} {E : Value → Shared → Prop}
theorem store_id {L acc x : Addr} {m : Str → Option Value} {o : Obj} {P : Unit → Shared → Prop} (X : (K w.params).In h₀) (F : Fr h₀ L s.heap m) (ha : s.heap.get? acc = some o) (ne : acc ≠ L) (h0a : h₀.get? acc = none)
    (h : ∀ h' tk', Fr h₀ L h' (fun z => if z = .ofString "cell_id" then some (.ref x) else m z) → h'.get? acc = some o → KeepsL [L, acc] s.heap h' → P () { s with heap := h', toks := tk' }) :
    wpAny (model rr.prog w) A (assign dn_tgt0.1 (dEnv L) (.ref x)) P E s := by
  have N := ledger ha ne h0a
  have F0 := F.keep
  generalize hcn : restA h₀ [L, acc] s.heap = cn at N
  k_steps
  rename Fr _ _ _ _ => F8
  rename News _ _ _ _ => N8
  exact h _ _ F8 (N8 _ (.head _)).1 (ledger_keeps F0 F8 N8 (fun p hp => .tail _ (hcn ▸ hp)))
theorem dn_loop {L acc lst u du : Addr} {hs mm dd : Int} {n nu nl : Nat} {tm td tu : Tok} {m0 : Str → Option Value} {vs : List Value} {ps : List (Int × Nat)} {Q : Flow → Shared → Prop} (W : Wd w h₀) (cs : CellsV h₀ vs ps) (hlst : h₀.get? lst = some (listOf vs.toArray nl))
    (U1 : h₀.get? u = some (instObj 590 du)) (U2 : h₀.get? du = some (dictOf [⟨hs, .str (.ofString "_CellUnion__cell_ids") tu, .ref lst⟩] nu)) (hm0 : 0 ≤ mm) (hm1 : mm ≤ 30) (hd0 : 1 ≤ dd) (hd1 : dd ≤ 3)
    (hd : A.depth + 24 < recursionLimit) (hu : A.units + 60 < cLine) (hh : A.handled = none) (F : Fr h₀ L s.heap m0) (hself : m0 (.ofString "self") = some (.ref u)) (hmm : m0 (.ofString "min_level") = some (.int mm tm)) (hdd : m0 (.ofString "level_mod") = some (.int dd td)) (hac : m0 (.ofString "cell_ids") = some (.ref acc))
    (ha : s.heap.get? acc = some (listOf #[] n)) (ne : acc ≠ L) (h0a : h₀.get? acc = none) (hb : Bare s.gens) (hz : (dnIds ps mm dd).length ≤ sizeLine)
    (h : ∀ vs' h' g' tk' m' n', Fr h₀ L h' m' → m' (.ofString "cell_ids") = some (.ref acc) → h'.get? acc = some (listOf vs'.toArray n') → CellsX [L, acc] h' vs' (dnIds ps mm dd) → Bare g' → Q .next { s with heap := h', gens := g', toks := tk' }) :
    wpAny (model rr.prog w) A (PySem.exec dn_for0.1 (dEnv L)) Q E s := by
  obtain ⟨mean, mg, mb, T9⟩ := W.T
  have X := W.X
  have N := ledger ha ne h0a
  have lL := fr_lt F
  have lA : (acc : Nat) < s.heap.objs.size := Heap.lt_size ha
  have h0L : h₀.objs.size ≤ L := F.above
  refine wpAny_For ?_
  k_steps
  have hlist : ∀ {h' : Heap}, Grows h₀ h' → h'.IsList lst vs.toArray := fun g => ⟨_, g _ _ hlst, rfl, _, rfl⟩
  refine wpAny_pyIter_list (hlist F.keep) ?_
  have hlen := cs.length
  generalize hI : s.heap.objs.size = I at lL lA
  have g0 : Grows s.heap (s.heap.push { cls := .type "list_iterator", data := .fields #[.ref lst, .int 0 0] }) := fun b o e => Heap.get?_push_of_some _ e
  have hit0 : (s.heap.push { cls := .type "list_iterator", data := .fields #[.ref lst, .int 0 0] }).IsListIter I lst 0 := ⟨_, hI ▸ Heap.get?_push_size s.heap rfl, rfl, rfl⟩
  have nI : (L : Nat) ≠ I := Nat.ne_of_lt lL
  have nIa : (acc : Nat) ≠ I := Nat.ne_of_lt lA
  have h0I : h₀.get? I = none := by
    cases e : h₀.get? I with
    | none => rfl
    | some o => exact absurd (Heap.lt_size e) (Nat.not_lt.mpr (Nat.le_trans h0L (Nat.le_of_lt lL)))
  dsimp only
  refine codeAny_forLoop (fun r st => ∃ m' vs' n' h' g' tk', st = { s with heap := h', gens := g', toks := tk' } ∧ r ≤ vs.length ∧ Fr h₀ L h' m' ∧ (∀ z, z ≠ .ofString "cell_id" → z ≠ .ofString "child" → z ≠ .ofString "level" → z ≠ .ofString "new_level" → m' z = m0 z) ∧
    h'.get? acc = some (listOf vs'.toArray n') ∧ CellsX [L, acc] h' vs' (dnIds (ps.take (vs.length - r)) mm dd) ∧ Bare g' ∧ h'.IsListIter I lst (vs.length - r)) ?turn vs.length ?init
  case init =>
    refine ⟨m0, [], n, _, _, _, rfl, Nat.le_refl _, fr_grows F g0, fun _ _ _ _ _ => rfl, g0 _ _ ha, ?_, hb, ?_⟩
    · rw [Nat.sub_self]; exact trivial
    · rw [Nat.sub_self]; exact hit0
  case turn =>
    intro r st ⟨m', vs', n', h', g', tk', e, hr, F2, hm, ha2, hc, hb2, hit⟩
    subst e
    cases r with
    | zero =>
      refine wpAny_pyNext_list_end hh hit (hlist F2.keep) ?_ ?_
      · simp
      · intro h1 k1
        dsimp only
        refine wpAny_pure ?_
        refine h vs' h1 g' tk' m' n' (fr_iter F2 k1 nI h0I) ((hm _ (by decide) (by decide) (by decide) (by decide)).trans hac) (k1 _ _ nIa ha2) ?_ hb2
        have := cellsX_iter hit k1 hc
        rw [Nat.sub_zero, hlen, List.take_length] at this
        exact this
    | succ r =>
      obtain ⟨x, p, e1, e2, c, V⟩ := cs.get (r := vs.length - (r + 1)) (by omega)
      refine wpAny_pyNext_list_item hit (hlist F2.keep) (x := .ref x) (by simpa using e1) ?_
      intro h1 hit1 sb1
      have k1 : Heap.ExtBut I h' h1 := sb1.extBut
      have F3 := fr_iter F2 k1 nI h0I
      have ha3 := k1 _ _ nIa ha2
      have hc3 := cellsX_iter hit k1 hc
      dsimp only
      refine store_id X F3 ha3 ne h0a ?_
      intro h2 tk2 F4 ha4 k4
      have hc4 := hc3.keeps k4
      have hs1 : vs.length - (r + 1) + 1 = vs.length - r := by omega
      have hsucc := dnIds_succ (mm := mm) (dd := dd) e2
      rw [hs1] at hsucc
      have hle := dnIds_le ps mm dd (vs.length - r)
      have hl1 := hc.length
      have hit2 : h2.IsListIter I lst (vs.length - r) := by
        rw [← hs1]
        obtain ⟨o, ho, r⟩ := hit1
        exact ⟨o, k4 _ _ (by simp only [List.mem_cons, List.not_mem_nil, or_false, not_or]; exact ⟨fun z => nI z.symm, fun z => nIa z.symm⟩) ho, r⟩
      have sz : vs'.toArray.size + 4 ^ (p.2 - (30 - newLevel p.2 mm dd).toNat) ≤ sizeLine := by
        have e3 : (kidsAt p.1 p.2 (newLevel p.2 mm dd)).length = 4 ^ (p.2 - (30 - newLevel p.2 mm dd).toNat) := kids_length _ _ _
        rw [hsucc, List.length_append, e3] at hle
        rw [List.size_toArray, hl1]
        omega
      refine dn_turn (x := x) W V c hm0 hm1 hd0 hd1 hd hu hh F4 (by simp) (tm := tm) (td := td) ?_ ?_ ?_ ha4 ne h0a hb2 sz ?_
      · rw [if_neg (by decide)]; exact (hm _ (by decide) (by decide) (by decide) (by decide)).trans hmm
      · rw [if_neg (by decide)]; exact (hm _ (by decide) (by decide) (by decide) (by decide)).trans hdd
      · rw [if_neg (by decide)]; exact (hm _ (by decide) (by decide) (by decide) (by decide)).trans hac
      intro vs'' h5 g5 tk5 m5 n5 F5 hm5 ha5 hc5 hk5 hb5
      refine ⟨r, Nat.lt_succ_self _, m5, vs' ++ vs'', n5, h5, g5, tk5, rfl, by omega, F5, ?_, ?_, ?_, hb5, ?_⟩
      · intro z z0 z1 z2 z3
        rw [hm5 z z1 z2 z3, if_neg z0]; exact hm z z0 z1 z2 z3
      · rw [ha5]; simp
      · rw [hsucc]; exact (hc4.keeps hk5).append hc5
      · obtain ⟨o, ho, r⟩ := hit2
        exact ⟨o, hk5 _ _ (by simp only [List.mem_cons, List.not_mem_nil, or_false, not_or]; exact ⟨fun z => nI z.symm, fun z => nIa z.symm⟩) ho, r⟩
end

-- C9
-- my own words: a pure call is entered; the room; the world; a cell; the state behind a call


/-- the walk stops here -/
def Stop (p : Prop) : Prop := p
theorem stop_ {p : Prop} (h : Stop p) : p := h
local macro_rules | `(tactic| walk_at "exec For Name Attribute cons nil") => `(tactic| (k_here; refine stop_ ?_))

/-- a union that bears a row of cells -/
structure UnionAt (h : Heap) (u lst : Addr) (vs : List Value) : Prop where
  at' : ∃ du hs t n m, h.get? u = some (instObj 590 du) ∧ h.get? du = some (dictOf [⟨hs, .str (.ofString "_CellUnion__cell_ids") t, .ref lst⟩] n) ∧ h.get? lst = some (listOf vs.toArray m)
theorem UnionAt.grows {h h' : Heap} {u lst : Addr} {vs : List Value} (U : UnionAt h u lst vs) (g : Grows h h') : UnionAt h' u lst vs := by
  obtain ⟨du, hs, t, n, m, a, b, c⟩ := U
  exact ⟨du, hs, t, n, m, g _ _ a, g _ _ b, g _ _ c⟩
section
variable {w : World} {A : Around} {s : Shared} {Q E : Value → Shared → Prop}
theorem c_denorm {u lst : Addr} {mm dd : Int} {tm td : Tok} {vs : List Value} {ps : List (Int × Nat)} (W : Wd w s.heap) (U : UnionAt s.heap u lst vs) (cs : CellsV s.heap vs ps) (hm0 : 0 ≤ mm) (hm1 : mm ≤ 30) (hd0 : 1 ≤ dd) (hd1 : dd ≤ 3)
    (hd : A.depth + 26 < recursionLimit) (hu : A.units + 64 < cLine) (hh : A.handled = none) (hb : Bare s.gens) (hz : (dnIds ps mm dd).length ≤ sizeLine)
    (h : ∀ r vs' h' g' tk' n', Grows s.heap h' → h'.get? r = some (listOf vs'.toArray n') → s.heap.get? r = none → CellsX [] h' vs' (dnIds ps mm dd) → Bare g' → Q (.ref r) { s with heap := h', gens := g', toks := tk' }) :
    wpAny (model rr.prog w) A (call (.ref 573) [.ref u, .int mm tm, .int dd td] []) Q E s := by
  obtain ⟨du, hs, tu, nu, nl, U1, U2, U3⟩ := U
  walk_at "my_pure"
  k_steps
  rename Fr _ _ _ _ => F8
  rename News _ _ _ _ => N8
  unfold Stop
  refine dn_loop (s := ⟨_, _, _, _, _⟩) W cs U3 U1 U2 hm0 hm1 hd0 hd1 ?zd ?zu hh F8 rfl rfl rfl rfl (N8 _ (.head _)).1 (N8 _ (.head _)).2.1 (N8 _ (.head _)).2.2 hb hz ?zk
  case zd => rw [depth_deeper]; omega
  case zu => rw [units_deeper]; omega
  case zk =>
    intro vs' h9 g9 tk9 m9 n9 F9 hac ha9 hc9 hb9
    have l9 := (N8 _ (.head _)).2.2
    clear F8 N8
    dsimp only
    k_steps
    exact h _ vs' h9 g9 tk9 n9 (by assumption) ha9 l9 (hc9.anti (by simp)) hb9
end

-- D1
-- my own words: a pure call is entered; the room; the world; a cell; the state behind a call


section
variable {w : World} {A : Around} {s : Shared} {Q E : Value → Shared → Prop}
theorem c_law_id {p l : Int} {t t' : Tok} (W : Wd w s.heap) (hd : A.depth + 2 < recursionLimit) (hu : A.units + 20 < cLine) (h0 : 0 ≤ p) (h1 : p ≤ 6917529027641081856) (h2 : 0 ≤ l) (h3 : l ≤ 30)
    (h : ∀ t h' tk', Grows s.heap h' → Q (.int ((2 * p + 1) * 4 ^ (30 - l).toNat) t) { s with heap := h', toks := tk' }) :
    wpAny (model rr.prog w) A (call (.ref 601) [.int p t, .int l t'] []) Q E s := by
  walk_at "my_pure"
  k_steps
  all_goals exact h _ _ _ (by assumption)
theorem c_cell_ids {u lst : Addr} {vs : List Value} (W : Wd w s.heap) (hd : A.depth + 2 < recursionLimit) (hu : A.units + 20 < cLine) (U : UnionAt s.heap u lst vs)
    (h : ∀ h' tk', Grows s.heap h' → Q (.ref lst) { s with heap := h', toks := tk' }) :
    wpAny (model rr.prog w) A (call (.ref 559) [.ref u] []) Q E s := by
  obtain ⟨du, hs, tu, nu, nl, U1, U2, U3⟩ := U
  walk_at "my_pure"
  k_steps
  exact h _ _ (by assumption)
end

-- D2
-- my own words: a pure call is entered; the room; the world; a cell; the state behind a call


/-- an object that stands in the frozen part or in a ledger's tail -/
def HasN (h₀ : Heap) (cn : List (Addr × Obj)) (b : Addr) (o : Obj) : Prop := h₀.get? b = some o ∨ (b, o) ∈ cn
theorem HasN.at {h₀ h : Heap} {L : Addr} {m : Str → Option Value} {cn all : List (Addr × Obj)} {b : Addr} {o : Obj} (H : HasN h₀ cn b o) (F : Fr h₀ L h m) (N : News h₀ L h all) (sub : ∀ p ∈ cn, p ∈ all) : h.get? b = some o := by
  rcases H with e | e
  · exact F.keep _ _ e
  · exact (N _ (sub _ e)).1
theorem inst_has {h₀ h : Heap} {L : Addr} {m : Str → Option Value} {cn all : List (Addr × Obj)} {x C dx : Addr} {o : Obj} (F : Fr h₀ L h m) (N : News h₀ L h all) (h1 : HasN h₀ cn x (instObj C dx)) (h2 : HasN h₀ cn dx o) (sub : ∀ p ∈ cn, p ∈ all) : InstAt h x (instObj C dx) C (some o) :=
  ⟨h1.at F N sub, rfl, rfl, h2.at F N sub⟩
theorem cell_has {h₀ h : Heap} {L : Addr} {m : Str → Option Value} {cn all : List (Addr × Obj)} {x dx : Addr} {i hs : Int} {t1 t2 : Tok} {n : Nat} (F : Fr h₀ L h m) (N : News h₀ L h all) (h1 : HasN h₀ cn x (instObj 453 dx)) (h2 : HasN h₀ cn dx (dictOf [⟨hs, .str (.ofString "_CellId__id") t1, .int i t2⟩] n)) (sub : ∀ p ∈ cn, p ∈ all) : CellAt h x i :=
  ⟨dx, hs, t1, t2, n, h1.at F N sub, h2.at F N sub⟩
local macro_rules | `(tactic| walk_at "my_tail") => `(tactic| (intro p9 hp9; (first | exact hp9 | exact .tail _ hp9 | exact .tail _ (.tail _ hp9) | exact .tail _ (.tail _ (.tail _ hp9)) | exact .tail _ (.tail _ (.tail _ (.tail _ hp9))) | exact .tail _ (.tail _ (.tail _ (.tail _ (.tail _ hp9)))) | exact .tail _ (.tail _ (.tail _ (.tail _ (.tail _ (.tail _ hp9))))))))
local macro_rules | `(tactic| k_inst) => `(tactic| first | (refine' inst_has ?F ?N ?h1 ?h2 ?sub; (case F => k_asm); (case N => k_asm); (case h1 => assumption); (case h2 => assumption); (case sub => walk_at "my_tail")) | (refine' inst_base ?F ?h1 ?h2; (case F => k_asm); (case h1 => assumption); (case h2 => assumption)) | fail "my k_inst")
local macro_rules | `(tactic| walk_at "my_cell") => `(tactic| first | exact cell_base (by assumption) (by k_asm) | exact cell_news (by k_asm) (by k_mem) (by k_mem) | exact cell_has (by k_asm) (by k_asm) (by assumption) (by assumption) (by walk_at "my_tail"))

def ifTest : Stmt → Expr
  | .If t _ _ _ => t
  | _ => .Constant .none 0 default
def cmpL : Expr → Expr
  | .Compare l _ _ _ => l
  | _ => .Constant .none 0 default
def cmpR : Expr → Expr
  | .Compare _ _ (r :: _) _ => r
  | _ => .Constant .none 0 default
def compElt : Expr → Expr
  | .ListComp e _ _ _ => e
  | _ => .Constant .none 0 default
def compScope : Expr → Scope
  | .ListComp _ _ s _ => s
  | _ => default
noncomputable abbrev law5 : List Stmt := forBody (stmtAt F_law_b.1 5)
@[reducible] noncomputable def ids1 : {x : Expr // compElt (cmpL (ifTest (stmtAt (forBody (stmtAt F_law_b.1 5)) 0))) = x} := by refine ⟨?x, ?h⟩; case h => conv => lhs; whnf
@[reducible] noncomputable def ids1_s : {x : Scope // compScope (cmpL (ifTest (stmtAt (forBody (stmtAt F_law_b.1 5)) 0))) = x} := by refine ⟨?x, ?h⟩; case h => conv => lhs; whnf
@[reducible] noncomputable def ids2 : {x : Expr // compElt (cmpL (ifTest (stmtAt (forBody (stmtAt F_law_b.1 5)) 1))) = x} := by refine ⟨?x, ?h⟩; case h => conv => lhs; whnf

noncomputable abbrev lEnv (L fa cd : Addr) : Env := envOfC (.ofString "law") F_law_s.1 L fa (Value.ref cd)
/-- each item is a cell with its id -/
def ItemsIds (h₀ : Heap) (cn : List (Addr × Obj)) (vs : List Value) (ids : List Int) : Prop :=
  vs.length = ids.length ∧ ∀ (i : Nat) (v : Value), vs[i]? = some v → ∃ x id dx hs t1 t2 n, v = .ref x ∧ ids[i]? = some id ∧ HasN h₀ cn x (instObj 453 dx) ∧ HasN h₀ cn dx (dictOf [⟨hs, .str (.ofString "_CellId__id") t1, .int id t2⟩] n)
section
variable {w : World} {A : Around} {h₀ : Heap} {s : Shared} {E : Value → Shared → Prop}
theorem ids_rest1 {L fa cd ax : Addr} {m : Str → Option Value} {vs : List Value} {ids : List Int} {cn : List (Addr × Obj)} {Fin : List Value → List (Addr × Obj) → Prop} (W : Wd w h₀) (hd : A.depth + 10 < recursionLimit) (hu : A.units + 30 < cLine)
    (it : ItemsIds h₀ cn vs ids) (src : LCg.SrcAt h₀ ax vs.toArray cn) :
    ∀ k i ys, i + k = vs.length → IntsAre ys (ids.take i) → (∀ ys, IntsAre ys ids → Fin ys cn) →
      LCg.CompRest rr.prog w A h₀ L m (lEnv L fa cd) ids1.1 (.ofString "cell") ids1_s.1 [] s (LCg.SrcAt h₀ ax vs.toArray) (fun i v => vs.toArray[i]? = some v) Fin k i ys cn := by
  obtain ⟨mean, mg, mb, T⟩ := W.T
  have X := W.X
  intro k
  induction k with
  | zero =>
    intro i ys e hys fin
    refine LCg.CompRest.zero (fin ys ?_)
    rw [List.take_of_length_le (by have := it.1; omega)] at hys
    exact hys
  | succ k ih =>
    intro i ys e hys fin
    refine LCg.CompRest.succ ?_
    intro v I oI C oC D m₂ h tk E' hP hN hx F N off ne
    obtain ⟨x, id, dx, hs, t1, t2, n, rfl, e2, h1, h2⟩ := it.2 i v (by simpa using hP)
    k_steps
    rename Fr _ _ _ _ => F9
    rename News _ _ _ _ => N9
    refine LCg.CompEnd.intro F9 N9 cn (fun p hp => hp) off src (ih (i + 1) _ (by omega) ?_ fin)
    rw [List.take_add_one, e2]
    exact hys.append (.cons _ _ .nil)
theorem src_list {L : Addr} {s : Shared} {m : Str → Option Value} {ax : Addr} {vs : List Value} {n : Nat} (F : Fr h₀ L s.heap m) (hax : s.heap.get? ax = some (listOf vs.toArray n)) (ne : ax ≠ L) : LCg.SrcAt h₀ ax vs.toArray (restA h₀ [L] s.heap) := by
  cases e : h₀.get? ax with
  | none => exact .inr ⟨_, restA_mem (by simpa using ne) e hax, rfl, _, rfl⟩
  | some o =>
    have := F.keep _ _ e
    rw [hax] at this; cases this
    exact .inl ⟨_, e, rfl, _, rfl⟩
theorem rest_news {L : Addr} {h : Heap} : News h₀ L h (restA h₀ [L] h) := fun p hp => let ⟨a, b, c⟩ := restA_spec hp; ⟨a, fun z => b (by simp [z]), c⟩
theorem rest_keeps {L : Addr} {h h' : Heap} {m : Str → Option Value} {news : List (Addr × Obj)} (F0 : Grows h₀ h) (F : Fr h₀ L h' m) (N : News h₀ L h' news) (sub : ∀ p ∈ restA h₀ [L] h, p ∈ news) : KeepsL [L] h h' := by
  intro b o hb ho
  cases e : h₀.get? b with
  | none => exact (N _ (sub _ (restA_mem hb e ho))).1
  | some o' =>
    have := F0 _ _ e
    rw [ho] at this
    cases this
    exact F.keep _ _ e
theorem has_of {L : Addr} {h : Heap} {b : Nat} {o : Obj} (F0 : Grows h₀ h) (hb : b ≠ L) (ho : h.get? b = some o) : HasN h₀ (restA h₀ [L] h) b o := by
  cases e : h₀.get? b with
  | none => exact .inr (restA_mem (by simpa using hb) e ho)
  | some o' =>
    have := F0 _ _ e
    rw [ho] at this
    cases this
    exact .inl e
theorem itemsIds_of {L : Addr} {h : Heap} (F0 : Grows h₀ h) : ∀ {vs : List Value} {ids : List Int}, CellsX [L] h vs ids → ItemsIds h₀ (restA h₀ [L] h) vs ids
  | [], [], _ => ⟨rfl, fun i v e => by simp at e⟩
  | v :: vs, id :: ids, ⟨⟨y, e, dx, hs, t1, t2, n, a, b, n1, n2⟩, r⟩ => by
    have z := itemsIds_of F0 r
    refine ⟨congrArg (· + 1) z.1, fun i v' e' => ?_⟩
    cases i with
    | zero =>
      simp at e'
      subst e'
      exact ⟨y, id, dx, hs, t1, t2, n, e, rfl, has_of F0 (by simpa using n1) a, has_of F0 (by simpa using n2) b⟩
    | succ i => exact z.2 i v' (by simpa using e')
end

-- D3
-- my own words: a pure call is entered; the room; the world; a cell; the state behind a call


local macro_rules | `(tactic| walk_at "eval ListComp") => `(tactic| (k_here; refine stop_ ?_))
section
variable {Kx : Frag} {prog : Program} {w : World} {A : Around} {s : Shared} {Q E : Value → Shared → Prop}
theorem call_newK {C fI : Addr} {vs : List Value} {kw : List (Str × Value)} (X : Kx.In s.heap) (hm : makesIn Kx C = true) (hi : findIn Kx (.ref C) "__init__" = some (some (.ref fI))) (hf : isFn Kx (.ref fI) = true)
    (h : ∀ h₁ dx, dx = s.heap.objs.size → Grows s.heap h₁ → s.heap.objs.size ≤ h₁.objs.size → (∀ p ∈ [(dx + 1, instObj C dx), (dx, dictOf [] 0)], h₁.get? p.1 = some p.2 ∧ s.heap.get? p.1 = none) →
      codeAny (model prog w) (A.under (.builtin "type.__call__" ⟨.ref C :: vs, kw⟩)) (.call (.ref fI) ⟨.ref (dx + 1) :: vs, kw⟩)
        (InitBack (dx + 1) fun r s' => match r with | .ok (.ret v) => Q v s' | .ok _ => False | .error e => E e s') { s with heap := h₁ }) :
    wpAny (model prog w) A (call (.ref C) vs kw) Q E s := by
  obtain ⟨hh, g, d, t, os⟩ := s
  refine wpAny_call (make_core (makes_of X hm) (looks_findIn X hi) (fun self => bind_fn X self (beq_iff_eq.mp hf)) (.inl rfl) ?_)
  have none_at : ∀ a, hh.objs.size ≤ a → hh.get? a = none := fun a ha => by
    cases e : hh.get? a with
    | none => rfl
    | some o => exact absurd (Heap.lt_size e) (Nat.not_lt.mpr ha)
  refine h ((hh.push emptyDict).push (instObj C hh.objs.size)) hh.objs.size rfl (fun b o e => Heap.get?_push_of_some _ (Heap.get?_push_of_some _ e)) ?_ ?_
  · simp only [Heap.size_push]; show hh.objs.size ≤ _; omega
  · intro p hp
    rcases List.mem_cons.mp hp with rfl | hp
    · refine ⟨?_, none_at _ (Nat.le_succ _)⟩
      have := Heap.get?_push_size (hh.push emptyDict) (o := instObj C hh.objs.size) rfl
      rwa [Heap.size_push] at this
    · rcases List.mem_cons.mp hp with rfl | hp
      · exact ⟨Heap.get?_push_of_some _ (Heap.get?_push_size hh rfl), none_at _ (Nat.le_refl _)⟩
      · cases hp
end
theorem CellsX.getAt {av : List Nat} {h : Heap} : ∀ {vs : List Value} {ids : List Int} {i : Nat} {v : Value}, CellsX av h vs ids → vs[i]? = some v → ∃ x id, v = .ref x ∧ CellAt h x id
  | _ :: _, id :: _, 0, _, ⟨⟨y, e, c⟩, _⟩, e' => by simp at e'; subst e'; exact ⟨y, id, e, c.at⟩
  | _ :: _, _ :: _, _ + 1, _, ⟨_, r⟩, e' => CellsX.getAt r (by simpa using e')
  | [], [], _, _, _, e' => by simp at e'
theorem news_three {h₀ h : Heap} {L : Addr} {news : List (Addr × Obj)} {a b c : Addr × Obj} (N : News h₀ L h news) (ha : a ∈ news) (hb : b ∈ news) (hc : c ∈ news) : ∀ p ∈ [a, b, c], h.get? p.1 = some p.2 ∧ h₀.get? p.1 = none := fun p hp => by
  simp only [List.mem_cons, List.not_mem_nil, or_false] at hp
  rcases hp with rfl | rfl | rfl
  · exact ⟨(N _ ha).1, (N _ ha).2.2⟩
  · exact ⟨(N _ hb).1, (N _ hb).2.2⟩
  · exact ⟨(N _ hc).1, (N _ hc).2.2⟩
def assignVal : Stmt → Expr
  | .Assign _ v _ => v
  | _ => .Constant .none 0 default
@[reducible] noncomputable def uni_e : {x : Expr // compElt (assignVal (stmtAt (ifElse (stmtAt CellUnion__init_b.1 0)) 0)) = x} := by refine ⟨?x, ?h⟩; case h => conv => lhs; whnf
@[reducible] noncomputable def uni_s : {x : Scope // compScope (assignVal (stmtAt (ifElse (stmtAt CellUnion__init_b.1 0)) 0)) = x} := by refine ⟨?x, ?h⟩; case h => conv => lhs; whnf
noncomputable abbrev uEnv (L : Addr) : Env := envOf (.ofString "CellUnion.__init__") CellUnion__init_s.1 L 470 (.ref 469)
section
variable {w : World} {A : Around} {s : Shared} {Q E : Value → Shared → Prop}
theorem uni_rest {h₀ : Heap} {L ax : Addr} {m : Str → Option Value} {vs : List Value} {news : List (Addr × Obj)} {Fin : List Value → List (Addr × Obj) → Prop} (W : Wd w h₀) (hd : A.depth + 10 < recursionLimit) (hu : A.units + 30 < cLine)
    (it : ∀ (i : Nat) (v : Value), vs[i]? = some v → ∃ x id, v = .ref x ∧ CellAt h₀ x id) (src : LCg.SrcAt h₀ ax vs.toArray news) (fin : Fin vs news) :
    ∀ k i ys, i + k = vs.length → ys = vs.take i →
      LCg.CompRest rr.prog w A h₀ L m (uEnv L) uni_e.1 (.ofString "cell_id") uni_s.1 [] s (LCg.SrcAt h₀ ax vs.toArray) (fun i v => vs.toArray[i]? = some v) Fin k i ys news := by
  obtain ⟨mean, mg, mb, T⟩ := W.T
  have X := W.X
  intro k
  induction k with
  | zero =>
    intro i ys e hys
    refine LCg.CompRest.zero ?_
    rw [hys, List.take_of_length_le (by omega)]
    exact fin
  | succ k ih =>
    intro i ys e hys
    refine LCg.CompRest.succ ?_
    intro v I oI C oC D m₂ h tk E' hP hN hx F N off ne
    have hP' : vs[i]? = some v := by simpa using hP
    obtain ⟨x, id, rfl, dx, hs, t1, t2, n, c1, c2⟩ := it i v hP'
    k_steps
    rename Fr _ _ _ _ => F9
    rename News _ _ _ _ => N9
    exact LCg.CompEnd.intro F9 N9 news (fun p hp => hp) off src (ih (i + 1) _ (by omega) (by rw [hys, List.take_add_one, hP']; rfl))
theorem c_union {l0 : Addr} {n : Nat} {vs : List Value} {ids : List Int} (W : Wd w s.heap) (hd : A.depth + 20 < recursionLimit) (hu : A.units + 60 < cLine) (hh : A.handled = none) (hl : s.heap.get? l0 = some (listOf vs.toArray n)) (cs : CellsX [] s.heap vs ids) (hz : vs.length ≤ sizeLine)
    (h : ∀ u du lst hs t n' m' h' tk', Grows s.heap h' → (∀ p ∈ [(u, instObj 590 du), (du, dictOf [⟨hs, .str (.ofString "_CellUnion__cell_ids") t, .ref lst⟩] n'), (lst, listOf vs.toArray m')], h'.get? p.1 = some p.2 ∧ s.heap.get? p.1 = none) → Q (.ref u) { s with heap := h', toks := tk' }) :
    wpAny (model rr.prog w) A (call (.ref 590) [.ref l0] [(.ofString "raw", .bool false)]) Q E s := by
  obtain ⟨mean, mg, mb, T⟩ := W.T
  have X := W.X
  refine' call_newK X ?hm ?hi ?hf ?hx
  case hm => k_is
  case hi => k_is
  case hf => k_is
  intro h₁ dx hdx G sz hn
  refine' code_enter s.heap _ G sz hn X T.nolimit ?ho ?hcd ?room ?bind ?loc ?h ?c1 ?c2 ?c3 ?c4
  case ho => k_is
  case hcd => k_is
  case room => walk_at "my_room"
  case bind => exact binds_K (W.X.keeps G) rfl (by k_is) rfl rfl rfl
  case loc => exact locs rfl
  case c1 => exact rfl
  case c2 => exact rfl
  case c3 => exact rfl
  case c4 => decide
  intro h₂ F N G2
  k_steps
  rename Fr _ _ _ _ => F8
  rename News _ _ _ _ => N8
  unfold Stop
  have src : LCg.SrcAt s.heap l0 vs.toArray [(dx + 1, instObj 590 dx), (dx, dictOf [] 0)] := .inl ⟨_, hl, rfl, _, rfl⟩
  refine LCg.ListComp_U (F₀ := F8) rfl (by decide) rfl (by decide) rfl ?_
  refine ld F8 rfl ?_
  refine LCg.CompSrc.base hh F8 N8 ⟨_, hl, rfl, _, rfl⟩ (by simpa using hz) (fun g => uni_rest W ?zd ?zu ?zi src ?zf _ 0 [] (by simp) (by simp))
  case zd =>
    rw [depth_deeper, depth_under_kw]; omega
  case zu =>
    have z : (A.under (.builtin "type.__call__" ⟨[.ref 590, .ref l0], [(.ofString "raw", .bool false)]⟩)).units = A.units + 1 := rfl
    rw [units_deeper, z]; omega
  case zi =>
    intro i v e
    exact cs.getAt e
  case zf =>
    intro D h3 tk3 F3 N3 off
    clear F8 N8
    have o1 : @Ne Nat (dx + 1) D := off.1
    have o2 : @Ne Nat dx D := off.2.1
    have o3 : @Ne Nat D (dx + 1) := o1.symm
    have o4 : @Ne Nat D dx := o2.symm
    k_steps
    rename Fr _ _ _ _ => F9
    rename News _ _ _ _ => N9
    refine ⟨rfl, ?_⟩
    exact h _ _ _ _ _ _ _ _ _ F9.keep (news_three N9 (.tail _ (.head _)) (.tail _ (.tail _ (.head _))) (.head _))
end

-- D4
-- my own words: a pure call is entered; the room; the world; a cell; the state behind a call


section
variable {w : World} {A : Around} {s : Shared} {name qual : Str} {params : Arguments} {body : List Stmt} {scope : Scope} {dV kV doc pm cdv ct oc : Value} {an od : Option Addr} {osl : Array (Option Value)} {f : Addr} {binds : List (Str × Value)} {Q E : Value → Shared → Prop}
/-- a def with cells is entered, all of the heap frozen -/
theorem call_pureC {vs : List Value} {kw : List (Str × Value)} (W : Wd w s.heap)
    (ho : (K w.params).lookup f = some ⟨oc, od, .func (fnOf name qual params body scope dV kV doc pm an cdv ct), osl⟩) (hcd : codeIn (K w.params) cdv qual = true) (hroom : A.depth < recursionLimit)
    (hbind : BindsTo s (fnOf name qual params body scope dV kV doc pm an cdv ct) ⟨vs, kw⟩ binds)
    (hkind : (binds.all fun y => scope.names.lookup y.1 == some .local || scope.names.lookup y.1 == some .cell) = true) (hnd : ((cellsFrom 0 scope.names []).map (·.1)).Nodup)
    (h : ∀ L' h₁ tk cells mean mg mb, (K w.params).In s.heap → Top q (looseW q loose) mean mg mb s.heap → s.heap.objs.size ≤ L' → Fr s.heap L' h₁ (bindL (envOfC qual scope L' f cdv).kindOf binds fun _ => none) → News s.heap L' h₁ cells →
      CellsAre (bindC (envOfC qual scope L' f cdv).kindOf binds fun _ => none) (cellsFrom (L' + 1) scope.names []) cells →
      wpAny (model rr.prog w) (A.deeper (envOfC qual scope L' f cdv)) (execs body (envOfC qual scope L' f cdv))
        (fun fl s' => LeaveP s.heap Q (match fl with | .ret v => v | _ => .none) s') (fun _ _ => False)
        { s with heap := h₁, toks := tk })
    (hco : scope.isCoroutine = false) (hgen : scope.isGenerator = false) (hk : scope.kind = .function) : wpAny (model rr.prog w) A (call (.ref f) vs kw) Q E s := by
  obtain ⟨mean, mg, mb, T⟩ := W.T
  refine wpAny_call (codeAny_call_function (fd := fnOf name qual params body scope dV kV doc pm an cdv ct) (body := body) hroom (W.X _ _ ho) rfl hco hgen rfl (codeRec_of W.X hcd) (hbind _ _ _ _ ?_))
  refine wpAny_newFunctionEnv_cells hk (kindsX hkind _) fun env' he s' x => ?_
  subst he
  refine ⟨T.nolimit.keeps x.toInCall.keep, codeAny_func ?_⟩
  obtain ⟨h₁, tk, rfl, _⟩ := x.done
  have hk₁ := x.toInCall.keep
  obtain ⟨cells, NC, Y⟩ := Cl.news (h₀ := s.heap) (Nat.le_refl _) fun n c hm => ⟨x.cell n c (lookup_of_mem_nodup (cellsFrom_names scope.names 0 (s.heap.objs.size + 1) [] [] rfl ▸ hnd) hm), x.above n c hm⟩
  refine wpAny_mono (h s.heap.objs.size h₁ tk cells mean mg mb W.X T (Nat.le_refl _) ⟨x.toInCall.ns, fun b o e => hk₁ b o e, Nat.le_refl _⟩ NC Y) (fun fl s' hl => ?_) fun _ _ y => y.elim
  obtain ⟨L', m', F, k⟩ := hl
  exact k F.keep
end

noncomputable abbrev pEnv (L : Addr) : Env := envOfC (.ofString "_law_parts") F_law_parts_s.1 L 606 (Value.ref 605)
/-- the list of pairs that the law builds: each a tuple of two ints -/
def RowAt (h : Heap) (l : Addr) (rs : List (Int × Int)) : Prop := ∃ vs n, h.get? l = some (listOf vs n) ∧ vs.size = rs.length ∧ ∀ (i : Nat) (p : Int × Int), rs[i]? = some p → ∃ T t u, vs[i]? = some (.ref T) ∧ h.get? T = some (tupObj [.int p.1 t, .int p.2 u])
theorem RowAt.grows {h h' : Heap} {l : Addr} {rs : List (Int × Int)} (R : RowAt h l rs) (g : Grows h h') : RowAt h' l rs := by
  obtain ⟨vs, n, a, b, c⟩ := R
  refine ⟨vs, n, g _ _ a, b, fun i p e => ?_⟩
  obtain ⟨T, t, u, x, y⟩ := c i p e
  exact ⟨T, t, u, x, g _ _ y⟩
local macro_rules | `(tactic| walk_at "exec For Tuple Name cons nil") => `(tactic| (k_here; refine stop_ ?_))
local macro_rules | `(tactic| walk_at "exec For") => `(tactic| (k_here; refine stop_ ?_))
section
variable {w : World} {A : Around} {s : Shared} {Q E : Value → Shared → Prop}
end

-- D5
-- my own words: a pure call is entered; the room; the world; a cell; the state behind a call


local macro_rules | `(tactic| walk_at "eval Name") => `(tactic| (k_here; k_dflt (refine' ldLoc ?k1 ?k2 ?_; (case k1 => k_asm); (case k2 => assumption); k_whole)))
local macro_rules | `(tactic| walk_at "eval Name") => `(tactic| (k_here; first
  | ((with_reducible show wpAny _ _ (eval (Expr.Name _ _) (compEnvC _ _ _ _)) _ _ _); k_dflt (refine' lcf_cell ?N ?c ?m ?d ?_ ?a ?b; (case a => exact rfl); (case b => exact rfl); (case N => k_asm); (case c => exact rfl); (case m => k_mem); (case d => k_asm); k_whole))
  | ((with_reducible show wpAny _ _ (eval (Expr.Name _ _) (envOfC _ _ _ _ _)) _ _ _); k_dflt (refine' nameX_C ?N ?c ?m ?d ?_ ?a ?b; (case b => exact rfl); (case a => exact rfl); (case N => k_asm); (case c => exact rfl); (case m => k_mem); (case d => k_asm); k_whole))))
def whBody : Stmt → List Stmt
  | .While _ b _ _ => b
  | _ => []
@[reducible] noncomputable def lp_b : {x : List Stmt // forBody (stmtAt F_law_parts_b.1 1) = x} := by refine ⟨?x, ?h⟩; case h => conv => lhs; whnf
@[reducible] noncomputable def lp_wt : {x : Expr // whileTest (stmtAt lp_b.1 1) = x} := by refine ⟨?x, ?h⟩; case h => conv => lhs; whnf
@[reducible] noncomputable def lp_wb : {x : List Stmt // whBody (stmtAt lp_b.1 1) = x} := by refine ⟨?x, ?h⟩; case h => conv => lhs; whnf
@[reducible] noncomputable def lp_wh : {x : Stmt // stmtAt lp_b.1 1 = x} := by refine ⟨?x, ?h⟩; case h => conv => lhs; whnf
section
variable {w : World} {A : Around} {h₀ : Heap} {s : Shared} {E : Value → Shared → Prop}
theorem lp_wturn {L I il : Nat} {m : Str → Option Value} {o1 o2 o3 oI oil : Obj} {f mm dd : Int} {tf tm td : Tok} {P : Flow → Shared → Prop} {R : Shared → Prop} {E1 : Value → Shared → Prop} (W : Wd w h₀) (hu : A.units + 30 < cLine) (hdd : 1 ≤ dd) (F : Fr h₀ L s.heap m)
    (N : News h₀ L s.heap [(L + 1 + 1 + 1, o3), (L + 1 + 1, o2), (L + 1, o1), (I, oI), (il, oil)]) (hI : L + 1 + 1 + 1 < I) (hil : L + 1 + 1 + 1 < il) (d3 : o3.data = .cell (some (.int f tf))) (hm : m (.ofString "least") = some (.int mm tm)) (hs : m (.ofString "step") = some (.int dd td))
    (hyes : f < 30 ∧ (f - mm).fmod dd ≠ 0 → ∀ h' tk o3' t', Fr h₀ L h' m → News h₀ L h' [(L + 1 + 1 + 1, o3'), (L + 1 + 1, o2), (L + 1, o1), (I, oI), (il, oil)] → o3'.data = .cell (some (.int (f + 1) t')) → P .next { s with heap := h', toks := tk })
    (hno : ¬(f < 30 ∧ (f - mm).fmod dd ≠ 0) → ∀ h' tk, Fr h₀ L h' m → News h₀ L h' [(L + 1 + 1 + 1, o3), (L + 1 + 1, o2), (L + 1, o1), (I, oI), (il, oil)] → R { s with heap := h', toks := tk }) :
    wpAny (model rr.prog w) A (isTrue lp_wt.1 (pEnv L) (eval lp_wt.1 (pEnv L))) (fun b s₂ => if b = true then wpAny (model rr.prog w) A (execs lp_wb.1 (pEnv L)) P E1 s₂ else R s₂) E s := by
  obtain ⟨mean, mg, mb, T⟩ := W.T
  have X := W.X
  k_steps
  all_goals (rename Fr _ _ _ _ => F8; rename News _ _ _ _ => N8)
  · exact hyes ⟨by omega, by first | assumption | omega⟩ _ _ _ _ F8 N8 (by assumption)
  · exact hno (fun z => z.2 (by first | assumption | omega)) _ _ F8 N8
  · exact hno (fun z => by omega) _ _ F8 N8
theorem lp_while {L I il : Nat} {m : Str → Option Value} {o1 o2 o3 oI oil : Obj} {k : Nat} {f mm dd : Int} {tf tm td : Tok} {Q : Flow → Shared → Prop} (W : Wd w h₀) (hu : A.units + 30 < cLine) (hk : k ≤ 30) (hm0 : 0 ≤ mm) (hm1 : mm ≤ 30) (hdd : dd = 1 ∨ dd = 2 ∨ dd = 3) (F : Fr h₀ L s.heap m)
    (N : News h₀ L s.heap [(L + 1 + 1 + 1, o3), (L + 1 + 1, o2), (L + 1, o1), (I, oI), (il, oil)]) (hI : L + 1 + 1 + 1 < I) (hil : L + 1 + 1 + 1 < il) (d3 : o3.data = .cell (some (.int f tf))) (hm : m (.ofString "least") = some (.int mm tm)) (hs : m (.ofString "step") = some (.int dd td))
    (hf : (if 30 - (k : Int) > mm then 30 - (k : Int) else mm) ≤ f) (hf2 : f ≤ newLevel k mm dd)
    (h : ∀ h' tk o3' t', Fr h₀ L h' m → News h₀ L h' [(L + 1 + 1 + 1, o3'), (L + 1 + 1, o2), (L + 1, o1), (I, oI), (il, oil)] → o3'.data = .cell (some (.int (newLevel k mm dd) t')) → Q .next { s with heap := h', toks := tk }) :
    wpAny (model rr.prog w) A (PySem.exec lp_wh.1 (pEnv L)) Q E s := by
  refine wpAny_While ?_
  refine codeAny_whileLoop (fun n st => ∃ h' tk o3' t' g, st = { s with heap := h', toks := tk } ∧ Fr h₀ L h' m ∧ News h₀ L h' [(L + 1 + 1 + 1, o3'), (L + 1 + 1, o2), (L + 1, o1), (I, oI), (il, oil)] ∧ o3'.data = .cell (some (.int g t')) ∧
    (if 30 - (k : Int) > mm then 30 - (k : Int) else mm) ≤ g ∧ g ≤ newLevel k mm dd ∧ n = (newLevel k mm dd - g).toNat) ?turn _ ⟨s.heap, s.toks, o3, tf, f, rfl, F, N, d3, hf, hf2, rfl⟩
  case turn =>
    intro n st ⟨h', tk, o3', t', g, e, F', N', d', g1, g2, en⟩
    subst e
    have key := newLevel_stop hdd hk hm0 hm1 g1 g2
    refine lp_wturn (s := { s with heap := h', toks := tk }) W hu (by omega) F' N' hI hil d' hm hs ?_ ?_
    · intro c h2 tk2 o3'' t'' F2 N2 d2
      have lt := key.mp c
      exact ⟨_, by rw [en]; omega, h2, tk2, o3'', t'', g + 1, rfl, F2, N2, d2, by omega, by omega, rfl⟩
    · intro c h2 tk2 F2 N2
      have ge : ¬ g < newLevel k mm dd := fun z => c (key.mpr z)
      have eg : g = newLevel k mm dd := by omega
      subst eg
      exact wpAny_pure (h h2 tk2 o3' t' F2 N2 d')
end

-- D6
-- my own words: a pure call is entered; the room; the world; a cell; the state behind a call


local macro_rules | `(tactic| walk_at "call ref") => `(tactic| (k_here; (with_reducible show wpAny _ _ (call (Value.ref 601) _ _) _ _ _); k_dflt (refine' c_law_id ?W ?d ?u ?a ?b ?c ?e ?_; (case W => walk_at "my_W"); (case d => walk_at "my_room"); (case u => omega); (case a => first | assumption | omega); (case b => first | assumption | omega); (case c => omega); (case e => omega); k_whole); walk_at "my_grown"))
def binR : Expr → Expr
  | .BinOp _ _ r _ => r
  | _ => .Constant .none 0 default
@[reducible] noncomputable def lp_c : {x : Expr // binR (assignVal (stmtAt lp_b.1 2)) = x} := by refine ⟨?x, ?h⟩; case h => conv => lhs; whnf
@[reducible] noncomputable def lp_e : {x : Expr // compElt lp_c.1 = x} := by refine ⟨?x, ?h⟩; case h => conv => lhs; whnf
@[reducible] noncomputable def lp_es : {x : Scope // compScope lp_c.1 = x} := by refine ⟨?x, ?h⟩; case h => conv => lhs; whnf
section
variable {w : World} {A : Around} {h₀ : Heap} {s : Shared} {E : Value → Shared → Prop}
theorem lp_rest {L I il : Nat} {m : Str → Option Value} {o1 o2 o3 oI oil : Obj} {p lv fn : Int} {t1 t2 t3 : Tok} {Fin : List Value → List (Addr × Obj) → Prop} {N0 : Nat} (W : Wd w h₀) (hd : A.depth + 10 < recursionLimit) (hu : A.units + 50 < cLine)
    (d1 : o1.data = .cell (some (.int p t1))) (d2 : o2.data = .cell (some (.int lv t2))) (d3 : o3.data = .cell (some (.int fn t3))) (hp : 0 ≤ p) (hp1 : p ≤ 6917529027641081856) (hlv : 0 ≤ lv) (hfn : lv ≤ fn) (hfn1 : fn ≤ 30)
    (hN : (N0 : Int) = 4 ^ (fn - lv).toNat) (hb : p * 4 ^ (fn - lv).toNat + 4 ^ (fn - lv).toNat ≤ 6917529027641081856) :
    ∀ n i ys, i + n = N0 → IntsAre ys ((List.range i).map fun c : Nat => (2 * (p * 4 ^ (fn - lv).toNat + (c : Int)) + 1) * 4 ^ (30 - fn).toNat) →
      (∀ ys, IntsAre ys ((List.range N0).map fun c : Nat => (2 * (p * 4 ^ (fn - lv).toNat + (c : Int)) + 1) * 4 ^ (30 - fn).toNat) → Fin ys [(L + 1 + 1 + 1, o3), (L + 1 + 1, o2), (L + 1, o1), (I, oI), (il, oil)]) →
      LCg.CompRest rr.prog w A h₀ L m (pEnv L) lp_e.1 (.ofString "k") lp_es.1 [(.ofString "place", L + 1), (.ofString "level", L + 1 + 1), (.ofString "fine", L + 1 + 1 + 1)] s (fun _ => True) (fun i v => ∃ t, v = .int (0 + (i : Int)) t) Fin n i ys [(L + 1 + 1 + 1, o3), (L + 1 + 1, o2), (L + 1, o1), (I, oI), (il, oil)] := by
  obtain ⟨mean, mg, mb, T⟩ := W.T
  have X := W.X
  intro n
  induction n with
  | zero =>
    intro i ys e hys fin
    refine LCg.CompRest.zero (fin ys ?_)
    rw [← show i = N0 by omega]; exact hys
  | succ n ih =>
    intro i ys e hys fin
    refine LCg.CompRest.succ ?_
    rintro v I' oI' C oC D m₂ h tk E' ⟨t, rfl⟩ hNs hx F N off ne
    have hys' := hys
    have hpp : 0 ≤ p * 4 ^ (fn - lv).toNat := Int.mul_nonneg hp (Int.le_of_lt (four_pos _))
    have f1 := four_le (k := (fn - lv).toNat) (by omega)
    have f2 := four_pos (fn - lv).toNat
    have hlt : (i : Int) < 4 ^ (fn - lv).toNat := by rw [← hN]; omega
    k_steps
    rename Fr _ _ _ _ => F9
    rename News _ _ _ _ => N9
    refine LCg.CompEnd.intro F9 N9 [(L + 1 + 1 + 1, o3), (L + 1 + 1, o2), (L + 1, o1), (I, oI), (il, oil)] (fun p hp => hp) off trivial (ih (i + 1) _ (by omega) ?_ fin)
    rw [List.range_succ, List.map_append]
    simp only [Int.zero_add]
    exact hys'.append (.cons _ _ .nil)
end

-- D8
local macro_rules | `(tactic| walk_at "exec While BoolOp cons nil") => `(tactic| (k_here; refine stop_ ?_))
local macro_rules | `(tactic| walk_at "exec While") => `(tactic| (k_here; refine stop_ ?_))
local macro_rules | `(tactic| walk_at "CompSrc") => `(tactic| (k_here; refine stop_ ?_))
section
-- my own words: a pure call is entered; the room; the world; a cell; the state behind a call


@[reducible] noncomputable def lp_for : {x : Stmt // stmtAt F_law_parts_b.1 1 = x} := by refine ⟨?x, ?h⟩; case h => conv => lhs; whnf
@[reducible] noncomputable def lp_tgt : {x : Expr // forTgt lp_for.1 = x} := by refine ⟨?x, ?h⟩; case h => conv => lhs; whnf
theorem news_ext {h₀ h h' : Heap} {L a : Addr} {m : Str → Option Value} {news : List (Addr × Obj)} (F : Fr h₀ L h m) (N : News h₀ L h news) (e : Heap.ExtBut a h h') (ha : h.objs.size ≤ a) : Fr h₀ L h' m ∧ News h₀ L h' news := by
  have g : Grows h h' := fun b o q => e b o (Nat.ne_of_lt (Nat.lt_of_lt_of_le (Heap.lt_size q) ha)) q
  exact ⟨fr_grows F g, news_grows N g⟩
theorem newLevel_le30 {k : Nat} {mm dd : Int} (h : dd = 1 ∨ dd = 2 ∨ dd = 3) (hk : k ≤ 30) (h0 : 0 ≤ mm) (h1 : mm ≤ 30) : newLevel k mm dd ≤ 30 := by
  unfold newLevel
  generalize hn : (if 30 - (k : Int) > mm then 30 - (k : Int) else mm) = n0 at *
  have hn0 : mm ≤ n0 ∧ n0 ≤ 30 := by split at hn <;> omega
  split
  · split <;> omega
  · omega
theorem part_bound {p fn : Int} {k : Nat} (hk : k ≤ 30) (h1 : 30 - (k : Int) ≤ fn) (h2 : fn ≤ 30) (hp : p < 6 * 4 ^ (30 - k)) : p * 4 ^ (fn - (30 - (k : Int))).toNat + 4 ^ (fn - (30 - (k : Int))).toNat ≤ 6917529027641081856 := by
  have e : p * 4 ^ (fn - (30 - (k : Int))).toNat + 4 ^ (fn - (30 - (k : Int))).toNat = (p + 1) * 4 ^ (fn - (30 - (k : Int))).toNat := by rw [Int.add_mul, Int.one_mul]
  rw [e]
  refine Int.le_trans (Int.mul_le_mul_of_nonneg_right (show p + 1 ≤ 6 * 4 ^ (30 - k) by omega) (Int.le_of_lt (four_pos _))) ?_
  rw [Int.mul_assoc, ← Int.pow_add]
  have := four_le (k := 30 - k + (fn - (30 - (k : Int))).toNat) (by omega)
  omega
theorem kids_eq {p fn : Int} {k N0 : Nat} (h1 : 30 - (k : Int) ≤ fn) (h2 : fn ≤ 30) (hN0 : (N0 : Int) = 4 ^ (fn - (30 - (k : Int))).toNat) :
    ((List.range N0).map fun c : Nat => (2 * (p * 4 ^ (fn - (30 - (k : Int))).toNat + (c : Int)) + 1) * 4 ^ (30 - fn).toNat) = kidsAt ((2 * p + 1) * 4 ^ k) k fn := by
  have ej : (fn - (30 - (k : Int))).toNat = k - (30 - fn).toNat := by omega
  have hj : (30 - fn).toNat ≤ k := by omega
  unfold kidsAt kids
  rw [ej] at hN0 ⊢
  generalize (30 - fn).toNat = j at *
  have eN : N0 = 4 ^ (k - j) := Int.ofNat.inj (by rw [Int.ofNat_eq_natCast, Int.ofNat_eq_natCast, hN0, Int.natCast_pow]; rfl)
  subst eN
  apply List.map_congr_left
  intro c _
  have z := part_eq (p := p) (c := (c : Int)) hj
  rw [Int.natCast_pow] at z
  exact z
theorem news_pick5 {h₀ h : Heap} {L : Addr} {a b c1 c2 c3 i : Addr × Obj} {r : List (Addr × Obj)} (N : News h₀ L h (a :: b :: c1 :: c2 :: c3 :: i :: r)) : News h₀ L h [c1, c2, c3, i, a] := fun q hq => by
  simp only [List.mem_cons, List.not_mem_nil, or_false] at hq
  rcases hq with rfl | rfl | rfl | rfl | rfl <;> exact N _ (by k_mem)
section
variable {w : World} {A : Around} {h₀ : Heap} {s : Shared} {E : Value → Shared → Prop}



theorem lp_turn {L I il T : Nat} {m : Str → Option Value} {o1 o2 o3 oI : Obj} {x1 x2 x3 : Option Value} {p mm dd : Int} {k : Nat} {t1 t2 tm td : Tok} {ids : List Int} {ys : List Value} {n : Nat} {P : Flow → Shared → Prop} {E1 : Value → Shared → Prop} (W : Wd w h₀)
    (hd : A.depth + 10 < recursionLimit) (hu : A.units + 50 < cLine) (hh : A.handled = none) (F : Fr h₀ L s.heap m) (N : News h₀ L s.heap [(L + 1 + 1 + 1, o3), (L + 1 + 1, o2), (L + 1, o1), (I, oI), (il, listOf ys.toArray n)]) (hys : IntsAre ys ids) (hz : ids.length + 16 ≤ sizeLine)
    (hI : L + 1 + 1 + 1 < I) (hil : L + 1 + 1 + 1 < il) (hT : h₀.get? T = some (tupObj [.int p t1, .int (30 - (k : Int)) t2])) (d1 : o1.data = .cell x1) (d2 : o2.data = .cell x2) (d3 : o3.data = .cell x3) (hm : m (.ofString "least") = some (.int mm tm)) (hs : m (.ofString "step") = some (.int dd td))
    (hids : m (.ofString "ids") = some (.ref il)) (hk : k ≤ 30) (hm0 : 0 ≤ mm) (hm1 : mm ≤ 30) (hm2 : mm ≤ 30 - (k : Int) + 2) (hdd : dd = 1 ∨ dd = 2 ∨ dd = 3) (hp0 : 0 ≤ p) (hp1 : p < 6 * 4 ^ (30 - k))
    (fin : ∀ h' tk' o1' o2' o3' x1' x2' x3' il' ys', Fr h₀ L h' (fun z => if z = .ofString "ids" then some (.ref il') else m z) → News h₀ L h' [(L + 1 + 1 + 1, o3'), (L + 1 + 1, o2'), (L + 1, o1'), (I, oI), (il', listOf ys'.toArray 0)] → @LT.lt Nat _ (L + 1 + 1 + 1) il' → I ≠ il' →
      IntsAre ys' (ids ++ kidsAt ((2 * p + 1) * 4 ^ k) k (newLevel k mm dd)) → o1'.data = .cell x1' → o2'.data = .cell x2' → o3'.data = .cell x3' → P .next { s with heap := h', toks := tk' }) :
    wpAny (model rr.prog w) A (assign lp_tgt.1 (pEnv L) (.ref T)) (fun _ s₂ => wpAny (model rr.prog w) A (execs lp_b.1 (pEnv L)) P E1 s₂) E s := by
  obtain ⟨mean, mg, mb, T'⟩ := W.T
  have X := W.X
  refine assign_Tuple_tuple hh ⟨_, F.keep _ _ hT, rfl, _, rfl⟩ rfl rfl fun h5 he => ?_
  have ⟨F5, N5⟩ := news_ext F N he (Nat.le_refl _)
  clear F N
  refine assignInOrder_cons (wpAny_assign_Name ?_)
  k_steps
  rename Fr _ _ _ _ => F8
  rename News _ _ _ _ => N8
  unfold Stop
  have f0 := newLevel_ge hdd hk hm0 hm1
  refine lp_while (s := ⟨_, _, _, _, _⟩) (k := k) W ?zu hk hm0 hm1 hdd F8 N8 hI hil (by assumption) hm hs ?zf ?zg ?zh
  case zu => omega
  case zf => split <;> split <;> omega
  case zg => refine Int.le_trans ?_ f0; split <;> split <;> omega
  case zh =>
    intro h9 tk9 o9 t9 F9 N9 d9
    clear F8 N8
    dsimp only
    generalize hnl : newLevel k mm dd = fn at *
    have hfn : fn ≤ 30 := by rw [← hnl]; exact newLevel_le30 hdd hk hm0 hm1
    have hfn2 : 30 - (k : Int) ≤ fn := by refine Int.le_trans ?_ f0; split <;> omega
    have f1 := four_le (k := (fn - (30 - (k : Int))).toNat) (by omega)
    k_steps
    unfold Stop
    refine LCg.ListComp_U (cl := [(.ofString "place", L + 1), (.ofString "level", L + 1 + 1), (.ofString "fine", L + 1 + 1 + 1)]) (F₀ := F9) (by with_unfolding_all rfl) (by decide) rfl (by decide) rfl ?_
    k_steps
    unfold Stop
    rename IsRange _ _ _ _ _ _ _ _ => R8
    rename Fr _ _ _ _ => F8
    rename News _ _ _ _ => N8
    have hlt : (fn - (30 - (k : Int))).toNat ≤ 2 := by
      have := newLevel_le hdd hk hm0 hm1 hm2
      rw [hnl] at this; omega
    have ex : ∃ N0 : Nat, (N0 : Int) = 4 ^ (fn - (30 - (k : Int))).toNat ∧ N0 ≤ 16 := ⟨4 ^ (fn - (30 - (k : Int))).toNat, by rw [Int.natCast_pow]; rfl, Nat.le_trans (Nat.pow_le_pow_right (by decide) hlt) (by decide)⟩
    obtain ⟨N0, hN0, hN16⟩ := ex
    have hp6 : p ≤ 6917529027641081856 := by
      have := four_le (k := 30 - k) (by omega)
      omega
    have hb : p * 4 ^ (fn - (30 - (k : Int))).toNat + 4 ^ (fn - (30 - (k : Int))).toNat ≤ 6917529027641081856 := part_bound hk hfn2 hfn hp1
    refine LCg.CompSrc.range (n := N0) hh F8 N8 R8 (small_one (by decide) (by decide) (by omega) (by omega)) ?zs (by rw [show sizeLine = 16777216 from rfl]; omega) (fun g => lp_rest W ?rd ?ru (by assumption) (by assumption) d9 hp0 hp6 ?r1 hfn2 hfn hN0 hb N0 0 [] (by omega) .nil ?rf)
    case zs => rw [rangeSize_nat, ← hN0]; simp
    case rd => omega
    case ru => omega
    case r1 => omega
    case rf =>
      intro ys2 hys2 D h tk F N off
      clear F8 N8 R8
      dsimp only at F N ⊢
      rw [kids_eq hfn2 hfn hN0] at hys2
      have zl : (kidsAt ((2 * p + 1) * 4 ^ k) k fn).length ≤ 16 := by
        rw [← kids_eq hfn2 hfn hN0, List.length_map, List.length_range]; exact hN16
      refine kmk_add_ints F N (N.isList (by k_mem)) (N.isList (by k_mem)) hys hys2 (fun Dn us h'' FF NN lt hI' => ?_) (by omega)
      k_lt lt
      clear F N
      dsimp only
      k_steps
      rename Fr _ _ _ _ => F8
      rename News _ _ _ _ => N8
      exact fin _ _ _ _ _ _ _ _ Dn us F8 (news_pick5 N8) lt.2.1 (Nat.ne_of_lt lt.2.2.2.2.1) hI' (by assumption) (by assumption) d9
end
end

-- D9
section
-- my own words: a pure call is entered; the room; the world; a cell; the state behind a call




/-- a row of valid cells: place and 30 less the level -/
def RowOk (q : List (Int × Nat)) : Prop := ∀ p ∈ q, p.2 ≤ 30 ∧ 0 ≤ p.1 ∧ p.1 < 6 * 4 ^ (30 - p.2)
def rowPairs (q : List (Int × Nat)) : List (Int × Int) := q.map fun p => (p.1, 30 - (p.2 : Int))
def rowPs (q : List (Int × Nat)) : List (Int × Nat) := q.map fun p => ((2 * p.1 + 1) * 4 ^ p.2, p.2)
theorem dnIds_small {q : List (Int × Nat)} {mm dd : Int} (ok : RowOk q) (hm0 : 0 ≤ mm) (hm1 : mm ≤ 30) (hdd : dd = 1 ∨ dd = 2 ∨ dd = 3) (hm2 : ∀ p ∈ q, mm ≤ 30 - (p.2 : Int) + 2) : (dnIds (rowPs q) mm dd).length ≤ 16 * q.length := by
  induction q with
  | nil => simp [rowPs, dnIds]
  | cons p r ih =>
    have z := ih (fun x hx => ok x (.tail _ hx)) (fun x hx => hm2 x (.tail _ hx))
    have ⟨k1, _, _⟩ := ok p (.head _)
    have l2 := newLevel_le hdd k1 hm0 hm1 (hm2 p (.head _))
    have l3 := newLevel_ge hdd k1 hm0 hm1
    have l4 := newLevel_le30 hdd k1 hm0 hm1
    have e : (kidsAt ((2 * p.1 + 1) * 4 ^ p.2) p.2 (newLevel p.2 mm dd)).length ≤ 16 := by
      unfold kidsAt
      rw [kids_length]
      refine Nat.le_trans (Nat.pow_le_pow_right (by decide) (show _ ≤ 2 from ?_)) (by decide)
      have : 30 - (p.2 : Int) ≤ newLevel p.2 mm dd := by refine Int.le_trans ?_ l3; split <;> omega
      omega
    have e2 : dnIds (rowPs (p :: r)) mm dd = kidsAt ((2 * p.1 + 1) * 4 ^ p.2) p.2 (newLevel p.2 mm dd) ++ dnIds (rowPs r) mm dd := by simp [rowPs, dnIds]
    rw [e2, List.length_append, List.length_cons]
    omega
section
variable {w : World} {A : Around} {h₀ : Heap} {s : Shared} {E : Value → Shared → Prop}
theorem lp_loop {L il0 l : Nat} {m0 : Str → Option Value} {o1 o2 o3 : Obj} {x1 x2 x3 : Option Value} {n0 : Nat} {mm dd : Int} {tm td : Tok} {q : List (Int × Nat)} {Q : Flow → Shared → Prop} (W : Wd w h₀) (R : RowAt h₀ l (rowPairs q)) (ok : RowOk q)
    (hd : A.depth + 10 < recursionLimit) (hu : A.units + 50 < cLine) (hh : A.handled = none) (F : Fr h₀ L s.heap m0) (N : News h₀ L s.heap [(il0, listOf #[] n0), (L + 1 + 1 + 1, o3), (L + 1 + 1, o2), (L + 1, o1)])
    (hil : L + 1 + 1 + 1 < il0) (d1 : o1.data = .cell x1) (d2 : o2.data = .cell x2) (d3 : o3.data = .cell x3) (hrow : m0 (.ofString "row") = some (.ref l)) (hm : m0 (.ofString "least") = some (.int mm tm)) (hs : m0 (.ofString "step") = some (.int dd td))
    (hids : m0 (.ofString "ids") = some (.ref il0)) (hm0 : 0 ≤ mm) (hm1 : mm ≤ 30) (hdd : dd = 1 ∨ dd = 2 ∨ dd = 3) (hm2 : ∀ p ∈ q, mm ≤ 30 - (p.2 : Int) + 2) (hz : q.length ≤ 1000)
    (fin : ∀ h' tk' m' il' ys' n', Fr h₀ L h' m' → m' (.ofString "ids") = some (.ref il') → h'.get? il' = some (listOf (List.toArray ys') n') → il' ≠ L → h₀.get? il' = none → IntsAre ys' (dnIds (rowPs q) mm dd) → Q .next { s with heap := h', toks := tk' }) :
    wpAny (model rr.prog w) A (PySem.exec lp_for.1 (pEnv L)) Q E s := by
  obtain ⟨vs, nl, hl, hsz, hit⟩ := R
  have hql : vs.size = q.length := by rw [hsz]; simp [rowPairs]
  have sml : ∀ i, (dnIds (rowPs (q.take i)) mm dd).length + 16 ≤ sizeLine := fun i => by
    have := dnIds_small (q := q.take i) (fun x hx => ok x (List.mem_of_mem_take hx)) hm0 hm1 hdd (fun x hx => hm2 x (List.mem_of_mem_take hx))
    have h2 : (q.take i).length ≤ q.length := by rw [List.length_take]; exact Nat.min_le_right _ _
    rw [show sizeLine = 16777216 from rfl]; omega
  refine wpAny_For ?_
  refine nameX_L F hrow ?_ rfl rfl
  have hL : ∀ {h : Heap} {m}, Fr h₀ L h m → h.IsList l vs := fun F => ⟨_, F.keep _ _ hl, rfl, _, rfl⟩
  refine wpAny_pyIter_list (hL F) ?_
  have up : Grows s.heap (s.heap.push { cls := .type "list_iterator", data := .fields #[.ref l, .int 0 0] }) := fun b o e => Heap.get?_push_of_some _ e
  have lil : (il0 : Nat) < s.heap.objs.size := Heap.lt_size (N _ (.head _)).1
  have l3 : L + 1 + 1 + 1 < s.heap.objs.size := Heap.lt_size (N _ (.tail _ (.head _))).1
  have F1 := fr_grows F up
  have hI0 : h₀.get? s.heap.objs.size = none := next_is_new F
  have hIg : (s.heap.push { cls := .type "list_iterator", data := .fields #[.ref l, .int 0 0] }).get? s.heap.objs.size = some { cls := .type "list_iterator", data := .fields #[.ref l, .int 0 0] } := Heap.get?_push_size _ rfl
  generalize hI : s.heap.objs.size = I at *
  generalize hH : s.heap.push { cls := .type "list_iterator", data := .fields #[.ref l, .int 0 0] } = H at *
  have N1 : News h₀ L H [(L + 1 + 1 + 1, o3), (L + 1 + 1, o2), (L + 1, o1), (I, { cls := .type "list_iterator", data := .fields #[.ref l, .int 0 0] }), (il0, listOf #[] n0)] := by
    have g := news_grows N up
    intro p hp
    simp only [List.mem_cons, List.not_mem_nil, or_false] at hp
    rcases hp with rfl | rfl | rfl | rfl | rfl
    · exact g _ (by k_mem)
    · exact g _ (by k_mem)
    · exact g _ (by k_mem)
    · exact ⟨hIg, by k_ne, hI0⟩
    · exact g _ (by k_mem)
  refine codeAny_forLoop_any (fun n st => ∃ i h' tk m' p1 p2 p3 y1 y2 y3 oI il ys k, st = { s with heap := h', toks := tk } ∧ i + n = q.length ∧ Fr h₀ L h' m' ∧ (m' (.ofString "least") = some (.int mm tm) ∧ m' (.ofString "step") = some (.int dd td) ∧ m' (.ofString "ids") = some (.ref il)) ∧
    News h₀ L h' [(L + 1 + 1 + 1, p3), (L + 1 + 1, p2), (L + 1, p1), (I, oI), (il, listOf (List.toArray ys) k)] ∧ (oI.cls = .type "list_iterator" ∧ oI.data = .fields #[.ref l, .int (i : Nat) 0]) ∧ @LT.lt Nat _ (L + 1 + 1 + 1) il ∧ @Ne Nat I il ∧
    (p1.data = .cell y1 ∧ p2.data = .cell y2 ∧ p3.data = .cell y3) ∧ IntsAre ys (dnIds (rowPs (q.take i)) mm dd)) ?turn q.length ?init
  case init =>
    refine ⟨0, H, _, m0, o1, o2, o3, x1, x2, x3, _, il0, [], n0, rfl, by omega, F1, ⟨hm, hs, hids⟩, N1, ⟨rfl, rfl⟩, hil, ?_, ⟨d1, d2, d3⟩, ?_⟩
    · omega
    · simp [rowPs, dnIds]; exact .nil
  case turn =>
    rintro n st ⟨i, h', tk, m', p1, p2, p3, y1, y2, y3, oI, il, ys, k, rfl, hin, F2, ⟨m1, m2, m3⟩, N2, ⟨c1, c2⟩, lil2, nIl, ⟨e1, e2, e3⟩, hys⟩
    have hI2 : h'.IsListIter I l i := ⟨oI, (N2 (I, oI) (by k_mem)).1, c1, c2⟩
    cases n with
    | zero =>
      have hx : vs[i]? = none := by simp; omega
      refine wpAny_pyNext_list_end hh hI2 (hL F2) hx fun h3 he => ?_
      dsimp only
      have F3 : Fr h₀ L h3 m' := fr_iter F2 he (by k_ne) hI0
      have z := N2 (il, listOf (List.toArray ys) k) (by k_mem)
      refine wpAny_pure ?_
      refine fin h3 tk m' il ys k F3 m3 (he _ _ (Ne.symm nIl) z.1) z.2.1 z.2.2 ?_
      rw [List.take_of_length_le (by omega)] at hys
      exact hys
    | succ n =>
      have hi : i < q.length := by omega
      have eq1 : q[i]? = some q[i] := List.getElem?_eq_getElem hi
      obtain ⟨T, t, u, hx, hT⟩ := hit i _ (by show (rowPairs q)[i]? = _; unfold rowPairs; rw [List.getElem?_map, eq1]; rfl)
      have ⟨ok1, ok2, ok3⟩ := ok q[i] (List.getElem_mem hi)
      refine wpAny_pyNext_list_item hI2 (hL F2) hx fun h3 hit3 hs3 => ?_
      dsimp only
      refine wpAny_letOwnedTupleGo_listiter hit3 ?_
      obtain ⟨oI3, g3, c13, c23⟩ := id hit3
      have F3 : Fr h₀ L h3 m' := F2.change hs3 (by k_ne) hI0
      have N3 : News h₀ L h3 [(L + 1 + 1 + 1, p3), (L + 1 + 1, p2), (L + 1, p1), (I, oI3), (il, listOf (List.toArray ys) k)] :=
        news_set (pre := [(L + 1 + 1 + 1, p3), (L + 1 + 1, p2), (L + 1, p1)]) N2 (by intro p hp; simp only [List.mem_cons, List.not_mem_nil, or_false] at hp; rcases hp with rfl | rfl | rfl <;> k_ne) (by intro p hp; simp only [List.mem_cons, List.not_mem_nil, or_false] at hp; subst hp; exact Ne.symm nIl) hs3 g3
      refine lp_turn (s := ⟨_, _, _, _, _⟩) W hd hu hh F3 N3 hys (sml i) (by omega) lil2 hT e1 e2 e3 m1 m2 m3 ok1 hm0 hm1 (hm2 _ (List.getElem_mem hi)) hdd ok2 ok3 ?_
      intro h4 tk4 a1 a2 a3 z1 z2 z3 il4 ys4 F4 N4 lil4 nIl4 hys4 f1 f2 f3
      refine ⟨n, by omega, i + 1, h4, tk4, _, a1, a2, a3, z1, z2, z3, oI3, il4, ys4, 0, rfl, by omega, F4, ⟨?_, ?_, ?_⟩, N4, ⟨c13, c23⟩, lil4, nIl4, ⟨f1, f2, f3⟩, ?_⟩
      · rw [if_neg (by decide)]; exact m1
      · rw [if_neg (by decide)]; exact m2
      · rw [if_pos rfl]
      · have ep : (rowPs q)[i]? = some ((2 * q[i].1 + 1) * 4 ^ q[i].2, q[i].2) := by unfold rowPs; rw [List.getElem?_map, eq1]; rfl
        have z := dnIds_succ (mm := mm) (dd := dd) ep
        have et : ∀ j, rowPs (q.take j) = (rowPs q).take j := fun j => by unfold rowPs; rw [List.map_take]
        rw [et, z, ← et]
        exact hys4
theorem c_law_parts {Q : Value → Shared → Prop} {l : Addr} {q : List (Int × Nat)} {mm dd : Int} {tm td : Tok} (W : Wd w s.heap) (R : RowAt s.heap l (rowPairs q)) (ok : RowOk q) (hd : A.depth + 20 < recursionLimit) (hu : A.units + 60 < cLine) (hh : A.handled = none)
    (hm0 : 0 ≤ mm) (hm1 : mm ≤ 30) (hdd : dd = 1 ∨ dd = 2 ∨ dd = 3) (hm2 : ∀ p ∈ q, mm ≤ 30 - (p.2 : Int) + 2) (hz : q.length ≤ 1000)
    (h : ∀ il ys n h' tk', Grows s.heap h' → h'.get? il = some (listOf (List.toArray ys) n) → s.heap.get? il = none → IntsAre ys (dnIds (rowPs q) mm dd) → Q (.ref il) { s with heap := h', toks := tk' }) :
    wpAny (model rr.prog w) A (call (.ref 606) [.ref l, .int mm tm, .int dd td] []) Q E s := by
  refine' call_pureC ?W ?ho ?hcd ?room ?bind ?hkind ?hnd ?h ?c1 ?c2 ?c3
  case W => assumption
  case ho => k_is
  case hcd => k_is
  case room => omega
  case bind => exact BindsTo.of_eq rfl
  case hkind => exact rfl
  case hnd => decide
  case c1 => exact rfl
  case c2 => exact rfl
  case c3 => exact rfl
  intro L h₁ tk cells mean mg mb X T lL F N Y
  k_cells Y
  k_steps
  rename Fr _ _ _ _ => F8
  rename News _ _ _ _ => N8
  unfold Stop
  refine lp_loop (s := ⟨_, _, _, _, _⟩) W R ok ?zd ?zu hh F8 N8 ?zi (by assumption) (by assumption) (by assumption) rfl rfl rfl rfl hm0 hm1 hdd hm2 hz ?zk
  case zd => rw [depth_deeper]; omega
  case zu => rw [units_deeper]; omega
  case zi => omega
  case zk =>
    intro h9 tk9 m9 il ys n9 F9 hids hil ne9 no9 hys
    clear F8 N8
    dsimp only
    have N9 : News s.heap L h9 [] := fun _ h => nomatch h
    k_steps
    exact h il ys n9 _ _ (by assumption) hil no9 hys
end
end

-- E1
section
-- my own words: a pure call is entered; the room; the world; a cell; the state behind a call


local macro_rules | `(tactic| walk_at "exec Assert") => `(tactic| (k_here; k_dflt (refine' wpAny_Assert_new ?hh ?_; (case hh => assumption); k_whole)))
local macro_rules | `(tactic| walk_at "leaving ref") => `(tactic| (k_here; refine stop_ ?_))


section
variable {w : World} {A : Around} {s : Shared} {name qual : Str} {params : Arguments} {body : List Stmt} {scope : Scope} {dV kV doc pm cdv ct oc : Value} {an od : Option Addr} {osl : Array (Option Value)} {f : Addr} {binds : List (Str × Value)} {Q E : Value → Shared → Prop}
/-- a def is entered that may raise -/
theorem call_pureE {vs : List Value} {kw : List (Str × Value)} (W : Wd w s.heap)
    (ho : (K w.params).lookup f = some ⟨oc, od, .func (fnOf name qual params body scope dV kV doc pm an cdv ct), osl⟩) (hcd : codeIn (K w.params) cdv qual = true) (hroom : A.depth < recursionLimit)
    (hbind : BindsTo s (fnOf name qual params body scope dV kV doc pm an cdv ct) ⟨vs, kw⟩ binds) (hloc : ∀ y ∈ binds, scope.names.lookup y.1 = some .local)
    (h : ∀ L' h₁ mean mg mb, (K w.params).In s.heap → Top q (looseW q loose) mean mg mb s.heap → s.heap.objs.size ≤ L' → Fr s.heap L' h₁ (fun y => binds.reverse.lookup y) → News s.heap L' h₁ [] →
      wpAny (model rr.prog w) (A.deeper (envOf qual scope L' f cdv)) (execs body (envOf qual scope L' f cdv))
        (fun fl s' => Q (match fl with | .ret v => v | _ => .none) s')
        (fun e s' => wpAny (model rr.prog w) (A.deeper (envOf qual scope L' f cdv)) (leaving (envOf qual scope L' f cdv) e) (fun _ s'' => E e s'') (fun e' s'' => E e' s'') s')
        { s with heap := h₁, toks := s.toks + binds.length })
    (hco : scope.isCoroutine = false) (hgen : scope.isGenerator = false) (hk : scope.kind = .function)
    (hcell : ∀ x ∈ scope.names, x.2 ≠ .cell) : wpAny (model rr.prog w) A (call (.ref f) vs kw) Q E s := by
  obtain ⟨mean, mg, mb, T⟩ := W.T
  exact wpAny_call (code_enter s.heap [] Grows.rfl' (Nat.le_refl _) (fun _ h => nomatch h) W.X T.nolimit ho hcd hroom hbind hloc (fun h₁ F N _ => h s.heap.objs.size h₁ mean mg mb W.X T (Nat.le_refl _) F N) hco hgen hk hcell)
end
/-- an AssertionError has come out of a call -/
structure Refused (base : Heap) (outer : List Env) (e : Addr) (h h' : Heap) : Prop where
  fly : Heap.Flying base outer e (.type "AssertionError") h'
  old : ∀ b o, h.get? b = some o → (∀ vs, o.data ≠ .fields vs) → ∃ sl, h'.get? b = some { o with slots := sl }
section
variable {w : World} {A : Around} {s : Shared} {Q E : Value → Shared → Prop}
theorem dn_leaves {base g h1 : Heap} {outer : List Env} {L e : Addr} {m : Str → Option Value} {Q : Unit → Shared → Prop} (hb : base.StaysIn g) (hf : g.FunFrames base outer) (hA : A.frames = some outer) (F : Fr g L h1 m) (x : Heap.NewExc h1 s.heap e "AssertionError")
    (hQ : ∀ h', Refused base outer e g h' → Q () { s with heap := h' }) : wpAny (model rr.prog w) (A.deeper (dEnv L)) (leaving (dEnv L) (.ref e)) Q E s := by
  have ex := x.there
  obtain ⟨ob, tp, he, hcls, hd⟩ := ex
  have k1 : Grows g s.heap := fun b o z => x.keeps _ _ (F.keep b o z)
  have hen : base.get? e = none := by
    cases hq : base.get? e with
    | none => rfl
    | some o' => have := F.keep e o' (hb e o' hq); rw [x.new] at this; cases this
  have hL0 : base.get? L = none := by
    cases hq : base.get? L with
    | none => rfl
    | some o' => exact absurd (Heap.lt_size (hb _ _ hq)) (Nat.not_lt.mpr F.above)
  obtain ⟨oL, es, ep, hL, hdL, r⟩ := F.ns
  have hl : s.heap.FunFrames base (dEnv L :: outer) := ⟨show ScopeKind.function ≠ .module by decide, ⟨L, oL, rfl, hL0, x.keeps _ _ hL, fun vs z => by rw [hdL] at z; cases z⟩, hf.of_keeps fun b o z _ => ⟨o, k1 b o z, rfl⟩⟩
  refine wpAny_leaving_first (Around.frames_deeper hA) hl rfl he (fun b o z => k1 _ _ (hb b o z)) hen hd rfl fun h' hl' => ?_
  obtain ⟨a1, ⟨_, _, a2⟩, a3, a4⟩ := hl'
  exact hQ h' ⟨⟨a1, hen, a2, by rw [← hcls]; exact a3⟩, fun b o z nf => a4 b o (k1 _ _ z) nf⟩
theorem c_denorm_bad {base : Heap} {outer : List Env} {u : Addr} {mm dd : Int} {tm td : Tok} (W : Wd w s.heap) (hd : A.depth + 26 < recursionLimit) (hu : A.units + 64 < cLine) (hh : A.handled = none) (hb : base.StaysIn s.heap) (hf : s.heap.FunFrames base outer) (hA : A.frames = some outer)
    (hm : mm < 0 ∨ 30 < mm ∨ dd < 1 ∨ 3 < dd)
    (h : ∀ e h' tk', Refused base outer e s.heap h' → E (.ref e) { s with heap := h', toks := tk' }) :
    wpAny (model rr.prog w) A (call (.ref 573) [.ref u, .int mm tm, .int dd td] []) Q E s := by
  refine' call_pureE ?W ?ho ?hcd ?room ?bind ?loc ?h ?c1 ?c2 ?c3 ?c4
  case W => assumption
  case ho => k_is
  case hcd => k_is
  case room => omega
  case bind => exact BindsTo.of_eq rfl
  case loc => exact locs rfl
  case c1 => exact rfl
  case c2 => exact rfl
  case c3 => exact rfl
  case c4 => decide
  intro L h₁ mean mg mb X T lL F N
  have cases4 : mm < 0 ∨ (0 ≤ mm ∧ 30 < mm) ∨ (0 ≤ mm ∧ mm ≤ 30 ∧ dd < 1) ∨ (0 ≤ mm ∧ mm ≤ 30 ∧ 1 ≤ dd ∧ 3 < dd) := by omega
  clear hm
  rcases cases4 with c | ⟨c0, c⟩ | ⟨c0, c1, c⟩ | ⟨c0, c1, c2, c⟩
  all_goals k_steps
  all_goals (rename Fr _ _ _ _ => F8; rename Heap.NewExc _ _ _ _ => x8; unfold Stop; exact dn_leaves (s := ⟨_, _, _, _, _⟩) hb hf hA F8 x8 fun h' r => h _ _ _ r)
end
end

-- E2
section
-- my own words: a pure call is entered; the room; the world; a cell; the state behind a call


local macro_rules | `(tactic| walk_at "call ref") => `(tactic| (k_here; (with_reducible show wpAny _ _ (call (Value.ref 573) _ _) _ _ _); refine stop_ ?_))
local macro_rules | `(tactic| walk_at "noteFrame ref") => `(tactic| (k_here; refine stop_ ?_))
section
variable {M : Model} {A : Around} {E : Value → Shared → Prop} {s : Shared}
/-- an exception out of a call is noted in the frame that has called, and rests there -/
theorem note_again {base : Heap} {env : Env} {outer : List Env} {L e : Addr} {cls : Value} {Q : Unit → Shared → Prop} (hfr : A.frames = some (env :: outer)) (hf : env.frame = some L) (x : Heap.Flying base (env :: outer) e cls s.heap)
    (hQ : ∀ h', Heap.Left base (env :: outer) e cls s.heap h' → Q () { s with heap := h' }) : wpAny M A (noteFrame (.ref e) env) (fun _ s' => wpAny M A (setFlight (.ref e) none) Q E s') E s := by
  obtain ⟨hkb, hen, hl, oe, vs, T, oT, ts, he, hcls, hd, h1, hnT, hTe, hT, hdT, h3⟩ := x
  subst hcls
  have same : ∀ b, b ≠ T → (s.heap.update T (Obj.mapFields (·.setIfInBounds 3 Value.none))).get? b = s.heap.get? b := fun b hb => Heap.get?_update_other _ _ (Ne.symm hb)
  have unlike : ∀ b o, s.heap.get? b = some o → (∀ vs, o.data ≠ .fields vs) → b ≠ T := fun b o hb nf z => by
    rw [z, hT] at hb; cases hb; exact nf _ hdT
  unfold noteFrame
  simp only [hf]
  refine wpAny_bind (wpAny_field he hd h1 ?_)
  rw [if_pos (show (Value.ref T != Value.none) = true from by simp)]
  refine wpAny_bind (wpAny_field hT hdT h3 ?_)
  rw [if_neg (by simp [rawInt])]
  refine wpAny_bind (wpAny_setField hT hdT (Array.getElem?_eq_some_iff.mp h3).1 ?_)
  refine wpAny_newEntry hfr (hl.of_keeps fun b o hb nf => ⟨o, (same b (unlike b o hb nf)).trans hb, rfl⟩) hf ((same e (Ne.symm hTe)).trans he) ?_ hen hd (Array.getElem?_eq_some_iff.mp h1).1 ?_
  · intro b o hbo
    refine (same b fun z => ?_).trans (hkb b o hbo)
    rw [z, hnT] at hbo; cases hbo
  · rintro h' ⟨y1, y2, y3, y4⟩
    exact hQ h' ⟨y1, y2, y3, fun b o hb nf => y4 b o ((same b (unlike b o hb nf)).trans hb) nf⟩
end
def tryBody : Stmt → List Stmt
  | .Try b _ _ _ _ => b
  | _ => []
def tryHand : Stmt → List ExceptHandler
  | .Try _ h _ _ _ => h
  | _ => []
@[reducible] noncomputable def lw_for : {x : Stmt // stmtAt F_law_b.1 7 = x} := by refine ⟨?x, ?h⟩; case h => conv => lhs; whnf
@[reducible] noncomputable def lw_try : {x : Stmt // stmtAt (forBody lw_for.1) 0 = x} := by refine ⟨?x, ?h⟩; case h => conv => lhs; whnf
/-- a union that the law has made, in its ledger -/
def LawU (h₀ : Heap) (L : Nat) (h : Heap) (u lst : Addr) (vs : List Value) : Prop := ∃ du hs t n m, News h₀ L h [(u, instObj 590 du), (du, dictOf [⟨hs, .str (.ofString "_CellUnion__cell_ids") t, .ref lst⟩] n), (lst, listOf vs.toArray m)]
theorem news_keepsL {h₀ h h' : Heap} {L : Nat} {news : List (Addr × Obj)} (N : News h₀ L h news) (k : KeepsL [L] h h') : News h₀ L h' news := fun p hp => ⟨k _ _ (by simpa using (N p hp).2.1) (N p hp).1, (N p hp).2⟩
theorem LawU.keeps {h₀ h h' : Heap} {L : Nat} {u lst : Addr} {vs : List Value} (U : LawU h₀ L h u lst vs) (k : KeepsL [L] h h') : LawU h₀ L h' u lst vs := by
  obtain ⟨du, hs, t, n, m, N⟩ := U
  exact ⟨du, hs, t, n, m, news_keepsL N k⟩
section
variable {w : World} {A : Around} {h₀ : Heap} {s : Shared} {E : Value → Shared → Prop}
theorem lw_caught {L fa cd u lst : Nat} {m : Str → Option Value} {mm dd o : Int} {tm td to : Tok} {vs : List Value} {Q : Flow → Shared → Prop} (W : Wd w h₀) (hd : A.depth + 40 < recursionLimit) (hu : A.units + 90 < cLine) (hh : A.handled = none) (hA : A.frames = some [lEnv L fa cd])
    (F : Fr h₀ L s.heap m) (U : LawU h₀ L s.heap u lst vs) (m1 : m (.ofString "union") = some (.ref u)) (m2 : m (.ofString "least") = some (.int mm tm)) (m3 : m (.ofString "step") = some (.int dd td)) (m4 : m (.ofString "odd") = some (.int o to))
    (hm : mm < 0 ∨ 30 < mm ∨ dd < 1 ∨ 3 < dd)
    (fin : ∀ h' tk' t', Fr h₀ L h' (fun z => if z = .ofString "odd" then some (.int (o + 1) t') else m z) → KeepsL [L] s.heap h' → Q .next { s with heap := h', toks := tk' }) :
    wpAny (model rr.prog w) A (PySem.exec lw_try.1 (lEnv L fa cd)) Q E s := by
  obtain ⟨mean, mg, mb, T⟩ := W.T
  have X := W.X
  obtain ⟨du, hs, t, n, k, N⟩ := U
  refine wpAny_Try_except ?_
  k_steps
  unfold Stop
  have Wn : Wd w s.heap := W.keeps F.keep
  obtain ⟨oL, es, ep, hL, hdL, rL⟩ := F.ns
  have hb : (hideAll s.heap [L]).StaysIn s.heap := fun b o z => of_hideAll _ z
  have hbL : (hideAll s.heap [L]).get? L = none := hideAll_none _ (.head _)
  have hff : s.heap.FunFrames (hideAll s.heap [L]) [lEnv L fa cd] := ⟨show ScopeKind.function ≠ .module by decide, ⟨L, oL, rfl, hbL, hL, fun vs z => by rw [hdL] at z; cases z⟩, trivial⟩
  refine c_denorm_bad Wn (by omega) (by omega) hh hb hff hA hm ?_
  intro e h1 tk1 r
  refine note_again hA rfl r.fly ?_
  rintro h2 ⟨k2, f2, t2, o2⟩
  obtain ⟨oe, ws, T2, oT, ts, he, hcls, hd2, h12, hnT, hTe, hT, hdT, h3⟩ := t2
  have up : ∃ sl, h2.get? L = some { oL with slots := sl } := by
    obtain ⟨sl, e1⟩ := r.old L oL hL (fun vs z => by rw [hdL] at z; cases z)
    obtain ⟨sl2, e2⟩ := o2 L _ e1 (fun vs z => by simp only [] at z; rw [hdL] at z; cases z)
    exact ⟨sl2, e2⟩
  obtain ⟨sl, hL2⟩ := up
  have keepL : KeepsL [L] s.heap h2 := fun b o nb z => k2 b o (hideAll_get _ z (by simpa using nb))
  have F2 : Fr h₀ L h2 m := ⟨⟨_, es, ep, hL2, hdL, rL⟩, fun b o z => keepL b o (by simp; rintro rfl; exact absurd (Heap.lt_size z) (Nat.not_lt.mpr F.above)) (F.keep _ _ z), F.above⟩
  dsimp only
  refine wpAny_handleBy_builtin (X := "AssertionError") (T := "AssertionError") (b := true) (isSubtype_of_subB (by decide +kernel)) (isSubtype_of_subB (by decide +kernel)) (isSubtype_of_subB (by decide +kernel)) ?_
  have N2 : News h₀ L h2 [] := fun _ h => nomatch h
  clear N
  k_steps
  exact ⟨oe, he, hcls⟩
  refine wpAny_setFlight_none (s := ⟨_, _, _, _, _⟩) he hd2 h12 hT hdT (Array.getElem?_eq_some_iff.mp h3).1 ?_
  have nT : ∀ b o, s.heap.get? b = some o → b ≠ L → b ≠ T2 := fun b o z nb q => by
    have := hideAll_get [L] z (by simpa using nb)
    rw [q, hnT] at this; cases this
  have nL : L ≠ T2 := fun q => by rw [q, hT] at hL2; cases hL2; rw [hdL] at hdT; cases hdT
  dsimp only
  generalize hH : Heap.update h2 T2 (Obj.mapFields (·.setIfInBounds 3 Value.none)) = h4
  have g4 : ∀ b, b ≠ T2 → h4.get? b = h2.get? b := fun b nb => by rw [← hH]; exact Heap.get?_update_other _ _ (Ne.symm nb)
  have keep4 : KeepsL [L] s.heap h4 := fun b o nb z => (g4 b (nT b o z (by simpa using nb))).trans (keepL b o nb z)
  have F4 : Fr h₀ L h4 m := ⟨⟨_, es, ep, (g4 L nL).trans hL2, hdL, rL⟩, fun b o z => keep4 b o (by simp; rintro rfl; exact absurd (Heap.lt_size z) (Nat.not_lt.mpr F.above)) (F.keep _ _ z), F.above⟩
  have N4 : News h₀ L h4 (restA h₀ [L] h4) := rest_news
  have Fk := F4.keep
  clear F2 N2 hH
  generalize hcn : restA h₀ [L] h4 = cn at N4
  k_steps
  refine wpAny_loadName_local rfl rfl F4.ns m4 ?_
  k_steps
  rename Fr _ _ _ _ => F8
  rename News _ _ _ _ => N8
  refine fin _ _ _ F8 (keep4.trans ?_)
  exact rest_keeps Fk F8 N8 (fun p hp => hcn ▸ hp)
end
end

-- E3
section
-- my own words: a pure call is entered; the room; the world; a cell; the state behind a call


section
variable {prog : Program} {w : World} {A : Around} {E : Value → Shared → Prop} {s : Shared}
theorem go_tupiter {elts : List Expr} {x1} {pos : Pos} {I t T : Addr} {i : Nat} {Q : Unit → Shared → Prop} (hit : IsTupIter s.heap I t i) (hQ : Q () s) :
    wpAny (model prog w) A (letOwnedTupleGo (.Tuple elts x1 pos) (.ref I) (.ref T)) Q E s := by
  obtain ⟨o, ho, hc, hd⟩ := hit
  unfold letOwnedTupleGo
  refine wpAny_bind (wpAny_load ho ?_)
  rw [hc, hd]
  show wpAny _ A (if (["enumerate", "zip", "dict_itemiterator", "dict_reverseitemiterator", "odict_iterator", "itertools.zip_longest", "itertools.pairwise"].contains "tuple_iterator" && _) = true then _ else _) Q E s
  rw [show (["enumerate", "zip", "dict_itemiterator", "dict_reverseitemiterator", "odict_iterator", "itertools.zip_longest", "itertools.pairwise"].contains "tuple_iterator") = false from by decide, Bool.false_and, if_neg (by decide)]
  exact wpAny_pure hQ
end
section
variable {w : World} {A : Around} {h₀ : Heap} {s : Shared} {E : Value → Shared → Prop}
theorem fr_keepsL {L : Nat} {m : Str → Option Value} {h h' : Heap} {o : Obj} (F : Fr h₀ L h m) (k : KeepsL [L] h h') (hL : ∃ oL es ep, h'.get? L = some oL ∧ oL.data = .dict es ep ∧ StrKeys es ∧ ∀ name, nsFind es name = m name) : Fr h₀ L h' m :=
  ⟨hL.elim fun oL ⟨es, ep, a, b, c, d⟩ => ⟨oL, es, ep, a, b, c, d⟩, fun b o e => k b o (by simp; rintro rfl; exact absurd (Heap.lt_size e) (Nat.not_lt.mpr F.above)) (F.keep _ _ e), F.above⟩
theorem two_names {L fa cd T : Nat} {v1 v2 : Value} {m : Str → Option Value} {k : Nat} {p1 p2 p3 : Pos} {P : Unit → Shared → Prop} (hh : A.handled = none) (F : Fr h₀ L s.heap m) (hT : s.heap.get? T = some (tupObj [v1, v2]))
    (fin : ∀ h' tk', Fr h₀ L h' (fun z => if z = .ofString "step" then some v2 else if z = .ofString "least" then some v1 else m z) → KeepsL [L] s.heap h' → P () { s with heap := h', toks := tk' }) :
    wpAny (model rr.prog w) A (assign (.Tuple [.Name (.ofString "least") p1, .Name (.ofString "step") p2] k p3) (lEnv L fa cd) (.ref T)) P E s := by
  refine assign_Tuple_tuple hh ⟨_, hT, rfl, _, rfl⟩ rfl rfl fun h5 he => ?_
  have g5 : Grows s.heap h5 := fun b o e => he b o (Nat.ne_of_lt (Heap.lt_size e)) e
  have F5 := fr_grows F g5
  have N5 : News h₀ L h5 (restA h₀ [L] h5) := rest_news
  refine assignInOrder_cons (wpAny_assign_Name (storeX_L (s := ⟨_, _, _, _, _⟩) F5 N5 (fun h6 F6 N6 => ?_) rfl rfl))
  refine assignInOrder_cons (wpAny_assign_Name (storeX_L (s := ⟨_, _, _, _, _⟩) F6 N6 (fun h7 F7 N7 => ?_) rfl rfl))
  refine assignInOrder_nil ?_
  refine fin h7 _ F7 ((KeepsL.ofG g5).trans ?_)
  exact rest_keeps F5.keep F7 N7 (fun p hp => hp)
/-- a for over a written tuple of pairs of ints in the law's frame -/
theorem for_pairs {L fa cd T n : Nat} {refs : List Value} {its : Nat → Int × Int} {k : Nat} {p1 p2 p3 : Pos} {body : List Stmt} {m0 : Str → Option Value} {Pm : Nat → (Str → Option Value) → Prop} {R : Result → Shared → Prop} (hh : A.handled = none)
    (F : Fr h₀ L s.heap m0) (hT : s.heap.get? T = some (tupObj refs)) (neT : T ≠ L) (hn : refs.length = n) (hi : ∀ i, i < n → ∃ Ti t u, refs[i]? = some (.ref Ti) ∧ @Ne Nat Ti L ∧ s.heap.get? Ti = some (tupObj [.int (its i).1 t, .int (its i).2 u])) (hb : Bare s.gens) (h0 : Pm 0 m0)
    (turn : ∀ i h' g' tk' m' t u, i < n → Pm i m' → Fr h₀ L h' (fun z => if z = .ofString "step" then some (.int (its i).2 u) else if z = .ofString "least" then some (.int (its i).1 t) else m' z) → KeepsL [L] s.heap h' → Bare g' →
      ∀ (P : Flow → Shared → Prop) E', (∀ h'' g'' tk'' m'', Fr h₀ L h'' m'' → KeepsL [L] h' h'' → Bare g'' → Pm (i + 1) m'' → P .next { s with heap := h'', gens := g'', toks := tk'' }) → wpAny (model rr.prog w) A (execs body (lEnv L fa cd)) P E' { s with heap := h', gens := g', toks := tk' })
    (fin : ∀ h' g' tk' m', Fr h₀ L h' m' → KeepsL [L] s.heap h' → Bare g' → Pm n m' → R (.ok .next) { s with heap := h', gens := g', toks := tk' }) :
    wpAny (model rr.prog w) A (pyIter (.ref T)) (fun it s₂ => codeAny (model rr.prog w) A (.forLoop (.Tuple [.Name (.ofString "least") p1, .Name (.ofString "step") p2] k p3) it body [] (lEnv L fa cd)) R s₂) E s := by
  refine iter_tuple ⟨_, hT, rfl, _, rfl⟩ ?_
  have up : Grows s.heap (s.heap.push { cls := .type "tuple_iterator", data := .fields #[.ref T, .int 0 0] }) := fun b o e => Heap.get?_push_of_some _ e
  have hIg : (s.heap.push { cls := .type "tuple_iterator", data := .fields #[.ref T, .int 0 0] }).get? s.heap.objs.size = some { cls := .type "tuple_iterator", data := .fields #[.ref T, .int 0 0] } := Heap.get?_push_size _ rfl
  have F1 := fr_grows F up
  have hI0 : h₀.get? s.heap.objs.size = none := next_is_new F
  have lL : (L : Nat) < s.heap.objs.size := fr_lt F
  have old : ∀ b o, s.heap.get? b = some o → @Ne Nat b s.heap.objs.size := fun b o e => Nat.ne_of_lt (Heap.lt_size e)
  generalize s.heap.objs.size = I at *
  generalize s.heap.push { cls := .type "tuple_iterator", data := .fields #[.ref T, .int 0 0] } = H at *
  refine codeAny_forLoop_any (fun r st => ∃ i h' g' tk' m', st = { s with heap := h', gens := g', toks := tk' } ∧ i + r = n ∧ Fr h₀ L h' m' ∧ KeepsL [L, I] H h' ∧ IsTupIter h' I T i ∧ Bare g' ∧ Pm i m') ?turn n ⟨0, H, s.gens, s.toks, m0, rfl, by omega, F1, KeepsL.refl _ _, ⟨_, hIg, rfl, rfl⟩, hb, h0⟩
  have kk : ∀ {h'}, KeepsL [L, I] H h' → KeepsL [L] s.heap h' := fun k b o nb e => k b o (by have := old b o e; simp at nb ⊢; exact ⟨nb, this⟩) (up _ _ e)
  case turn =>
    rintro r st ⟨i, h', g', tk', m', rfl, hir, F2, k2, it2, hb2, pm⟩
    have hT2 : IsTup h' T refs.toArray := ⟨_, kk k2 _ _ (by simpa using neT) hT, rfl, _, rfl⟩
    cases r with
    | zero =>
      refine next_tuple_end hh it2 hT2 (by simp; omega) fun h3 he => ?_
      dsimp only
      refine wpAny_pure ?_
      have F3 : Fr h₀ L h3 m' := fr_iter F2 he (by k_ne) hI0
      refine fin h3 g' tk' m' F3 (fun b o nb e => he b o (old b o e) (kk k2 b o nb e)) hb2 ?_
      rw [show n = i by omega]; exact pm
    | succ r =>
      obtain ⟨Ti, t, u, e1, n1, e2⟩ := hi i (by omega)
      refine next_tuple_item it2 hT2 (x := .ref Ti) (by simpa using e1) fun h3 it3 hs3 => ?_
      dsimp only
      refine go_tupiter it3 ?_
      have F3 : Fr h₀ L h3 m' := F2.change hs3 (by k_ne) hI0
      have k3 : KeepsL [L, I] H h3 := fun b o nb e => (hs3.2 b (by simp at nb; exact nb.2)).trans (k2 b o nb e)
      refine two_names (s := ⟨_, _, _, _, _⟩) hh F3 (kk k3 _ _ (by simpa using n1) e2) fun h4 tk4 F4 k4 => ?_
      have k34 : KeepsL [L, I] H h4 := fun b o nb e => k4 b o (by simp at nb ⊢; exact nb.1) (k3 b o nb e)
      refine turn i h4 g' tk4 m' t u (by omega) pm F4 (kk k34) hb2 _ _ ?_
      intro h5 g5 tk5 m5 F5 k5 b5 p5
      refine ⟨r, Nat.lt_succ_self _, i + 1, h5, g5, tk5, m5, rfl, by omega, F5, fun b o nb e => k5 b o (by simp at nb ⊢; exact nb.1) (k34 b o nb e), ?_, b5, p5⟩
      obtain ⟨oI, x1, x2, x3⟩ := it3
      exact ⟨oI, k5 _ _ (by simp; k_ne) (k4 _ _ (by simp; k_ne) x1), x2, x3⟩
end
end

-- E4
section
-- my own words: a pure call is entered; the room; the world; a cell; the state behind a call


local macro_rules | `(tactic| walk_at "pyIter ref") => `(tactic| (k_here; refine stop_ ?_))
local macro_rules | `(tactic| walk_at "subscriptTail Name Constant ref int") => `(tactic| (k_here; k_dflt (refine' item_anyK ?k1 ?k2 ?k3 ?k4 ?k5 ?_ ?k6; (case k1 => exact News.isList (by k_asm) (by k_mem)); (case k2 => assumption); (case k3 => decide); (case k4 => omega); (case k5 => decide); (case k6 => rfl); k_whole); intro _))
set_option pp.maxSteps 1500
set_option pp.deepTerms false
def LawN (h₀ : Heap) (L : Nat) (h : Heap) (nums : List Int) : Prop := ∃ o2 Nl ys k, News h₀ L h [(L + 1 + 1, o2), (Nl, listOf (List.toArray ys) k)] ∧ o2.data = .cell (some (.ref Nl)) ∧ IntsAre ys nums
theorem LawN.keeps {h₀ h h' : Heap} {L : Nat} {nums : List Int} (U : LawN h₀ L h nums) (k : KeepsL [L] h h') : LawN h₀ L h' nums := by
  obtain ⟨o2, Nl, ys, n, N, r⟩ := U
  exact ⟨o2, Nl, ys, n, news_keepsL N k, r⟩
def LawW (h₀ : Heap) (L : Nat) (h : Heap) (wl : Addr) (a1 b1 a2 b2 : Int) : Prop := ∃ w1 w2 k u1 u2 u3 u4, News h₀ L h [(wl, listOf #[.ref w1, .ref w2] k), (w1, tupObj [.int a1 u1, .int b1 u2]), (w2, tupObj [.int a2 u3, .int b2 u4])]
theorem LawW.keeps {h₀ h h' : Heap} {L : Nat} {wl : Addr} {a1 b1 a2 b2 : Int} (U : LawW h₀ L h wl a1 b1 a2 b2) (k : KeepsL [L] h h') : LawW h₀ L h' wl a1 b1 a2 b2 := by
  obtain ⟨w1, w2, n, u1, u2, u3, u4, N⟩ := U
  exact ⟨w1, w2, n, u1, u2, u3, u4, news_keepsL N k⟩
theorem news_at2 {h₀ h : Heap} {L : Nat} {a : Nat} {o : Obj} {news : List (Addr × Obj)} (N : News h₀ L h news) (hm : (a, o) ∈ news) : @Ne Nat a L ∧ h.get? a = some o := ⟨(N _ hm).2.1, (N _ hm).1⟩
theorem news_add {h₀ h : Heap} {L : Nat} : ∀ {a b : List (Addr × Obj)}, News h₀ L h a → News h₀ L h b → News h₀ L h (a ++ b) := fun x y p hp => (List.mem_append.mp hp).elim (x p) (y p)
section
variable {w : World} {A : Around} {h₀ : Heap} {s : Shared} {E : Value → Shared → Prop}
theorem lw_one {L fa cd u lst : Nat} {m : Str → Option Value} {mm dd o : Int} {tm td to : Tok} {vs : List Value} {P : Flow → Shared → Prop} (W : Wd w h₀) (hd : A.depth + 40 < recursionLimit) (hu : A.units + 90 < cLine) (hh : A.handled = none) (hA : A.frames = some [lEnv L fa cd])
    (F : Fr h₀ L s.heap m) (U : LawU h₀ L s.heap u lst vs) (m1 : m (.ofString "union") = some (.ref u)) (m2 : m (.ofString "least") = some (.int mm tm)) (m3 : m (.ofString "step") = some (.int dd td)) (m4 : m (.ofString "odd") = some (.int o to))
    (hm : mm < 0 ∨ 30 < mm ∨ dd < 1 ∨ 3 < dd)
    (fin : ∀ h' tk' t', Fr h₀ L h' (fun z => if z = .ofString "odd" then some (.int (o + 1) t') else m z) → KeepsL [L] s.heap h' → P .next { s with heap := h', toks := tk' }) :
    wpAny (model rr.prog w) A (execs (forBody lw_for.1) (lEnv L fa cd)) P E s := by
  refine wpAny_execs_cons (rest := []) ?_
  exact lw_caught W hd hu hh hA F U m1 m2 m3 m4 hm (fun h' tk' t' a b => wpAny_execs_nil (fin h' tk' t' a b))
/-- the four pairs that denormalize refuses -/
def bad4 (x a1 : Int) : Nat → Int × Int
  | 0 => (-1 - x, 1)
  | 1 => (31 + x, 2)
  | 2 => (a1, 0 - x)
  | _ => (a1, 4 + x)
theorem bad4_bad {x a1 : Int} (h0 : 0 ≤ x) (i : Nat) : (bad4 x a1 i).1 < 0 ∨ 30 < (bad4 x a1 i).1 ∨ (bad4 x a1 i).2 < 1 ∨ 3 < (bad4 x a1 i).2 := by
  match i with
  | 0 => simp only [bad4]; omega
  | 1 => simp only [bad4]; omega
  | 2 => simp only [bad4]; omega
  | _ + 3 => simp only [bad4]; omega
theorem lw_for7 {L fa cd u lst wl : Nat} {m : Str → Option Value} {nums : List Int} {a1 b1 a2 b2 : Int} {to : Tok} {vs : List Value} {Q : Flow → Shared → Prop} (W : Wd w h₀) (hd : A.depth + 40 < recursionLimit) (hu : A.units + 90 < cLine) (hh : A.handled = none) (hA : A.frames = some [lEnv L fa cd])
    (F : Fr h₀ L s.heap m) (U : LawU h₀ L s.heap u lst vs) (LN : LawN h₀ L s.heap nums) (hl : nums.length = 9) (LW : LawW h₀ L s.heap wl a1 b1 a2 b2) (m1 : m (.ofString "union") = some (.ref u)) (m2 : m (.ofString "ways") = some (.ref wl)) (m4 : m (.ofString "odd") = some (.int 0 to)) (hb : Bare s.gens)
    (fin : ∀ h' g' tk' m' t', Fr h₀ L h' m' → m' (.ofString "union") = some (.ref u) → m' (.ofString "row") = m (.ofString "row") → m' (.ofString "odd") = some (.int 4 t') → KeepsL [L] s.heap h' → Bare g' → Q .next { s with heap := h', gens := g', toks := tk' }) :
    wpAny (model rr.prog w) A (PySem.exec lw_for.1 (lEnv L fa cd)) Q E s := by
  obtain ⟨mean, mg, mb, T⟩ := W.T
  have X := W.X
  obtain ⟨o2, Nl, ys, kk, N1, d2, hys⟩ := LN
  obtain ⟨w1, w2, n, u1, u2, u3, u4, N2⟩ := LW
  have N := news_add N1 (news_add N2 (rest_news (h₀ := h₀) (L := L) (h := s.heap)))
  have Fk := F.keep
  generalize hcn : restA h₀ [L] s.heap = cn at N
  simp only [List.cons_append, List.nil_append] at N
  clear N1 N2
  have hyl : ys.length = 9 := by rw [hys.length, hl]
  refine wpAny_For ?_
  k_steps
  rename Fr _ _ _ _ => F8
  rename News _ _ _ _ => N8
  unfold Stop
  have k8 := rest_keeps Fk F8 N8 (fun p hp => by rw [hcn] at hp; repeat (first | exact hp | refine List.mem_cons_of_mem _ ?_))
  refine for_pairs (s := ⟨_, _, _, _, _⟩) (n := 4) (its := bad4 ((nums.getD (Int.toNat 0) 0).fmod 7) a1) (Pm := fun i m' => m' (.ofString "union") = some (.ref u) ∧ m' (.ofString "row") = m (.ofString "row") ∧ ∃ t, m' (.ofString "odd") = some (.int i t)) hh F8 (N8 _ (.head _)).1 (N8 _ (.head _)).2.1 rfl ?items hb ⟨m1, rfl, _, m4⟩ ?turn ?fin
  case items =>
    intro i hi
    match i, hi with
    | 0, _ => exact ⟨_, _, _, rfl, news_at2 N8 (by k_mem)⟩
    | 1, _ => exact ⟨_, _, _, rfl, news_at2 N8 (by k_mem)⟩
    | 2, _ => exact ⟨_, _, _, rfl, news_at2 N8 (by k_mem)⟩
    | 3, _ => exact ⟨_, _, _, rfl, news_at2 N8 (by k_mem)⟩
  case turn =>
    intro i h' g' tk' m' t u' hi ⟨p1, p2, t0, p3⟩ F' K' B' P E' fin'
    dsimp only at K' ⊢
    refine lw_one (s := ⟨_, _, _, _, _⟩) W hd hu hh hA F' (U.keeps (k8.trans K')) (mm := (bad4 ((nums.getD (Int.toNat 0) 0).fmod 7) a1 i).1) (dd := (bad4 ((nums.getD (Int.toNat 0) 0).fmod 7) a1 i).2) (tm := t) (td := u') (o := (i : Nat)) (to := t0) ?_ ?_ ?_ ?_ (bad4_bad (Int.fmod_nonneg_of_pos _ (show (0 : Int) < 7 by decide)) i) ?_
    · rw [if_neg (by decide), if_neg (by decide)]; exact p1
    · rw [if_neg (by decide), if_pos rfl]
    · rw [if_pos rfl]
    · rw [if_neg (by decide), if_neg (by decide)]; exact p3
    · intro h2 tk2 t2 F2 k2
      refine fin' h2 g' tk2 _ F2 k2 B' ⟨?_, ?_, t2, ?_⟩
      · rw [if_neg (by decide), if_neg (by decide), if_neg (by decide)]; exact p1
      · rw [if_neg (by decide), if_neg (by decide), if_neg (by decide)]; exact p2
      · rw [if_pos rfl]; rfl
  case fin =>
    intro h' g' tk' m' F' K' B' ⟨p1, p2, t0, p3⟩
    exact fin h' g' tk' m' t0 F' p1 p2 p3 (k8.trans K') B'
end
end

-- E5
section
-- my own words: a pure call is entered; the room; the world; a cell; the state behind a call


local macro_rules | `(tactic| walk_at "call ref") => `(tactic| (k_here; (with_reducible show wpAny _ _ (call (Value.ref 453) _ _) _ _ _); refine stop_ ?_))


def retE : Stmt → Expr
  | .Return (some e) _ => e
  | _ => .Constant .none 0 default
def boolR : Expr → Expr
  | .BoolOp _ (_ :: r :: _) _ => r
  | _ => .Constant .none 0 default
def callA0 : Expr → Expr
  | .Call _ (a :: _) _ _ => a
  | _ => .Constant .none 0 default
@[reducible] noncomputable def ids3 : {x : Expr // compElt (cmpL (ifTest (stmtAt (forBody (stmtAt F_law_b.1 5)) 1))) = x} := by refine ⟨?x, ?h⟩; case h => conv => lhs; whnf
@[reducible] noncomputable def ids4 : {x : Expr // compElt (cmpL (boolR (retE (stmtAt F_law_b.1 8)))) = x} := by refine ⟨?x, ?h⟩; case h => conv => lhs; whnf
@[reducible] noncomputable def row3 : {x : Expr // compElt (cmpR (ifTest (stmtAt (forBody (stmtAt F_law_b.1 5)) 1))) = x} := by refine ⟨?x, ?h⟩; case h => conv => lhs; whnf
@[reducible] noncomputable def row_s : {x : Scope // compScope (cmpR (ifTest (stmtAt (forBody (stmtAt F_law_b.1 5)) 1))) = x} := by refine ⟨?x, ?h⟩; case h => conv => lhs; whnf
@[reducible] noncomputable def row4 : {x : Expr // compElt (cmpR (boolR (retE (stmtAt F_law_b.1 8)))) = x} := by refine ⟨?x, ?h⟩; case h => conv => lhs; whnf
@[reducible] noncomputable def rowU : {x : Expr // compElt (callA0 (assignVal (stmtAt F_law_b.1 4))) = x} := by refine ⟨?x, ?h⟩; case h => conv => lhs; whnf
@[reducible] noncomputable def rowU_s : {x : Scope // compScope (callA0 (assignVal (stmtAt F_law_b.1 4))) = x} := by refine ⟨?x, ?h⟩; case h => conv => lhs; whnf
/-- an element of a comprehension that asks a cell for its id -/
def IdsElt (w : World) (A : Around) (h₀ : Heap) (L fa cd : Addr) (elt : Expr) : Prop := ∀ (s : Shared) (m : Str → Option Value) (ax : Addr) (vs : List Value) (ids : List Int) (cn : List (Addr × Obj)) (Fin : List Value → List (Addr × Obj) → Prop), ItemsIds h₀ cn vs ids → LCg.SrcAt h₀ ax vs.toArray cn → (∀ ys, IntsAre ys ids → Fin ys cn) →
  LCg.CompRest rr.prog w A h₀ L m (lEnv L fa cd) elt (.ofString "cell") ids1_s.1 [] s (LCg.SrcAt h₀ ax vs.toArray) (fun i v => vs.toArray[i]? = some v) Fin vs.length 0 [] cn
section
variable {w : World} {A : Around} {h₀ : Heap} {s : Shared} {E : Value → Shared → Prop}
theorem ids_1 {L fa cd : Addr} (W : Wd w h₀) (hd : A.depth + 10 < recursionLimit) (hu : A.units + 30 < cLine) : IdsElt w A h₀ L fa cd ids1.1 :=
  fun s m ax vs ids cn Fin it src fin => ids_rest1 W hd hu it src vs.length 0 [] (by omega) .nil fin
theorem ids_rest3 {L fa cd ax : Addr} {m : Str → Option Value} {vs : List Value} {ids : List Int} {cn : List (Addr × Obj)} {Fin : List Value → List (Addr × Obj) → Prop} (W : Wd w h₀) (hd : A.depth + 10 < recursionLimit) (hu : A.units + 30 < cLine)
    (it : ItemsIds h₀ cn vs ids) (src : LCg.SrcAt h₀ ax vs.toArray cn) :
    ∀ k i ys, i + k = vs.length → IntsAre ys (ids.take i) → (∀ ys, IntsAre ys ids → Fin ys cn) →
      LCg.CompRest rr.prog w A h₀ L m (lEnv L fa cd) ids3.1 (.ofString "cell") ids1_s.1 [] s (LCg.SrcAt h₀ ax vs.toArray) (fun i v => vs.toArray[i]? = some v) Fin k i ys cn := by
  obtain ⟨mean, mg, mb, T⟩ := W.T
  have X := W.X
  intro k
  induction k with
  | zero =>
    intro i ys e hys fin
    refine LCg.CompRest.zero (fin ys ?_)
    rw [List.take_of_length_le (by have := it.1; omega)] at hys
    exact hys
  | succ k ih =>
    intro i ys e hys fin
    refine LCg.CompRest.succ ?_
    intro v I oI C oC D m₂ h tk E' hP hN hx F N off ne
    obtain ⟨x, id, dx, hs, t1, t2, n, rfl, e2, h1, h2⟩ := it.2 i v (by simpa using hP)
    k_steps
    rename Fr _ _ _ _ => F9
    rename News _ _ _ _ => N9
    refine LCg.CompEnd.intro F9 N9 cn (fun p hp => hp) off src (ih (i + 1) _ (by omega) ?_ fin)
    rw [List.take_add_one, e2]
    exact hys.append (.cons _ _ .nil)
theorem ids_3 {L fa cd : Addr} (W : Wd w h₀) (hd : A.depth + 10 < recursionLimit) (hu : A.units + 30 < cLine) : IdsElt w A h₀ L fa cd ids3.1 :=
  fun s m ax vs ids cn Fin it src fin => ids_rest3 W hd hu it src vs.length 0 [] (by omega) .nil fin
theorem ids_rest4 {L fa cd ax : Addr} {m : Str → Option Value} {vs : List Value} {ids : List Int} {cn : List (Addr × Obj)} {Fin : List Value → List (Addr × Obj) → Prop} (W : Wd w h₀) (hd : A.depth + 10 < recursionLimit) (hu : A.units + 30 < cLine)
    (it : ItemsIds h₀ cn vs ids) (src : LCg.SrcAt h₀ ax vs.toArray cn) :
    ∀ k i ys, i + k = vs.length → IntsAre ys (ids.take i) → (∀ ys, IntsAre ys ids → Fin ys cn) →
      LCg.CompRest rr.prog w A h₀ L m (lEnv L fa cd) ids4.1 (.ofString "cell") ids1_s.1 [] s (LCg.SrcAt h₀ ax vs.toArray) (fun i v => vs.toArray[i]? = some v) Fin k i ys cn := by
  obtain ⟨mean, mg, mb, T⟩ := W.T
  have X := W.X
  intro k
  induction k with
  | zero =>
    intro i ys e hys fin
    refine LCg.CompRest.zero (fin ys ?_)
    rw [List.take_of_length_le (by have := it.1; omega)] at hys
    exact hys
  | succ k ih =>
    intro i ys e hys fin
    refine LCg.CompRest.succ ?_
    intro v I oI C oC D m₂ h tk E' hP hN hx F N off ne
    obtain ⟨x, id, dx, hs, t1, t2, n, rfl, e2, h1, h2⟩ := it.2 i v (by simpa using hP)
    k_steps
    rename Fr _ _ _ _ => F9
    rename News _ _ _ _ => N9
    refine LCg.CompEnd.intro F9 N9 cn (fun p hp => hp) off src (ih (i + 1) _ (by omega) ?_ fin)
    rw [List.take_add_one, e2]
    exact hys.append (.cons _ _ .nil)
theorem ids_4 {L fa cd : Addr} (W : Wd w h₀) (hd : A.depth + 10 < recursionLimit) (hu : A.units + 30 < cLine) : IdsElt w A h₀ L fa cd ids4.1 :=
  fun s m ax vs ids cn Fin it src fin => ids_rest4 W hd hu it src vs.length 0 [] (by omega) .nil fin
/-- the comprehension over a list of cells -/
theorem ids_comp {L fa cd : Addr} {m : Str → Option Value} {elt iter : Expr} {px pos : Pos} {Q : Value → Shared → Prop} (hE : IdsElt w A h₀ L fa cd elt) (hh : A.handled = none) (F : Fr h₀ L s.heap m) (hs : ∀ x, foldedSetIterable iter (lEnv L fa cd) x = pure x)
    (h : wpAny (model rr.prog w) A (eval iter (lEnv L fa cd)) (fun v s₁ => ∃ ax vs ids n h1 g1 tk1, v = .ref ax ∧ s₁ = { s with heap := h1, gens := g1, toks := tk1 } ∧ Fr h₀ L h1 m ∧ h1.get? ax = some (listOf (List.toArray vs) n) ∧ @Ne Nat ax L ∧ CellsX [L] h1 vs ids ∧ vs.length ≤ sizeLine ∧
      ∀ D h2 tk2 ys, Fr h₀ L h2 m → KeepsL [L] h1 h2 → h2.get? D = some (LCg.lst ys) → D ≠ L → h₀.get? D = none → IntsAre ys ids → Q (.ref D) { s with heap := h2, gens := g1, toks := tk2 }) E s) :
    wpAny (model rr.prog w) A (eval (.ListComp elt [⟨.Name (.ofString "cell") px, iter, [], 0⟩] ids1_s.1 pos) (lEnv L fa cd)) Q E s := by
  refine LCg.ListComp_U (F₀ := F) (cl := []) rfl (by decide) rfl (by decide) rfl ?_ hs
  refine wpAny_mono h ?_ (fun _ _ e => e)
  rintro v s₁ ⟨ax, vs, ids, n, h1, g1, tk1, rfl, rfl, F1, hl, neL, cs, hz, fin⟩
  have src := src_list (s := ⟨h1, s.gens, s.drawn, s.toks, s.os⟩) F1 hl neL
  refine .inl ⟨ax, vs.toArray, restA h₀ [L] h1, rfl, hh, F1, rest_news, src, by simpa using hz, ?_⟩
  rintro s₂ ⟨hg, rfl⟩
  refine hE _ m ax vs ids _ _ (itemsIds_of F1.keep cs) src ?_
  intro ys hys D h2 tk2 F2 N2 off
  exact fin D h2 tk2 ys F2 (rest_keeps F1.keep F2 N2 (fun p hp => .tail _ hp)) (N2 _ (.head _)).1 (N2 _ (.head _)).2.1 (N2 _ (.head _)).2.2 hys
end
end

-- E6
section
-- my own words: a pure call is entered; the room; the world; a cell; the state behind a call




def RowN (h₀ : Heap) (L : Nat) (h : Heap) (lrow : Addr) (q : List (Int × Nat)) : Prop := ∃ refs n, News h₀ L h [(lrow, listOf refs n)] ∧ refs.size = q.length ∧ ∀ (i : Nat) (p : Int × Nat), q[i]? = some p → ∃ T t u, refs[i]? = some (.ref T) ∧ News h₀ L h [(T, tupObj [.int p.1 t, .int (30 - (p.2 : Int)) u])]
theorem RowN.keeps {h₀ h h' : Heap} {L : Nat} {lrow : Addr} {q : List (Int × Nat)} (U : RowN h₀ L h lrow q) (k : KeepsL [L] h h') : RowN h₀ L h' lrow q := by
  obtain ⟨refs, n, N, e, r⟩ := U
  refine ⟨refs, n, news_keepsL N k, e, fun i p hp => ?_⟩
  obtain ⟨T, t, u, e1, N1⟩ := r i p hp
  exact ⟨T, t, u, e1, news_keepsL N1 k⟩
theorem RowN.rowAt {h₀ h : Heap} {L : Nat} {lrow : Addr} {q : List (Int × Nat)} (U : RowN h₀ L h lrow q) : RowAt h lrow (rowPairs q) := by
  obtain ⟨refs, n, N, e, r⟩ := U
  refine ⟨refs, n, (N _ (.head _)).1, by rw [e]; simp [rowPairs], fun i p hp => ?_⟩
  unfold rowPairs at hp
  rw [List.getElem?_map] at hp
  obtain ⟨p', e1, e2⟩ := Option.map_eq_some_iff.mp hp
  subst e2
  obtain ⟨T, t, u, e3, N1⟩ := r i p' e1
  exact ⟨T, t, u, e3, (N1 _ (.head _)).1⟩
/-- the tuples of a row in a ledger -/
def RowIn (cn : List (Addr × Obj)) (refs : Array Value) (q : List (Int × Nat)) : Prop := refs.size = q.length ∧ ∀ (i : Nat) (p : Int × Nat), q[i]? = some p → ∃ (T : Addr) (t u : Tok), refs[i]? = some (.ref T) ∧ (T, tupObj [.int p.1 t, .int (30 - (p.2 : Int)) u]) ∈ cn
def RowElt (w : World) (A : Around) (h₀ : Heap) (L fa cd : Addr) (elt : Expr) : Prop := ∀ (s : Shared) (m : Str → Option Value) (ax : Addr) (refs : Array Value) (q : List (Int × Nat)) (cn : List (Addr × Obj)) (Fin : List Value → List (Addr × Obj) → Prop), RowOk q → RowIn cn refs q → LCg.SrcAt h₀ ax refs cn → (∀ ys, IntsAre ys ((rowPs q).map (·.1)) → Fin ys cn) →
  LCp.CompRestP rr.prog w A h₀ L m (lEnv L fa cd) elt (.ofString "place") (.ofString "level") row_s.1 [] s (LCg.SrcAt h₀ ax refs) (fun i v => refs[i]? = some v) Fin refs.size 0 [] cn
theorem rowPs_at {q : List (Int × Nat)} {i k : Nat} {p : Int} {e : Int × Nat} (h : q[i]? = some e) (hp : e.1 = p) (hk : e.2 = k) : ((rowPs q).map (·.1))[i]? = some ((2 * p + 1) * 4 ^ k) := by
  subst hp hk
  unfold rowPs
  rw [List.getElem?_map, List.getElem?_map, h]; rfl
section
variable {w : World} {A : Around} {h₀ : Heap} {s : Shared} {E : Value → Shared → Prop}
theorem row_rest3 {L fa cd ax : Addr} {m : Str → Option Value} {refs : Array Value} {q : List (Int × Nat)} {cn : List (Addr × Obj)} {Fin : List Value → List (Addr × Obj) → Prop} (W : Wd w h₀) (hd : A.depth + 10 < recursionLimit) (hu : A.units + 30 < cLine)
    (ok : RowOk q) (it : RowIn cn refs q) (src : LCg.SrcAt h₀ ax refs cn) :
    ∀ k i ys, i + k = refs.size → IntsAre ys (((rowPs q).map (·.1)).take i) → (∀ ys, IntsAre ys ((rowPs q).map (·.1)) → Fin ys cn) →
      LCp.CompRestP rr.prog w A h₀ L m (lEnv L fa cd) row3.1 (.ofString "place") (.ofString "level") row_s.1 [] s (LCg.SrcAt h₀ ax refs) (fun i v => refs[i]? = some v) Fin k i ys cn := by
  obtain ⟨mean, mg, mb, T⟩ := W.T
  have X := W.X
  intro k
  induction k with
  | zero =>
    intro i ys e hys fin
    refine LCp.CompRestP.zero (fin ys ?_)
    rw [List.take_of_length_le (by simp [rowPs]; have := it.1; omega)] at hys
    exact hys
  | succ k ih =>
    intro i ys e hys fin
    refine LCp.CompRestP.succ ?_
    intro v hP
    have hi : i < q.length := by have := it.1; omega
    have eq1 : q[i]? = some q[i] := List.getElem?_eq_getElem hi
    obtain ⟨T1, t, u, e1, hmem⟩ := it.2 i _ eq1
    have ⟨ok1, ok2, ok3⟩ := ok q[i] (List.getElem_mem hi)
    rw [e1] at hP
    cases hP
    have fk := four_le (k := 30 - q[i].2) (by omega)
    generalize hp : q[i].1 = p at *
    generalize hk : q[i].2 = kk at *
    refine ⟨T1, _, _, _, _, rfl, hmem, rfl, rfl, ?_⟩
    intro I oI C oC D m₂ h tk E' hN hx hy F N off ne
    k_steps
    rename Fr _ _ _ _ => F9
    rename News _ _ _ _ => N9
    refine LCg.CompEnd.intro F9 N9 cn (fun p hp => hp) off src (ih (i + 1) _ (by omega) ?_ fin)
    rw [List.take_add_one, rowPs_at eq1 hp hk, show (30 - (30 - (kk : Int))).toNat = kk by omega]
    exact hys.append (.cons _ _ .nil)
theorem row_3 {L fa cd : Addr} (W : Wd w h₀) (hd : A.depth + 10 < recursionLimit) (hu : A.units + 30 < cLine) : RowElt w A h₀ L fa cd row3.1 :=
  fun s m ax refs q cn Fin ok it src fin => row_rest3 W hd hu ok it src refs.size 0 [] (by omega) .nil fin
theorem row_rest4 {L fa cd ax : Addr} {m : Str → Option Value} {refs : Array Value} {q : List (Int × Nat)} {cn : List (Addr × Obj)} {Fin : List Value → List (Addr × Obj) → Prop} (W : Wd w h₀) (hd : A.depth + 10 < recursionLimit) (hu : A.units + 30 < cLine)
    (ok : RowOk q) (it : RowIn cn refs q) (src : LCg.SrcAt h₀ ax refs cn) :
    ∀ k i ys, i + k = refs.size → IntsAre ys (((rowPs q).map (·.1)).take i) → (∀ ys, IntsAre ys ((rowPs q).map (·.1)) → Fin ys cn) →
      LCp.CompRestP rr.prog w A h₀ L m (lEnv L fa cd) row4.1 (.ofString "place") (.ofString "level") row_s.1 [] s (LCg.SrcAt h₀ ax refs) (fun i v => refs[i]? = some v) Fin k i ys cn := by
  obtain ⟨mean, mg, mb, T⟩ := W.T
  have X := W.X
  intro k
  induction k with
  | zero =>
    intro i ys e hys fin
    refine LCp.CompRestP.zero (fin ys ?_)
    rw [List.take_of_length_le (by simp [rowPs]; have := it.1; omega)] at hys
    exact hys
  | succ k ih =>
    intro i ys e hys fin
    refine LCp.CompRestP.succ ?_
    intro v hP
    have hi : i < q.length := by have := it.1; omega
    have eq1 : q[i]? = some q[i] := List.getElem?_eq_getElem hi
    obtain ⟨T1, t, u, e1, hmem⟩ := it.2 i _ eq1
    have ⟨ok1, ok2, ok3⟩ := ok q[i] (List.getElem_mem hi)
    rw [e1] at hP
    cases hP
    have fk := four_le (k := 30 - q[i].2) (by omega)
    generalize hp : q[i].1 = p at *
    generalize hk : q[i].2 = kk at *
    refine ⟨T1, _, _, _, _, rfl, hmem, rfl, rfl, ?_⟩
    intro I oI C oC D m₂ h tk E' hN hx hy F N off ne
    k_steps
    rename Fr _ _ _ _ => F9
    rename News _ _ _ _ => N9
    refine LCg.CompEnd.intro F9 N9 cn (fun p hp => hp) off src (ih (i + 1) _ (by omega) ?_ fin)
    rw [List.take_add_one, rowPs_at eq1 hp hk, show (30 - (30 - (kk : Int))).toNat = kk by omega]
    exact hys.append (.cons _ _ .nil)
theorem row_4 {L fa cd : Addr} (W : Wd w h₀) (hd : A.depth + 10 < recursionLimit) (hu : A.units + 30 < cLine) : RowElt w A h₀ L fa cd row4.1 :=
  fun s m ax refs q cn Fin ok it src fin => row_rest4 W hd hu ok it src refs.size 0 [] (by omega) .nil fin
/-- the comprehension over the row of pairs -/
theorem row_comp {L fa cd lrow : Addr} {m : Str → Option Value} {elt : Expr} {px py pp pi pos : Pos} {k} {q : List (Int × Nat)} {Q : Value → Shared → Prop} (hE : RowElt w A h₀ L fa cd elt) (hh : A.handled = none) (F : Fr h₀ L s.heap m) (R : RowN h₀ L s.heap lrow q) (ok : RowOk q) (hz : q.length ≤ 1000) (m1 : m (.ofString "row") = some (.ref lrow))
    (fin : ∀ D h2 tk2 ys, Fr h₀ L h2 m → KeepsL [L] s.heap h2 → h2.get? D = some (LCg.lst ys) → D ≠ L → h₀.get? D = none → IntsAre ys ((rowPs q).map (·.1)) → Q (.ref D) { s with heap := h2, toks := tk2 }) :
    wpAny (model rr.prog w) A (eval (.ListComp elt [⟨.Tuple [.Name (.ofString "place") px, .Name (.ofString "level") py] k pp, .Name (.ofString "row") pi, [], 0⟩] row_s.1 pos) (lEnv L fa cd)) Q E s := by
  refine LCp.ListComp_P (F₀ := F) (cl := []) rfl (by decide) rfl (by decide) rfl rfl (by decide) ?_
  refine nameX_L F m1 ?_ rfl rfl
  obtain ⟨refs, n, N, e, r⟩ := R
  have hl := (N _ (.head _)).1
  have hmem : (lrow, listOf refs n) ∈ restA h₀ [L] s.heap := restA_mem (by simpa using (N _ (.head _)).2.1) (N _ (.head _)).2.2 hl
  refine ⟨lrow, refs, restA h₀ [L] s.heap, rfl, hh, F, rest_news, .inr ⟨_, hmem, rfl, _, rfl⟩, by rw [show sizeLine = 16777216 from rfl]; omega, ?_⟩
  rintro s₂ ⟨hg, rfl⟩
  refine hE _ m lrow refs q _ _ ok ⟨e, fun i p hp => ?_⟩ (.inr ⟨_, hmem, rfl, _, rfl⟩) ?_
  · obtain ⟨T, t, u, e1, N1⟩ := r i p hp
    exact ⟨T, t, u, e1, restA_mem (by simpa using (N1 _ (.head _)).2.1) (N1 _ (.head _)).2.2 (N1 _ (.head _)).1⟩
  · intro ys hys D h2 tk2 F2 N2 off
    exact fin D h2 tk2 ys F2 (rest_keeps F.keep F2 N2 (fun p hp => .tail _ hp)) (N2 _ (.head _)).1 (N2 _ (.head _)).2.1 (N2 _ (.head _)).2.2 hys
end
end

-- E7
section
-- my own words: a pure call is entered; the room; the world; a cell; the state behind a call


local macro_rules | `(tactic| walk_at "call ref") => `(tactic| (k_here; (with_reducible show wpAny _ _ (call (Value.ref 573) _ _) _ _ _); refine stop_ ?_))
local macro_rules | `(tactic| walk_at "call ref") => `(tactic| (k_here; (with_reducible show wpAny _ _ (call (Value.ref 606) _ _) _ _ _); refine stop_ ?_))
local macro_rules | `(tactic| walk_at "call ref") => `(tactic| (k_here; (with_reducible show wpAny _ _ (call (Value.ref 559) _ _) _ _ _); refine stop_ ?_))
local macro_rules | `(tactic| walk_at "compareOp NotEq ref ref") => `(tactic| (k_here; refine stop_ ?_))


@[reducible] noncomputable def lw_for5 : {x : Stmt // stmtAt F_law_b.1 5 = x} := by refine ⟨?x, ?h⟩; case h => conv => lhs; whnf
theorem cellsV_of {L : Nat} {h : Heap} : ∀ {vs : List Value} {q : List (Int × Nat)}, RowOk q → CellsX [L] h vs ((rowPs q).map (·.1)) → CellsV h vs (rowPs q)
  | [], [], _, _ => trivial
  | _ :: _, p :: r, ok, ⟨⟨y, e, c⟩, t⟩ => ⟨⟨y, e, c.at, ⟨p.1, rfl, (ok p (.head _)).2.1, (ok p (.head _)).2.2, (ok p (.head _)).1⟩⟩, cellsV_of (q := r) (fun x hx => ok x (.tail _ hx)) t⟩
theorem LawU.unionAt {h₀ h : Heap} {L : Nat} {u lst : Addr} {vs : List Value} (U : LawU h₀ L h u lst vs) : UnionAt h u lst vs := by
  obtain ⟨du, hs, t, n, m, N⟩ := U
  exact ⟨⟨du, hs, t, n, m, (news_at2 N (by k_mem)).2, (news_at2 N (by k_mem)).2, (news_at2 N (by k_mem)).2⟩⟩
theorem cells_off {h₀ h : Heap} {L : Nat} {m : Str → Option Value} {v : Value} (F : Fr h₀ L h m) (hm : m (.ofString "union") = some v) : ∀ {vs : List Value} {ids : List Int}, CellsX [] h vs ids → CellsX [L] h vs ids
  | [], [], _ => trivial
  | _ :: _, id :: _, ⟨⟨y, e, dx, hs, t1, t2, n, a, b, _, _⟩, t⟩ => by
    refine ⟨⟨y, e, dx, hs, t1, t2, n, a, b, ?_, ?_⟩, cells_off F hm t⟩
    · simp only [List.mem_cons, List.not_mem_nil, or_false]
      rintro rfl
      obtain ⟨oL, es, ep, hL, hd, _⟩ := F.ns
      rw [hL] at a; cases a; cases hd
    · simp only [List.mem_cons, List.not_mem_nil, or_false]
      rintro rfl
      obtain ⟨oL, es, ep, hL, hd, _, hf⟩ := F.ns
      rw [hL] at b; cases b; cases hd
      have z := hf (.ofString "union")
      rw [hm] at z
      exact absurd z (by
        intro z
        have : nsFind (List.toArray [⟨hs, .str (.ofString "_CellId__id") t1, .int id t2⟩]) (.ofString "union") = none := rfl
        rw [this] at z; cases z)
section
variable {w : World} {A : Around} {h₀ : Heap} {s : Shared} {E : Value → Shared → Prop}
theorem lw_round {L fa cd u lst lrow : Nat} {m : Str → Option Value} {q : List (Int × Nat)} {mm dd : Int} {tm td : Tok} {vs : List Value} {P : Flow → Shared → Prop} (W : Wd w h₀) (hd : A.depth + 40 < recursionLimit) (hu : A.units + 90 < cLine) (hh : A.handled = none)
    (F : Fr h₀ L s.heap m) (U : LawU h₀ L s.heap u lst vs) (cs : CellsX [L] s.heap vs ((rowPs q).map (·.1))) (R : RowN h₀ L s.heap lrow q) (ok : RowOk q) (hz : q.length ≤ 1000) (m1 : m (.ofString "union") = some (.ref u)) (m2 : m (.ofString "row") = some (.ref lrow)) (m3 : m (.ofString "least") = some (.int mm tm)) (m4 : m (.ofString "step") = some (.int dd td)) (hb : Bare s.gens)
    (hm0 : 0 ≤ mm) (hm1 : mm ≤ 30) (hdd : dd = 1 ∨ dd = 2 ∨ dd = 3) (hm2 : ∀ p ∈ q, mm ≤ 30 - (p.2 : Int) + 2)
    (fin : ∀ h' g' tk', Fr h₀ L h' m → KeepsL [L] s.heap h' → Bare g' → P .next { s with heap := h', gens := g', toks := tk' }) :
    wpAny (model rr.prog w) A (execs (forBody lw_for5.1) (lEnv L fa cd)) P E s := by
  obtain ⟨mean, mg, mb, T⟩ := W.T
  have X := W.X
  have U0 := U
  obtain ⟨du, hs, t, n, k, N⟩ := U0
  have Wn : Wd w s.heap := W.keeps F.keep
  have hlen : vs.length = q.length := by rw [cs.length]; simp [rowPs]
  have sml : (dnIds (rowPs q) mm dd).length ≤ sizeLine := by
    have := dnIds_small ok hm0 hm1 hdd hm2
    rw [show sizeLine = 16777216 from rfl]; omega
  k_steps
  unfold Stop
  refine ids_comp (ids_1 W (by omega) (by omega)) hh F (by intro _; rfl) ?_
  k_steps
  unfold Stop
  refine c_denorm Wn U.unionAt (cellsV_of ok cs) hm0 hm1 (by omega) (by omega) (by omega) (by omega) hh hb sml ?_
  intro r vs2 h1 g1 tk1 n1 G1 hr hr0 cs1 b1
  have F1 := fr_grows F G1
  have neR : @Ne Nat r L := fun e => by
    obtain ⟨oL, es, ep, hL, hd, _⟩ := F1.ns
    rw [e, hL] at hr; cases hr; cases hd
  refine ⟨r, vs2, _, n1, h1, g1, tk1, rfl, rfl, F1, hr, neR, cells_off F1 m1 cs1, by rw [cs1.length]; exact sml, ?_⟩
  intro D h2 tk2 ys F2 k2 hD neD hD0 hys
  have N2 : News h₀ L h2 [(D, LCg.lst ys)] := fun p hp => by
    simp only [List.mem_cons, List.not_mem_nil, or_false] at hp
    subst hp; exact ⟨hD, neD, hD0⟩
  clear N
  have kk2 := (KeepsL.ofG (av := [L]) G1).trans k2
  k_steps
  unfold Stop
  refine c_law_parts (W.keeps F2.keep) (R.keeps kk2).rowAt ok (by omega) (by omega) hh hm0 hm1 hdd hm2 hz ?_
  intro il ys2 n3 h3 tk3 G3 hil hil0 hys2
  have F3 := fr_grows F2 G3
  clear N2
  dsimp only
  refine ne_intsK (vs := ys) (us := ys2) ⟨_, G3 _ _ hD, rfl, _, rfl⟩ hys ⟨_, hil, rfl, _, rfl⟩ hys2 (by omega) ?_
  have N3 : News h₀ L h3 [] := fun _ h => nomatch h
  have kk3 := kk2.trans (KeepsL.ofG (av := [L]) G3)
  simp only [decide_true, Bool.not_true]
  clear F2
  k_steps
  unfold Stop
  have U3 := U.keeps kk3
  have U3' := U3
  obtain ⟨du3, hs3, t3, n3', k3, N4⟩ := U3'
  refine ids_comp (ids_3 W (by omega) (by omega)) hh F3 (by intro _; rfl) ?_
  clear N3
  k_steps
  unfold Stop
  refine c_cell_ids (W.keeps F3.keep) (by omega) (by omega) U3.unionAt ?_
  intro h4 tk4 G4
  have kk4 := kk3.trans (KeepsL.ofG (av := [L]) G4)
  refine ⟨lst, vs, _, _, h4, _, tk4, rfl, rfl, fr_grows F3 G4, G4 _ _ (news_at2 N4 (.tail _ (.tail _ (.head _)))).2, (news_at2 N4 (.tail _ (.tail _ (.head _)))).1, cs.keeps kk4, by rw [hlen, show sizeLine = 16777216 from rfl]; omega, ?_⟩
  intro D5 h5 tk5 ys5 F5 k5 hD5 neD5 hD50 hys5
  have N5 : News h₀ L h5 [(D5, LCg.lst ys5)] := fun p hp => by
    simp only [List.mem_cons, List.not_mem_nil, or_false] at hp
    subst hp; exact ⟨hD5, neD5, hD50⟩
  clear N4
  have kk5 := kk4.trans k5
  k_steps
  unfold Stop
  refine row_comp (row_3 W (by omega) (by omega)) hh F5 (R.keeps kk5) ok hz m2 ?_
  intro D6 h6 tk6 ys6 F6 k6 hD6 neD6 hD60 hys6
  have N6 : News h₀ L h6 [(D6, LCg.lst ys6)] := fun p hp => by
    simp only [List.mem_cons, List.not_mem_nil, or_false] at hp
    subst hp; exact ⟨hD6, neD6, hD60⟩
  have hD5' := k6 _ _ (by simpa using neD5) hD5
  clear N5
  k_steps
  unfold Stop
  refine ne_intsK (vs := ys5) (us := ys6) ⟨_, hD5', rfl, _, rfl⟩ hys5 ⟨_, hD6, rfl, _, rfl⟩ hys6 (by omega) ?_
  simp only [decide_true, Bool.not_true]
  k_steps
  exact fin h6 g1 _ F6 (kk5.trans k6) b1
end
end

-- E8
section
-- my own words: a pure call is entered; the room; the world; a cell; the state behind a call


local macro_rules | `(tactic| walk_at "pyIter ref") => `(tactic| (k_here; refine stop_ ?_))
def way2 (a1 b1 a2 b2 : Int) (i : Nat) : Int × Int := if i = 1 then (a2, b2) else (a1, b1)
/-- what is asked lies within bounds -/
structure WayOk (q : List (Int × Nat)) (a b : Int) : Prop where
  a0 : 0 ≤ a
  a1 : a ≤ 30
  b0 : b = 1 ∨ b = 2 ∨ b = 3
  near : ∀ p ∈ q, a ≤ 30 - (p.2 : Int) + 2
section
variable {w : World} {A : Around} {h₀ : Heap} {s : Shared} {E : Value → Shared → Prop}
theorem lw_rounds {L fa cd u lst lrow wl : Nat} {m : Str → Option Value} {q : List (Int × Nat)} {a1 b1 a2 b2 : Int} {vs : List Value} {Q : Flow → Shared → Prop} (W : Wd w h₀) (hd : A.depth + 40 < recursionLimit) (hu : A.units + 90 < cLine) (hh : A.handled = none)
    (F : Fr h₀ L s.heap m) (U : LawU h₀ L s.heap u lst vs) (cs : CellsX [L] s.heap vs ((rowPs q).map (·.1))) (R : RowN h₀ L s.heap lrow q) (ok : RowOk q) (hz : q.length ≤ 1000) (LW : LawW h₀ L s.heap wl a1 b1 a2 b2)
    (m1 : m (.ofString "union") = some (.ref u)) (m2 : m (.ofString "row") = some (.ref lrow)) (m3 : m (.ofString "ways") = some (.ref wl)) (hb : Bare s.gens) (w1 : WayOk q a1 b1) (w2 : WayOk q a2 b2)
    (fin : ∀ h' g' tk' m', Fr h₀ L h' m' → m' (.ofString "union") = some (.ref u) → m' (.ofString "row") = some (.ref lrow) → m' (.ofString "ways") = some (.ref wl) → KeepsL [L] s.heap h' → Bare g' → Q .next { s with heap := h', gens := g', toks := tk' }) :
    wpAny (model rr.prog w) A (PySem.exec lw_for5.1 (lEnv L fa cd)) Q E s := by
  obtain ⟨mean, mg, mb, T⟩ := W.T
  have X := W.X
  obtain ⟨t1, t2, n, u1, u2, u3, u4, N2⟩ := LW
  have N := news_add N2 (rest_news (h₀ := h₀) (L := L) (h := s.heap))
  have Fk := F.keep
  generalize hcn : restA h₀ [L] s.heap = cn at N
  simp only [List.cons_append, List.nil_append] at N
  clear N2
  refine wpAny_For ?_
  k_steps
  rename Fr _ _ _ _ => F8
  rename News _ _ _ _ => N8
  unfold Stop
  have k8 := rest_keeps Fk F8 N8 (fun p hp => by rw [hcn] at hp; repeat (first | exact hp | refine List.mem_cons_of_mem _ ?_))
  refine for_pairs (s := ⟨_, _, _, _, _⟩) (n := 3) (its := way2 a1 b1 a2 b2) (Pm := fun i m' => m' (.ofString "union") = some (.ref u) ∧ m' (.ofString "row") = some (.ref lrow) ∧ m' (.ofString "ways") = some (.ref wl)) hh F8 (N8 _ (.head _)).1 (N8 _ (.head _)).2.1 rfl ?items hb ⟨m1, m2, m3⟩ ?turn ?fin
  case items =>
    intro i hi
    match i, hi with
    | 0, _ => exact ⟨_, _, _, rfl, news_at2 N8 (by k_mem)⟩
    | 1, _ => exact ⟨_, _, _, rfl, news_at2 N8 (by k_mem)⟩
    | 2, _ => exact ⟨_, _, _, rfl, news_at2 N8 (by k_mem)⟩
  case turn =>
    intro i h' g' tk' m' t u' hi ⟨p1, p2, p3⟩ F' K' B' P E' fin'
    have kk := k8.trans K'
    have wk : WayOk q (way2 a1 b1 a2 b2 i).1 (way2 a1 b1 a2 b2 i).2 := by unfold way2; split <;> assumption
    refine lw_round (s := ⟨_, _, _, _, _⟩) (mm := (way2 a1 b1 a2 b2 i).1) (dd := (way2 a1 b1 a2 b2 i).2) (tm := t) (td := u') W hd hu hh F' (U.keeps kk) (cs.keeps kk) (R.keeps kk) ok hz ?_ ?_ ?_ ?_ B' wk.a0 wk.a1 wk.b0 wk.near ?_
    · rw [if_neg (by decide), if_neg (by decide)]; exact p1
    · rw [if_neg (by decide), if_neg (by decide)]; exact p2
    · rw [if_neg (by decide), if_pos rfl]
    · rw [if_pos rfl]
    · intro h2 g2 tk2 F2 k2 B2
      refine fin' h2 g2 tk2 _ F2 k2 B2 ⟨?_, ?_, ?_⟩
      · rw [if_neg (by decide), if_neg (by decide)]; exact p1
      · rw [if_neg (by decide), if_neg (by decide)]; exact p2
      · rw [if_neg (by decide), if_neg (by decide)]; exact p3
  case fin =>
    intro h' g' tk' m' F' K' B' ⟨p1, p2, p3⟩
    exact fin h' g' tk' m' F' p1 p2 p3 (k8.trans K') B'
end
end

-- E9
section
-- my own words: a pure call is entered; the room; the world; a cell; the state behind a call


local macro_rules | `(tactic| walk_at "call ref") => `(tactic| (k_here; (with_reducible show wpAny _ _ (call (Value.ref 453) _ _) _ _ _); refine stop_ ?_))
local macro_rules | `(tactic| walk_at "call ref") => `(tactic| (k_here; (with_reducible show wpAny _ _ (call (Value.ref 590) _ _) _ _ _); refine stop_ ?_))


/-- cells that a ledger bears -/
noncomputable def Made (news : List (Addr × Obj)) : List Value → List Int → Prop
  | [], [] => True
  | v :: vs, i :: is => (∃ (y dx : Addr) (hs : Int) (t1 t2 : Tok) (n : Nat), v = .ref y ∧ (y, instObj 453 dx) ∈ news ∧ (dx, dictOf [⟨hs, .str (.ofString "_CellId__id") t1, .int i t2⟩] n) ∈ news) ∧ Made news vs is
  | _, _ => False
theorem Made.mono {a b : List (Addr × Obj)} (h : ∀ p ∈ a, p ∈ b) : ∀ {vs : List Value} {is : List Int}, Made a vs is → Made b vs is
  | [], [], _ => trivial
  | _ :: _, _ :: _, ⟨⟨y, dx, hs, t1, t2, n, e, x1, x2⟩, r⟩ => ⟨⟨y, dx, hs, t1, t2, n, e, h _ x1, h _ x2⟩, Made.mono h r⟩
theorem Made.snoc {a : List (Addr × Obj)} {v : Value} {i : Int} (x : Made a [v] [i]) : ∀ {vs : List Value} {is : List Int}, Made a vs is → Made a (vs ++ [v]) (is ++ [i])
  | [], [], _ => x
  | _ :: _, _ :: _, ⟨e, r⟩ => ⟨e, Made.snoc x r⟩
theorem Made.cells {h₀ h : Heap} {L : Nat} {news : List (Addr × Obj)} (N : News h₀ L h news) : ∀ {vs : List Value} {is : List Int}, Made news vs is → CellsX [L] h vs is
  | [], [], _ => trivial
  | _ :: _, _ :: _, ⟨⟨y, dx, hs, t1, t2, n, e, x1, x2⟩, r⟩ => ⟨⟨y, e, dx, hs, t1, t2, n, (N _ x1).1, (N _ x2).1, by simpa using (N _ x1).2.1, by simpa using (N _ x2).2.1⟩, Made.cells N r⟩
section
variable {w : World} {A : Around} {h₀ : Heap} {s : Shared} {E : Value → Shared → Prop}
theorem rowU_rest {L fa cd ax : Addr} {m : Str → Option Value} {refs : Array Value} {q : List (Int × Nat)} {cn : List (Addr × Obj)} {Fin : List Value → List (Addr × Obj) → Prop} (W : Wd w h₀) (hd : A.depth + 10 < recursionLimit) (hu : A.units + 30 < cLine)
    (ok : RowOk q) (it : RowIn cn refs q) (src : LCg.SrcAt h₀ ax refs cn) (fin : ∀ ys news, (∀ p ∈ cn, p ∈ news) → Made news ys ((rowPs q).map (·.1)) → Fin ys news) :
    ∀ k i ys news, i + k = refs.size → (∀ p ∈ cn, p ∈ news) → Made news ys (((rowPs q).map (·.1)).take i) →
      LCp.CompRestP rr.prog w A h₀ L m (lEnv L fa cd) rowU.1 (.ofString "place") (.ofString "level") rowU_s.1 [] s (LCg.SrcAt h₀ ax refs) (fun i v => refs[i]? = some v) Fin k i ys news := by
  obtain ⟨mean, mg, mb, T⟩ := W.T
  have X := W.X
  intro k
  induction k with
  | zero =>
    intro i ys news e sub hys
    refine LCp.CompRestP.zero (fin ys news sub ?_)
    rw [List.take_of_length_le (by simp [rowPs]; have := it.1; omega)] at hys
    exact hys
  | succ k ih =>
    intro i ys news e sub hys
    refine LCp.CompRestP.succ ?_
    intro v hP
    have hi : i < q.length := by have := it.1; omega
    have eq1 : q[i]? = some q[i] := List.getElem?_eq_getElem hi
    obtain ⟨T1, t, u, e1, hmem⟩ := it.2 i _ eq1
    have ⟨ok1, ok2, ok3⟩ := ok q[i] (List.getElem_mem hi)
    rw [e1] at hP
    cases hP
    have fk := four_le (k := 30 - q[i].2) (by omega)
    generalize hp : q[i].1 = p at *
    generalize hk : q[i].2 = kk at *
    have V : Vld ((2 * p + 1) * 4 ^ kk) kk := ⟨p, rfl, ok2, ok3, ok1⟩
    refine ⟨T1, _, _, _, _, rfl, sub _ hmem, rfl, rfl, ?_⟩
    intro I oI C oC D m₂ h tk E' hN hx hy F N off ne
    k_steps
    rename Fr _ _ _ _ => F9
    rename News _ _ _ _ => N9
    unfold Stop
    rw [show (30 - (30 - (kk : Int))).toNat = kk by omega]
    have vb := V.bounds
    have vp := four_pos kk
    refine c_new (W.keeps F9.keep) (by omega) (by omega) (by omega) ?_
    intro y dy hs t1 t2 n h' tk' G hy1 hdy ly ldy
    dsimp only at G ly ldy
    have N10 := news_two F9 N9 G hy1 hdy ly ldy
    have lt9 : ∀ p ∈ ((I, oI) :: (C, oC) :: (D, LCg.lst ys) :: news), @LT.lt Nat _ p.1 y ∧ @LT.lt Nat _ p.1 dy := fun p hp => by
      have := Heap.lt_size (N9 p hp).1
      exact ⟨Nat.lt_of_lt_of_le this ly, Nat.lt_of_lt_of_le this ldy⟩
    have lI := lt9 _ (.head _)
    have lC := lt9 _ (.tail _ (.head _))
    have lD := lt9 _ (.tail _ (.tail _ (.head _)))
    dsimp only at lI lC lD
    refine LCg.CompEnd.intro (fr_grows F9 G) N10 ((y, instObj 453 dy) :: (dy, dictOf [⟨hs, .str (.ofString "_CellId__id") t1, .int ((2 * p + 1) * 4 ^ kk) t2⟩] n) :: news) ?sub ⟨⟨Nat.ne_of_gt lI.1, Nat.ne_of_gt lC.1, Nat.ne_of_gt lD.1⟩, ⟨Nat.ne_of_gt lI.2, Nat.ne_of_gt lC.2, Nat.ne_of_gt lD.2⟩, off⟩ ?src (ih (i + 1) _ _ (by omega) (fun x hx => .tail _ (.tail _ (sub x hx))) ?made)
    case sub =>
      intro x hx
      simp only [List.mem_cons] at hx ⊢
      rcases hx with e | e | e | e | e | e <;> simp [e]
    case src =>
      rcases src with z | ⟨o, z, r⟩
      · exact .inl z
      · exact .inr ⟨o, .tail _ (.tail _ (sub _ z)), r⟩
    case made =>
      rw [List.take_add_one, rowPs_at eq1 hp hk]
      refine Made.snoc ⟨⟨y, dy, hs, t1, t2, n, rfl, .head _, .tail _ (.head _)⟩, trivial⟩ (hys.mono fun x hx => .tail _ (.tail _ hx))
@[reducible] noncomputable def lw_uni : {x : Stmt // stmtAt F_law_b.1 4 = x} := by refine ⟨?x, ?h⟩; case h => conv => lhs; whnf
theorem lw_union {L fa cd lrow : Nat} {m : Str → Option Value} {q : List (Int × Nat)} {Q : Flow → Shared → Prop} (W : Wd w h₀) (hd : A.depth + 40 < recursionLimit) (hu : A.units + 90 < cLine) (hh : A.handled = none) (F : Fr h₀ L s.heap m) (R : RowN h₀ L s.heap lrow q) (ok : RowOk q) (hz : q.length ≤ 1000) (m1 : m (.ofString "row") = some (.ref lrow))
    (fin : ∀ h' tk' u lst vs, Fr h₀ L h' (fun z => if z = .ofString "union" then some (.ref u) else m z) → KeepsL [L] s.heap h' → LawU h₀ L h' u lst vs → CellsX [L] h' vs ((rowPs q).map (·.1)) → Q .next { s with heap := h', toks := tk' }) :
    wpAny (model rr.prog w) A (PySem.exec lw_uni.1 (lEnv L fa cd)) Q E s := by
  obtain ⟨mean, mg, mb, T⟩ := W.T
  have X := W.X
  have N0 : News h₀ L s.heap [] := fun _ h => nomatch h
  k_steps
  unfold Stop
  refine LCp.ListComp_P (F₀ := F) (cl := []) rfl (by decide) rfl (by decide) rfl rfl (by decide) ?_
  refine nameX_L F m1 ?_ rfl rfl
  obtain ⟨refs, n, N, e, r⟩ := R
  have hl := (N _ (.head _)).1
  have hmem : (lrow, listOf refs n) ∈ restA h₀ [L] s.heap := restA_mem (by simpa using (N _ (.head _)).2.1) (N _ (.head _)).2.2 hl
  refine ⟨lrow, refs, restA h₀ [L] s.heap, rfl, hh, F, rest_news, .inr ⟨_, hmem, rfl, _, rfl⟩, by rw [show sizeLine = 16777216 from rfl]; omega, ?_⟩
  rintro s₂ ⟨hg, rfl⟩
  refine rowU_rest W (by omega) (by omega) ok ⟨e, fun i p hp => ?_⟩ (.inr ⟨_, hmem, rfl, _, rfl⟩) ?_ _ 0 [] _ (by omega) (fun _ h => h) trivial
  · obtain ⟨T, t, u, e1, N1⟩ := r i p hp
    exact ⟨T, t, u, e1, restA_mem (by simpa using (N1 _ (.head _)).2.1) (N1 _ (.head _)).2.2 (N1 _ (.head _)).1⟩
  · intro ys news sub hys D h2 tk2 F2 N2 off
    have k2 := rest_keeps F.keep F2 N2 (fun p hp => .tail _ (sub p hp))
    have cs := hys.cells (fun p hp => N2 p (.tail _ hp))
    have hD := (N2 _ (.head _)).1
    have hlen : ys.length = q.length := by rw [cs.length]; simp [rowPs]
    have N3 : News h₀ L h2 [(D, LCg.lst ys)] := fun p hp => by
      simp only [List.mem_cons, List.not_mem_nil, or_false] at hp
      subst hp; exact N2 _ (.head _)
    clear N2 N0 N
    k_steps
    unfold Stop
    refine c_union (W.keeps F2.keep) (by omega) (by omega) hh hD (cs.anti (by simp)) (by rw [hlen, show sizeLine = 16777216 from rfl]; omega) ?_
    intro u du lst hs t n' m' h3 tk3 G3 hn
    have F3 := fr_grows F2 G3
    have N4 : News h₀ L h3 [(u, instObj 590 du), (du, dictOf [⟨hs, .str (.ofString "_CellUnion__cell_ids") t, .ref lst⟩] n'), (lst, listOf ys.toArray m')] := fun p hp => by
      have ⟨x1, x2⟩ := hn p hp
      refine ⟨x1, fun z => ?_, ?_⟩
      · obtain ⟨oL, es, ep, hL, _⟩ := F2.ns
        rw [z, hL] at x2; cases x2
      · cases z : h₀.get? p.1 with
        | none => rfl
        | some o => rw [F2.keep _ _ z] at x2; cases x2
    have N5 := news_add N4 (rest_news (h₀ := h₀) (L := L) (h := h3))
    have k3 := k2.trans (KeepsL.ofG (av := [L]) G3)
    generalize hcn : restA h₀ [L] h3 = cn at N5
    simp only [List.cons_append, List.nil_append] at N5
    have Fk := F3.keep
    clear N3 F2
    dsimp only
    refine storeX_L (s := ⟨_, _, _, _, _⟩) F3 N5 (fun h4 F4 N6 => ?_) rfl rfl
    have k4 := rest_keeps Fk F4 N6 (fun p hp => by rw [hcn] at hp; exact .tail _ (.tail _ (.tail _ hp)))
    refine fin h4 _ u lst ys F4 (k3.trans k4) ⟨du, hs, t, n', m', fun p hp => N6 p (by simp only [List.mem_cons, List.not_mem_nil, or_false] at hp ⊢; rcases hp with e | e | e <;> simp [e])⟩ ((cs.keeps (KeepsL.ofG (av := [L]) G3)).keeps k4)
end
end

-- F1
section
-- my own words: a pure call is entered; the room; the world; a cell; the state behind a call




@[reducible] noncomputable def lw_0 : {x : Stmt // stmtAt F_law_b.1 0 = x} := by refine ⟨?x, ?h⟩; case h => conv => lhs; whnf
@[reducible] noncomputable def lw_1 : {x : Stmt // stmtAt F_law_b.1 1 = x} := by refine ⟨?x, ?h⟩; case h => conv => lhs; whnf
@[reducible] noncomputable def lw_2 : {x : Stmt // stmtAt F_law_b.1 2 = x} := by refine ⟨?x, ?h⟩; case h => conv => lhs; whnf
@[reducible] noncomputable def num_e : {x : Expr // compElt (assignVal lw_0.1) = x} := by refine ⟨?x, ?h⟩; case h => conv => lhs; whnf
@[reducible] noncomputable def num_s : {x : Scope // compScope (assignVal lw_0.1) = x} := by refine ⟨?x, ?h⟩; case h => conv => lhs; whnf
theorem news_rot4 {h₀ h : Heap} {L : Addr} {a b c d : Addr × Obj} (N : News h₀ L h [a, b, c, d]) : News h₀ L h [b, c, d, a] := fun p hp => N p (by
  simp only [List.mem_cons, List.not_mem_nil, or_false] at hp ⊢
  rcases hp with e | e | e | e <;> simp [e])
section
variable {w : World} {A : Around} {h₀ : Heap} {s : Shared} {E : Value → Shared → Prop}
theorem num_rest {L fa cd sc : Nat} {m : Str → Option Value} {vs : List Value} {ns : List Int} {o1 o2 o3 : Obj} {Fin : List Value → List (Addr × Obj) → Prop} (W : Wd w h₀) (hd : A.depth + 10 < recursionLimit) (hu : A.units + 50 < cLine)
    (d1 : o1.data = .cell (some (.ref sc))) (hsc : h₀.IsList sc vs.toArray) (hI : IntsAre vs ns) (hlen : ns.length ≤ 63) (fin : ∀ ys xs, IntsAre ys xs → xs.length = 9 → Fin ys [(L + 1 + 1 + 1, o3), (L + 1 + 1, o2), (L + 1, o1)]) :
    ∀ k i ys, i + k = 9 → (∃ xs : List Int, IntsAre ys xs ∧ xs.length = i) →
      LCg.CompRest rr.prog w A h₀ L m (lEnv L fa cd) num_e.1 (.ofString "k") num_s.1 [(.ofString "script", L + 1)] s (fun _ => True) (fun i v => ∃ t, v = .int (0 + (i : Int)) t) Fin k i ys [(L + 1 + 1 + 1, o3), (L + 1 + 1, o2), (L + 1, o1)] := by
  obtain ⟨mean, mg, mb, T⟩ := W.T
  have X := W.X
  have hvl := hI.length
  intro k
  induction k with
  | zero =>
    rintro i ys e ⟨xs, h1, h2⟩
    exact LCg.CompRest.zero (fin ys xs h1 (by omega))
  | succ k ih =>
    rintro i ys e ⟨xs, h1, h2⟩
    refine LCg.CompRest.succ ?_
    rintro v I' oI' C oC D m₂ h tk E' ⟨t, rfl⟩ hNs hx F N off ne
    k_steps
    all_goals (rename Fr _ _ _ _ => F9; rename News _ _ _ _ => N9)
    · exact LCg.CompEnd.intro F9 N9 _ (fun p hp => hp) off trivial (ih (i + 1) _ (by omega) ⟨_, h1.append (.cons _ _ .nil), by simp [h2]⟩)
    · exact LCg.CompEnd.intro F9 N9 _ (fun p hp => hp) off trivial (ih (i + 1) _ (by omega) ⟨_, h1.append (.cons _ _ .nil), by simp [h2]⟩)
theorem lw_numbers {L fa cd sc : Nat} {m : Str → Option Value} {vs : List Value} {ns : List Int} {o1 o2 o3 : Obj} {x2 x3 : Option Value} {Q : Flow → Shared → Prop} (W : Wd w h₀) (hd : A.depth + 40 < recursionLimit) (hu : A.units + 90 < cLine) (hh : A.handled = none) (F : Fr h₀ L s.heap m)
    (N : News h₀ L s.heap [(L + 1 + 1 + 1, o3), (L + 1 + 1, o2), (L + 1, o1)]) (d1 : o1.data = .cell (some (.ref sc))) (d2 : o2.data = .cell x2) (d3 : o3.data = .cell x3) (hsc : h₀.IsList sc vs.toArray) (hI : IntsAre vs ns) (hlen : ns.length ≤ 63)
    (fin : ∀ h' tk' o2' Nl ys xs, Fr h₀ L h' m → News h₀ L h' [(L + 1 + 1 + 1, o3), (L + 1 + 1, o2'), (L + 1, o1), (Nl, LCg.lst ys)] → o2'.data = .cell (some (.ref Nl)) → IntsAre ys xs → xs.length = 9 → (@Ne Nat (L + 1 + 1 + 1) Nl ∧ @Ne Nat (L + 1 + 1) Nl ∧ @Ne Nat (L + 1) Nl) → Q .next { s with heap := h', toks := tk' }) :
    wpAny (model rr.prog w) A (PySem.exec lw_0.1 (lEnv L fa cd)) Q E s := by
  obtain ⟨mean, mg, mb, T⟩ := W.T
  have X := W.X
  k_steps
  unfold Stop
  refine LCg.ListComp_U (cl := [(.ofString "script", L + 1)]) (F₀ := F) (by with_unfolding_all rfl) (by decide) rfl (by decide) rfl ?_
  k_steps
  unfold Stop
  rename IsRange _ _ _ _ _ _ _ _ => R8
  rename Fr _ _ _ _ => F8
  rename News _ _ _ _ => N8
  refine LCg.CompSrc.range (n := 9) hh F8 N8 R8 (small_one (by decide) (by decide) (by decide) (by decide)) (by rw [rangeSize_nat]; rfl) (by decide) (fun g => num_rest W (by omega) (by omega) d1 hsc hI hlen ?_ 9 0 [] (by omega) ⟨[], .nil, rfl⟩)
  intro ys xs hys hxs D h tk F N off
  dsimp only
  clear F8 N8 R8
  k_steps
  rename Fr _ _ _ _ => F9
  rename News _ _ _ _ => N9
  exact fin _ _ _ D ys xs F9 (news_rot4 N9) (by assumption) hys hxs ⟨off.1, off.2.1, off.2.2.1⟩
theorem lw_base {L fa cd Nl : Nat} {m : Str → Option Value} {ys : List Value} {xs : List Int} {o1 o2 o3 : Obj} {x3 : Option Value} {Q : Flow → Shared → Prop} (W : Wd w h₀) (hd : A.depth + 40 < recursionLimit) (hu : A.units + 90 < cLine) (hh : A.handled = none) (F : Fr h₀ L s.heap m)
    (N : News h₀ L s.heap [(L + 1 + 1 + 1, o3), (L + 1 + 1, o2), (L + 1, o1), (Nl, LCg.lst ys)]) (d2 : o2.data = .cell (some (.ref Nl))) (d3 : o3.data = .cell x3) (hys : IntsAre ys xs) (hxs : xs.length = 9) (ne : @Ne Nat (L + 1 + 1 + 1) Nl ∧ @Ne Nat (L + 1 + 1) Nl ∧ @Ne Nat (L + 1) Nl)
    (fin : ∀ h' tk' o3' rl b tb, Fr h₀ L h' (fun y => if y = .ofString "row" then some (.ref rl) else m y) → News h₀ L h' [(rl, listOf #[] 0), (L + 1 + 1 + 1, o3'), (L + 1 + 1, o2), (L + 1, o1), (Nl, LCg.lst ys)] → o3'.data = .cell (some (.int b tb)) → 0 ≤ b → b ≤ 30 →
      (@LT.lt Nat _ (L + 1 + 1 + 1) rl ∧ @LT.lt Nat _ (L + 1 + 1) rl ∧ @LT.lt Nat _ (L + 1) rl ∧ @LT.lt Nat _ Nl rl) → Q .next { s with heap := h', toks := tk' }) :
    wpAny (model rr.prog w) A (PySem.exec lw_1.1 (lEnv L fa cd)) Q E s := by
  obtain ⟨mean, mg, mb, T⟩ := W.T
  have X := W.X
  obtain ⟨ne1, ne2, ne3⟩ := ne
  k_steps
  rename Fr _ _ _ _ => F8
  rename News _ _ _ _ => N8
  refine assign_Tuple_tuple hh ⟨_, (N8 _ (.head _)).1, rfl, _, rfl⟩ rfl rfl fun h5 he => ?_
  have ⟨F5, N5⟩ := news_ext F8 N8 he (Nat.le_refl _)
  clear F8 N8
  refine assignInOrder_cons (wpAny_assign_Name ?_)
  k_steps
  rename Fr _ _ _ _ => F9
  rename News _ _ _ _ => N9
  exact fin _ _ _ _ _ _ F9 (fun p hp => N9 p (.tail _ hp)) (by assumption) (Int.fmod_nonneg_of_pos _ (by decide)) (by have := Int.fmod_lt_of_pos (xs.getD (Int.toNat 0) 0) (show (0 : Int) < 31 by decide); omega) (by assumption)
end
end

-- F2
section
-- my own words: a pure call is entered; the room; the world; a cell; the state behind a call


local macro_rules | `(tactic| k_all) => `(tactic| assumption)
local macro_rules | `(tactic| walk_at "pyIter ref") => `(tactic| (k_here; refine stop_ ?_))
@[reducible] noncomputable def l2_tgt : {x : Expr // forTgt lw_2.1 = x} := by refine ⟨?x, ?h⟩; case h => conv => lhs; whnf
@[reducible] noncomputable def l2_b : {x : List Stmt // forBody lw_2.1 = x} := by refine ⟨?x, ?h⟩; case h => conv => lhs; whnf
section
variable {w : World} {A : Around} {h₀ : Heap} {s : Shared} {E : Value → Shared → Prop}
theorem l2_turn {L fa cd rl : Nat} {m : Str → Option Value} {o3 : Obj} {b x : Int} {tb tx : Tok} {its : Array Value} {n : Nat} {cn : List (Addr × Obj)} {P : Flow → Shared → Prop} {E1 : Value → Shared → Prop} (W : Wd w h₀) (hd : A.depth + 40 < recursionLimit) (hu : A.units + 90 < cLine) (hh : A.handled = none) (F : Fr h₀ L s.heap m)
    (N : News h₀ L s.heap ((rl, listOf its n) :: (L + 1 + 1 + 1, o3) :: cn)) (off : ∀ p ∈ (L + 1 + 1 + 1, o3) :: cn, p.1 ≠ rl) (d3 : o3.data = .cell (some (.int b tb))) (hb0 : 0 ≤ b) (hb1 : b ≤ 30) (hsz : its.size ≤ 1000) (m1 : m (.ofString "row") = some (.ref rl))
    (fin : ∀ h' tk' T t u v1 v2 (p : Int × Nat), Fr h₀ L h' (fun y => if y = .ofString "level" then v1 else if y = .ofString "number" then v2 else m y) → News h₀ L h' ((T, tupObj [.int p.1 t, .int (30 - (p.2 : Int)) u]) :: (rl, listOf (its.push (.ref T)) (n + 1)) :: (L + 1 + 1 + 1, o3) :: cn) → @LT.lt Nat _ rl T →
      p.2 ≤ 30 ∧ 0 ≤ p.1 ∧ p.1 < 6 * 4 ^ (30 - p.2) → b ≤ 30 - (p.2 : Int) → P .next { s with heap := h', toks := tk' }) :
    wpAny (model rr.prog w) A (assign l2_tgt.1 (lEnv L fa cd) (.int x tx)) (fun _ s₂ => wpAny (model rr.prog w) A (execs l2_b.1 (lEnv L fa cd)) P E1 s₂) E s := by
  obtain ⟨mean, mg, mb, T⟩ := W.T
  have X := W.X
  have x0 := Int.fmod_nonneg_of_pos x (show (0 : Int) < 4 by decide)
  have x1 := Int.fmod_lt_of_pos x (show (0 : Int) < 4 by decide)
  k_steps
  rename Fr _ _ _ _ => F9
  rename News _ _ _ _ => N9
  have hl0 : 0 ≤ (if b + x.fmod 4 < 30 then b + x.fmod 4 else 30) ∧ (if b + x.fmod 4 < 30 then b + x.fmod 4 else 30) ≤ 30 ∧ b ≤ (if b + x.fmod 4 < 30 then b + x.fmod 4 else 30) := by split <;> omega
  generalize (if b + x.fmod 4 < 30 then b + x.fmod 4 else 30) = lv at *
  have e : lv = 30 - ((30 - lv).toNat : Int) := by omega
  have e2 : lv.toNat = 30 - (30 - lv).toNat := by omega
  generalize (30 - lv).toNat = kk at *
  have pz : (0 : Int) < 6 * 4 ^ (30 - kk) := by have := four_pos (30 - kk); omega
  rw [e2] at N9
  subst e
  exact fin _ _ _ _ _ _ _ (((x.fdiv 4).fmod (6 * 4 ^ (30 - kk))), kk) F9 N9 (by omega) ⟨by show kk ≤ 30; omega, Int.fmod_nonneg_of_pos _ pz, Int.fmod_lt_of_pos _ pz⟩ hl0.2.2
theorem restA_off {h₀ h : Heap} {L a : Nat} {l : List (Addr × Obj)} (hl : ∀ p ∈ l, @Ne Nat p.1 a) : ∀ p ∈ l ++ restA h₀ [L, a] h, @Ne Nat p.1 a := fun p hp => (List.mem_append.mp hp).elim (hl p) fun z e => (restA_spec z).2.1 (by simp [e])
theorem news_l2 {h₀ h : Heap} {L : Addr} {a b c d : Addr × Obj} {r : List (Addr × Obj)} (N : News h₀ L h (a :: b :: c :: d :: r)) : News h₀ L h [a, c, d] := fun p hp => N p (by
  simp only [List.mem_cons, List.not_mem_nil, or_false] at hp ⊢
  rcases hp with e | e | e <;> simp [e])
theorem l2_loop {L fa cd rl zl : Nat} {m : Str → Option Value} {ws : List Value} {zs : List Int} {o3 : Obj} {b : Int} {tb : Tok} {nz : Nat} {R : Result → Shared → Prop} (W : Wd w h₀) (hd : A.depth + 40 < recursionLimit) (hu : A.units + 90 < cLine) (hh : A.handled = none) (F : Fr h₀ L s.heap m)
    (N : News h₀ L s.heap [(zl, listOf ws.toArray nz), (rl, listOf #[] 0), (L + 1 + 1 + 1, o3)]) (d3 : o3.data = .cell (some (.int b tb))) (hws : IntsAre ws zs) (hz9 : zs.length ≤ 9) (ne1 : @Ne Nat (L + 1 + 1 + 1) rl) (ne2 : @Ne Nat zl rl) (hb0 : 0 ≤ b) (hb1 : b ≤ 30) (m1 : m (.ofString "row") = some (.ref rl))
    (fin : ∀ h' tk' m' q, Fr h₀ L h' m' → m' (.ofString "row") = some (.ref rl) → RowN h₀ L h' rl q → RowOk q → q.length ≤ 9 → (∀ p ∈ q, b ≤ 30 - (p.2 : Int)) → KeepsL [L, rl] s.heap h' → R (.ok .next) { s with heap := h', toks := tk' }) :
    wpAny (model rr.prog w) A (pyIter (.ref zl)) (fun it s₂ => codeAny (model rr.prog w) A (.forLoop l2_tgt.1 it l2_b.1 [] (lEnv L fa cd)) R s₂) E s := by
  have hlen := hws.length
  have hzl := (news_at2 N (.head _)).2
  have nzl := (news_at2 N (.head _)).1
  have hrl := (news_at2 N (.tail _ (.head _))).2
  have nrl := (news_at2 N (.tail _ (.head _))).1
  have r0 := (N _ (.tail _ (.head _))).2.2
  dsimp only at r0
  have hc3 := (news_at2 N (.tail _ (.tail _ (.head _)))).2
  have z0 := (N _ (.head _)).2.2
  have c0 := (N _ (.tail _ (.tail _ (.head _)))).2.2
  dsimp only at z0 c0
  refine wpAny_pyIter_list ⟨_, hzl, rfl, _, rfl⟩ ?_
  have up : Grows s.heap (s.heap.push { cls := .type "list_iterator", data := .fields #[.ref zl, .int 0 0] }) := fun b o e => Heap.get?_push_of_some _ e
  have hIg : (s.heap.push { cls := .type "list_iterator", data := .fields #[.ref zl, .int 0 0] }).get? s.heap.objs.size = some { cls := .type "list_iterator", data := .fields #[.ref zl, .int 0 0] } := Heap.get?_push_size _ rfl
  have F1 := fr_grows F up
  have hI0 : h₀.get? s.heap.objs.size = none := next_is_new F
  have lL : (L : Nat) < s.heap.objs.size := fr_lt F
  have old : ∀ b o, s.heap.get? b = some o → @Ne Nat b s.heap.objs.size := fun b o e => Nat.ne_of_lt (Heap.lt_size e)
  generalize s.heap.objs.size = I at *
  generalize s.heap.push { cls := .type "list_iterator", data := .fields #[.ref zl, .int 0 0] } = H at *
  refine codeAny_forLoop (fun r st => ∃ i h' tk' m' its n q, st = { s with heap := h', toks := tk' } ∧ i + r = zs.length ∧ Fr h₀ L h' m' ∧ m' (.ofString "row") = some (.ref rl) ∧ h'.IsListIter I zl i ∧ h'.get? rl = some (listOf its n) ∧ KeepsL [L, rl, I] H h' ∧ its.size = i ∧ q.length = i ∧ RowOk q ∧ (∀ p ∈ q, b ≤ 30 - ((p : Int × Nat).2 : Int)) ∧
    (∀ (j : Nat) (p : Int × Nat), q[j]? = some p → ∃ T t u, its[j]? = some (.ref T) ∧ News h₀ L h' [(T, tupObj [.int p.1 t, .int (30 - (p.2 : Int)) u])] ∧ @Ne Nat T rl ∧ @Ne Nat T I)) ?turn zs.length ?init
  case init => exact ⟨0, H, s.toks, m, #[], 0, [], rfl, by omega, F1, m1, ⟨_, hIg, rfl, rfl⟩, up _ _ hrl, KeepsL.refl _ _, rfl, rfl, (by intro p hp; cases hp), (by intro p hp; cases hp), (by intro j p hp; simp at hp)⟩
  case turn =>
    rintro r st ⟨i, h', tk', m', its, n, q, rfl, hir, F2, m2, it2, hr2, k2, si, qi, ok, qb, hq⟩
    have kk : ∀ {h'}, KeepsL [L, rl, I] H h' → KeepsL [L, rl] s.heap h' := fun k x o nb e => k x o (by have := old x o e; simp at nb ⊢; exact ⟨nb.1, nb.2, this⟩) (up _ _ e)
    have hz2 : h'.IsList zl ws.toArray := ⟨_, kk k2 _ _ (by simp; exact ⟨nzl, ne2⟩) hzl, rfl, _, rfl⟩
    cases r with
    | zero =>
      refine wpAny_pyNext_list_end hh it2 hz2 (by simp; omega) fun h3 he => ?_
      dsimp only
      refine wpAny_pure ?_
      have F3 : Fr h₀ L h3 m' := fr_iter F2 he (by k_ne) hI0
      have nrI : @Ne Nat rl I := old _ _ hrl
      refine fin h3 tk' m' q F3 m2 ⟨its, n, ?_, by omega, fun j p hp => ?_⟩ ok (by omega) qb (fun x o nb e => he x o (old x o e) (kk k2 x o nb e))
      · intro p hp
        simp only [List.mem_cons, List.not_mem_nil, or_false] at hp
        subst hp
        exact ⟨he _ _ nrI hr2, nrl, r0⟩
      · obtain ⟨T, t, u, e1, N1, e2, e3⟩ := hq j p hp
        refine ⟨T, t, u, e1, fun x hx => ?_⟩
        have z := N1 x hx
        simp only [List.mem_cons, List.not_mem_nil, or_false] at hx
        subst hx
        exact ⟨he _ _ e3 z.1, z.2⟩
    | succ r =>
      have hi : i < ws.length := by omega
      have hi2 : i < zs.length := by omega
      obtain ⟨tx, hx⟩ := hws.get i zs[i] (List.getElem?_eq_getElem hi2)
      refine wpAny_pyNext_list_item it2 hz2 (x := .int zs[i] tx) (by simpa using hx) fun h3 it3 hs3 => ?_
      dsimp only
      have F3 : Fr h₀ L h3 m' := F2.change hs3 (by k_ne) hI0
      have nrI : @Ne Nat rl I := old _ _ hrl
      have hr3 : h3.get? rl = some (listOf its n) := (hs3.2 _ nrI).trans hr2
      have k3 : KeepsL [L, rl, I] H h3 := fun x o nb e => (hs3.2 x (by simp at nb; exact nb.2.2)).trans (k2 x o nb e)
      have hc33 : h3.get? (L + 1 + 1 + 1) = some o3 := kk k3 _ _ (by simp; exact ⟨by omega, ne1⟩) hc3
      have N3 : News h₀ L h3 ((rl, listOf its n) :: (L + 1 + 1 + 1, o3) :: restA h₀ [L, rl] h3) := by
        intro p hp
        rcases List.mem_cons.mp hp with rfl | hp
        · exact ⟨hr3, nrl, r0⟩
        · rcases List.mem_cons.mp hp with rfl | hp
          · exact ⟨hc33, by k_ne, c0⟩
          · have ⟨a1, a2, a3⟩ := restA_spec hp
            exact ⟨a1, fun z => a2 (by simp [z]), a3⟩
      have off3 : ∀ p ∈ ((L + 1 + 1 + 1, o3) :: restA h₀ [L, rl] h3 : List (Addr × Obj)), p.1 ≠ rl := restA_off (l := [(L + 1 + 1 + 1, o3)]) (fun p hp => by simp only [List.mem_cons, List.not_mem_nil, or_false] at hp; subst hp; exact ne1)
      refine l2_turn (s := ⟨_, _, _, _, _⟩) W hd hu hh F3 N3 off3 d3 hb0 hb1 (by omega) m2 ?_
      intro h4 tk4 T t u v1 v2 p F4 N4 lt4 okp bp
      have k34 : KeepsL [L, rl] h3 h4 := ledger_keeps F3.keep F4 N4 (fun x hx => .tail _ (.tail _ (.tail _ hx)))
      have k4 : KeepsL [L, rl, I] H h4 := fun x o nb e => k34 x o (by simp at nb ⊢; exact ⟨nb.1, nb.2.1⟩) (k3 x o nb e)
      obtain ⟨oI, x1, x2, x3⟩ := it3
      have hI4 := k34 _ _ (by simp; exact ⟨by omega, fun z => nrI z.symm⟩) x1
      have hT4 := (news_at2 N4 (.head _)).2
      have nTI : @Ne Nat T I := fun e => by rw [e, hI4] at hT4; cases hT4; cases x3
      refine ⟨r, Nat.lt_succ_self _, i + 1, h4, tk4, _, its.push (.ref T), n + 1, q ++ [p], rfl, by omega, F4, ?_, ⟨oI, hI4, x2, x3⟩, (news_at2 N4 (.tail _ (.head _))).2, k4, by simp [si], by simp [qi], ?_, ?_, ?_⟩
      · rw [if_neg (by decide), if_neg (by decide)]; exact m2
      · intro x hx
        rcases List.mem_append.mp hx with hx | hx
        · exact ok x hx
        · simp at hx; subst hx; exact okp
      · intro x hx
        rcases List.mem_append.mp hx with hx | hx
        · exact qb x hx
        · simp at hx; subst hx; exact bp
      · intro j x hx
        by_cases hj : j < q.length
        · rw [List.getElem?_append_left hj] at hx
          obtain ⟨T', t', u', e1, N1, e2, e3⟩ := hq j x hx
          refine ⟨T', t', u', ?_, ?_, e2, e3⟩
          · rw [Array.getElem?_push, if_neg (by omega)]; exact e1
          · intro y hy
            have z := N1 y hy
            simp only [List.mem_cons, List.not_mem_nil, or_false] at hy
            subst hy
            exact ⟨k34 _ _ (by simp; exact ⟨z.2.1, e2⟩) ((hs3.2 _ e3).trans z.1), z.2⟩
        · have hj2 : j = q.length := by
            have := (List.getElem?_eq_some_iff.mp hx).1
            simp at this; omega
          subst hj2
          rw [List.getElem?_append_right (Nat.le_refl _)] at hx
          simp at hx; subst hx
          refine ⟨T, t, u, ?_, ?_, Nat.ne_of_gt lt4, nTI⟩
          · rw [Array.getElem?_push, if_pos (by omega)]
          · intro y hy
            simp only [List.mem_cons, List.not_mem_nil, or_false] at hy
            subst hy
            exact N4 _ (.head _)
theorem lw_for2 {L fa cd rl Nl sc : Nat} {m : Str → Option Value} {vs : List Value} {ns : List Int} {ys : List Value} {xs : List Int} {o1 o2 o3 : Obj} {b : Int} {tb : Tok} {Q : Flow → Shared → Prop} (W : Wd w h₀) (hd : A.depth + 40 < recursionLimit) (hu : A.units + 90 < cLine) (hh : A.handled = none) (F : Fr h₀ L s.heap m)
    (N : News h₀ L s.heap [(rl, listOf #[] 0), (L + 1 + 1 + 1, o3), (L + 1 + 1, o2), (L + 1, o1), (Nl, LCg.lst ys)]) (d1 : o1.data = .cell (some (.ref sc))) (d2 : o2.data = .cell (some (.ref Nl))) (d3 : o3.data = .cell (some (.int b tb))) (hys : IntsAre ys xs) (hxs : xs.length = 9) (hsc : h₀.IsList sc vs.toArray) (hI : IntsAre vs ns) (hlen : ns.length ≤ 63)
    (ne : @LT.lt Nat _ (L + 1 + 1 + 1) rl ∧ @LT.lt Nat _ (L + 1 + 1) rl ∧ @LT.lt Nat _ (L + 1) rl ∧ @LT.lt Nat _ Nl rl) (hb0 : 0 ≤ b) (hb1 : b ≤ 30) (m1 : m (.ofString "row") = some (.ref rl))
    (fin : ∀ h' tk' m' q, Fr h₀ L h' m' → m' (.ofString "row") = some (.ref rl) → RowN h₀ L h' rl q → RowOk q → q.length ≤ 9 → (∀ p ∈ q, b ≤ 30 - (p.2 : Int)) → News h₀ L h' [(L + 1 + 1 + 1, o3), (L + 1 + 1, o2), (L + 1, o1), (Nl, LCg.lst ys)] → Q .next { s with heap := h', toks := tk' }) :
    wpAny (model rr.prog w) A (PySem.exec lw_2.1 (lEnv L fa cd)) Q E s := by
  obtain ⟨mean, mg, mb, T⟩ := W.T
  have X := W.X
  refine wpAny_For ?_
  k_steps
  rename Fr _ _ _ _ => F8
  rename News _ _ _ _ => N8
  unfold Stop
  rename IntsAre _ (List.take _ (List.drop 1 _)) => hI8
  rename (List.take _ (List.drop 1 _)).length ≤ _ => hL8
  generalize (List.take (min (2 + ((List.take (min 5 ns.length - 2) (List.drop 2 ns)).length : Int)).toNat xs.length - 1) (List.drop 1 xs)) = zs at *
  refine l2_loop (s := ⟨_, _, _, _, _⟩) W hd hu hh F8 (news_l2 N8) d3 hI8 (by omega) (by omega) (by omega) hb0 hb1 m1 ?_
  intro h' tk' m' q F' m1' R ok q9 qb kk
  refine fin h' tk' m' q F' m1' R ok q9 qb ?_
  intro p hp
  have z := N8 p (.tail _ (.tail _ (.tail _ hp)))
  refine ⟨kk _ _ ?_ z.1, z.2⟩
  simp only [List.mem_cons, List.not_mem_nil, or_false] at hp ⊢
  rcases hp with rfl | rfl | rfl | rfl <;> exact fun e => e.elim (fun e => z.2.1 e) (fun e => by have e : (_ : Nat) = _ := e; dsimp only at e; omega)
end
end

-- F3
section
-- my own words: a pure call is entered; the room; the world; a cell; the state behind a call


@[reducible] noncomputable def lw_3 : {x : Stmt // stmtAt F_law_b.1 3 = x} := by refine ⟨?x, ?h⟩; case h => conv => lhs; whnf
section
variable {prog : Program} {w : World} {A : Around} {E : Value → Shared → Prop} {s : Shared} {h₀ : Heap} {L : Addr} {m : Str → Option Value} {env : Env}
def TupIn (t : Addr) (items : Array Value) (news : List (Addr × Obj)) : Prop := ∃ n, (t, ({ cls := .type "tuple", data := .seq items n } : Obj)) ∈ news
def SrcT (prog : Program) (w : World) (A : Around) (h₀ : Heap) (L : Addr) (m : Str → Option Value) (env : Env) (elt : Expr) (x : Str) (scope : Scope) (cl : List (Str × Addr)) (y : Str) (Q : Flow → Shared → Prop) (v : Value) (s₁ : Shared) : Prop := ∃ t items news, v = .ref t ∧ Fr h₀ L s₁.heap m ∧ News h₀ L s₁.heap news ∧ TupIn t items news ∧ items.size ≤ 100 ∧
      ∀ g, LCg.CompRest prog w A h₀ L m env elt x scope cl { s₁ with heap := g } (TupIn t items) (fun i v => items[i]? = some v) (LCg.FinA h₀ L m { s₁ with heap := g } y Q) items.size 0 [] news
/-- a comprehension over a tuple of the ledger, bound to a name -/
theorem assign_comp_tup {elt iter : Expr} {x y : Str} {px py : Pos} {scope : Scope} {cl : List (Str × Addr)} {pos spos : Pos} {Q : Flow → Shared → Prop} (hLe : env.locals = L)
    (hsw : swapsWith (.ListComp elt [⟨.Name x px, iter, [], 0⟩] scope pos) (some (.Name y py)) spos.line env = pure true)
    (hclos : closureFor scope env = pure cl) (hcell : ∀ z ∈ scope.names, z.2 ≠ .cell) (hkind : scope.kind = .function)
    (hnames : ∀ z ∈ scope.names, z.2 = .local → scope.names.lookup z.1 = some .local) (hx : scope.names.lookup x = some .local)
    (hy : env.kindOf y = some .local) (hp : (env.scope.kind == .class || (env.scope.kind == .module && env.locals != env.globals)) = false) (hh : A.handled = none)
    (h : wpAny (model prog w) A (eval iter env) (SrcT prog w A h₀ L m env elt x scope cl y Q) E s)
    (hs : ∀ x, foldedSetIterable iter env x = pure x) :
    wpAny (model prog w) A (exec (.Assign [.Name y py] (.ListComp elt [⟨.Name x px, iter, [], 0⟩] scope pos) spos) env) Q E s := by
  subst hLe
  rw [exec_Assign_Name_used _ _ _ _ hsw]
  refine wpAny_bind (wpAny_standAt (wpAny_bind ?_))
  show wpAny _ A (do let _ ← comprehension (.ListComp elt [⟨.Name x px, iter, [], 0⟩] scope pos) scope env _ (newList []) false (eval iter env) (some (assign (.Name y py) env))) _ _ s
  refine wpAny_bind (wpAny_mono (wpAny_comprehension_free (use := some (assign (.Name y py) env)) (Q := fun _ s' => Q .next s') rfl hs hclos hkind hnames
    (wpAny_mono h (fun xv s₁ h₁ => ?_) fun _ _ e => e)) (fun _ s' hq => wpAny_pure (wpAny_pure hq)) fun _ _ e => e)
  obtain ⟨t, items, news, rfl, F, N, tin, hsz, R⟩ := h₁
  obtain ⟨n, hm⟩ := id tin
  have ht := N _ hm
  have htl : t < s₁.heap.objs.size := Heap.lt_size ht.1
  refine iter_tuple ⟨_, ht.1, rfl, _, rfl⟩ ?_
  have up : ∀ b o, s₁.heap.get? b = some o → (s₁.heap.push { cls := .type "tuple_iterator", data := .fields #[.ref t, .int 0 0] }).get? b = some o := fun b o e => Heap.get?_push_of_some _ e
  refine LCg.block_U (Walks.tuple hh s₁.heap.objs.size t (Nat.ne_of_lt htl) items) (Nat.le_trans hsz (by decide)) (fun i h st => ⟨_, st.1.choose_spec.1⟩) ?_ hcell hkind hx ⟨⟨_, Heap.get?_push_size _ rfl, rfl, rfl⟩, ⟨_, up _ _ ht.1, rfl, _, rfl⟩⟩ ?_
    (F.keeps up) (N.grown up) (Nat.ne_of_lt F.ns.lt) (next_is_new F) (fun p hp => Nat.ne_of_lt (Heap.lt_size (N p hp).1)) tin (R _) ?_
  · rintro i h h' o nw ⟨⟨o1, g1, r1⟩, _⟩ e e' k N' ⟨n', m'⟩
    rw [e] at g1; cases g1
    exact ⟨⟨o, e', r1⟩, ⟨_, (N' _ m').1, rfl, _, rfl⟩⟩
  · intro b hb
    show b < (s₁.heap.push _).objs.size
    rw [Heap.size_push]
    rcases List.mem_cons.mp hb with rfl | hb
    · exact Nat.lt_succ_self _
    · rw [List.mem_singleton.mp hb]; exact Nat.lt_succ_of_lt htl
  · intro D C h' tk m' ys news' F' N' o1 hn hC₀ hD₀ hCL hDL hCD offC fin
    show wpAny _ A (assign (.Name y py) env (.ref D)) _ _ _
    refine wpAny_assign_Name (wpAny_storeName_local hy F'.ns (fun h₂ hn₂ hs₂ => ?_) hp)
    have hL₀ : h₀.get? env.locals = none := Heap.get?_none_of_le F'.above
    have F₂ : Fr h₀ env.locals h₂ (fun z => if z = y then some (.ref D) else m z) := ⟨hn₂, fun b o e => hs₂.extBut b o (fun q => by rw [q, hL₀] at e; cases e) (F'.keep b o e), F'.above⟩
    refine ⟨m', hn.sameBut hs₂ hCL, fun h'' hs'' => fin D h'' _ (F₂.change hs'' hCL hC₀) (fun p hp => ?_) o1⟩
    have z : h₂.get? p.1 = some p.2 := hs₂.extBut _ _ (N' p hp).2.1 (N' p hp).1
    refine ⟨hs''.extBut _ _ ?_ z, (N' p hp).2⟩
    rcases List.mem_cons.mp hp with rfl | hp
    · exact Ne.symm hCD
    · exact offC p hp
end
/-- what the law asks lies near the base -/
def WayB (b a d : Int) : Prop := 0 ≤ a ∧ a ≤ 30 ∧ a ≤ b + 2 ∧ (d = 1 ∨ d = 2 ∨ d = 3)
theorem way_b {b x y : Int} (h0 : 0 ≤ b) (h1 : b ≤ 30) : WayB b (if (if b + 2 - x.fmod 32 > 0 then b + 2 - x.fmod 32 else 0) < 30 then if b + 2 - x.fmod 32 > 0 then b + 2 - x.fmod 32 else 0 else 30) (1 + y.fmod 3) := by
  have e0 := Int.fmod_nonneg_of_pos x (show (0 : Int) < 32 by decide)
  have f0 := Int.fmod_nonneg_of_pos y (show (0 : Int) < 3 by decide)
  have f1 := Int.fmod_lt_of_pos y (show (0 : Int) < 3 by decide)
  generalize x.fmod 32 = xx at *
  generalize y.fmod 3 = yy at *
  refine ⟨?_, ?_, ?_, by omega⟩
  · split <;> split <;> omega
  · split <;> split <;> omega
  · split <;> split <;> omega
theorem news_head3 {a i c d : Addr × Obj} (r : List (Addr × Obj)) : ∀ p ∈ i :: c :: d :: a :: r, p ∈ a :: i :: c :: d :: r := fun p hp => by
  simp only [List.mem_cons] at hp ⊢
  rcases hp with e | e | e | e | e <;> simp [e]
theorem news_w {h₀ h : Heap} {L : Addr} {wl w1 w2 : Addr} {o1 o2 : Obj} {r : List (Addr × Obj)} (N : News h₀ L h ((wl, LCg.lst ([] ++ [.ref w1] ++ [.ref w2])) :: (w2, o2) :: (w1, o1) :: r)) : News h₀ L h [(wl, listOf #[.ref w1, .ref w2] 2), (w1, o1), (w2, o2)] := fun p hp => N p (by
  simp only [List.mem_cons, List.not_mem_nil, or_false] at hp ⊢
  rcases hp with e | e | e
  · exact .inl e
  · simp [e]
  · simp [e])
@[reducible] noncomputable def way_e : {x : Expr // compElt (assignVal lw_3.1) = x} := by refine ⟨?x, ?h⟩; case h => conv => lhs; whnf
@[reducible] noncomputable def way_s : {x : Scope // compScope (assignVal lw_3.1) = x} := by refine ⟨?x, ?h⟩; case h => conv => lhs; whnf
section
variable {w : World} {A : Around} {h₀ : Heap} {s : Shared} {E : Value → Shared → Prop}
theorem lw_ways {L fa cd Nl : Nat} {m : Str → Option Value} {ys : List Value} {xs : List Int} {o2 o3 : Obj} {b : Int} {tb : Tok} {Q : Flow → Shared → Prop} (W : Wd w h₀) (hd : A.depth + 40 < recursionLimit) (hu : A.units + 90 < cLine) (hh : A.handled = none) (F : Fr h₀ L s.heap m)
    (N : News h₀ L s.heap [(L + 1 + 1 + 1, o3), (L + 1 + 1, o2), (Nl, LCg.lst ys)]) (d2 : o2.data = .cell (some (.ref Nl))) (d3 : o3.data = .cell (some (.int b tb))) (hys : IntsAre ys xs) (hxs : xs.length = 9) (hb0 : 0 ≤ b) (hb1 : b ≤ 30)
    (fin : ∀ h' tk' wl a1 b1 a2 b2, Fr h₀ L h' (fun z => if z = .ofString "ways" then some (.ref wl) else m z) → LawW h₀ L h' wl a1 b1 a2 b2 → WayB b a1 b1 → WayB b a2 b2 → KeepsL [L] s.heap h' → Q .next { s with heap := h', toks := tk' }) :
    wpAny (model rr.prog w) A (PySem.exec lw_3.1 (lEnv L fa cd)) Q E s := by
  obtain ⟨mean, mg, mb, T⟩ := W.T
  have X := W.X
  have N' := news_add N (rest_news (h₀ := h₀) (L := L) (h := s.heap))
  have Fk := F.keep
  generalize hcn : restA h₀ [L] s.heap = cn at N'
  simp only [List.cons_append, List.nil_append] at N'
  clear N
  have hyl : ys.length = 9 := by rw [hys.length, hxs]
  refine assign_comp_tup (L := L) (m := m) (h₀ := h₀) (cl := [(.ofString "numbers", L + 1 + 1), (.ofString "base", L + 1 + 1 + 1)]) rfl (by with_unfolding_all rfl) (by with_unfolding_all rfl) (by decide) rfl (by decide) rfl rfl rfl hh ?_ (by intro _; rfl)
  k_steps
  rename Fr _ _ _ _ => F8
  rename News _ _ _ _ => N8
  refine ⟨_, _, _, rfl, F8, N8, ⟨_, .head _⟩, Nat.le_of_ble_eq_true rfl, fun g => ?_⟩
  clear F8 N8
  refine LCg.CompRest.succ ?_
  intro v I' oI' C oC D m₂ h tk E' hP hNs hx F9 N9 off ne
  simp at hP
  subst hP
  k_steps
  rename Fr _ _ _ _ => F8
  rename News _ _ _ _ => N8
  have wb := way_b (x := xs.getD (Int.toNat 5) 0) (y := xs.getD ((5 : Int) + 1).toNat 0) hb0 hb1
  generalize (if (if b + 2 - (xs.getD (Int.toNat 5) 0).fmod 32 > 0 then b + 2 - (xs.getD (Int.toNat 5) 0).fmod 32 else 0) < 30 then if b + 2 - (xs.getD (Int.toNat 5) 0).fmod 32 > 0 then b + 2 - (xs.getD (Int.toNat 5) 0).fmod 32 else 0 else 30) = a1 at *
  generalize 1 + (xs.getD ((5 : Int) + 1).toNat 0).fmod 3 = b1 at *
  refine LCg.CompEnd.intro F8 N8 (_ :: _) (news_head3 _) ⟨⟨by k_ne, by k_ne, by k_ne⟩, off⟩ ⟨_, .tail _ (.head _)⟩ ?_
  clear F8 N8 hNs hx
  refine LCg.CompRest.succ ?_
  intro v I2 oI2 C2 oC2 D2 m₃ h2 tk2 E2 hP hNs hx F9 N9 off2 ne2
  simp at hP
  subst hP
  k_steps
  rename Fr _ _ _ _ => F8
  rename News _ _ _ _ => N8
  have wb2 := way_b (x := xs.getD (Int.toNat 7) 0) (y := xs.getD ((7 : Int) + 1).toNat 0) hb0 hb1
  generalize (if (if b + 2 - (xs.getD (Int.toNat 7) 0).fmod 32 > 0 then b + 2 - (xs.getD (Int.toNat 7) 0).fmod 32 else 0) < 30 then if b + 2 - (xs.getD (Int.toNat 7) 0).fmod 32 > 0 then b + 2 - (xs.getD (Int.toNat 7) 0).fmod 32 else 0 else 30) = a2 at *
  generalize 1 + (xs.getD ((7 : Int) + 1).toNat 0).fmod 3 = b2 at *
  refine LCg.CompEnd.intro F8 N8 (_ :: _) (news_head3 _) ⟨⟨by k_ne, by k_ne, by k_ne⟩, off2⟩ ⟨_, .tail _ (.tail _ (.head _))⟩ ?_
  clear F8 N8 hNs hx
  refine LCg.CompRest.zero ?_
  intro wl h3 tk3 F3 N3 off3
  refine fin h3 tk3 wl a1 b1 a2 b2 F3 ⟨_, _, _, _, _, _, _, news_w N3⟩ wb wb2 ?_
  exact rest_keeps Fk F3 N3 (fun p hp => .tail _ (.tail _ (.tail _ (.tail _ (.tail _ (.tail _ (.tail _ (hcn ▸ hp))))))))
end
end

-- F4
section
-- my own words: a pure call is entered; the room; the world; a cell; the state behind a call


local macro_rules | `(tactic| walk_at "call ref") => `(tactic| (k_here; (with_reducible show wpAny _ _ (call (Value.ref 559) _ _) _ _ _); refine stop_ ?_))
local macro_rules | `(tactic| walk_at "compareOp Eq ref ref") => `(tactic| (k_here; refine stop_ ?_))
@[reducible] noncomputable def lw_6 : {x : Stmt // stmtAt F_law_b.1 6 = x} := by refine ⟨?x, ?h⟩; case h => conv => lhs; whnf
@[reducible] noncomputable def lw_8 : {x : Stmt // stmtAt F_law_b.1 8 = x} := by refine ⟨?x, ?h⟩; case h => conv => lhs; whnf
section
variable {w : World} {A : Around} {h₀ : Heap} {s : Shared} {E : Value → Shared → Prop}
theorem lw_odd {L fa cd : Nat} {m : Str → Option Value} {Q : Flow → Shared → Prop} (W : Wd w h₀) (F : Fr h₀ L s.heap m)
    (fin : ∀ h' tk' t', Fr h₀ L h' (fun z => if z = .ofString "odd" then some (.int 0 t') else m z) → KeepsL [L] s.heap h' → Q .next { s with heap := h', toks := tk' }) :
    wpAny (model rr.prog w) A (PySem.exec lw_6.1 (lEnv L fa cd)) Q E s := by
  obtain ⟨mean, mg, mb, T⟩ := W.T
  have X := W.X
  have N := rest_news (h₀ := h₀) (L := L) (h := s.heap)
  have Fk := F.keep
  generalize hcn : restA h₀ [L] s.heap = cn at N
  k_steps
  rename Fr _ _ _ _ => F8
  rename News _ _ _ _ => N8
  exact fin _ _ _ F8 (rest_keeps Fk F8 N8 (fun p hp => hcn ▸ hp))
theorem lw_ret {L fa cd u lst lrow : Nat} {m : Str → Option Value} {q : List (Int × Nat)} {to : Tok} {vs : List Value} {P : Flow → Shared → Prop} (W : Wd w h₀) (hd : A.depth + 40 < recursionLimit) (hu : A.units + 90 < cLine) (hh : A.handled = none)
    (F : Fr h₀ L s.heap m) (U : LawU h₀ L s.heap u lst vs) (cs : CellsX [L] s.heap vs ((rowPs q).map (·.1))) (R : RowN h₀ L s.heap lrow q) (ok : RowOk q) (hz : q.length ≤ 1000) (m1 : m (.ofString "union") = some (.ref u)) (m2 : m (.ofString "row") = some (.ref lrow)) (m3 : m (.ofString "odd") = some (.int 4 to))
    (fin : ∀ h' tk', Fr h₀ L h' m → P (.ret (.bool true)) { s with heap := h', toks := tk' }) :
    wpAny (model rr.prog w) A (PySem.exec lw_8.1 (lEnv L fa cd)) P E s := by
  obtain ⟨mean, mg, mb, T⟩ := W.T
  have X := W.X
  have U0 := U
  obtain ⟨du, hs, t, n, k, N⟩ := U0
  have hlen : vs.length = q.length := by rw [cs.length]; simp [rowPs]
  k_steps
  unfold Stop
  refine ids_comp (ids_4 W (by omega) (by omega)) hh F (by intro _; rfl) ?_
  k_steps
  unfold Stop
  refine c_cell_ids (W.keeps F.keep) (by omega) (by omega) U.unionAt ?_
  intro h4 tk4 G4
  have kk4 := KeepsL.ofG (av := [L]) G4
  refine ⟨lst, vs, _, _, h4, _, tk4, rfl, rfl, fr_grows F G4, G4 _ _ (news_at2 N (.tail _ (.tail _ (.head _)))).2, (news_at2 N (.tail _ (.tail _ (.head _)))).1, cs.keeps kk4, by rw [hlen, show sizeLine = 16777216 from rfl]; omega, ?_⟩
  intro D5 h5 tk5 ys5 F5 k5 hD5 neD5 hD50 hys5
  have N5 : News h₀ L h5 [(D5, LCg.lst ys5)] := fun p hp => by
    simp only [List.mem_cons, List.not_mem_nil, or_false] at hp
    subst hp; exact ⟨hD5, neD5, hD50⟩
  clear N
  have kk5 := kk4.trans k5
  k_steps
  unfold Stop
  refine row_comp (row_4 W (by omega) (by omega)) hh F5 (R.keeps kk5) ok hz m2 ?_
  intro D6 h6 tk6 ys6 F6 k6 hD6 neD6 hD60 hys6
  have N6 : News h₀ L h6 [(D6, LCg.lst ys6)] := fun p hp => by
    simp only [List.mem_cons, List.not_mem_nil, or_false] at hp
    subst hp; exact ⟨hD6, neD6, hD60⟩
  have hD5' := k6 _ _ (by simpa using neD5) hD5
  clear N5
  k_steps
  unfold Stop
  refine eq_intsK (vs := ys5) (us := ys6) ⟨_, hD5', rfl, _, rfl⟩ hys5 ⟨_, hD6, rfl, _, rfl⟩ hys6 (by omega) ?_
  simp only [decide_true]
  k_steps
  all_goals exact fin h6 _ F6
end
end

-- Head3b
theorem hd (walk : WalkO q loose (XL q []) HK.says rr.toRowW { name := .ofString "law", params := F_law_a.1, body := F_law_b.1, scope := F_law_s.1, pos := ⟨382, 0, 401, 115⟩ } [] (fun f vs => PySem.call f vs)) : PySem.Challenge.rw_lp0004_03.Holds := by
  w_on
  o_law
  refine holds_open (r := rr) (q := q) (loose := loose) (Xt := Xt) (XP := XL q []) (Yf := HK.obs) (Ya := HK.val) (YP := HK.says) (N := N0) left HK.of HK.keeps (fun s e => xl_of s (Bool.and_eq_true_iff.mp e).1) XL.keeps (by rfl) (by rfl) (by rfl)
    (fun s e => recFacts_of (Bool.and_eq_true_iff.mp e).2) (by rfl) (by first | assumption | decide +kernel) (by decide +kernel) ⟨rfl, rfl, rfl, rfl, rfl, by decide +kernel⟩ ?hw walk
  w_witness2

-- F5
section
-- my own words: a pure call is entered; the room; the world; a cell; the state behind a call


theorem news_w3 {h₀ h : Heap} {L : Addr} {a b c d : Addr × Obj} (N : News h₀ L h [a, b, c, d]) : News h₀ L h [a, b, d] := fun p hp => N p (by
  simp only [List.mem_cons, List.not_mem_nil, or_false] at hp ⊢
  rcases hp with e | e | e <;> simp [e])
theorem news_n3 {h₀ h : Heap} {L : Addr} {a b c d : Addr × Obj} (N : News h₀ L h [a, b, c, d]) : News h₀ L h [b, d] := fun p hp => N p (by
  simp only [List.mem_cons, List.not_mem_nil, or_false] at hp ⊢
  rcases hp with e | e <;> simp [e])
section
variable {w : World} {A : Around} {h₀ : Heap} {s : Shared} {E : Value → Shared → Prop}
theorem law_all {L fa cd sc : Nat} {m : Str → Option Value} {vs : List Value} {ns : List Int} {o1 o2 o3 : Obj} {x2 x3 : Option Value} {P : Flow → Shared → Prop} (W : Wd w h₀) (hd : A.depth + 40 < recursionLimit) (hu : A.units + 90 < cLine) (hh : A.handled = none) (hA : A.frames = some [lEnv L fa cd]) (F : Fr h₀ L s.heap m)
    (N : News h₀ L s.heap [(L + 1 + 1 + 1, o3), (L + 1 + 1, o2), (L + 1, o1)]) (d1 : o1.data = .cell (some (.ref sc))) (d2 : o2.data = .cell x2) (d3 : o3.data = .cell x3) (hsc : h₀.IsList sc vs.toArray) (hI : IntsAre vs ns) (hlen : ns.length ≤ 63) (hb : Bare s.gens)
    (fin : ∀ h' g' tk' m', Fr h₀ L h' m' → Bare g' → P (.ret (.bool true)) { s with heap := h', gens := g', toks := tk' }) :
    wpAny (model rr.prog w) A (execs F_law_b.1 (lEnv L fa cd)) P E s := by
  refine wpAny_execs_cons ?_
  refine lw_numbers W hd hu hh F N d1 d2 d3 hsc hI hlen ?_
  intro h1 tk1 o2' Nl ys xs F1 N1 d2' hys hxs ne1
  refine wpAny_execs_cons ?_
  refine lw_base (s := ⟨_, _, _, _, _⟩) W hd hu hh F1 N1 d2' d3 hys hxs ne1 ?_
  intro h2 tk2 o3' rl b tb F2 N2 d3' b0 b1 ne2
  refine wpAny_execs_cons ?_
  refine lw_for2 (s := ⟨_, _, _, _, _⟩) W hd hu hh F2 N2 d1 d2' d3' hys hxs hsc hI hlen ne2 b0 b1 (by rw [if_pos rfl]) ?_
  intro h3 tk3 m3 q F3 mr R ok q9 qb N3
  refine wpAny_execs_cons ?_
  refine lw_ways (s := ⟨_, _, _, _, _⟩) W hd hu hh F3 (news_w3 N3) d2' d3' hys hxs b0 b1 ?_
  intro h4 tk4 wl a1 b1' a2 b2' F4 LW w1 w2 k4
  have LN4 : LawN h₀ L h4 xs := (show LawN h₀ L h3 xs from ⟨o2', Nl, ys, ys.length, news_n3 N3, d2', hys⟩).keeps k4
  have R4 := R.keeps k4
  have wk : ∀ {a d}, WayB b a d → WayOk q a d := fun x => ⟨x.1, x.2.1, x.2.2.2, fun p hp => by have := qb p hp; have := x.2.2.1; omega⟩
  refine wpAny_execs_cons ?_
  refine lw_union (s := ⟨_, _, _, _, _⟩) W hd hu hh F4 R4 ok (by omega) (by rw [if_neg (by decide)]; exact mr) ?_
  intro h5 tk5 u lst cvs F5 k5 U5 cs5
  refine wpAny_execs_cons ?_
  refine lw_rounds (s := ⟨_, _, _, _, _⟩) W hd hu hh F5 U5 cs5 (R4.keeps k5) ok (by omega) (LW.keeps k5) (by rw [if_pos rfl]) (by rw [if_neg (by decide), if_neg (by decide)]; exact mr) (by rw [if_neg (by decide), if_pos rfl]) hb (wk w1) (wk w2) ?_
  intro h6 g6 tk6 m6 F6 u6 r6 w6 k6 B6
  refine wpAny_execs_cons ?_
  refine lw_odd (s := ⟨_, _, _, _, _⟩) W F6 ?_
  intro h7 tk7 t7 F7 k7
  have k57 := k6.trans k7
  refine wpAny_execs_cons ?_
  refine lw_for7 (s := ⟨_, _, _, _, _⟩) W hd hu hh hA F7 (U5.keeps k57) ((LN4.keeps k5).keeps k57) hxs ((LW.keeps k5).keeps k57) (by rw [if_neg (by decide)]; exact u6) (by rw [if_neg (by decide)]; exact w6) (by rw [if_pos rfl]) B6 ?_
  intro h8 g8 tk8 m8 t8 F8 u8 r8 o8 k8 B8
  have k58 := k57.trans k8
  refine wpAny_execs_cons ?_
  refine lw_ret (s := ⟨_, _, _, _, _⟩) W hd hu hh F8 (U5.keeps k58) (cs5.keeps k58) ((R4.keeps k5).keeps k58) ok (by omega) u8 (r8.trans (by rw [if_neg (by decide)]; exact r6)) o8 ?_
  intro h9 tk9 F9
  exact fin h9 g8 tk9 m8 F9 B8
end
theorem all_holds : PySem.Challenge.rw_lp0004_03.Holds := by
  refine hd ?_
  lge_go0
  rename Fr _ _ _ _ => F9
  rename News _ _ _ _ => N9
  rename Top _ _ _ _ _ _ => T9
  rename Frag.In _ _ => KX9
  rename IntsAre _ _ => hI9
  rename Heap.IsList _ _ _ => hL9
  have gs9 : Bare #[] := fun _ h => by simp at h
  rename _ = #[] => hg9
  rw [← hg9] at gs9
  refine law_all (s := ⟨_, _, _, _, _⟩) (x2 := none) (x3 := none) ⟨KX9, _, _, _, T9⟩ (Nat.le_of_ble_eq_true rfl) (Nat.le_of_ble_eq_true rfl) rfl rfl F9 N9 (by assumption) (by assumption) (by assumption) hL9 hI9 (by omega) gs9 ?_
  intro h' g' tk' m' F' B'
  refine ⟨.inl ⟨.bool true, .bool true, [], rfl, raisesW_false (by wrow_none_raised), .bool true, ?_, unshared_nil⟩, .of_keep F'.keep, rfl, B'⟩
  exact postW_of (by wrow_shape) (by wtm_val) (by str_meet; first | done | w_fin)
end
end Mine

theorem PySem.Challenge.cw_lp0004_03_holds : PySem.Challenge.rw_lp0004_03.Holds := by
  exact Mine.all_holds
