import PyProof.Rows.All
import Wide.All
import OpenK.AllK
import Wide.FinOn
import PySem.Challenge.RW_ll0049_01
set_option Elab.async false
set_option maxRecDepth 100000
set_option rowWalk.seconds 0
set_option linter.unusedVariables false
set_option linter.unusedSimpArgs false
set_option linter.unusedSectionVars false
set_option maxHeartbeats 4000000
section
open PySem PySem.W PyProof.Rows
set_option Elab.async false
set_option maxRecDepth 100000
set_option maxHeartbeats 8000000
noncomputable section
namespace Mine
noncomputable abbrev pwBody : List Stmt := PySem.Challenge.pw_ll0049_01.main.body
noncomputable def stAt : List Stmt → Nat → Option Stmt
  | [], _ => none
  | s :: _, 0 => some s
  | _ :: r, k + 1 => stAt r k
noncomputable def inCls (o : Option Stmt) (j : Nat) : Option Stmt := match o with
  | some (.ClassDef _ _ _ b _ _ _ _ _ _ _) => stAt b j
  | _ => none
noncomputable def mkF (o : Option Stmt) (g : Arguments → List Stmt → Scope → Obj) : Option Obj := match o with
  | some (.FunctionDef _ a b _ _ _ sc _ _ _) => some (g a b sc)
  | _ => none
noncomputable def ob2 : Obj := { cls := PySem.Value.none, data := PySem.Data.dict #[] }
noncomputable def ob3 (P : Params) : Obj := { cls := PySem.Value.type "dict", data := PySem.Data.dict #[{ hash := PySem.PyData.keyHash P (PySem.Str.ofString "__name__"), key := PySem.Value.str (PySem.Str.ofString "__name__") 165, val := PySem.Value.str (PySem.Str.ofString "law_ll0049_01") 500 }, { hash := PySem.PyData.keyHash P (PySem.Str.ofString "__doc__"), key := PySem.Value.str (PySem.Str.ofString "__doc__") 166, val := PySem.Value.none }, { hash := PySem.PyData.keyHash P (PySem.Str.ofString "__package__"), key := PySem.Value.str (PySem.Str.ofString "__package__") 167, val := PySem.Value.none }, { hash := PySem.PyData.keyHash P (PySem.Str.ofString "__loader__"), key := PySem.Value.str (PySem.Str.ofString "__loader__") 168, val := PySem.Value.builtin "__main__.__loader__#opaque" }, { hash := PySem.PyData.keyHash P (PySem.Str.ofString "__spec__"), key := PySem.Value.str (PySem.Str.ofString "__spec__") 169, val := PySem.Value.none }, { hash := PySem.PyData.keyHash P (PySem.Str.ofString "__annotations__"), key := PySem.Value.str (PySem.Str.ofString "__annotations__") 170, val := PySem.Value.ref 6 }, { hash := PySem.PyData.keyHash P (PySem.Str.ofString "__builtins__"), key := PySem.Value.str (PySem.Str.ofString "__builtins__") 171, val := PySem.Value.ref 4 }, { hash := PySem.PyData.keyHash P (PySem.Str.ofString "__file__"), key := PySem.Value.str (PySem.Str.ofString "__file__") 173, val := PySem.Value.str (PySem.Str.ofString "/claim/cut.py") 172 }, { hash := PySem.PyData.keyHash P (PySem.Str.ofString "__cached__"), key := PySem.Value.str (PySem.Str.ofString "__cached__") 174, val := PySem.Value.none }, { hash := PySem.PyData.keyHash P (PySem.Str.ofString "_wall"), key := PySem.Value.str (PySem.Str.ofString "_wall") 193, val := PySem.Value.ref 21 }, { hash := PySem.PyData.keyHash P (PySem.Str.ofString "is_inf"), key := PySem.Value.str (PySem.Str.ofString "is_inf") 202, val := PySem.Value.ref 28 }, { hash := PySem.PyData.keyHash P (PySem.Str.ofString "is_on_curve"), key := PySem.Value.str (PySem.Str.ofString "is_on_curve") 213, val := PySem.Value.ref 35 }, { hash := PySem.PyData.keyHash P (PySem.Str.ofString "double"), key := PySem.Value.str (PySem.Str.ofString "double") 231, val := PySem.Value.ref 42 }, { hash := PySem.PyData.keyHash P (PySem.Str.ofString "add"), key := PySem.Value.str (PySem.Str.ofString "add") 261, val := PySem.Value.ref 49 }, { hash := PySem.PyData.keyHash P (PySem.Str.ofString "eq"), key := PySem.Value.str (PySem.Str.ofString "eq") 275, val := PySem.Value.ref 56 }, { hash := PySem.PyData.keyHash P (PySem.Str.ofString "neg"), key := PySem.Value.str (PySem.Str.ofString "neg") 285, val := PySem.Value.ref 63 }, { hash := PySem.PyData.keyHash P (PySem.Str.ofString "prime_field_inv"), key := PySem.Value.str (PySem.Str.ofString "prime_field_inv") 302, val := PySem.Value.ref 70 }, { hash := PySem.PyData.keyHash P (PySem.Str.ofString "deg"), key := PySem.Value.str (PySem.Str.ofString "deg") 310, val := PySem.Value.ref 77 }, { hash := PySem.PyData.keyHash P (PySem.Str.ofString "FQP"), key := PySem.Value.str (PySem.Str.ofString "FQP") 467, val := PySem.Value.ref 198 }, { hash := PySem.PyData.keyHash P (PySem.Str.ofString "FQ2"), key := PySem.Value.str (PySem.Str.ofString "FQ2") 499, val := PySem.Value.ref 227 }, { hash := PySem.PyData.keyHash P (PySem.Str.ofString "_law_great"), key := PySem.Value.str (PySem.Str.ofString "_law_great") 507, val := PySem.Value.ref 236 }, { hash := PySem.PyData.keyHash P (PySem.Str.ofString "_law_prime"), key := PySem.Value.str (PySem.Str.ofString "_law_prime") 513, val := PySem.Value.ref 241 }, { hash := PySem.PyData.keyHash P (PySem.Str.ofString "_law_times"), key := PySem.Value.str (PySem.Str.ofString "_law_times") 522, val := PySem.Value.ref 248 }, { hash := PySem.PyData.keyHash P (PySem.Str.ofString "_law_less"), key := PySem.Value.str (PySem.Str.ofString "_law_less") 531, val := PySem.Value.ref 255 }, { hash := PySem.PyData.keyHash P (PySem.Str.ofString "_law_over"), key := PySem.Value.str (PySem.Str.ofString "_law_over") 540, val := PySem.Value.ref 262 }, { hash := PySem.PyData.keyHash P (PySem.Str.ofString "_law_root"), key := PySem.Value.str (PySem.Str.ofString "_law_root") 554, val := PySem.Value.ref 269 }, { hash := PySem.PyData.keyHash P (PySem.Str.ofString "_law_cubed"), key := PySem.Value.str (PySem.Str.ofString "_law_cubed") 564, val := PySem.Value.ref 276 }, { hash := PySem.PyData.keyHash P (PySem.Str.ofString "_law_point"), key := PySem.Value.str (PySem.Str.ofString "_law_point") 577, val := PySem.Value.ref 283 }, { hash := PySem.PyData.keyHash P (PySem.Str.ofString "_law_opposite"), key := PySem.Value.str (PySem.Str.ofString "_law_opposite") 585, val := PySem.Value.ref 290 }, { hash := PySem.PyData.keyHash P (PySem.Str.ofString "_law_sum"), key := PySem.Value.str (PySem.Str.ofString "_law_sum") 599, val := PySem.Value.ref 297 }, { hash := PySem.PyData.keyHash P (PySem.Str.ofString "_law_made"), key := PySem.Value.str (PySem.Str.ofString "_law_made") 607, val := PySem.Value.ref 304 }, { hash := PySem.PyData.keyHash P (PySem.Str.ofString "_law_form"), key := PySem.Value.str (PySem.Str.ofString "_law_form") 618, val := PySem.Value.ref 311 }, { hash := PySem.PyData.keyHash P (PySem.Str.ofString "_law_reads"), key := PySem.Value.str (PySem.Str.ofString "_law_reads") 624, val := PySem.Value.ref 316 }, { hash := PySem.PyData.keyHash P (PySem.Str.ofString "law"), key := PySem.Value.str (PySem.Str.ofString "law") 630, val := PySem.Value.ref 321 }] 34 }
noncomputable def ob15 : Obj := { cls := PySem.Value.type "tuple", data := PySem.Data.seq #[] }
noncomputable def ob17 : Obj := { cls := PySem.Value.type "tuple", data := PySem.Data.seq #[PySem.Value.str (PySem.Str.ofString "k") 190] }
noncomputable def ob18 : Obj := { cls := PySem.Value.type "tuple", data := PySem.Data.seq #[] }
noncomputable def ob20 : Obj := { cls := PySem.Value.type "code", data := PySem.Data.fields #[PySem.Value.str (PySem.Str.ofString "_wall") 187, PySem.Value.str (PySem.Str.ofString "_wall") 188, PySem.Value.str (PySem.Str.ofString "/claim/cut.py") 189, PySem.Value.int 1 0, PySem.Value.int 1 0, PySem.Value.int 0 0, PySem.Value.int 0 0, PySem.Value.int 3 0, PySem.Value.ref 15, PySem.Value.bool Bool.true, PySem.Value.int 181 0, PySem.Value.ref 16, PySem.Value.none, PySem.Value.ref 17, PySem.Value.ref 18, PySem.Value.ref 19, PySem.Value.int 191 0, PySem.Value.int 1 0, PySem.Value.str (PySem.Str.ofString "/claim/cut.py") 192] }
noncomputable def ob21s : {o : Obj // mkF (stAt pwBody 0) (fun a b sc => PySem.Obj.mk (PySem.Value.type "function") (Option.none) (PySem.Data.func (PySem.FuncData.mk (PySem.Str.ofString "_wall") (PySem.Str.ofString "_wall") a (PySem.FuncBody.stmts b) sc (3) ([]) (PySem.Value.none) (PySem.Value.none) (PySem.Value.none) (PySem.Value.str (PySem.Str.ofString "__main__") 164) (Option.none) (PySem.Value.ref 20) (PySem.Value.none) (0))) (#[])) = some o} := ⟨_, rfl⟩
noncomputable def ob21 : Obj := ob21s.1
noncomputable def ob22 : Obj := { cls := PySem.Value.type "tuple", data := PySem.Data.seq #[] }
noncomputable def ob24 : Obj := { cls := PySem.Value.type "tuple", data := PySem.Data.seq #[PySem.Value.str (PySem.Str.ofString "pt") 199] }
noncomputable def ob25 : Obj := { cls := PySem.Value.type "tuple", data := PySem.Data.seq #[] }
noncomputable def ob27 : Obj := { cls := PySem.Value.type "code", data := PySem.Data.fields #[PySem.Value.str (PySem.Str.ofString "is_inf") 196, PySem.Value.str (PySem.Str.ofString "is_inf") 197, PySem.Value.str (PySem.Str.ofString "/claim/cut.py") 198, PySem.Value.int 5 0, PySem.Value.int 1 0, PySem.Value.int 0 0, PySem.Value.int 0 0, PySem.Value.int 3 0, PySem.Value.ref 22, PySem.Value.bool Bool.true, PySem.Value.int 181 0, PySem.Value.ref 23, PySem.Value.none, PySem.Value.ref 24, PySem.Value.ref 25, PySem.Value.ref 26, PySem.Value.int 200 0, PySem.Value.int 5 0, PySem.Value.str (PySem.Str.ofString "/claim/cut.py") 201] }
noncomputable def ob28s : {o : Obj // mkF (stAt pwBody 2) (fun a b sc => PySem.Obj.mk (PySem.Value.type "function") (Option.none) (PySem.Data.func (PySem.FuncData.mk (PySem.Str.ofString "is_inf") (PySem.Str.ofString "is_inf") a (PySem.FuncBody.stmts b) sc (3) ([]) (PySem.Value.none) (PySem.Value.none) (PySem.Value.none) (PySem.Value.str (PySem.Str.ofString "py_ecc.optimized_bn128.optimized_curve") 194) (Option.none) (PySem.Value.ref 27) (PySem.Value.none) (0))) (#[])) = some o} := ⟨_, rfl⟩
noncomputable def ob28 : Obj := ob28s.1
noncomputable def ob29 : Obj := { cls := PySem.Value.type "tuple", data := PySem.Data.seq #[] }
noncomputable def ob31 : Obj := { cls := PySem.Value.type "tuple", data := PySem.Data.seq #[PySem.Value.str (PySem.Str.ofString "pt") 206, PySem.Value.str (PySem.Str.ofString "b") 207, PySem.Value.str (PySem.Str.ofString "x") 208, PySem.Value.str (PySem.Str.ofString "y") 209, PySem.Value.str (PySem.Str.ofString "z") 210] }
noncomputable def ob32 : Obj := { cls := PySem.Value.type "tuple", data := PySem.Data.seq #[] }
noncomputable def ob34 : Obj := { cls := PySem.Value.type "code", data := PySem.Data.fields #[PySem.Value.str (PySem.Str.ofString "is_on_curve") 203, PySem.Value.str (PySem.Str.ofString "is_on_curve") 204, PySem.Value.str (PySem.Str.ofString "/claim/cut.py") 205, PySem.Value.int 7 0, PySem.Value.int 2 0, PySem.Value.int 0 0, PySem.Value.int 0 0, PySem.Value.int 3 0, PySem.Value.ref 29, PySem.Value.bool Bool.true, PySem.Value.int 181 0, PySem.Value.ref 30, PySem.Value.none, PySem.Value.ref 31, PySem.Value.ref 32, PySem.Value.ref 33, PySem.Value.int 211 0, PySem.Value.int 7 0, PySem.Value.str (PySem.Str.ofString "/claim/cut.py") 212] }
noncomputable def ob35s : {o : Obj // mkF (stAt pwBody 3) (fun a b sc => PySem.Obj.mk (PySem.Value.type "function") (Option.none) (PySem.Data.func (PySem.FuncData.mk (PySem.Str.ofString "is_on_curve") (PySem.Str.ofString "is_on_curve") a (PySem.FuncBody.stmts b) sc (3) ([]) (PySem.Value.none) (PySem.Value.none) (PySem.Value.none) (PySem.Value.str (PySem.Str.ofString "py_ecc.optimized_bn128.optimized_curve") 194) (Option.none) (PySem.Value.ref 34) (PySem.Value.none) (0))) (#[])) = some o} := ⟨_, rfl⟩
noncomputable def ob35 : Obj := ob35s.1
noncomputable def ob36 : Obj := { cls := PySem.Value.type "tuple", data := PySem.Data.seq #[] }
noncomputable def ob38 : Obj := { cls := PySem.Value.type "tuple", data := PySem.Data.seq #[PySem.Value.str (PySem.Str.ofString "pt") 217, PySem.Value.str (PySem.Str.ofString "x") 218, PySem.Value.str (PySem.Str.ofString "y") 219, PySem.Value.str (PySem.Str.ofString "z") 220, PySem.Value.str (PySem.Str.ofString "W") 221, PySem.Value.str (PySem.Str.ofString "S") 222, PySem.Value.str (PySem.Str.ofString "B") 223, PySem.Value.str (PySem.Str.ofString "H") 224, PySem.Value.str (PySem.Str.ofString "S_squared") 225, PySem.Value.str (PySem.Str.ofString "newx") 226, PySem.Value.str (PySem.Str.ofString "newy") 227, PySem.Value.str (PySem.Str.ofString "newz") 228] }
noncomputable def ob39 : Obj := { cls := PySem.Value.type "tuple", data := PySem.Data.seq #[] }
noncomputable def ob41 : Obj := { cls := PySem.Value.type "code", data := PySem.Data.fields #[PySem.Value.str (PySem.Str.ofString "double") 214, PySem.Value.str (PySem.Str.ofString "double") 215, PySem.Value.str (PySem.Str.ofString "/claim/cut.py") 216, PySem.Value.int 12 0, PySem.Value.int 1 0, PySem.Value.int 0 0, PySem.Value.int 0 0, PySem.Value.int 3 0, PySem.Value.ref 36, PySem.Value.bool Bool.true, PySem.Value.int 181 0, PySem.Value.ref 37, PySem.Value.none, PySem.Value.ref 38, PySem.Value.ref 39, PySem.Value.ref 40, PySem.Value.int 229 0, PySem.Value.int 12 0, PySem.Value.str (PySem.Str.ofString "/claim/cut.py") 230] }
noncomputable def ob42s : {o : Obj // mkF (stAt pwBody 4) (fun a b sc => PySem.Obj.mk (PySem.Value.type "function") (Option.none) (PySem.Data.func (PySem.FuncData.mk (PySem.Str.ofString "double") (PySem.Str.ofString "double") a (PySem.FuncBody.stmts b) sc (3) ([]) (PySem.Value.none) (PySem.Value.none) (PySem.Value.none) (PySem.Value.str (PySem.Str.ofString "py_ecc.optimized_bn128.optimized_curve") 194) (Option.none) (PySem.Value.ref 41) (PySem.Value.none) (0))) (#[])) = some o} := ⟨_, rfl⟩
noncomputable def ob42 : Obj := ob42s.1
noncomputable def ob43 : Obj := { cls := PySem.Value.type "tuple", data := PySem.Data.seq #[] }
noncomputable def ob45 : Obj := { cls := PySem.Value.type "tuple", data := PySem.Data.seq #[PySem.Value.str (PySem.Str.ofString "p1") 235, PySem.Value.str (PySem.Str.ofString "p2") 236, PySem.Value.str (PySem.Str.ofString "one") 237, PySem.Value.str (PySem.Str.ofString "zero") 238, PySem.Value.str (PySem.Str.ofString "x1") 239, PySem.Value.str (PySem.Str.ofString "y1") 240, PySem.Value.str (PySem.Str.ofString "z1") 241, PySem.Value.str (PySem.Str.ofString "x2") 242, PySem.Value.str (PySem.Str.ofString "y2") 243, PySem.Value.str (PySem.Str.ofString "z2") 244, PySem.Value.str (PySem.Str.ofString "U1") 245, PySem.Value.str (PySem.Str.ofString "U2") 246, PySem.Value.str (PySem.Str.ofString "V1") 247, PySem.Value.str (PySem.Str.ofString "V2") 248, PySem.Value.str (PySem.Str.ofString "U") 249, PySem.Value.str (PySem.Str.ofString "V") 250, PySem.Value.str (PySem.Str.ofString "V_squared") 251, PySem.Value.str (PySem.Str.ofString "V_squared_times_V2") 252, PySem.Value.str (PySem.Str.ofString "V_cubed") 253, PySem.Value.str (PySem.Str.ofString "W") 254, PySem.Value.str (PySem.Str.ofString "A") 255, PySem.Value.str (PySem.Str.ofString "newx") 256, PySem.Value.str (PySem.Str.ofString "newy") 257, PySem.Value.str (PySem.Str.ofString "newz") 258] }
noncomputable def ob46 : Obj := { cls := PySem.Value.type "tuple", data := PySem.Data.seq #[] }
noncomputable def ob48 : Obj := { cls := PySem.Value.type "code", data := PySem.Data.fields #[PySem.Value.str (PySem.Str.ofString "add") 232, PySem.Value.str (PySem.Str.ofString "add") 233, PySem.Value.str (PySem.Str.ofString "/claim/cut.py") 234, PySem.Value.int 23 0, PySem.Value.int 2 0, PySem.Value.int 0 0, PySem.Value.int 0 0, PySem.Value.int 3 0, PySem.Value.ref 43, PySem.Value.bool Bool.true, PySem.Value.int 181 0, PySem.Value.ref 44, PySem.Value.none, PySem.Value.ref 45, PySem.Value.ref 46, PySem.Value.ref 47, PySem.Value.int 259 0, PySem.Value.int 23 0, PySem.Value.str (PySem.Str.ofString "/claim/cut.py") 260] }
noncomputable def ob49s : {o : Obj // mkF (stAt pwBody 5) (fun a b sc => PySem.Obj.mk (PySem.Value.type "function") (Option.none) (PySem.Data.func (PySem.FuncData.mk (PySem.Str.ofString "add") (PySem.Str.ofString "add") a (PySem.FuncBody.stmts b) sc (3) ([]) (PySem.Value.none) (PySem.Value.none) (PySem.Value.none) (PySem.Value.str (PySem.Str.ofString "py_ecc.optimized_bn128.optimized_curve") 194) (Option.none) (PySem.Value.ref 48) (PySem.Value.none) (0))) (#[])) = some o} := ⟨_, rfl⟩
noncomputable def ob49 : Obj := ob49s.1
noncomputable def ob50 : Obj := { cls := PySem.Value.type "tuple", data := PySem.Data.seq #[] }
noncomputable def ob52 : Obj := { cls := PySem.Value.type "tuple", data := PySem.Data.seq #[PySem.Value.str (PySem.Str.ofString "p1") 265, PySem.Value.str (PySem.Str.ofString "p2") 266, PySem.Value.str (PySem.Str.ofString "x1") 267, PySem.Value.str (PySem.Str.ofString "y1") 268, PySem.Value.str (PySem.Str.ofString "z1") 269, PySem.Value.str (PySem.Str.ofString "x2") 270, PySem.Value.str (PySem.Str.ofString "y2") 271, PySem.Value.str (PySem.Str.ofString "z2") 272] }
noncomputable def ob53 : Obj := { cls := PySem.Value.type "tuple", data := PySem.Data.seq #[] }
noncomputable def ob55 : Obj := { cls := PySem.Value.type "code", data := PySem.Data.fields #[PySem.Value.str (PySem.Str.ofString "eq") 262, PySem.Value.str (PySem.Str.ofString "eq") 263, PySem.Value.str (PySem.Str.ofString "/claim/cut.py") 264, PySem.Value.int 48 0, PySem.Value.int 2 0, PySem.Value.int 0 0, PySem.Value.int 0 0, PySem.Value.int 3 0, PySem.Value.ref 50, PySem.Value.bool Bool.true, PySem.Value.int 181 0, PySem.Value.ref 51, PySem.Value.none, PySem.Value.ref 52, PySem.Value.ref 53, PySem.Value.ref 54, PySem.Value.int 273 0, PySem.Value.int 48 0, PySem.Value.str (PySem.Str.ofString "/claim/cut.py") 274] }
noncomputable def ob56s : {o : Obj // mkF (stAt pwBody 6) (fun a b sc => PySem.Obj.mk (PySem.Value.type "function") (Option.none) (PySem.Data.func (PySem.FuncData.mk (PySem.Str.ofString "eq") (PySem.Str.ofString "eq") a (PySem.FuncBody.stmts b) sc (3) ([]) (PySem.Value.none) (PySem.Value.none) (PySem.Value.none) (PySem.Value.str (PySem.Str.ofString "py_ecc.optimized_bn128.optimized_curve") 194) (Option.none) (PySem.Value.ref 55) (PySem.Value.none) (0))) (#[])) = some o} := ⟨_, rfl⟩
noncomputable def ob56 : Obj := ob56s.1
noncomputable def ob57 : Obj := { cls := PySem.Value.type "tuple", data := PySem.Data.seq #[] }
noncomputable def ob59 : Obj := { cls := PySem.Value.type "tuple", data := PySem.Data.seq #[PySem.Value.str (PySem.Str.ofString "pt") 279, PySem.Value.str (PySem.Str.ofString "x") 280, PySem.Value.str (PySem.Str.ofString "y") 281, PySem.Value.str (PySem.Str.ofString "z") 282] }
noncomputable def ob60 : Obj := { cls := PySem.Value.type "tuple", data := PySem.Data.seq #[] }
noncomputable def ob62 : Obj := { cls := PySem.Value.type "code", data := PySem.Data.fields #[PySem.Value.str (PySem.Str.ofString "neg") 276, PySem.Value.str (PySem.Str.ofString "neg") 277, PySem.Value.str (PySem.Str.ofString "/claim/cut.py") 278, PySem.Value.int 52 0, PySem.Value.int 1 0, PySem.Value.int 0 0, PySem.Value.int 0 0, PySem.Value.int 3 0, PySem.Value.ref 57, PySem.Value.bool Bool.true, PySem.Value.int 181 0, PySem.Value.ref 58, PySem.Value.none, PySem.Value.ref 59, PySem.Value.ref 60, PySem.Value.ref 61, PySem.Value.int 283 0, PySem.Value.int 52 0, PySem.Value.str (PySem.Str.ofString "/claim/cut.py") 284] }
noncomputable def ob63s : {o : Obj // mkF (stAt pwBody 7) (fun a b sc => PySem.Obj.mk (PySem.Value.type "function") (Option.none) (PySem.Data.func (PySem.FuncData.mk (PySem.Str.ofString "neg") (PySem.Str.ofString "neg") a (PySem.FuncBody.stmts b) sc (3) ([]) (PySem.Value.none) (PySem.Value.none) (PySem.Value.none) (PySem.Value.str (PySem.Str.ofString "py_ecc.optimized_bn128.optimized_curve") 194) (Option.none) (PySem.Value.ref 62) (PySem.Value.none) (0))) (#[])) = some o} := ⟨_, rfl⟩
noncomputable def ob63 : Obj := ob63s.1
noncomputable def ob64 : Obj := { cls := PySem.Value.type "tuple", data := PySem.Data.seq #[] }
noncomputable def ob66 : Obj := { cls := PySem.Value.type "tuple", data := PySem.Data.seq #[PySem.Value.str (PySem.Str.ofString "a") 291, PySem.Value.str (PySem.Str.ofString "n") 292, PySem.Value.str (PySem.Str.ofString "lm") 293, PySem.Value.str (PySem.Str.ofString "hm") 294, PySem.Value.str (PySem.Str.ofString "low") 295, PySem.Value.str (PySem.Str.ofString "high") 296, PySem.Value.str (PySem.Str.ofString "r") 297, PySem.Value.str (PySem.Str.ofString "nm") 298, PySem.Value.str (PySem.Str.ofString "new") 299] }
noncomputable def ob67 : Obj := { cls := PySem.Value.type "tuple", data := PySem.Data.seq #[] }
noncomputable def ob69 : Obj := { cls := PySem.Value.type "code", data := PySem.Data.fields #[PySem.Value.str (PySem.Str.ofString "prime_field_inv") 288, PySem.Value.str (PySem.Str.ofString "prime_field_inv") 289, PySem.Value.str (PySem.Str.ofString "/claim/cut.py") 290, PySem.Value.int 56 0, PySem.Value.int 2 0, PySem.Value.int 0 0, PySem.Value.int 0 0, PySem.Value.int 3 0, PySem.Value.ref 64, PySem.Value.bool Bool.true, PySem.Value.int 181 0, PySem.Value.ref 65, PySem.Value.none, PySem.Value.ref 66, PySem.Value.ref 67, PySem.Value.ref 68, PySem.Value.int 300 0, PySem.Value.int 56 0, PySem.Value.str (PySem.Str.ofString "/claim/cut.py") 301] }
noncomputable def ob70s : {o : Obj // mkF (stAt pwBody 9) (fun a b sc => PySem.Obj.mk (PySem.Value.type "function") (Option.none) (PySem.Data.func (PySem.FuncData.mk (PySem.Str.ofString "prime_field_inv") (PySem.Str.ofString "prime_field_inv") a (PySem.FuncBody.stmts b) sc (3) ([]) (PySem.Value.none) (PySem.Value.none) (PySem.Value.none) (PySem.Value.str (PySem.Str.ofString "py_ecc.utils") 286) (Option.none) (PySem.Value.ref 69) (PySem.Value.none) (0))) (#[])) = some o} := ⟨_, rfl⟩
noncomputable def ob70 : Obj := ob70s.1
noncomputable def ob71 : Obj := { cls := PySem.Value.type "tuple", data := PySem.Data.seq #[] }
noncomputable def ob73 : Obj := { cls := PySem.Value.type "tuple", data := PySem.Data.seq #[PySem.Value.str (PySem.Str.ofString "p") 306, PySem.Value.str (PySem.Str.ofString "d") 307] }
noncomputable def ob74 : Obj := { cls := PySem.Value.type "tuple", data := PySem.Data.seq #[] }
noncomputable def ob76 : Obj := { cls := PySem.Value.type "code", data := PySem.Data.fields #[PySem.Value.str (PySem.Str.ofString "deg") 303, PySem.Value.str (PySem.Str.ofString "deg") 304, PySem.Value.str (PySem.Str.ofString "/claim/cut.py") 305, PySem.Value.int 67 0, PySem.Value.int 1 0, PySem.Value.int 0 0, PySem.Value.int 0 0, PySem.Value.int 3 0, PySem.Value.ref 71, PySem.Value.bool Bool.true, PySem.Value.int 181 0, PySem.Value.ref 72, PySem.Value.none, PySem.Value.ref 73, PySem.Value.ref 74, PySem.Value.ref 75, PySem.Value.int 308 0, PySem.Value.int 67 0, PySem.Value.str (PySem.Str.ofString "/claim/cut.py") 309] }
noncomputable def ob77s : {o : Obj // mkF (stAt pwBody 10) (fun a b sc => PySem.Obj.mk (PySem.Value.type "function") (Option.none) (PySem.Data.func (PySem.FuncData.mk (PySem.Str.ofString "deg") (PySem.Str.ofString "deg") a (PySem.FuncBody.stmts b) sc (3) ([]) (PySem.Value.none) (PySem.Value.none) (PySem.Value.none) (PySem.Value.str (PySem.Str.ofString "py_ecc.utils") 286) (Option.none) (PySem.Value.ref 76) (PySem.Value.none) (0))) (#[])) = some o} := ⟨_, rfl⟩
noncomputable def ob77 : Obj := ob77s.1
noncomputable def ob85 : Obj := { cls := PySem.Value.type "tuple", data := PySem.Data.seq #[] }
noncomputable def ob88 : Obj := { cls := PySem.Value.type "code", data := PySem.Data.fields #[PySem.Value.str (PySem.Str.ofString "__init__") 325, PySem.Value.str (PySem.Str.ofString "FQP.__init__") 326, PySem.Value.str (PySem.Str.ofString "/claim/cut.py") 327, PySem.Value.int 75 0, PySem.Value.int 4 0, PySem.Value.int 0 0, PySem.Value.int 0 0, PySem.Value.int 3 0, PySem.Value.ref 85, PySem.Value.bool Bool.true, PySem.Value.int 181 0, PySem.Value.ref 86, PySem.Value.none, PySem.Value.none, PySem.Value.none, PySem.Value.ref 87, PySem.Value.int 328 0, PySem.Value.int 75 0, PySem.Value.str (PySem.Str.ofString "/claim/cut.py") 329] }
noncomputable def ob89s : {o : Obj // mkF (inCls (stAt pwBody 12) 0) (fun a b sc => PySem.Obj.mk (PySem.Value.type "function") (Option.none) (PySem.Data.func (PySem.FuncData.mk (PySem.Str.ofString "__init__") (PySem.Str.ofString "FQP.__init__") a (PySem.FuncBody.stmts b) sc (3) ([]) (PySem.Value.none) (PySem.Value.none) (PySem.Value.none) (PySem.Value.str (PySem.Str.ofString "py_ecc.fields.optimized_field_elements") 311) (Option.none) (PySem.Value.ref 88) (PySem.Value.none) (0))) (#[])) = some o} := ⟨_, rfl⟩
noncomputable def ob89 : Obj := ob89s.1
noncomputable def ob90 : Obj := { cls := PySem.Value.type "tuple", data := PySem.Data.seq #[] }
noncomputable def ob92 : Obj := { cls := PySem.Value.type "tuple", data := PySem.Data.seq #[PySem.Value.str (PySem.Str.ofString "self") 334, PySem.Value.str (PySem.Str.ofString "coeffs") 335] }
noncomputable def ob93 : Obj := { cls := PySem.Value.type "tuple", data := PySem.Data.seq #[] }
noncomputable def ob95 : Obj := { cls := PySem.Value.type "code", data := PySem.Data.fields #[PySem.Value.str (PySem.Str.ofString "made") 331, PySem.Value.str (PySem.Str.ofString "FQP.made") 332, PySem.Value.str (PySem.Str.ofString "/claim/cut.py") 333, PySem.Value.int 87 0, PySem.Value.int 2 0, PySem.Value.int 0 0, PySem.Value.int 0 0, PySem.Value.int 3 0, PySem.Value.ref 90, PySem.Value.bool Bool.true, PySem.Value.int 181 0, PySem.Value.ref 91, PySem.Value.none, PySem.Value.ref 92, PySem.Value.ref 93, PySem.Value.ref 94, PySem.Value.int 336 0, PySem.Value.int 87 0, PySem.Value.str (PySem.Str.ofString "/claim/cut.py") 337] }
noncomputable def ob96s : {o : Obj // mkF (inCls (stAt pwBody 12) 1) (fun a b sc => PySem.Obj.mk (PySem.Value.type "function") (Option.none) (PySem.Data.func (PySem.FuncData.mk (PySem.Str.ofString "made") (PySem.Str.ofString "FQP.made") a (PySem.FuncBody.stmts b) sc (3) ([]) (PySem.Value.none) (PySem.Value.none) (PySem.Value.none) (PySem.Value.str (PySem.Str.ofString "py_ecc.fields.optimized_field_elements") 311) (Option.none) (PySem.Value.ref 95) (PySem.Value.none) (0))) (#[])) = some o} := ⟨_, rfl⟩
noncomputable def ob96 : Obj := ob96s.1
noncomputable def ob97 : Obj := { cls := PySem.Value.type "tuple", data := PySem.Data.seq #[] }
noncomputable def ob100 : Obj := { cls := PySem.Value.type "code", data := PySem.Data.fields #[PySem.Value.str (PySem.Str.ofString "__add__") 339, PySem.Value.str (PySem.Str.ofString "FQP.__add__") 340, PySem.Value.str (PySem.Str.ofString "/claim/cut.py") 341, PySem.Value.int 90 0, PySem.Value.int 2 0, PySem.Value.int 0 0, PySem.Value.int 0 0, PySem.Value.int 3 0, PySem.Value.ref 97, PySem.Value.bool Bool.true, PySem.Value.int 181 0, PySem.Value.ref 98, PySem.Value.none, PySem.Value.none, PySem.Value.none, PySem.Value.ref 99, PySem.Value.int 342 0, PySem.Value.int 90 0, PySem.Value.str (PySem.Str.ofString "/claim/cut.py") 343] }
noncomputable def ob101s : {o : Obj // mkF (inCls (stAt pwBody 12) 2) (fun a b sc => PySem.Obj.mk (PySem.Value.type "function") (Option.none) (PySem.Data.func (PySem.FuncData.mk (PySem.Str.ofString "__add__") (PySem.Str.ofString "FQP.__add__") a (PySem.FuncBody.stmts b) sc (3) ([]) (PySem.Value.none) (PySem.Value.none) (PySem.Value.none) (PySem.Value.str (PySem.Str.ofString "py_ecc.fields.optimized_field_elements") 311) (Option.none) (PySem.Value.ref 100) (PySem.Value.none) (0))) (#[])) = some o} := ⟨_, rfl⟩
noncomputable def ob101 : Obj := ob101s.1
noncomputable def ob102 : Obj := { cls := PySem.Value.type "tuple", data := PySem.Data.seq #[] }
noncomputable def ob105 : Obj := { cls := PySem.Value.type "code", data := PySem.Data.fields #[PySem.Value.str (PySem.Str.ofString "__sub__") 345, PySem.Value.str (PySem.Str.ofString "FQP.__sub__") 346, PySem.Value.str (PySem.Str.ofString "/claim/cut.py") 347, PySem.Value.int 95 0, PySem.Value.int 2 0, PySem.Value.int 0 0, PySem.Value.int 0 0, PySem.Value.int 3 0, PySem.Value.ref 102, PySem.Value.bool Bool.true, PySem.Value.int 181 0, PySem.Value.ref 103, PySem.Value.none, PySem.Value.none, PySem.Value.none, PySem.Value.ref 104, PySem.Value.int 348 0, PySem.Value.int 95 0, PySem.Value.str (PySem.Str.ofString "/claim/cut.py") 349] }
noncomputable def ob106s : {o : Obj // mkF (inCls (stAt pwBody 12) 3) (fun a b sc => PySem.Obj.mk (PySem.Value.type "function") (Option.none) (PySem.Data.func (PySem.FuncData.mk (PySem.Str.ofString "__sub__") (PySem.Str.ofString "FQP.__sub__") a (PySem.FuncBody.stmts b) sc (3) ([]) (PySem.Value.none) (PySem.Value.none) (PySem.Value.none) (PySem.Value.str (PySem.Str.ofString "py_ecc.fields.optimized_field_elements") 311) (Option.none) (PySem.Value.ref 105) (PySem.Value.none) (0))) (#[])) = some o} := ⟨_, rfl⟩
noncomputable def ob106 : Obj := ob106s.1
noncomputable def ob107 : Obj := { cls := PySem.Value.type "tuple", data := PySem.Data.seq #[] }
noncomputable def ob109 : Obj := { cls := PySem.Value.type "tuple", data := PySem.Data.seq #[PySem.Value.str (PySem.Str.ofString "self") 354, PySem.Value.str (PySem.Str.ofString "other") 355] }
noncomputable def ob110 : Obj := { cls := PySem.Value.type "tuple", data := PySem.Data.seq #[] }
noncomputable def ob112 : Obj := { cls := PySem.Value.type "code", data := PySem.Data.fields #[PySem.Value.str (PySem.Str.ofString "__mod__") 351, PySem.Value.str (PySem.Str.ofString "FQP.__mod__") 352, PySem.Value.str (PySem.Str.ofString "/claim/cut.py") 353, PySem.Value.int 100 0, PySem.Value.int 2 0, PySem.Value.int 0 0, PySem.Value.int 0 0, PySem.Value.int 3 0, PySem.Value.ref 107, PySem.Value.bool Bool.true, PySem.Value.int 181 0, PySem.Value.ref 108, PySem.Value.none, PySem.Value.ref 109, PySem.Value.ref 110, PySem.Value.ref 111, PySem.Value.int 356 0, PySem.Value.int 100 0, PySem.Value.str (PySem.Str.ofString "/claim/cut.py") 357] }
noncomputable def ob113s : {o : Obj // mkF (inCls (stAt pwBody 12) 4) (fun a b sc => PySem.Obj.mk (PySem.Value.type "function") (Option.none) (PySem.Data.func (PySem.FuncData.mk (PySem.Str.ofString "__mod__") (PySem.Str.ofString "FQP.__mod__") a (PySem.FuncBody.stmts b) sc (3) ([]) (PySem.Value.none) (PySem.Value.none) (PySem.Value.none) (PySem.Value.str (PySem.Str.ofString "py_ecc.fields.optimized_field_elements") 311) (Option.none) (PySem.Value.ref 112) (PySem.Value.none) (0))) (#[])) = some o} := ⟨_, rfl⟩
noncomputable def ob113 : Obj := ob113s.1
noncomputable def ob114 : Obj := { cls := PySem.Value.type "tuple", data := PySem.Data.seq #[] }
noncomputable def ob117 : Obj := { cls := PySem.Value.type "code", data := PySem.Data.fields #[PySem.Value.str (PySem.Str.ofString "__mul__") 359, PySem.Value.str (PySem.Str.ofString "FQP.__mul__") 360, PySem.Value.str (PySem.Str.ofString "/claim/cut.py") 361, PySem.Value.int 103 0, PySem.Value.int 2 0, PySem.Value.int 0 0, PySem.Value.int 0 0, PySem.Value.int 3 0, PySem.Value.ref 114, PySem.Value.bool Bool.true, PySem.Value.int 181 0, PySem.Value.ref 115, PySem.Value.none, PySem.Value.none, PySem.Value.none, PySem.Value.ref 116, PySem.Value.int 362 0, PySem.Value.int 103 0, PySem.Value.str (PySem.Str.ofString "/claim/cut.py") 363] }
noncomputable def ob118s : {o : Obj // mkF (inCls (stAt pwBody 12) 5) (fun a b sc => PySem.Obj.mk (PySem.Value.type "function") (Option.none) (PySem.Data.func (PySem.FuncData.mk (PySem.Str.ofString "__mul__") (PySem.Str.ofString "FQP.__mul__") a (PySem.FuncBody.stmts b) sc (3) ([]) (PySem.Value.none) (PySem.Value.none) (PySem.Value.none) (PySem.Value.str (PySem.Str.ofString "py_ecc.fields.optimized_field_elements") 311) (Option.none) (PySem.Value.ref 117) (PySem.Value.none) (0))) (#[])) = some o} := ⟨_, rfl⟩
noncomputable def ob118 : Obj := ob118s.1
noncomputable def ob119 : Obj := { cls := PySem.Value.type "tuple", data := PySem.Data.seq #[] }
noncomputable def ob121 : Obj := { cls := PySem.Value.type "tuple", data := PySem.Data.seq #[PySem.Value.str (PySem.Str.ofString "self") 368, PySem.Value.str (PySem.Str.ofString "other") 369] }
noncomputable def ob122 : Obj := { cls := PySem.Value.type "tuple", data := PySem.Data.seq #[] }
noncomputable def ob124 : Obj := { cls := PySem.Value.type "code", data := PySem.Data.fields #[PySem.Value.str (PySem.Str.ofString "__rmul__") 365, PySem.Value.str (PySem.Str.ofString "FQP.__rmul__") 366, PySem.Value.str (PySem.Str.ofString "/claim/cut.py") 367, PySem.Value.int 120 0, PySem.Value.int 2 0, PySem.Value.int 0 0, PySem.Value.int 0 0, PySem.Value.int 3 0, PySem.Value.ref 119, PySem.Value.bool Bool.true, PySem.Value.int 181 0, PySem.Value.ref 120, PySem.Value.none, PySem.Value.ref 121, PySem.Value.ref 122, PySem.Value.ref 123, PySem.Value.int 370 0, PySem.Value.int 120 0, PySem.Value.str (PySem.Str.ofString "/claim/cut.py") 371] }
noncomputable def ob125s : {o : Obj // mkF (inCls (stAt pwBody 12) 6) (fun a b sc => PySem.Obj.mk (PySem.Value.type "function") (Option.none) (PySem.Data.func (PySem.FuncData.mk (PySem.Str.ofString "__rmul__") (PySem.Str.ofString "FQP.__rmul__") a (PySem.FuncBody.stmts b) sc (3) ([]) (PySem.Value.none) (PySem.Value.none) (PySem.Value.none) (PySem.Value.str (PySem.Str.ofString "py_ecc.fields.optimized_field_elements") 311) (Option.none) (PySem.Value.ref 124) (PySem.Value.none) (0))) (#[])) = some o} := ⟨_, rfl⟩
noncomputable def ob125 : Obj := ob125s.1
noncomputable def ob126 : Obj := { cls := PySem.Value.type "tuple", data := PySem.Data.seq #[] }
noncomputable def ob129 : Obj := { cls := PySem.Value.type "code", data := PySem.Data.fields #[PySem.Value.str (PySem.Str.ofString "__truediv__") 373, PySem.Value.str (PySem.Str.ofString "FQP.__truediv__") 374, PySem.Value.str (PySem.Str.ofString "/claim/cut.py") 375, PySem.Value.int 123 0, PySem.Value.int 2 0, PySem.Value.int 0 0, PySem.Value.int 0 0, PySem.Value.int 3 0, PySem.Value.ref 126, PySem.Value.bool Bool.true, PySem.Value.int 181 0, PySem.Value.ref 127, PySem.Value.none, PySem.Value.none, PySem.Value.none, PySem.Value.ref 128, PySem.Value.int 376 0, PySem.Value.int 123 0, PySem.Value.str (PySem.Str.ofString "/claim/cut.py") 377] }
noncomputable def ob130s : {o : Obj // mkF (inCls (stAt pwBody 12) 7) (fun a b sc => PySem.Obj.mk (PySem.Value.type "function") (Option.none) (PySem.Data.func (PySem.FuncData.mk (PySem.Str.ofString "__truediv__") (PySem.Str.ofString "FQP.__truediv__") a (PySem.FuncBody.stmts b) sc (3) ([]) (PySem.Value.none) (PySem.Value.none) (PySem.Value.none) (PySem.Value.str (PySem.Str.ofString "py_ecc.fields.optimized_field_elements") 311) (Option.none) (PySem.Value.ref 129) (PySem.Value.none) (0))) (#[])) = some o} := ⟨_, rfl⟩
noncomputable def ob130 : Obj := ob130s.1
noncomputable def ob131 : Obj := { cls := PySem.Value.type "tuple", data := PySem.Data.seq #[] }
noncomputable def ob133 : Obj := { cls := PySem.Value.type "tuple", data := PySem.Data.seq #[PySem.Value.str (PySem.Str.ofString "self") 382, PySem.Value.str (PySem.Str.ofString "other") 383, PySem.Value.str (PySem.Str.ofString "o") 384, PySem.Value.str (PySem.Str.ofString "t") 385] }
noncomputable def ob134 : Obj := { cls := PySem.Value.type "tuple", data := PySem.Data.seq #[] }
noncomputable def ob136 : Obj := { cls := PySem.Value.type "code", data := PySem.Data.fields #[PySem.Value.str (PySem.Str.ofString "__pow__") 379, PySem.Value.str (PySem.Str.ofString "FQP.__pow__") 380, PySem.Value.str (PySem.Str.ofString "/claim/cut.py") 381, PySem.Value.int 131 0, PySem.Value.int 2 0, PySem.Value.int 0 0, PySem.Value.int 0 0, PySem.Value.int 3 0, PySem.Value.ref 131, PySem.Value.bool Bool.true, PySem.Value.int 181 0, PySem.Value.ref 132, PySem.Value.none, PySem.Value.ref 133, PySem.Value.ref 134, PySem.Value.ref 135, PySem.Value.int 386 0, PySem.Value.int 131 0, PySem.Value.str (PySem.Str.ofString "/claim/cut.py") 387] }
noncomputable def ob137s : {o : Obj // mkF (inCls (stAt pwBody 12) 8) (fun a b sc => PySem.Obj.mk (PySem.Value.type "function") (Option.none) (PySem.Data.func (PySem.FuncData.mk (PySem.Str.ofString "__pow__") (PySem.Str.ofString "FQP.__pow__") a (PySem.FuncBody.stmts b) sc (3) ([]) (PySem.Value.none) (PySem.Value.none) (PySem.Value.none) (PySem.Value.str (PySem.Str.ofString "py_ecc.fields.optimized_field_elements") 311) (Option.none) (PySem.Value.ref 136) (PySem.Value.none) (0))) (#[])) = some o} := ⟨_, rfl⟩
noncomputable def ob137 : Obj := ob137s.1
noncomputable def ob138 : Obj := { cls := PySem.Value.type "tuple", data := PySem.Data.seq #[] }
noncomputable def ob141 : Obj := { cls := PySem.Value.type "code", data := PySem.Data.fields #[PySem.Value.str (PySem.Str.ofString "optimized_poly_rounded_div") 389, PySem.Value.str (PySem.Str.ofString "FQP.optimized_poly_rounded_div") 390, PySem.Value.str (PySem.Str.ofString "/claim/cut.py") 391, PySem.Value.int 141 0, PySem.Value.int 3 0, PySem.Value.int 0 0, PySem.Value.int 0 0, PySem.Value.int 3 0, PySem.Value.ref 138, PySem.Value.bool Bool.true, PySem.Value.int 181 0, PySem.Value.ref 139, PySem.Value.none, PySem.Value.none, PySem.Value.none, PySem.Value.ref 140, PySem.Value.int 392 0, PySem.Value.int 141 0, PySem.Value.str (PySem.Str.ofString "/claim/cut.py") 393] }
noncomputable def ob142s : {o : Obj // mkF (inCls (stAt pwBody 12) 9) (fun a b sc => PySem.Obj.mk (PySem.Value.type "function") (Option.none) (PySem.Data.func (PySem.FuncData.mk (PySem.Str.ofString "optimized_poly_rounded_div") (PySem.Str.ofString "FQP.optimized_poly_rounded_div") a (PySem.FuncBody.stmts b) sc (3) ([]) (PySem.Value.none) (PySem.Value.none) (PySem.Value.none) (PySem.Value.str (PySem.Str.ofString "py_ecc.fields.optimized_field_elements") 311) (Option.none) (PySem.Value.ref 141) (PySem.Value.none) (0))) (#[])) = some o} := ⟨_, rfl⟩
noncomputable def ob142 : Obj := ob142s.1
noncomputable def ob143 : Obj := { cls := PySem.Value.type "tuple", data := PySem.Data.seq #[] }
noncomputable def ob146 : Obj := { cls := PySem.Value.type "code", data := PySem.Data.fields #[PySem.Value.str (PySem.Str.ofString "inv") 395, PySem.Value.str (PySem.Str.ofString "FQP.inv") 396, PySem.Value.str (PySem.Str.ofString "/claim/cut.py") 397, PySem.Value.int 152 0, PySem.Value.int 1 0, PySem.Value.int 0 0, PySem.Value.int 0 0, PySem.Value.int 3 0, PySem.Value.ref 143, PySem.Value.bool Bool.true, PySem.Value.int 181 0, PySem.Value.ref 144, PySem.Value.none, PySem.Value.none, PySem.Value.none, PySem.Value.ref 145, PySem.Value.int 398 0, PySem.Value.int 152 0, PySem.Value.str (PySem.Str.ofString "/claim/cut.py") 399] }
noncomputable def ob147s : {o : Obj // mkF (inCls (stAt pwBody 12) 10) (fun a b sc => PySem.Obj.mk (PySem.Value.type "function") (Option.none) (PySem.Data.func (PySem.FuncData.mk (PySem.Str.ofString "inv") (PySem.Str.ofString "FQP.inv") a (PySem.FuncBody.stmts b) sc (3) ([]) (PySem.Value.none) (PySem.Value.none) (PySem.Value.none) (PySem.Value.str (PySem.Str.ofString "py_ecc.fields.optimized_field_elements") 311) (Option.none) (PySem.Value.ref 146) (PySem.Value.none) (0))) (#[])) = some o} := ⟨_, rfl⟩
noncomputable def ob147 : Obj := ob147s.1
noncomputable def ob148 : Obj := { cls := PySem.Value.type "tuple", data := PySem.Data.seq #[] }
noncomputable def ob150 : Obj := { cls := PySem.Value.type "tuple", data := PySem.Data.seq #[PySem.Value.str (PySem.Str.ofString "self") 404] }
noncomputable def ob151 : Obj := { cls := PySem.Value.type "tuple", data := PySem.Data.seq #[] }
noncomputable def ob153 : Obj := { cls := PySem.Value.type "code", data := PySem.Data.fields #[PySem.Value.str (PySem.Str.ofString "__repr__") 401, PySem.Value.str (PySem.Str.ofString "FQP.__repr__") 402, PySem.Value.str (PySem.Str.ofString "/claim/cut.py") 403, PySem.Value.int 169 0, PySem.Value.int 1 0, PySem.Value.int 0 0, PySem.Value.int 0 0, PySem.Value.int 3 0, PySem.Value.ref 148, PySem.Value.bool Bool.true, PySem.Value.int 181 0, PySem.Value.ref 149, PySem.Value.none, PySem.Value.ref 150, PySem.Value.ref 151, PySem.Value.ref 152, PySem.Value.int 405 0, PySem.Value.int 169 0, PySem.Value.str (PySem.Str.ofString "/claim/cut.py") 406] }
noncomputable def ob154s : {o : Obj // mkF (inCls (stAt pwBody 12) 11) (fun a b sc => PySem.Obj.mk (PySem.Value.type "function") (Option.none) (PySem.Data.func (PySem.FuncData.mk (PySem.Str.ofString "__repr__") (PySem.Str.ofString "FQP.__repr__") a (PySem.FuncBody.stmts b) sc (3) ([]) (PySem.Value.none) (PySem.Value.none) (PySem.Value.none) (PySem.Value.str (PySem.Str.ofString "py_ecc.fields.optimized_field_elements") 311) (Option.none) (PySem.Value.ref 153) (PySem.Value.none) (0))) (#[])) = some o} := ⟨_, rfl⟩
noncomputable def ob154 : Obj := ob154s.1
noncomputable def ob155 : Obj := { cls := PySem.Value.type "tuple", data := PySem.Data.seq #[] }
noncomputable def ob157 : Obj := { cls := PySem.Value.type "tuple", data := PySem.Data.seq #[PySem.Value.str (PySem.Str.ofString "self") 411, PySem.Value.str (PySem.Str.ofString "other") 412, PySem.Value.str (PySem.Str.ofString "c1") 413, PySem.Value.str (PySem.Str.ofString "c2") 414] }
noncomputable def ob158 : Obj := { cls := PySem.Value.type "tuple", data := PySem.Data.seq #[] }
noncomputable def ob160 : Obj := { cls := PySem.Value.type "code", data := PySem.Data.fields #[PySem.Value.str (PySem.Str.ofString "__eq__") 408, PySem.Value.str (PySem.Str.ofString "FQP.__eq__") 409, PySem.Value.str (PySem.Str.ofString "/claim/cut.py") 410, PySem.Value.int 172 0, PySem.Value.int 2 0, PySem.Value.int 0 0, PySem.Value.int 0 0, PySem.Value.int 3 0, PySem.Value.ref 155, PySem.Value.bool Bool.true, PySem.Value.int 181 0, PySem.Value.ref 156, PySem.Value.none, PySem.Value.ref 157, PySem.Value.ref 158, PySem.Value.ref 159, PySem.Value.int 415 0, PySem.Value.int 172 0, PySem.Value.str (PySem.Str.ofString "/claim/cut.py") 416] }
noncomputable def ob161s : {o : Obj // mkF (inCls (stAt pwBody 12) 12) (fun a b sc => PySem.Obj.mk (PySem.Value.type "function") (Option.none) (PySem.Data.func (PySem.FuncData.mk (PySem.Str.ofString "__eq__") (PySem.Str.ofString "FQP.__eq__") a (PySem.FuncBody.stmts b) sc (3) ([]) (PySem.Value.none) (PySem.Value.none) (PySem.Value.none) (PySem.Value.str (PySem.Str.ofString "py_ecc.fields.optimized_field_elements") 311) (Option.none) (PySem.Value.ref 160) (PySem.Value.none) (0))) (#[])) = some o} := ⟨_, rfl⟩
noncomputable def ob161 : Obj := ob161s.1
noncomputable def ob162 : Obj := { cls := PySem.Value.type "tuple", data := PySem.Data.seq #[] }
noncomputable def ob164 : Obj := { cls := PySem.Value.type "tuple", data := PySem.Data.seq #[PySem.Value.str (PySem.Str.ofString "self") 421, PySem.Value.str (PySem.Str.ofString "other") 422] }
noncomputable def ob165 : Obj := { cls := PySem.Value.type "tuple", data := PySem.Data.seq #[] }
noncomputable def ob167 : Obj := { cls := PySem.Value.type "code", data := PySem.Data.fields #[PySem.Value.str (PySem.Str.ofString "__ne__") 418, PySem.Value.str (PySem.Str.ofString "FQP.__ne__") 419, PySem.Value.str (PySem.Str.ofString "/claim/cut.py") 420, PySem.Value.int 180 0, PySem.Value.int 2 0, PySem.Value.int 0 0, PySem.Value.int 0 0, PySem.Value.int 3 0, PySem.Value.ref 162, PySem.Value.bool Bool.true, PySem.Value.int 181 0, PySem.Value.ref 163, PySem.Value.none, PySem.Value.ref 164, PySem.Value.ref 165, PySem.Value.ref 166, PySem.Value.int 423 0, PySem.Value.int 180 0, PySem.Value.str (PySem.Str.ofString "/claim/cut.py") 424] }
noncomputable def ob168s : {o : Obj // mkF (inCls (stAt pwBody 12) 13) (fun a b sc => PySem.Obj.mk (PySem.Value.type "function") (Option.none) (PySem.Data.func (PySem.FuncData.mk (PySem.Str.ofString "__ne__") (PySem.Str.ofString "FQP.__ne__") a (PySem.FuncBody.stmts b) sc (3) ([]) (PySem.Value.none) (PySem.Value.none) (PySem.Value.none) (PySem.Value.str (PySem.Str.ofString "py_ecc.fields.optimized_field_elements") 311) (Option.none) (PySem.Value.ref 167) (PySem.Value.none) (0))) (#[])) = some o} := ⟨_, rfl⟩
noncomputable def ob168 : Obj := ob168s.1
noncomputable def ob169 : Obj := { cls := PySem.Value.type "tuple", data := PySem.Data.seq #[] }
noncomputable def ob172 : Obj := { cls := PySem.Value.type "code", data := PySem.Data.fields #[PySem.Value.str (PySem.Str.ofString "__neg__") 426, PySem.Value.str (PySem.Str.ofString "FQP.__neg__") 427, PySem.Value.str (PySem.Str.ofString "/claim/cut.py") 428, PySem.Value.int 183 0, PySem.Value.int 1 0, PySem.Value.int 0 0, PySem.Value.int 0 0, PySem.Value.int 3 0, PySem.Value.ref 169, PySem.Value.bool Bool.true, PySem.Value.int 181 0, PySem.Value.ref 170, PySem.Value.none, PySem.Value.none, PySem.Value.none, PySem.Value.ref 171, PySem.Value.int 429 0, PySem.Value.int 183 0, PySem.Value.str (PySem.Str.ofString "/claim/cut.py") 430] }
noncomputable def ob173s : {o : Obj // mkF (inCls (stAt pwBody 12) 14) (fun a b sc => PySem.Obj.mk (PySem.Value.type "function") (Option.none) (PySem.Data.func (PySem.FuncData.mk (PySem.Str.ofString "__neg__") (PySem.Str.ofString "FQP.__neg__") a (PySem.FuncBody.stmts b) sc (3) ([]) (PySem.Value.none) (PySem.Value.none) (PySem.Value.none) (PySem.Value.str (PySem.Str.ofString "py_ecc.fields.optimized_field_elements") 311) (Option.none) (PySem.Value.ref 172) (PySem.Value.none) (0))) (#[])) = some o} := ⟨_, rfl⟩
noncomputable def ob173 : Obj := ob173s.1
noncomputable def ob174 : Obj := { cls := PySem.Value.type "tuple", data := PySem.Data.seq #[] }
noncomputable def ob176 : Obj := { cls := PySem.Value.type "tuple", data := PySem.Data.seq #[PySem.Value.str (PySem.Str.ofString "self") 435] }
noncomputable def ob177 : Obj := { cls := PySem.Value.type "tuple", data := PySem.Data.seq #[] }
noncomputable def ob179 : Obj := { cls := PySem.Value.type "code", data := PySem.Data.fields #[PySem.Value.str (PySem.Str.ofString "sgn0") 432, PySem.Value.str (PySem.Str.ofString "FQP.sgn0") 433, PySem.Value.str (PySem.Str.ofString "/claim/cut.py") 434, PySem.Value.int 186 0, PySem.Value.int 1 0, PySem.Value.int 0 0, PySem.Value.int 0 0, PySem.Value.int 3 0, PySem.Value.ref 174, PySem.Value.bool Bool.true, PySem.Value.int 181 0, PySem.Value.ref 175, PySem.Value.none, PySem.Value.ref 176, PySem.Value.ref 177, PySem.Value.ref 178, PySem.Value.int 436 0, PySem.Value.int 186 0, PySem.Value.str (PySem.Str.ofString "/claim/cut.py") 437] }
noncomputable def ob180s : {o : Obj // mkF (inCls (stAt pwBody 12) 15) (fun a b sc => PySem.Obj.mk (PySem.Value.type "function") (Option.none) (PySem.Data.func (PySem.FuncData.mk (PySem.Str.ofString "sgn0") (PySem.Str.ofString "FQP.sgn0") a (PySem.FuncBody.stmts b) sc (3) ([]) (PySem.Value.none) (PySem.Value.none) (PySem.Value.none) (PySem.Value.str (PySem.Str.ofString "py_ecc.fields.optimized_field_elements") 311) (Option.none) (PySem.Value.ref 179) (PySem.Value.none) (0))) (#[])) = some o} := ⟨_, rfl⟩
noncomputable def ob180 : Obj := ob180s.1
noncomputable def ob181 : Obj := { cls := PySem.Value.type "property", data := PySem.Data.fields #[PySem.Value.ref 180, PySem.Value.none, PySem.Value.none, PySem.Value.none, PySem.Value.str (PySem.Str.ofString "sgn0") 439, PySem.Value.bool Bool.false] }
noncomputable def ob182 : Obj := { cls := PySem.Value.type "tuple", data := PySem.Data.seq #[] }
noncomputable def ob184 : Obj := { cls := PySem.Value.type "tuple", data := PySem.Data.seq #[PySem.Value.str (PySem.Str.ofString "self") 443] }
noncomputable def ob185 : Obj := { cls := PySem.Value.type "tuple", data := PySem.Data.seq #[] }
noncomputable def ob187 : Obj := { cls := PySem.Value.type "code", data := PySem.Data.fields #[PySem.Value.str (PySem.Str.ofString "one") 440, PySem.Value.str (PySem.Str.ofString "FQP.one") 441, PySem.Value.str (PySem.Str.ofString "/claim/cut.py") 442, PySem.Value.int 190 0, PySem.Value.int 1 0, PySem.Value.int 0 0, PySem.Value.int 0 0, PySem.Value.int 3 0, PySem.Value.ref 182, PySem.Value.bool Bool.true, PySem.Value.int 181 0, PySem.Value.ref 183, PySem.Value.none, PySem.Value.ref 184, PySem.Value.ref 185, PySem.Value.ref 186, PySem.Value.int 444 0, PySem.Value.int 190 0, PySem.Value.str (PySem.Str.ofString "/claim/cut.py") 445] }
noncomputable def ob188s : {o : Obj // mkF (inCls (stAt pwBody 12) 16) (fun a b sc => PySem.Obj.mk (PySem.Value.type "function") (Option.none) (PySem.Data.func (PySem.FuncData.mk (PySem.Str.ofString "one") (PySem.Str.ofString "FQP.one") a (PySem.FuncBody.stmts b) sc (3) ([]) (PySem.Value.none) (PySem.Value.none) (PySem.Value.none) (PySem.Value.str (PySem.Str.ofString "py_ecc.fields.optimized_field_elements") 311) (Option.none) (PySem.Value.ref 187) (PySem.Value.none) (0))) (#[])) = some o} := ⟨_, rfl⟩
noncomputable def ob188 : Obj := ob188s.1
noncomputable def ob189 : Obj := { cls := PySem.Value.type "tuple", data := PySem.Data.seq #[] }
noncomputable def ob191 : Obj := { cls := PySem.Value.type "tuple", data := PySem.Data.seq #[PySem.Value.str (PySem.Str.ofString "self") 450] }
noncomputable def ob192 : Obj := { cls := PySem.Value.type "tuple", data := PySem.Data.seq #[] }
noncomputable def ob194 : Obj := { cls := PySem.Value.type "code", data := PySem.Data.fields #[PySem.Value.str (PySem.Str.ofString "zero") 447, PySem.Value.str (PySem.Str.ofString "FQP.zero") 448, PySem.Value.str (PySem.Str.ofString "/claim/cut.py") 449, PySem.Value.int 193 0, PySem.Value.int 1 0, PySem.Value.int 0 0, PySem.Value.int 0 0, PySem.Value.int 3 0, PySem.Value.ref 189, PySem.Value.bool Bool.true, PySem.Value.int 181 0, PySem.Value.ref 190, PySem.Value.none, PySem.Value.ref 191, PySem.Value.ref 192, PySem.Value.ref 193, PySem.Value.int 451 0, PySem.Value.int 193 0, PySem.Value.str (PySem.Str.ofString "/claim/cut.py") 452] }
noncomputable def ob195s : {o : Obj // mkF (inCls (stAt pwBody 12) 17) (fun a b sc => PySem.Obj.mk (PySem.Value.type "function") (Option.none) (PySem.Data.func (PySem.FuncData.mk (PySem.Str.ofString "zero") (PySem.Str.ofString "FQP.zero") a (PySem.FuncBody.stmts b) sc (3) ([]) (PySem.Value.none) (PySem.Value.none) (PySem.Value.none) (PySem.Value.str (PySem.Str.ofString "py_ecc.fields.optimized_field_elements") 311) (Option.none) (PySem.Value.ref 194) (PySem.Value.none) (0))) (#[])) = some o} := ⟨_, rfl⟩
noncomputable def ob195 : Obj := ob195s.1
noncomputable def ob196 : Obj := { cls := PySem.Value.type "tuple", data := PySem.Data.seq #[PySem.Value.str (PySem.Str.ofString "coeffs") 454, PySem.Value.str (PySem.Str.ofString "degree") 455, PySem.Value.str (PySem.Str.ofString "field_modulus") 456, PySem.Value.str (PySem.Str.ofString "mc_tuples") 457, PySem.Value.str (PySem.Str.ofString "modulus_coeffs") 458] }
noncomputable def ob197 (P : Params) : Obj := { cls := PySem.Value.type "dict", data := PySem.Data.dict #[{ hash := PySem.PyData.keyHash P (PySem.Str.ofString "__module__"), key := PySem.Value.str (PySem.Str.ofString "__module__") 320, val := PySem.Value.str (PySem.Str.ofString "py_ecc.fields.optimized_field_elements") 311 }, { hash := PySem.PyData.keyHash P (PySem.Str.ofString "__firstlineno__"), key := PySem.Value.str (PySem.Str.ofString "__firstlineno__") 324, val := PySem.Value.int 73 323 }, { hash := PySem.PyData.keyHash P (PySem.Str.ofString "__init__"), key := PySem.Value.str (PySem.Str.ofString "__init__") 330, val := PySem.Value.ref 89 }, { hash := PySem.PyData.keyHash P (PySem.Str.ofString "made"), key := PySem.Value.str (PySem.Str.ofString "made") 338, val := PySem.Value.ref 96 }, { hash := PySem.PyData.keyHash P (PySem.Str.ofString "__add__"), key := PySem.Value.str (PySem.Str.ofString "__add__") 344, val := PySem.Value.ref 101 }, { hash := PySem.PyData.keyHash P (PySem.Str.ofString "__sub__"), key := PySem.Value.str (PySem.Str.ofString "__sub__") 350, val := PySem.Value.ref 106 }, { hash := PySem.PyData.keyHash P (PySem.Str.ofString "__mod__"), key := PySem.Value.str (PySem.Str.ofString "__mod__") 358, val := PySem.Value.ref 113 }, { hash := PySem.PyData.keyHash P (PySem.Str.ofString "__mul__"), key := PySem.Value.str (PySem.Str.ofString "__mul__") 364, val := PySem.Value.ref 118 }, { hash := PySem.PyData.keyHash P (PySem.Str.ofString "__rmul__"), key := PySem.Value.str (PySem.Str.ofString "__rmul__") 372, val := PySem.Value.ref 125 }, { hash := PySem.PyData.keyHash P (PySem.Str.ofString "__truediv__"), key := PySem.Value.str (PySem.Str.ofString "__truediv__") 378, val := PySem.Value.ref 130 }, { hash := PySem.PyData.keyHash P (PySem.Str.ofString "__pow__"), key := PySem.Value.str (PySem.Str.ofString "__pow__") 388, val := PySem.Value.ref 137 }, { hash := PySem.PyData.keyHash P (PySem.Str.ofString "optimized_poly_rounded_div"), key := PySem.Value.str (PySem.Str.ofString "optimized_poly_rounded_div") 394, val := PySem.Value.ref 142 }, { hash := PySem.PyData.keyHash P (PySem.Str.ofString "inv"), key := PySem.Value.str (PySem.Str.ofString "inv") 400, val := PySem.Value.ref 147 }, { hash := PySem.PyData.keyHash P (PySem.Str.ofString "__repr__"), key := PySem.Value.str (PySem.Str.ofString "__repr__") 407, val := PySem.Value.ref 154 }, { hash := PySem.PyData.keyHash P (PySem.Str.ofString "__eq__"), key := PySem.Value.str (PySem.Str.ofString "__eq__") 417, val := PySem.Value.ref 161 }, { hash := PySem.PyData.keyHash P (PySem.Str.ofString "__ne__"), key := PySem.Value.str (PySem.Str.ofString "__ne__") 425, val := PySem.Value.ref 168 }, { hash := PySem.PyData.keyHash P (PySem.Str.ofString "__neg__"), key := PySem.Value.str (PySem.Str.ofString "__neg__") 431, val := PySem.Value.ref 173 }, { hash := PySem.PyData.keyHash P (PySem.Str.ofString "sgn0"), key := PySem.Value.str (PySem.Str.ofString "sgn0") 439, val := PySem.Value.ref 181 }, { hash := PySem.PyData.keyHash P (PySem.Str.ofString "one"), key := PySem.Value.str (PySem.Str.ofString "one") 446, val := PySem.Value.ref 188 }, { hash := PySem.PyData.keyHash P (PySem.Str.ofString "zero"), key := PySem.Value.str (PySem.Str.ofString "zero") 453, val := PySem.Value.ref 195 }, { hash := PySem.PyData.keyHash P (PySem.Str.ofString "__static_attributes__"), key := PySem.Value.str (PySem.Str.ofString "__static_attributes__") 459, val := PySem.Value.ref 196 }, { hash := PySem.PyData.keyHash P (PySem.Str.ofString "__dict__"), key := PySem.Value.str (PySem.Str.ofString "__dict__") 461, val := PySem.Value.ref 199 }, { hash := PySem.PyData.keyHash P (PySem.Str.ofString "__weakref__"), key := PySem.Value.str (PySem.Str.ofString "__weakref__") 463, val := PySem.Value.ref 200 }, { hash := PySem.PyData.keyHash P (PySem.Str.ofString "__doc__"), key := PySem.Value.str (PySem.Str.ofString "__doc__") 464, val := PySem.Value.none }, { hash := PySem.PyData.keyHash P (PySem.Str.ofString "__hash__"), key := PySem.Value.str (PySem.Str.ofString "__hash__") 465, val := PySem.Value.none }] 5 }
noncomputable def ob198 : Obj := { cls := PySem.Value.type "type", data := PySem.Data.cls { name := PySem.Str.ofString "FQP", bases := [PySem.Value.type "object"], mro := [PySem.Value.ref 198, PySem.Value.type "object"], ns := 197, qualname := PySem.Str.ofString "FQP", subclasses := [PySem.Value.ref 227] }, slots := #[Option.none, Option.none, Option.some (PySem.Value.str (PySem.Str.ofString "FQP") 313), Option.some (PySem.Value.str (PySem.Str.ofString "FQP") 321), Option.some (PySem.Value.builtin "object.__new__"), Option.some (PySem.Value.bool Bool.true)] }
noncomputable def ob199 : Obj := { cls := PySem.Value.type "getset_descriptor", data := PySem.Data.fields #[PySem.Value.str (PySem.Str.ofString "__dict__") 460, PySem.Value.ref 198, PySem.Value.builtin "function.__dict__", PySem.Value.builtin "function.__dict__#set"] }
noncomputable def ob200 : Obj := { cls := PySem.Value.type "getset_descriptor", data := PySem.Data.fields #[PySem.Value.str (PySem.Str.ofString "__weakref__") 462, PySem.Value.ref 198, PySem.Value.builtin "ExceptionGroup.__weakref__", PySem.Value.none] }
noncomputable def ob203 : Obj := { cls := PySem.Value.type "tuple", data := PySem.Data.seq #[PySem.Value.ref 198] }
noncomputable def ob210 : Obj := { cls := PySem.Value.type "tuple", data := PySem.Data.seq #[] }
noncomputable def ob212 : Obj := { cls := PySem.Value.type "tuple", data := PySem.Data.seq #[PySem.Value.str (PySem.Str.ofString "self") 483, PySem.Value.str (PySem.Str.ofString "coeffs") 484] }
noncomputable def ob213 : Obj := { cls := PySem.Value.type "tuple", data := PySem.Data.seq #[] }
noncomputable def ob215 : Obj := { cls := PySem.Value.type "code", data := PySem.Data.fields #[PySem.Value.str (PySem.Str.ofString "made") 480, PySem.Value.str (PySem.Str.ofString "FQ2.made") 481, PySem.Value.str (PySem.Str.ofString "/claim/cut.py") 482, PySem.Value.int 197 0, PySem.Value.int 2 0, PySem.Value.int 0 0, PySem.Value.int 0 0, PySem.Value.int 3 0, PySem.Value.ref 210, PySem.Value.bool Bool.true, PySem.Value.int 181 0, PySem.Value.ref 211, PySem.Value.none, PySem.Value.ref 212, PySem.Value.ref 213, PySem.Value.ref 214, PySem.Value.int 485 0, PySem.Value.int 197 0, PySem.Value.str (PySem.Str.ofString "/claim/cut.py") 486] }
noncomputable def ob216s : {o : Obj // mkF (inCls (stAt pwBody 13) 0) (fun a b sc => PySem.Obj.mk (PySem.Value.type "function") (Option.none) (PySem.Data.func (PySem.FuncData.mk (PySem.Str.ofString "made") (PySem.Str.ofString "FQ2.made") a (PySem.FuncBody.stmts b) sc (3) ([]) (PySem.Value.none) (PySem.Value.none) (PySem.Value.none) (PySem.Value.str (PySem.Str.ofString "py_ecc.fields.optimized_field_elements") 311) (Option.none) (PySem.Value.ref 215) (PySem.Value.none) (0))) (#[])) = some o} := ⟨_, rfl⟩
noncomputable def ob216 : Obj := ob216s.1
noncomputable def ob217 : Obj := { cls := PySem.Value.type "tuple", data := PySem.Data.seq #[] }
noncomputable def ob219 : Obj := { cls := PySem.Value.type "tuple", data := PySem.Data.seq #[PySem.Value.str (PySem.Str.ofString "self") 491] }
noncomputable def ob220 : Obj := { cls := PySem.Value.type "tuple", data := PySem.Data.seq #[] }
noncomputable def ob222 : Obj := { cls := PySem.Value.type "code", data := PySem.Data.fields #[PySem.Value.str (PySem.Str.ofString "sgn0") 488, PySem.Value.str (PySem.Str.ofString "FQ2.sgn0") 489, PySem.Value.str (PySem.Str.ofString "/claim/cut.py") 490, PySem.Value.int 200 0, PySem.Value.int 1 0, PySem.Value.int 0 0, PySem.Value.int 0 0, PySem.Value.int 3 0, PySem.Value.ref 217, PySem.Value.bool Bool.true, PySem.Value.int 181 0, PySem.Value.ref 218, PySem.Value.none, PySem.Value.ref 219, PySem.Value.ref 220, PySem.Value.ref 221, PySem.Value.int 492 0, PySem.Value.int 200 0, PySem.Value.str (PySem.Str.ofString "/claim/cut.py") 493] }
noncomputable def ob223s : {o : Obj // mkF (inCls (stAt pwBody 13) 1) (fun a b sc => PySem.Obj.mk (PySem.Value.type "function") (Option.none) (PySem.Data.func (PySem.FuncData.mk (PySem.Str.ofString "sgn0") (PySem.Str.ofString "FQ2.sgn0") a (PySem.FuncBody.stmts b) sc (3) ([]) (PySem.Value.none) (PySem.Value.none) (PySem.Value.none) (PySem.Value.str (PySem.Str.ofString "py_ecc.fields.optimized_field_elements") 311) (Option.none) (PySem.Value.ref 222) (PySem.Value.none) (0))) (#[])) = some o} := ⟨_, rfl⟩
noncomputable def ob223 : Obj := ob223s.1
noncomputable def ob224 : Obj := { cls := PySem.Value.type "property", data := PySem.Data.fields #[PySem.Value.ref 223, PySem.Value.none, PySem.Value.none, PySem.Value.none, PySem.Value.str (PySem.Str.ofString "sgn0") 495, PySem.Value.bool Bool.false] }
noncomputable def ob225 : Obj := { cls := PySem.Value.type "tuple", data := PySem.Data.seq #[] }
noncomputable def ob226 (P : Params) : Obj := { cls := PySem.Value.type "dict", data := PySem.Data.dict #[{ hash := PySem.PyData.keyHash P (PySem.Str.ofString "__module__"), key := PySem.Value.str (PySem.Str.ofString "__module__") 475, val := PySem.Value.str (PySem.Str.ofString "py_ecc.fields.optimized_field_elements") 311 }, { hash := PySem.PyData.keyHash P (PySem.Str.ofString "__firstlineno__"), key := PySem.Value.str (PySem.Str.ofString "__firstlineno__") 479, val := PySem.Value.int 195 478 }, { hash := PySem.PyData.keyHash P (PySem.Str.ofString "made"), key := PySem.Value.str (PySem.Str.ofString "made") 487, val := PySem.Value.ref 216 }, { hash := PySem.PyData.keyHash P (PySem.Str.ofString "sgn0"), key := PySem.Value.str (PySem.Str.ofString "sgn0") 495, val := PySem.Value.ref 224 }, { hash := PySem.PyData.keyHash P (PySem.Str.ofString "__static_attributes__"), key := PySem.Value.str (PySem.Str.ofString "__static_attributes__") 496, val := PySem.Value.ref 225 }, { hash := PySem.PyData.keyHash P (PySem.Str.ofString "__doc__"), key := PySem.Value.str (PySem.Str.ofString "__doc__") 497, val := PySem.Value.none }] 2 }
noncomputable def ob227 : Obj := { cls := PySem.Value.type "type", data := PySem.Data.cls { name := PySem.Str.ofString "FQ2", bases := [PySem.Value.ref 198], mro := [PySem.Value.ref 227, PySem.Value.ref 198, PySem.Value.type "object"], ns := 226, qualname := PySem.Str.ofString "FQ2" }, slots := #[Option.some (PySem.Value.ref 203), Option.none, Option.some (PySem.Value.str (PySem.Str.ofString "FQ2") 468), Option.some (PySem.Value.str (PySem.Str.ofString "FQ2") 476), Option.some (PySem.Value.builtin "object.__new__"), Option.some (PySem.Value.bool Bool.true)] }
noncomputable def ob230 : Obj := { cls := PySem.Value.type "tuple", data := PySem.Data.seq #[] }
noncomputable def ob232 : Obj := { cls := PySem.Value.type "tuple", data := PySem.Data.seq #[] }
noncomputable def ob233 : Obj := { cls := PySem.Value.type "tuple", data := PySem.Data.seq #[] }
noncomputable def ob235 : Obj := { cls := PySem.Value.type "code", data := PySem.Data.fields #[PySem.Value.str (PySem.Str.ofString "_law_great") 502, PySem.Value.str (PySem.Str.ofString "_law_great") 503, PySem.Value.str (PySem.Str.ofString "/claim/cut.py") 504, PySem.Value.int 204 0, PySem.Value.int 0 0, PySem.Value.int 0 0, PySem.Value.int 0 0, PySem.Value.int 3 0, PySem.Value.ref 230, PySem.Value.bool Bool.true, PySem.Value.int 181 0, PySem.Value.ref 231, PySem.Value.none, PySem.Value.ref 232, PySem.Value.ref 233, PySem.Value.ref 234, PySem.Value.int 505 0, PySem.Value.int 204 0, PySem.Value.str (PySem.Str.ofString "/claim/cut.py") 506] }
noncomputable def ob236s : {o : Obj // mkF (stAt pwBody 15) (fun a b sc => PySem.Obj.mk (PySem.Value.type "function") (Option.none) (PySem.Data.func (PySem.FuncData.mk (PySem.Str.ofString "_law_great") (PySem.Str.ofString "_law_great") a (PySem.FuncBody.stmts b) sc (3) ([]) (PySem.Value.none) (PySem.Value.none) (PySem.Value.none) (PySem.Value.str (PySem.Str.ofString "law_ll0049_01") 500) (Option.none) (PySem.Value.ref 235) (PySem.Value.none) (0))) (#[])) = some o} := ⟨_, rfl⟩
noncomputable def ob236 : Obj := ob236s.1
noncomputable def ob237 : Obj := { cls := PySem.Value.type "tuple", data := PySem.Data.seq #[] }
noncomputable def ob240 : Obj := { cls := PySem.Value.type "code", data := PySem.Data.fields #[PySem.Value.str (PySem.Str.ofString "_law_prime") 508, PySem.Value.str (PySem.Str.ofString "_law_prime") 509, PySem.Value.str (PySem.Str.ofString "/claim/cut.py") 510, PySem.Value.int 206 0, PySem.Value.int 1 0, PySem.Value.int 0 0, PySem.Value.int 0 0, PySem.Value.int 3 0, PySem.Value.ref 237, PySem.Value.bool Bool.true, PySem.Value.int 181 0, PySem.Value.ref 238, PySem.Value.none, PySem.Value.none, PySem.Value.none, PySem.Value.ref 239, PySem.Value.int 511 0, PySem.Value.int 206 0, PySem.Value.str (PySem.Str.ofString "/claim/cut.py") 512] }
noncomputable def ob241s : {o : Obj // mkF (stAt pwBody 16) (fun a b sc => PySem.Obj.mk (PySem.Value.type "function") (Option.none) (PySem.Data.func (PySem.FuncData.mk (PySem.Str.ofString "_law_prime") (PySem.Str.ofString "_law_prime") a (PySem.FuncBody.stmts b) sc (3) ([]) (PySem.Value.none) (PySem.Value.none) (PySem.Value.none) (PySem.Value.str (PySem.Str.ofString "law_ll0049_01") 500) (Option.none) (PySem.Value.ref 240) (PySem.Value.none) (0))) (#[])) = some o} := ⟨_, rfl⟩
noncomputable def ob241 : Obj := ob241s.1
noncomputable def ob242 : Obj := { cls := PySem.Value.type "tuple", data := PySem.Data.seq #[] }
noncomputable def ob244 : Obj := { cls := PySem.Value.type "tuple", data := PySem.Data.seq #[PySem.Value.str (PySem.Str.ofString "here") 517, PySem.Value.str (PySem.Str.ofString "there") 518, PySem.Value.str (PySem.Str.ofString "prime") 519] }
noncomputable def ob245 : Obj := { cls := PySem.Value.type "tuple", data := PySem.Data.seq #[] }
noncomputable def ob247 : Obj := { cls := PySem.Value.type "code", data := PySem.Data.fields #[PySem.Value.str (PySem.Str.ofString "_law_times") 514, PySem.Value.str (PySem.Str.ofString "_law_times") 515, PySem.Value.str (PySem.Str.ofString "/claim/cut.py") 516, PySem.Value.int 213 0, PySem.Value.int 3 0, PySem.Value.int 0 0, PySem.Value.int 0 0, PySem.Value.int 3 0, PySem.Value.ref 242, PySem.Value.bool Bool.true, PySem.Value.int 181 0, PySem.Value.ref 243, PySem.Value.none, PySem.Value.ref 244, PySem.Value.ref 245, PySem.Value.ref 246, PySem.Value.int 520 0, PySem.Value.int 213 0, PySem.Value.str (PySem.Str.ofString "/claim/cut.py") 521] }
noncomputable def ob248s : {o : Obj // mkF (stAt pwBody 17) (fun a b sc => PySem.Obj.mk (PySem.Value.type "function") (Option.none) (PySem.Data.func (PySem.FuncData.mk (PySem.Str.ofString "_law_times") (PySem.Str.ofString "_law_times") a (PySem.FuncBody.stmts b) sc (3) ([]) (PySem.Value.none) (PySem.Value.none) (PySem.Value.none) (PySem.Value.str (PySem.Str.ofString "law_ll0049_01") 500) (Option.none) (PySem.Value.ref 247) (PySem.Value.none) (0))) (#[])) = some o} := ⟨_, rfl⟩
noncomputable def ob248 : Obj := ob248s.1
noncomputable def ob249 : Obj := { cls := PySem.Value.type "tuple", data := PySem.Data.seq #[] }
noncomputable def ob251 : Obj := { cls := PySem.Value.type "tuple", data := PySem.Data.seq #[PySem.Value.str (PySem.Str.ofString "here") 526, PySem.Value.str (PySem.Str.ofString "there") 527, PySem.Value.str (PySem.Str.ofString "prime") 528] }
noncomputable def ob252 : Obj := { cls := PySem.Value.type "tuple", data := PySem.Data.seq #[] }
noncomputable def ob254 : Obj := { cls := PySem.Value.type "code", data := PySem.Data.fields #[PySem.Value.str (PySem.Str.ofString "_law_less") 523, PySem.Value.str (PySem.Str.ofString "_law_less") 524, PySem.Value.str (PySem.Str.ofString "/claim/cut.py") 525, PySem.Value.int 215 0, PySem.Value.int 3 0, PySem.Value.int 0 0, PySem.Value.int 0 0, PySem.Value.int 3 0, PySem.Value.ref 249, PySem.Value.bool Bool.true, PySem.Value.int 181 0, PySem.Value.ref 250, PySem.Value.none, PySem.Value.ref 251, PySem.Value.ref 252, PySem.Value.ref 253, PySem.Value.int 529 0, PySem.Value.int 215 0, PySem.Value.str (PySem.Str.ofString "/claim/cut.py") 530] }
noncomputable def ob255s : {o : Obj // mkF (stAt pwBody 18) (fun a b sc => PySem.Obj.mk (PySem.Value.type "function") (Option.none) (PySem.Data.func (PySem.FuncData.mk (PySem.Str.ofString "_law_less") (PySem.Str.ofString "_law_less") a (PySem.FuncBody.stmts b) sc (3) ([]) (PySem.Value.none) (PySem.Value.none) (PySem.Value.none) (PySem.Value.str (PySem.Str.ofString "law_ll0049_01") 500) (Option.none) (PySem.Value.ref 254) (PySem.Value.none) (0))) (#[])) = some o} := ⟨_, rfl⟩
noncomputable def ob255 : Obj := ob255s.1
noncomputable def ob256 : Obj := { cls := PySem.Value.type "tuple", data := PySem.Data.seq #[] }
noncomputable def ob258 : Obj := { cls := PySem.Value.type "tuple", data := PySem.Data.seq #[PySem.Value.str (PySem.Str.ofString "here") 535, PySem.Value.str (PySem.Str.ofString "prime") 536, PySem.Value.str (PySem.Str.ofString "back") 537] }
noncomputable def ob259 : Obj := { cls := PySem.Value.type "tuple", data := PySem.Data.seq #[] }
noncomputable def ob261 : Obj := { cls := PySem.Value.type "code", data := PySem.Data.fields #[PySem.Value.str (PySem.Str.ofString "_law_over") 532, PySem.Value.str (PySem.Str.ofString "_law_over") 533, PySem.Value.str (PySem.Str.ofString "/claim/cut.py") 534, PySem.Value.int 217 0, PySem.Value.int 2 0, PySem.Value.int 0 0, PySem.Value.int 0 0, PySem.Value.int 3 0, PySem.Value.ref 256, PySem.Value.bool Bool.true, PySem.Value.int 181 0, PySem.Value.ref 257, PySem.Value.none, PySem.Value.ref 258, PySem.Value.ref 259, PySem.Value.ref 260, PySem.Value.int 538 0, PySem.Value.int 217 0, PySem.Value.str (PySem.Str.ofString "/claim/cut.py") 539] }
noncomputable def ob262s : {o : Obj // mkF (stAt pwBody 19) (fun a b sc => PySem.Obj.mk (PySem.Value.type "function") (Option.none) (PySem.Data.func (PySem.FuncData.mk (PySem.Str.ofString "_law_over") (PySem.Str.ofString "_law_over") a (PySem.FuncBody.stmts b) sc (3) ([]) (PySem.Value.none) (PySem.Value.none) (PySem.Value.none) (PySem.Value.str (PySem.Str.ofString "law_ll0049_01") 500) (Option.none) (PySem.Value.ref 261) (PySem.Value.none) (0))) (#[])) = some o} := ⟨_, rfl⟩
noncomputable def ob262 : Obj := ob262s.1
noncomputable def ob263 : Obj := { cls := PySem.Value.type "tuple", data := PySem.Data.seq #[] }
noncomputable def ob265 : Obj := { cls := PySem.Value.type "tuple", data := PySem.Data.seq #[PySem.Value.str (PySem.Str.ofString "value") 544, PySem.Value.str (PySem.Str.ofString "prime") 545, PySem.Value.str (PySem.Str.ofString "half") 546, PySem.Value.str (PySem.Str.ofString "quarter") 547, PySem.Value.str (PySem.Str.ofString "length") 548, PySem.Value.str (PySem.Str.ofString "part") 549, PySem.Value.str (PySem.Str.ofString "first") 550, PySem.Value.str (PySem.Str.ofString "pair") 551] }
noncomputable def ob266 : Obj := { cls := PySem.Value.type "tuple", data := PySem.Data.seq #[] }
noncomputable def ob268 : Obj := { cls := PySem.Value.type "code", data := PySem.Data.fields #[PySem.Value.str (PySem.Str.ofString "_law_root") 541, PySem.Value.str (PySem.Str.ofString "_law_root") 542, PySem.Value.str (PySem.Str.ofString "/claim/cut.py") 543, PySem.Value.int 220 0, PySem.Value.int 2 0, PySem.Value.int 0 0, PySem.Value.int 0 0, PySem.Value.int 3 0, PySem.Value.ref 263, PySem.Value.bool Bool.true, PySem.Value.int 181 0, PySem.Value.ref 264, PySem.Value.none, PySem.Value.ref 265, PySem.Value.ref 266, PySem.Value.ref 267, PySem.Value.int 552 0, PySem.Value.int 220 0, PySem.Value.str (PySem.Str.ofString "/claim/cut.py") 553] }
noncomputable def ob269s : {o : Obj // mkF (stAt pwBody 20) (fun a b sc => PySem.Obj.mk (PySem.Value.type "function") (Option.none) (PySem.Data.func (PySem.FuncData.mk (PySem.Str.ofString "_law_root") (PySem.Str.ofString "_law_root") a (PySem.FuncBody.stmts b) sc (3) ([]) (PySem.Value.none) (PySem.Value.none) (PySem.Value.none) (PySem.Value.str (PySem.Str.ofString "law_ll0049_01") 500) (Option.none) (PySem.Value.ref 268) (PySem.Value.none) (0))) (#[])) = some o} := ⟨_, rfl⟩
noncomputable def ob269 : Obj := ob269s.1
noncomputable def ob270 : Obj := { cls := PySem.Value.type "tuple", data := PySem.Data.seq #[] }
noncomputable def ob272 : Obj := { cls := PySem.Value.type "tuple", data := PySem.Data.seq #[PySem.Value.str (PySem.Str.ofString "place") 558, PySem.Value.str (PySem.Str.ofString "shift") 559, PySem.Value.str (PySem.Str.ofString "prime") 560, PySem.Value.str (PySem.Str.ofString "cube") 561] }
noncomputable def ob273 : Obj := { cls := PySem.Value.type "tuple", data := PySem.Data.seq #[] }
noncomputable def ob275 : Obj := { cls := PySem.Value.type "code", data := PySem.Data.fields #[PySem.Value.str (PySem.Str.ofString "_law_cubed") 555, PySem.Value.str (PySem.Str.ofString "_law_cubed") 556, PySem.Value.str (PySem.Str.ofString "/claim/cut.py") 557, PySem.Value.int 231 0, PySem.Value.int 3 0, PySem.Value.int 0 0, PySem.Value.int 0 0, PySem.Value.int 3 0, PySem.Value.ref 270, PySem.Value.bool Bool.true, PySem.Value.int 181 0, PySem.Value.ref 271, PySem.Value.none, PySem.Value.ref 272, PySem.Value.ref 273, PySem.Value.ref 274, PySem.Value.int 562 0, PySem.Value.int 231 0, PySem.Value.str (PySem.Str.ofString "/claim/cut.py") 563] }
noncomputable def ob276s : {o : Obj // mkF (stAt pwBody 21) (fun a b sc => PySem.Obj.mk (PySem.Value.type "function") (Option.none) (PySem.Data.func (PySem.FuncData.mk (PySem.Str.ofString "_law_cubed") (PySem.Str.ofString "_law_cubed") a (PySem.FuncBody.stmts b) sc (3) ([]) (PySem.Value.none) (PySem.Value.none) (PySem.Value.none) (PySem.Value.str (PySem.Str.ofString "law_ll0049_01") 500) (Option.none) (PySem.Value.ref 275) (PySem.Value.none) (0))) (#[])) = some o} := ⟨_, rfl⟩
noncomputable def ob276 : Obj := ob276s.1
noncomputable def ob277 : Obj := { cls := PySem.Value.type "tuple", data := PySem.Data.seq #[] }
noncomputable def ob279 : Obj := { cls := PySem.Value.type "tuple", data := PySem.Data.seq #[PySem.Value.str (PySem.Str.ofString "number") 568, PySem.Value.str (PySem.Str.ofString "other") 569, PySem.Value.str (PySem.Str.ofString "shift") 570, PySem.Value.str (PySem.Str.ofString "prime") 571, PySem.Value.str (PySem.Str.ofString "place") 572, PySem.Value.str (PySem.Str.ofString "turn") 573, PySem.Value.str (PySem.Str.ofString "height") 574] }
noncomputable def ob280 : Obj := { cls := PySem.Value.type "tuple", data := PySem.Data.seq #[] }
noncomputable def ob282 : Obj := { cls := PySem.Value.type "code", data := PySem.Data.fields #[PySem.Value.str (PySem.Str.ofString "_law_point") 565, PySem.Value.str (PySem.Str.ofString "_law_point") 566, PySem.Value.str (PySem.Str.ofString "/claim/cut.py") 567, PySem.Value.int 234 0, PySem.Value.int 4 0, PySem.Value.int 0 0, PySem.Value.int 0 0, PySem.Value.int 3 0, PySem.Value.ref 277, PySem.Value.bool Bool.true, PySem.Value.int 181 0, PySem.Value.ref 278, PySem.Value.none, PySem.Value.ref 279, PySem.Value.ref 280, PySem.Value.ref 281, PySem.Value.int 575 0, PySem.Value.int 234 0, PySem.Value.str (PySem.Str.ofString "/claim/cut.py") 576] }
noncomputable def ob283s : {o : Obj // mkF (stAt pwBody 22) (fun a b sc => PySem.Obj.mk (PySem.Value.type "function") (Option.none) (PySem.Data.func (PySem.FuncData.mk (PySem.Str.ofString "_law_point") (PySem.Str.ofString "_law_point") a (PySem.FuncBody.stmts b) sc (3) ([]) (PySem.Value.none) (PySem.Value.none) (PySem.Value.none) (PySem.Value.str (PySem.Str.ofString "law_ll0049_01") 500) (Option.none) (PySem.Value.ref 282) (PySem.Value.none) (0))) (#[])) = some o} := ⟨_, rfl⟩
noncomputable def ob283 : Obj := ob283s.1
noncomputable def ob284 : Obj := { cls := PySem.Value.type "tuple", data := PySem.Data.seq #[] }
noncomputable def ob286 : Obj := { cls := PySem.Value.type "tuple", data := PySem.Data.seq #[PySem.Value.str (PySem.Str.ofString "point") 581, PySem.Value.str (PySem.Str.ofString "prime") 582] }
noncomputable def ob287 : Obj := { cls := PySem.Value.type "tuple", data := PySem.Data.seq #[] }
noncomputable def ob289 : Obj := { cls := PySem.Value.type "code", data := PySem.Data.fields #[PySem.Value.str (PySem.Str.ofString "_law_opposite") 578, PySem.Value.str (PySem.Str.ofString "_law_opposite") 579, PySem.Value.str (PySem.Str.ofString "/claim/cut.py") 580, PySem.Value.int 244 0, PySem.Value.int 2 0, PySem.Value.int 0 0, PySem.Value.int 0 0, PySem.Value.int 3 0, PySem.Value.ref 284, PySem.Value.bool Bool.true, PySem.Value.int 181 0, PySem.Value.ref 285, PySem.Value.none, PySem.Value.ref 286, PySem.Value.ref 287, PySem.Value.ref 288, PySem.Value.int 583 0, PySem.Value.int 244 0, PySem.Value.str (PySem.Str.ofString "/claim/cut.py") 584] }
noncomputable def ob290s : {o : Obj // mkF (stAt pwBody 23) (fun a b sc => PySem.Obj.mk (PySem.Value.type "function") (Option.none) (PySem.Data.func (PySem.FuncData.mk (PySem.Str.ofString "_law_opposite") (PySem.Str.ofString "_law_opposite") a (PySem.FuncBody.stmts b) sc (3) ([]) (PySem.Value.none) (PySem.Value.none) (PySem.Value.none) (PySem.Value.str (PySem.Str.ofString "law_ll0049_01") 500) (Option.none) (PySem.Value.ref 289) (PySem.Value.none) (0))) (#[])) = some o} := ⟨_, rfl⟩
noncomputable def ob290 : Obj := ob290s.1
noncomputable def ob291 : Obj := { cls := PySem.Value.type "tuple", data := PySem.Data.seq #[] }
noncomputable def ob293 : Obj := { cls := PySem.Value.type "tuple", data := PySem.Data.seq #[PySem.Value.str (PySem.Str.ofString "here") 589, PySem.Value.str (PySem.Str.ofString "there") 590, PySem.Value.str (PySem.Str.ofString "prime") 591, PySem.Value.str (PySem.Str.ofString "run") 592, PySem.Value.str (PySem.Str.ofString "climb") 593, PySem.Value.str (PySem.Str.ofString "square") 594, PySem.Value.str (PySem.Str.ofString "slope") 595, PySem.Value.str (PySem.Str.ofString "place") 596] }
noncomputable def ob294 : Obj := { cls := PySem.Value.type "tuple", data := PySem.Data.seq #[] }
noncomputable def ob296 : Obj := { cls := PySem.Value.type "code", data := PySem.Data.fields #[PySem.Value.str (PySem.Str.ofString "_law_sum") 586, PySem.Value.str (PySem.Str.ofString "_law_sum") 587, PySem.Value.str (PySem.Str.ofString "/claim/cut.py") 588, PySem.Value.int 246 0, PySem.Value.int 3 0, PySem.Value.int 0 0, PySem.Value.int 0 0, PySem.Value.int 3 0, PySem.Value.ref 291, PySem.Value.bool Bool.true, PySem.Value.int 181 0, PySem.Value.ref 292, PySem.Value.none, PySem.Value.ref 293, PySem.Value.ref 294, PySem.Value.ref 295, PySem.Value.int 597 0, PySem.Value.int 246 0, PySem.Value.str (PySem.Str.ofString "/claim/cut.py") 598] }
noncomputable def ob297s : {o : Obj // mkF (stAt pwBody 24) (fun a b sc => PySem.Obj.mk (PySem.Value.type "function") (Option.none) (PySem.Data.func (PySem.FuncData.mk (PySem.Str.ofString "_law_sum") (PySem.Str.ofString "_law_sum") a (PySem.FuncBody.stmts b) sc (3) ([]) (PySem.Value.none) (PySem.Value.none) (PySem.Value.none) (PySem.Value.str (PySem.Str.ofString "law_ll0049_01") 500) (Option.none) (PySem.Value.ref 296) (PySem.Value.none) (0))) (#[])) = some o} := ⟨_, rfl⟩
noncomputable def ob297 : Obj := ob297s.1
noncomputable def ob298 : Obj := { cls := PySem.Value.type "tuple", data := PySem.Data.seq #[] }
noncomputable def ob300 : Obj := { cls := PySem.Value.type "tuple", data := PySem.Data.seq #[PySem.Value.str (PySem.Str.ofString "pair") 603, PySem.Value.str (PySem.Str.ofString "prime") 604] }
noncomputable def ob301 : Obj := { cls := PySem.Value.type "tuple", data := PySem.Data.seq #[] }
noncomputable def ob303 : Obj := { cls := PySem.Value.type "code", data := PySem.Data.fields #[PySem.Value.str (PySem.Str.ofString "_law_made") 600, PySem.Value.str (PySem.Str.ofString "_law_made") 601, PySem.Value.str (PySem.Str.ofString "/claim/cut.py") 602, PySem.Value.int 258 0, PySem.Value.int 2 0, PySem.Value.int 0 0, PySem.Value.int 0 0, PySem.Value.int 3 0, PySem.Value.ref 298, PySem.Value.bool Bool.true, PySem.Value.int 181 0, PySem.Value.ref 299, PySem.Value.none, PySem.Value.ref 300, PySem.Value.ref 301, PySem.Value.ref 302, PySem.Value.int 605 0, PySem.Value.int 258 0, PySem.Value.str (PySem.Str.ofString "/claim/cut.py") 606] }
noncomputable def ob304s : {o : Obj // mkF (stAt pwBody 25) (fun a b sc => PySem.Obj.mk (PySem.Value.type "function") (Option.none) (PySem.Data.func (PySem.FuncData.mk (PySem.Str.ofString "_law_made") (PySem.Str.ofString "_law_made") a (PySem.FuncBody.stmts b) sc (3) ([]) (PySem.Value.none) (PySem.Value.none) (PySem.Value.none) (PySem.Value.str (PySem.Str.ofString "law_ll0049_01") 500) (Option.none) (PySem.Value.ref 303) (PySem.Value.none) (0))) (#[])) = some o} := ⟨_, rfl⟩
noncomputable def ob304 : Obj := ob304s.1
noncomputable def ob305 : Obj := { cls := PySem.Value.type "tuple", data := PySem.Data.seq #[] }
noncomputable def ob307 : Obj := { cls := PySem.Value.type "tuple", data := PySem.Data.seq #[PySem.Value.str (PySem.Str.ofString "point") 611, PySem.Value.str (PySem.Str.ofString "scale") 612, PySem.Value.str (PySem.Str.ofString "prime") 613, PySem.Value.str (PySem.Str.ofString "first") 614, PySem.Value.str (PySem.Str.ofString "second") 615] }
noncomputable def ob308 : Obj := { cls := PySem.Value.type "tuple", data := PySem.Data.seq #[] }
noncomputable def ob310 : Obj := { cls := PySem.Value.type "code", data := PySem.Data.fields #[PySem.Value.str (PySem.Str.ofString "_law_form") 608, PySem.Value.str (PySem.Str.ofString "_law_form") 609, PySem.Value.str (PySem.Str.ofString "/claim/cut.py") 610, PySem.Value.int 260 0, PySem.Value.int 3 0, PySem.Value.int 0 0, PySem.Value.int 0 0, PySem.Value.int 3 0, PySem.Value.ref 305, PySem.Value.bool Bool.true, PySem.Value.int 181 0, PySem.Value.ref 306, PySem.Value.none, PySem.Value.ref 307, PySem.Value.ref 308, PySem.Value.ref 309, PySem.Value.int 616 0, PySem.Value.int 260 0, PySem.Value.str (PySem.Str.ofString "/claim/cut.py") 617] }
noncomputable def ob311s : {o : Obj // mkF (stAt pwBody 26) (fun a b sc => PySem.Obj.mk (PySem.Value.type "function") (Option.none) (PySem.Data.func (PySem.FuncData.mk (PySem.Str.ofString "_law_form") (PySem.Str.ofString "_law_form") a (PySem.FuncBody.stmts b) sc (3) ([]) (PySem.Value.none) (PySem.Value.none) (PySem.Value.none) (PySem.Value.str (PySem.Str.ofString "law_ll0049_01") 500) (Option.none) (PySem.Value.ref 310) (PySem.Value.none) (0))) (#[])) = some o} := ⟨_, rfl⟩
noncomputable def ob311 : Obj := ob311s.1
noncomputable def ob312 : Obj := { cls := PySem.Value.type "tuple", data := PySem.Data.seq #[] }
noncomputable def ob315 : Obj := { cls := PySem.Value.type "code", data := PySem.Data.fields #[PySem.Value.str (PySem.Str.ofString "_law_reads") 619, PySem.Value.str (PySem.Str.ofString "_law_reads") 620, PySem.Value.str (PySem.Str.ofString "/claim/cut.py") 621, PySem.Value.int 265 0, PySem.Value.int 3 0, PySem.Value.int 0 0, PySem.Value.int 0 0, PySem.Value.int 3 0, PySem.Value.ref 312, PySem.Value.bool Bool.true, PySem.Value.int 181 0, PySem.Value.ref 313, PySem.Value.none, PySem.Value.none, PySem.Value.none, PySem.Value.ref 314, PySem.Value.int 622 0, PySem.Value.int 265 0, PySem.Value.str (PySem.Str.ofString "/claim/cut.py") 623] }
noncomputable def ob316s : {o : Obj // mkF (stAt pwBody 27) (fun a b sc => PySem.Obj.mk (PySem.Value.type "function") (Option.none) (PySem.Data.func (PySem.FuncData.mk (PySem.Str.ofString "_law_reads") (PySem.Str.ofString "_law_reads") a (PySem.FuncBody.stmts b) sc (3) ([]) (PySem.Value.none) (PySem.Value.none) (PySem.Value.none) (PySem.Value.str (PySem.Str.ofString "law_ll0049_01") 500) (Option.none) (PySem.Value.ref 315) (PySem.Value.none) (0))) (#[])) = some o} := ⟨_, rfl⟩
noncomputable def ob316 : Obj := ob316s.1
noncomputable def ob317 : Obj := { cls := PySem.Value.type "tuple", data := PySem.Data.seq #[] }
noncomputable def ob320 : Obj := { cls := PySem.Value.type "code", data := PySem.Data.fields #[PySem.Value.str (PySem.Str.ofString "law") 625, PySem.Value.str (PySem.Str.ofString "law") 626, PySem.Value.str (PySem.Str.ofString "/claim/cut.py") 627, PySem.Value.int 270 0, PySem.Value.int 1 0, PySem.Value.int 0 0, PySem.Value.int 0 0, PySem.Value.int 3 0, PySem.Value.ref 317, PySem.Value.bool Bool.true, PySem.Value.int 181 0, PySem.Value.ref 318, PySem.Value.none, PySem.Value.none, PySem.Value.none, PySem.Value.ref 319, PySem.Value.int 628 0, PySem.Value.int 270 0, PySem.Value.str (PySem.Str.ofString "/claim/cut.py") 629] }
noncomputable def ob321s : {o : Obj // mkF (stAt pwBody 28) (fun a b sc => PySem.Obj.mk (PySem.Value.type "function") (Option.none) (PySem.Data.func (PySem.FuncData.mk (PySem.Str.ofString "law") (PySem.Str.ofString "law") a (PySem.FuncBody.stmts b) sc (3) ([]) (PySem.Value.none) (PySem.Value.none) (PySem.Value.none) (PySem.Value.str (PySem.Str.ofString "law_ll0049_01") 500) (Option.none) (PySem.Value.ref 320) (PySem.Value.none) (0))) (#[])) = some o} := ⟨_, rfl⟩
noncomputable def ob321 : Obj := ob321s.1
noncomputable def KX (P : Params) : Frag := (nat_lit 2, ob2) :: (nat_lit 3, ob3 P) :: (nat_lit 15, ob15) :: (nat_lit 17, ob17) :: (nat_lit 18, ob18) :: (nat_lit 20, ob20) :: (nat_lit 21, ob21) :: (nat_lit 22, ob22) :: (nat_lit 24, ob24) :: (nat_lit 25, ob25) :: (nat_lit 27, ob27) :: (nat_lit 28, ob28) :: (nat_lit 29, ob29) :: (nat_lit 31, ob31) :: (nat_lit 32, ob32) :: (nat_lit 34, ob34) :: (nat_lit 35, ob35) :: (nat_lit 36, ob36) :: (nat_lit 38, ob38) :: (nat_lit 39, ob39) :: (nat_lit 41, ob41) :: (nat_lit 42, ob42) :: (nat_lit 43, ob43) :: (nat_lit 45, ob45) :: (nat_lit 46, ob46) :: (nat_lit 48, ob48) :: (nat_lit 49, ob49) :: (nat_lit 50, ob50) :: (nat_lit 52, ob52) :: (nat_lit 53, ob53) :: (nat_lit 55, ob55) :: (nat_lit 56, ob56) :: (nat_lit 57, ob57) :: (nat_lit 59, ob59) :: (nat_lit 60, ob60) :: (nat_lit 62, ob62) :: (nat_lit 63, ob63) :: (nat_lit 64, ob64) :: (nat_lit 66, ob66) :: (nat_lit 67, ob67) :: (nat_lit 69, ob69) :: (nat_lit 70, ob70) :: (nat_lit 71, ob71) :: (nat_lit 73, ob73) :: (nat_lit 74, ob74) :: (nat_lit 76, ob76) :: (nat_lit 77, ob77) :: (nat_lit 85, ob85) :: (nat_lit 88, ob88) :: (nat_lit 89, ob89) :: (nat_lit 90, ob90) :: (nat_lit 92, ob92) :: (nat_lit 93, ob93) :: (nat_lit 95, ob95) :: (nat_lit 96, ob96) :: (nat_lit 97, ob97) :: (nat_lit 100, ob100) :: (nat_lit 101, ob101) :: (nat_lit 102, ob102) :: (nat_lit 105, ob105) :: (nat_lit 106, ob106) :: (nat_lit 107, ob107) :: (nat_lit 109, ob109) :: (nat_lit 110, ob110) :: (nat_lit 112, ob112) :: (nat_lit 113, ob113) :: (nat_lit 114, ob114) :: (nat_lit 117, ob117) :: (nat_lit 118, ob118) :: (nat_lit 119, ob119) :: (nat_lit 121, ob121) :: (nat_lit 122, ob122) :: (nat_lit 124, ob124) :: (nat_lit 125, ob125) :: (nat_lit 126, ob126) :: (nat_lit 129, ob129) :: (nat_lit 130, ob130) :: (nat_lit 131, ob131) :: (nat_lit 133, ob133) :: (nat_lit 134, ob134) :: (nat_lit 136, ob136) :: (nat_lit 137, ob137) :: (nat_lit 138, ob138) :: (nat_lit 141, ob141) :: (nat_lit 142, ob142) :: (nat_lit 143, ob143) :: (nat_lit 146, ob146) :: (nat_lit 147, ob147) :: (nat_lit 148, ob148) :: (nat_lit 150, ob150) :: (nat_lit 151, ob151) :: (nat_lit 153, ob153) :: (nat_lit 154, ob154) :: (nat_lit 155, ob155) :: (nat_lit 157, ob157) :: (nat_lit 158, ob158) :: (nat_lit 160, ob160) :: (nat_lit 161, ob161) :: (nat_lit 162, ob162) :: (nat_lit 164, ob164) :: (nat_lit 165, ob165) :: (nat_lit 167, ob167) :: (nat_lit 168, ob168) :: (nat_lit 169, ob169) :: (nat_lit 172, ob172) :: (nat_lit 173, ob173) :: (nat_lit 174, ob174) :: (nat_lit 176, ob176) :: (nat_lit 177, ob177) :: (nat_lit 179, ob179) :: (nat_lit 180, ob180) :: (nat_lit 181, ob181) :: (nat_lit 182, ob182) :: (nat_lit 184, ob184) :: (nat_lit 185, ob185) :: (nat_lit 187, ob187) :: (nat_lit 188, ob188) :: (nat_lit 189, ob189) :: (nat_lit 191, ob191) :: (nat_lit 192, ob192) :: (nat_lit 194, ob194) :: (nat_lit 195, ob195) :: (nat_lit 196, ob196) :: (nat_lit 197, ob197 P) :: (nat_lit 198, ob198) :: (nat_lit 199, ob199) :: (nat_lit 200, ob200) :: (nat_lit 203, ob203) :: (nat_lit 210, ob210) :: (nat_lit 212, ob212) :: (nat_lit 213, ob213) :: (nat_lit 215, ob215) :: (nat_lit 216, ob216) :: (nat_lit 217, ob217) :: (nat_lit 219, ob219) :: (nat_lit 220, ob220) :: (nat_lit 222, ob222) :: (nat_lit 223, ob223) :: (nat_lit 224, ob224) :: (nat_lit 225, ob225) :: (nat_lit 226, ob226 P) :: (nat_lit 227, ob227) :: (nat_lit 230, ob230) :: (nat_lit 232, ob232) :: (nat_lit 233, ob233) :: (nat_lit 235, ob235) :: (nat_lit 236, ob236) :: (nat_lit 237, ob237) :: (nat_lit 240, ob240) :: (nat_lit 241, ob241) :: (nat_lit 242, ob242) :: (nat_lit 244, ob244) :: (nat_lit 245, ob245) :: (nat_lit 247, ob247) :: (nat_lit 248, ob248) :: (nat_lit 249, ob249) :: (nat_lit 251, ob251) :: (nat_lit 252, ob252) :: (nat_lit 254, ob254) :: (nat_lit 255, ob255) :: (nat_lit 256, ob256) :: (nat_lit 258, ob258) :: (nat_lit 259, ob259) :: (nat_lit 261, ob261) :: (nat_lit 262, ob262) :: (nat_lit 263, ob263) :: (nat_lit 265, ob265) :: (nat_lit 266, ob266) :: (nat_lit 268, ob268) :: (nat_lit 269, ob269) :: (nat_lit 270, ob270) :: (nat_lit 272, ob272) :: (nat_lit 273, ob273) :: (nat_lit 275, ob275) :: (nat_lit 276, ob276) :: (nat_lit 277, ob277) :: (nat_lit 279, ob279) :: (nat_lit 280, ob280) :: (nat_lit 282, ob282) :: (nat_lit 283, ob283) :: (nat_lit 284, ob284) :: (nat_lit 286, ob286) :: (nat_lit 287, ob287) :: (nat_lit 289, ob289) :: (nat_lit 290, ob290) :: (nat_lit 291, ob291) :: (nat_lit 293, ob293) :: (nat_lit 294, ob294) :: (nat_lit 296, ob296) :: (nat_lit 297, ob297) :: (nat_lit 298, ob298) :: (nat_lit 300, ob300) :: (nat_lit 301, ob301) :: (nat_lit 303, ob303) :: (nat_lit 304, ob304) :: (nat_lit 305, ob305) :: (nat_lit 307, ob307) :: (nat_lit 308, ob308) :: (nat_lit 310, ob310) :: (nat_lit 311, ob311) :: (nat_lit 312, ob312) :: (nat_lit 315, ob315) :: (nat_lit 316, ob316) :: (nat_lit 317, ob317) :: (nat_lit 320, ob320) :: (nat_lit 321, ob321) :: []
end Mine

end

end
section
open PySem PySem.W PyProof.Rows
set_option Elab.async false
set_option maxRecDepth 100000
set_option maxHeartbeats 8000000
namespace Mine
theorem ws : PySem.Challenge.rw_ll0049_01.wellSaid = true := by decide +kernel
noncomputable def viewX : Program := PySem.W.view PySem.Challenge.pw_ll0049_01 [0, 2, 3, 4, 5, 6, 7, 9, 10, 12, 13, 15, 16, 17, 18, 19, 20, 21, 22, 23, 24, 25, 26, 27, 28]
noncomputable def hkX : Hook := kmHook KX [2, 3, 15, 17, 18, 20, 21, 22, 24, 25, 27, 28, 29, 31, 32, 34, 35, 36, 38, 39, 41, 42, 43, 45, 46, 48, 49, 50, 52, 53, 55, 56, 57, 59, 60, 62, 63, 64, 66, 67, 69, 70, 71, 73, 74, 76, 77, 85, 88, 89, 90, 92, 93, 95, 96, 97, 100, 101, 102, 105, 106, 107, 109, 110, 112, 113, 114, 117, 118, 119, 121, 122, 124, 125, 126, 129, 130, 131, 133, 134, 136, 137, 138, 141, 142, 143, 146, 147, 148, 150, 151, 153, 154, 155, 157, 158, 160, 161, 162, 164, 165, 167, 168, 169, 172, 173, 174, 176, 177, 179, 180, 181, 182, 184, 185, 187, 188, 189, 191, 192, 194, 195, 196, 197, 198, 199, 200, 203, 210, 212, 213, 215, 216, 217, 219, 220, 222, 223, 224, 225, 226, 227, 230, 232, 233, 235, 236, 237, 240, 241, 242, 244, 245, 247, 248, 249, 251, 252, 254, 255, 256, 258, 259, 261, 262, 263, 265, 266, 268, 269, 270, 272, 273, 275, 276, 277, 279, 280, 282, 283, 284, 286, 287, 289, 290, 291, 293, 294, 296, 297, 298, 300, 301, 303, 304, 305, 307, 308, 310, 311, 312, 315, 316, 317, 320, 321] (fun _ => by kernel_rfl) [86]
noncomputable def topRunT (tb : String → Option Builtin) (p : Program) (w : World) (n₀ : Nat) (ann : Option Value) : Nat → SharedT → Thread → Option SharedT
  | 0, _, _ => none
  | n + 1, s, t => match through t with
    | true => some s
    | false => match stepOk n₀ ann t with
      | false => none
      | true => match stepT (denote tb) p w s t with
        | some (s', t') => topRunT tb p w n₀ ann n s' t'
        | none => none
theorem topRunT_of {tb : String → Option Builtin} {p : Program} {w : World} {n₀ : Nat} {ann : Option Value} : ∀ {n : Nat} {s s' : SharedT} {t : Thread}, topRunT tb p w n₀ ann n s t = some s' → topRun tb p w n₀ ann n s.abs t = some s'.abs
  | 0, _, _, _, h => by cases h
  | n + 1, s, s', t, h => by
    unfold topRunT at h
    unfold topRun
    cases ht : through t with
    | true => rw [ht] at h; cases h; rfl
    | false =>
      rw [ht] at h
      cases hk : stepOk n₀ ann t with
      | false => rw [hk] at h; cases h
      | true =>
        rw [hk] at h
        cases hs : stepT (denote tb) p w s t with
        | none => rw [hs] at h; cases h
        | some r => obtain ⟨s₂, t₂⟩ := r; rw [hs] at h; rw [stepT_spec hs]; exact topRunT_of h
noncomputable def treeOf : Nat → List Obj → BT → BT
  | _, [], t => t
  | i, o :: r, t => treeOf (i + 1) r (t.ins i o)
theorem leftTree {p q : Program} {loose : List Str} {Xt : Shared → Bool} {α : Type} {Yf : Shared → α} {Ya : World → α} {N : Nat} {g0 : Bool} {n₀ : Nat} {ann : Option Value} (e : opening p = plainProg p.main.scope.names) (hN : Nat.ble 600 N = true) (f : ∀ s, fenceModules? p s = some s)
    (hT : ∀ w : World, absHeap (treeOf 0 (boot_heap w.params).objs.toList .nil) n₀ (boot_heap w.params).life = boot_heap w.params)
    (size : ∀ w : World, ((boot_heap w.params).isNs mainGlobals && (Array.mk [] : Array GenState).size == 0, (boot_heap w.params).objs.size, (boot_heap w.params).nsMap mainGlobals "__annotations__") = (true, n₀, ann))
    (h : ∀ (w : World) (os : OsState), (topRunT treeTable p w n₀ ann N (SharedT.mk (treeOf 0 (boot_heap w.params).objs.toList .nil) n₀ (boot_heap w.params).life (Array.mk []) boot_drawn boot_toks os) (topStub p)).map (fun s =>
      (fun s₁ : Shared => ((staticsOk (importedModules p.main.body) (boot_heap w.params) s₁.heap && namesBound p s₁.heap && gensDone s₁ && laidKept (boot_heap w.params) s₁.heap), openSeen q loose (importedModules p.main.body) Xt g0 s₁, Yf s₁)) s.abs) = some (true, openGood q loose, Ya w)) : LeftO p q loose Xt Yf Ya N g0 := fun w => by
  obtain ⟨⟨h', gs, d, k, os⟩, e1, e2⟩ := Option.map_eq_some_iff.mp (boot_open e hN f w)
  obtain ⟨rfl, rfl, rfl, rfl⟩ : h' = boot_heap w.params ∧ gs = Array.mk [] ∧ d = boot_drawn ∧ k = boot_toks := by simpa using e2
  obtain ⟨z1, z2, z3⟩ : _ ∧ _ ∧ _ := by simpa only [Prod.mk.injEq] using size w
  obtain ⟨s, r, k⟩ := Option.map_eq_some_iff.mp (h w os)
  obtain ⟨l1, l2, l3⟩ : _ ∧ _ ∧ _ := by simpa only [Prod.mk.injEq] using k
  have r' := topRunT_of r
  unfold SharedT.abs at r'
  dsimp only at r'
  rw [hT w] at r'
  have t : topFrom treeTable p w N (Shared.mk (boot_heap w.params) (Array.mk []) boot_drawn boot_toks os) = some s.abs := by
    unfold topFrom
    dsimp only
    rw [z1, z2, z3, r']
    show (match staticsOk (importedModules p.main.body) (boot_heap w.params) s.abs.heap && namesBound p s.abs.heap && gensDone s.abs && laidKept (boot_heap w.params) s.abs.heap with | true => _ | false => _) = _
    rw [l1]
    rfl
  unfold openEnds
  rw [e1]
  show (topFrom treeTable p w N _).map _ = _
  rw [t]
  exact congrArg some (Prod.ext l2 l3)
theorem leftX : LeftO PySem.Challenge.rw_ll0049_01.row.prog viewX [Str.ofString "FQP", Str.ofString "FQ2"] (fun s => xlAt viewX [] s && recOk (RowW.records PySem.Challenge.rw_ll0049_01.row.toRowW) s) (Hook.obs hkX) (Hook.val hkX) 3966 true := by
  refine leftTree (n₀ := 11) (ann := some (.ref 6)) ?_ ?_ ?_ ?_ ?_ ?_
  · kernel_rfl
  · rfl
  · intro s
    rfl
  · intro w
    kernel_rfl
  · intro w
    kernel_rfl
  · intro w os
    kernel_rfl
end Mine

end
section
namespace Mine
open Lean.Grind
section R
variable {K : Type} [CommRing K]
/-- the line y = m x + c meets the curve y^2 = x^3 + s just at a, b, u; y, z stand over a, b -/
noncomputable def Ln (s m c a y b z u : K) : Prop :=
  y = m * a + c ∧ z = m * b + c ∧ a + b + u = m * m ∧ a * b + b * u + a * u = -(2 * m * c) ∧ a * b * u = c * c - s
noncomputable def OnE (s x y : K) : Prop := y * y = x * x * x + s
theorem Ln.symm {s m c a y b z u : K} (h : Ln s m c a y b z u) : Ln s m c b z a y u := by
  obtain ⟨h1, h2, h3, h4, h5⟩ := h
  exact ⟨h2, h1, by grind, by grind, by grind⟩
theorem Ln.rot {s m c a y b z u : K} (h : Ln s m c a y b z u) : Ln s m c a y u (m * u + c) b := by
  obtain ⟨h1, h2, h3, h4, h5⟩ := h
  exact ⟨h1, rfl, by grind, by grind, by grind⟩
theorem Ln.neg {s m c a y b z u : K} (h : Ln s m c a y b z u) : Ln s (-m) (-c) a (-y) b (-z) u := by
  obtain ⟨h1, h2, h3, h4, h5⟩ := h
  exact ⟨by rw [h1]; grind, by rw [h2]; grind, by rw [h3]; grind, by rw [h4]; grind, by rw [h5]; grind⟩
theorem lc2 {x y p q r t c d : K} (h1 : p = q) (h2 : r = t) (h : x - y = c * (p - q) + d * (r - t)) : x = y := by
  subst h1 h2; grind
theorem lc3 {x y p q r t v w c d e : K} (h1 : p = q) (h2 : r = t) (h3 : v = w) (h : x - y = c * (p - q) + d * (r - t) + e * (v - w)) : x = y := by
  subst h1 h2 h3; grind
theorem lc1 {x y p q c : K} (h1 : p = q) (h : x - y = c * (p - q)) : x = y := by
  subst h1; grind
theorem Ln.on {s m c a y b z u : K} (h : Ln s m c a y b z u) : OnE s a y := by
  obtain ⟨rfl, h2, h3, h4, h5⟩ := h
  exact lc3 (c := -(a * a)) (d := a) (e := -1) h3 h4 h5 (by grind)
theorem Ln.on3 {s m c a y b z u : K} (h : Ln s m c a y b z u) : OnE s u (-(m * u + c)) := by
  obtain ⟨h1, h2, h3, h4, h5⟩ := h
  exact lc3 (c := -(u * u)) (d := u) (e := -1) h3 h4 h5 (by grind)
theorem Ln.dbl {s m c a y z u : K} (h : Ln s m c a y a z u) : 3 * (a * a) = 2 * m * y := by
  obtain ⟨rfl, h2, h3, h4, h5⟩ := h
  exact lc2 (c := 2 * a) (d := -1) h3 h4 (by grind)
end R
section EC
variable {K : Type} [Field K]
theorem fcn {a t : K} (h : a ≠ 0) (e : a * t = 0) : t = 0 := by
  have h1 := Field.mul_inv_cancel h
  have h2 : t = a⁻¹ * (a * t) - (a * a⁻¹ - 1) * t := by grind
  rw [h2, e, h1]; grind
theorem ln_chord {s a y b z m : K} (h1 : OnE s a y) (h2 : OnE s b z) (hab : a ≠ b) (hm : m * (b - a) = z - y) : Ln s m (y - m * a) a y b z (m * m - a - b) := by
  unfold OnE at *
  have hd : b - a ≠ 0 := fun e => hab (lc1 (c := -1) e (by grind))
  have k : a * a + a * b + b * b - m * m * (a + b) - 2 * m * (y - m * a) = 0 := fcn hd (lc3 (c := -(z + y) - m * (b - a)) (d := -1) (e := 1) hm h2 h1 (by grind))
  refine ⟨by grind, by grind, by grind, lc1 (c := -1) k (by grind), lc2 (c := -1) (d := a) h1 k (by grind)⟩
theorem ln_tan {s a y m : K} (h1 : OnE s a y) (hm : 2 * m * y = 3 * (a * a)) : Ln s m (y - m * a) a y a y (m * m - a - a) := by
  unfold OnE at *
  refine ⟨by grind, by grind, by grind, lc1 (c := 1) hm (by grind), lc2 (c := -1) (d := -a) h1 hm (by grind)⟩
end EC
end Mine

end
section
set_option linter.unusedVariables false
namespace Mine
open Lean.Grind
section
variable {K : Type} [Field K]
noncomputable section
open Classical
/-- the sum that lines and tangents give -/
noncomputable def ksum : Option (K × K) → Option (K × K) → Option (K × K)
  | none, Q => Q
  | some P, none => some P
  | some (a, y), some (b, z) =>
    if a = b ∧ y = -z then none
    else
      let m := if a = b then 3 * (a * a) * (2 * y)⁻¹ else (z - y) * (b - a)⁻¹
      some (m * m - a - b, m * (a - (m * m - a - b)) - y)
noncomputable def kneg : Option (K × K) → Option (K × K)
  | none => none
  | some (a, y) => some (a, -y)
noncomputable def OnO (s : K) : Option (K × K) → Prop
  | none => True
  | some (a, y) => OnE s a y
end
theorem sq_eq {y z : K} (h : y * y = z * z) (hn : y ≠ -z) : y = z := by
  have h1 : y + z ≠ 0 := fun e => hn (lc1 (c := 1) e (by grind))
  have h2 : (y + z) * (y - z) = 0 := lc1 (c := 1) h (by grind)
  exact lc1 (c := 1) (fcn h1 h2) (by grind)
theorem two_y {y : K} (h2 : (2 : K) ≠ 0) (hy : y ≠ -y) : 2 * y ≠ 0 := fun e => hy (by
  exact lc1 (c := 1) e (by grind))
/-- the line through two points that are not opposite, and their sum -/
theorem ln_of {s a y b z : K} (h2 : (2 : K) ≠ 0) (h1 : OnE s a y) (h1' : OnE s b z) (hn : ¬ (a = b ∧ y = -z)) :
    ∃ m c u, Ln s m c a y b z u ∧ ksum (some (a, y)) (some (b, z)) = some (u, -(m * u + c)) := by
  by_cases hab : a = b
  · subst hab
    have hyz : y = z := sq_eq (by unfold OnE at *; exact h1.trans h1'.symm) (fun e => hn ⟨rfl, e⟩)
    subst hyz
    have hy : 2 * y ≠ 0 := two_y h2 (fun e => hn ⟨rfl, e⟩)
    have hi := Field.mul_inv_cancel hy
    refine ⟨3 * (a * a) * (2 * y)⁻¹, _, _, ln_tan h1 (lc1 (c := 3 * (a * a)) hi (by grind)), ?_⟩
    rw [ksum, if_neg hn]
    simp only [if_true, Option.some.injEq, Prod.mk.injEq]
    refine ⟨?_, ?_⟩ <;> first | trivial | grind
  · have hd : b - a ≠ 0 := fun e => hab (lc1 (c := -1) e (by grind))
    have hi := Field.mul_inv_cancel hd
    refine ⟨(z - y) * (b - a)⁻¹, _, _, ln_chord h1 h1' hab (lc1 (c := z - y) hi (by grind)), ?_⟩
    rw [ksum, if_neg hn]
    simp only [if_neg hab, Option.some.injEq, Prod.mk.injEq]
    refine ⟨?_, ?_⟩ <;> first | trivial | grind
theorem ln_uniq {s a y b z m c u m' c' u' : K} (h2 : (2 : K) ≠ 0) (hn : ¬ (a = b ∧ y = -z)) (h : Ln s m c a y b z u) (h' : Ln s m' c' a y b z u') : m = m' ∧ c = c' ∧ u = u' := by
  have hm : m = m' := by
    by_cases hab : a = b
    · subst hab
      have hyz : y = z := h.1.trans h.2.1.symm
      subst hyz
      have hy : 2 * y ≠ 0 := two_y h2 (fun e => hn ⟨rfl, e⟩)
      have d1 := h.dbl
      have d2 := h'.dbl
      have : 2 * y * (m - m') = 0 := lc2 (c := -1) (d := 1) d1 d2 (by grind)
      exact lc1 (c := 1) (fcn hy this) (by grind)
    · have hd : b - a ≠ 0 := fun e => hab (lc1 (c := -1) e (by grind))
      obtain ⟨e1, e2, _⟩ := h
      obtain ⟨e3, e4, _⟩ := h'
      have : (b - a) * (m - m') = 0 := by
        have t1 : m * a + c - (m' * a + c') = 0 := by rw [← e1, ← e3]; grind
        have t2 : m * b + c - (m' * b + c') = 0 := by rw [← e2, ← e4]; grind
        exact lc2 (c := -1) (d := 1) t1 t2 (by grind)
      exact lc1 (c := 1) (fcn hd this) (by grind)
  subst hm
  refine ⟨rfl, ?_, ?_⟩
  · have := h.1.symm.trans h'.1
    exact lc1 (c := 1) this (by grind)
  · have := h.2.2.1.trans h'.2.2.1.symm
    exact lc1 (c := 1) this (by grind)
theorem sum_of_ln {s m c a y b z u : K} (h2 : (2 : K) ≠ 0) (h : Ln s m c a y b z u) (hn : ¬ (a = b ∧ y = -z)) : ksum (some (a, y)) (some (b, z)) = some (u, -(m * u + c)) := by
  obtain ⟨m', c', u', h', e⟩ := ln_of h2 h.on h.symm.on hn
  obtain ⟨rfl, rfl, rfl⟩ := ln_uniq h2 hn h h'
  exact e
theorem ksum_none (P : Option (K × K)) : ksum P none = P := by cases P <;> rfl
theorem none_ksum (P : Option (K × K)) : ksum none P = P := rfl
theorem ksum_opp {a y b z : K} (h : a = b ∧ y = -z) : ksum (some (a, y)) (some (b, z)) = none := by rw [ksum, if_pos h]
theorem ksum_comm {s : K} (h2 : (2 : K) ≠ 0) : ∀ {P Q : Option (K × K)}, OnO s P → OnO s Q → ksum P Q = ksum Q P
  | none, Q, _, _ => by rw [ksum_none]; rfl
  | some (a, y), none, _, _ => rfl
  | some (a, y), some (b, z), hP, hQ => by
    by_cases hn : a = b ∧ y = -z
    · rw [ksum_opp hn, ksum_opp ⟨hn.1.symm, by rw [hn.2]; grind⟩]
    · obtain ⟨m, c, u, h, e⟩ := ln_of h2 hP hQ hn
      rw [e, sum_of_ln h2 h.symm (fun q => hn ⟨q.1.symm, by rw [q.2]; grind⟩)]
theorem ksum_on {s : K} (h2 : (2 : K) ≠ 0) : ∀ {P Q : Option (K × K)}, OnO s P → OnO s Q → OnO s (ksum P Q)
  | none, Q, _, hQ => hQ
  | some (a, y), none, hP, _ => hP
  | some (a, y), some (b, z), hP, hQ => by
    by_cases hn : a = b ∧ y = -z
    · rw [ksum_opp hn]; trivial
    · obtain ⟨m, c, u, h, e⟩ := ln_of h2 hP hQ hn
      rw [e]; exact h.on3
theorem kneg_on {s : K} : ∀ {P : Option (K × K)}, OnO s P → OnO s (kneg P)
  | none, _ => trivial
  | some (a, y), h => by
    have h' : y * y = a * a * a + s := h
    show -y * -y = a * a * a + s
    rw [← h']; grind
/-- -A + (A + C) = C -/
theorem ksum_cancel {s : K} (h2 : (2 : K) ≠ 0) (h3 : (3 : K) ≠ 0) (hs : s ≠ 0) : ∀ {A C : Option (K × K)}, OnO s A → OnO s C → ksum (kneg A) (ksum A C) = C
  | none, C, _, _ => rfl
  | some (a, y), none, _, _ => ksum_opp ⟨rfl, rfl⟩
  | some (a, y), some (b, z), hA, hC => by
    by_cases hn : a = b ∧ y = -z
    · rw [ksum_opp hn, ksum_none, kneg]
      rw [hn.1, hn.2]; congr 2; grind
    · obtain ⟨m, c, u, h, e⟩ := ln_of h2 hA hC hn
      rw [e, kneg]
      have hl : Ln s (-m) (-c) a (-y) u (-(m * u + c)) b := h.rot.neg
      have hn' : ¬ (a = u ∧ -y = -(-(m * u + c))) := by
        rintro ⟨rfl, e1⟩
        have ey : y = m * a + c := h.1
        have y0 : 2 * y = 0 := by
          have : -y = y := by rw [e1]; rw [ey]; grind
          exact lc1 (c := -1) this (by grind)
        have y0' : y = 0 := fcn h2 y0
        have d := h.rot.dbl
        have a0 : a * a = 0 := fcn h3 (by rw [d, y0']; grind)
        have a1 : a = 0 := Classical.byContradiction fun na => na (fcn na a0)
        have on : y * y = a * a * a + s := hA
        refine hs ?_
        rw [y0', a1] at on
        exact lc1 (c := -1) on (by grind)
      rw [sum_of_ln h2 hl hn']
      refine congrArg some (Prod.ext rfl ?_)
      show -(-m * b + -c) = z
      rw [h.2.1]; grind
end
end Mine

end
section
set_option linter.unusedVariables false
namespace Mine
open Lean.Grind
section R
variable {K : Type} [CommRing K]
theorem lc4 {x y p q r t v w p' q' c d e f : K} (h1 : p = q) (h2 : r = t) (h3 : v = w) (h4 : p' = q') (h : x - y = c * (p - q) + d * (r - t) + e * (v - w) + f * (p' - q')) : x = y := by
  subst h1 h2 h3 h4; grind
theorem lc6 {x y p q r t v w p' q' r' t' v' w' c d e f g h : K} (h1 : p = q) (h2 : r = t) (h3 : v = w) (h4 : p' = q') (h5 : r' = t') (h6 : v' = w') (hh : x - y = c * (p - q) + d * (r - t) + e * (v - w) + f * (p' - q') + g * (r' - t') + h * (v' - w')) : x = y := by
  subst h1 h2 h3 h4 h5 h6; grind
/-- the parabola y = al x^2 + be x + ga meets the curve at a, b, c and where al^2 x = k -/
noncomputable def Pb (s al be ga k a y b z c w : K) : Prop :=
  (y = al * a * a + be * a + ga ∧ z = al * b * b + be * b + ga ∧ w = al * c * c + be * c + ga) ∧
  1 - 2 * al * be = k + al * al * (a + b + c) ∧ be * be + 2 * al * ga = al * al * (a * b + b * c + a * c) + k * (a + b + c) ∧
  -(2 * be * ga) = al * al * (a * b * c) + k * (a * b + b * c + a * c) ∧ ga * ga - s = k * (a * b * c)
theorem Pb.swap {s al be ga k a y b z c w : K} (h : Pb s al be ga k a y b z c w) : Pb s al be ga k b z a y c w := by
  obtain ⟨⟨h1, h2, h3⟩, h4, h5, h6, h7⟩ := h
  exact ⟨⟨h2, h1, h3⟩, by rw [h4]; grind, by rw [h5]; grind, by rw [h6]; grind, by rw [h7]; grind⟩
theorem Pb.rot {s al be ga k a y b z c w : K} (h : Pb s al be ga k a y b z c w) : Pb s al be ga k b z c w a y := by
  obtain ⟨⟨h1, h2, h3⟩, h4, h5, h6, h7⟩ := h
  exact ⟨⟨h2, h3, h1⟩, by rw [h4]; grind, by rw [h5]; grind, by rw [h6]; grind, by rw [h7]; grind⟩
/-- a double point: the slope -/
theorem Pb.dbl {s al be ga k a y z c w : K} (h : Pb s al be ga k a y a z c w) : 3 * (a * a) = 2 * y * (2 * al * a + be) := by
  obtain ⟨⟨h1, h2, h3⟩, h4, h5, h6, h7⟩ := h
  subst h1
  exact lc3 (c := 3 * (a * a)) (d := -(2 * a)) (e := 1) h4 h5 h6 (by grind)
/-- a triple point: the bend -/
theorem Pb.tpl {s al be ga k a y z w : K} (h : Pb s al be ga k a y a z a w) : 3 * a = (2 * al * a + be) * (2 * al * a + be) + 2 * y * al := by
  obtain ⟨⟨h1, h2, h3⟩, h4, h5, h6, h7⟩ := h
  subst h1
  exact lc2 (c := 3 * a) (d := -1) h4 h5 (by grind)
end R
section
variable {K : Type} [Field K]
open Classical
theorem sub_ne {a b : K} (h : a ≠ b) : a - b ≠ 0 := fun e => h (lc1 (c := 1) e (by grind))
theorem eq_of_mul {a x y : K} (h : a ≠ 0) (e : a * x = a * y) : x = y := by
  have : a * (x - y) = 0 := lc1 (c := 1) e (by grind)
  exact lc1 (c := 1) (fcn h this) (by grind)
/-- what the three values say of al, be, ga: two parabolas with the same values at a, b, c -/
theorem Pb.uniq {s al be ga k al' be' ga' k' a y b z c w : K} (h2 : (2 : K) ≠ 0) (hab : ¬ (a = b ∧ y = -z)) (hbc : ¬ (b = c ∧ z = -w)) (hac : ¬ (a = c ∧ y = -w))
    (h : Pb s al be ga k a y b z c w) (h' : Pb s al' be' ga' k' a y b z c w) : al = al' ∧ be = be' ∧ ga = ga' ∧ k = k' := by
  -- one pair equal, the third apart
  have two : ∀ {a y c w : K}, ¬ (a = a ∧ y = -y) → a ≠ c → Pb s al be ga k a y a y c w → Pb s al' be' ga' k' a y a y c w → al = al' ∧ be = be' ∧ ga = ga' := fun {a y c w} hy hac h h' => by
    have y0 := two_y h2 (fun e => hy ⟨rfl, e⟩)
    have hd : 2 * al * a + be = 2 * al' * a + be' := eq_of_mul y0 (by rw [← h.dbl, ← h'.dbl])
    have v1 := h.1.1.symm.trans h'.1.1
    have v3 := h.1.2.2.symm.trans h'.1.2.2
    have d0 := sub_ne hac
    have ea : al = al' := by
      refine eq_of_mul d0 (eq_of_mul d0 ?_)
      exact lc3 (c := 1) (d := -1) (e := a - c) v3 v1 hd (by grind)
    subst ea
    have eb : be = be' := lc1 (c := 1) hd (by grind)
    subst eb
    exact ⟨rfl, rfl, lc1 (c := 1) v1 (by grind)⟩
  have main : al = al' ∧ be = be' ∧ ga = ga' := by
    have eqy : ∀ {a y z : K}, OnE s a y → OnE s a z → ¬ (a = a ∧ y = -z) → y = z := fun {a y z} p q n => sq_eq (by unfold OnE at p q; rw [p, q]) (fun e => n ⟨rfl, e⟩)
    by_cases e1 : a = b
    · subst e1
      have hyz : y = z := h.1.1.trans h.1.2.1.symm
      subst hyz
      by_cases e2 : a = c
      · subst e2
        have hyw : y = w := h.1.1.trans h.1.2.2.symm
        subst hyw
        have y0 := two_y h2 (fun e => hab ⟨rfl, e⟩)
        have hd : 2 * al * a + be = 2 * al' * a + be' := eq_of_mul y0 (by rw [← h.dbl, ← h'.dbl])
        have ea : al = al' := by
          refine eq_of_mul y0 ?_
          have t1 := h.tpl
          have t2 := h'.tpl
          rw [hd] at t1
          exact lc2 (c := -1) (d := 1) t1 t2 (by grind)
        subst ea
        have eb : be = be' := lc1 (c := 1) hd (by grind)
        subst eb
        have v1 := h.1.1.symm.trans h'.1.1
        exact ⟨rfl, rfl, lc1 (c := 1) v1 (by grind)⟩
      · exact two hab e2 h h'
    · by_cases e2 : a = c
      · subst e2
        have hyw : y = w := h.1.1.trans h.1.2.2.symm
        subst hyw
        exact two hac e1 h.rot.rot h'.rot.rot
      · by_cases e3 : b = c
        · subst e3
          have hzw : z = w := h.1.2.1.trans h.1.2.2.symm
          subst hzw
          exact two hbc (fun e => e1 e.symm) h.rot h'.rot
        · have v1 := h.1.1.symm.trans h'.1.1
          have v2 := h.1.2.1.symm.trans h'.1.2.1
          have v3 := h.1.2.2.symm.trans h'.1.2.2
          have d1 := sub_ne e1
          have d2 := sub_ne e2
          have d3 := sub_ne e3
          -- (a-b) (al (a+b) + be) agree, (a-c) (al (a+c) + be) agree
          have t1 : al * (a + b) + be = al' * (a + b) + be' := eq_of_mul d1 (lc2 (c := 1) (d := -1) v1 v2 (by grind))
          have t2 : al * (a + c) + be = al' * (a + c) + be' := eq_of_mul d2 (lc2 (c := 1) (d := -1) v1 v3 (by grind))
          have ea : al = al' := eq_of_mul d3 (lc2 (c := 1) (d := -1) t1 t2 (by grind))
          subst ea
          have eb : be = be' := lc1 (c := 1) t1 (by grind)
          subst eb
          exact ⟨rfl, rfl, lc1 (c := 1) v1 (by grind)⟩
  obtain ⟨rfl, rfl, rfl⟩ := main
  refine ⟨rfl, rfl, rfl, ?_⟩
  exact lc2 (c := -1) (d := 1) h.2.1 h'.2.1 (by grind)
/-- the sum of three points by their parabola: infinity, or the point below the fourth cut -/
noncomputable def Fp (al be ga k : K) : Option (K × K) := if al = 0 then none else some (k * (al * al)⁻¹, -(al * (k * (al * al)⁻¹) * (k * (al * al)⁻¹) + be * (k * (al * al)⁻¹) + ga))
theorem Fp_some {al be ga k d v : K} (h0 : al ≠ 0) (hk : k = al * al * d) (hv : v = -(al * d * d + be * d + ga)) : Fp al be ga k = some (d, v) := by
  have hi := Field.mul_inv_cancel (show al * al ≠ 0 from fun e => h0 (fcn h0 e))
  have e : k * (al * al)⁻¹ = d := by rw [hk]; exact lc1 (c := d) hi (by grind)
  rw [Fp, if_neg h0, e, hv]
/-- three points, no two opposite: a parabola (or line) goes through them, and gives their sum -/
theorem pb_of {s a y b z c w : K} (h2 : (2 : K) ≠ 0) (hA : OnE s a y) (hB : OnE s b z) (hC : OnE s c w) (hab : ¬ (a = b ∧ y = -z)) (hbc : ¬ (b = c ∧ z = -w)) (hac : ¬ (a = c ∧ y = -w)) :
    ∃ al be ga k, Pb s al be ga k a y b z c w ∧ ksum (ksum (some (a, y)) (some (b, z))) (some (c, w)) = Fp al be ga k := by
  obtain ⟨m, c0, u, h, e⟩ := ln_of h2 hA hB hab
  rw [e]
  by_cases hs : u = c ∧ -(m * u + c0) = -w
  · refine ⟨0, m, c0, 1, ?_, ?_⟩
    · obtain ⟨h1, h2', h3, h4, h5⟩ := h
      obtain ⟨rfl, ew⟩ := hs
      have ew' : w = m * u + c0 := by rw [show w = -(-w) by grind, ← ew]; grind
      refine ⟨⟨by rw [h1]; grind, by rw [h2']; grind, by rw [ew']; grind⟩, by grind, lc1 (c := -1) h3 (by grind), lc1 (c := -1) h4 (by grind), lc1 (c := -1) h5 (by grind)⟩
    · rw [ksum_opp hs, Fp, if_pos rfl]
  · obtain ⟨m', c', d, h', e'⟩ := ln_of h2 h.on3 hC hs
    rw [e']
    -- S = (u, -(m u + c0)) lies on the second line
    have hS : -(m * u + c0) = m' * u + c' := h'.1
    have hw := h'.2.1
    have hM : m + m' ≠ 0 := fun e0 => by
      have em : m' = -m := lc1 (c := 1) e0 (by grind)
      subst em
      have ec : c' = -c0 := by
        exact lc1 (c := -1) hS (by grind)
      subst ec
      obtain ⟨h1, h1', h3, h4, h5⟩ := h
      obtain ⟨_, _, h3', h4', h5'⟩ := h'
      have s1 : a + b = c + d := lc2 (c := 1) (d := -1) h3 h3' (by grind)
      have s2 : a * b = c * d := by
        have : a * b + (a + b) * u = c * d + (c + d) * u := lc2 (c := 1) (d := -1) h4 h4' (by grind)
        rw [s1] at this
        exact lc1 (c := 1) this (by grind)
      have s3 : (c - a) * (c - b) = 0 := lc2 (c := -c) (d := 1) s1 s2 (by grind)
      by_cases ca : c = a
      · exact hac ⟨ca.symm, by rw [h1, hw, ca]; grind⟩
      · have cb := fcn (sub_ne ca) s3
        have cb' : c = b := lc1 (c := 1) cb (by grind)
        exact hbc ⟨cb'.symm, by rw [h1', hw, cb']; grind⟩
    have hi := Field.mul_inv_cancel hM
    obtain ⟨al, hal⟩ : ∃ al, al = (m + m')⁻¹ := ⟨_, rfl⟩
    rw [← hal] at hi
    have hal0 : al ≠ 0 := fun e0 => by
      rw [e0] at hi
      exact Field.zero_ne_one (α := K) (lc1 (c := 1) hi (by grind))
    have ec' : c' = -(m * u + c0) - m' * u := lc1 (c := -1) hS (by grind)
    subst ec'
    obtain ⟨h1, h1', h3, h4, h5⟩ := h
    obtain ⟨_, _, h3', h4', h5'⟩ := h'
    obtain ⟨be, hbe⟩ : ∃ be, be = al * (u + m * m') := ⟨_, rfl⟩
    obtain ⟨ga, hga⟩ : ∃ ga, ga = al * (u * u + m * m' * u + m * (-(m * u + c0) - m' * u) + m' * c0) := ⟨_, rfl⟩
    have key : ∀ {x y : K}, (m + m') * y = x * x + (u + m * m') * x + (u * u + m * m' * u + m * (-(m * u + c0) - m' * u) + m' * c0) → y = al * x * x + be * x + ga := fun {x y} q => by
      rw [hbe, hga]
      exact lc2 (c := -y) (d := al) hi q (by grind)
    have mul : ∀ {x y : K}, (m + m') * (m + m') * x = (m + m') * (m + m') * y → x = y := fun {x y} q => by
      refine eq_of_mul hM (eq_of_mul hM ?_)
      exact lc1 (c := 1) q (by grind)
    refine ⟨al, be, ga, al * al * d, ⟨⟨?_, ?_, ?_⟩, ?_, ?_, ?_, ?_⟩, ?_⟩
    · refine key ?_
      rw [h1]
      exact lc2 (c := -(a + u)) (d := -1) h3 h4 (by grind)
    · refine key ?_
      rw [h1']
      exact lc2 (c := -(b + u)) (d := -1) h3 h4 (by grind)
    · refine key ?_
      rw [hw]
      exact lc2 (c := -(c + u)) (d := -1) h3' h4' (by grind)
    · rw [hbe]
      exact lc3 (c := -(al * al)) (d := -(al * al)) (e := -((m + m') * al + 1)) h3 h3' hi (by grind)
    · rw [hbe, hga]
      exact lc4 (c := -(al * al) * (c + d - u)) (d := -(al * al)) (e := -(al * al)) (f := -(al * al) * (m * m - 2 * u)) h3 h4 h4' h3' (by grind)
    · rw [hbe, hga]
      exact lc4 (c := -(al * al) * (-(2 * u * (c + d)) - 2 * m' * (-(m * u + c0) - m' * u))) (d := -(al * al) * (c + d)) (e := -(al * al) * (a + b)) (f := -(al * al) * (-(2 * u * (m * m - u)) - 2 * m * c0)) h3 h4 h4' h3' (by grind)
    · rw [hga]
      exact lc6 (c := al * al * u * ((m + m') * c0 + (u * u + m * m' * u + m * (-(m * u + c0) - m' * u) + m' * c0))) (d := -(al * al) * ((m + m') * c0 + (u * u + m * m' * u + m * (-(m * u + c0) - m' * u) + m' * c0))) (e := -(al * al) * (a * b)) (f := al * al * (a * b) * u) (g := -(al * al) * ((m + m') * (m + m'))) (h := ((m + m') * al + 1) * s)
        h3 h4 h4' h3' h5 hi (by grind)
    · refine (Fp_some hal0 rfl ?_).symm
      have := key (x := d) (y := m' * d + (-(m * u + c0) - m' * u)) (lc2 (c := -(d + u)) (d := -1) h3' h4' (by grind))
      rw [← this]
end
end Mine

end
section
set_option linter.unusedVariables false
namespace Mine
open Lean.Grind
section
variable {K : Type} [Field K]
open Classical
theorem opp_is {a y b z : K} (h : a = b ∧ y = -z) : some (a, y) = kneg (some (b, z)) := by rw [kneg, h.1, h.2]
theorem opp_symm {a y b z : K} (h : a = b ∧ y = -z) : b = a ∧ z = -y := ⟨h.1.symm, by rw [h.2]; grind⟩
theorem ksum_assoc {s : K} (h2 : (2 : K) ≠ 0) (h3 : (3 : K) ≠ 0) (hs : s ≠ 0) : ∀ {A B C : Option (K × K)}, OnO s A → OnO s B → OnO s C → ksum (ksum A B) C = ksum A (ksum B C)
  | none, B, C, _, _, _ => rfl
  | some (a, y), none, C, _, _, _ => by rw [ksum_none]; rfl
  | some (a, y), some (b, z), none, _, _, _ => by rw [ksum_none, ksum_none]
  | some (a, y), some (b, z), some (c, w), hA, hB, hC => by
    by_cases hab : a = b ∧ y = -z
    · rw [ksum_opp hab, none_ksum]
      have := ksum_cancel h2 h3 hs hB hC
      rw [← opp_is hab] at this
      exact this.symm
    by_cases hbc : b = c ∧ z = -w
    · rw [ksum_opp hbc, ksum_none, ksum_comm h2 (ksum_on h2 hA hB) hC, ksum_comm h2 hA hB, opp_is (opp_symm hbc)]
      exact ksum_cancel h2 h3 hs hB hA
    by_cases hac : a = c ∧ y = -w
    · rw [ksum_comm h2 (ksum_on h2 hA hB) hC, ksum_comm h2 hB hC]
      have t1 := ksum_cancel h2 h3 hs hA hB
      rw [← opp_is (opp_symm hac)] at t1
      have t2 := ksum_cancel h2 h3 hs hC hB
      rw [← opp_is hac] at t2
      rw [t1, t2]
    · obtain ⟨al, be, ga, k, p, e⟩ := pb_of h2 hA hB hC hab hbc hac
      obtain ⟨al', be', ga', k', p', e'⟩ := pb_of h2 hB hC hA hbc (fun q => hac (opp_symm q)) (fun q => hab (opp_symm q))
      obtain ⟨rfl, rfl, rfl, rfl⟩ := Pb.uniq h2 hab hbc hac p p'.rot.rot
      rw [e, ksum_comm h2 hA (ksum_on h2 hB hC), e']
end
end Mine

end
section
set_option linter.unusedVariables false
namespace Mine
noncomputable def ch : Nat → Nat → Nat
  | _, 0 => 1
  | 0, _ + 1 => 0
  | n + 1, k + 1 => ch n k + ch n (k + 1)
theorem ch_zero (n : Nat) : ch n 0 = 1 := by cases n <;> rfl
theorem ch_mul : ∀ n k, (k + 1) * ch (n + 1) (k + 1) = (n + 1) * ch n k
  | 0, 0 => rfl
  | 0, k + 1 => by simp [ch]
  | n + 1, 0 => by
    have h1 := ch_mul n 0
    have e : ch (n + 1 + 1) (0 + 1) = ch (n + 1) 0 + ch (n + 1) (0 + 1) := rfl
    rw [e]
    simp only [ch_zero, Nat.zero_add, Nat.one_mul, Nat.mul_one] at *
    omega
  | n + 1, k + 1 => by
    have h1 := ch_mul n k
    have h2 := ch_mul n (k + 1)
    rw [ch]
    have e : ch (n + 1) (k + 1) = ch n k + ch n (k + 1) := rfl
    calc (k + 1 + 1) * (ch (n + 1) (k + 1) + ch (n + 1) (k + 1 + 1))
        = ((k + 1) * ch (n + 1) (k + 1) + (k + 1 + 1) * ch (n + 1) (k + 1 + 1)) + ch (n + 1) (k + 1) := by grind
      _ = ((n + 1) * ch n k + (n + 1) * ch n (k + 1)) + ch (n + 1) (k + 1) := by rw [h1, h2]
      _ = (n + 1 + 1) * ch (n + 1) (k + 1) := by rw [e]; grind
theorem ch_big : ∀ n k, n < k → ch n k = 0
  | 0, k + 1, _ => rfl
  | n + 1, k + 1, h => by rw [ch, ch_big n k (by omega), ch_big n (k + 1) (by omega)]
theorem ch_self : ∀ n, ch n n = 1
  | 0 => rfl
  | n + 1 => by rw [ch, ch_self n, ch_big n (n + 1) (by omega)]
noncomputable def bs (a n : Nat) : Nat → Nat
  | 0 => 0
  | k + 1 => bs a n k + ch n k * a ^ k
theorem bs_succ (a n : Nat) : ∀ k, bs a (n + 1) (k + 1) = bs a n (k + 1) + a * bs a n k
  | 0 => by simp [bs, ch_zero]
  | k + 1 => by
    rw [bs, bs_succ a n k, bs.eq_2 a n (k + 1), bs.eq_2 a n k, ch]
    rw [Nat.pow_succ]; grind
theorem bs_full (a : Nat) : ∀ n, bs a n (n + 1) = (a + 1) ^ n
  | 0 => by simp [bs, ch]
  | n + 1 => by
    rw [bs_succ, bs, bs_full a n, ch_big n (n + 1) (by omega), Nat.pow_succ]; grind
structure Pr (p : Nat) : Prop where
  two : 2 ≤ p
  div : ∀ d, d ∣ p → d = 1 ∨ d = p
theorem Pr.cop {p k : Nat} (h : Pr p) (hk : ¬ p ∣ k) : Nat.Coprime p k := by
  have h1 := h.div (Nat.gcd p k) (Nat.gcd_dvd_left p k)
  rcases h1 with h1 | h1
  · exact h1
  · exact absurd (h1 ▸ Nat.gcd_dvd_right p k) hk
theorem Pr.mul {p a b : Nat} (h : Pr p) (hd : p ∣ a * b) : p ∣ a ∨ p ∣ b := by
  by_cases ha : p ∣ a
  · exact .inl ha
  · exact .inr ((h.cop ha).dvd_of_dvd_mul_left hd)
theorem Pr.ch {p k : Nat} (h : Pr p) (h0 : 0 < k) (hk : k < p) : p ∣ ch p k := by
  obtain ⟨n, rfl⟩ : ∃ n, p = n + 1 := ⟨p - 1, by have := h.two; omega⟩
  obtain ⟨j, rfl⟩ : ∃ j, k = j + 1 := ⟨k - 1, by omega⟩
  have e := ch_mul n j
  rcases h.mul (a := j + 1) (b := Mine.ch (n + 1) (j + 1)) ⟨_, e⟩ with h1 | h1
  · exact absurd (Nat.le_of_dvd (by omega) h1) (by omega)
  · exact h1
theorem bs_mod {p : Nat} (h : Pr p) (a : Nat) : ∀ k, k + 1 ≤ p → ∃ t, bs a p (k + 1) = 1 + p * t
  | 0, _ => ⟨0, by simp [bs, ch_zero]⟩
  | k + 1, hk => by
    obtain ⟨t, ht⟩ := bs_mod h a k (by omega)
    obtain ⟨c, hc⟩ := h.ch (k := k + 1) (by omega) (by omega)
    refine ⟨t + c * a ^ (k + 1), ?_⟩
    rw [bs, ht, hc]; grind
theorem frob {p : Nat} (h : Pr p) (a : Nat) : ∃ t, (a + 1) ^ p = a ^ p + 1 + p * t := by
  have h2 := h.two
  obtain ⟨t, ht⟩ := bs_mod h a (p - 1) (by omega)
  rw [show p - 1 + 1 = p by omega] at ht
  refine ⟨t, ?_⟩
  rw [← bs_full, bs, ht, ch_self]; grind
theorem fermat {p : Nat} (h : Pr p) : ∀ a, ∃ t, a ^ p = a + p * t
  | 0 => ⟨0, by have := h.two; rw [Nat.zero_pow (by omega), Nat.mul_zero]⟩
  | a + 1 => by
    obtain ⟨t, ht⟩ := fermat h a
    obtain ⟨t', ht'⟩ := frob h a
    exact ⟨t + t', by rw [ht', ht]; grind⟩
theorem fermat1 {p a : Nat} (h : Pr p) (ha : ¬ p ∣ a) : ∃ t, a ^ (p - 1) = 1 + p * t := by
  obtain ⟨t, ht⟩ := fermat h a
  have h2 := h.two
  have a0 : 0 < a := Nat.pos_of_ne_zero fun e => ha (e ▸ Nat.dvd_zero p)
  have e : a * a ^ (p - 1) = a + p * t := by rw [← ht, ← Nat.pow_succ', show (p - 1).succ = p by omega]
  have pos : 1 ≤ a ^ (p - 1) := Nat.pow_pos a0
  have d : p ∣ a * (a ^ (p - 1) - 1) := ⟨t, by rw [Nat.mul_sub, e]; omega⟩
  obtain ⟨c, hc⟩ := (h.cop ha).dvd_of_dvd_mul_left d
  exact ⟨c, by omega⟩
/-- powers that are 1 modulo r -/
noncomputable def One (r x e : Nat) : Prop := x ^ e % r = 1 % r
theorem One.mul {r x e : Nat} (h : One r x e) (k : Nat) : One r x (e * k) := by
  unfold One at *
  rw [Nat.pow_mul, Nat.pow_mod, h, ← Nat.pow_mod, Nat.one_pow]
theorem One.gcd {r x : Nat} : ∀ m n, One r x m → One r x n → One r x (Nat.gcd m n) := by
  intro m n
  induction m, n using Nat.gcd.induction with
  | H0 n => intro _ h; rwa [Nat.gcd_zero_left]
  | H1 m n hm ih =>
    intro h1 h2
    rw [Nat.gcd_rec]
    refine ih ?_ h1
    have e := Nat.div_add_mod n m
    have h3 := h1.mul (n / m)
    unfold One at *
    rw [← e, Nat.pow_add, Nat.mul_mod, h3, ← Nat.mul_mod, Nat.one_mul] at h2
    exact h2
theorem least_factor : ∀ n, 2 ≤ n → ∃ r, Pr r ∧ r ∣ n := by
  intro n
  induction n using Nat.strongRecOn with
  | _ n ih =>
    intro hn
    by_cases h : ∀ d, d ∣ n → d = 1 ∨ d = n
    · exact ⟨n, ⟨hn, h⟩, Nat.dvd_refl n⟩
    · obtain ⟨d, hd⟩ := Classical.not_forall.mp h
      have hd1 : d ∣ n := Classical.byContradiction fun q => hd fun q' => absurd q' q
      have hd2 : ¬ (d = 1 ∨ d = n) := fun q => hd fun _ => q
      have d0 : 0 < d := Nat.pos_of_dvd_of_pos hd1 (by omega)
      have dle := Nat.le_of_dvd (by omega) hd1
      obtain ⟨r, hr, hrd⟩ := ih d (by omega) (by omega)
      exact ⟨r, hr, Nat.dvd_trans hrd hd1⟩
/-- no factor up to the root: a prime -/
theorem pr_of_small {n : Nat} (h2 : 2 ≤ n) (h : ∀ d, 2 ≤ d → d * d ≤ n → ¬ d ∣ n) : Pr n := by
  refine ⟨h2, fun d hd => ?_⟩
  obtain ⟨e, he⟩ := hd
  by_cases d1 : d = 1
  · exact .inl d1
  by_cases e1 : e = 1
  · exact .inr (by rw [he, e1, Nat.mul_one])
  have d0 : d ≠ 0 := fun q => by rw [q, Nat.zero_mul] at he; omega
  have e0 : e ≠ 0 := fun q => by rw [q, Nat.mul_zero] at he; omega
  rcases Nat.le_total d e with q | q
  · exact absurd ⟨e, he⟩ (h d (by omega) (by rw [he]; exact Nat.mul_le_mul_left d q))
  · exact absurd ⟨d, by rw [he, Nat.mul_comm]⟩ (h e (by omega) (by rw [he]; exact Nat.mul_le_mul_right e q))
/-- every prime factor r of n leaves q dividing r - 1 -/
theorem pock_div {n q m x r : Nat} (hq : Pr q) (hn : 2 ≤ n) (hm : n - 1 = q * m) (h1 : One n x (n - 1)) (hg : Nat.gcd (x ^ m % n + (n - 1)) n = 1) (hr : Pr r) (hrn : r ∣ n) : q ∣ r - 1 := by
  have r2 := hr.two
  have modr : ∀ {a b : Nat}, a % n = b % n → a % r = b % r := fun {a b} e => by
    rw [← Nat.mod_mod_of_dvd a hrn, ← Nat.mod_mod_of_dvd b hrn, e]
  have o1 : One r (x ^ m) q := by
    unfold One
    rw [← Nat.pow_mul, Nat.mul_comm m q, ← hm]
    exact modr h1
  have nr : ¬ r ∣ x ^ m := fun q' => by
    have e : (x ^ m) ^ q % r = 0 := by
      have : r ∣ (x ^ m) ^ q := Nat.dvd_trans q' (Nat.dvd_trans (Nat.dvd_refl _) (by
        have hq0 : q = (q - 1) + 1 := by have := hq.two; omega
        rw [hq0, Nat.pow_succ]; exact Nat.dvd_mul_left _ _))
      exact Nat.mod_eq_zero_of_dvd this
    unfold One at o1
    rw [e, Nat.mod_eq_of_lt (by omega)] at o1
    omega
  obtain ⟨t, ht⟩ := fermat1 hr nr
  have o2 : One r (x ^ m) (r - 1) := by unfold One; rw [ht, Nat.add_mul_mod_self_left]
  have o3 := One.gcd _ _ o1 o2
  rcases hq.div _ (Nat.gcd_dvd_left q (r - 1)) with e | e
  · rw [e] at o3
    unfold One at o3
    rw [Nat.pow_one] at o3
    have dv : r ∣ x ^ m % n + (n - 1) := by
      refine Nat.dvd_of_mod_eq_zero ?_
      have e1 : (x ^ m % n) % r = 1 % r := by rw [Nat.mod_mod_of_dvd _ hrn]; exact o3
      rw [Nat.add_mod, e1, ← Nat.add_mod, show 1 + (n - 1) = n by omega]
      exact Nat.mod_eq_zero_of_dvd hrn
    have := Nat.dvd_gcd dv hrn
    rw [hg] at this
    have := Nat.le_of_dvd (by decide) this
    omega
  · exact e ▸ Nat.gcd_dvd_right q (r - 1)
theorem pock_end {n F : Nat} (hn : 2 ≤ n) (hbig : n < F * F) (H : ∀ r, Pr r → r ∣ n → F ∣ r - 1) : Pr n := by
  refine pr_of_small hn fun d d2 dd hd => ?_
  obtain ⟨r, hr, hrd⟩ := least_factor d d2
  have hrn := Nat.dvd_trans hrd hd
  have rle := Nat.le_of_dvd (by omega) hrd
  have rr : r * r ≤ n := Nat.le_trans (Nat.mul_le_mul rle rle) dd
  have r2 := hr.two
  have := Nat.le_of_dvd (by omega) (H r hr hrn)
  have : F * F ≤ r * r := Nat.mul_le_mul (by omega) (by omega)
  omega
/-- a power modulo n, quickly -/
noncomputable def pm : Nat → Nat → Nat → Nat → Nat
  | 0, _, _, _ => 1
  | f + 1, a, e, n => if e = 0 then 1 else if e % 2 = 1 then a * pm f (a * a % n) (e / 2) n % n else pm f (a * a % n) (e / 2) n % n
theorem pm_spec : ∀ f a e n, e < 2 ^ f → pm f a e n % n = a ^ e % n
  | 0, a, e, n, h => by
    have : e = 0 := by simpa using h
    rw [this]; rfl
  | f + 1, a, e, n, h => by
    rw [pm]
    by_cases h0 : e = 0
    · rw [if_pos h0, h0, Nat.pow_zero]
    rw [if_neg h0]
    have ih := pm_spec f (a * a % n) (e / 2) n (by rw [Nat.pow_succ] at h; omega)
    have sq : (a * a % n) ^ (e / 2) % n = a ^ (2 * (e / 2)) % n := by
      rw [← Nat.pow_mod, ← Nat.pow_two, ← Nat.pow_mul]
    by_cases h1 : e % 2 = 1
    · rw [if_pos h1, Nat.mod_mod, Nat.mul_mod, ih, sq, ← Nat.mul_mod, ← Nat.pow_succ']
      rw [show (2 * (e / 2)).succ = e by omega]
    · rw [if_neg h1, Nat.mod_mod, ih, sq]
      rw [show 2 * (e / 2) = e by omega]
/-- the test, by reckoning -/
theorem pock_dec {n q m x f : Nat} (hq : Pr q) (h : (decide (2 ≤ n) && decide (n - 1 = q * m) && decide (n < q * q) && decide (n < 2 ^ f) && decide (pm f x (n - 1) n % n = 1) && decide (Nat.gcd (pm f x m n % n + (n - 1)) n = 1)) = true) : Pr n := by
  simp only [Bool.and_eq_true, decide_eq_true_eq] at h
  obtain ⟨⟨⟨⟨⟨h1, h2⟩, h3⟩, h4⟩, h5⟩, h6⟩ := h
  have mlt : m < 2 ^ f := by
    have := hq.two
    have : m ≤ q * m := Nat.le_mul_of_pos_left m (by omega)
    omega
  refine pock_end h1 h3 fun r hr hrn => pock_div (x := x) hq h1 h2 ?_ ?_ hr hrn
  · unfold One
    rw [← pm_spec f x (n - 1) n (by omega), h5, Nat.mod_eq_of_lt (by omega)]
  · rw [← pm_spec f x m n mlt]; exact h6
theorem pock2_dec {n q m q2 m2 x f : Nat} (hq : Pr q) (hq2 : Pr q2)
    (h : (decide (2 ≤ n) && decide (n - 1 = q * m) && decide (n - 1 = q2 * m2) && decide (Nat.gcd q q2 = 1) && decide (n < (q * q2) * (q * q2)) && decide (n < 2 ^ f) && decide (pm f x (n - 1) n % n = 1) && decide (Nat.gcd (pm f x m n % n + (n - 1)) n = 1) && decide (Nat.gcd (pm f x m2 n % n + (n - 1)) n = 1)) = true) : Pr n := by
  simp only [Bool.and_eq_true, decide_eq_true_eq] at h
  obtain ⟨⟨⟨⟨⟨⟨⟨⟨h1, h2⟩, h2'⟩, hc⟩, h3⟩, h4⟩, h5⟩, h6⟩, h6'⟩ := h
  have mlt : m < 2 ^ f := by
    have := hq.two
    have : m ≤ q * m := Nat.le_mul_of_pos_left m (by omega)
    omega
  have mlt2 : m2 < 2 ^ f := by
    have := hq2.two
    have : m2 ≤ q2 * m2 := Nat.le_mul_of_pos_left m2 (by omega)
    omega
  have o : One n x (n - 1) := by
    unfold One
    rw [← pm_spec f x (n - 1) n (by omega), h5, Nat.mod_eq_of_lt (by omega)]
  refine pock_end h1 h3 fun r hr hrn => Nat.Coprime.mul_dvd_of_dvd_of_dvd hc (pock_div (x := x) hq h1 h2 o ?_ hr hrn) (pock_div (x := x) hq2 h1 h2' o ?_ hr hrn)
  · rw [← pm_spec f x m n mlt]; exact h6
  · rw [← pm_spec f x m2 n mlt2]; exact h6'
/-- small ones, by trial -/
noncomputable def trial (n : Nat) : Nat → Bool
  | 0 => true
  | k + 1 => (decide (k < 2) || !decide (n % k = 0)) && trial n k
theorem trial_spec {n : Nat} : ∀ k, trial n k = true → ∀ d, 2 ≤ d → d < k → ¬ d ∣ n
  | 0, _, d, _, h => absurd h (Nat.not_lt_zero d)
  | k + 1, h, d, h2, hd => by
    rw [trial, Bool.and_eq_true, Bool.or_eq_true] at h
    rcases Nat.lt_succ_iff_lt_or_eq.mp hd with q | q
    · exact trial_spec k h.2 d h2 q
    · subst q
      intro hdv
      rcases h.1 with h1 | h1
      · have := of_decide_eq_true h1; omega
      · simp only [Bool.not_eq_true', decide_eq_false_iff_not] at h1
        exact h1 (Nat.mod_eq_zero_of_dvd hdv)
theorem pr_trial {n k : Nat} (h : (decide (2 ≤ n) && decide (n < k * k) && trial n k) = true) : Pr n := by
  simp only [Bool.and_eq_true, decide_eq_true_eq] at h
  refine pr_of_small h.1.1 fun d d2 dd => trial_spec k h.2 d d2 ?_
  refine Classical.byContradiction fun q => ?_
  have := Nat.mul_le_mul (show k ≤ d by omega) (show k ≤ d by omega)
  omega
end Mine

end
section
set_option exponentiation.threshold 2000
namespace Mine
theorem certA : Pr 421987 := pr_trial (k := 650) (by decide +kernel)
theorem certB : Pr 13090036741 := pock_dec (q := 421987) (m := 31020) (x := 2) (f := 34) certA (by decide +kernel)
theorem certC : Pr 755057 := pr_trial (k := 869) (by decide +kernel)
theorem certD : Pr 3819663927398918131021 := pock2_dec (q := 13090036741) (m := 291799328220) (q2 := 755057) (m2 := 5058775598926860) (x := 2) (f := 72) certB certC (by decide +kernel)
theorem certE : Pr 1125266252156850182658904441386709967 := pock_dec (q := 3819663927398918131021) (m := 294598235223046) (x := 2) (f := 120) certD (by decide +kernel)
theorem certF : Pr 15778400344354997994418419698270088123916926905054652752758194827714659 := pock_dec (q := 1125266252156850182658904441386709967) (m := 14021926201120671579994175730661374) (x := 2) (f := 234) certE (by decide +kernel)
theorem certG : Pr 4002409555221667393417789825735904156556882819939007885332058136124031650490837864442687629129015664037894272559787 := pock_dec (q := 15778400344354997994418419698270088123916926905054652752758194827714659) (m := 253663835868735594330404923636534084567099854) (x := 2) (f := 381) certF (by decide +kernel)
theorem certH : Pr 3557 := pr_trial (k := 60) (by decide +kernel)
theorem certI : Pr 911 := pr_trial (k := 31) (by decide +kernel)
theorem certJ : Pr 1263766531 := pock2_dec (q := 3557) (m := 355290) (q2 := 911) (m2 := 1387230) (x := 2) (f := 31) certH certI (by decide +kernel)
theorem certK : Pr 35385462869 := pock_dec (q := 1263766531) (m := 28) (x := 2) (f := 36) certJ (by decide +kernel)
theorem certL : Pr 2480874801745591 := pock_dec (q := 35385462869) (m := 70110) (x := 2) (f := 52) certK (by decide +kernel)
theorem certM : Pr 13327 := pr_trial (k := 116) (by decide +kernel)
theorem certN : Pr 173171039 := pock_dec (q := 13327) (m := 12994) (x := 2) (f := 28) certM (by decide +kernel)
theorem certO : Pr 13427688667394608761327070753331941386769 := pock2_dec (q := 2480874801745591) (m := 5412481378724403979982448) (q2 := 173171039) (m2 := 77540036399473290457806115913712) (x := 2) (f := 134) certL certN (by decide +kernel)
theorem certP : Pr 21888242871839275222246405745257275088696311157297823662689037894645226208583 := pock_dec (q := 13427688667394608761327070753331941386769) (m := 1630082690626329392154177744477557478) (x := 2) (f := 254) certO (by decide +kernel)
end Mine

end
section
set_option linter.unusedVariables false
namespace Mine
open Lean.Grind
/-- pairs a + c i over a ring, i^2 = -1 -/
structure Gi (R : Type) where
  re : R
  im : R
theorem Gi.ext2 {R : Type} {a b : Gi R} (h1 : a.re = b.re) (h2 : a.im = b.im) : a = b := by
  cases a; cases b; cases h1; cases h2; rfl
section
variable {R : Type} [CommRing R]
noncomputable abbrev nC {R : Type} [CommRing R] (n : Nat) : R := @Nat.cast R Semiring.natCast n
noncomputable abbrev iC {R : Type} [CommRing R] (i : Int) : R := @Int.cast R Ring.intCast i
noncomputable def Gi.mulG (a b : Gi R) : Gi R := ⟨a.re * b.re - a.im * b.im, a.re * b.im + a.im * b.re⟩
noncomputable def Gi.powG (a : Gi R) : Nat → Gi R
  | 0 => ⟨nC (R := R) (1), 0⟩
  | n + 1 => Gi.mulG (Gi.powG a n) a
theorem nc0 : nC (R := R) (0) = 0 := Semiring.natCast_zero
theorem nc1 : nC (R := R) (1) = 1 := Semiring.natCast_one
theorem ncs (n : Nat) : nC (R := R) (n + 1) = nC (R := R) n + 1 := Semiring.natCast_succ n
theorem icneg (i : Int) : iC (R := R) (-i) = -iC (R := R) i := Ring.intCast_neg i
theorem icnat (n : Nat) : iC (R := R) (n : Int) = nC (R := R) n := Ring.intCast_natCast n
theorem icof (n : Nat) : iC (R := R) (OfNat.ofNat n) = nC (R := R) n := icnat n
noncomputable abbrev giRing (R : Type) [CommRing R] : CommRing (Gi R) where
  add a b := ⟨a.re + b.re, a.im + b.im⟩
  mul := Gi.mulG
  natCast := ⟨fun n => ⟨nC (R := R) n, 0⟩⟩
  ofNat n := ⟨⟨nC (R := R) n, 0⟩⟩
  nsmul := ⟨fun n a => Gi.mulG ⟨nC (R := R) n, 0⟩ a⟩
  npow := ⟨Gi.powG⟩
  add_zero a := Gi.ext2 (show a.re + nC (R := R) (0) = a.re by rw [nc0]; grind) (show a.im + 0 = a.im by grind)
  add_comm a b := Gi.ext2 (show a.re + b.re = b.re + a.re by grind) (show a.im + b.im = b.im + a.im by grind)
  add_assoc a b c := Gi.ext2 (show a.re + b.re + c.re = a.re + (b.re + c.re) by grind) (show a.im + b.im + c.im = a.im + (b.im + c.im) by grind)
  mul_assoc a b c := Gi.ext2 (show (a.re * b.re - a.im * b.im) * c.re - (a.re * b.im + a.im * b.re) * c.im = a.re * (b.re * c.re - b.im * c.im) - a.im * (b.re * c.im + b.im * c.re) by grind)
    (show (a.re * b.re - a.im * b.im) * c.im + (a.re * b.im + a.im * b.re) * c.re = a.re * (b.re * c.im + b.im * c.re) + a.im * (b.re * c.re - b.im * c.im) by grind)
  mul_one a := Gi.ext2 (show a.re * nC (R := R) (1) - a.im * 0 = a.re by rw [nc1]; grind) (show a.re * 0 + a.im * nC (R := R) (1) = a.im by rw [nc1]; grind)
  one_mul a := Gi.ext2 (show nC (R := R) (1) * a.re - 0 * a.im = a.re by rw [nc1]; grind) (show nC (R := R) (1) * a.im + 0 * a.re = a.im by rw [nc1]; grind)
  left_distrib a b c := Gi.ext2 (show a.re * (b.re + c.re) - a.im * (b.im + c.im) = (a.re * b.re - a.im * b.im) + (a.re * c.re - a.im * c.im) by grind)
    (show a.re * (b.im + c.im) + a.im * (b.re + c.re) = (a.re * b.im + a.im * b.re) + (a.re * c.im + a.im * c.re) by grind)
  right_distrib a b c := Gi.ext2 (show (a.re + b.re) * c.re - (a.im + b.im) * c.im = (a.re * c.re - a.im * c.im) + (b.re * c.re - b.im * c.im) by grind)
    (show (a.re + b.re) * c.im + (a.im + b.im) * c.re = (a.re * c.im + a.im * c.re) + (b.re * c.im + b.im * c.re) by grind)
  zero_mul a := Gi.ext2 (show nC (R := R) (0) * a.re - 0 * a.im = nC (R := R) (0) by rw [nc0]; grind) (show nC (R := R) (0) * a.im + 0 * a.re = 0 by rw [nc0]; grind)
  mul_zero a := Gi.ext2 (show a.re * nC (R := R) (0) - a.im * 0 = nC (R := R) (0) by rw [nc0]; grind) (show a.re * 0 + a.im * nC (R := R) (0) = 0 by rw [nc0]; grind)
  pow_zero a := rfl
  pow_succ a n := rfl
  ofNat_succ n := Gi.ext2 (show nC (R := R) (n + 1) = nC (R := R) n + nC (R := R) (1) by rw [ncs, nc1]) (show (0 : R) = 0 + 0 by grind)
  ofNat_eq_natCast n := rfl
  nsmul_eq_natCast_mul n a := rfl
  neg a := ⟨-a.re, -a.im⟩
  sub a b := ⟨a.re - b.re, a.im - b.im⟩
  intCast := ⟨fun i => ⟨iC (R := R) i, 0⟩⟩
  zsmul := ⟨fun i a => Gi.mulG ⟨iC (R := R) i, 0⟩ a⟩
  neg_add_cancel a := Gi.ext2 (show -a.re + a.re = nC (R := R) (0) by rw [nc0]; grind) (show -a.im + a.im = 0 by grind)
  sub_eq_add_neg a b := Gi.ext2 (show a.re - b.re = a.re + -b.re by grind) (show a.im - b.im = a.im + -b.im by grind)
  neg_zsmul i a := Gi.ext2 (show iC (R := R) (-i) * a.re - 0 * a.im = -(iC (R := R) i * a.re - 0 * a.im) by rw [icneg]; grind) (show iC (R := R) (-i) * a.im + 0 * a.re = -(iC (R := R) i * a.im + 0 * a.re) by rw [icneg]; grind)
  zsmul_natCast_eq_nsmul n a := Gi.ext2 (show iC (R := R) (n : Int) * a.re - 0 * a.im = nC (R := R) n * a.re - 0 * a.im by rw [icnat]) (show iC (R := R) (n : Int) * a.im + 0 * a.re = nC (R := R) n * a.im + 0 * a.re by rw [icnat])
  intCast_ofNat n := Gi.ext2 (show iC (R := R) (OfNat.ofNat n) = nC (R := R) n by rw [icof]) rfl
  intCast_neg i := Gi.ext2 (show iC (R := R) (-i) = -iC (R := R) i by rw [icneg]) (show (0 : R) = -0 by grind)
  mul_comm a b := Gi.ext2 (show a.re * b.re - a.im * b.im = b.re * a.re - b.im * a.im by grind) (show a.re * b.im + a.im * b.re = b.re * a.im + b.im * a.re by grind)
end
section
variable {K : Type} [CommRing K]
open Classical
/-- a ring whose elements unlike 0 have inverses is a field -/
noncomputable def invOf (K : Type) [CommRing K] (a : K) : K := if h : ∃ b, a * b = 1 then Classical.choose h else 0
theorem invOf_spec (H : ∀ a : K, a ≠ 0 → ∃ b, a * b = 1) {a : K} (h : a ≠ 0) : a * invOf K a = 1 := by
  unfold invOf
  rw [dif_pos (H a h)]
  exact Classical.choose_spec (H a h)
theorem invOf_zero (h01 : (0 : K) ≠ 1) : invOf K 0 = 0 := by
  unfold invOf
  rw [dif_neg]
  rintro ⟨b, hb⟩
  exact h01 (by rw [← hb]; grind)
theorem invOf_inv (H : ∀ a : K, a ≠ 0 → ∃ b, a * b = 1) (h01 : (0 : K) ≠ 1) (a : K) : invOf K (invOf K a) = a := by
  by_cases h : a = 0
  · rw [h, invOf_zero h01, invOf_zero h01]
  · have h1 := invOf_spec H h
    have h2 : invOf K a ≠ 0 := fun e => h01 (by rw [← h1, e]; grind)
    have h3 := invOf_spec H h2
    have : invOf K (invOf K a) = a * (invOf K a * invOf K (invOf K a)) + (1 - a * invOf K a) * invOf K (invOf K a) := by grind
    rw [this, h3, h1]; grind
theorem invOf_one (H : ∀ a : K, a ≠ 0 → ∃ b, a * b = 1) (h01 : (0 : K) ≠ 1) : invOf K 1 = 1 := by
  have := invOf_spec H (a := (1 : K)) (fun e => h01 e.symm)
  rw [← this]; grind
noncomputable def zpowOf (K : Type) [CommRing K] (a : K) : Int → K
  | .ofNat n => a ^ n
  | .negSucc n => invOf K (a ^ (n + 1))
noncomputable abbrev fieldOf (K : Type) [CommRing K] (H : ∀ a : K, a ≠ 0 → ∃ b, a * b = 1) (h01 : (0 : K) ≠ 1) : Field K where
  inv := invOf K
  div a b := a * invOf K b
  zpow := ⟨zpowOf K⟩
  div_eq_mul_inv a b := rfl
  zero_ne_one := h01
  inv_zero := invOf_zero h01
  mul_inv_cancel h := invOf_spec H h
  zpow_zero a := Semiring.pow_zero a
  zpow_succ a n := Semiring.pow_succ a n
  zpow_neg a n := by
    cases n with
    | ofNat n =>
      cases n with
      | zero => show zpowOf K a 0 = invOf K (zpowOf K a 0); show a ^ 0 = invOf K (a ^ 0); rw [Semiring.pow_zero, invOf_one H h01]
      | succ n => rfl
    | negSucc n => show a ^ (n + 1) = invOf K (invOf K (a ^ (n + 1))); rw [invOf_inv H h01]
end
end Mine

end
section
set_option linter.unusedVariables false
namespace Mine
open Lean.Grind
section
variable {n : Nat} [NeZero n]
theorem nC_val (k : Nat) : (nC (R := Fin n) k).val = k % n := rfl
theorem fin_nC (x : Fin n) : x = nC (R := Fin n) x.val := Fin.ext (by rw [nC_val, Nat.mod_eq_of_lt x.isLt])
theorem nC_zero {k : Nat} : nC (R := Fin n) k = 0 ↔ n ∣ k := by
  constructor
  · intro h
    have := congrArg Fin.val h
    rw [nC_val] at this
    exact Nat.dvd_of_mod_eq_zero (by rw [this]; rfl)
  · intro h
    exact Fin.ext (by rw [nC_val, Nat.mod_eq_zero_of_dvd h]; rfl)
theorem nC_mul (a b : Nat) : nC (R := Fin n) (a * b) = nC a * nC b := Semiring.natCast_mul a b
theorem nC_add (a b : Nat) : nC (R := Fin n) (a + b) = nC a + nC b := Semiring.natCast_add a b
theorem nC_pow (a b : Nat) : nC (R := Fin n) (a ^ b) = nC a ^ b := by
  induction b with
  | zero => rw [Nat.pow_zero, Semiring.pow_zero]; exact nc1
  | succ b ih => rw [Nat.pow_succ, nC_mul, ih, Semiring.pow_succ]
theorem fin_fermat (h : Pr n) {x : Fin n} (hx : x ≠ 0) : x ^ (n - 1) = 1 := by
  have hv : ¬ n ∣ x.val := fun q => hx (by rw [fin_nC x, nC_zero]; exact q)
  obtain ⟨t, ht⟩ := fermat1 h hv
  rw [fin_nC x, ← nC_pow, ht, nC_add, nC_mul, nC_zero.mpr (Nat.dvd_refl n), nc1]
  grind
theorem fin_01 (h : Pr n) : (0 : Fin n) ≠ 1 := fun e => by
  have e' : nC (R := Fin n) 1 = 0 := by rw [nc1, e]
  have := Nat.le_of_dvd (by decide) (nC_zero.mp e')
  have := h.two
  omega
theorem fin_inv (h : Pr n) {x : Fin n} (hx : x ≠ 0) : x * x ^ (n - 2) = 1 := by
  have h2 := h.two
  rw [← fin_fermat h hx, show n - 1 = (n - 2) + 1 by omega, Semiring.pow_succ, CommSemiring.mul_comm]
theorem fin_dom (h : Pr n) {x y : Fin n} (hx : x ≠ 0) (e : x * y = 0) : y = 0 := by
  have h1 := fin_inv h hx
  have : y = x ^ (n - 2) * (x * y) + (1 - x * x ^ (n - 2)) * y := by grind
  rw [this, e, h1]; grind
theorem pow_sq {R : Type} [CommRing R] (a : R) : ∀ k, (a * a) ^ k = a ^ (2 * k)
  | 0 => by rw [Semiring.pow_zero, Nat.mul_zero, Semiring.pow_zero]
  | k + 1 => by rw [Semiring.pow_succ, pow_sq a k, show 2 * (k + 1) = 2 * k + 1 + 1 by omega, Semiring.pow_succ, Semiring.pow_succ]; grind
theorem neg_pow_odd {R : Type} [CommRing R] (a b : R) (hb : b = -a) : ∀ k : Nat, b ^ (2 * k + 1) + a ^ (2 * k + 1) = 0
  | 0 => by rw [Nat.mul_zero, Semiring.pow_succ, Semiring.pow_zero, Semiring.pow_succ, Semiring.pow_zero, hb]; grind
  | k + 1 => by
    have ih := neg_pow_odd a b hb k
    have e : b ^ (2 * k + 1) = 0 - a ^ (2 * k + 1) := by rw [← ih]; grind
    rw [show 2 * (k + 1) + 1 = 2 * k + 1 + 1 + 1 by omega, Semiring.pow_succ, Semiring.pow_succ, e, Semiring.pow_succ a, Semiring.pow_succ a, hb]; grind
/-- -1 is no square -/
theorem fin_sq (h : Pr n) (h4 : n % 4 = 3) {a b : Fin n} (e : a * a + b * b = 0) : a = 0 ∧ b = 0 := by
  have h2 := h.two
  have key : ∀ {a b : Fin n}, a * a + b * b = 0 → b = 0 := fun {a b} e => Classical.byContradiction fun hb => by
    have ha : a ≠ 0 := fun q => hb (fin_dom h hb (by rw [q] at e; grind))
    have e1 : a * a = -(b * b) := by grind
    obtain ⟨k, hk⟩ : ∃ k, n - 1 = 2 * (2 * k + 1) := ⟨(n - 3) / 4, by omega⟩
    have f1 := fin_fermat h ha
    have f2 := fin_fermat h hb
    rw [hk, ← pow_sq] at f1 f2
    have f3 := neg_pow_odd (b * b) (a * a) e1 k
    rw [f1, f2] at f3
    have t2 : nC (R := Fin n) 2 = 0 := by
      rw [show (2 : Nat) = 1 + 1 from rfl, nC_add, nc1]
      exact f3
    have := Nat.le_of_dvd (by decide) (nC_zero.mp t2)
    omega
  exact ⟨key (a := b) (b := a) (by rw [← e]; grind), key e⟩
theorem gi_zero {a : Gi (Fin n)} : (letI := giRing (Fin n); a = 0) ↔ a.re = 0 ∧ a.im = 0 := by
  constructor
  · intro h
    rw [h]
    exact ⟨nc0, rfl⟩
  · intro h
    exact Gi.ext2 (h.1.trans nc0.symm) h.2
theorem gi_inv (h : Pr n) (h4 : n % 4 = 3) : letI := giRing (Fin n); ∀ a : Gi (Fin n), a ≠ 0 → ∃ b, a * b = 1 := by
  letI := giRing (Fin n)
  intro a ha
  have hN : a.re * a.re + a.im * a.im ≠ 0 := fun e => ha (gi_zero.mpr (fin_sq h h4 e))
  have hi := fin_inv h hN
  generalize (a.re * a.re + a.im * a.im) ^ (n - 2) = y at hi
  refine ⟨⟨a.re * y, -(a.im * y)⟩, Gi.ext2 ?_ ?_⟩
  · show a.re * (a.re * y) - a.im * (-(a.im * y)) = nC (R := Fin n) 1
    rw [nc1, ← hi]; grind
  · show a.re * (-(a.im * y)) + a.im * (a.re * y) = 0
    grind
theorem gi_01 (h : Pr n) : letI := giRing (Fin n); (0 : Gi (Fin n)) ≠ 1 := by
  letI := giRing (Fin n)
  intro e
  have := congrArg Gi.re e
  have e1 : nC (R := Fin n) 0 = nC (R := Fin n) 1 := this
  rw [nc0, nc1] at e1
  exact fin_01 h e1
noncomputable abbrev giField (h : Pr n) (h4 : n % 4 = 3) : Field (Gi (Fin n)) :=
  @fieldOf (Gi (Fin n)) (giRing (Fin n)) (gi_inv h h4) (gi_01 h)
end
end Mine

end
section
set_option linter.unusedVariables false
namespace Mine
open Lean.Grind
section
variable {K : Type} [Field K]
open Classical
/-- a triple stands for a point -/
noncomputable def RepK (X Y Z : K) : Option (K × K) → Prop
  | none => Z = 0 ∧ ¬ (X = 0 ∧ Y = 0)
  | some (x, y) => Z ≠ 0 ∧ x * Z = X ∧ y * Z = Y
theorem mul_ne {a b : K} (ha : a ≠ 0) (hb : b ≠ 0) : a * b ≠ 0 := fun e => hb (fcn ha e)
theorem eight {y : K} (h2 : (2 : K) ≠ 0) : (8 : K) ≠ 0 := fun e => mul_ne h2 (mul_ne h2 h2) (by rw [← e]; grind)
/-- the program's double -/
theorem dblK {s x y X Y Z W S B H : K} (h2 : (2 : K) ≠ 0) (h3 : (3 : K) ≠ 0) (hs : s ≠ 0) (h : OnE s x y) (r : RepK X Y Z (some (x, y)))
    (hW : W = 3 * X * X) (hS : S = Y * Z) (hB : B = X * Y * S) (hH : H = W * W - 8 * B) :
    RepK (2 * H * S) (W * (4 * B - H) - 8 * Y * Y * (S * S)) (8 * S * (S * S)) (ksum (some (x, y)) (some (x, y))) := by
  obtain ⟨hZ, rfl, rfl⟩ := r
  by_cases hy : y = -y
  · have y0 : 2 * y = 0 := lc1 (c := 1) hy (by grind)
    have y0' : y = 0 := fcn h2 y0
    rw [ksum_opp ⟨rfl, hy⟩]
    have S0 : S = 0 := by rw [hS, y0']; grind
    have B0 : B = 0 := by rw [hB, S0]; grind
    refine ⟨by rw [S0]; grind, fun q => ?_⟩
    have x0 : x ≠ 0 := fun e => hs (by
      have on : y * y = x * x * x + s := h
      rw [y0', e] at on
      exact lc1 (c := -1) on (by grind))
    have W0 : W ≠ 0 := by
      rw [hW]
      exact mul_ne (mul_ne h3 (mul_ne x0 hZ)) (mul_ne x0 hZ)
    refine mul_ne W0 (mul_ne W0 W0) ?_
    have := q.2
    rw [hH, B0, S0] at this
    exact lc1 (c := -1) this (by grind)
  · have hy2 := two_y h2 hy
    have yne : y ≠ 0 := fun e => hy2 (by rw [e]; grind)
    have hi := Field.mul_inv_cancel hy2
    rw [ksum, if_neg (fun q => hy q.2)]
    simp only [if_true]
    generalize (2 * y)⁻¹ = t at hi
    have S0 : S ≠ 0 := by rw [hS]; exact mul_ne (mul_ne yne hZ) hZ
    refine ⟨mul_ne (mul_ne (eight (y := y) h2) S0) (mul_ne S0 S0), ?_, ?_⟩
    · rw [hH, hB, hW, hS]
      exact lc1 (c := 18 * (x * x * x * x) * y * (Z * Z * Z * Z * Z * Z) * (2 * y * t + 1)) hi (by grind)
    · rw [hH, hB, hW, hS]
      exact lc1 (c := (12 * x * x * x * y * y - 27 * (x * x * x * x * x * x) * 1) * (Z * Z * Z * Z * Z * Z) * 1) hi (by grind)
/-- the program's sum of points over unlike places -/
theorem addK {x1 y1 x2 y2 X1 Y1 Z1 X2 Y2 Z2 U V V2 U2 W A : K} (r1 : RepK X1 Y1 Z1 (some (x1, y1))) (r2 : RepK X2 Y2 Z2 (some (x2, y2))) (hx : x1 ≠ x2)
    (hU : U = Y2 * Z1 - Y1 * Z2) (hV : V = X2 * Z1 - X1 * Z2) (hV2 : V2 = X1 * Z2) (hU2 : U2 = Y1 * Z2) (hW : W = Z1 * Z2) (hA : A = U * U * W - V * (V * V) - 2 * (V * V * V2)) :
    RepK (V * A) (U * (V * V * V2 - A) - V * (V * V) * U2) (V * (V * V) * W) (ksum (some (x1, y1)) (some (x2, y2))) := by
  obtain ⟨hZ1, rfl, rfl⟩ := r1
  obtain ⟨hZ2, rfl, rfl⟩ := r2
  have hd : x2 - x1 ≠ 0 := sub_ne (fun e => hx e.symm)
  have hi := Field.mul_inv_cancel hd
  rw [ksum, if_neg (fun q => hx q.1)]
  simp only [if_neg hx]
  generalize (x2 - x1)⁻¹ = t at hi
  have eV : V = (x2 - x1) * (Z1 * Z2) := by rw [hV]; grind
  have eU : U = (y2 - y1) * (Z1 * Z2) := by rw [hU]; grind
  have V0 : V ≠ 0 := by rw [eV]; exact mul_ne hd (mul_ne hZ1 hZ2)
  -- m = (y2 - y1) t, with m (x2 - x1) = y2 - y1
  obtain ⟨m, hm⟩ : ∃ m, m = (y2 - y1) * t := ⟨_, rfl⟩
  have em : y2 - y1 = m * (x2 - x1) := by rw [hm]; exact lc1 (c := -(y2 - y1)) hi (by grind)
  rw [← hm]
  rw [em] at eU
  refine ⟨mul_ne (mul_ne V0 (mul_ne V0 V0)) (by rw [hW]; exact mul_ne hZ1 hZ2), ?_, ?_⟩
  · rw [hA, hV2, eV, eU, hW]; grind
  · rw [hA, hV2, hU2, eV, eU, hW]; grind
theorem repK_eq {X1 Y1 Z1 X2 Y2 Z2 : K} : ∀ {P Q : Option (K × K)}, RepK X1 Y1 Z1 P → RepK X2 Y2 Z2 Q → ((X1 * Z2 = X2 * Z1 ∧ Y1 * Z2 = Y2 * Z1) ↔ P = Q)
  | none, none, h, h' => ⟨fun _ => rfl, fun _ => by rw [h.1, h'.1]; exact ⟨by grind, by grind⟩⟩
  | none, some (x, y), h, h' => ⟨fun q => absurd ⟨fcn h'.1 (by rw [CommSemiring.mul_comm, q.1, h.1]; grind), fcn h'.1 (by rw [CommSemiring.mul_comm, q.2, h.1]; grind)⟩ h.2, nofun⟩
  | some (x, y), none, h, h' => ⟨fun q => absurd ⟨fcn h.1 (by rw [CommSemiring.mul_comm, ← q.1, h'.1]; grind), fcn h.1 (by rw [CommSemiring.mul_comm, ← q.2, h'.1]; grind)⟩ h'.2, nofun⟩
  | some (x, y), some (x', y'), h, h' => by
    obtain ⟨h1, rfl, rfl⟩ := h
    obtain ⟨h2, rfl, rfl⟩ := h'
    constructor
    · rintro ⟨q1, q2⟩
      have e1 : x = x' := eq_of_mul (mul_ne h1 h2) (lc1 (c := 1) q1 (by grind))
      have e2 : y = y' := eq_of_mul (mul_ne h1 h2) (lc1 (c := 1) q2 (by grind))
      rw [e1, e2]
    · intro e
      injection e with e
      injection e with e1 e2
      subst e1 e2
      exact ⟨by grind, by grind⟩
theorem repK_curve {s X Y Z : K} : ∀ {P : Option (K × K)}, OnO s P → RepK X Y Z P → Z = 0 ∨ 1 * (Y * Y) * Z - (1 * X) * (X * X) = s * ((1 * Z) * (Z * Z))
  | none, _, h => .inl h.1
  | some (x, y), on, h => .inr (by
    obtain ⟨h1, rfl, rfl⟩ := h
    have e : y * y = x * x * x + s := on
    exact lc1 (c := Z * Z * Z) e (by grind))
end
end Mine

end
section
open PySem PySem.W PySem.Spec PySem.Calls PyProof.Rows PyProof.Rows.LCg
set_option Elab.async false
set_option maxRecDepth 100000
set_option maxHeartbeats 400000
namespace Mine
noncomputable abbrev Led := List (Addr × Obj)

section enter
variable {prog : Program} {w : World} {A₀ A : Around} {s : Shared} {base h₀ : Heap} {outer : List Env} {L : Addr} {m : Str → Option Value} {env : Env} {sub : Led}
  {R : Result → Shared → Prop} {name qual : Str} {params : Arguments} {body : List Stmt} {scope : Scope} {dV kV doc pm cdv ct oc : Value} {an od : Option Addr} {osl : Array (Option Value)} {f : Addr} {args : Args} {binds : List (Str × Value)} {K : Frag} {p : Program} {loose : List Str} {mean : ExcName → Option Value} {mg mb : Str → Option Value}

/-- a def with cells, entered with a part of the ledger: what is not in that part lies in the new base -/
theorem code_subC (B : Below A₀ base outer h₀) (F : Fr h₀ L s.heap m) (X₀ : K.In h₀) (N : News h₀ L s.heap sub) (T : Top p loose mean mg mb h₀) (hA : A.frames = some (env :: outer)) (hf : env.frame = some L) (hke : env.scope.kind = .function)
    (ho : K.lookup f = some ⟨oc, od, .func (fnOf name qual params body scope dV kV doc pm an cdv ct), osl⟩) (hcd : codeIn K cdv qual = true) (hroom : A.depth < recursionLimit)
    (hbind : BindsTo s (fnOf name qual params body scope dV kV doc pm an cdv ct) args binds) (hkind : (binds.all fun y => scope.names.lookup y.1 == some .local || scope.names.lookup y.1 == some .cell) = true)
    (hnd : ((cellsFrom 0 scope.names []).map (·.1)).Nodup)
    (h : ∀ g L' h₁ tk cells, Fr h₀ L g m → Fr g L' h₁ (bindL (envOfC qual scope L' f cdv).kindOf binds fun _ => none) → News g L' h₁ (cells ++ sub) →
      CellsAre (bindC (envOfC qual scope L' f cdv).kindOf binds fun _ => none) (cellsFrom (L' + 1) scope.names []) cells → Below A base (env :: outer) g → K.In g → Top p loose mean mg mb g → (∀ p ∈ sub, p.1 < L') →
      (∀ b o, s.heap.get? b = some o → b ∉ sub.map (·.1) → g.get? b = some o) →
      wpAny (model prog w) (A.deeper (envOfC qual scope L' f cdv)) (execs body (envOfC qual scope L' f cdv))
        (fun fl s' => LeaveK h₀ L m g R (match fl with | .ret v => v | _ => .none) s')
        (fun e s' => wpAny (model prog w) (A.deeper (envOfC qual scope L' f cdv)) (leaving (envOfC qual scope L' f cdv) e) (fun _ s'' => R (.error e) s'') (fun e' s'' => R (.error e') s'') s')
        { s with heap := h₁, toks := tk })
    (hco : scope.isCoroutine = false) (hgen : scope.isGenerator = false) (hk : scope.kind = .function) : codeAny (model prog w) A (.call (.ref f) args) R s := by
  obtain ⟨FG, BG, st, lv⟩ := groundX (R := R) B F N hA hf hke
  have Xs := X₀.keeps F.keep
  refine codeAny_call_function hroom (Xs _ _ ho) rfl hco hgen rfl (codeRec_of Xs hcd) (hbind _ _ _ _ ?_)
  refine wpAny_newFunctionEnv_cells hk (kindsX hkind _) fun env' he s' x => ?_
  subst he
  refine ⟨(T.nolimit.keeps F.keep).keeps x.toInCall.keep, codeAny_func ?_⟩
  obtain ⟨h₁, tk, rfl, _⟩ := x.done
  have hk₁ := x.toInCall.keep
  obtain ⟨cells, NC, Y⟩ := Cl.news (h₀ := s.heap) (Nat.le_refl _) fun n c hm => ⟨x.cell n c (lookup_of_mem_nodup (cellsFrom_names scope.names 0 (s.heap.objs.size + 1) [] [] rfl ▸ hnd) hm), x.above n c hm⟩
  refine wpAny_mono (h _ s.heap.objs.size h₁ tk cells FG ⟨x.toInCall.ns, fun b o e => hk₁ b o (of_hideAll _ e), Nat.le_of_eq (hideAll_size _ _)⟩ (fun p hp => ?_) Y BG (X₀.keeps st) (T.keeps st) (fun p hp => Heap.lt_size (N p hp).1) (fun b o e hb => hideAll_get _ e hb)) (fun fl s' hl => lv _ _ hl) fun _ _ y => y
  rcases List.mem_append.mp hp with hp | hp
  · refine ⟨(NC p hp).1, (NC p hp).2.1, ?_⟩
    cases q : (hideAll s.heap (sub.map (·.1))).get? p.1 with
    | none => rfl
    | some o => have := of_hideAll _ q; rw [(NC p hp).2.2] at this; cases this
  · exact ⟨hk₁ _ _ (N p hp).1, Nat.ne_of_lt (Heap.lt_size (N p hp).1), hideAll_none _ (List.mem_map_of_mem hp)⟩

/-- a plain def, likewise -/
theorem code_subP (B : Below A₀ base outer h₀) (F : Fr h₀ L s.heap m) (X₀ : K.In h₀) (N : News h₀ L s.heap sub) (T : Top p loose mean mg mb h₀) (hA : A.frames = some (env :: outer)) (hf : env.frame = some L) (hke : env.scope.kind = .function)
    (ho : K.lookup f = some ⟨oc, od, .func (fnOf name qual params body scope dV kV doc pm an cdv ct), osl⟩) (hcd : codeIn K cdv qual = true) (hroom : A.depth < recursionLimit)
    (hbind : BindsTo s (fnOf name qual params body scope dV kV doc pm an cdv ct) args binds) (hloc : ∀ y ∈ binds, scope.names.lookup y.1 = some .local)
    (h : ∀ g L' h₁, Fr h₀ L g m → Fr g L' h₁ (fun y => binds.reverse.lookup y) → News g L' h₁ sub → Below A base (env :: outer) g → K.In g → Top p loose mean mg mb g → (∀ p ∈ sub, p.1 < L') →
      (∀ b o, s.heap.get? b = some o → b ∉ sub.map (·.1) → g.get? b = some o) →
      wpAny (model prog w) (A.deeper (envOf qual scope L' f cdv)) (execs body (envOf qual scope L' f cdv))
        (fun fl s' => LeaveK h₀ L m g R (match fl with | .ret v => v | _ => .none) s')
        (fun e s' => wpAny (model prog w) (A.deeper (envOf qual scope L' f cdv)) (leaving (envOf qual scope L' f cdv) e) (fun _ s'' => R (.error e) s'') (fun e' s'' => R (.error e') s'') s')
        { s with heap := h₁, toks := s.toks + binds.length })
    (hco : scope.isCoroutine = false) (hgen : scope.isGenerator = false) (hk : scope.kind = .function)
    (hcell : ∀ x ∈ scope.names, x.2 ≠ .cell) : codeAny (model prog w) A (.call (.ref f) args) R s := by
  obtain ⟨FG, BG, st, lv⟩ := groundX (R := R) B F N hA hf hke
  have Xs := X₀.keeps F.keep
  refine codeAny_call_def (fd := fnOf name qual params body scope dV kV doc pm an cdv ct) (body := body) (binds := binds) hroom (Xs _ _ ho) rfl (T.nolimit.keeps F.keep) (codeRec_of Xs hcd) rfl hbind hcell hloc (fun h₁ hns hk₁ => ?_) hco hgen hk
  exact wpAny_mono (h _ s.heap.objs.size h₁ FG ⟨hns, fun b o e => hk₁ b o (of_hideAll _ e), Nat.le_of_eq (hideAll_size _ _)⟩
    (fun p hp => ⟨hk₁ _ _ (N p hp).1, Nat.ne_of_lt (Heap.lt_size (N p hp).1), hideAll_none _ (List.mem_map_of_mem hp)⟩) BG (X₀.keeps st) (T.keeps st) (fun p hp => Heap.lt_size (N p hp).1) (fun b o e hb => hideAll_get _ e hb)) (fun fl s' hl => lv _ _ hl) fun _ _ y => y

/-- the whole ledger behind such a call -/
theorem news_back {g h h' : Heap} {L' : Addr} {m' : Str → Option Value} {news tl all : Led} (N : News h₀ L h news) (K : ∀ b o, h.get? b = some o → b ∉ sub.map (·.1) → g.get? b = some o) (F' : Fr g L' h' m')
    (N' : News h₀ L h' all) (hs : ∀ p ∈ sub, p ∈ all) (hn : ∀ p ∈ sub, p ∈ news) (ht : ∀ p ∈ tl, p ∈ all) : News h₀ L h' (tl ++ news) := by
  intro q hq
  rcases List.mem_append.mp hq with hq | hq
  · exact N' q (ht q hq)
  · refine ⟨?_, (N q hq).2⟩
    by_cases hb : q.1 ∈ sub.map (·.1)
    · obtain ⟨r, hr, e⟩ := List.mem_map.mp hb
      have h1 := (N r (hn r hr)).1
      rw [e, (N q hq).1] at h1
      have := (N' r (hs r hr)).1
      rw [e, ← Option.some.inj h1] at this
      exact this
    · exact F'.keep _ _ (K _ _ (N q hq).1 hb)
end enter

section comp
noncomputable def CApart (C D : Addr) (its news : Led) : Prop :=
  (@Ne Nat C D) ∧ (∀ q ∈ its, (@Ne Nat q.1 C) ∧ (@Ne Nat q.1 D)) ∧ (∀ q ∈ news, (@Ne Nat q.1 C) ∧ (@Ne Nat q.1 D)) ∧ (∀ p ∈ news, ∀ q ∈ its, (@Ne Nat p.1 q.1))
noncomputable def CEnd (h₀ : Heap) (L : Addr) (m : Str → Option Value) (s : Shared) (C D : Addr) (ys : List Value) (its keep : Led) (rest : Led → Prop) (s' : Shared) : Prop :=
  ∃ h' tk oC m' news', s' = { s with heap := h', toks := tk } ∧ Fr h₀ L h' m ∧ NsObj oC m' ∧ News h₀ L h' ((C, oC) :: (D, lst ys) :: (its ++ news')) ∧ CApart C D its news' ∧ (∀ p ∈ keep, p ∈ news') ∧ rest news'
noncomputable def CRest (prog : Program) (w : World) (A : Around) (h₀ : Heap) (L : Addr) (m : Str → Option Value) (env : Env) (elt : Expr) (ifs : List Expr) (scope : Scope) (cl : List (Str × Addr)) (s : Shared) (ws : List (Addr × String)) (keep : Led)
    (Bd : Nat → (Str → Option Value) → Prop) (Fin : List Value → Led → Prop) : Nat → Nat → List Value → Led → Prop
  | 0, _, ys, news => Fin ys news
  | k + 1, i, ys, news => ∀ C oC D m₂ h tk its, Objs ws its → NsObj oC m₂ → Bd i m₂ → Fr h₀ L h m → News h₀ L h ((C, oC) :: (D, lst ys) :: (its ++ news)) → CApart C D its news → (∀ p ∈ keep, p ∈ news) →
      wpAny (model prog w) A (forIn ifs true fun c r => if r = true then do let ok ← isTrue c (compEnvC scope cl C env) (eval c (compEnvC scope cl C env)); pure (ForInStep.yield ok) else pure (ForInStep.yield r)) (fun ok s₃ =>
        if ok = true then wpAny (model prog w) A (eval elt (compEnvC scope cl C env)) (fun y s₄ => CEnd h₀ L m s C D ys its keep (fun news' => CRest prog w A h₀ L m env elt ifs scope cl s ws keep Bd Fin k (i + 1) (ys ++ [y]) news') s₄) (fun _ _ => False) s₃
        else CEnd h₀ L m s C D ys its keep (fun news' => CRest prog w A h₀ L m env elt ifs scope cl s ws keep Bd Fin k (i + 1) ys news') s₃) (fun _ _ => False) { s with heap := h, toks := tk }

variable {prog : Program} {w : World} {A : Around} {E : Value → Shared → Prop} {s : Shared} {h₀ : Heap} {L : Addr} {m : Str → Option Value} {env : Env}

theorem comp_loop {elt target iter : Expr} {ifs : List Expr} {scope : Scope} {pos : Pos} {it acc : Value} {env : Env} {R : Result → Shared → Prop} (I : Nat → Shared → Prop)
    (turn : ∀ n s, I n s → wpAny (model prog w) A (pyNext it) (fun r s₁ => match r with
      | none => R (.ok .next) s₁
      | some v => wpAny (model prog w) A (letOwnedTupleGo target it v) (fun _ s₀ => wpAny (model prog w) A (assign target env v) (fun _ s₂ =>
          wpAny (model prog w) A (forIn ifs true fun c r => if r = true then do let ok ← isTrue c env (eval c env); pure (ForInStep.yield ok) else pure (ForInStep.yield r)) (fun ok s₃ =>
            if ok = true then wpAny (model prog w) A (eval elt env) (fun x s₄ =>
              wpAny (model prog w) A (call (.builtin "list.append") [acc, x]) (fun _ s₅ => ∃ m, m < n ∧ I m s₅) (fun _ _ => False) s₄) (fun _ _ => False) s₃
            else ∃ m, m < n ∧ I m s₃) (fun _ _ => False) s₂)
          (fun _ _ => False) s₀) (fun _ _ => False) s₁) (fun _ _ => False) s)
    (n : Nat) (h : I n s) : codeAny (model prog w) A (.compLoop (.ListComp elt [⟨target, iter, ifs, 0⟩] scope pos) 0 it acc env) R s := by
  refine codeAny_loop rfl I (fun n s hI => ?_) n h
  show wpAny _ A ((compTurn (.ListComp elt [⟨target, iter, ifs, 0⟩] scope pos) 0 it acc env).onRaise (fun x => do noteFrame x env; theTreesLotGoes x)) _ _ s
  refine wpAny_noted ?_
  rw [compTurn_list]
  refine wpAny_bind (wpAny_standAt (wpAny_bind (wpAny_mono (turn n s hI) (fun r s₁ h₁ => ?_) fun _ _ h' => h'.elim)))
  cases r with
  | none => exact wpAny_pure h₁
  | some v =>
    refine wpAny_bind (wpAny_mono h₁ (fun _ s₀ h₀' => ?_) fun _ _ h' => h'.elim)
    refine wpAny_bind (wpAny_mono h₀' (fun _ s₂ h₂ => ?_) fun _ _ h' => h'.elim)
    refine wpAny_bind (wpAny_mono h₂ (fun ok s₃ h₃ => ?_) fun _ _ h' => h'.elim)
    cases ok with
    | false => exact wpAny_pure ⟨rfl, h₃⟩
    | true => exact wpAny_bind (wpAny_bind (wpAny_mono h₃ (fun x s₄ h₄ => wpAny_bind (wpAny_mono h₄ (fun _ s₅ h₅ => wpAny_pure (wpAny_pure ⟨rfl, h₅⟩)) fun _ _ h' => h'.elim)) fun _ _ h' => h'.elim))

theorem comp_core {elt target iter : Expr} {ifs : List Expr} {scope : Scope} {cl : List (Str × Addr)} {pos : Pos} {s₂ : Shared} {I : Addr} {fp wr : List Addr} {n : Nat} {P Md : Nat → Value → Heap → Prop} {St : Nat → Heap → Prop} {ws : List (Addr × String)} {keep : Led}
    {Bd : Nat → (Str → Option Value) → Prop} {Fin : List Value → Led → Prop} {news : Led} {RR : Value → Addr → Result → Shared → Prop}
    (W : KTurns prog w A target I fp wr n P Md St) (hsz : n ≤ sizeLine)
    (hself : ∀ (s : Shared) (Q : Value → Shared → Prop) (E : Value → Shared → Prop), St 0 s.heap → Q (.ref I) s → wpAny (model prog w) A (pyIter (.ref I)) Q E s)
    (hbind : ∀ i v C m₂ (u : Shared) (Q : Unit → Shared → Prop), i < n → P i v u.heap → u.heap.Ns C m₂ → (∀ h' tk m₃, Bd i m₃ → h'.Ns C m₃ → (∀ c o, c ≠ C → u.heap.get? c = some o → h'.get? c = some o) → Q () { u with heap := h', toks := tk }) →
      wpAny (model prog w) A (assign target (compEnvC scope cl C env) v) Q (fun _ _ => False) u)
    (hobj : ∀ i h, St i h → ∃ its, Objs ws its ∧ ∀ p ∈ its, h.get? p.1 = some p.2)
    (hws : ∀ b ∈ ws.map (·.1), b ∈ fp ∧ h₀.get? b = none ∧ b < s₂.heap.objs.size ∧ b ≠ L) (hwr : ∀ b ∈ wr, b ∈ ws.map (·.1))
    (hfp : ∀ b ∈ fp, b ∈ ws.map (·.1) ∨ ∃ o, (b, o) ∈ keep)
    (hcell : ∀ y ∈ scope.names, y.2 ≠ .cell) (hkind : scope.kind = .function)
    (hst : St 0 s₂.heap) (F : Fr h₀ L s₂.heap m) (N : News h₀ L s₂.heap news) (off : ∀ p ∈ news, p.1 ∉ ws.map (·.1)) (hkeep : ∀ p ∈ keep, p ∈ news)
    (R : CRest prog w A h₀ L m env elt ifs scope cl s₂ ws keep Bd Fin n 0 [] news)
    (hRR : ∀ D C h tk m' ys news', Fr h₀ L h m → News h₀ L h ((D, lst ys) :: news') → (∀ p ∈ news', p.1 ≠ D) → h.Ns C m' → h₀.get? C = none → h₀.get? D = none → C ≠ L → D ≠ L → C ≠ D → (∀ p ∈ news', p.1 ≠ C) → Fin ys news' → RR (.ref D) C (.ok .next) { s₂ with heap := h, toks := tk }) :
    wpAny (model prog w) A (newList []) (fun acc s₃ => wpAny (model prog w) A (newFunctionEnv scope env.globals cl [] env.qual none .none (some env)) (fun cenv s₄ =>
      codeAny (model prog w) A (.compStart (.ListComp elt [⟨target, iter, ifs, 0⟩] scope pos) 0 (.ref I) acc { cenv with scope := relabel scope env }) (RR acc cenv.locals) s₄) E s₃) E s₂ := by
  refine wpAny_newObj_type (wpAny_newFunctionEnv hcell (by intro y hy; simp at hy) (fun h₁ hns₁ hsb₁ => ?_) hkind)
  dsimp only at hns₁ hsb₁ ⊢
  generalize hH2 : s₂.heap.push { cls := .type "list", dict := none, data := .seq ([] : List Value).toArray } = H2 at hns₁ hsb₁ ⊢
  have hC : H2.objs.size = s₂.heap.objs.size + 1 := by rw [← hH2, Heap.size_push]
  have hDC : s₂.heap.objs.size ≠ H2.objs.size := by rw [hC]; exact Nat.ne_of_lt (Nat.lt_succ_self _)
  have below : ∀ b, b < s₂.heap.objs.size → b ≠ H2.objs.size ∧ b ≠ s₂.heap.objs.size := fun b hb => ⟨by rw [hC]; exact Nat.ne_of_lt (Nat.lt_succ_of_lt hb), Nat.ne_of_lt hb⟩
  have old : ∀ b o, s₂.heap.get? b = some o → h₁.get? b = some o := fun b o e => hsb₁.extBut b o (below b (Heap.lt_size e)).1 (Heap.get?_push_of_some _ (hH2 ▸ Heap.get?_push_of_some _ e))
  have hacc : h₁.get? s₂.heap.objs.size = some (lst []) := hsb₁.extBut _ _ hDC (Heap.get?_push_of_some _ (hH2 ▸ Heap.get?_push_size _ rfl))
  have hst₁ : St 0 h₁ := W.frame _ _ _ hst fun b _ o e => old b o e
  have fresh : ∀ a, s₂.heap.objs.size ≤ a → s₂.heap.get? a = none := fun a ha => by
    cases e : s₂.heap.get? a with
    | none => rfl
    | some o' => exact absurd (Heap.lt_size e) (Nat.not_lt.mpr ha)
  have fresh₀ : ∀ a, s₂.heap.objs.size ≤ a → h₀.get? a = none := fun a ha => by
    cases e : h₀.get? a with
    | none => rfl
    | some o' => have := F.keep a o' e; rw [fresh a ha] at this; cases this
  have hD₀ : h₀.get? s₂.heap.objs.size = none := fresh₀ _ (Nat.le_refl _)
  have hC₀ : h₀.get? H2.objs.size = none := fresh₀ _ (by rw [hC]; exact Nat.le_succ _)
  have hLlt : L < s₂.heap.objs.size := F.ns.lt
  have hDL : s₂.heap.objs.size ≠ L := Ne.symm (below L hLlt).2
  have hCL : H2.objs.size ≠ L := Ne.symm (below L hLlt).1
  have wsC : ∀ b ∈ ws.map (·.1), b ≠ H2.objs.size ∧ b ≠ s₂.heap.objs.size := fun b hb => below b (hws b hb).2.2.1
  have hLwr : L ∉ wr := fun hb => (hws L (hwr L hb)).2.2.2 rfl
  have oldwr : ∀ b o, h₀.get? b = some o → b ∉ wr := fun b o e hb => by rw [(hws b (hwr b hb)).2.1] at e; cases e
  have itsOf : ∀ its, Objs ws its → ∀ q ∈ its, q.1 ∈ ws.map (·.1) := fun its ho q hq => by rw [← ho.map]; exact List.mem_map_of_mem hq
  -- a step of the iterator keeps the frame and the ledger
  have next : ∀ (h' h₂ : Heap) (nw : Led), Fr h₀ L h' m → News h₀ L h' nw → (∀ p ∈ nw, p.1 ∉ wr) → (∀ b o, b ∉ wr → h'.get? b = some o → h₂.get? b = some o) → Fr h₀ L h₂ m ∧ News h₀ L h₂ nw := fun h' h₂ nw F' N' hn hk =>
    ⟨⟨F'.ns.at' fun o e => hk _ o hLwr e, fun b o e => hk b o (oldwr b o e) (F'.keep b o e), F'.above⟩, fun p hp => ⟨hk _ _ (hn p hp) (N' p hp).1, (N' p hp).2⟩⟩
  obtain ⟨CR, hCR⟩ : ∃ C : Nat → Nat → List Value → Led → Prop, C = CRest prog w A h₀ L m env elt ifs scope cl s₂ ws keep Bd Fin := ⟨_, rfl⟩
  rw [← hCR] at R
  obtain ⟨Inv, hInv⟩ : ∃ I : Nat → Shared → Prop, ∀ k s', I k s' ↔ (∃ h' tk i ys m' news', s' = { s₂ with heap := h', toks := tk } ∧ i ≤ n ∧ k = n + 1 - i ∧ ys.length ≤ i ∧ St i h' ∧ Fr h₀ L h' m ∧ h'.Ns H2.objs.size m' ∧ News h₀ L h' ((s₂.heap.objs.size, lst ys) :: news') ∧
        (∀ p ∈ news', p.1 ≠ H2.objs.size ∧ p.1 ≠ s₂.heap.objs.size ∧ p.1 ∉ ws.map (·.1)) ∧ (∀ p ∈ keep, p ∈ news') ∧ CR (n - i) i ys news') := ⟨_, fun _ _ => Iff.rfl⟩
  have loop : ∀ s₃ : Shared, s₃ = { s₂ with heap := h₁, toks := s₂.toks + ([] : List (Str × Value)).length } →
      codeAny (model prog w) A (.compLoop (.ListComp elt [⟨target, iter, ifs, 0⟩] scope pos) 0 (.ref I) (.ref s₂.heap.objs.size) (compEnvC scope cl H2.objs.size env))
        (RR (.ref s₂.heap.objs.size) H2.objs.size) s₃ := by
    rintro s₃ rfl
    refine comp_loop Inv ?_ (n + 1)
      ((hInv _ _).mpr ⟨h₁, _, 0, [], _, news, rfl, Nat.zero_le _, rfl, Nat.le_refl _, hst₁, F.keeps old, hns₁, fun p hp => ?_, fun p hp => ⟨(below _ (Heap.lt_size (N p hp).1)).1, (below _ (Heap.lt_size (N p hp).1)).2, off p hp⟩, hkeep, R⟩)
    · intro k s' hk
      obtain ⟨h', tk, i, ys, m', news', rfl, hi, rfl, hyl, hst', F', hn', N', off', hkp', R'⟩ := (hInv k s').mp hk
      clear hk
      have nwr : ∀ p ∈ (s₂.heap.objs.size, lst ys) :: news', p.1 ∉ wr := fun p hp hw => by
        rcases List.mem_cons.mp hp with rfl | hp
        · exact (wsC _ (hwr _ hw)).2 rfl
        · exact (off' p hp).2.2 (hwr _ hw)
      have Cwr : H2.objs.size ∉ wr := fun hw => (wsC _ (hwr _ hw)).1 rfl
      by_cases hlt : i < n
      · obtain ⟨j, hj⟩ : ∃ j, n - i = j + 1 := ⟨n - i - 1, by omega⟩
        rw [hj] at R'
        refine W.item i _ _ _ hlt hst' fun v h₂ tk₂ hMd hk₂ => ?_
        refine W.go i v _ _ _ hMd fun h₃ hP hst₃ hk₃ => ?_
        have hk23 : ∀ b o, b ∉ wr → h'.get? b = some o → h₃.get? b = some o := fun b o hb e => hk₃ b o hb (hk₂ b o hb e)
        obtain ⟨F₃, N₃⟩ := next h' h₃ _ F' N' nwr hk23
        refine hbind i v _ m' _ _ hlt hP (hn'.at' fun o e => hk23 _ o Cwr e) fun h₄ tk₄ m₄ hBd hn₄ hk₄ => ?_
        have hst₄ : St (i + 1) h₄ := W.frame _ _ _ hst₃ fun b hb o e => hk₄ b o (fun q => by
          rcases hfp b hb with hb | ⟨ob, hb⟩
          · exact (wsC b hb).1 q
          · exact (off' _ (hkp' _ hb)).1 q) e
        obtain ⟨its, hits, hval⟩ := hobj (i + 1) h₄ hst₄
        obtain ⟨oC, heC, hoC⟩ := ns_obj hn₄
        have F₄ : Fr h₀ L h₄ m := ⟨F₃.ns.at' fun o e => hk₄ _ o (Ne.symm hCL) e, fun b o e => hk₄ b o (fun q => by rw [q, hC₀] at e; cases e) (F₃.keep b o e), F₃.above⟩
        have N₄ : News h₀ L h₄ ((H2.objs.size, oC) :: (s₂.heap.objs.size, lst ys) :: (its ++ news')) := fun p hp => by
          rcases List.mem_cons.mp hp with rfl | hp
          · exact ⟨heC, hCL, hC₀⟩
          rcases List.mem_cons.mp hp with rfl | hp
          · have z := N₃ _ (List.mem_cons_self)
            exact ⟨hk₄ _ _ hDC z.1, z.2⟩
          rcases List.mem_append.mp hp with hp | hp
          · have z := hws _ (itsOf its hits p hp)
            exact ⟨hval p hp, z.2.2.2, z.2.1⟩
          · have z := N₃ p (List.mem_cons_of_mem _ hp)
            exact ⟨hk₄ _ _ (off' p hp).1 z.1, z.2⟩
        have ap : CApart H2.objs.size s₂.heap.objs.size its news' := ⟨Ne.symm hDC, fun q hq => wsC _ (itsOf its hits q hq), fun q hq => ⟨(off' q hq).1, (off' q hq).2.1⟩, fun p hp q hq e => (off' p hp).2.2 (e ▸ itsOf its hits q hq)⟩
        -- behind the turn
        have fin : ∀ (P : Prop) (ys' ysO : List Value) (s₅ : Shared), CEnd h₀ L m s₂ H2.objs.size s₂.heap.objs.size ysO its keep (fun nw => CRest prog w A h₀ L m env elt ifs scope cl s₂ ws keep Bd Fin j (i + 1) ys' nw) s₅ →
            (∀ h₆ tk₆ oC₆ m₆ nw, s₅ = { s₂ with heap := h₆, toks := tk₆ } → Fr h₀ L h₆ m → NsObj oC₆ m₆ → News h₀ L h₆ ((H2.objs.size, oC₆) :: (s₂.heap.objs.size, lst ysO) :: (its ++ nw)) → CApart H2.objs.size s₂.heap.objs.size its nw → (∀ p ∈ keep, p ∈ nw) → St (i + 1) h₆ →
              CR j (i + 1) ys' nw → P) → P := by
          rintro P ys' ysO s₅ ⟨h₆, tk₆, oC₆, m₆, nw, e, F₆, hoC₆, N₆, ap₆, hkp₆, R₆⟩ k
          refine k h₆ tk₆ oC₆ m₆ nw e F₆ hoC₆ N₆ ap₆ hkp₆ (W.frame _ _ _ hst₄ fun b hb o eb => ?_) (hCR ▸ R₆)
          rcases hfp b hb with hb | ⟨ob, hb⟩
          · have : b ∈ its.map (·.1) := by rw [hits.map]; exact hb
            obtain ⟨q, hq, rfl⟩ := List.mem_map.mp this
            have h1 := hval q hq
            rw [eb] at h1
            rw [Option.some.inj h1]
            exact (N₆ q (List.mem_cons_of_mem _ (List.mem_cons_of_mem _ (List.mem_append_left _ hq)))).1
          · have h1 := (N₄ (b, ob) (List.mem_cons_of_mem _ (List.mem_cons_of_mem _ (List.mem_append_right _ (hkp' _ hb))))).1
            have h1' : h₄.get? b = some ob := h1
            rw [eb] at h1'
            rw [Option.some.inj h1']
            exact (N₆ (b, ob) (List.mem_cons_of_mem _ (List.mem_cons_of_mem _ (List.mem_append_right _ (hkp₆ _ hb))))).1
        have inv : ∀ (ys' : List Value) (h₆ : Heap) (tk₆ : Nat) (oC₆ : Obj) (m₆ : Str → Option Value) (nw : Led), ys'.length ≤ i + 1 → Fr h₀ L h₆ m → NsObj oC₆ m₆ → News h₀ L h₆ ((H2.objs.size, oC₆) :: (s₂.heap.objs.size, lst ys') :: (its ++ nw)) → CApart H2.objs.size s₂.heap.objs.size its nw →
            (∀ p ∈ keep, p ∈ nw) → St (i + 1) h₆ → CR j (i + 1) ys' nw →
            ∃ q', q' < n + 1 - i ∧ Inv q' { s₂ with heap := h₆, toks := tk₆ } := by
          intro ys' h₆ tk₆ oC₆ m₆ nw hl F₆ hoC₆ N₆ ap₆ hkp₆ hst₆ R₆
          refine ⟨n + 1 - (i + 1), by omega, (hInv _ _).mpr ⟨h₆, tk₆, i + 1, ys', _, nw, rfl, hlt, rfl, hl, hst₆, F₆, hoC₆.ns (N₆ _ List.mem_cons_self).1, fun p hp => ?_, fun p hp => ⟨(ap₆.2.2.1 p hp).1, (ap₆.2.2.1 p hp).2, fun hw => ?_⟩, hkp₆, ?_⟩⟩
          · rcases List.mem_cons.mp hp with rfl | hp
            · exact N₆ _ (List.mem_cons_of_mem _ List.mem_cons_self)
            · exact N₆ _ (List.mem_cons_of_mem _ (List.mem_cons_of_mem _ (List.mem_append_right _ hp)))
          · have : p.1 ∈ its.map (·.1) := by rw [hits.map]; exact hw
            obtain ⟨q, hq, e⟩ := List.mem_map.mp this
            exact ap₆.2.2.2 p hp q hq e.symm
          · rw [show n - (i + 1) = j by omega]; exact R₆
        rw [hCR] at R'
        refine wpAny_mono (R' _ oC _ m₄ h₄ tk₄ its hits hoC hBd F₄ N₄ ap hkp') (fun ok s₅ h₅ => ?_) fun _ _ e => e
        cases ok with
        | false =>
          simp only [Bool.false_eq_true, if_false] at h₅ ⊢
          refine fin _ ys ys s₅ h₅ fun h₆ tk₆ oC₆ m₆ nw e F₆ hoC₆ N₆ ap₆ hkp₆ hst₆ R₆ => ?_
          subst e
          exact inv ys h₆ tk₆ oC₆ m₆ nw (Nat.le_succ_of_le hyl) F₆ hoC₆ N₆ ap₆ hkp₆ hst₆ R₆
        | true =>
          simp only [if_true] at h₅ ⊢
          refine wpAny_mono h₅ (fun y s₆ h₆ => ?_) fun _ _ e => e
          refine fin _ (ys ++ [y]) ys s₆ h₆ fun h₆ tk₆ oC₆ m₆ nw e F₆ hoC₆ N₆ ap₆ hkp₆ hst₆ R₆ => ?_
          subst e
          have zD := (N₆ (s₂.heap.objs.size, lst ys) (List.mem_cons_of_mem _ List.mem_cons_self)).1
          refine append_at (hsz := by show ys.toArray.size ≤ sizeLine; rw [List.size_toArray]; exact Nat.le_trans hyl (Nat.le_trans hi hsz)) zD fun h₇ hs₇ hD₇ => ?_
          refine inv (ys ++ [y]) h₇ _ oC₆ m₆ nw (by rw [List.length_append, List.length_singleton]; exact Nat.succ_le_succ hyl) (F₆.change hs₇ hDL hD₀) hoC₆ (fun p hp => ?_) ap₆ hkp₆ (W.frame _ _ _ hst₆ fun b hb o eb => hs₇.extBut b o (fun q => ?_) eb) R₆
          · rcases List.mem_cons.mp hp with rfl | hp
            · have z := N₆ _ (List.mem_cons_self)
              exact ⟨hs₇.extBut _ _ (Ne.symm hDC) z.1, z.2⟩
            rcases List.mem_cons.mp hp with rfl | hp
            · exact ⟨hD₇.trans (congrArg some (lst_snoc ys y)), hDL, hD₀⟩
            · have z := N₆ p (List.mem_cons_of_mem _ (List.mem_cons_of_mem _ hp))
              refine ⟨hs₇.extBut _ _ ?_ z.1, z.2⟩
              rcases List.mem_append.mp hp with hp | hp
              · exact (ap₆.2.1 p hp).2
              · exact (ap₆.2.2.1 p hp).2
          · rcases hfp b hb with hb | ⟨ob, hb⟩
            · exact (wsC b hb).2 q
            · exact (ap₆.2.2.1 _ (hkp₆ _ hb)).2 q
      · obtain rfl : i = n := Nat.le_antisymm hi (Nat.not_lt.mp hlt)
        rw [Nat.sub_self, hCR] at R'
        refine W.done _ _ _ hst' fun h₂ tk₂ hk₂ => ?_
        obtain ⟨F₂, N₂⟩ := next h' h₂ _ F' N' nwr hk₂
        exact hRR _ _ h₂ tk₂ _ ys news' F₂ N₂ (fun p hp => (off' p hp).2.1) (hn'.at' fun o e => hk₂ _ o Cwr e) hC₀ hD₀ hCL hDL (Ne.symm hDC) (fun p hp => (off' p hp).1) R'
    · rcases List.mem_cons.mp hp with rfl | hp
      · exact ⟨hacc, hDL, hD₀⟩
      · exact ⟨old _ _ (N p hp).1, (N p hp).2⟩
  exact codeAny_compStart_list (loop _ rfl) (hself _ _ _ hst₁ (loop _ rfl))
end comp
end Mine

end
section
open PySem PySem.W PySem.Spec PySem.Calls PyProof.Rows PyProof.Rows.LCg
set_option Elab.async false
set_option maxRecDepth 100000
set_option maxHeartbeats 1000000
namespace Mine
theorem mem3 {α : Type} {b a1 a2 a3 : α} (h : b ∈ [a1, a2, a3]) : b = a1 ∨ b = a2 ∨ b = a3 := by simpa using h
theorem mem4 {α : Type} {b a1 a2 a3 a4 : α} (h : b ∈ [a1, a2, a3, a4]) : b = a1 ∨ b = a2 ∨ b = a3 ∨ b = a4 := by simpa using h
theorem mem7 {α : Type} {b a1 a2 a3 a4 a5 a6 a7 : α} (h : b ∈ [a1, a2, a3, a4, a5, a6, a7]) : b = a1 ∨ b = a2 ∨ b = a3 ∨ b = a4 ∨ b = a5 ∨ b = a6 ∨ b = a7 := by simpa using h
theorem memE {α : Type} {a b : α} {l : List α} (e : b = a) (h : a ∈ l) : b ∈ l := e ▸ h
theorem memX {α β : Type} {a b : α} {o : β} {l : List (α × β)} (e : b = a) (h : (a, o) ∈ l) : (b, o) ∈ l := e ▸ h
open AutoSeq1 (wpAny_loadPart')

section tup
variable {prog : Program} {w : World} {A : Around} {E : Value → Shared → Prop} {s : Shared}

theorem nextOf_tup_item {it t : Addr} {i : Nat} {items : Array Value} {x : Value} {Q : Value → Shared → Prop} (hit : s.heap.IsTupleIter it t i)
    (ht : s.heap.IsTuple t items) (hx : items[i]? = some x)
    (hQ : ∀ h', h'.IsTupleIter it t (i + 1) → Heap.SameBut it s.heap h' → Q x { s with heap := h' }) :
    wpAny (model prog w) A (Builtin.SmallTypes.nextOf (.ref it)) Q E s := by
  obtain ⟨o, ho, hc, hd⟩ := id hit
  obtain ⟨ol, hol, _, nl, hdl⟩ := ht
  unfold Builtin.SmallTypes.nextOf
  refine wpAny_bind (wpAny_callSpecial?_slot (name := Str.ofString "__next__") hit.typeIs F.slot_tuple_iterator_next
    (wpAny_call_entry F.slot_tuple_iterator_next hit.typeIs F.entry_tuple_iterator_next ?_ (F.args_tuple_iterator_next_1 _)))
  show wpAny _ _ (field (.ref it) 0 >>= _) _ _ s
  refine wpAny_bind (wpAny_field ho hd (x := .ref t) rfl ?_)
  show wpAny _ _ (if (Value.ref t == Value.none) = true then _ else _) _ _ s
  rw [if_neg (show ¬ ((Value.ref t == Value.none) = true) from Bool.false_ne_true)]
  show wpAny _ _ (field (.ref it) 1 >>= _) _ _ s
  refine wpAny_bind (wpAny_field ho hd (x := .int i 0) rfl ?_)
  show wpAny _ _ (seqItems? (.ref t) >>= _) _ _ s
  refine wpAny_bind (wpAny_seqItems hol hdl ?_)
  simp only [Int.toNat_natCast, hx]
  refine wpAny_bind (wpAny_setField ho hd (by simp) (wpAny_pure ⟨x, rfl, wpAny_pure (hQ _ ?_ (Heap.SameBut.update ..))⟩))
  exact ⟨_, Heap.get?_update_self _ ho (Obj.isFreed_of_fields (Obj.data_mapFields hd _)), (Obj.cls_mapFields ..).trans hc, by
    rw [Obj.data_mapFields hd]; simp [rawInt]⟩

theorem nextOf_tup_end {it t : Addr} {i : Nat} {items : Array Value} {Q : Value → Shared → Prop} (hh : A.handled = none)
    (hit : s.heap.IsTupleIter it t i) (ht : s.heap.IsTuple t items) (hx : items[i]? = none)
    (hE : ∀ h' e, Heap.ExtBut it s.heap h' → (∃ o, h'.get? e = some o ∧ o.cls = .type "StopIteration") → E (.ref e) { s with heap := h' }) :
    wpAny (model prog w) A (Builtin.SmallTypes.nextOf (.ref it)) Q E s := by
  obtain ⟨o, ho, hc, hd⟩ := id hit
  obtain ⟨ol, hol, _, nl, hdl⟩ := ht
  unfold Builtin.SmallTypes.nextOf
  refine wpAny_bind (wpAny_callSpecial?_slot (name := Str.ofString "__next__") hit.typeIs F.slot_tuple_iterator_next
    (wpAny_call_entry F.slot_tuple_iterator_next hit.typeIs F.entry_tuple_iterator_next ?_ (F.args_tuple_iterator_next_1 _)))
  show wpAny _ _ (field (.ref it) 0 >>= _) _ _ s
  refine wpAny_bind (wpAny_field ho hd (x := .ref t) rfl ?_)
  show wpAny _ _ (if (Value.ref t == Value.none) = true then _ else _) _ _ s
  rw [if_neg (show ¬ ((Value.ref t == Value.none) = true) from Bool.false_ne_true)]
  show wpAny _ _ (field (.ref it) 1 >>= _) _ _ s
  refine wpAny_bind (wpAny_field ho hd (x := .int i 0) rfl ?_)
  show wpAny _ _ (seqItems? (.ref t) >>= _) _ _ s
  refine wpAny_bind (wpAny_seqItems hol hdl ?_)
  simp only [Int.toNat_natCast, hx]
  refine wpAny_bind (wpAny_rule (wpAny_bind (wpAny_setField ho hd (by simp) ?_)))
  show wpAny _ _ (newExc (.type "StopIteration") [] >>= _) _ _ _
  refine wpAny_bind ?_
  simp only [newExc, newTuple]
  refine wpAny_bind (wpAny_newObj_type ?_ (by size_fits))
  refine wpAny_bind (m := firstArgMember _ _) (wpAny_of_eq (a := Value.none) (by first | rfl | (simp only [firstArgMember]; rfl)) ?_)
  refine wpAny_newObj_type ?_ (by size_fits)
  simp only [raiseNew]
  refine wpAny_bind (wpAny_handled ?_)
  first | rw [show A.in1.handled = none from hh] | rw [hh]
  refine wpAny_bind (wpAny_pure (wpAny_throw ?_))
  exact hE _ _ (((Heap.SameBut.update ..).extBut.push _).push _) ⟨_, Heap.get?_push_size _ rfl, rfl⟩

theorem drawsTup (hh : A.handled = none) (it l : Addr) (hne : l ≠ it) (items : Array Value) :
    Draws prog w A it [it, l] items.size (fun i v => items[i]? = some v) (fun i h => h.IsTupleIter it l i ∧ h.IsTuple l items) where
  live := fun _ _ st => let ⟨o, ho, _⟩ := st.1; ⟨o, ho⟩
  frame := fun _ _ _ st hk => ⟨st.1.at fun o e => hk it (by simp) o e, st.2.at fun o e => hk l (by simp) o e⟩
  item := fun i s Q E hi st hQ => by
    refine nextOf_tup_item st.1 st.2 (x := items[i]) (by simp [hi]) fun h' hit' hs' => ?_
    exact hQ _ h' s.toks (by simp [hi]) ⟨hit', st.2.extBut hs'.extBut hne⟩ hs'
  done := fun s Q E st hE => nextOf_tup_end hh st.1 st.2 (by simp) hE

theorem tup_full {h : Heap} {l : Addr} {items : Array Value} (x : h.IsTuple l items) : ∃ d n sl, h.get? l = some { cls := .type "tuple", dict := d, data := .seq items n, slots := sl } := by
  obtain ⟨⟨c, d, dt, sl⟩, ho, hc, n, hd⟩ := x
  dsimp only at hc hd
  subst hc hd
  exact ⟨d, n, sl, ho⟩

theorem meets_enum_tup (l : Addr) (items : Array Value) (n : Nat) (dct : Option Addr) (sl : Array (Option Value)) :
    Meets (Builtin.«enumerate.__new__» ⟨[.type "enumerate", .ref l], []⟩) (fun _ R s => s.heap.get? l = some { cls := .type "tuple", dict := dct, data := .seq items n, slots := sl } ∧
      R (.ok (.ret (.ref (s.heap.push { cls := .type "tuple_iterator", data := .fields #[.ref l, .int 0 0] }).objs.size)))
        { s with heap := (s.heap.push { cls := .type "tuple_iterator", data := .fields #[.ref l, .int 0 0] }).push { cls := .type "enumerate", data := .fields #[.none, .bool false, .ref s.heap.objs.size, rawInt 0, .none, .none] } }) :=
  .of_wp fun prog w A R s h => by
    obtain ⟨hp, g, d, tk, os⟩ := s; obtain ⟨hl, h⟩ := h
    have hsub := sub_enumerate
    have hL : Heap.IsTuple (Shared.heap ⟨hp, g, d, tk, os⟩) l items := ⟨_, hl, rfl, n, rfl⟩
    wp_walk using wpAny_loadPart' hl
    refine wpAny_stack_any fun st => wpAny_pure ?_
    split
    · rename_i c _ _ _ _ _
      cases (c == Value.type "enumerate")
      · wp_walk using wpAny_loadPart' hl, wpAny_pyIter_tuple hL
        exact ⟨_, rfl, h⟩
      · wp_walk using wpAny_loadPart' hl, wpAny_pyIter_tuple hL
        exact ⟨_, rfl, h⟩
    · wp_walk using wpAny_loadPart' hl, wpAny_pyIter_tuple hL
      exact ⟨_, rfl, h⟩

theorem call_enum_tup {l : Addr} {items : Array Value} {Q : Value → Shared → Prop} (hL : s.heap.IsTuple l items)
    (h : ∀ h', IsEnum h' (s.heap.objs.size + 1) s.heap.objs.size 0 .none → h'.IsTupleIter s.heap.objs.size l 0 → h'.objs.size = s.heap.objs.size + 2 →
      (∀ b o, s.heap.get? b = some o → h'.get? b = some o) → Q (.ref (s.heap.objs.size + 1)) { s with heap := h' }) :
    wpAny (model prog w) A (call (.type "enumerate") [.ref l]) Q E s := by
  obtain ⟨dct, n, sl, hl⟩ := tup_full hL
  refine callType_new F.called_enumerate (by decide) (F.typeCall_enumerate_1 _) (F.newCall_enumerate_1 _) (fun obj => F.args_object_init_2 obj _) F.entry_enumerate_new
    (meets_enum_tup l items n dct sl) ⟨hl, ?_⟩
  have hz : (s.heap.push { cls := .type "tuple_iterator", data := .fields #[.ref l, .int 0 0] }).objs.size = s.heap.objs.size + 1 := Heap.size_push ..
  show _ ∧ _
  rw [hz]
  have he : IsEnum ((s.heap.push { cls := .type "tuple_iterator", data := .fields #[.ref l, .int 0 0] }).push
      { cls := .type "enumerate", data := .fields #[.none, .bool false, .ref s.heap.objs.size, rawInt 0, .none, .none] }) (s.heap.objs.size + 1) s.heap.objs.size 0 .none := by
    have := Heap.get?_push_size (s.heap.push { cls := .type "tuple_iterator", data := .fields #[.ref l, .int 0 0] })
      (o := { cls := .type "enumerate", data := .fields #[.none, .bool false, .ref s.heap.objs.size, rawInt 0, .none, .none] }) rfl
    rw [hz] at this; exact this
  refine ⟨⟨_, he, rfl⟩, h _ he ⟨_, Heap.get?_push_of_some _ (Heap.get?_push_size _ rfl), rfl, rfl⟩ (by rw [Heap.size_push, hz]) fun b o x => Heap.get?_push_of_some _ (Heap.get?_push_of_some _ x)⟩

-- zip over two tuples
noncomputable abbrev zH1 (h : Heap) (l1 : Addr) : Heap := h.push { cls := .type "tuple_iterator", data := .fields #[.ref l1, .int 0 0] }
noncomputable abbrev zH2 (h : Heap) (l1 l2 : Addr) : Heap := (zH1 h l1).push { cls := .type "tuple_iterator", data := .fields #[.ref l2, .int 0 0] }
noncomputable abbrev zH3 (h : Heap) (l1 l2 : Addr) : Heap := (zH2 h l1 l2).push { cls := .type "tuple", data := .seq #[.ref h.objs.size, .ref (zH1 h l1).objs.size] }
noncomputable abbrev zH4 (h : Heap) (l1 l2 : Addr) : Heap := (zH3 h l1 l2).push { cls := .type "tuple", data := .seq #[.none, .none] }
noncomputable abbrev zH5 (h : Heap) (l1 l2 : Addr) : Heap := (zH4 h l1 l2).push { cls := .type "zip", data := .fields #[.none, .bool false, .bool false, .ref (zH2 h l1 l2).objs.size, .ref (zH3 h l1 l2).objs.size] }

theorem meets_zip_tup (l1 l2 : Addr) (xs ys : Array Value) :
    Meets (Builtin.«zip.__new__» ⟨[.type "zip", .ref l1, .ref l2], []⟩) (fun _ R s => s.heap.IsTuple l1 xs ∧ s.heap.IsTuple l2 ys ∧
      R (.ok (.ret (.ref (zH4 s.heap l1 l2).objs.size))) { s with heap := zH5 s.heap l1 l2 }) :=
  .of_wp fun prog w A R s h => by
    obtain ⟨hp, g, d, tk, os⟩ := s; obtain ⟨hl1, hl2, h⟩ := h
    have hsub := sub_zip
    have hL1 : Heap.IsTuple (Shared.heap ⟨hp, g, d, tk, os⟩) l1 xs := hl1
    have hL2 : Heap.IsTuple (Shared.heap ⟨hp.push { cls := .type "tuple_iterator", data := .fields #[.ref l1, .int 0 0] }, g, d, tk, os⟩) l2 ys := hl2.at fun o e => Heap.get?_push_of_some _ e
    wp_walk using wpAny_pyIter_tuple hL1, wpAny_pyIter_tuple hL2
    exact ⟨_, rfl, h⟩

theorem call_zip_tup {l1 l2 : Addr} {xs ys : Array Value} {Q : Value → Shared → Prop} (hl1 : s.heap.IsTuple l1 xs) (hl2 : s.heap.IsTuple l2 ys)
    (h : ∀ h', IsZip h' (s.heap.objs.size + 4) (s.heap.objs.size + 2) (s.heap.objs.size + 3) .none → IsPair h' (s.heap.objs.size + 2) (.ref s.heap.objs.size) (.ref (s.heap.objs.size + 1)) →
      IsPair h' (s.heap.objs.size + 3) .none .none → h'.IsTupleIter s.heap.objs.size l1 0 → h'.IsTupleIter (s.heap.objs.size + 1) l2 0 → h'.objs.size = s.heap.objs.size + 5 →
      (∀ c o, s.heap.get? c = some o → h'.get? c = some o) → Q (.ref (s.heap.objs.size + 4)) { s with heap := h' }) :
    wpAny (model prog w) A (call (.type "zip") [.ref l1, .ref l2]) Q E s := by
  refine callType_new F.called_zip (by decide) (F.typeCall_zip_2 _ _) (F.newCall_zip_2 _ _) (fun obj => F.args_object_init_3 obj _ _) F.entry_zip_new
    (meets_zip_tup l1 l2 xs ys) ⟨hl1, hl2, ?_⟩
  have z1 : (zH1 s.heap l1).objs.size = s.heap.objs.size + 1 := Heap.size_push ..
  have z2 : (zH2 s.heap l1 l2).objs.size = s.heap.objs.size + 2 := by rw [Heap.size_push, z1]
  have z3 : (zH3 s.heap l1 l2).objs.size = s.heap.objs.size + 3 := by rw [Heap.size_push, z2]
  have z4 : (zH4 s.heap l1 l2).objs.size = s.heap.objs.size + 4 := by rw [Heap.size_push, z3]
  have z5 : (zH5 s.heap l1 l2).objs.size = s.heap.objs.size + 5 := by rw [Heap.size_push, z4]
  have up : ∀ {h : Heap} {b : Addr} {o o' : Obj}, h.get? b = some o → (h.push o').get? b = some o := fun e => Heap.get?_push_of_some _ e
  have g5 : (zH5 s.heap l1 l2).get? (zH4 s.heap l1 l2).objs.size = some _ := Heap.get?_push_size _ rfl
  have g4 : (zH5 s.heap l1 l2).get? (zH3 s.heap l1 l2).objs.size = some _ := up (Heap.get?_push_size _ rfl)
  have g3 : (zH5 s.heap l1 l2).get? (zH2 s.heap l1 l2).objs.size = some _ := up (up (Heap.get?_push_size _ rfl))
  have g2 : (zH5 s.heap l1 l2).get? (zH1 s.heap l1).objs.size = some _ := up (up (up (Heap.get?_push_size _ rfl)))
  have g1 : (zH5 s.heap l1 l2).get? s.heap.objs.size = some _ := up (up (up (up (Heap.get?_push_size _ rfl))))
  show _ ∧ _
  rw [z2, z3, z4] at g5
  rw [z1, z2] at g3
  rw [z3] at g4
  rw [z1] at g2
  rw [z4]
  exact ⟨⟨_, g5, rfl⟩, h _ g5 g3 g4 ⟨_, g1, rfl, rfl⟩ ⟨_, g2, rfl, rfl⟩ z5 fun c o x => up (up (up (up (up x))))⟩

theorem zip_item_tup {z TI TO i1 i2 l1 l2 : Addr} {k1 k2 : Nat} {xs ys : Array Value} {x y a b : Value} {Q : Value → Shared → Prop} (D : ZipApart z TI TO i1 i2 l1 l2)
    (hz : IsZip s.heap z TI TO .none) (hTI : IsPair s.heap TI (.ref i1) (.ref i2)) (hTO : IsPair s.heap TO a b)
    (h1 : s.heap.IsTupleIter i1 l1 k1) (h2 : s.heap.IsTupleIter i2 l2 k2) (hl1 : s.heap.IsTuple l1 xs) (hl2 : s.heap.IsTuple l2 ys) (hx : xs[k1]? = some x) (hy : ys[k2]? = some y)
    (hQ : ∀ h', IsZip h' z TI TO (rawInt s.heap.objs.size) → IsPair h' TO x y → h'.IsTupleIter i1 l1 (k1 + 1) → h'.IsTupleIter i2 l2 (k2 + 1) → IsPair h' s.heap.objs.size x y → h'.objs.size = s.heap.objs.size + 1 →
      (∀ c o, c ≠ z → c ≠ TO → c ≠ i1 → c ≠ i2 → s.heap.get? c = some o → h'.get? c = some o) → Q (.ref s.heap.objs.size) { s with heap := h' }) :
    wpAny (model prog w) A (Builtin.«zip.__next__» ⟨[.ref z], []⟩) (fun fin s' => ∃ v, fin = .done (.ret v) ∧ Q v s') E s := by
  show wpAny _ _ (field (.ref z) 2 >>= _) _ _ _
  refine wpAny_bind (wpAny_field hz rfl (x := .bool false) rfl ?_)
  show wpAny _ _ (field (.ref z) 3 >>= _) _ _ _
  refine wpAny_bind (wpAny_field hz rfl (x := .ref TI) rfl ?_)
  refine wpAny_bind (wpAny_seqItems hTI rfl ?_)
  show wpAny _ _ (Builtin.SmallTypes.ownedTupleIsFree (.ref z) >>= _) _ _ _
  refine wpAny_bind ?_
  unfold Builtin.SmallTypes.ownedTupleIsFree
  refine wpAny_bind (wpAny_field hz rfl (x := .none) rfl (wpAny_pure ?_))
  simp only [if_true]
  refine wpAny_bind (wpAny_rule ?_)
  refine wpAny_bind (wpAny_field hz rfl (x := .ref TO) rfl ?_)
  refine wpAny_bind (wpAny_setField_rec hz (by simp) fun h₁ hz₁ hs₁ => ?_)
  replace hz₁ : IsZip h₁ z TI TO .ellipsis := hz₁
  refine wpAny_bind ?_
  simp only [List.zipIdx_cons, List.zipIdx_nil, List.forIn_cons, List.forIn_nil]
  refine wpAny_bind (wpAny_bind (wpAny_onRaise ?_))
  show wpAny _ _ (Builtin.SmallTypes.nextOf (.ref i1) >>= _) _ _ _
  refine wpAny_bind (nextOf_tup_item (h1.extBut hs₁.extBut D.i1z) (hl1.extBut hs₁.extBut D.l1z) hx fun h₂ h1₂ hs₂ => wpAny_pure ?_)
  have hTO₂ : IsPair h₂ TO a b := hs₂.extBut _ _ D.TOi1 (hs₁.extBut _ _ D.TOz hTO)
  refine wpAny_bind (wpAny_seqItems hTO₂ rfl ?_)
  refine wpAny_bind (wpAny_updateSeq_pair hTO₂ fun h₃ hTO₃ hs₃ => ?_)
  replace hTO₃ : IsPair h₃ TO x b := hTO₃
  refine wpAny_bind (wpAny_letGo (wpAny_pure ?_))
  refine wpAny_bind (wpAny_bind (wpAny_onRaise ?_))
  show wpAny _ _ (Builtin.SmallTypes.nextOf (.ref i2) >>= _) _ _ _
  refine wpAny_bind (nextOf_tup_item (((h2.extBut hs₁.extBut D.i2z).extBut hs₂.extBut D.i12.symm).extBut hs₃.extBut D.TOi2.symm)
    (((hl2.extBut hs₁.extBut D.l2z).extBut hs₂.extBut D.l2i1).extBut hs₃.extBut D.l2TO) hy fun h₄ h2₄ hs₄ => wpAny_pure ?_)
  have hTO₄ : IsPair h₄ TO x b := hs₄.extBut _ _ D.TOi2 hTO₃
  refine wpAny_bind (wpAny_seqItems hTO₄ rfl ?_)
  refine wpAny_bind (wpAny_updateSeq_pair hTO₄ fun h₅ hTO₅ hs₅ => ?_)
  replace hTO₅ : IsPair h₅ TO x y := hTO₅
  refine wpAny_bind (wpAny_letGo (wpAny_pure (wpAny_pure ?_)))
  refine wpAny_bind (wpAny_seqItems hTO₅ rfl ?_)
  refine wpAny_bind (wpAny_newTuple ?_)
  have hsz : h₅.objs.size = s.heap.objs.size := by rw [hs₅.1, hs₄.1, hs₃.1, hs₂.1, hs₁.1]
  have hz₅ : IsZip h₅ z TI TO .ellipsis := hs₅.extBut _ _ D.TOz.symm (hs₄.extBut _ _ D.i2z.symm (hs₃.extBut _ _ D.TOz.symm (hs₂.extBut _ _ D.i1z.symm hz₁)))
  have hk₅ : ∀ c o, c ≠ z → c ≠ TO → c ≠ i1 → c ≠ i2 → s.heap.get? c = some o → h₅.get? c = some o := fun c o c1 c2 c3 c4 e =>
    hs₅.extBut _ _ c2 (hs₄.extBut _ _ c4 (hs₃.extBut _ _ c2 (hs₂.extBut _ _ c3 (hs₁.extBut _ _ c1 e))))
  have h1₅ : h₅.IsTupleIter i1 l1 (k1 + 1) := ((h1₂.extBut hs₃.extBut D.TOi1.symm).extBut hs₄.extBut D.i12).extBut hs₅.extBut D.TOi1.symm
  have h2₅ : h₅.IsTupleIter i2 l2 (k2 + 1) := h2₄.extBut hs₅.extBut D.TOi2.symm
  have hzlt : z < h₅.objs.size := Heap.lt_size hz₅
  have hTOlt : TO < h₅.objs.size := Heap.lt_size hTO₅
  show wpAny _ _ (Builtin.SmallTypes.ownedTupleHandOut (.ref z) (.ref h₅.objs.size) >>= _) _ _ _
  refine wpAny_bind ?_
  unfold Builtin.SmallTypes.ownedTupleHandOut
  have hz₆ : IsZip (h₅.push { cls := .type "tuple", data := .seq #[x, y] }) z TI TO .ellipsis := Heap.get?_push_of_some _ hz₅
  refine wpAny_bind (wpAny_setField_rec hz₆ (by simp) fun h₇ hz₇ hs₇ => ?_)
  replace hz₇ : IsZip h₇ z TI TO (rawInt h₅.objs.size) := hz₇
  refine wpAny_setField_rec hz₇ (by simp) fun h₈ hz₈ hs₈ => ?_
  replace hz₈ : IsZip h₈ z TI TO (rawInt h₅.objs.size) := hz₈
  have up : ∀ c o, c ≠ z → h₅.get? c = some o → h₈.get? c = some o := fun c o c1 e => hs₈.extBut _ _ c1 (hs₇.extBut _ _ c1 (Heap.get?_push_of_some _ e))
  have hT₈ : IsPair h₈ h₅.objs.size x y := hs₈.extBut _ _ (Nat.ne_of_gt hzlt) (hs₇.extBut _ _ (Nat.ne_of_gt hzlt) (Heap.get?_push_size _ rfl))
  have hz8 : h₈.objs.size = h₅.objs.size + 1 := by rw [hs₈.1, hs₇.1, Heap.size_push]
  rw [hsz] at hz₈ hT₈ hz8
  refine wpAny_pure ⟨_, rfl, ?_⟩
  show Q (.ref h₅.objs.size) _
  rw [hsz]
  exact hQ h₈ hz₈ (up _ _ D.TOz hTO₅) (h1₅.at fun o e => up _ o D.i1z e) (h2₅.at fun o e => up _ o D.i2z e) hT₈ hz8 fun c o c1 c2 c3 c4 e => up c o c1 (hk₅ c o c1 c2 c3 c4 e)

theorem zip_end_tup {z TI TO i1 i2 l1 l2 : Addr} {k1 : Nat} {xs : Array Value} {Q : Fin → Shared → Prop} (hh : A.handled = none) (D : ZipApart z TI TO i1 i2 l1 l2)
    (hz : IsZip s.heap z TI TO .none) (hTI : IsPair s.heap TI (.ref i1) (.ref i2))
    (h1 : s.heap.IsTupleIter i1 l1 k1) (hl1 : s.heap.IsTuple l1 xs) (hend : xs[k1]? = none)
    (hE : ∀ h' e, (∀ c o, c ≠ z → c ≠ TO → c ≠ i1 → c ≠ i2 → s.heap.get? c = some o → h'.get? c = some o) → (∃ o, h'.get? e = some o ∧ o.cls = .type "StopIteration") → E (.ref e) { s with heap := h' }) :
    wpAny (model prog w) A (Builtin.«zip.__next__» ⟨[.ref z], []⟩) Q E s := by
  show wpAny _ _ (field (.ref z) 2 >>= _) _ _ _
  refine wpAny_bind (wpAny_field hz rfl (x := .bool false) rfl ?_)
  show wpAny _ _ (field (.ref z) 3 >>= _) _ _ _
  refine wpAny_bind (wpAny_field hz rfl (x := .ref TI) rfl ?_)
  refine wpAny_bind (wpAny_seqItems hTI rfl ?_)
  show wpAny _ _ (Builtin.SmallTypes.ownedTupleIsFree (.ref z) >>= _) _ _ _
  refine wpAny_bind ?_
  unfold Builtin.SmallTypes.ownedTupleIsFree
  refine wpAny_bind (wpAny_field hz rfl (x := .none) rfl (wpAny_pure ?_))
  simp only [if_true]
  refine wpAny_bind (wpAny_rule ?_)
  refine wpAny_bind (wpAny_field hz rfl (x := .ref TO) rfl ?_)
  refine wpAny_bind (wpAny_setField_rec hz (by simp) fun h₁ hz₁ hs₁ => ?_)
  replace hz₁ : IsZip h₁ z TI TO .ellipsis := hz₁
  refine wpAny_bind ?_
  simp only [List.zipIdx_cons, List.zipIdx_nil, List.forIn_cons, List.forIn_nil]
  refine wpAny_bind (wpAny_bind (wpAny_onRaise ?_))
  show wpAny _ _ (Builtin.SmallTypes.nextOf (.ref i1) >>= _) _ _ _
  refine wpAny_bind (nextOf_tup_end hh (h1.extBut hs₁.extBut D.i1z) (hl1.extBut hs₁.extBut D.l1z) hend fun h₂ e hs₂ he => ?_)
  obtain ⟨oe, hoe, hce⟩ := he
  have hz₂ : IsZip h₂ z TI TO .ellipsis := hs₂ _ _ D.i1z.symm hz₁
  have hez : e ≠ z := fun x => by subst x; rw [hz₂] at hoe; cases hoe; simp at hce
  refine wpAny_setField_rec hz₂ (by simp) fun h₃ _ hs₃ => hE h₃ e (fun c o c1 _ c3 _ x => hs₃.extBut _ _ c1 (hs₂ _ _ c3 (hs₁.extBut _ _ c1 x))) ⟨oe, hs₃.extBut _ _ hez hoe, hce⟩

theorem zipTupWalks (hh : A.handled = none) (z TI TO i1 i2 l1 l2 : Addr) (D : ZipApart z TI TO i1 i2 l1 l2) (xs ys : Array Value) (hsz : xs.size = ys.size) :
    WalksT prog w A z [z, TI, TO, i1, i2, l1, l2] [z, TO, i1, i2] xs.size
      (fun i vals => ∃ x y, xs[i]? = some x ∧ ys[i]? = some y ∧ vals = #[x, y])
      (fun i h => IsZip h z TI TO .none ∧ IsPair h TI (.ref i1) (.ref i2) ∧ (∃ a b, IsPair h TO a b) ∧ h.IsTupleIter i1 l1 i ∧ h.IsTupleIter i2 l2 i ∧ h.IsTuple l1 xs ∧ h.IsTuple l2 ys)
      (fun i T h => IsZip h z TI TO (rawInt T) ∧ IsPair h TI (.ref i1) (.ref i2) ∧ (∃ a b, IsPair h TO a b) ∧ h.IsTupleIter i1 l1 (i + 1) ∧ h.IsTupleIter i2 l2 (i + 1) ∧ h.IsTuple l1 xs ∧ h.IsTuple l2 ys ∧
        T ≠ z ∧ T ≠ TO ∧ T ≠ i1 ∧ T ≠ i2) where
  sub := fun c hc => by
    rcases mem4 hc with e | e | e | e
    · exact memE e (.head _)
    · exact memE e (.tail _ (.tail _ (.head _)))
    · exact memE e (.tail _ (.tail _ (.tail _ (.head _))))
    · exact memE e (.tail _ (.tail _ (.tail _ (.tail _ (.head _)))))
  frame := fun i h h' hst hk => by
    obtain ⟨hz, hTI, ⟨a, b, hTO⟩, h1, h2, hl1, hl2⟩ := hst
    exact ⟨hk z (.head _) _ hz, hk TI (.tail _ (.head _)) _ hTI, ⟨a, b, hk TO (.tail _ (.tail _ (.head _))) _ hTO⟩, h1.at fun o e => hk i1 (.tail _ (.tail _ (.tail _ (.head _)))) o e, h2.at fun o e => hk i2 (.tail _ (.tail _ (.tail _ (.tail _ (.head _))))) o e,
      hl1.at fun o e => hk l1 (.tail _ (.tail _ (.tail _ (.tail _ (.tail _ (.head _)))))) o e, hl2.at fun o e => hk l2 (.tail _ (.tail _ (.tail _ (.tail _ (.tail _ (.tail _ (.head _))))))) o e⟩
  item := fun i s Q E hi hst hQ => by
    obtain ⟨hz, hTI, ⟨a, b, hTO⟩, h1, h2, hl1, hl2⟩ := hst
    have hiy : i < ys.size := hsz ▸ hi
    have hT : s.TypeIs (.ref z) "zip" := ⟨_, hz, rfl⟩
    unfold pyNext
    refine wpAny_bind (wpAny_attempt (wpAny_callSpecial?_slot (name := Str.ofString "__next__") hT F.slot_zip_next
      (wpAny_call_entry F.slot_zip_next hT F.entry_zip_next
        (zip_item_tup D hz hTI hTO h1 h2 hl1 hl2 (Array.getElem?_eq_getElem hi) (Array.getElem?_eq_getElem hiy) fun h' a1 a2 a3 a4 a5 a6 hk => wpAny_pure ?_) (F.args_zip_next_1 _))))
    have lt : ∀ {c o}, s.heap.get? c = some o → s.heap.objs.size ≠ c := fun e => Nat.ne_of_gt (Heap.lt_size e)
    exact hQ s.heap.objs.size #[xs[i], ys[i]] h' s.toks ⟨_, _, Array.getElem?_eq_getElem hi, Array.getElem?_eq_getElem hiy, rfl⟩ (Nat.le_refl _) ⟨_, a5, rfl, _, rfl⟩
      ⟨a1, hk _ _ D.TIz D.TITO D.TIi1 D.TIi2 hTI, ⟨_, _, a2⟩, a3, a4, hl1.at fun o e => hk _ o D.l1z D.l1TO D.l1i1 D.l1i2 e, hl2.at fun o e => hk _ o D.l2z D.l2TO D.l2i1 D.l2i2 e,
        lt hz, lt hTO, (by obtain ⟨_, e, _⟩ := h1; exact lt e), (by obtain ⟨_, e, _⟩ := h2; exact lt e)⟩
      fun c o hc e => hk c o (fun x => hc (memE x (.head _))) (fun x => hc (memE x (.tail _ (.head _)))) (fun x => hc (memE x (.tail _ (.tail _ (.head _))))) (fun x => hc (memE x (.tail _ (.tail _ (.tail _ (.head _)))))) e
  go := fun elts k pos i T s Q E hm hQ => by
    obtain ⟨hz, hTI, ⟨a, b, hTO⟩, h1, h2, hl1, hl2, _⟩ := hm
    refine wpAny_letOwnedTupleGo_zip hz fun h' hz' hs' => hQ h' ⟨hz', hs'.extBut _ _ D.TIz hTI, ⟨a, b, hs'.extBut _ _ D.TOz hTO⟩, h1.extBut hs'.extBut D.i1z, h2.extBut hs'.extBut D.i2z,
      hl1.extBut hs'.extBut D.l1z, hl2.extBut hs'.extBut D.l2z⟩ fun c o hc e => hs'.extBut _ _ (fun x => hc (memE x (.head _))) e
  apart := fun i T h hm hT => by
    obtain ⟨_, _, _, _, _, _, _, t1, t2, t3, t4⟩ := hm
    rcases mem4 hT with rfl | rfl | rfl | rfl
    · exact t1 rfl
    · exact t2 rfl
    · exact t3 rfl
    · exact t4 rfl
  done := fun s Q E hst hQ => by
    obtain ⟨hz, hTI, ⟨a, b, hTO⟩, h1, h2, hl1, hl2⟩ := hst
    have hT : s.TypeIs (.ref z) "zip" := ⟨_, hz, rfl⟩
    unfold pyNext
    refine wpAny_bind (wpAny_attempt (wpAny_callSpecial?_slot (name := Str.ofString "__next__") hT F.slot_zip_next
      (wpAny_call_entry F.slot_zip_next hT F.entry_zip_next (zip_end_tup hh D hz hTI h1 hl1 (by simp) fun h' e hk he => ?_) (F.args_zip_next_1 _))))
    obtain ⟨o, ho, hc⟩ := he
    refine wpAny_bind (wpAny_isInstance (T := "StopIteration") (b := true) ⟨o, ho, hc⟩ isSubtype_stop ?_)
    exact wpAny_pure (hQ _ s.toks fun b o hb e => hk b o (fun x => hb (memE x (.head _))) (fun x => hb (memE x (.tail _ (.head _)))) (fun x => hb (memE x (.tail _ (.tail _ (.head _))))) (fun x => hb (memE x (.tail _ (.tail _ (.tail _ (.head _)))))) e)
  self := fun _ _ _ _ st hQ => wpAny_pyIter_zip st.1 hQ
end tup
end Mine

end
section
open PySem PySem.W PySem.Spec PySem.Calls PyProof.Rows PyProof.Rows.LCg
set_option Elab.async false
set_option maxRecDepth 100000
set_option maxHeartbeats 1000000
namespace Mine

section
variable {prog : Program} {w : World} {A : Around} {E : Value → Shared → Prop} {s : Shared} {h₀ : Heap} {L : Addr} {m : Str → Option Value} {env : Env}

noncomputable def CFin (h₀ : Heap) (L : Addr) (m : Str → Option Value) (s : Shared) (Q : Value → Shared → Prop) (ys : List Value) (news : Led) : Prop :=
  ∀ D h tk, Fr h₀ L h m → News h₀ L h ((D, lst ys) :: news) → (∀ p ∈ news, p.1 ≠ D) → Q (.ref D) { s with heap := h, toks := tk }

/-- what is left to do with the iterable of a list comprehension -/
noncomputable def CSrc (prog : Program) (w : World) (A : Around) (env : Env) (target iter elt : Expr) (ifs : List Expr) (scope : Scope) (cl : List (Str × Addr)) (pos : Pos) (Q : Value → Shared → Prop) (E : Value → Shared → Prop) (xv : Value) (s₁ : Shared) : Prop :=
  wpAny (model prog w) A (pyIter xv) (fun it s₂ => wpAny (model prog w) A (newList []) (fun acc s₃ => wpAny (model prog w) A (newFunctionEnv scope env.globals cl [] env.qual none .none (some env)) (fun cenv s₄ =>
    codeAny (model prog w) A (.compStart (.ListComp elt [⟨target, iter, ifs, 0⟩] scope pos) 0 it acc { cenv with scope := relabel scope env }) (compPost (model prog w) A E none Q acc cenv.locals) s₄) E s₃) E s₂) E s₁

theorem listComp {elt target iter : Expr} {ifs : List Expr} {scope : Scope} {cl : List (Str × Addr)} {pos : Pos} {Q : Value → Shared → Prop}
    (hclos : closureFor scope env = pure cl) (hkind : scope.kind = .function) (hnames : ∀ y ∈ scope.names, y.2 = .local → scope.names.lookup y.1 = some .local)
    (h : wpAny (model prog w) A (eval iter env) (CSrc prog w A env target iter elt ifs scope cl pos Q E) E s)
    (hs : ∀ x, foldedSetIterable iter env x = pure x := by intro _; rfl) :
    wpAny (model prog w) A (eval (.ListComp elt [⟨target, iter, ifs, 0⟩] scope pos) env) Q E s := by
  rw [eval_ListComp]
  exact wpAny_comprehension_free (use := none) rfl hs hclos hkind hnames h

theorem csrc_of {elt target iter : Expr} {ifs : List Expr} {scope : Scope} {cl : List (Str × Addr)} {pos : Pos} {Q : Value → Shared → Prop} {xv : Value} {s₂ : Shared} {I : Addr} {fp wr : List Addr} {n : Nat} {P Md : Nat → Value → Heap → Prop} {St : Nat → Heap → Prop} {ws : List (Addr × String)} {keep : Led}
    {Bd : Nat → (Str → Option Value) → Prop} {news : Led}
    (hi : ∀ Q', Q' (.ref I) s₂ → wpAny (model prog w) A (pyIter xv) Q' E s)
    (W : KTurns prog w A target I fp wr n P Md St) (hsz : n ≤ sizeLine)
    (hself : ∀ (s : Shared) (Q : Value → Shared → Prop) (E : Value → Shared → Prop), St 0 s.heap → Q (.ref I) s → wpAny (model prog w) A (pyIter (.ref I)) Q E s)
    (hbind : ∀ i v C m₂ (u : Shared) (Q : Unit → Shared → Prop), i < n → P i v u.heap → u.heap.Ns C m₂ → (∀ h' tk m₃, Bd i m₃ → h'.Ns C m₃ → (∀ c o, c ≠ C → u.heap.get? c = some o → h'.get? c = some o) → Q () { u with heap := h', toks := tk }) →
      wpAny (model prog w) A (assign target (compEnvC scope cl C env) v) Q (fun _ _ => False) u)
    (hobj : ∀ i h, St i h → ∃ its, Objs ws its ∧ ∀ p ∈ its, h.get? p.1 = some p.2)
    (hws : ∀ b ∈ ws.map (·.1), b ∈ fp ∧ h₀.get? b = none ∧ b < s₂.heap.objs.size ∧ b ≠ L) (hwr : ∀ b ∈ wr, b ∈ ws.map (·.1))
    (hfp : ∀ b ∈ fp, b ∈ ws.map (·.1) ∨ ∃ o, (b, o) ∈ keep)
    (hcell : ∀ y ∈ scope.names, y.2 ≠ .cell) (hkind : scope.kind = .function)
    (hst : St 0 s₂.heap) (F : Fr h₀ L s₂.heap m) (N : News h₀ L s₂.heap news) (off : ∀ p ∈ news, p.1 ∉ ws.map (·.1)) (hkeep : ∀ p ∈ keep, p ∈ news)
    (R : CRest prog w A h₀ L m env elt ifs scope cl s₂ ws keep Bd (CFin h₀ L m s₂ Q) n 0 [] news) :
    CSrc prog w A env target iter elt ifs scope cl pos Q E xv s := by
  refine hi _ ?_
  refine comp_core W hsz hself hbind hobj hws hwr hfp hcell hkind hst F N off hkeep R ?_
  intro D C h tk m' ys news' F' N' o1 hn hC₀ hD₀ hCL hDL hCD offC fin
  refine ⟨m', hn, fun h'' hs'' => fin D h'' tk (F'.change hs'' hCL hC₀) (fun p hp => ?_) o1⟩
  refine ⟨hs''.extBut _ _ ?_ (N' p hp).1, (N' p hp).2⟩
  rcases List.mem_cons.mp hp with rfl | hp
  · exact Ne.symm hCD
  · exact offC p hp

theorem bind_name {scope : Scope} {cl : List (Str × Addr)} {x : Str} {px : Pos} {v : Value} {C : Addr} {m₂ : Str → Option Value} {u : Shared} {Q : Unit → Shared → Prop} {E : Value → Shared → Prop} (hx : scope.names.lookup x = some .local) (hkind : scope.kind = .function) (hn : u.heap.Ns C m₂)
    (h : ∀ h' tk m₃, m₃ x = some v → h'.Ns C m₃ → (∀ c o, c ≠ C → u.heap.get? c = some o → h'.get? c = some o) → Q () { u with heap := h', toks := tk }) :
    wpAny (model prog w) A (assign (.Name x px) (compEnvC scope cl C env) v) Q E u := by
  refine wpAny_assign_Name (wpAny_storeName_local (lookup_relabel_local hx) hn (fun h₃ hn₃ hs₃ => ?_) (by simp [compEnvC, relabel, hkind]))
  exact h h₃ _ _ (by simp) hn₃ fun c o hc e => hs₃.extBut c o hc e

theorem bind_pair {scope : Scope} {cl : List (Str × Addr)} {a b : Str} {pa pb tp : Pos} {kk : Nat} {T : Addr} {x y : Value} {C : Addr} {m₂ : Str → Option Value} {u : Shared} {Q : Unit → Shared → Prop} {E : Value → Shared → Prop} (hh : A.handled = none) (hT : u.heap.IsTuple T #[x, y])
    (ha : scope.names.lookup a = some .local) (hb : scope.names.lookup b = some .local) (hab : ¬ a = b) (hkind : scope.kind = .function) (hn : u.heap.Ns C m₂)
    (h : ∀ h' tk m₃, m₃ a = some x ∧ m₃ b = some y → h'.Ns C m₃ → (∀ c o, c ≠ C → u.heap.get? c = some o → h'.get? c = some o) → Q () { u with heap := h', toks := tk }) :
    wpAny (model prog w) A (assign (.Tuple [.Name a pa, .Name b pb] kk tp) (compEnvC scope cl C env) (.ref T)) Q E u :=
  kcp_assign (env := compEnvC scope cl C env) hh hT (lookup_relabel_local ha) (lookup_relabel_local hb) (by simp [compEnvC, relabel, hkind]) hn
    fun h' tk hn' hk => h h' tk _ ⟨by simp [hab], by simp⟩ hn' hk

theorem ws_two {b a c : Addr} {p q : String} (h : b ∈ [(a, p), (c, q)].map (·.1)) : b = a ∨ b = c := by simpa using h
theorem new_none {b : Addr} (F : Fr h₀ L s.heap m) (hb : s.heap.objs.size ≤ b) : h₀.get? b = none ∧ b ≠ L := by
  refine ⟨?_, fun e => ?_⟩
  · cases e : h₀.get? b with
    | none => rfl
    | some o => exact absurd (Heap.lt_size (F.keep _ _ e)) (Nat.not_lt.mpr hb)
  · subst e; exact absurd F.ns.lt (Nat.not_lt.mpr hb)

/-- a comprehension over the items of a tuple, one name -/
theorem csrc_tup {elt iter : Expr} {ifs : List Expr} {x : Str} {px : Pos} {scope : Scope} {cl : List (Str × Addr)} {pos : Pos} {Q : Value → Shared → Prop} {t : Addr} {lo : Obj} {vs : List Value} {k : Nat} {news : Led}
    (hh : A.handled = none) (F : Fr h₀ L s.heap m) (N : News h₀ L s.heap news) (hm : (t, lo) ∈ news) (hc : lo.cls = .type "tuple") (hd : lo.data = .seq vs.toArray k) (hsz : vs.length ≤ sizeLine)
    (hcell : ∀ y ∈ scope.names, y.2 ≠ .cell) (hkind : scope.kind = .function) (hx : scope.names.lookup x = some .local)
    (R : ∀ g I, CRest prog w A h₀ L m env elt ifs scope cl { s with heap := g } [(I, "tuple_iterator")] [(t, lo)] (fun i m₃ => ∃ v, vs[i]? = some v ∧ m₃ x = some v) (CFin h₀ L m { s with heap := g } Q) vs.length 0 [] news) :
    CSrc prog w A env (.Name x px) iter elt ifs scope cl pos Q E (.ref t) s := by
  have ht : s.heap.IsTuple t vs.toArray := ⟨lo, (N _ hm).1, hc, k, hd⟩
  have htl : t < s.heap.objs.size := Heap.lt_size (N _ hm).1
  have up : ∀ b o, s.heap.get? b = some o → (s.heap.push { cls := .type "tuple_iterator", data := .fields #[.ref t, .int 0 0] }).get? b = some o := fun b o e => Heap.get?_push_of_some _ e
  have nw := new_none F (Nat.le_refl s.heap.objs.size)
  have W := KTurns.ofWalks (target := .Name x px) (Walks.tuple (prog := prog) (w := w) hh s.heap.objs.size t (Nat.ne_of_lt htl) vs.toArray) fun i v s Q E st q => letGo_tupleiter st.1 q
  rw [List.size_toArray] at W
  refine csrc_of (h₀ := h₀) (L := L) (m := m) (n := vs.length) (ws := [(s.heap.objs.size, "tuple_iterator")]) (keep := [(t, lo)]) (news := news) (fun Q' h' => wpAny_pyIter_tuple ht h') W hsz
    (fun s Q E st hQ => wpAny_pyIter_tupleiter st.1 hQ) (fun i v C m₂ u Q hi hP hn hq => bind_name hx hkind hn fun h' tk m₃ e hn' hk => hq h' tk m₃ ⟨v, by simpa using hP, e⟩ hn' hk)
    (fun i h st => ?_) (fun b hb => ?_) (fun b hb => by simpa using hb) (fun b hb => ?_) hcell hkind ?_ (F.keeps up) (N.grown up) (fun p hp => ?_) (fun p hp => by rw [List.mem_singleton.mp hp]; exact hm) (R _ _)
  · obtain ⟨o, ho, hc, _⟩ := st.1
    exact ⟨[(s.heap.objs.size, o)], ⟨⟨rfl, hc⟩, trivial⟩, fun p hp => by rw [List.mem_singleton.mp hp]; exact ho⟩
  · have e : b = s.heap.objs.size := by simpa using hb
    subst e
    exact ⟨by simp, nw.1, by rw [Heap.size_push]; exact Nat.lt_succ_self _, nw.2⟩
  · have hb' : b = s.heap.objs.size ∨ b = t := by simpa using hb
    rcases hb' with e | e
    · exact .inl (by simp [e])
    · exact .inr ⟨lo, by simp [e]⟩
  · exact ⟨⟨_, Heap.get?_push_size _ rfl, rfl, rfl⟩, ht.at fun o e => up _ o e⟩
  · have : p.1 ≠ s.heap.objs.size := Nat.ne_of_lt (Heap.lt_size (N p hp).1)
    simpa using this

/-- the same over a list -/
theorem csrc_list {elt iter : Expr} {ifs : List Expr} {x : Str} {px : Pos} {scope : Scope} {cl : List (Str × Addr)} {pos : Pos} {Q : Value → Shared → Prop} {t : Addr} {lo : Obj} {vs : List Value} {k : Nat} {news : Led}
    (hh : A.handled = none) (F : Fr h₀ L s.heap m) (N : News h₀ L s.heap news) (hm : (t, lo) ∈ news) (hc : lo.cls = .type "list") (hd : lo.data = .seq vs.toArray k) (hsz : vs.length ≤ sizeLine)
    (hcell : ∀ y ∈ scope.names, y.2 ≠ .cell) (hkind : scope.kind = .function) (hx : scope.names.lookup x = some .local)
    (R : ∀ g I, CRest prog w A h₀ L m env elt ifs scope cl { s with heap := g } [(I, "list_iterator")] [(t, lo)] (fun i m₃ => ∃ v, vs[i]? = some v ∧ m₃ x = some v) (CFin h₀ L m { s with heap := g } Q) vs.length 0 [] news) :
    CSrc prog w A env (.Name x px) iter elt ifs scope cl pos Q E (.ref t) s := by
  have ht : s.heap.IsList t vs.toArray := ⟨lo, (N _ hm).1, hc, k, hd⟩
  have htl : t < s.heap.objs.size := Heap.lt_size (N _ hm).1
  have up : ∀ b o, s.heap.get? b = some o → (s.heap.push { cls := .type "list_iterator", data := .fields #[.ref t, .int 0 0] }).get? b = some o := fun b o e => Heap.get?_push_of_some _ e
  have nw := new_none F (Nat.le_refl s.heap.objs.size)
  have W := KTurns.ofWalks (target := .Name x px) (Walks.list (prog := prog) (w := w) hh s.heap.objs.size t (Nat.ne_of_lt htl) vs.toArray) fun i v s Q E st q => letGo_listiter st.1 q
  rw [List.size_toArray] at W
  refine csrc_of (h₀ := h₀) (L := L) (m := m) (n := vs.length) (ws := [(s.heap.objs.size, "list_iterator")]) (keep := [(t, lo)]) (news := news) (fun Q' h' => wpAny_pyIter_list ht h') W hsz
    (fun s Q E st hQ => wpAny_pyIter_listiter st.1 hQ) (fun i v C m₂ u Q hi hP hn hq => bind_name hx hkind hn fun h' tk m₃ e hn' hk => hq h' tk m₃ ⟨v, by simpa using hP, e⟩ hn' hk)
    (fun i h st => ?_) (fun b hb => ?_) (fun b hb => by simpa using hb) (fun b hb => ?_) hcell hkind ?_ (F.keeps up) (N.grown up) (fun p hp => ?_) (fun p hp => by rw [List.mem_singleton.mp hp]; exact hm) (R _ _)
  · obtain ⟨o, ho, hc, _⟩ := st.1
    exact ⟨[(s.heap.objs.size, o)], ⟨⟨rfl, hc⟩, trivial⟩, fun p hp => by rw [List.mem_singleton.mp hp]; exact ho⟩
  · have e : b = s.heap.objs.size := by simpa using hb
    subst e
    exact ⟨by simp, nw.1, by rw [Heap.size_push]; exact Nat.lt_succ_self _, nw.2⟩
  · have hb' : b = s.heap.objs.size ∨ b = t := by simpa using hb
    rcases hb' with e | e
    · exact .inl (by simp [e])
    · exact .inr ⟨lo, by simp [e]⟩
  · exact ⟨⟨_, Heap.get?_push_size _ rfl, rfl, rfl⟩, ht.at fun o e => up _ o e⟩
  · have : p.1 ≠ s.heap.objs.size := Nat.ne_of_lt (Heap.lt_size (N p hp).1)
    simpa using this

noncomputable abbrev enumO (it : Addr) : Obj := { cls := .type "enumerate", dict := none, data := .fields #[.none, .bool false, .ref it, rawInt 0, .none, .none], slots := #[] }
noncomputable abbrev tupItO (t : Addr) : Obj := { cls := .type "tuple_iterator", data := .fields #[.ref t, .int 0 0] }
noncomputable abbrev zipO (TI TO : Addr) : Obj := { cls := .type "zip", dict := none, data := .fields #[.none, .bool false, .bool false, .ref TI, .ref TO], slots := #[] }
noncomputable abbrev pairO (a b : Value) : Obj := { cls := .type "tuple", data := .seq #[a, b] }

theorem iter_full {h : Heap} {it t : Addr} (hx : h.IsTupleIter it t 0) : ∃ o : Obj, h.get? it = some o ∧ o.cls = .type "tuple_iterator" ∧ o.data = .fields #[.ref t, .int 0 0] := by
  obtain ⟨o, ho, hc, hd⟩ := hx
  exact ⟨o, ho, hc, by simpa using hd⟩

/-- enumerate(t), t a tuple of the ledger -/
theorem enum_led {t : Addr} {lo : Obj} {vs : List Value} {k : Nat} {news : Led} {Q : Value → Shared → Prop}
    (F : Fr h₀ L s.heap m) (N : News h₀ L s.heap news) (hm : (t, lo) ∈ news) (hc : lo.cls = .type "tuple") (hd : lo.data = .seq vs.toArray k)
    (h : ∀ e it o h', o.cls = .type "tuple_iterator" → o.data = .fields #[.ref t, .int 0 0] → Fr h₀ L h' m → News h₀ L h' ((e, enumO it) :: (it, o) :: news) → (∀ p ∈ news, p.1 < it) → it < e → Q (.ref e) { s with heap := h' }) :
    wpAny (model prog w) A (call (.type "enumerate") [.ref t]) Q E s := by
  have ht : s.heap.IsTuple t vs.toArray := ⟨lo, (N _ hm).1, hc, k, hd⟩
  refine call_enum_tup ht fun h' he hi hz hk => ?_
  obtain ⟨o, ho, hoc, hod⟩ := iter_full hi
  have n1 := new_none F (Nat.le_succ s.heap.objs.size)
  have n0 := new_none F (Nat.le_refl s.heap.objs.size)
  refine h _ s.heap.objs.size o h' hoc hod (F.keeps hk) (fun p hp => ?_) (fun p hp => Heap.lt_size (N p hp).1) (Nat.lt_succ_self _)
  rcases List.mem_cons.mp hp with rfl | hp
  · exact ⟨he, n1.2, n1.1⟩
  rcases List.mem_cons.mp hp with rfl | hp
  · exact ⟨ho, n0.2, n0.1⟩
  · exact (N.grown hk) p hp

/-- zip(t, u), both tuples of the ledger -/
theorem zip_led {t u : Addr} {lo lu : Obj} {xs ys : List Value} {k k' : Nat} {news : Led} {Q : Value → Shared → Prop}
    (F : Fr h₀ L s.heap m) (N : News h₀ L s.heap news) (hm : (t, lo) ∈ news) (hc : lo.cls = .type "tuple") (hd : lo.data = .seq xs.toArray k) (hm' : (u, lu) ∈ news) (hc' : lu.cls = .type "tuple") (hd' : lu.data = .seq ys.toArray k')
    (h : ∀ I o₁ o₂ h', o₁.cls = .type "tuple_iterator" → o₁.data = .fields #[.ref t, .int 0 0] → o₂.cls = .type "tuple_iterator" → o₂.data = .fields #[.ref u, .int 0 0] → Fr h₀ L h' m →
      News h₀ L h' ((I + 4, zipO (I + 2) (I + 3)) :: (I + 3, pairO .none .none) :: (I + 2, pairO (.ref I) (.ref (I + 1))) :: (I + 1, o₂) :: (I, o₁) :: news) → (∀ p ∈ news, p.1 < I) → Q (.ref (I + 4)) { s with heap := h' }) :
    wpAny (model prog w) A (call (.type "zip") [.ref t, .ref u]) Q E s := by
  have ht : s.heap.IsTuple t xs.toArray := ⟨lo, (N _ hm).1, hc, k, hd⟩
  have hu : s.heap.IsTuple u ys.toArray := ⟨lu, (N _ hm').1, hc', k', hd'⟩
  refine call_zip_tup ht hu fun h' hz hTI hTO hi hi' hsz hk => ?_
  obtain ⟨o, ho, hoc, hod⟩ := iter_full hi
  obtain ⟨o', ho', hoc', hod'⟩ := iter_full hi'
  have nn : ∀ j, h₀.get? (s.heap.objs.size + j) = none ∧ s.heap.objs.size + j ≠ L := fun j => new_none F (Nat.le_add_right _ j)
  refine h _ o o' h' hoc hod hoc' hod' (F.keeps hk) (fun p hp => ?_) (fun p hp => Heap.lt_size (N p hp).1)
  rcases List.mem_cons.mp hp with rfl | hp
  · exact ⟨hz, (nn 4).2, (nn 4).1⟩
  rcases List.mem_cons.mp hp with rfl | hp
  · exact ⟨hTO, (nn 3).2, (nn 3).1⟩
  rcases List.mem_cons.mp hp with rfl | hp
  · exact ⟨hTI, (nn 2).2, (nn 2).1⟩
  rcases List.mem_cons.mp hp with rfl | hp
  · exact ⟨ho', (nn 1).2, (nn 1).1⟩
  rcases List.mem_cons.mp hp with rfl | hp
  · exact ⟨ho, (nn 0).2, (nn 0).1⟩
  · exact (N.grown hk) p hp

theorem enumTurns {elts : List Expr} {kk : Nat} {tp : Pos} (hh : A.handled = none) {e it t : Addr} (h1 : e ≠ it) (h2 : t ≠ it) (h3 : e ≠ t) (items : Array Value) :
    KTurns prog w A (.Tuple elts kk tp) e [e, it, t] [e, it] items.size (fun i v h => ∃ T vals, v = .ref T ∧ (∃ tk x, items[i]? = some x ∧ vals = #[.int i tk, x]) ∧ h.IsTuple T vals)
      (fun i v h => ∃ T vals, v = .ref T ∧ (∃ tk x, items[i]? = some x ∧ vals = #[.int i tk, x]) ∧ h.IsTuple T vals ∧ ((∃ x, IsEnumOut h e it ((i : Int) + 1) x T) ∧ (h.IsTupleIter it t (i + 1) ∧ h.IsTuple t items) ∧ T ≠ e ∧ T ≠ it))
      (fun i h => (∃ old, IsEnum h e it i old) ∧ (h.IsTupleIter it t i ∧ h.IsTuple t items)) :=
  KTurns.ofWalksU (WalksT.enumerateD (drawsTup (A := A.in1) hh it t h2 items) e h1 (by simp [h1, h3]) (by simp)).toU

/-- a comprehension over an enumerate object that stands in the ledger -/
theorem csrc_enum {elt iter : Expr} {ifs : List Expr} {a b : Str} {pa pb tp : Pos} {kk : Nat} {scope : Scope} {cl : List (Str × Addr)} {pos : Pos} {Q : Value → Shared → Prop} {e it t : Addr} {lo o : Obj} {vs : List Value} {k : Nat} {news all : Led}
    (hh : A.handled = none) (F : Fr h₀ L s.heap m) (N : News h₀ L s.heap all) (he : (e, enumO it) ∈ all) (hi : (it, o) ∈ all) (hoc : o.cls = .type "tuple_iterator") (hod : o.data = .fields #[.ref t, .int 0 0])
    (hn : ∀ p ∈ news, p ∈ all) (off : ∀ p ∈ news, p.1 ≠ e ∧ p.1 ≠ it) (hei : e ≠ it) (hm : (t, lo) ∈ news) (hc : lo.cls = .type "tuple") (hd : lo.data = .seq vs.toArray k) (hsz : vs.length ≤ sizeLine)
    (hcell : ∀ y ∈ scope.names, y.2 ≠ .cell) (hkind : scope.kind = .function) (ha : scope.names.lookup a = some .local) (hb : scope.names.lookup b = some .local) (hab : ¬ a = b)
    (R : CRest prog w A h₀ L m env elt ifs scope cl s [(e, "enumerate"), (it, "tuple_iterator")] [(t, lo)] (fun i m₃ => ∃ tk v, vs[i]? = some v ∧ m₃ a = some (.int i tk) ∧ m₃ b = some v) (CFin h₀ L m s Q) vs.length 0 [] news) :
    CSrc prog w A env (.Tuple [.Name a pa, .Name b pb] kk tp) iter elt ifs scope cl pos Q E (.ref e) s := by
  have ht : s.heap.IsTuple t vs.toArray := ⟨lo, (N _ (hn _ hm)).1, hc, k, hd⟩
  have he' : IsEnum s.heap e it 0 .none := (N _ he).1
  have hi' : s.heap.IsTupleIter it t 0 := ⟨o, (N _ hi).1, hoc, by simpa using hod⟩
  have W := enumTurns (prog := prog) (w := w) (elts := [.Name a pa, .Name b pb]) (kk := kk) (tp := tp) hh hei (off _ hm).2 (Ne.symm (off _ hm).1) vs.toArray
  rw [List.size_toArray] at W
  refine csrc_of (h₀ := h₀) (L := L) (m := m) (n := vs.length) (ws := [(e, "enumerate"), (it, "tuple_iterator")]) (keep := [(t, lo)]) (news := news) (fun Q' h' => wpAny_pyIter_enum he' h') W hsz
    (fun s Q E st hQ => by obtain ⟨⟨old, h⟩, _⟩ := st; exact wpAny_pyIter_enum h hQ)
    (fun i v C m₂ u Q hi hP hn' hq => ?_)
    (fun i h st => ?_) (fun b hb => ?_) (fun b hb => by simpa using hb) (fun b hb => ?_) hcell hkind ⟨⟨_, he'⟩, hi', ht⟩ F (fun p hp => N p (hn p hp)) (fun p hp => ?_) (fun p hp => by rw [List.mem_singleton.mp hp]; exact hm) R
  · obtain ⟨T, vals, rfl, ⟨tk, x, hx, rfl⟩, hT⟩ := hP
    exact bind_pair hh hT ha hb hab hkind hn' fun h' tk' m₃ e' hn'' hk => hq h' tk' m₃ ⟨tk, x, by simpa using hx, e'.1, e'.2⟩ hn'' hk
  · obtain ⟨⟨old, h1⟩, ⟨o', h2, h3, _⟩, _⟩ := st
    have h1' : ∃ oe : Obj, h.get? e = some oe ∧ oe.cls = .type "enumerate" := ⟨_, h1, rfl⟩
    obtain ⟨oe, h1a, h1b⟩ := h1'
    refine ⟨[(e, oe), (it, o')], ⟨⟨rfl, h1b⟩, ⟨rfl, h3⟩, trivial⟩, fun p hp => ?_⟩
    rcases List.mem_cons.mp hp with rfl | hp
    · exact h1a
    · rw [List.mem_singleton.mp hp]; exact h2
  · rcases ws_two hb with rfl | rfl
    · exact ⟨.head _, (N _ he).2.2, Heap.lt_size (N _ he).1, (N _ he).2.1⟩
    · exact ⟨.tail _ (.head _), (N _ hi).2.2, Heap.lt_size (N _ hi).1, (N _ hi).2.1⟩
  · rcases mem3 hb with e' | e' | e'
    · exact .inl (memE e' (.head _))
    · exact .inl (memE e' (.tail _ (.head _)))
    · exact .inr ⟨lo, memX e' (.head _)⟩
  · intro hw
    rcases ws_two hw with e' | e'
    · exact (off p hp).1 e'
    · exact (off p hp).2 e'

theorem zipTurns {elts : List Expr} {kk : Nat} {tp : Pos} (hh : A.handled = none) {z TI TO i1 i2 l1 l2 : Addr} (D : ZipApart z TI TO i1 i2 l1 l2) (xs ys : Array Value) (hsz : xs.size = ys.size) :
    KTurns prog w A (.Tuple elts kk tp) z [z, TI, TO, i1, i2, l1, l2] [z, TO, i1, i2] xs.size (fun i v h => ∃ T vals, v = .ref T ∧ (∃ x y, xs[i]? = some x ∧ ys[i]? = some y ∧ vals = #[x, y]) ∧ h.IsTuple T vals)
      (fun i v h => ∃ T vals, v = .ref T ∧ (∃ x y, xs[i]? = some x ∧ ys[i]? = some y ∧ vals = #[x, y]) ∧ h.IsTuple T vals ∧ (IsZip h z TI TO (rawInt T) ∧ IsPair h TI (.ref i1) (.ref i2) ∧ (∃ a b, IsPair h TO a b) ∧ h.IsTupleIter i1 l1 (i + 1) ∧ h.IsTupleIter i2 l2 (i + 1) ∧ h.IsTuple l1 xs ∧ h.IsTuple l2 ys ∧
        T ≠ z ∧ T ≠ TO ∧ T ≠ i1 ∧ T ≠ i2))
      (fun i h => IsZip h z TI TO .none ∧ IsPair h TI (.ref i1) (.ref i2) ∧ (∃ a b, IsPair h TO a b) ∧ h.IsTupleIter i1 l1 i ∧ h.IsTupleIter i2 l2 i ∧ h.IsTuple l1 xs ∧ h.IsTuple l2 ys) :=
  KTurns.ofWalksU (zipTupWalks hh z TI TO i1 i2 l1 l2 D xs ys hsz).toU

noncomputable abbrev zipWs (I : Addr) : List (Addr × String) := [(I + 4, "zip"), (I + 2, "tuple"), (I + 3, "tuple"), (I, "tuple_iterator"), (I + 1, "tuple_iterator")]
theorem zipWs_mem {I b : Addr} (h : b ∈ (zipWs I).map (·.1)) : b = I + 4 ∨ b = I + 2 ∨ b = I + 3 ∨ b = I ∨ b = I + 1 := by simpa using h
theorem zip_objs {I l1 l2 : Addr} {xs ys : Array Value} {i : Nat} {h : Heap} (st : IsZip h (I + 4) (I + 2) (I + 3) .none ∧ IsPair h (I + 2) (.ref I) (.ref (I + 1)) ∧ (∃ a b, IsPair h (I + 3) a b) ∧ h.IsTupleIter I l1 i ∧ h.IsTupleIter (I + 1) l2 i ∧ h.IsTuple l1 xs ∧ h.IsTuple l2 ys) :
    ∃ its, Objs (zipWs I) its ∧ ∀ p ∈ its, h.get? p.1 = some p.2 := by
  obtain ⟨hz, hTI, ⟨a, b, hTO⟩, ⟨o1, ho1, hc1, _⟩, ⟨o2, ho2, hc2, _⟩, _⟩ := st
  have e1 : ∃ o : Obj, h.get? (I + 4) = some o ∧ o.cls = .type "zip" := ⟨_, hz, rfl⟩
  have e2 : ∃ o : Obj, h.get? (I + 2) = some o ∧ o.cls = .type "tuple" := ⟨_, hTI, rfl⟩
  have e3 : ∃ o : Obj, h.get? (I + 3) = some o ∧ o.cls = .type "tuple" := ⟨_, hTO, rfl⟩
  obtain ⟨q1, g1, k1⟩ := e1
  obtain ⟨q2, g2, k2⟩ := e2
  obtain ⟨q3, g3, k3⟩ := e3
  refine ⟨[(I + 4, q1), (I + 2, q2), (I + 3, q3), (I, o1), (I + 1, o2)], ⟨⟨rfl, k1⟩, ⟨rfl, k2⟩, ⟨rfl, k3⟩, ⟨rfl, hc1⟩, ⟨rfl, hc2⟩, trivial⟩, fun p hp => ?_⟩
  rcases List.mem_cons.mp hp with rfl | hp
  · exact g1
  rcases List.mem_cons.mp hp with rfl | hp
  · exact g2
  rcases List.mem_cons.mp hp with rfl | hp
  · exact g3
  rcases List.mem_cons.mp hp with rfl | hp
  · exact ho1
  · rw [List.mem_singleton.mp hp]; exact ho2

/-- a comprehension over a zip object that stands in the ledger -/
theorem csrc_zip {elt iter : Expr} {ifs : List Expr} {a b : Str} {pa pb tp : Pos} {kk : Nat} {scope : Scope} {cl : List (Str × Addr)} {pos : Pos} {Q : Value → Shared → Prop} {I t u : Addr} {lo lu o₁ o₂ : Obj} {xs ys : List Value} {k k' : Nat} {news : Led}
    (hh : A.handled = none) (F : Fr h₀ L s.heap m) (N : News h₀ L s.heap ((I + 4, zipO (I + 2) (I + 3)) :: (I + 3, pairO .none .none) :: (I + 2, pairO (.ref I) (.ref (I + 1))) :: (I + 1, o₂) :: (I, o₁) :: news))
    (hoc : o₁.cls = .type "tuple_iterator") (hod : o₁.data = .fields #[.ref t, .int 0 0]) (hoc' : o₂.cls = .type "tuple_iterator") (hod' : o₂.data = .fields #[.ref u, .int 0 0])
    (off : ∀ p ∈ news, p.1 < I) (hm : (t, lo) ∈ news) (hc : lo.cls = .type "tuple") (hd : lo.data = .seq xs.toArray k) (hm' : (u, lu) ∈ news) (hc' : lu.cls = .type "tuple") (hd' : lu.data = .seq ys.toArray k') (hl : xs.length = ys.length) (hsz : xs.length ≤ sizeLine)
    (hcell : ∀ y ∈ scope.names, y.2 ≠ .cell) (hkind : scope.kind = .function) (ha : scope.names.lookup a = some .local) (hb : scope.names.lookup b = some .local) (hab : ¬ a = b)
    (R : CRest prog w A h₀ L m env elt ifs scope cl s (zipWs I) [(t, lo), (u, lu)] (fun i m₃ => ∃ x y, xs[i]? = some x ∧ ys[i]? = some y ∧ m₃ a = some x ∧ m₃ b = some y) (CFin h₀ L m s Q) xs.length 0 [] news) :
    CSrc prog w A env (.Tuple [.Name a pa, .Name b pb] kk tp) iter elt ifs scope cl pos Q E (.ref (I + 4)) s := by
  have mem5 : ∀ p ∈ news, p ∈ (I + 4, zipO (I + 2) (I + 3)) :: (I + 3, pairO .none .none) :: (I + 2, pairO (.ref I) (.ref (I + 1))) :: (I + 1, o₂) :: (I, o₁) :: news := fun p hp => .tail _ (.tail _ (.tail _ (.tail _ (.tail _ hp))))
  have ht : s.heap.IsTuple t xs.toArray := ⟨lo, (N _ (mem5 _ hm)).1, hc, k, hd⟩
  have hu : s.heap.IsTuple u ys.toArray := ⟨lu, (N _ (mem5 _ hm')).1, hc', k', hd'⟩
  have n4 := N (I + 4, zipO (I + 2) (I + 3)) (.head _)
  have n3 := N (I + 3, pairO .none .none) (.tail _ (.head _))
  have n2 := N (I + 2, pairO (.ref I) (.ref (I + 1))) (.tail _ (.tail _ (.head _)))
  have n1 := N (I + 1, o₂) (.tail _ (.tail _ (.tail _ (.head _))))
  have n0 := N (I, o₁) (.tail _ (.tail _ (.tail _ (.tail _ (.head _)))))
  have hz : IsZip s.heap (I + 4) (I + 2) (I + 3) .none := n4.1
  have D : ZipApart (I + 4) (I + 2) (I + 3) I (I + 1) t u := ktu_apart _ _ _ (off _ hm) (off _ hm')
  have W := zipTurns (prog := prog) (w := w) (elts := [.Name a pa, .Name b pb]) (kk := kk) (tp := tp) hh D xs.toArray ys.toArray (by simpa using hl)
  rw [List.size_toArray] at W
  refine csrc_of (h₀ := h₀) (L := L) (m := m) (n := xs.length) (ws := zipWs I) (keep := [(t, lo), (u, lu)]) (news := news) (fun Q' h' => wpAny_pyIter_zip hz h') W hsz
    (fun s Q E st hQ => wpAny_pyIter_zip st.1 hQ)
    (fun i v C m₂ u Q hi hP hn' hq => ?_)
    (fun i h st => zip_objs st) (fun b hb => ?_) (fun b hb => ?_) (fun b hb => ?_) hcell hkind ⟨hz, n2.1, ⟨_, _, n3.1⟩, ⟨o₁, n0.1, hoc, by simpa using hod⟩, ⟨o₂, n1.1, hoc', by simpa using hod'⟩, ht, hu⟩ F (fun p hp => N p (mem5 p hp)) (fun p hp hw => ?_) (fun p hp => ?_) R
  · obtain ⟨T, vals, rfl, ⟨x, y, hx, hy, rfl⟩, hT⟩ := hP
    exact bind_pair hh hT ha hb hab hkind hn' fun h' tk' m₃ e' hn'' hk => hq h' tk' m₃ ⟨x, y, by simpa using hx, by simpa using hy, e'.1, e'.2⟩ hn'' hk
  · rcases zipWs_mem hb with rfl | rfl | rfl | rfl | rfl
    · exact ⟨.head _, n4.2.2, Heap.lt_size n4.1, n4.2.1⟩
    · exact ⟨.tail _ (.head _), n2.2.2, Heap.lt_size n2.1, n2.2.1⟩
    · exact ⟨.tail _ (.tail _ (.head _)), n3.2.2, Heap.lt_size n3.1, n3.2.1⟩
    · exact ⟨.tail _ (.tail _ (.tail _ (.head _))), n0.2.2, Heap.lt_size n0.1, n0.2.1⟩
    · exact ⟨.tail _ (.tail _ (.tail _ (.tail _ (.head _)))), n1.2.2, Heap.lt_size n1.1, n1.2.1⟩
  · rcases mem4 hb with e | e | e | e
    · exact memE e (.head _)
    · exact memE e (.tail _ (.tail _ (.head _)))
    · exact memE e (.tail _ (.tail _ (.tail _ (.head _))))
    · exact memE e (.tail _ (.tail _ (.tail _ (.tail _ (.head _)))))
  · rcases mem7 hb with e | e | e | e | e | e | e
    · exact .inl (memE e (.head _))
    · exact .inl (memE e (.tail _ (.head _)))
    · exact .inl (memE e (.tail _ (.tail _ (.head _))))
    · exact .inl (memE e (.tail _ (.tail _ (.tail _ (.head _)))))
    · exact .inl (memE e (.tail _ (.tail _ (.tail _ (.tail _ (.head _))))))
    · exact .inr ⟨lo, memX e (.head _)⟩
    · exact .inr ⟨lu, memX e (.tail _ (.head _))⟩
  · have := off p hp
    rcases zipWs_mem hw with e | e | e | e | e
    · exact ktu_ne 4 this e
    · exact ktu_ne 2 this e
    · exact ktu_ne 3 this e
    · exact Nat.ne_of_lt this e
    · exact ktu_ne 1 this e
  · rcases List.mem_cons.mp hp with rfl | hp
    · exact hm
    · rw [List.mem_singleton.mp hp]; exact hm'
end
end Mine

end
section
open PySem PySem.W PySem.Spec PySem.Calls PyProof.Rows PyProof.Rows.LCg
set_option Elab.async false
set_option maxRecDepth 100000
set_option maxHeartbeats 1000000
namespace Mine

section
variable {prog : Program} {w : World} {A : Around} {E : Value → Shared → Prop} {s : Shared} {h₀ : Heap} {L : Addr} {m : Str → Option Value} {env : Env}
  {p : Program} {loose : List Str} {mean : ExcName → Option Value} {mg mb : Str → Option Value}

/-- a generator expression over a list; what the code table does is a premise -/
theorem genexp_core {elt iter : Expr} {x : Str} {px : Pos} {ifs : List Expr} {scope : Scope} {cl : List (Str × Addr)} {pos : Pos} {Q : Value → Shared → Prop} {l : Addr} {items : Array Value} {ex : Addr → Prop} {R : Heap → Prop}
    {pz : Nat → Bool} {F : Nat → Value → Prop}
    (hh : A.handled = none) (hco : scope.isCoroutine = false) (hclos : closureFor scope env = pure cl) (hcell : ∀ y ∈ scope.names, y.2 ≠ .cell) (h0 : scope.names.lookup (".0" : Str) = some NameKind.local)
    (hx : scope.names.lookup x = some .local) (hkind : scope.kind = .function) (hroom : A.depth < recursionLimit)
    (T : Top p loose mean mg mb h₀) (Fh : Fr h₀ L s.heap m) (hgl : env.globals = mainGlobals)
    (hiter : ∀ Q' : Value → Shared → Prop, Q' (.ref l) s → wpAny (model prog w) A (eval iter env) Q' E s) (hl : s.heap.IsList l items)
    (hcd : ∀ (h : Heap) (Q' : Value → Shared → Prop), (∀ b o, s.heap.get? b = some o → h.get? b = some o) → s.heap.objs.size < h.objs.size →
      (∀ code h₃ tk₃, (∀ b o, ¬ ex b → h.get? b = some o → h₃.get? b = some o) → h.objs.size ≤ h₃.objs.size → R h₃ → Q' code { s with heap := h₃, toks := tk₃ }) →
      wpAny (model prog w) A (genexprCode env pos (env.qual ++ "<genexpr>") scope) Q' E { s with heap := h })
    (hex0 : ∀ b o, h₀.get? b = some o → ¬ ex b) (hexl : ¬ ex l) (hexI : ¬ ex s.heap.objs.size)
    (hq : ∀ (code : Value) (h₃ href : Heap), (∀ b o, ¬ ex b → s.heap.get? b = some o → h₃.get? b = some o) → s.heap.objs.size < h₃.objs.size → (∀ b o, h₃.get? b = some o → href.get? b = some o) →
      QuietGen prog w (genEnv scope cl h₃.objs.size code builtinsNs env) x ifs elt (List.range h₃.objs.size) [s.heap.objs.size] (fun i v => items[i]? = some v) pz F href)
    (hQ : ∀ a gs h' h₃ tk, gs.bare = true → R h₃ → (∀ b o, h₃.get? b = some o → h'.get? b = some o) → (∀ b o, ¬ ex b → s.heap.get? b = some o → h'.get? b = some o) → s.heap.objs.size < a →
      Gen prog w A (s.heap.objs.size - 1) a (passing pz items.size 0).length (fun j y => ∃ i, (passing pz items.size 0)[j]? = some i ∧ F i y) { s with gens := s.gens.push gs, toks := tk, heap := h' } →
      Q (.ref a) { s with gens := s.gens.push gs, toks := tk, heap := h' })
    (hs : ∀ x, genFold iter env x = pure x := by intro _; rfl) :
    wpAny (model prog w) A (eval (.GeneratorExp elt [⟨.Name x px, iter, ifs, 0⟩] scope pos) env) Q E s := by
  have hpos : 0 < s.heap.objs.size := Nat.lt_of_le_of_lt (Nat.zero_le _) Fh.ns.lt
  have hlt : l < s.heap.objs.size := by obtain ⟨_, e, _⟩ := hl; exact Heap.lt_size e
  have hlim : s.heap.NoLimit := T.nolimit.keeps Fh.keep
  refine wpAny_GeneratorExp_walksQ hh hco hclos hcell h0 hx hkind hroom (hiter _ ?_) hs
  refine wpAny_pyIter_list hl ⟨hlim.push _, ?_⟩
  refine hcd _ _ (fun b o e => Heap.get?_push_of_some _ e) (by rw [Heap.size_push]; exact Nat.lt_succ_self _) fun code h₃ tk₃ hk₃ hsz₃ hR => ?_
  have hsz₃' : s.heap.objs.size < h₃.objs.size := Nat.lt_of_lt_of_le (by rw [Heap.size_push]; exact Nat.lt_succ_self _) hsz₃
  have up : ∀ b o, ¬ ex b → s.heap.get? b = some o → h₃.get? b = some o := fun b o hb e => hk₃ b o hb (Heap.get?_push_of_some _ e)
  have base : ∀ b o, h₀.get? b = some o → h₃.get? b = some o := fun b o e => up b o (hex0 b o e) (Fh.keep b o e)
  have T₃ := T.keeps base
  obtain ⟨bm, ob, hb1, hb2, hb3, hb4, hb5, hb6⟩ := T₃.bmain
  rw [hgl]
  refine wpAny_builtinsFor T₃.g hb1 hb2 hb3 hb4 hb5 hb6 ?_
  have hcs : cStatics < s.heap.objs.size := let ⟨_, hn, _⟩ := hlim; hn.lt
  have hIl : ¬ ex l := hexl
  refine ⟨s.heap.objs.size, [s.heap.objs.size, l], [s.heap.objs.size], items.size, _, _, pz, F, rfl, (fun A' hA => Walks.list hA _ _ (Nat.ne_of_lt hlt) items), ?_, ?_, T₃.nolimit, ?_, (fun href hhref => ?_), fun a h₅ tk gs hgb hag hsz₅ hk₅ W hat => ?_⟩
  · refine ⟨⟨_, hk₃ _ _ hexI (Heap.get?_push_size _ rfl), rfl, rfl⟩, ?_⟩
    exact hl.at fun o e => up l o hexl e
  · intro b hb
    rcases List.mem_cons.mp hb with rfl | hb
    · exact hsz₃'
    · rcases List.mem_cons.mp hb with rfl | hb
      · exact Nat.lt_trans hlt hsz₃'
      · cases hb
  · intro hm
    rcases List.mem_cons.mp hm with e | hb
    · exact absurd (e ▸ hcs) (Nat.lt_irrefl _)
    · cases hb
  · exact hq code h₃ href up hsz₃' hhref
  · refine hQ a gs h₅ h₃ tk hgb hR (fun b o e => hk₅ b o e) (fun b o hb e => hk₅ b o (up b o hb e)) (Nat.lt_trans hsz₃' hag) ⟨_, _, _, _, W, hat, (fun i s' st => st.1.typeIs), List.mem_cons_self, ?_, ?_⟩
    · intro b hb
      show b < h₅.objs.size
      rw [hsz₅]
      rcases List.mem_cons.mp hb with rfl | hb
      · exact Nat.lt_succ_self _
      · rcases List.mem_cons.mp hb with rfl | hb
        · exact Nat.lt_succ_of_lt hag
        · exact Nat.lt_succ_of_lt (Nat.lt_trans (List.mem_range.mp hb) hag)
    · intro b hb
      rcases List.mem_cons.mp hb with rfl | hb
      · exact Nat.lt_of_le_of_lt (Nat.sub_le _ _) hsz₃'
      · rcases List.mem_cons.mp hb with rfl | hb
        · exact Nat.sub_lt hpos Nat.one_pos
        · cases hb

noncomputable def SRg (os : OsState) (g : Array GenState) (os' : OsState) (g' : Array GenState) : Prop := os' = os ∧ (AllBare g → AllBare g')
noncomputable abbrev SR (s s' : Shared) : Prop := SRg s.os s.gens s'.os s'.gens
theorem SRg.refl {os : OsState} {g : Array GenState} : SRg os g os g := ⟨rfl, id⟩
theorem SRg.trans {o₁ o₂ o₃ : OsState} {g₁ g₂ g₃ : Array GenState} (x : SRg o₁ g₁ o₂ g₂) (y : SRg o₂ g₂ o₃ g₃) : SRg o₁ g₁ o₃ g₃ := ⟨y.1.trans x.1, fun h => y.2 (x.2 h)⟩

/-- tuple(generator) -/
theorem tuple_gen {a : Addr} {n K : Nat} {F : Nat → Value → Prop} {Q : Value → Shared → Prop} {news : Led} (Fh : Fr h₀ L s.heap m) (N : News h₀ L s.heap news) (X : Gen prog w A K a n F s) (hLK : L ≤ K) (hN : ∀ p ∈ news, p.1 ≤ K)
    (hQ : ∀ s' (D : Addr) (ys : List Value), Fr h₀ L s'.heap m → SR s s' → News h₀ L s'.heap ((D, { cls := .type "tuple", data := .seq ys.toArray }) :: news) → (∀ p ∈ news, p.1 < D) → ys.length = n → (∀ j v, ys[j]? = some v → F j v) → Q (.ref D) s')
    (hsz : n ≤ sizeLine := by size_fits) :
    wpAny (model prog w) A (call (.type "tuple") [.ref a]) Q E s := by
  obtain ⟨fp, wr, g, St, W, hst, hT, hI, hfp, hwr⟩ := X
  refine call_tuple_gen (hsz := hsz) W.in4_3 hT hst hfp hI fun s' acc hm hacc => ?_
  have F₁ : Fr h₀ L s'.heap m := Fh.moved hm fun b hb => Nat.lt_of_le_of_lt hLK (hwr b hb)
  have keep : ∀ p ∈ news, s'.heap.get? p.1 = some p.2 := fun p hp => hm.heap _ _ (fun hb => Nat.lt_irrefl _ (Nat.lt_of_lt_of_le (hwr _ hb) (hN p hp))) (N p hp).1
  have n0 := new_none F₁ (Nat.le_refl s'.heap.objs.size)
  refine hQ _ s'.heap.objs.size acc.toList (F₁.push _) ⟨hm.os, fun G => G.moved hm.gens⟩ (fun p hp => ?_) (fun p hp => Heap.lt_size (keep p hp)) (by simp [hacc.1]) fun j v hv => hacc.2 j v (by simpa using hv)
  rcases List.mem_cons.mp hp with rfl | hp
  · exact ⟨by simpa using Heap.get?_push_size (h := s'.heap) (o := { cls := .type "tuple", data := .seq acc }) rfl, n0.2, n0.1⟩
  · exact ⟨Heap.get?_push_of_some _ (keep p hp), (N p hp).2⟩
end
end Mine

end
section
open PySem PySem.W PySem.Spec PySem.Calls PyProof.Rows PyProof.Rows.LCg
set_option Elab.async false
set_option maxRecDepth 100000
set_option maxHeartbeats 1000000
namespace Mine
noncomputable def Sub (a b : Led) : Prop := ∀ p ∈ a, p ∈ b
theorem Sub.mem {a b : Led} {p : Addr × Obj} (s : Sub a b) (h : p ∈ a) : p ∈ b := s p h
theorem Sub.refl (a : Led) : Sub a a := fun _ h => h
theorem Sub.trans {a b c : Led} (x : Sub a b) (y : Sub b c) : Sub a c := fun p h => y p (x p h)
theorem Sub.nil (b : Led) : Sub [] b := fun _ h => nomatch h
theorem Sub.cons {a b : Led} {p : Addr × Obj} (h : p ∈ b) (x : Sub a b) : Sub (p :: a) b := fun q hq => by
  rcases List.mem_cons.mp hq with rfl | hq
  · exact h
  · exact x q hq
theorem Sub.tail {a b : Led} {p : Addr × Obj} (x : Sub a b) : Sub a (p :: b) := fun q hq => List.mem_cons_of_mem _ (x q hq)
theorem News.sub {h₀ h : Heap} {L : Addr} {a b : Led} (N : News h₀ L h b) (s : Sub a b) : News h₀ L h a := fun p hp => N p (s p hp)

section
variable {prog : Program} {w : World} {A : Around} {E : Value → Shared → Prop} {s : Shared} {h₀ : Heap} {L : Addr} {m : Str → Option Value} {env : Env}
theorem item_listM {value slice : Expr} {l : Addr} {lo : Obj} {vs : List Value} {k : Int} {n : Nat} {u : Tok} {v : Value} {news : Led} {Q : Value → Shared → Prop} (N : News h₀ L s.heap news) (hm : (l, lo) ∈ news) (hc : lo.cls = .type "list") (hd : lo.data = .seq vs.toArray n)
    (h0 : 0 ≤ k) (h1 : k < 2 ^ 63) (hx : vs[k.toNat]? = some v) (h : Q v s)
    (hs : subscripted slice false (.ref l) (.int k u) = operate [.ref l, .int k u] (getItem (.ref l) (.int k u)) := by with_unfolding_all rfl) :
    wpAny (model prog w) A (subscriptTail value slice (.ref l) (.int k u)) Q E s := by
  have hl : s.heap.IsList l vs.toArray := ⟨lo, (N _ hm).1, hc, n, hd⟩
  exact tail_any hl.typeIs slot_list_getitem.lookup (wpAny_getItem_list hl h0 h1 (x := v) (by simpa using hx) h) hs
theorem CRest.turn {elt : Expr} {ifs : List Expr} {scope : Scope} {cl : List (Str × Addr)} {ws : List (Addr × String)} {keep : Led} {Bd : Nat → (Str → Option Value) → Prop} {Fin : List Value → Led → Prop} {k i : Nat} {ys : List Value} {news : Led}
    (h : ∀ C oC D m₂ h tk its, Objs ws its → NsObj oC m₂ → Bd i m₂ → Fr h₀ L h m → News h₀ L h ((C, oC) :: (D, lst ys) :: (its ++ news)) → CApart C D its news → (∀ p ∈ keep, p ∈ news) →
      wpAny (model prog w) A (forIn ifs true fun c r => if r = true then do let ok ← isTrue c (compEnvC scope cl C env) (eval c (compEnvC scope cl C env)); pure (ForInStep.yield ok) else pure (ForInStep.yield r)) (fun ok s₃ =>
        if ok = true then wpAny (model prog w) A (eval elt (compEnvC scope cl C env)) (fun y s₄ => CEnd h₀ L m s C D ys its keep (fun news' => CRest prog w A h₀ L m env elt ifs scope cl s ws keep Bd Fin k (i + 1) (ys ++ [y]) news') s₄) (fun _ _ => False) s₃
        else CEnd h₀ L m s C D ys its keep (fun news' => CRest prog w A h₀ L m env elt ifs scope cl s ws keep Bd Fin k (i + 1) ys news') s₃) (fun _ _ => False) { s with heap := h, toks := tk }) :
    CRest prog w A h₀ L m env elt ifs scope cl s ws keep Bd Fin (k + 1) i ys news := h
theorem CRest.fin {elt : Expr} {ifs : List Expr} {scope : Scope} {cl : List (Str × Addr)} {ws : List (Addr × String)} {keep : Led} {Bd : Nat → (Str → Option Value) → Prop} {Fin : List Value → Led → Prop} {i : Nat} {ys : List Value} {news : Led}
    (h : Fin ys news) : CRest prog w A h₀ L m env elt ifs scope cl s ws keep Bd Fin 0 i ys news := h
theorem CEnd.mk {C D : Addr} {ys : List Value} {its keep : Led} {rest : Led → Prop} {h' : Heap} {tk : Nat} {oC : Obj} {m' : Str → Option Value} {news' all : Led} (hoC : NsObj oC m') (F' : Fr h₀ L h' m) (N' : News h₀ L h' all) (hs : Sub ((C, oC) :: (D, lst ys) :: (its ++ news')) all)
    (ap : CApart C D its news') (hk : ∀ p ∈ keep, p ∈ news') (h : rest news') : CEnd h₀ L m s C D ys its keep rest { s with heap := h', toks := tk } :=
  ⟨h', tk, oC, m', news', rfl, F', hoC, News.sub N' hs, ap, hk, h⟩
theorem off1_of {D : Addr} : ∀ {l : Led}, (∀ p ∈ l, p.1 ≠ D) → LCg.Off1 D l
  | [], _ => trivial
  | p :: _, h => ⟨h p (.head _), off1_of fun q hq => h q (.tail _ hq)⟩
theorem objs_nil {its : Led} (h : Objs [] its) : its = [] := by
  cases its with
  | nil => rfl
  | cons p r => exact False.elim h
theorem objs_cons {I : Addr} {c : String} {ws : List (Addr × String)} {its : Led} (h : Objs ((I, c) :: ws) its) : ∃ o r, its = (I, o) :: r ∧ o.cls = .type c ∧ Objs ws r := by
  cases its with
  | nil => exact False.elim h
  | cons p r =>
    have h1 : p.1 = I := h.1.1
    refine ⟨p.2, r, ?_, h.1.2, h.2⟩
    rw [← h1]
theorem objs_one {I : Addr} {c : String} {its : Led} (h : Objs [(I, c)] its) : ∃ o, its = [(I, o)] ∧ o.cls = .type c := by
  obtain ⟨o, r, rfl, h1, h2⟩ := objs_cons h
  rw [objs_nil h2]
  exact ⟨o, rfl, h1⟩
theorem objs_two {I J : Addr} {c d : String} {its : Led} (h : Objs [(I, c), (J, d)] its) : ∃ o o', its = [(I, o), (J, o')] ∧ o.cls = .type c ∧ o'.cls = .type d := by
  obtain ⟨o, r, rfl, h1, h2⟩ := objs_cons h
  obtain ⟨o', rfl, h3⟩ := objs_one h2
  exact ⟨o, o', rfl, h1, h3⟩
theorem objs_zip {I : Addr} {its : Led} (h : Objs (zipWs I) its) : ∃ o1 o2 o3 o4 o5, its = [(I + 4, o1), (I + 2, o2), (I + 3, o3), (I, o4), (I + 1, o5)] := by
  obtain ⟨o1, r, rfl, _, h⟩ := objs_cons h
  obtain ⟨o2, r, rfl, _, h⟩ := objs_cons h
  obtain ⟨o3, r, rfl, _, h⟩ := objs_cons h
  obtain ⟨o4, r, rfl, _, h⟩ := objs_cons h
  obtain ⟨o5, rfl, _⟩ := objs_one h
  exact ⟨o1, o2, o3, o4, o5, rfl⟩
theorem CApart.one {C D I : Addr} {o : Obj} {news : Led} (h : CApart C D [(I, o)] news) : (C ≠ D ∧ I ≠ C ∧ I ≠ D) ∧ ∀ q ∈ news, q.1 ≠ C ∧ q.1 ≠ D ∧ q.1 ≠ I :=
  ⟨⟨h.1, (h.2.1 _ (.head _)).1, (h.2.1 _ (.head _)).2⟩, fun q hq => ⟨(h.2.2.1 q hq).1, (h.2.2.1 q hq).2, h.2.2.2 q hq _ (.head _)⟩⟩
theorem CApart.cons {C D T : Addr} {its news : Led} {o : Obj} (h : CApart C D its news) (h1 : T ≠ C) (h2 : T ≠ D) (h3 : ∀ q ∈ its, T ≠ q.1) : CApart C D its ((T, o) :: news) := by
  refine ⟨h.1, h.2.1, fun q hq => ?_, fun p hp q hq => ?_⟩
  · rcases List.mem_cons.mp hq with rfl | hq
    · exact ⟨h1, h2⟩
    · exact h.2.2.1 q hq
  · rcases List.mem_cons.mp hp with rfl | hp
    · exact h3 q hq
    · exact h.2.2.2 p hp q hq
end
end Mine

end
section
open PySem PySem.W PySem.Spec PySem.Calls PyProof.Rows PyProof.Rows.LCg
set_option Elab.async false
set_option maxRecDepth 100000
set_option maxHeartbeats 1000000
namespace Mine
theorem int_mul_inst (a : Int) (t : Tok) (l C dx : Addr) :
    Meets (Builtin.«int.__mul__» ⟨[.int a t, .ref l], []⟩) (fun _ R s => s.heap.get? l = some (instObj C dx) ∧ R (.ok (.ret Value.notImplemented)) s) :=
  .of_wp fun prog w A R s h => by obtain ⟨hp, g, d, tk, os⟩ := s; obtain ⟨hl, h⟩ := h; wp_walk; exact ⟨_, rfl, h⟩

section
variable {prog : Program} {w : World} {A : Around} {E : Value → Shared → Prop} {s : Shared} {h₀ : Heap} {L : Addr} {m : Str → Option Value} {K : Frag} {x C f f0 dx : Addr} {news : Led}

theorem call_int_mul_inst {k : Int} {t : Tok} {Q : Value → Shared → Prop} (hx : s.heap.get? x = some (instObj C dx)) (h : Q .notImplemented s) : wpAny (model prog w) A (call (.builtin "int.__mul__") [.int k t, .ref x]) Q E s :=
  call_meets (name := PySem.dunder "mul") PySem.F.slot_int_mul (typeIs_int _ k t) PySem.F.entry_int_mul (PySem.F.args_int_mul_2 _ _) (int_mul_inst k t x C dx) ⟨hx, h⟩
theorem tryMethod_none {M : Model} {self other : Value} {T : String} {name : Str} {id : String} {Q : Option Value → Shared → Prop} (hT : s.TypeIs self T)
    (h : Slot T name id) (hc : wpAny M A (call (.builtin id) [self, other]) (fun v s' => v = .notImplemented ∧ Q none s') E s) : wpAny M A (tryMethod self name other) Q E s := by
  simp only [tryMethod]
  refine wpAny_bind (wpAny_callSpecial?_slot hT h (wpAny_mono hc (fun v s' h' => ?_) fun _ _ h' => h'))
  have e := h'.1
  subst e
  exact wpAny_pure h'.2
theorem try_int_mul_inst {k : Int} {t : Tok} {Q : Option Value → Shared → Prop} (hx : s.heap.get? x = some (instObj C dx)) (h : Q none s) : wpAny (model prog w) A (tryMethod (.int k t) (PySem.dunder "mul") (.ref x)) Q E s := by
  refine tryMethod_none (T := "int") (id := "int.__mul__") ?_ ?_ ?_
  · exact typeIs_int _ k t
  · exact PySem.F.slot_int_mul
  · refine call_int_mul_inst hx ?_
    exact ⟨rfl, h⟩
theorem mulR_K {od : Option Obj} {k : Int} {t : Tok} {Q : Value → Shared → Prop} (F : Fr h₀ L s.heap m) (X₀ : K.In h₀) (I : InstAt s.heap x (instObj C dx) C od) (hc : selfFirst K C = true)
    (hs : findIn K (.ref C) "__mul__" = some (some (.ref f0))) (hr : findIn K (.ref C) "__rmul__" = some (some (.ref f))) (hf : isFn K (.ref f) = true) (hsub : subIn K (.ref C) (.type "int") = some false)
    (h : wpAny (model prog w) A (call (.ref f) [.ref x, .int k t]) (W.CmpBack Q) E s) : wpAny (model prog w) A (binaryOp .Mult (.int k t) (.ref x)) Q E s := by
  have X := X₀.keeps F.keep
  obtain ⟨cd, rest, hcd, hmro⟩ := ksp_first hc
  have hx := I.at_
  obtain ⟨hh, g, d, tt, os⟩ := s
  have L1 : Looks (model prog w) hh (typeOf (.int k t)) (.type "int") := Looks.of_pure rfl
  have L2 : Looks (model prog w) hh (typeOf (.ref x)) (.ref C) := I.type
  have L3 : Looks (model prog w) hh (fillsNumberSlot (.ref C) "mul") true := fills_K X hcd hmro hs
  have L4 : Looks (model prog w) hh (fillsNumberSlot (.type "int") "mul") true := Looks.of_pure PySem.F.fills_int_mul
  have L5 : Looks (model prog w) hh (isSubtype (.ref C) (.type "int")) false := looks_subIn X hsub
  have L7 : Looks (model prog w) hh (numberSlotInPython (.type "int") "mul") false := Looks.of_pure rfl
  have hne : (Value.type "int" == Value.ref C) = false := rfl
  show wpAny _ _ (binaryOp .Mult _ _) _ _ _
  unfold binaryOp
  simp only [Operator.info]
  refine wpAny_holding (wpAny_bind ?_)
  unfold binaryOp1
  refine wpAny_bind (L1.at (wpAny_bind (L2.at (wpAny_bind (L4.at ?_)))))
  simp only [hne, Bool.false_eq_true, if_false]
  ksp_lk
  refine try_int_mul_inst hx ?_
  simp only [Bool.false_eq_true, if_false, Bool.not_false, Bool.and_self, if_true]
  refine wpAny_bind ?_
  have one := ksp_try (b := .int k t) (Q := Q) (name := dunderR "mul") X I hr hf h
  refine wpAny_mono one (fun r s' hr' => ?_) fun _ _ e => e
  obtain ⟨v, rfl, hq⟩ := hr'
  repeat lk
  exact hq
end
end Mine

end
section
open PySem PySem.W PySem.Spec PySem.Calls PyProof.Rows PyProof.Rows.LCg
set_option Elab.async false
set_option maxRecDepth 100000
set_option maxHeartbeats 1000000
namespace Mine
/-- an enumerate object whose first tuple is still held by another -/
noncomputable abbrev IsEnumBusy (h : Heap) (e it : Addr) (i : Int) (item : Value) (a : Addr) : Prop :=
  h.get? e = some { cls := .type "enumerate", dict := none, data := .fields #[rawInt a, .bool true, .ref it, rawInt i, .none, item], slots := #[] }

section
variable {prog : Program} {w : World} {A : Around} {E : Value → Shared → Prop} {s : Shared}

theorem enum_next_busy {e it a : Addr} {oa : Obj} {fp : List Addr} {n i : Nat} {P : Nat → Value → Prop} {St : Nat → Heap → Prop} {old : Value} {Q : Value → Shared → Prop}
    (D : Draws prog w A it fp n P St) (he : IsEnumOut s.heap e it i old a) (ha : s.heap.get? a = some oa) (hae : a ≠ e) (hai : a ≠ it) (hst : St i s.heap) (hlt : i < n) (hne : e ≠ it) (hef : e ∉ fp)
    (hQ : ∀ x h' tk, P i x → IsEnumBusy h' e it ((i : Int) + 1) old a → St (i + 1) h' →
      h'.get? s.heap.objs.size = some { cls := .type "tuple", data := .seq #[.int i tk, x] } → h'.objs.size = s.heap.objs.size + 1 →
      (∀ b o, b ≠ e → b ≠ it → s.heap.get? b = some o → h'.get? b = some o) → Q (.ref s.heap.objs.size) { s with heap := h', toks := tk + 1 }) :
    wpAny (model prog w) A (Builtin.«enumerate.__next__» ⟨[.ref e], []⟩) (fun fin s' => ∃ v, fin = .done (.ret v) ∧ Q v s') E s := by
  obtain ⟨hp, g, d, tk₀, os⟩ := s
  show wpAny _ _ (field (.ref e) 2 >>= _) _ _ _
  refine wpAny_bind (wpAny_field he rfl (x := .ref it) rfl ?_)
  refine wpAny_bind (D.item i _ _ _ hlt hst fun x h₁ tk hPx hit₁ hs₁ => ?_)
  replace hs₁ : Heap.SameBut it hp h₁ := hs₁
  have he₁ : IsEnumOut h₁ e it i old a := (hs₁.2 e hne).trans he
  show wpAny _ _ (field (.ref e) 3 >>= _) _ _ ⟨h₁, g, d, tk, os⟩
  refine wpAny_bind (wpAny_field he₁ rfl (x := rawInt i) rfl ?_)
  show wpAny _ _ (field (.ref e) 4 >>= _) _ _ ⟨h₁, g, d, tk, os⟩
  refine wpAny_bind (wpAny_field he₁ rfl (x := .none) rfl ?_)
  show wpAny _ _ (mkInt i >>= _) _ _ ⟨h₁, g, d, tk, os⟩
  refine wpAny_bind (wpAny_mkInt ?_)
  show wpAny _ _ (setField (.ref e) 3 (rawInt ((i : Int) + 1)) >>= _) _ _ ⟨h₁, g, d, tk + 1, os⟩
  refine wpAny_bind (wpAny_setField_rec he₁ (by simp) fun h₂ he₂ hs₂ => ?_)
  replace hs₂ : Heap.SameBut e h₁ h₂ := hs₂
  replace he₂ : IsEnumOut h₂ e it ((i : Int) + 1) old a := he₂
  show wpAny _ _ (setField (.ref e) 4 .none >>= _) _ _ ⟨h₂, g, d, tk + 1, os⟩
  refine wpAny_bind (wpAny_setField_rec he₂ (by simp) fun h₃ he₃ hs₃ => ?_)
  replace hs₃ : Heap.SameBut e h₂ h₃ := hs₃
  replace he₃ : IsEnumOut h₃ e it ((i : Int) + 1) old a := he₃
  show wpAny _ _ (newTuple [.int i tk, x] >>= _) _ _ ⟨h₃, g, d, tk + 1, os⟩
  refine wpAny_bind (wpAny_newTuple ?_)
  have he₄ : IsEnumOut (h₃.push { cls := .type "tuple", data := .seq #[.int i tk, x] }) e it ((i : Int) + 1) old a := Heap.get?_push_of_some _ he₃
  generalize hh₄ : h₃.push { cls := .type "tuple", data := .seq #[.int i tk, x] } = h₄ at he₄
  have hsz : h₃.objs.size = hp.objs.size := by rw [hs₃.1, hs₂.1, hs₁.1]
  have hel : e < hp.objs.size := Heap.lt_size he
  have ht₄ : h₄.get? hp.objs.size = some { cls := .type "tuple", data := .seq #[.int i tk, x] } := by rw [← hh₄, ← hsz]; exact Heap.get?_push_size _ rfl
  have hz₄ : h₄.objs.size = hp.objs.size + 1 := by rw [← hh₄, Heap.size_push, hsz]
  have hk₄ : ∀ b o, b ≠ e → b ≠ it → hp.get? b = some o → h₄.get? b = some o := fun b o hbe hbi hb => by
    rw [← hh₄]; exact Heap.get?_push_of_some _ (hs₃.extBut b o hbe (hs₂.extBut b o hbe (hs₁.extBut b o hbi hb)))
  have hit₄ : St (i + 1) h₄ := D.frame _ _ _ hit₁ fun b hb o y => by
    have hbe : b ≠ e := fun q => hef (q ▸ hb)
    rw [← hh₄]; exact Heap.get?_push_of_some _ (hs₃.extBut b o hbe (hs₂.extBut b o hbe y))
  show wpAny _ _ (Builtin.SmallTypes.ownedTupleIsFree (.ref e) >>= _) _ _ ⟨h₄, g, d, tk + 1, os⟩
  rw [hsz]
  have ha₄ : h₄.get? a = some oa := hk₄ a oa hae hai ha
  clear hh₄ he₃ hs₃ he₂ hs₂ he₁ hs₁ hit₁ hsz h₃ h₂ h₁
  refine wpAny_bind ?_
  unfold Builtin.SmallTypes.ownedTupleIsFree
  refine wpAny_bind (wpAny_field he₄ rfl (x := rawInt a) rfl ?_)
  show wpAny _ _ (loadIfAlive ((a : Int).toNat) >>= _) _ _ _
  rw [Int.toNat_natCast]
  refine wpAny_bind (kdx_alive ha₄ ?_)
  simp only [Option.isNone_some, Bool.false_eq_true, if_false]
  refine wpAny_bind (wpAny_field he₄ rfl (x := .bool false) rfl ?_)
  rw [if_pos (show (Value.bool false != Value.bool true) = true from rfl)]
  refine wpAny_bind (wpAny_setField_rec he₄ (by simp) fun h₅ he₅ hs₅ => ?_)
  replace hs₅ : Heap.SameBut e h₄ h₅ := hs₅
  replace he₅ : IsEnumBusy h₅ e it ((i : Int) + 1) old a := he₅
  refine wpAny_pure ?_
  simp only [Bool.false_eq_true, if_false]
  refine wpAny_pure ⟨_, rfl, hQ x h₅ tk hPx he₅ ?_ ?_ ?_ ?_⟩
  · exact D.frame _ _ _ hit₄ fun b hb o y => by
      have hbe : b ≠ e := fun q => hef (q ▸ hb)
      exact hs₅.extBut b o hbe y
  · exact hs₅.extBut _ _ (Nat.ne_of_gt hel) ht₄
  · show h₅.objs.size = hp.objs.size + 1
    rw [hs₅.1, hz₄]
  · exact fun b o hbe hbi hb => hs₅.extBut b o hbe (hk₄ b o hbe hbi hb)

theorem pyNext_enum_busy {e it a : Addr} {oa : Obj} {fp : List Addr} {n i : Nat} {P : Nat → Value → Prop} {St : Nat → Heap → Prop} {old : Value} {Q : Option Value → Shared → Prop}
    (D : Draws prog w A.in1 it fp n P St) (he : IsEnumOut s.heap e it i old a) (ha : s.heap.get? a = some oa) (hae : a ≠ e) (hai : a ≠ it) (hst : St i s.heap) (hlt : i < n) (hne : e ≠ it) (hef : e ∉ fp)
    (hQ : ∀ x h' tk, P i x → IsEnumBusy h' e it ((i : Int) + 1) old a → St (i + 1) h' →
      h'.get? s.heap.objs.size = some { cls := .type "tuple", data := .seq #[.int i tk, x] } → h'.objs.size = s.heap.objs.size + 1 →
      (∀ b o, b ≠ e → b ≠ it → s.heap.get? b = some o → h'.get? b = some o) → Q (some (.ref s.heap.objs.size)) { s with heap := h', toks := tk + 1 }) :
    wpAny (model prog w) A (pyNext (.ref e)) Q E s := by
  have hT : s.TypeIs (.ref e) "enumerate" := ⟨_, he, rfl⟩
  unfold pyNext
  exact wpAny_bind (wpAny_attempt (wpAny_callSpecial?_slot (name := Str.ofString "__next__") hT PySem.F.slot_enumerate_next
    (wpAny_call_entry PySem.F.slot_enumerate_next hT PySem.F.entry_enumerate_next
      (enum_next_busy D he ha hae hai hst hlt hne hef fun x h' tk a b c d k q => wpAny_pure (hQ x h' tk a b c d k q)) (PySem.F.args_enumerate_next_1 _))))

theorem pyNext_enum_end {e it a : Addr} {fp : List Addr} {n : Nat} {P : Nat → Value → Prop} {St : Nat → Heap → Prop} {Q : Option Value → Shared → Prop} {i : Int} {old : Value}
    (D : Draws prog w A.in1 it fp n P St) (he : IsEnumBusy s.heap e it i old a) (hst : St n s.heap)
    (hQ : ∀ h', Heap.ExtBut it s.heap h' → Q none { s with heap := h' }) : wpAny (model prog w) A (pyNext (.ref e)) Q E s := by
  have hT : s.TypeIs (.ref e) "enumerate" := ⟨_, he, rfl⟩
  unfold pyNext
  refine wpAny_bind (wpAny_attempt (wpAny_callSpecial?_slot (name := Str.ofString "__next__") hT PySem.F.slot_enumerate_next
    (wpAny_call_entry PySem.F.slot_enumerate_next hT PySem.F.entry_enumerate_next ?_ (PySem.F.args_enumerate_next_1 _))))
  show wpAny _ _ (field (.ref e) 2 >>= _) _ _ _
  refine wpAny_bind (wpAny_field he rfl (x := .ref it) rfl ?_)
  refine wpAny_bind (D.done _ _ _ hst fun h' x he' hx' => ?_)
  obtain ⟨o, ho, hc⟩ := hx'
  refine wpAny_bind (wpAny_isInstance (T := "StopIteration") (b := true) ⟨o, ho, hc⟩ isSubtype_stop ?_)
  exact wpAny_pure (hQ _ he')

noncomputable abbrev lstO (acc : Array Value) (c : Nat) : Obj := { cls := .type "list", dict := none, data := .seq acc c, slots := #[] }

theorem loop_end {S I : Addr} {res : Value} {R : Result → Shared → Prop} (h : ∀ E, wpAny (model prog w) A.in1 (pyNext (.ref I)) (fun r s' => r = none ∧ R (.ok (.ret res)) s') E s) :
    codeAny (model prog w) A (.builtin "list.extend.loop" ⟨[.ref S, .ref I, res], []⟩) R s := by
  refine codeAny_builtin PySem.F.entry_extend_loop ?_
  rw [Around.under_plainId PySem.F.plain_extend_loop _]
  show wpAny _ A.in1 (pyNext (.ref I) >>= _) _ _ _
  refine wpAny_bind (wpAny_mono (h _) (fun r s' hr => ?_) fun _ _ e => e)
  obtain ⟨rfl, hr⟩ := hr
  exact wpAny_pure hr

theorem loop_step {S I : Addr} {res : Value} {R : Result → Shared → Prop}
    (h : ∀ E, wpAny (model prog w) A.in1 (pyNext (.ref I)) (fun r s' => ∃ v acc c, r = some v ∧ s'.heap.get? S = some (lstO acc c) ∧ acc.size < 1000 ∧
      ∀ h'' c', h''.get? S = some (lstO (acc.push v) c') → Heap.SameBut S s'.heap h'' → codeAny (model prog w) A (.builtin "list.extend.loop" ⟨[.ref S, .ref I, res], []⟩) R { s' with heap := h'' }) E s) :
    codeAny (model prog w) A (.builtin "list.extend.loop" ⟨[.ref S, .ref I, res], []⟩) R s := by
  refine codeAny_builtin PySem.F.entry_extend_loop ?_
  rw [Around.under_plainId PySem.F.plain_extend_loop _]
  show wpAny _ A.in1 (pyNext (.ref I) >>= _) _ _ _
  refine wpAny_bind (wpAny_mono (h _) (fun r s' hr => ?_) fun _ _ e => e)
  obtain ⟨v, acc, c, rfl, hS, hz, hn⟩ := hr
  have hz1 : acc.size ≤ sizeLine := Nat.le_trans (Nat.le_of_lt hz) (by decide)
  have hz2 : acc.size + 1 ≤ sizeLine + 1 := Nat.succ_le_succ hz1
  show wpAny _ A.in1 (updateSeq S (·.push v) >>= _) _ _ _
  refine wpAny_bind ?_
  refine wpAny_updateSeq hS rfl (wpAny_pure ⟨plainId_quiet PySem.F.plain_extend_loop _, hn _ _ (Heap.get?_update_self _ hS rfl) (Heap.SameBut.update ..)⟩) (by first | exact hz1 | exact hz2) (by first | (show (acc.push v).size ≤ sizeLine + 1; rw [Array.size_push]; exact hz2) | exact hz2)
end
end Mine

end
section
open PySem PySem.W PySem.Spec PySem.Calls PyProof.Rows PyProof.Rows.LCg
set_option Elab.async false
set_option maxRecDepth 100000
set_option maxHeartbeats 1000000
namespace Mine
theorem enum_no_len : typeLookup (.type "enumerate") "__len__" = pure none := by rw [typeLookup_type, builtinLookup_eq_fast]; kernel_rfl
theorem enum_no_hint : typeLookup (.type "enumerate") "__length_hint__" = pure none := by rw [typeLookup_type, builtinLookup_eq_fast]; kernel_rfl

section
variable {prog : Program} {w : World} {A : Around} {E : Value → Shared → Prop} {s : Shared}

noncomputable abbrev prO (a b : Value) : Obj := { cls := .type "tuple", data := .seq #[a, b] }

theorem loop_enum2 {R : Result → Shared → Prop} {S e it t : Addr} {v0 v1 res : Value} {c : Nat} (hh : A.handled = none) (hS : s.heap.get? S = some (lstO #[] c)) (he : IsEnum s.heap e it 0 .none)
    (hi : s.heap.IsTupleIter it t 0) (ht : s.heap.IsTuple t #[v0, v1]) (hne : e ≠ it) (hte : t ≠ e) (hti : t ≠ it) (hSe : S ≠ e) (hSi : S ≠ it) (hSt : t ≠ S)
    (hR : ∀ h' tk T0 T1 k0 k1 c, (∀ b o, b ≠ S → b ≠ e → b ≠ it → s.heap.get? b = some o → h'.get? b = some o) → h'.get? S = some (lstO #[.ref T0, .ref T1] c) → h'.get? T0 = some (prO (.int 0 k0) v0) → h'.get? T1 = some (prO (.int 1 k1) v1) →
      s.heap.objs.size ≤ T0 → T0 < T1 → R (.ok (.ret res)) { s with heap := h', toks := tk }) :
    codeAny (model prog w) A (.builtin "list.extend.loop" ⟨[.ref S, .ref e, res], []⟩) R s := by
  have D := drawsTup (prog := prog) (w := w) (A := A.in1.in1) hh it t hti #[v0, v1]
  have hel : e < s.heap.objs.size := Heap.lt_size he
  have hil : it < s.heap.objs.size := let ⟨_, x, _⟩ := hi; Heap.lt_size x
  have hSl : S < s.heap.objs.size := Heap.lt_size hS
  have hef : e ∉ [it, t] := by simp [hne, Ne.symm hte]
  refine loop_step fun E => ?_
  refine wpAny_pyNext_enum_itemD D (old := .none) (i := 0) he ⟨hi, ht⟩ (by simp) hne hef fun x h1 tk1 hP ho1 hst1 hT1 hz1 hk1 => ?_
  obtain rfl : v0 = x := by simpa using hP
  refine ⟨_, #[], c, rfl, hk1 _ _ hSe hSi hS, by decide, fun h2 c2 hS2 hs2 => ?_⟩
  have T0S : s.heap.objs.size ≠ S := Nat.ne_of_gt hSl
  have ho2 : IsEnumOut h2 e it 1 v0 s.heap.objs.size := (hs2.2 e (Ne.symm hSe)).trans ho1
  have hst2 : h2.IsTupleIter it t 1 ∧ h2.IsTuple t #[v0, v1] := ⟨hst1.1.at fun o q => (hs2.2 it (Ne.symm hSi)).trans q, hst1.2.at fun o q => (hs2.2 t hSt).trans q⟩
  have hT2 : h2.get? s.heap.objs.size = some (prO (.int 0 tk1) v0) := (hs2.2 _ T0S).trans hT1
  have hz2 : h2.objs.size = s.heap.objs.size + 1 := hs2.1.trans hz1
  refine loop_step fun E => ?_
  refine pyNext_enum_busy (s := { s with heap := h2, toks := tk1 + 1 }) D (i := 1) ho2 hT2 (Nat.ne_of_gt hel) (Nat.ne_of_gt hil) hst2 (by simp) hne hef fun x h3 tk3 hP3 ho3 hst3 hT3 hz3 hk3 => ?_
  obtain rfl : v1 = x := by simpa using hP3
  dsimp only at hT3 hz3 hk3
  rw [hz2] at hT3
  have hS3 := hk3 _ _ hSe hSi hS2
  refine ⟨_, _, _, rfl, hS3, by simp, fun h4 c4 hS4 hs4 => ?_⟩
  have T1S : s.heap.objs.size + 1 ≠ S := Nat.ne_of_gt (Nat.lt_succ_of_lt hSl)
  have hT03 := hk3 _ _ (Nat.ne_of_gt hel) (Nat.ne_of_gt hil) hT2
  have hT04 : h4.get? s.heap.objs.size = some (prO (.int 0 tk1) v0) := (hs4.2 _ T0S).trans hT03
  have hT14 : h4.get? (s.heap.objs.size + 1) = some (prO (.int 1 tk3) v1) := (hs4.2 _ T1S).trans hT3
  have ho4 : IsEnumBusy h4 e it 2 v0 s.heap.objs.size := (hs4.2 e (Ne.symm hSe)).trans ho3
  have hst4 : h4.IsTupleIter it t 2 ∧ h4.IsTuple t #[v0, v1] := ⟨hst3.1.at fun o q => (hs4.2 it (Ne.symm hSi)).trans q, hst3.2.at fun o q => (hs4.2 t hSt).trans q⟩
  refine loop_end fun E => ?_
  refine pyNext_enum_end (s := { s with heap := h4, toks := tk3 + 1 }) D ho4 hst4 fun h5 hk5 => ⟨rfl, ?_⟩
  dsimp only at hk5 hS4
  rw [hz2] at hS4
  refine hR h5 _ s.heap.objs.size (s.heap.objs.size + 1) tk1 tk3 c4 (fun b o h1' h2' h3' e' => ?_) (hk5 _ _ hSi hS4) (hk5 _ _ (Nat.ne_of_gt hil) hT04) (hk5 _ _ (Nat.ne_of_gt (Nat.lt_succ_of_lt hil)) hT14) (Nat.le_refl _) (Nat.lt_succ_self _)
  exact hk5 b o h3' ((hs4.2 b h1').trans (hk3 b o h2' h3' ((hs2.2 b h1').trans (hk1 b o h2' h3' e'))))

theorem init_enum2 {R : Result → Shared → Prop} {S e it t : Addr} {v0 v1 : Value} (hh : A.handled = none) (hS : s.heap.get? S = some { cls := .type "list", data := .seq #[] }) (he : IsEnum s.heap e it 0 .none)
    (hi : s.heap.IsTupleIter it t 0) (ht : s.heap.IsTuple t #[v0, v1]) (hne : e ≠ it) (hte : t ≠ e) (hti : t ≠ it) (hSe : S ≠ e) (hSi : S ≠ it) (hSt : t ≠ S)
    (hR : ∀ h' tk T0 T1 k0 k1 c, (∀ b o, b ≠ S → b ≠ e → b ≠ it → s.heap.get? b = some o → h'.get? b = some o) → h'.get? S = some (lstO #[.ref T0, .ref T1] c) → h'.get? T0 = some (prO (.int 0 k0) v0) → h'.get? T1 = some (prO (.int 1 k1) v1) →
      s.heap.objs.size ≤ T0 → T0 < T1 → R (.ok (.ret .none)) { s with heap := h', toks := tk }) :
    wpAny (model prog w) A.in1 (Builtin.«list.__init__» ⟨[.ref S, .ref e], []⟩)
      (fun fin s' => match fin with | .done f => R (.ok f) s' | .again c' => c'.quiet = true ∧ codeAny (model prog w) A c' R s') (fun e s' => R (.error e) s') s := by
  show wpAny _ _ (do let old ← Builtin.List.listItems (.ref S); Builtin.List.listUpdate (.ref S) (fun _ => #[]); letGo old.toList.reverse; Builtin.List.listExtendWith (.ref S) (.ref e) .none) _ _ s
  refine wpAny_bind ?_
  unfold Builtin.List.listItems
  refine wpAny_bind (wpAny_seqItems hS rfl (wpAny_pure ?_))
  show wpAny _ _ (updateSeq S (fun _ => #[]) >>= fun _ => letGo (#[] : Array Value).toList.reverse >>= fun _ => Builtin.List.listExtendWith (.ref S) (.ref e) .none) _ _ s
  refine wpAny_bind (wpAny_updateSeq hS rfl ?_)
  have hS₂ := Heap.get?_update_self (Obj.mapSeq (fun _ => (#[] : Array Value))) hS rfl
  have oth₂ : ∀ b o, b ≠ S → s.heap.get? b = some o → (s.heap.update S (Obj.mapSeq (fun _ => (#[] : Array Value)))).get? b = some o :=
    fun b o hb e => (Heap.get?_update_other _ _ (Ne.symm hb)).trans e
  have hz₂ : (s.heap.update S (Obj.mapSeq (fun _ => (#[] : Array Value)))).objs.size = s.heap.objs.size := (Heap.SameBut.update ..).1
  generalize s.heap.update S (Obj.mapSeq (fun _ => (#[] : Array Value))) = h₂ at hS₂ oth₂ hz₂
  refine wpAny_bind (wpAny_letGo ?_)
  have he₂ : IsEnum h₂ e it 0 .none := oth₂ _ _ (Ne.symm hSe) he
  have hT : Shared.TypeIs { s with heap := h₂ } (.ref e) "enumerate" := ⟨_, he₂, rfl⟩
  unfold Builtin.List.listExtendWith
  refine wpAny_bind (wpAny_typeOf hT ?_)
  have h1 : Builtin.List.listSameRef (.ref S) (.ref e) = false := by simp [Builtin.List.listSameRef, hSe]
  have h2 : (Value.type "enumerate" == Value.type "list") = false := by decide
  have h3 : (Value.type "enumerate" == Value.type "tuple") = false := by decide
  simp only [h1, h2, h3, Bool.or_false, Bool.false_eq_true, if_false]
  refine wpAny_bind (wpAny_pyIter_enum he₂ ?_)
  refine wpAny_bind (wpAny_holding ?_)
  unfold Builtin.List.listLengthHint
  refine wpAny_bind (wpAny_specialOf hT enum_no_len ?_)
  show wpAny _ _ (specialOf (Value.ref e) (Str.ofString "__length_hint__") >>= _) _ _ _
  refine wpAny_bind (wpAny_specialOf hT enum_no_hint ?_)
  refine wpAny_pure ?_
  show wpAny _ A.in1 (rule "list.extend.makes-room" >>= fun _ => Builtin.List.listTouch (.ref S) >>= fun _ =>
    again (.builtin "list.extend.loop" ⟨[.ref S, .ref e, .none], []⟩)) _ _ _
  refine wpAny_bind (wpAny_rule ?_)
  refine wpAny_bind ?_
  show wpAny _ A.in1 (updateSeq S (·.push .none) >>= fun _ => updateSeq S (·.pop)) _ _ _
  refine wpAny_bind (wpAny_updateSeq hS₂ rfl ?_)
  have hS₃ := Heap.get?_update_self (Obj.mapSeq (·.push Value.none)) hS₂ rfl
  have oth₃ : ∀ b o, b ≠ S → h₂.get? b = some o → (h₂.update S (Obj.mapSeq (·.push Value.none))).get? b = some o := fun b o hb e => (Heap.get?_update_other _ _ (Ne.symm hb)).trans e
  have hz₃ : (h₂.update S (Obj.mapSeq (·.push Value.none))).objs.size = h₂.objs.size := (Heap.SameBut.update ..).1
  generalize h₂.update S (Obj.mapSeq (·.push Value.none)) = h₃' at hS₃ oth₃ hz₃
  refine wpAny_updateSeq (hz := by decide) hS₃ rfl ?_ (by decide)
  have hS₄ := Heap.get?_update_self (Obj.mapSeq (·.pop)) hS₃ rfl
  have oth₄ : ∀ b o, b ≠ S → h₃'.get? b = some o → (h₃'.update S (Obj.mapSeq (·.pop))).get? b = some o := fun b o hb e => (Heap.get?_update_other _ _ (Ne.symm hb)).trans e
  have hz₄ : (h₃'.update S (Obj.mapSeq (·.pop))).objs.size = h₃'.objs.size := (Heap.SameBut.update ..).1
  generalize h₃'.update S (Obj.mapSeq (·.pop)) = h₄' at hS₄ oth₄ hz₄
  have oth : ∀ b o, b ≠ S → s.heap.get? b = some o → h₄'.get? b = some o := fun b o hb q => oth₄ b o hb (oth₃ b o hb (oth₂ b o hb q))
  refine wpAny_pure ⟨plainId_quiet PySem.F.plain_extend_loop _, loop_enum2 (s := { s with heap := h₄' }) hh (S := S) hS₄ (oth _ _ (Ne.symm hSe) he) (hi.at fun o q => oth it o (Ne.symm hSi) q) (ht.at fun o q => oth t o hSt q) hne hte hti hSe hSi hSt
    fun h' tk T0 T1 k0 k1 c hk hS' hT0 hT1 hl hlt => hR h' tk T0 T1 k0 k1 c (fun b o q1 q2 q3 q => hk b o q1 q2 q3 (oth b o q1 q)) hS' hT0 hT1 ?_ hlt⟩
  have hl' : h₄'.objs.size ≤ T0 := hl
  rw [hz₄, hz₃, hz₂] at hl'
  exact hl'

variable {h₀ : Heap} {L : Addr} {m : Str → Option Value}
theorem list_enum2 {e it t : Addr} {v0 v1 : Value} {k : Nat} {lo o : Obj} {news all : Led} {Q : Value → Shared → Prop}
    (hh : A.handled = none) (F : Fr h₀ L s.heap m) (N : News h₀ L s.heap all) (hea : (e, enumO it) ∈ all) (hia : (it, o) ∈ all) (hoc : o.cls = .type "tuple_iterator") (hod : o.data = .fields #[.ref t, .int 0 0]) (hn : ∀ p ∈ news, p ∈ all) (off : ∀ p ∈ news, p.1 < it) (lt : it < e)
    (hm : (t, lo) ∈ news) (hc : lo.cls = .type "tuple") (hd : lo.data = .seq #[v0, v1] k)
    (h : ∀ D T0 T1 h' tk k0 k1 c, Fr h₀ L h' m → News h₀ L h' ((D, lstO #[.ref T0, .ref T1] c) :: (T0, prO (.int 0 k0) v0) :: (T1, prO (.int 1 k1) v1) :: news) → (∀ p ∈ news, p.1 < D) → D < T0 → T0 < T1 → Q (.ref D) { s with heap := h', toks := tk }) :
    wpAny (model prog w) A (call (.type "list") [.ref e]) Q E s := by
  refine callType_codes (Q₁ := fun obj s₁ => obj = .ref s.heap.objs.size ∧ s₁ = { s with heap := s.heap.push { cls := .type "list", data := .seq #[] } }) PySem.F.called_list (PySem.F.typeCall_list_1 _) PySem.F.entry_list_init
    (code_list_new _ ⟨rfl, rfl⟩) fun obj s₁ h₁ => ?_
  obtain ⟨rfl, rfl⟩ := h₁
  have hS : (s.heap.push { cls := .type "list", data := .seq #[] }).get? s.heap.objs.size = some { cls := .type "list", data := .seq #[] } := Heap.get?_push_size _ rfl
  have up : ∀ b o, s.heap.get? b = some o → (s.heap.push { cls := .type "list", data := .seq #[] }).get? b = some o := fun b o q => Heap.get?_push_of_some _ q
  have ne := N _ hea
  have ni := N _ hia
  have nt := N _ (hn _ hm)
  have hti : t < it := off _ hm
  have he' : IsEnum s.heap e it 0 .none := ne.1
  have hi' : s.heap.IsTupleIter it t 0 := ⟨o, ni.1, hoc, by simpa using hod⟩
  have ht' : s.heap.IsTuple t #[v0, v1] := ⟨lo, nt.1, hc, k, hd⟩
  have hel : e < s.heap.objs.size := Heap.lt_size ne.1
  have hil : it < s.heap.objs.size := Heap.lt_size ni.1
  have htl : t < s.heap.objs.size := Heap.lt_size nt.1
  refine ⟨⟨_, hS, rfl⟩, PySem.F.args_list_init_2 _ _, init_enum2 (A := A.in1) hh hS (up _ _ he') (hi'.at fun o q => up _ _ q) (ht'.at fun o q => up _ _ q) (Ne.symm (Nat.ne_of_lt lt)) (Nat.ne_of_lt (Nat.lt_trans hti lt)) (Nat.ne_of_lt hti)
    (Nat.ne_of_gt hel) (Nat.ne_of_gt hil) (Nat.ne_of_lt htl) fun h' tk T0 T1 k0 k1 c hk hS' hT0 hT1 hl hlt => ⟨rfl, ?_⟩⟩
  rw [Heap.size_push] at hl
  have nw : ∀ b, s.heap.objs.size ≤ b → h₀.get? b = none ∧ b ≠ L := fun b hb => new_none F hb
  refine h s.heap.objs.size T0 T1 h' tk k0 k1 c ⟨?_, fun b o' q => ?_, F.above⟩ (fun p hp => ?_) (fun p hp => Heap.lt_size (N p (hn p hp)).1) hl hlt
  · have hLs : L < s.heap.objs.size := F.ns.lt
    exact F.ns.at' fun o' q => hk _ _ (Nat.ne_of_lt hLs) (Ne.symm ne.2.1) (Ne.symm ni.2.1) (up _ _ q)
  · have h1 := F.keep b o' q
    refine hk b o' (Nat.ne_of_lt (Heap.lt_size h1)) (fun q' => ?_) (fun q' => ?_) (up _ _ h1)
    · rw [q', ne.2.2] at q; cases q
    · rw [q', ni.2.2] at q; cases q
  · rcases List.mem_cons.mp hp with rfl | hp
    · exact ⟨hS', (nw _ (Nat.le_refl _)).2, (nw _ (Nat.le_refl _)).1⟩
    rcases List.mem_cons.mp hp with rfl | hp
    · have hb : s.heap.objs.size ≤ T0 := Nat.le_of_lt hl
      exact ⟨hT0, (nw _ hb).2, (nw _ hb).1⟩
    rcases List.mem_cons.mp hp with rfl | hp
    · have hb : s.heap.objs.size ≤ T1 := Nat.le_of_lt (Nat.lt_trans hl hlt)
      exact ⟨hT1, (nw _ hb).2, (nw _ hb).1⟩
    · have z := N p (hn p hp)
      exact ⟨hk _ _ (Nat.ne_of_lt (Heap.lt_size z.1)) (Nat.ne_of_lt (Nat.lt_trans (off p hp) lt)) (Nat.ne_of_lt (off p hp)) (up _ _ z.1), z.2⟩
end
end Mine

end
section
open PySem PySem.W PySem.Spec PySem.Calls PyProof.Rows PyProof.Rows.LCg
set_option Elab.async false
set_option maxRecDepth 100000
set_option maxHeartbeats 200000
namespace Mine
theorem off1_at {D : Addr} {l : Led} (h : LCg.Off1 D l) : ∀ p ∈ l, p.1 ≠ D := by
  induction l with
  | nil => intro p hp; cases hp
  | cons a r ih =>
    intro q hq
    rcases List.mem_cons.mp hq with e | hq
    · rw [e]; exact h.1
    · exact ih h.2 q hq
theorem off1_lt {D : Addr} {l : Led} (h : AllLt D l) : LCg.Off1 D l := by
  induction l with
  | nil => trivial
  | cons p r ih => exact ⟨Nat.ne_of_lt h.1, ih h.2⟩
section
variable {prog : Program} {w : World} {A : Around} {E : Value → Shared → Prop} {s : Shared} {h₀ : Heap} {env : Env} {Q : Flow → Shared → Prop} {body : List Stmt} {target : Expr}

/-- for i, x in enumerate(t), t a tuple of the ledger -/
theorem enum_turns {elts : List Expr} {k : Nat} {pos : Pos} {l : Addr} {lo : Obj} {vs : List Value} {n : Nat} {m₀ : Str → Option Value} {news : Led}
    (hh : A.handled = none) (F : Fr h₀ env.locals s.heap m₀) (N : News h₀ env.locals s.heap news) (hm : (l, lo) ∈ news) (hc : lo.cls = .type "tuple") (hd : lo.data = .seq vs.toArray n)
    (rest₀ : ∀ I : Addr, (∀ p ∈ news, p.1 < I) → ItemsRest prog w A E h₀ env (.Tuple elts k pos) body Q s [(I + 1, "enumerate"), (I, "tuple_iterator")] [(l, lo)] (enumItems 0 vs) m₀ news) :
    wpAny (model prog w) A (call (.type "enumerate") [.ref l]) (fun xv s₁ => wpAny (model prog w) A (pyIter xv) (fun it s₂ => TurnsAt prog w A h₀ env (.Tuple elts k pos) body Q E it s₂) E s₁) E s := by
  have hax := N _ hm
  have hl : s.heap.IsTuple l vs.toArray := ⟨lo, hax.1, hc, n, hd⟩
  have hlt : l < s.heap.objs.size := Heap.lt_size hax.1
  have hLs : env.locals < s.heap.objs.size := F.ns.lt
  refine call_enum_tup hl fun h' hE hI hsz hk => ?_
  refine wpAny_pyIter_enum hE ?_
  have W := enumTurns (prog := prog) (w := w) (A := A) (elts := elts) (kk := k) (tp := pos) hh (e := s.heap.objs.size + 1) (it := s.heap.objs.size) (t := l) (Nat.succ_ne_self _) (Nat.ne_of_lt hlt) (Ne.symm (ktu_ne 1 hlt)) vs.toArray
  rw [List.size_toArray] at W
  refine ktu_core (tk0 := s.toks) (keep := [(l, lo)]) W (by simp [enumItems_length]) ?_ ?_ ?_ ?_ ?_ ?_ ?_ ?_ (F.keeps hk) (N.grown hk) (And.intro hm trivial) (rest₀ _ fun p hp => Heap.lt_size (N p hp).1)
  · rintro i v h ⟨T, vals, rfl, ⟨t, x, hx, rfl⟩, hT⟩
    refine ⟨_, enumItems_get vs 0 i (v := x) (by simpa using hx), T, t, rfl, ?_⟩
    show IsTup h T #[.int ((0 + i : Nat) : Int) t, x]
    rw [Nat.zero_add]
    exact hT
  · rintro i h ⟨⟨old, he⟩, ⟨oi, hoi, hic, _⟩, _⟩
    have he' : ∃ oe : Obj, h.get? (s.heap.objs.size + 1) = some oe ∧ oe.cls = .type "enumerate" := ⟨_, he, rfl⟩
    obtain ⟨oe, h1, h2⟩ := he'
    refine ⟨[(s.heap.objs.size + 1, oe), (s.heap.objs.size, oi)], ⟨⟨rfl, h2⟩, ⟨rfl, hic⟩, trivial⟩, fun p hp => ?_⟩
    rcases List.mem_cons.mp hp with rfl | hp
    · exact h1
    · rw [List.mem_singleton.mp hp]; exact hoi
  · intro b hb
    have hb' : b = s.heap.objs.size + 1 ∨ b = s.heap.objs.size := by simpa using hb
    rcases hb' with rfl | rfl
    · exact ⟨by simp, ktu_new F (Nat.le_add_right _ _)⟩
    · exact ⟨by simp, ktu_new F (Nat.le_refl _)⟩
  · intro b hb
    simpa using hb
  · intro b hb
    have hb' : b = s.heap.objs.size + 1 ∨ b = s.heap.objs.size ∨ b = l := by simpa using hb
    rcases hb' with rfl | rfl | rfl
    · exact .inl (by simp)
    · exact .inl (by simp)
    · exact .inr ⟨lo, by simp⟩
  · intro hI'
    have hb' : env.locals = s.heap.objs.size + 1 ∨ env.locals = s.heap.objs.size ∨ env.locals = l := by simpa using hI'
    rcases hb' with e | e | e
    · exact ktu_ne 1 hLs e
    · exact Nat.ne_of_lt hLs e
    · exact hax.2.1 e.symm
  · intro p hp hI'
    have hb' : p.1 = s.heap.objs.size + 1 ∨ p.1 = s.heap.objs.size := by simpa using hI'
    have hlp := Heap.lt_size (N p hp).1
    rcases hb' with e | e
    · exact ktu_ne 1 hlp e
    · exact Nat.ne_of_lt hlp e
  · exact ⟨⟨.none, hE⟩, hI, hl.at fun o e => hk l o e⟩

theorem letGo_rangeiter {target : Expr} {I : Addr} {x l c : Int} {v : Value} {Q' : Unit → Shared → Prop} {s' : Shared} (hit : IsRangeIter s'.heap I x l c) (h : Q' () s') :
    wpAny (model prog w) A (letOwnedTupleGo target (.ref I) v) Q' E s' := by
  unfold letOwnedTupleGo
  cases target <;> first
    | exact wpAny_pure h
    | (cases v <;> first
        | exact wpAny_pure h
        | (refine wpAny_bind (wpAny_load hit ?_)
           exact wpAny_pure h))

noncomputable def rangeItems (a c : Int) (n : Nat) : List Itm := (List.range n).map fun i => .tok fun t => .int (a + (i : Nat) * c) t

/-- for k in range(..), the range object in the ledger -/
theorem range_turns {a b c : Int} {t u v : Tok} {r : Addr} {n : Nat} {m₀ : Str → Option Value} {news : Led}
    (hh : A.handled = none) (F : Fr h₀ env.locals s.heap m₀) (N : News h₀ env.locals s.heap news) (hr : IsRange s.heap r a b c t u v) (hsmall : Builtin.Range.small a b c = true) (hn : Builtin.Range.rangeSize a b c = (n : Int))
    (rest₀ : ∀ I : Addr, (∀ p ∈ news, p.1 < I) → ItemsRest prog w A E h₀ env target body Q s [(I, "range_iterator")] [] (rangeItems a c n) m₀ news) :
    wpAny (model prog w) A (pyIter (.ref r)) (fun it s₂ => TurnsAt prog w A h₀ env target body Q E it s₂) E s := by
  refine wpAny_pyIter_range hr hsmall ?_
  rw [hn]
  have W := KTurns.ofWalks (target := target) (Walks.range (prog := prog) (w := w) hh s.heap.objs.size a c n).bound fun i v s Q E st q => letGo_rangeiter st q
  refine ktu_core (tk0 := s.toks) (keep := []) (xs := rangeItems a c n) (ws := [(s.heap.objs.size, "range_iterator")]) W (by simp [rangeItems]) (fun i v h hp => ?_) (fun i h st => ?_) (fun b hb => ?_) (fun b hb => by simpa using hb) (fun b hb => ?_) ?_ (fun p hp hI => ?_) ?_ (F.push _) (fun p hp => ⟨Heap.get?_push_of_some _ (N p hp).1, (N p hp).2⟩) trivial (rest₀ _ fun p hp => Heap.lt_size (N p hp).1)
  · obtain ⟨hi, t', e⟩ := hp
    exact ⟨.tok fun t => .int (a + (i : Nat) * c) t, by simp [rangeItems, hi], t', e⟩
  · have st' : ∃ oe : Obj, h.get? s.heap.objs.size = some oe ∧ oe.cls = .type "range_iterator" := ⟨_, st, rfl⟩
    obtain ⟨oe, h1, h2⟩ := st'
    exact ⟨[(s.heap.objs.size, oe)], ⟨⟨rfl, h2⟩, trivial⟩, fun p hp => by rw [List.mem_singleton.mp hp]; exact h1⟩
  · have hb' : b = s.heap.objs.size := by simpa using hb
    rw [hb']
    exact ⟨List.mem_cons_self .., next_is_new F⟩
  · exact .inl (by simpa using hb)
  · intro hI
    exact absurd F.ns.lt ((List.mem_singleton.mp hI) ▸ Nat.lt_irrefl _)
  · exact absurd (Heap.lt_size (N p hp).1) ((List.mem_singleton.mp hI) ▸ Nat.lt_irrefl _)
  · show IsRangeIter _ _ _ _ _
    simpa using Heap.get?_push_size s.heap (o := { cls := .type "range_iterator", data := .fields #[rawInt a, rawInt (n : Int), rawInt c] }) rfl

theorem getItem_listM {L l : Addr} {lo : Obj} {vs : List Value} {k : Int} {n : Nat} {u : Tok} {v : Value} {news : Led} {Q : Value → Shared → Prop} (N : News h₀ L s.heap news) (hm : (l, lo) ∈ news) (hc : lo.cls = .type "list") (hd : lo.data = .seq vs.toArray n)
    (h0 : 0 ≤ k) (h1 : k < 2 ^ 63) (hx : vs[k.toNat]? = some v) (h : Q v s) : wpAny (model prog w) A (getItem (.ref l) (.int k u)) Q E s := by
  have hl : s.heap.IsList l vs.toArray := ⟨lo, (N _ hm).1, hc, n, hd⟩
  exact wpAny_getItem_list hl h0 h1 (x := v) (by simpa using hx) h
theorem off1_cons {D : Addr} {p : Addr × Obj} {r : Led} (h : @Ne Nat p.1 D) (x : LCg.Off1 D r) : LCg.Off1 D (p :: r) := ⟨h, x⟩
theorem off1_ltS {D : Addr} {l : Led} (h : AllLt D l) : LCg.Off1 (D + 1) l := by
  induction l with
  | nil => trivial
  | cons p r ih => exact ⟨Nat.ne_of_lt (Nat.lt_succ_of_lt h.1), ih h.2⟩
noncomputable def seps (its news : Led) : Prop := ∀ p ∈ news, ∀ q ∈ its, p.1 ≠ q.1
theorem seps_one {I : Addr} {o : Obj} {news : Led} (h : LCg.Off1 I news) : seps [(I, o)] news := fun p hp q hq => by
  rw [List.mem_singleton.mp hq]
  exact off1_at h p hp
theorem seps_two {I J : Addr} {o o' : Obj} {news : Led} (h : LCg.Off1 I news) (h' : LCg.Off1 J news) : seps [(I, o), (J, o')] news := fun p hp q hq => by
  rcases List.mem_cons.mp hq with e | hq
  · rw [e]; exact off1_at h p hp
  · rw [List.mem_singleton.mp hq]; exact off1_at h' p hp
theorem unr_end {L : Addr} {s₁ : Shared} {its news' all keep : Led} {rest : (Str → Option Value) → Led → Prop} {h' : Heap} {tk : Nat} {m' : Str → Option Value} (F : Fr h₀ L h' m') (N : News h₀ L h' all) (hs : Sub (its ++ news') all) (ho : seps its news') (hr : SubL keep news' ∧ rest m' news') :
    UnrPostW h₀ L s₁ its (fun m' n' => SubL keep n' ∧ rest m' n') Q .next { s₁ with heap := h', toks := tk } :=
  ⟨h', tk, m', news', rfl, F, News.sub N hs, ho, hr⟩
end
end Mine

end
section
open PySem PySem.W PySem.Spec PySem.Calls PyProof.Rows PyProof.Rows.LCg
set_option Elab.async false
set_option maxRecDepth 100000
set_option maxHeartbeats 200000
namespace Mine
theorem ite_split {c : Prop} [Decidable c] {a b : Prop} (h : c → a) (h' : ¬ c → b) : if c then a else b := by
  by_cases e : c
  · rw [if_pos e]; exact h e
  · rw [if_neg e]; exact h' e
section
variable {prog : Program} {w : World} {A : Around} {E : Value → Shared → Prop} {s : Shared} {env : Env} {Q : Flow → Shared → Prop} {body : List Stmt} {test : Expr}

/-- a while loop, its turns counted down -/
noncomputable def WRest (prog : Program) (w : World) (A : Around) (E : Value → Shared → Prop) (env : Env) (test : Expr) (body : List Stmt) (Q : Flow → Shared → Prop) : Nat → Shared → Prop
  | 0, _ => False
  | k + 1, s => wpAny (model prog w) A (isTrue test env (eval test env)) (fun b s₂ => if b = true then wpAny (model prog w) A (execs body env) (fun f s₃ => f = .next ∧ WRest prog w A E env test body Q k s₃) E s₂ else Q .next s₂) E s

theorem While_unr {pos : Pos} (k : Nat) (h : WRest prog w A E env test body Q k s) (hE : PassesOwn (model prog w) A env E := by passes_own) :
    wpAny (model prog w) A (exec (.While test body [] pos) env) Q E s := by
  refine wpAny_While (codeAny_whileLoop (fun n s' => WRest prog w A E env test body Q n s') ?_ k h)
  intro n s' h₁
  cases n with
  | zero => exact h₁.elim
  | succ n =>
    refine wpAny_mono h₁ (fun b s₂ h₂ => ?_) hE
    cases b with
    | false =>
      simp only [Bool.false_eq_true, if_false] at h₂ ⊢
      exact wpAny_execs_nil h₂
    | true =>
      simp only [if_true] at h₂ ⊢
      refine wpAny_mono h₂ (fun f s₃ h₃ => ?_) hE
      obtain ⟨rfl, h₃⟩ := h₃
      exact ⟨n, Nat.lt_succ_self _, h₃⟩
theorem WRest.turn {k : Nat} (h : wpAny (model prog w) A (isTrue test env (eval test env)) (fun b s₂ => if b = true then wpAny (model prog w) A (execs body env) (fun f s₃ => f = .next ∧ WRest prog w A E env test body Q k s₃) E s₂ else Q .next s₂) E s) :
    WRest prog w A E env test body Q (k + 1) s := h
end
section
variable {prog : Program} {w : World} {A : Around} {E : Value → Shared → Prop} {s : Shared} {h₀ : Heap} {env : Env} {Q : Flow → Shared → Prop} {body : List Stmt}
/-- for x, y in zip(t, u), both tuples of the ledger -/
theorem zip_turns {elts : List Expr} {k : Nat} {pos : Pos} {l1 l2 : Addr} {lo1 lo2 : Obj} {xs ys : List Value} {n1 n2 : Nat} {m₀ : Str → Option Value} {news : Led}
    (hh : A.handled = none) (F : Fr h₀ env.locals s.heap m₀) (N : News h₀ env.locals s.heap news) (hm1 : (l1, lo1) ∈ news) (hc1 : lo1.cls = .type "tuple") (hd1 : lo1.data = .seq xs.toArray n1) (hm2 : (l2, lo2) ∈ news) (hc2 : lo2.cls = .type "tuple") (hd2 : lo2.data = .seq ys.toArray n2) (hl : xs.length = ys.length)
    (rest₀ : ∀ I : Addr, (∀ p ∈ news, p.1 < I) → ItemsRest prog w A E h₀ env (.Tuple elts k pos) body Q s (zipWs I) [(l1, lo1), (l2, lo2)] (zipItems xs ys) m₀ news) :
    wpAny (model prog w) A (call (.type "zip") [.ref l1, .ref l2]) (fun xv s₁ => wpAny (model prog w) A (pyIter xv) (fun it s₂ => TurnsAt prog w A h₀ env (.Tuple elts k pos) body Q E it s₂) E s₁) E s := by
  have hax1 := N _ hm1
  have hax2 := N _ hm2
  have hl1 : s.heap.IsTuple l1 xs.toArray := ⟨lo1, hax1.1, hc1, n1, hd1⟩
  have hl2 : s.heap.IsTuple l2 ys.toArray := ⟨lo2, hax2.1, hc2, n2, hd2⟩
  have hlt1 : l1 < s.heap.objs.size := Heap.lt_size hax1.1
  have hlt2 : l2 < s.heap.objs.size := Heap.lt_size hax2.1
  have hLs : env.locals < s.heap.objs.size := F.ns.lt
  have D : ZipApart (s.heap.objs.size + 4) (s.heap.objs.size + 2) (s.heap.objs.size + 3) s.heap.objs.size (s.heap.objs.size + 1) l1 l2 := ktu_apart _ _ _ hlt1 hlt2
  refine call_zip_tup hl1 hl2 fun h' hz hTI hTO hi1 hi2 hsz hk => ?_
  refine wpAny_pyIter_zip hz ?_
  have W := zipTurns (prog := prog) (w := w) (A := A) (elts := elts) (kk := k) (tp := pos) hh D xs.toArray ys.toArray (by simpa using hl)
  rw [List.size_toArray] at W
  refine ktu_core (tk0 := s.toks) (keep := [(l1, lo1), (l2, lo2)]) (ws := zipWs s.heap.objs.size) W (by simp [zipItems_length, hl]) (fun i v h hP => ?_) (fun i h st => zip_objs st) (fun b hb => ?_) (fun b hb => ?_) (fun b hb => ?_) (fun hI' => ?_) (fun p hp hI' => ?_) ⟨hz, hTI, ⟨_, _, hTO⟩, hi1, hi2, hl1.at fun o e => hk l1 o e, hl2.at fun o e => hk l2 o e⟩ (F.keeps hk) (N.grown hk) (And.intro hm1 (And.intro hm2 trivial)) (rest₀ _ fun p hp => Heap.lt_size (N p hp).1)
  · obtain ⟨T, vals, rfl, ⟨x, y, hx, hy, rfl⟩, hT⟩ := hP
    exact ⟨_, zipItems_get xs ys i (x := x) (y := y) (by simpa using hx) (by simpa using hy), T, 0, rfl, hT⟩
  · rcases zipWs_mem hb with rfl | rfl | rfl | rfl | rfl
    · exact ⟨.head _, ktu_new F (Nat.le_add_right _ _)⟩
    · exact ⟨.tail _ (.head _), ktu_new F (Nat.le_add_right _ _)⟩
    · exact ⟨.tail _ (.tail _ (.head _)), ktu_new F (Nat.le_add_right _ _)⟩
    · exact ⟨.tail _ (.tail _ (.tail _ (.head _))), ktu_new F (Nat.le_refl _)⟩
    · exact ⟨.tail _ (.tail _ (.tail _ (.tail _ (.head _)))), ktu_new F (Nat.le_add_right _ _)⟩
  · rcases mem4 hb with e | e | e | e
    · exact memE e (.head _)
    · exact memE e (.tail _ (.tail _ (.head _)))
    · exact memE e (.tail _ (.tail _ (.tail _ (.head _))))
    · exact memE e (.tail _ (.tail _ (.tail _ (.tail _ (.head _)))))
  · rcases mem7 hb with e | e | e | e | e | e | e
    · exact .inl (memE e (.head _))
    · exact .inl (memE e (.tail _ (.head _)))
    · exact .inl (memE e (.tail _ (.tail _ (.head _))))
    · exact .inl (memE e (.tail _ (.tail _ (.tail _ (.head _)))))
    · exact .inl (memE e (.tail _ (.tail _ (.tail _ (.tail _ (.head _))))))
    · exact .inr ⟨lo1, memX e (.head _)⟩
    · exact .inr ⟨lo2, memX e (.tail _ (.head _))⟩
  · have hb' := mem7 hI'
    have n1 := hax1.2.1
    have n2 := hax2.2.1
    rcases hb' with e | e | e | e | e | e | e
    · exact ktu_ne 4 hLs e
    · exact ktu_ne 2 hLs e
    · exact ktu_ne 3 hLs e
    · exact Nat.ne_of_lt hLs e
    · exact ktu_ne 1 hLs e
    · exact n1 e.symm
    · exact n2 e.symm
  · have hb' := mem4 hI'
    have hlp := Heap.lt_size (N p hp).1
    rcases hb' with e | e | e | e
    · exact ktu_ne 4 hlp e
    · exact ktu_ne 3 hlp e
    · exact Nat.ne_of_lt hlp e
    · exact ktu_ne 1 hlp e
theorem seps_zip {I : Addr} {o1 o2 o3 o4 o5 : Obj} {news : Led} (h : ∀ p ∈ news, p.1 < I) : seps [(I + 4, o1), (I + 2, o2), (I + 3, o3), (I, o4), (I + 1, o5)] news := fun p hp q hq => by
  have hl := h p hp
  have : q.1 = I + 4 ∨ q.1 = I + 2 ∨ q.1 = I + 3 ∨ q.1 = I ∨ q.1 = I + 1 := by
    rcases List.mem_cons.mp hq with e | hq
    · exact .inl (by rw [e])
    rcases List.mem_cons.mp hq with e | hq
    · exact .inr (.inl (by rw [e]))
    rcases List.mem_cons.mp hq with e | hq
    · exact .inr (.inr (.inl (by rw [e])))
    rcases List.mem_cons.mp hq with e | hq
    · exact .inr (.inr (.inr (.inl (by rw [e]))))
    · exact .inr (.inr (.inr (.inr (by rw [List.mem_singleton.mp hq]))))
  rcases this with e | e | e | e | e <;> rw [e]
  · exact ktu_ne 4 hl
  · exact ktu_ne 2 hl
  · exact ktu_ne 3 hl
  · exact Nat.ne_of_lt hl
  · exact ktu_ne 1 hl
end
end Mine

end
section
open PySem PySem.W PySem.Spec PySem.Calls PyProof.Rows PyProof.Rows.LCg
set_option Elab.async false
set_option maxRecDepth 100000
set_option maxHeartbeats 400000
namespace Mine
theorem entry_powB : entryFor table "pow" = some Builtin.«pow» := entryFor_of_fast (by kernel_rfl)
theorem plain_powB : plainId "pow" = true := by decide +kernel
theorem kind_powB : builtinKind "pow" = none := by decide +kernel
theorem args_powB (a b c : Value) : argsOk "pow" ⟨[a, b, c], []⟩ := by unfold argsOk; kernel_rfl
theorem args_int_pow3 (a b c : Value) : argsOk "int.__pow__" ⟨[a, b, c], []⟩ := by unfold argsOk; kernel_rfl

theorem slot_pow : Slot "int" (Str.ofString "__pow__") "int.__pow__" := (show PySem.dunder "pow" = Str.ofString "__pow__" from by decide +kernel) ▸ slot_int_pow

section
variable {prog : Program} {w : World} {A : Around} {E : Value → Shared → Prop} {s : Shared} {a e m : Int} {t u v : Tok} {Q : Value → Shared → Prop}
theorem call_int_pow3 (he : 0 ≤ e) (hm : 1 < m) (h : Q (.int ((Builtin.powMod (a % m).toNat e.natAbs m.natAbs : Nat) : Int) s.toks) { s with toks := s.toks + 1 }) :
    wpAny (model prog w) A (call (.builtin "int.__pow__") [.int a t, .int e u, .int m v]) Q E s := by
  have h1 : ((m.natAbs : Nat) : Int) = m := by omega
  have h2 : (m == 0) = false := by rw [beq_eq_false_iff_ne]; omega
  have h3 : (m.natAbs == 1) = false := by rw [beq_eq_false_iff_ne]; omega
  have h4 : ¬ e < 0 := by omega
  have h5 : decide (m < 0) = false := by rw [decide_eq_false_iff_not]; omega
  refine wpAny_call_entry slot_int_pow (typeIs_int s a t) entry_int_pow ?_ (args_int_pow3 _ _ _)
  show wpAny _ _ (if (m == 0) = true then _ else _) _ _ s
  rw [if_neg (by rw [h2]; exact Bool.false_ne_true)]
  show wpAny _ _ (if (m.natAbs == 1) = true then _ else _) _ _ s
  rw [if_neg (by rw [h3]; exact Bool.false_ne_true)]
  show wpAny _ _ (if e < 0 then _ else _) _ _ s
  rw [if_neg h4]
  rw [← h1] at h
  simp only [h5, Bool.false_and, Bool.false_eq_true, if_false]
  repeat (first | refine wpAny_pure ?_ | refine wpAny_mkInt ?_ | refine wpAny_rule ?_ | refine wpAny_bind ?_)
  exact ⟨_, rfl, by simpa using h⟩
theorem call_pow3 (he : 0 ≤ e) (hm : 1 < m) (h : Q (.int ((Builtin.powMod (a % m).toNat e.natAbs m.natAbs : Nat) : Int) s.toks) { s with toks := s.toks + 1 }) :
    wpAny (model prog w) A (call (.builtin "pow") [.int a t, .int e u, .int m v]) Q E s := by
  refine Calls.call_function_entry kind_powB plain_powB entry_powB (args_powB _ _ _) ?_
  unfold Builtin.«pow»
  refine wpAny_bind (m := Builtin.Builtins.bindParams "pow" ["base", "exp", "mod"] 2 _) (wpAny_of_eq (a := [some (.int a t), some (.int e u), some (.int m v)]) (by rfl) ?_)
  show wpAny _ _ (rule "pow.mod" >>= _) _ _ s
  refine wpAny_bind (wpAny_rule ?_)
  refine wpAny_bind (wpAny_typeOf (typeIs_int s a t) ?_)
  dsimp only
  refine wpAny_bind (wpAny_of_eq slot_pow.lookup ?_)
  refine wpAny_bind (wpAny_callSpecial?_slot (typeIs_int s a t) slot_pow (call_int_pow3 he hm ?_))
  dsimp only
  rw [if_pos (by rfl)]
  exact wpAny_pure ⟨_, rfl, h⟩
end
end Mine

end
section
open PySem PySem.W PySem.Spec PySem.Calls PyProof.Rows
set_option Elab.async false
set_option maxRecDepth 100000
noncomputable section
namespace Mine
noncomputable abbrev tupO (vs : List Value) (c : Nat) : Obj := { cls := .type "tuple", data := .seq vs.toArray c }
noncomputable abbrev fqD (P : Params) (p : Int) (mc cf mo : Addr) (k1 k2 k3 k4 k5 tp td : Tok) : List DictEntry :=
  [⟨PyData.keyHash P "field_modulus", .str "field_modulus" k1, .int p tp⟩, ⟨PyData.keyHash P "mc_tuples", .str "mc_tuples" k2, .ref mc⟩, ⟨PyData.keyHash P "coeffs", .str "coeffs" k3, .ref cf⟩,
   ⟨PyData.keyHash P "modulus_coeffs", .str "modulus_coeffs" k4, .ref mo⟩, ⟨PyData.keyHash P "degree", .str "degree" k5, .int 2 td⟩]
noncomputable abbrev LO : List Str := ["_wall", "__name__", "is_inf", "is_on_curve", "double", "add", "eq", "neg", "prime_field_inv", "deg", "FQP", "FQ2", "_law_great", "_law_prime", "_law_times", "_law_less", "_law_over", "_law_root",
  "_law_cubed", "_law_point", "_law_opposite", "_law_sum", "_law_made", "_law_form", "_law_reads", "law"]
theorem top_relax {p : Program} {l1 l2 : List Str} {mean : ExcName → Option Value} {mg mb : Str → Option Value} {h : Heap} (T : Top topProg l1 mean mg mb h)
    (hl : l1.all (fun x => l2.contains x || startupNames.contains x) = true) : Top topProg l2 mean mg mb h :=
  { T with
    free := fun x h1 h2 h3 h4 h5 => T.free x h1 (fun q => by
      have := List.all_eq_true.mp hl x q
      simp only [Bool.or_eq_true, List.contains_iff_mem] at this
      exact this.elim h2 h1) h3 h4 (by intro q; cases (show x ∈ ([] : List Str) from q)) }
/-- the code table of FQP.__init__, grown -/
noncomputable def TB (news : Led) : Prop := ∃ c' : Addr, (86, tabObj #[rawInt 81, rawInt 32, .ref c']) ∈ news
theorem TB.sub {a b : Led} (x : TB a) (hs : ∀ p ∈ a, p ∈ b) : TB b := let ⟨c, e⟩ := x; ⟨c, hs _ e⟩
theorem code88 {P : Params} {h : Heap} (X : (KX P).In h) : CodeHd h 88 86 := codeHd_of_K X (by rfl)
/-- the two parts of a product of pairs -/
noncomputable def mA (p a b c d : Int) : Int := (a * c - b * d).fmod p
noncomputable def mB (p a b c d : Int) : Int := (a * d + b * c).fmod p
noncomputable abbrev F2 : Type := Int × Int
noncomputable def fmul (p : Int) (a b : F2) : F2 := (mA p a.1 a.2 b.1 b.2, mB p a.1 a.2 b.1 b.2)
noncomputable def fsub (p : Int) (a b : F2) : F2 := ((a.1 - b.1).fmod p, (a.2 - b.2).fmod p)
noncomputable def fneg (p : Int) (a : F2) : F2 := ((-a.1).fmod p, (-a.2).fmod p)
noncomputable def fmulk (p : Int) (k : Int) (a : F2) : F2 := ((a.1 * k).fmod p, (a.2 * k).fmod p)
noncomputable def fone (p : Int) : F2 := ((1 : Int).fmod p, 0)
noncomputable def fpow2 (p : Int) (a : F2) : F2 := fmul p (fone p) (fmul p a a)
noncomputable def fpow3 (p : Int) (a : F2) : F2 := fmul p (fmul p (fone p) a) (fmul p a a)
noncomputable abbrev P3 : Type := F2 × F2 × F2
noncomputable def pdbl (p : Int) (P : P3) : P3 :=
  (fmul p (fmulk p 2 (fsub p (fmul p (fmul p (fmulk p 3 P.1) P.1) (fmul p (fmulk p 3 P.1) P.1)) (fmulk p 8 (fmul p (fmul p P.1 P.2.1) (fmul p P.2.1 P.2.2))))) (fmul p P.2.1 P.2.2),
   fsub p (fmul p (fmul p (fmulk p 3 P.1) P.1) (fsub p (fmulk p 4 (fmul p (fmul p P.1 P.2.1) (fmul p P.2.1 P.2.2))) (fsub p (fmul p (fmul p (fmulk p 3 P.1) P.1) (fmul p (fmulk p 3 P.1) P.1)) (fmulk p 8 (fmul p (fmul p P.1 P.2.1) (fmul p P.2.1 P.2.2))))))
     (fmul p (fmul p (fmulk p 8 P.2.1) P.2.1) (fmul p (fmul p P.2.1 P.2.2) (fmul p P.2.1 P.2.2))),
   fmul p (fmulk p 8 (fmul p P.2.1 P.2.2)) (fmul p (fmul p P.2.1 P.2.2) (fmul p P.2.1 P.2.2)))
/-- the sum of two points with unlike quotients: U, V, V2, U2, W are the program's own -/
noncomputable def paddG (p : Int) (U V V2 U2 W : F2) : P3 :=
  let A := fsub p (fsub p (fmul p (fmul p U U) W) (fmul p V (fmul p V V))) (fmulk p 2 (fmul p (fmul p V V) V2))
  (fmul p V A, fsub p (fmul p U (fsub p (fmul p (fmul p V V) V2) A)) (fmul p (fmul p V (fmul p V V)) U2), fmul p (fmul p V (fmul p V V)) W)
noncomputable def padd (p : Int) (P Q : P3) : P3 :=
  if P.2.2 = (0, 0) ∨ Q.2.2 = (0, 0) then (if Q.2.2 = (0, 0) then P else Q)
  else if fmul p Q.1 P.2.2 = fmul p P.1 Q.2.2 ∧ fmul p Q.2.1 P.2.2 = fmul p P.2.1 Q.2.2 then pdbl p P
  else if fmul p Q.1 P.2.2 = fmul p P.1 Q.2.2 then (fone p, fone p, (0, 0))
  else paddG p (fsub p (fmul p Q.2.1 P.2.2) (fmul p P.2.1 Q.2.2)) (fsub p (fmul p Q.1 P.2.2) (fmul p P.1 Q.2.2)) (fmul p P.1 Q.2.2) (fmul p P.2.1 Q.2.2) (fmul p P.2.2 Q.2.2)
noncomputable def Bd (n : Nat) (x : Int) : Prop := x.natAbs < 2 ^ n
theorem Bd.mul {n m : Nat} {x y : Int} (a : Bd n x) (b : Bd m y) : Bd (n + m) (x * y) := by
  unfold Bd at *
  rw [Int.natAbs_mul, Nat.pow_add]
  exact Nat.mul_lt_mul'' a b
theorem Bd.mono {n m : Nat} {x : Int} (a : Bd n x) (h : n ≤ m) : Bd m x := Nat.lt_of_lt_of_le a (Nat.pow_le_pow_right (by decide) h)
theorem Bd.neg {n : Nat} {x : Int} (a : Bd n x) : Bd n (-x) := by unfold Bd at *; rwa [Int.natAbs_neg]
theorem Bd.add {n m : Nat} {x y : Int} (a : Bd n x) (b : Bd m y) : Bd (n + m + 1) (x + y) := by
  have h1 := Bd.mono a (show n ≤ n + m by omega)
  have h2 := Bd.mono b (show m ≤ n + m by omega)
  unfold Bd at *
  have := Int.natAbs_add_le x y
  rw [Nat.pow_succ]
  omega
theorem Bd.sub {n m : Nat} {x y : Int} (a : Bd n x) (b : Bd m y) : Bd (n + m + 1) (x - y) := by
  rw [Int.sub_eq_add_neg]; exact a.add b.neg
theorem Bd.nat {n : Nat} {x p : Int} (h0 : 0 ≤ x) (h1 : x < p) (hp : p.natAbs < 2 ^ n) : Bd n x := by unfold Bd; omega
noncomputable abbrev PB (p : Int) : Prop := 0 < p ∧ Bd 400 p
theorem Bd.fmod {p x : Int} (hp : PB p) : Bd 400 (x.fmod p) := Bd.nat (Int.fmod_nonneg_of_pos x hp.1) (Int.fmod_lt_of_pos x hp.1) hp.2
theorem Bd.zero : Bd 0 0 := by unfold Bd; decide
theorem Bd.one : Bd 1 1 := by unfold Bd; decide
theorem Bd.two : Bd 2 2 := by unfold Bd; decide
theorem Bd.three : Bd 2 3 := by unfold Bd; decide
theorem Bd.four : Bd 3 4 := by unfold Bd; decide
theorem Bd.eight : Bd 4 8 := by unfold Bd; decide
theorem Bd.small {k : Int} (h : k.natAbs < 1024) : Bd 10 k := h
theorem Bd.bits {n : Nat} {x : Int} (a : Bd n x) : Builtin.Int.intBits x ≤ n := by
  unfold Builtin.Int.intBits
  split
  · exact Nat.zero_le _
  · rename_i h
    have h0 : x.natAbs ≠ 0 := fun e => h (by rw [Int.natAbs_eq_zero.mp e]; rfl)
    exact (Nat.log2_lt h0).mpr a
theorem mulok {n m : Nat} {x y : Int} (a : Bd n x) (b : Bd m y) (h : n + m ≤ 100000) : IntMulOk x y := by
  have h1 := a.bits
  have h2 := b.bits
  unfold IntMulOk
  intro q
  simp only [Bool.and_eq_true, Builtin.Int.intTooBig, decide_eq_true_eq] at q
  have h3 := q.2
  have : (100000 : Int) ≤ bitsLine := by decide
  omega
noncomputable def Red (p c0 c1 : Int) : Prop := (0 ≤ c0 ∧ c0 < p) ∧ (0 ≤ c1 ∧ c1 < p)
theorem Red.fmod {p : Int} (hp : PB p) (a b : Int) : Red p (a.fmod p) (b.fmod p) := ⟨⟨Int.fmod_nonneg_of_pos a hp.1, Int.fmod_lt_of_pos a hp.1⟩, Int.fmod_nonneg_of_pos b hp.1, Int.fmod_lt_of_pos b hp.1⟩
theorem Red.bd0 {p a b : Int} (hp : PB p) (h : Red p a b) : Bd 400 a := Bd.nat h.1.1 h.1.2 hp.2
theorem Red.bd1 {p a b : Int} (hp : PB p) (h : Red p a b) : Bd 400 b := Bd.nat h.2.1 h.2.2 hp.2
/-- the program's pow(a, e, p) -/
noncomputable def powZ (p a e : Int) : Int := ((Builtin.powMod (a % p).toNat e.natAbs p.natAbs : Nat) : Int)
theorem fold_lt {m b e : Nat} (hm : 1 < m) : ∀ (l : List Nat) (x : Nat), x < m → l.foldl (fun p i => if e.testBit i then p * p % m * b % m else p * p % m) x < m
  | [], _, h => h
  | _ :: l, x, _ => fold_lt hm l _ (by dsimp only; split <;> exact Nat.mod_lt _ (by omega))
theorem powZ_red {p a e : Int} (hp : 1 < p) : 0 ≤ powZ p a e ∧ powZ p a e < p := by
  have h : Builtin.powMod (a % p).toNat e.natAbs p.natAbs < p.natAbs := by
    have hm : 1 < p.natAbs := by omega
    exact fold_lt hm _ _ (Nat.mod_lt _ (by omega))
  unfold powZ
  omega
theorem Bd.powZ {p a e : Int} (hb : PB p) (hp : 1 < p) : Bd 400 (powZ p a e) := Bd.nat (powZ_red hp).1 (powZ_red hp).2 hb.2
noncomputable def fover (p : Int) (u : F2) : F2 := ((u.1 * powZ p ((u.1 ^ 2 + u.2 ^ 2).fmod p) (p - 2)).fmod p, (-u.2 * powZ p ((u.1 ^ 2 + u.2 ^ 2).fmod p) (p - 2)).fmod p)
theorem powok {n : Nat} {a : Int} (h : Bd n a) (hn : n ≤ 1000000) : (Builtin.Int.intBits a : Int) * 2 ≤ 2 ^ 27 := by
  have := h.bits
  omega
/-- an FQ2 object in a ledger -/
noncomputable def IsFQ (P : Params) (p : Int) (news : Led) (x : Addr) (c0 c1 : Int) : Prop :=
  ∃ dx mc mt cf mo k1 k2 k3 k4 k5 tp td n1 n2 n3 n4 t1 t2 t3 t4 t5 t6, (x, instObj 227 dx) ∈ news ∧ (dx, dictOf (fqD P p mc cf mo k1 k2 k3 k4 k5 tp td) 5) ∈ news ∧
    (mc, { cls := .type "list", data := .seq #[.ref mt] n1 }) ∈ news ∧ (mt, tupO [.int 0 t1, .int 1 t2] n2) ∈ news ∧ (cf, tupO [.int c0 t3, .int c1 t4] n3) ∈ news ∧ (mo, tupO [.int 1 t5, .int 0 t6] n4) ∈ news ∧ Red p c0 c1
theorem IsFQ.sub {P : Params} {p : Int} {a b : Led} {x : Addr} {c0 c1 : Int} (h : IsFQ P p a x c0 c1) (s : Sub a b) : IsFQ P p b x c0 c1 :=
  h.imp fun dx h => h.imp fun mc h => h.imp fun mt h => h.imp fun cf h => h.imp fun mo h => h.imp fun k1 h => h.imp fun k2 h => h.imp fun k3 h => h.imp fun k4 h => h.imp fun k5 h => h.imp fun tp h => h.imp fun td h => h.imp fun n1 h => h.imp fun n2 h => h.imp fun n3 h => h.imp fun n4 h => h.imp fun t1 h => h.imp fun t2 h => h.imp fun t3 h => h.imp fun t4 h => h.imp fun t5 h => h.imp fun t6 h => And.imp (s _) (And.imp (s _) (And.imp (s _) (And.imp (s _) (And.imp (s _) (And.imp_left (s _)))))) h
theorem IsFQ.inst {P : Params} {p : Int} {a : Led} {x : Addr} {c0 c1 : Int} (h : IsFQ P p a x c0 c1) : ∃ dx od, (x, instObj 227 dx) ∈ a ∧ (dx, od) ∈ a :=
  h.elim fun dx h => h.elim fun mc h => h.elim fun mt h => h.elim fun cf h => h.elim fun mo h => h.elim fun k1 h => h.elim fun k2 h => h.elim fun k3 h => h.elim fun k4 h => h.elim fun k5 h => h.elim fun tp h => h.elim fun td h => h.elim fun n1 h => h.elim fun n2 h => h.elim fun n3 h => h.elim fun n4 h => h.elim fun t1 h => h.elim fun t2 h => h.elim fun t3 h => h.elim fun t4 h => h.elim fun t5 h => h.elim fun t6 h => ⟨dx, _, h.1, h.2.1⟩
noncomputable abbrev IsF (P : Params) (p : Int) (news : Led) (x : Addr) (a : F2) : Prop := IsFQ P p news x a.1 a.2
theorem IsF.sub {P : Params} {p : Int} {a b : Led} {x : Addr} {u : F2} (h : IsF P p a x u) (s : Sub a b) : IsF P p b x u := IsFQ.sub h s
/-- a projective point in a ledger: a tuple of three FQ2 objects -/
noncomputable def IsPt (P : Params) (p : Int) (news : Led) (t : Addr) (a : P3) : Prop :=
  ∃ x y z n, (t, tupO [.ref x, .ref y, .ref z] n) ∈ news ∧ IsF P p news x a.1 ∧ IsF P p news y a.2.1 ∧ IsF P p news z a.2.2
theorem IsPt.sub {P : Params} {p : Int} {l l' : Led} {t : Addr} {a : P3} (h : IsPt P p l t a) (s : Sub l l') : IsPt P p l' t a :=
  let ⟨x, y, z, n, h1, h2, h3, h4⟩ := h; ⟨x, y, z, n, s _ h1, h2.sub s, h3.sub s, h4.sub s⟩
theorem SRg.push {os : OsState} {g : Array GenState} {x : GenState} (h : x.bare = true) : SRg os g os (g.push x) := ⟨rfl, fun a => a.push h⟩
end Mine

end

end
section
open PySem PySem.W PySem.Spec PySem.Calls PyProof.Rows
set_option Elab.async false
set_option maxRecDepth 100000
noncomputable section
namespace Mine
theorem Bd.fdiv2 {n : Nat} {x : Int} (a : Bd n x) : Bd n (x.fdiv 2) := by
  unfold Bd at *
  have := Int.fdiv_eq_ediv_of_nonneg x (b := 2) (by decide)
  omega
theorem Bd.ofPB {p : Int} (h : PB p) : Bd 400 p := h.2
theorem fmod_rep {p : Int} (hp : 0 < p) (x : Int) : ∃ q, x.fmod p = x + p * q := ⟨-x.fdiv p, by have := Int.mul_fdiv_add_fmod x p; rw [Int.mul_neg]; omega⟩
theorem fmod_eq {p x y q : Int} (e : x = y + p * q) : x.fmod p = y.fmod p := by rw [e]; exact Int.add_mul_fmod_self_left ..
theorem fmul_neg {p : Int} (hp : 0 < p) (r : F2) : fmul p (fsub p (0, 0) r) (fsub p (0, 0) r) = fmul p r r := by
  obtain ⟨a, b⟩ := r
  obtain ⟨q1, e1⟩ := fmod_rep hp (0 - a)
  obtain ⟨q2, e2⟩ := fmod_rep hp (0 - b)
  simp only [fmul, fsub, mA, mB, e1, e2]
  refine Prod.ext (fmod_eq (q := -2 * a * q1 + p * q1 * q1 + 2 * b * q2 - p * q2 * q2) ?_) (fmod_eq (q := 2 * (-a * q2 - b * q1 + p * q1 * q2)) ?_) <;> grind
noncomputable def fadd (p : Int) (a b : F2) : F2 := ((a.1 + b.1).fmod p, (a.2 + b.2).fmod p)
/-- the right side of the curve -/
noncomputable def fcub (p : Int) (sh a : F2) : F2 := fadd p (fmul p a (fmul p a a)) sh
theorem lk4 {a b c d : Str} {va vb vc vd : Value} (z : Str) : List.lookup z [(a, va), (b, vb), (c, vc), (d, vd)] = if z = a then some va else if z = b then some vb else if z = c then some vc else if z = d then some vd else none := by
  simp only [List.lookup]
  repeat' split
  all_goals simp_all
noncomputable def mPt (nm ot : Int) (t1 t2 : Tok) (y : Addr) (p : Int) (tp : Tok) : Str → Option Value := fun z =>
  if z = Str.ofString "prime" then some (.int p tp) else if z = Str.ofString "shift" then some (.ref y) else if z = Str.ofString "other" then some (.int ot t2) else if z = Str.ofString "number" then some (.int nm t1) else none
/-- a pair of ints in a ledger -/
noncomputable def IsPr (news : Led) (z : Addr) (u : F2) : Prop := ∃ k1 k2 n, (z, tupO [.int u.1 k1, .int u.2 k2] n) ∈ news
theorem IsPr.sub {a b : Led} {z : Addr} {u : F2} (h : IsPr a z u) (s : Sub a b) : IsPr b z u := let ⟨k1, k2, n, e⟩ := h; ⟨k1, k2, n, s _ e⟩
noncomputable abbrev Aff : Type := Option (F2 × F2)
noncomputable abbrev RedF (p : Int) (u : F2) : Prop := Red p u.1 u.2
/-- an affine point of the law's own: None, or a pair of reduced pairs -/
noncomputable def IsAf (p : Int) (news : Led) (v : Value) : Aff → Prop
  | none => v = .none
  | some (x, y) => ∃ z zx zy n, v = .ref z ∧ (z, tupO [.ref zx, .ref zy] n) ∈ news ∧ IsPr news zx x ∧ IsPr news zy y ∧ RedF p x ∧ RedF p y
theorem IsAf.sub {p : Int} {a b : Led} {v : Value} : ∀ {u : Aff}, IsAf p a v u → Sub a b → IsAf p b v u
  | none, h, _ => h
  | some (_, _), ⟨z, zx, zy, n, e, h1, h2, h3, h4⟩, s => ⟨z, zx, zy, n, e, s _ h1, h2.sub s, h3.sub s, h4⟩
noncomputable def OnC (p : Int) (sh : F2) : Aff → Prop
  | none => True
  | some (x, y) => fmul p y y = fcub p sh x
noncomputable def aneg (p : Int) : Aff → Aff
  | none => none
  | some (x, y) => some (x, fsub p (0, 0) y)
/-- the law's own sum of two points, both unlike infinity, not opposite -/
noncomputable def aslope (p : Int) (x1 y1 x2 y2 : F2) : F2 :=
  if x1 = x2 then fmul p (3 * (fmul p x1 x1).1, 3 * (fmul p x1 x1).2) (fover p (2 * y1.1, 2 * y1.2)) else fmul p (fsub p y2 y1) (fover p (fsub p x2 x1))
noncomputable def athird (p : Int) (sl x1 y1 x2 : F2) : F2 × F2 :=
  (fsub p (fsub p (fmul p sl sl) x1) x2, fsub p (fmul p sl (fsub p x1 (fsub p (fsub p (fmul p sl sl) x1) x2))) y1)
noncomputable def asum (p : Int) : Aff → Aff → Aff
  | none, Q => Q
  | some P, none => some P
  | some (x1, y1), some (x2, y2) => if x1 = x2 ∧ y1 = fsub p (0, 0) y2 then none else some (athird p (aslope p x1 y1 x2 y2) x1 y1 x2)
theorem RedF.fmul {p : Int} (hb : PB p) (a b : F2) : RedF p (fmul p a b) := Red.fmod hb _ _
theorem RedF.fsub {p : Int} (hb : PB p) (a b : F2) : RedF p (fsub p a b) := Red.fmod hb _ _
theorem RedF.fadd {p : Int} (hb : PB p) (a b : F2) : RedF p (fadd p a b) := Red.fmod hb _ _
theorem RedF.fcub {p : Int} (hb : PB p) (a b : F2) : RedF p (fcub p a b) := Red.fmod hb _ _
theorem RedF.b1 {p : Int} {a : F2} (hb : PB p) (h : RedF p a) : Bd 400 a.1 := Red.bd0 hb h
theorem RedF.b2 {p : Int} {a : F2} (hb : PB p) (h : RedF p a) : Bd 400 a.2 := Red.bd1 hb h
section
variable {prog : Program} {w : World} {A : Around} {E : Value → Shared → Prop} {s : Shared} {h₀ : Heap} {env : Env} {target : Expr} {body : List Stmt} {Q : Flow → Shared → Prop}
/-- equal turns, by what stands between them -/
theorem ItemsRest.rep {ws : List (Addr × String)} {keep : List (Addr × Obj)} (I : (Str → Option Value) → Led → Prop) {f : Nat → Tok → Value}
    (turn : ∀ i m news r, I m news → (∀ m' n', I m' n' → ItemsRest prog w A E h₀ env target body Q s ws keep r m' n') → ItemsRest prog w A E h₀ env target body Q s ws keep (.tok (f i) :: r) m news)
    (fin : ∀ m news, I m news → ItemsRest prog w A E h₀ env target body Q s ws keep [] m news) :
    ∀ (l : List Nat) m news, I m news → ItemsRest prog w A E h₀ env target body Q s ws keep (l.map fun i => .tok (f i)) m news
  | [], m, news, h => fin m news h
  | i :: l, m, news, h => turn i m news _ h fun m' n' h' => ItemsRest.rep I turn fin l m' n' h'
end
end Mine

end

end
section
open PySem PySem.W PySem.Spec PySem.Calls PyProof.Rows
set_option Elab.async false
set_option maxRecDepth 100000
set_option maxHeartbeats 1000000
set_option linter.unusedVariables false
noncomputable section
namespace Mine
/-- keep: all of a ledger but the code table 86 -/
noncomputable def KS (all keep : Led) : Prop := ∀ q ∈ keep, q ∈ all ∧ @Ne Nat q.1 86
theorem KS.cons {p : Addr × Obj} {all keep : Led} (h : @Ne Nat p.1 86) (k : KS all keep) : KS (p :: all) (p :: keep) := fun q hq => by
  rcases List.mem_cons.mp hq with e | hq
  · rw [e]; exact ⟨List.Mem.head _, h⟩
  · exact ⟨List.Mem.tail _ (k q hq).1, (k q hq).2⟩
theorem KS.drop {o : Obj} {news : Led} (h : ∀ q ∈ news, @Ne Nat q.1 86) : KS ((86, o) :: news) news := fun q hq => ⟨List.Mem.tail _ hq, h q hq⟩
section
variable {prog : Program} {w : World} {A : Around} {E : Value → Shared → Prop} {s : Shared} {h₀ : Heap} {L : Addr} {m : Str → Option Value} {env : Env}
  {p : Program} {loose : List Str} {mean : ExcName → Option Value} {mg mb : Str → Option Value}

/-- the generator expression of FQP.__init__ on its first run: its code object is made, the table (in the ledger) grows -/
theorem genexp_any {elt iter : Expr} {x : Str} {px : Pos} {scope : Scope} {cl : List (Str × Addr)} {pos : Pos} {Q : Value → Shared → Prop} {l : Addr} {items : Array Value} {news keep : Led} {T0 : Array Value}
    {F : Nat → Value → Prop} (g : T0 = #[] ∨ ∃ c' : Addr, T0 = #[rawInt 81, rawInt 32, .ref c']) (X : (KX w.params).In h₀) (hcode : env.code = .ref 88) (hp1 : pos.line = 81) (hp2 : pos.col = 32)
    (hh : A.handled = none) (hco : scope.isCoroutine = false) (hclos : closureFor scope env = pure cl) (hcell : ∀ y ∈ scope.names, y.2 ≠ .cell) (h0 : scope.names.lookup (".0" : Str) = some NameKind.local)
    (hx : scope.names.lookup x = some .local) (hkind : scope.kind = .function) (hroom : A.depth < recursionLimit)
    (T : Top p loose mean mg mb h₀) (Fh : Fr h₀ L s.heap m) (N : News h₀ L s.heap news) (hm6 : (86, tabObj T0) ∈ news) (hks : KS news keep) (hl6 : @Ne Nat l 86) (hgl : env.globals = mainGlobals)
    (hiter : ∀ Q' : Value → Shared → Prop, Q' (.ref l) s → wpAny (model prog w) A (eval iter env) Q' E s) (hl : s.heap.IsList l items)
    (hq : ∀ (code : Value) (C : Addr) (A' : Around) (E' : Value → Shared → Prop) i v (s₂ : Shared) m₂, A'.handled = none → items[i]? = some v → (∀ b o, @Ne Nat b 86 → s.heap.get? b = some o → s₂.heap.get? b = some o) → Fr h₀ C s₂.heap m₂ → News h₀ C s₂.heap keep → m₂ x = some v →
      wpAny (model prog w) A' (eval elt (genEnv scope cl C code builtinsNs env)) (fun y s₃ => F i y ∧ Keeps s₂ s₃) E' s₂)
    (hQ : ∀ a gs h' tk K (c' : Addr), (∀ c : Addr, T0 = #[rawInt 81, rawInt 32, .ref c] → T0 = #[rawInt 81, rawInt 32, .ref c']) → gs.bare = true → Fr h₀ L h' m → News h₀ L h' ((86, tabObj #[rawInt 81, rawInt 32, .ref c']) :: keep) → L ≤ K → (∀ p ∈ (86, tabObj #[rawInt 81, rawInt 32, .ref c']) :: keep, p.1 ≤ K) →
      Gen prog w A K a items.size F { s with gens := s.gens.push gs, toks := tk, heap := h' } →
      Q (.ref a) { s with gens := s.gens.push gs, toks := tk, heap := h' })
    (hs : ∀ x, genFold iter env x = pure x := by intro _; rfl) :
    wpAny (model prog w) A (eval (.GeneratorExp elt [⟨.Name x px, iter, [], 0⟩] scope pos) env) Q E s := by
  have hP := (N _ hm6).1
  have hb0 : ∀ b o, h₀.get? b = some o → ¬ b = 86 := fun b o e q => by rw [q, (N _ hm6).2.2] at e; cases e
  have hpass : ∀ n k, passing (fun _ => true) n k = (List.range n).drop k := fun n k => by unfold passing; simp
  refine genexp_core (ex := fun b => b = 86) (R := fun h => ∃ c' : Addr, (∀ c : Addr, T0 = #[rawInt 81, rawInt 32, .ref c] → T0 = #[rawInt 81, rawInt 32, .ref c']) ∧ h.get? 86 = some (tabObj #[rawInt 81, rawInt 32, .ref c'])) (pz := fun _ => true) (F := F) hh hco hclos hcell h0 hx hkind hroom T Fh hgl hiter hl (fun h Q' up lt hk => ?_) hb0 hl6 (fun q => ?_) (fun code h₃ href up lt hhref => ?_) (fun a gs h' h₃ tk hb hR ext up ha G => ?_) hs
  · have CH := (code88 X).keeps (fun b o e => up b o (Fh.keep b o e))
    have hP' := up _ _ hP
    rcases g with rfl | ⟨c0, rfl⟩
    · refine wpAny_genexprCodeX (c := 88) (P := 86) (ps := #[]) hcode (CH.code hP' ?_) (CH.tab hP') ?_ (fun c' h' tk hx hge hlt _ hrec htb _ => ?_)
      · simp [TriplesOk]
      · simp [codeAmong]
      · rw [hp1, hp2] at htb
        exact hk _ h' _ (fun b o hb e => hx b o hb e) (Nat.le_of_lt (Nat.lt_of_le_of_lt hge hlt)) ⟨c', (fun c e => by cases e), htb.2⟩
    · refine wpAny_genexprCode_hit (c := 88) (P := 86) (c' := .ref c0) hcode (CH.code hP' ?_) ?_ (hk _ h _ (fun b o _ e => e) (Nat.le_refl _) ⟨c0, fun _ _ => rfl, hP'⟩)
      · simp [TriplesOk, rawInt]
      · simp [codeAmong, rawInt, hp1, hp2]
  · have := Heap.lt_size hP
    exact absurd q (Nat.ne_of_gt this)
  · refine ⟨fun A' E' i v s₂ m₂ hA hv hns hm hk => wpAny_tests_nil ⟨rfl, _, _, rfl, fun _ _ e => e⟩, fun A' E' i v s₂ m₂ hA hv _ hns hm hk => ?_⟩
    have keep' : ∀ b o, @Ne Nat b 86 → s.heap.get? b = some o → s₂.heap.get? b = some o := fun b o hb6 e => by
      have h1 := up b o hb6 e
      refine hk b (List.mem_range.mpr (Heap.lt_size h1)) ?_ o (hhref b o h1)
      intro hb
      rw [List.mem_singleton.mp hb] at e
      exact Nat.lt_irrefl _ (Heap.lt_size e)
    have hsz : h₀.objs.size ≤ h₃.objs.size := Nat.le_trans Fh.above (Nat.le_of_lt (Nat.lt_trans Fh.ns.lt lt))
    refine hq code _ A' E' i v s₂ m₂ hA hv keep' ⟨hns, fun b o e => keep' b o (hb0 b o e) (Fh.keep b o e), hsz⟩ (fun q hq => ⟨keep' _ _ (hks q hq).2 (N q (hks q hq).1).1, ?_, (N q (hks q hq).1).2.2⟩) hm
    exact Nat.ne_of_lt (Nat.lt_trans (Heap.lt_size (N q (hks q hq).1).1) lt)
  · obtain ⟨c', hT0, hc'⟩ := hR
    have hL6 : ¬ L = 86 := fun q => (N _ hm6).2.1 q.symm
    have N' : News h₀ L h' ((86, tabObj #[rawInt 81, rawInt 32, .ref c']) :: keep) := fun q hq => by
      rcases List.mem_cons.mp hq with e | hq
      · rw [e]; exact ⟨ext _ _ hc', (N _ hm6).2.1, (N _ hm6).2.2⟩
      · exact ⟨up _ _ (hks q hq).2 (N q (hks q hq).1).1, (N q (hks q hq).1).2⟩
    have hlt : ∀ q ∈ ((86, tabObj #[rawInt 81, rawInt 32, .ref c']) :: keep : Led), q.1 < s.heap.objs.size := fun q hq => by
      rcases List.mem_cons.mp hq with e | hq
      · rw [e]; exact Heap.lt_size hP
      · exact Heap.lt_size (N q (hks q hq).1).1
    refine hQ a gs h' tk (s.heap.objs.size - 1) c' hT0 hb ⟨?_, fun b o e => up b o (hb0 b o e) (Fh.keep b o e), ?_⟩ N' (Nat.le_sub_one_of_lt Fh.ns.lt) (fun p hp => Nat.le_sub_one_of_lt (hlt p hp)) ?_
    · exact Fh.ns.at (fun o e => up L o hL6 e)
    · exact Fh.above
    have e1 : (passing (fun _ => true) items.size 0).length = items.size := by rw [hpass]; simp
    rw [e1] at G
    obtain ⟨fp, wr, g, St, W, hst, hT, hI, hfp, hwr⟩ := G
    refine ⟨fp, wr, g, St, ?_, hst, hT, hI, hfp, hwr⟩
    refine { W with item := fun i s' Q' E' hi st hq' => W.item i s' Q' E' hi st fun v s'' ⟨j, hj, hF⟩ st' hm => hq' v s'' ?_ st' hm }
    rw [hpass, List.drop_zero] at hj
    have : j = i := by
      rw [List.getElem?_range hi] at hj
      exact (Option.some.inj hj).symm
    exact this ▸ hF
end
/-- a ledger less the code table 86 -/
noncomputable def un86 (news : Led) : Led := news.filter fun q => decide (@Ne Nat q.1 86)
theorem un86_ne {news : Led} : ∀ q ∈ un86 news, @Ne Nat q.1 86 := fun q hq => by
  have := (List.mem_filter.mp hq).2
  simpa using this
theorem un86_mem {h₀ h : Heap} {L : Addr} {news : Led} {T0 : Array Value} (N : News h₀ L h news) (hm : (86, tabObj T0) ∈ news) {q : Addr × Obj} (hq : q ∈ news) (hc : q.2.cls ≠ .none) : q ∈ un86 news := by
  refine List.mem_filter.mpr ⟨hq, ?_⟩
  have h1 := (N _ hm).1
  have h2 := (N q hq).1
  simp only [decide_eq_true_eq]
  intro e
  rw [show q.1 = 86 from e, h1] at h2
  exact hc (by rw [← Option.some.inj h2])
theorem un86_sub {news : Led} : ∀ q ∈ un86 news, q ∈ news := fun q hq => (List.mem_filter.mp hq).1
theorem un86_news {h₀ h : Heap} {L : Addr} {news : Led} {o : Obj} (N : News h₀ L h news) (hm : (86, o) ∈ news) : News h₀ L h ((86, o) :: un86 news) := fun q hq => by
  rcases List.mem_cons.mp hq with e | hq
  · rw [e]; exact N _ hm
  · exact N q (un86_sub q hq)
theorem un86_back {h₀ h : Heap} {L : Addr} {news news' : Led} {o : Obj} (N : News h₀ L h news) (hm : (86, o) ∈ news) (hs : ∀ q ∈ un86 news, q ∈ news') (hT : (86, o) ∈ news') : ∀ q ∈ news, q ∈ news' := fun q hq => by
  by_cases e : @Eq Nat q.1 86
  · have h1 := (N _ hm).1
    have h2 := (N q hq).1
    have e' : q.1 = (86 : Addr) := e
    rw [e', h1] at h2
    have : q = (86, o) := Prod.ext e' (Option.some.inj h2).symm
    exact this ▸ hT
  · exact hs q (List.mem_filter.mpr ⟨hq, by simpa using e⟩)
theorem un86_all {h₀ h : Heap} {L : Addr} {news : Led} (N : News h₀ L h news) (hm : (86, tabObj #[]) ∈ news) : News h₀ L h ((86, tabObj #[]) :: un86 news) ∧ (∀ q ∈ news, (q.2.cls ≠ .none → q ∈ un86 news)) ∧ ∀ q ∈ news, @Ne Nat q.1 86 → q ∈ un86 news :=
  ⟨un86_news N hm, fun q hq hc => un86_mem N hm hq hc, fun q hq hc => List.mem_filter.mpr ⟨hq, by simpa using hc⟩⟩
theorem fmod_self {p x : Int} (h : 0 ≤ x ∧ x < p) : x.fmod p = x := by
  rw [Int.fmod_eq_emod_of_nonneg _ (by omega)]; exact Int.emod_eq_of_lt h.1 h.2
theorem News.swap3 {h₀ h : Heap} {L : Addr} {a b c : Addr × Obj} {n : Led} (N : News h₀ L h (a :: b :: c :: n)) : News h₀ L h (c :: a :: b :: n) := fun q hq => by
  rcases List.mem_cons.mp hq with e | hq
  · exact N q (List.Mem.tail _ (List.Mem.tail _ (e ▸ List.Mem.head _)))
  rcases List.mem_cons.mp hq with e | hq
  · exact N q (e ▸ List.Mem.head _)
  rcases List.mem_cons.mp hq with e | hq
  · exact N q (List.Mem.tail _ (e ▸ List.Mem.head _))
  · exact N q (List.Mem.tail _ (List.Mem.tail _ (List.Mem.tail _ hq)))
theorem News.pull {h₀ h : Heap} {L : Addr} {l1 n : Led} {c : Addr × Obj} (N : News h₀ L h (l1 ++ c :: n)) : News h₀ L h (c :: (l1 ++ n)) := fun q hq => N q (by
  simp only [List.mem_cons, List.mem_append] at hq ⊢
  rcases hq with h | h | h
  · exact Or.inr (Or.inl h)
  · exact Or.inl h
  · exact Or.inr (Or.inr h))
theorem beq2 (a b : F2) : (a.1 == b.1 && a.2 == b.2) = true ↔ a = b := by
  simp only [Bool.and_eq_true, beq_iff_eq]
  exact ⟨fun q => Prod.ext q.1 q.2, fun q => by rw [q]; exact ⟨rfl, rfl⟩⟩
theorem bne2 (a b : F2) : (!(a.1 == b.1 && a.2 == b.2)) = true ↔ a ≠ b := by
  rw [Bool.not_eq_true', ← Bool.not_eq_true, beq2]
/-- what _law_reads asks -/
noncomputable def areads (p : Int) (G : P3) : Aff → Prop
  | none => G.2.2 = (0, 0)
  | some (x, y) => G.2.2 ≠ (0, 0) ∧ fmul p x G.2.2 = G.1 ∧ fmul p y G.2.2 = G.2.1
/-- a point's scaled form -/
noncomputable def aform (p : Int) (sc : F2) : Aff → P3
  | none => (sc, sc, (0, 0))
  | some (x, y) => (fmul p x sc, fmul p y sc, sc)
end Mine

end

end
section
open PySem PySem.W PySem.Spec PySem.Calls PyProof.Rows PyProof.Rows.LCg
set_option Elab.async false
set_option maxRecDepth 100000
set_option maxHeartbeats 1000000
set_option linter.unusedVariables false
noncomputable section
namespace Mine
/-- what _law_prime may give: one of the package's two, or a small one -/
noncomputable def hit (f : Int) (j : Nat) : Prop := 3 + (j : Int) * 2 < f ∧ f.fmod (3 + (j : Int) * 2) = 0
theorem no1019 : ∀ j < 15, ¬ hit 1019 j := by unfold hit; decide +kernel
noncomputable def IsPm (q : Int) : Prop :=
  q = 4002409555221667393417789825735904156556882819939007885332058136124031650490837864442687629129015664037894272559787 ∨
  q = 21888242871839275222246405745257275088696311157297823662689037894645226208583 ∨ (7 ≤ q ∧ q ≤ 1019 ∧ q % 4 = 3 ∧ ∀ j < 15, ¬ hit q j)
theorem IsPm.gt {q : Int} (h : IsPm q) : 7 ≤ q := by
  rcases h with h | h | h
  · omega
  · omega
  · exact h.1
theorem IsPm.pb {q : Int} (h : IsPm q) : PB q := by
  refine ⟨by have := h.gt; omega, ?_⟩
  unfold Bd
  rcases h with h | h | h
  · rw [h]; decide +kernel
  · rw [h]; decide +kernel
  · have h1 := h.1
    have h2 := h.2.1
    have : q.natAbs ≤ 1019 := by omega
    exact Nat.lt_of_le_of_lt this (by decide +kernel)
section
variable {prog : Program} {w : World} {A : Around} {E : Value → Shared → Prop} {s : Shared} {h₀ : Heap} {L : Addr} {m : Str → Option Value} {env : Env}
/-- a list comprehension over a range -/
theorem csrc_range {elt iter : Expr} {ifs : List Expr} {x : Str} {px : Pos} {scope : Scope} {cl : List (Str × Addr)} {pos : Pos} {Q : Value → Shared → Prop} {a b c : Int} {t u v : Tok} {r : Addr} {n : Nat} {news : Led}
    (hh : A.handled = none) (F : Fr h₀ L s.heap m) (N : News h₀ L s.heap news) (hr : IsRange s.heap r a b c t u v) (hsmall : Builtin.Range.small a b c = true) (hn : Builtin.Range.rangeSize a b c = (n : Int)) (hsz : n ≤ sizeLine)
    (hcell : ∀ y ∈ scope.names, y.2 ≠ .cell) (hkind : scope.kind = .function) (hx : scope.names.lookup x = some .local)
    (R : ∀ g I, CRest prog w A h₀ L m env elt ifs scope cl { s with heap := g } [(I, "range_iterator")] [] (fun i m₃ => ∃ t, m₃ x = some (.int (a + (i : Nat) * c) t)) (CFin h₀ L m { s with heap := g } Q) n 0 [] news) :
    CSrc prog w A env (.Name x px) iter elt ifs scope cl pos Q E (.ref r) s := by
  have up : ∀ b' o, s.heap.get? b' = some o → (s.heap.push { cls := .type "range_iterator", data := .fields #[rawInt a, rawInt (Builtin.Range.rangeSize a b c), rawInt c] }).get? b' = some o := fun b' o e => Heap.get?_push_of_some _ e
  have nw := new_none F (Nat.le_refl s.heap.objs.size)
  have W := KTurns.ofWalks (target := .Name x px) (Walks.range (prog := prog) (w := w) hh s.heap.objs.size a c n).bound fun i v s Q E st q => letGo_rangeiter st q
  refine csrc_of (h₀ := h₀) (L := L) (m := m) (n := n) (ws := [(s.heap.objs.size, "range_iterator")]) (keep := []) (news := news) (fun Q' h' => wpAny_pyIter_range hr hsmall h') W hsz
    (fun s Q E st hQ => wpAny_pyIter_rangeiter st hQ) (fun i v C m₂ u Q hi hP hn hq => bind_name hx hkind hn fun h' tk m₃ e hn' hk => hq h' tk m₃ ?_ hn' hk)
    (fun i h st => ?_) (fun b hb => ?_) (fun b hb => by simpa using hb) (fun b hb => ?_) hcell hkind ?_ (F.keeps up) (N.grown up) (fun p hp => ?_) (fun p hp => nomatch hp) (R _ _)
  · obtain ⟨_, t', e'⟩ := hP
    exact ⟨t', by rw [e, e']⟩
  · have st' : ∃ oe : Obj, h.get? s.heap.objs.size = some oe ∧ oe.cls = .type "range_iterator" := ⟨_, st, rfl⟩
    obtain ⟨oe, h1, h2⟩ := st'
    exact ⟨[(s.heap.objs.size, oe)], ⟨⟨rfl, h2⟩, trivial⟩, fun p hp => by rw [List.mem_singleton.mp hp]; exact h1⟩
  · have e : b = s.heap.objs.size := by simpa using hb
    subst e
    exact ⟨by simp, nw.1, by rw [Heap.size_push]; exact Nat.lt_succ_self _, nw.2⟩
  · exact .inl (by simpa using hb)
  · rw [hn]
    show IsRangeIter _ _ _ _ _
    simpa using Heap.get?_push_size s.heap (o := { cls := .type "range_iterator", data := .fields #[rawInt a, rawInt (n : Int), rawInt c] }) rfl
  · have : p.1 ≠ s.heap.objs.size := Nat.ne_of_lt (Heap.lt_size (N p hp).1)
    simpa using this
theorem CEnd.mono {C D : Addr} {ys : List Value} {its keep : Led} {rest rest' : Led → Prop} {s' : Shared} (h : CEnd h₀ L m s C D ys its keep rest s') (k : ∀ n, rest n → rest' n) : CEnd h₀ L m s C D ys its keep rest' s' :=
  h.imp fun a h => h.imp fun b h => h.imp fun c h => h.imp fun d h => h.imp fun e => And.imp_right (And.imp_right (And.imp_right (And.imp_right (And.imp_right (And.imp_right (k _))))))
/-- the turns of a comprehension, by what stands between them -/
theorem CRest.rep {elt : Expr} {ifs : List Expr} {scope : Scope} {cl : List (Str × Addr)} {ws : List (Addr × String)} {keep : Led} {Bd : Nat → (Str → Option Value) → Prop} {Fin : List Value → Led → Prop} {news : Led} (I : Nat → List Value → Prop) {n₀ : Nat}
    (turn : ∀ i ys, i < n₀ → I i ys → ∀ C oC D m₂ h tk its, Objs ws its → NsObj oC m₂ → Bd i m₂ → Fr h₀ L h m → News h₀ L h ((C, oC) :: (D, lst ys) :: (its ++ news)) → CApart C D its news → (∀ p ∈ keep, p ∈ news) →
      wpAny (model prog w) A (forIn ifs true fun c r => if r = true then do let ok ← isTrue c (compEnvC scope cl C env) (eval c (compEnvC scope cl C env)); pure (ForInStep.yield ok) else pure (ForInStep.yield r)) (fun ok s₃ =>
        if ok = true then wpAny (model prog w) A (eval elt (compEnvC scope cl C env)) (fun y s₄ => CEnd h₀ L m s C D ys its keep (fun news' => news' = news ∧ I (i + 1) (ys ++ [y])) s₄) (fun _ _ => False) s₃
        else CEnd h₀ L m s C D ys its keep (fun news' => news' = news ∧ I (i + 1) ys) s₃) (fun _ _ => False) { s with heap := h, toks := tk }) :
    ∀ (k i : Nat) (ys : List Value), i + k = n₀ → I i ys → (∀ ys, I n₀ ys → Fin ys news) → CRest prog w A h₀ L m env elt ifs scope cl s ws keep Bd Fin k i ys news
  | 0, i, ys, hn, h, fin => fin ys (by rw [← hn]; exact h)
  | k + 1, i, ys, hn, h, fin => by
    have ih := CRest.rep (Fin := Fin) I turn k (i + 1)
    intro C oC D m₂ h₁ tk its a1 a2 a3 a4 a5 a6 a7
    refine wpAny_mono (turn i ys (by omega) h C oC D m₂ h₁ tk its a1 a2 a3 a4 a5 a6 a7) (fun ok s₃ q => ?_) fun _ _ q => q
    cases ok with
    | true =>
      simp only [if_true] at q ⊢
      exact wpAny_mono q (fun y s₄ q' => q'.mono fun n hn1 => by obtain ⟨rfl, hn'⟩ := hn1; exact ih _ (by omega) hn' fin) fun _ _ q => q
    | false =>
      simp only [Bool.false_eq_true, if_false] at q ⊢
      exact q.mono fun n hn1 => by obtain ⟨rfl, hn'⟩ := hn1; exact ih _ (by omega) hn' fin
end
end Mine

end

end
section
open PySem PySem.W PySem.Spec PySem.Calls PyProof.Rows PyProof.Rows.LCg
set_option Elab.async false
set_option maxRecDepth 100000
set_option maxHeartbeats 1000000
set_option linter.unusedVariables false
noncomputable section
namespace Mine
/-- hides an inclusion from the membership line -/
structure KeepS (keep news : Led) : Prop where
  h : ∀ p ∈ keep, p ∈ news
theorem law_end {S : Shared} {o : OsState} {g : Array GenState} (h : SRg S.os S.gens o g) (hg : S.gens = #[]) : o = S.os ∧ AllBare g := ⟨h.1, h.2 (AllBare.of_eq hg)⟩
theorem Fr.named {h₀ h : Heap} {L : Addr} {m : Str → Option Value} (F : Fr h₀ L h m) : ∃ M, M = m ∧ Fr h₀ L h M := ⟨m, rfl, F⟩
theorem News.named {h₀ h : Heap} {L : Addr} {n : Led} (N : News h₀ L h n) : ∃ n', n' = n ∧ News h₀ L h n' := ⟨n, rfl, N⟩
theorem uncons {n : Nat} {ys : List Value} (h : ys.length = n + 1) : ∃ a r, ys = a :: r ∧ r.length = n := by
  cases ys with
  | nil => cases h
  | cons a r => exact ⟨a, r, rfl, Nat.succ.inj h⟩
theorem twelve {ys : List Value} (h : ys.length = 12) : ∃ a b c d e f g i j k l m, ys = [a, b, c, d, e, f, g, i, j, k, l, m] := by
  obtain ⟨a, r0, e0, h⟩ := uncons h
  obtain ⟨b, r1, e1, h⟩ := uncons h
  obtain ⟨c, r2, e2, h⟩ := uncons h
  obtain ⟨d, r3, e3, h⟩ := uncons h
  obtain ⟨e, r4, e4, h⟩ := uncons h
  obtain ⟨f, r5, e5, h⟩ := uncons h
  obtain ⟨g, r6, e6, h⟩ := uncons h
  obtain ⟨i, r7, e7, h⟩ := uncons h
  obtain ⟨j, r8, e8, h⟩ := uncons h
  obtain ⟨k, r9, e9, h⟩ := uncons h
  obtain ⟨l, r10, e10, h⟩ := uncons h
  obtain ⟨m, r11, e11, h⟩ := uncons h
  exact ⟨a, b, c, d, e, f, g, i, j, k, l, m, by rw [e0, e1, e2, e3, e4, e5, e6, e7, e8, e9, e10, e11, List.length_eq_zero_iff.mp h]⟩
/-- the end of a comprehension's turn behind a call that gave an abstract ledger: what is not the turn's own stays -/
theorem cend_fil {s : Shared} {h₀ h' : Heap} {L C D I : Addr} {m m' : Str → Option Value} {oC oI : Obj} {ys : List Value} {news n' keep : Led} {rest : Led → Prop} {tk : Nat} (hoC : NsObj oC m') (F : Fr h₀ L h' m) (N : News h₀ L h' n')
    (sb : Sub ((C, oC) :: (D, lst ys) :: (I, oI) :: news) n') (ap : CApart C D [(I, oI)] news) (hI : oI.cls = .type "tuple_iterator") (kp : ∀ p ∈ keep, p ∈ news)
    (H : ∀ f : Led, (∀ q ∈ news, q ∈ f) → (∀ z vs c, (z, tupO vs c) ∈ n' → (z, tupO vs c) ∈ f) → rest f) : CEnd h₀ L m s C D ys [(I, oI)] keep rest { s with heap := h', toks := tk } := by
  have hC := sb _ (List.Mem.head _)
  have hD := sb _ (List.Mem.tail _ (List.Mem.head _))
  have hI' := sb _ (List.Mem.tail _ (List.Mem.tail _ (List.Mem.head _)))
  have ap1 := ap.2.1 _ (List.Mem.head _)
  have up : ∀ q ∈ news, q ∈ n'.filter fun q => decide ((@Ne Nat q.1 C) ∧ (@Ne Nat q.1 D) ∧ (@Ne Nat q.1 I)) := fun q hq => by
    refine List.mem_filter.mpr ⟨sb _ (List.Mem.tail _ (List.Mem.tail _ (List.Mem.tail _ hq))), ?_⟩
    simp only [decide_eq_true_eq]
    exact ⟨(ap.2.2.1 q hq).1, (ap.2.2.1 q hq).2, ap.2.2.2 q hq _ (List.Mem.head _)⟩
  refine CEnd.mk hoC F N (fun q hq => ?_) ⟨ap.1, ap.2.1, fun q hq => ?_, fun p hp q hq => ?_⟩ (fun p hp => up p (kp p hp)) (H (n'.filter fun q => decide ((@Ne Nat q.1 C) ∧ (@Ne Nat q.1 D) ∧ (@Ne Nat q.1 I))) up fun z vs c hz => ?_)
  · rcases List.mem_cons.mp hq with e | hq
    · rw [e]; exact hC
    rcases List.mem_cons.mp hq with e | hq
    · rw [e]; exact hD
    rcases List.mem_cons.mp hq with e | hq
    · rw [e]; exact hI'
    · exact (List.mem_filter.mp hq).1
  · have := (List.mem_filter.mp hq).2
    simp only [decide_eq_true_eq] at this
    exact ⟨this.1, this.2.1⟩
  · have := (List.mem_filter.mp hp).2
    simp only [decide_eq_true_eq] at this
    rw [List.mem_singleton.mp hq]
    exact this.2.2
  · refine List.mem_filter.mpr ⟨hz, ?_⟩
    simp only [decide_eq_true_eq]
    have gz := (N _ hz).1
    refine ⟨fun e => ?_, fun e => ?_, fun e => ?_⟩
    · have g := (N _ hC).1
      rw [← show z = C from e, gz] at g
      have e2 : tupO vs c = oC := Option.some.inj g
      obtain ⟨es, ep, hd, _⟩ := hoC
      rw [← e2] at hd
      cases hd
    · have g := (N _ hD).1
      rw [← show z = D from e, gz] at g
      have e2 : tupO vs c = lst ys := Option.some.inj g
      have e3 := congrArg Obj.cls e2
      revert e3; simp
    · have g := (N _ hI').1
      rw [← show z = I from e, gz] at g
      have e2 : tupO vs c = oI := Option.some.inj g
      have e3 := congrArg Obj.cls e2
      rw [hI] at e3
      revert e3; simp
theorem IsPr.subT {a b : Led} {z : Addr} {u : F2} (h : IsPr a z u) (s : ∀ z vs c, (z, tupO vs c) ∈ a → (z, tupO vs c) ∈ b) : IsPr b z u := let ⟨k1, k2, n, e⟩ := h; ⟨k1, k2, n, s _ _ _ e⟩
theorem IsAf.subT {p : Int} {a b : Led} {v : Value} : ∀ {u : Aff}, IsAf p a v u → (∀ z vs c, (z, tupO vs c) ∈ a → (z, tupO vs c) ∈ b) → IsAf p b v u
  | none, h, _ => h
  | some (_, _), ⟨z, zx, zy, n, e, h1, h2, h3, h4⟩, s => ⟨z, zx, zy, n, e, s _ _ _ h1, h2.subT s, h3.subT s, h4⟩
end Mine

end

end
section
open PySem PySem.W
set_option linter.unusedVariables false
namespace Mine
theorem powMod_loop {b e m : Nat} : ∀ k, (List.range k).reverse.foldl (fun p i => if e.testBit i then p * p % m * b % m else p * p % m) (b ^ (e / 2 ^ k) % m) = b ^ e % m
  | 0 => by simp
  | k + 1 => by
    rw [List.range_succ, List.reverse_append, List.reverse_singleton, List.singleton_append, List.foldl_cons]
    have e1 : e / 2 ^ k = 2 * (e / 2 ^ (k + 1)) + (if e.testBit k then 1 else 0) := by
      rw [Nat.pow_succ, ← Nat.div_div_eq_div_mul, Nat.testBit_eq_decide_div_mod_eq]
      by_cases h : e / 2 ^ k % 2 = 1
      · simp only [h, decide_true, if_true]; omega
      · simp only [h, decide_false, Bool.false_eq_true, if_false]; omega
    have e2 : (if e.testBit k then b ^ (e / 2 ^ (k + 1)) % m * (b ^ (e / 2 ^ (k + 1)) % m) % m * b % m else b ^ (e / 2 ^ (k + 1)) % m * (b ^ (e / 2 ^ (k + 1)) % m) % m) = b ^ (e / 2 ^ k) % m := by
      rw [← Nat.mul_mod, ← Nat.pow_add, ← Nat.two_mul]
      cases h : e.testBit k
      · rw [h] at e1
        simp only [Bool.false_eq_true, if_false, Nat.add_zero] at e1 ⊢
        rw [e1]
      · rw [h] at e1
        simp only [if_true] at e1 ⊢
        rw [e1, Nat.mod_mul_mod, ← Nat.pow_succ]
    rw [e2]
    exact powMod_loop k
theorem powMod_spec (b e m : Nat) : Builtin.powMod b e m = b ^ e % m := by
  unfold Builtin.powMod
  have h : e / 2 ^ (Builtin.Int.intBits (e : Int)) = 0 := by
    refine Nat.div_eq_of_lt ?_
    unfold Builtin.Int.intBits
    split
    · rename_i h
      have : e = 0 := by simpa using h
      rw [this]; decide
    · rename_i h
      have h0 : e ≠ 0 := fun q => h (by simp [q])
      exact Nat.lt_log2_self
  have := powMod_loop (b := b) (e := e) (m := m) (Builtin.Int.intBits (e : Int))
  rw [h, Nat.pow_zero] at this
  exact this
end Mine

end
section
open PySem PySem.W
open Lean.Grind
set_option linter.unusedVariables false
noncomputable section
namespace Mine
/-- the setting of the pairs: q is the prime n, 3 by 4 -/
structure Fd (q : Int) (n : Nat) : Prop where
  eq : q = (n : Int)
  pr : Pr n
  m4 : n % 4 = 3
theorem fd_of {q : Int} (h : IsPm q) : ∃ n : Nat, Fd q n := by
  rcases h with h | h | ⟨h1, h2, h3, h4⟩
  · exact ⟨_, h, certG, by decide +kernel⟩
  · exact ⟨_, h, certP, by decide +kernel⟩
  · refine ⟨q.toNat, by omega, pr_of_small (by omega) fun d d2 dd hd => ?_, by omega⟩
    obtain ⟨e, he⟩ := hd
    have d31 : d ≤ 31 := by
      refine Classical.byContradiction fun hc => ?_
      have := Nat.mul_le_mul (show 32 ≤ d by omega) (show 32 ≤ d by omega)
      omega
    have dq : d < q.toNat := by
      have := Nat.mul_le_mul_right d d2
      omega
    have odd : d % 2 = 1 := by
      refine Classical.byContradiction fun hc => ?_
      obtain ⟨c, rfl⟩ : ∃ c, d = 2 * c := ⟨d / 2, by omega⟩
      rw [Nat.mul_assoc] at he
      omega
    refine h4 ((d - 3) / 2) (by omega) ⟨by omega, ?_⟩
    have e1 : 3 + (((d - 3) / 2 : Nat) : Int) * 2 = (d : Int) := by omega
    have e2 : q = (d : Int) * (e : Int) := by
      have : q = (q.toNat : Int) := by omega
      rw [this, he]; exact Int.natCast_mul d e
    rw [e1, e2, Int.mul_fmod_right]
section
variable {n : Nat} [NeZero n]
theorem iC_add (x y : Int) : iC (R := Fin n) (x + y) = iC x + iC y := Ring.intCast_add x y
theorem iC_sub (x y : Int) : iC (R := Fin n) (x - y) = iC x - iC y := Ring.intCast_sub x y
theorem iC_mul (x y : Int) : iC (R := Fin n) (x * y) = iC x * iC y := Ring.intCast_mul x y
theorem iC_neg (x : Int) : iC (R := Fin n) (-x) = -iC x := Ring.intCast_neg x
theorem iC_n : iC (R := Fin n) (n : Int) = 0 := by rw [icnat, nC_zero]; exact Nat.dvd_refl n
theorem iC_fmod (x : Int) : iC (R := Fin n) (x.fmod n) = iC x := by
  have e := Int.mul_fdiv_add_fmod x n
  have e2 : iC (R := Fin n) (n * x.fdiv n + x.fmod n) = iC x := by rw [e]
  rw [iC_add, iC_mul, iC_n] at e2
  rw [← e2]; grind
theorem iC_inj {x y : Int} (hx : 0 ≤ x ∧ x < n) (hy : 0 ≤ y ∧ y < n) (e : iC (R := Fin n) x = iC y) : x = y := by
  obtain ⟨a, rfl⟩ : ∃ a : Nat, x = a := ⟨x.toNat, by omega⟩
  obtain ⟨b, rfl⟩ : ∃ b : Nat, y = b := ⟨y.toNat, by omega⟩
  rw [icnat, icnat] at e
  have := congrArg Fin.val e
  rw [nC_val, nC_val, Nat.mod_eq_of_lt (by omega), Nat.mod_eq_of_lt (by omega)] at this
  rw [this]
/-- a pair of ints as an element of the field -/
noncomputable def ph (n : Nat) [NeZero n] (a : F2) : Gi (Fin n) := ⟨iC a.1, iC a.2⟩
theorem ph_inj {a b : F2} (ha : RedF n a) (hb : RedF n b) (e : ph n a = ph n b) : a = b :=
  Prod.ext (iC_inj ha.1 hb.1 (congrArg Gi.re e)) (iC_inj ha.2 hb.2 (congrArg Gi.im e))
variable (h : Pr n) (h4 : n % 4 = 3)
theorem ph_mul (a b : F2) : letI := giField h h4; ph n (fmul n a b) = ph n a * ph n b :=
  Gi.ext2 (by show iC _ = iC _ * iC _ - iC _ * iC _; rw [fmul, mA, iC_fmod, iC_sub, iC_mul, iC_mul]) (by show iC _ = iC _ * iC _ + iC _ * iC _; rw [fmul, mB, iC_fmod, iC_add, iC_mul, iC_mul])
theorem ph_sub (a b : F2) : letI := giField h h4; ph n (fsub n a b) = ph n a - ph n b :=
  Gi.ext2 (by show iC _ = iC _ - iC _; rw [fsub, iC_fmod, iC_sub]) (by show iC _ = iC _ - iC _; rw [fsub, iC_fmod, iC_sub])
theorem ph_add (a b : F2) : letI := giField h h4; ph n (fadd n a b) = ph n a + ph n b :=
  Gi.ext2 (by show iC _ = iC _ + iC _; rw [fadd, iC_fmod, iC_add]) (by show iC _ = iC _ + iC _; rw [fadd, iC_fmod, iC_add])
theorem ph_neg (a : F2) : letI := giField h h4; ph n (fneg n a) = -ph n a :=
  Gi.ext2 (by show iC _ = -iC _; rw [fneg, iC_fmod, iC_neg]) (by show iC _ = -iC _; rw [fneg, iC_fmod, iC_neg])
theorem ph_zero : letI := giField h h4; ph n (0, 0) = 0 :=
  Gi.ext2 (show iC (R := Fin n) ((0 : Nat) : Int) = nC 0 from icnat 0) (show iC (R := Fin n) ((0 : Nat) : Int) = 0 from (icnat 0).trans nc0)
theorem ph_one : letI := giField h h4; ph n (fone n) = 1 :=
  Gi.ext2 (by show iC (R := Fin n) ((1 : Int).fmod n) = nC 1; rw [iC_fmod]; exact icnat 1) (show iC (R := Fin n) ((0 : Nat) : Int) = 0 from (icnat 0).trans nc0)
theorem ph_smul (k : Nat) (a : F2) : letI := giField h h4; ph n ((k : Int) * a.1, (k : Int) * a.2) = OfNat.ofNat k * ph n a :=
  Gi.ext2 (by show iC (R := Fin n) _ = nC k * iC a.1 - 0 * iC a.2; rw [iC_mul, icnat]; grind) (by show iC (R := Fin n) _ = nC k * iC a.2 + 0 * iC a.1; rw [iC_mul, icnat]; grind)
theorem ph_mulk (k : Nat) (a : F2) : letI := giField h h4; ph n (fmulk n (k : Int) a) = OfNat.ofNat k * ph n a :=
  Gi.ext2 (by show iC (R := Fin n) _ = nC k * iC a.1 - 0 * iC a.2; rw [fmulk, iC_fmod, iC_mul, icnat]; grind) (by show iC (R := Fin n) _ = nC k * iC a.2 + 0 * iC a.1; rw [fmulk, iC_fmod, iC_mul, icnat]; grind)
end
end Mine

end

end
section
open PySem PySem.W PySem.Spec PySem.Calls PyProof.Rows
set_option linter.unusedVariables false
noncomputable section
namespace Mine
noncomputable def AfRed (q : Int) : Aff → Prop
  | none => True
  | some (x, y) => RedF q x ∧ RedF q y
theorem IsAf.red {p : Int} {a : Led} {v : Value} : ∀ {u : Aff}, IsAf p a v u → AfRed p u
  | none, _ => trivial
  | some (_, _), ⟨_, _, _, _, _, _, _, _, h3, h4⟩ => ⟨h3, h4⟩
/-- a form stands for a point; never all three elements 0 -/
noncomputable def Rep (q : Int) (G : P3) : Aff → Prop
  | none => (RedF q G.1 ∧ RedF q G.2.1 ∧ RedF q G.2.2) ∧ G.2.2 = (0, 0) ∧ ¬ (G.1 = (0, 0) ∧ G.2.1 = (0, 0))
  | some (x, y) => (RedF q G.1 ∧ RedF q G.2.1 ∧ RedF q G.2.2) ∧ G.2.2 ≠ (0, 0) ∧ fmul q x G.2.2 = G.1 ∧ fmul q y G.2.2 = G.2.1
/-- the setting: a prime of the law's, a shift unlike 0 -/
structure Setting (q : Int) (sh : F2) : Prop where
  pm : IsPm q
  red : RedF q sh
  ne : sh ≠ (0, 0)
/-- a point of the curve -/
noncomputable def Pt (q : Int) (sh : F2) (P : Aff) : Prop := AfRed q P ∧ OnC q sh P
theorem Fr.conv {h₀ h : Heap} {L : Addr} {m m' : Str → Option Value} (F : Fr h₀ L h m) (e : m = m') : Fr h₀ L h m' := e ▸ F
/-- what stands between the ifs on kind -/
noncomputable def JK (s₁ : Shared) (base : Heap) (L : Addr) (q : Int) (sh : F2) (n0 : Led) (M : Str → Option Value) (f : Flow) (s' : Shared) : Prop :=
  f = .next ∧ ∃ h tk n v2 P2 v3 P3, s' = { s₁ with heap := h, toks := tk } ∧ Fr base L h (fun y => if y = Str.ofString "second" then some v2 else if y = Str.ofString "third" then some v3 else M y) ∧ News base L h n ∧ Sub n0 n ∧
    IsAf q n v2 P2 ∧ IsAf q n v3 P3 ∧ Pt q sh P2 ∧ Pt q sh P3
/-- behind the sums -/
noncomputable def JT (P : Params) (base : Heap) (L : Addr) (q : Int) (n0 : Led) (S0 : Shared) (M : Str → Option Value) (due whole : Aff) (f : Flow) (s' : Shared) : Prop :=
  f = .next ∧ ∃ n zB GB zT GT, Fr base L s'.heap (fun y => if y = Str.ofString "total" then some (.ref zT) else if y = Str.ofString "both" then some (.ref zB) else M y) ∧ News base L s'.heap n ∧ SR S0 s' ∧ Sub n0 n ∧
    IsPt P q n zB GB ∧ Rep q GB due ∧ IsPt P q n zT GT ∧ Rep q GT whole
theorem rep_reads {q : Int} {P : Aff} {G : P3} (g : Rep q G P) : areads q G P := by
  rcases P with _ | ⟨x, y⟩
  · exact g.2.1
  · exact g.2
theorem rep_inf {q : Int} {P : Aff} {G : P3} (g : Rep q G P) : G.2.2 = (0, 0) ↔ P = none := by
  rcases P with _ | ⟨x, y⟩
  · exact ⟨fun _ => rfl, fun _ => g.2.1⟩
  · exact ⟨fun e => absurd e g.2.1, nofun⟩
end Mine

end

end
section
open PySem PySem.W
open Lean.Grind
set_option linter.unusedVariables false
noncomputable section
namespace Mine
theorem inv_uniq {K : Type} [Field K] {a b : K} (e : a * b = 1) : b = a⁻¹ := by
  have ha : a ≠ 0 := fun q => Field.zero_ne_one (α := K) (by rw [← e, q]; grind)
  have hi := Field.mul_inv_cancel ha
  exact eq_of_mul ha (e.trans hi.symm)
section
variable {n : Nat} [NeZero n]
theorem nC_mod (k : Nat) : nC (R := Fin n) (k % n) = nC k := by
  have e := Nat.div_add_mod k n
  have e2 : nC (R := Fin n) (n * (k / n) + k % n) = nC k := by rw [e]
  rw [nC_add, nC_mul, nC_zero.mpr (Nat.dvd_refl n)] at e2
  rw [← e2]; grind
theorem iC_powZ (hn : 2 ≤ n) (a : Int) : iC (R := Fin n) (powZ n a ((n : Int) - 2)) = (iC a : Fin n) ^ (n - 2) := by
  unfold powZ
  rw [icnat, powMod_spec]
  have e1 : ((n : Int) - 2).natAbs = n - 2 := by omega
  have e2 : (n : Int).natAbs = n := by omega
  rw [e1, e2, nC_mod, nC_pow]
  congr 1
  have p0 : 0 ≤ a % (n : Int) := Int.emod_nonneg _ (by omega)
  rw [← icnat, Int.toNat_of_nonneg p0]
  have e3 := Int.mul_ediv_add_emod a n
  have e4 : iC (R := Fin n) (n * (a / n) + a % n) = iC a := by rw [e3]
  rw [iC_add, iC_mul, iC_n] at e4
  rw [← e4]; grind
theorem zero_pow {R : Type} [CommRing R] : ∀ k, 1 ≤ k → (0 : R) ^ k = 0
  | k + 1, _ => by rw [Semiring.pow_succ]; grind
variable (h : Pr n) (h4 : n % 4 = 3)
theorem ph_over (u : F2) : letI := giField h h4; ph n (fover n u) = (ph n u)⁻¹ := by
  letI := giField h h4
  have hn := h.two
  have eP : iC (R := Fin n) (powZ n ((u.1 ^ 2 + u.2 ^ 2).fmod n) ((n : Int) - 2)) = (iC u.1 * iC u.1 + iC u.2 * iC u.2 : Fin n) ^ (n - 2) := by
    rw [iC_powZ hn, iC_fmod, iC_add]
    rw [Int.pow_succ, Int.pow_succ, Int.pow_zero, Int.one_mul, Int.pow_succ, Int.pow_succ, Int.pow_zero, Int.one_mul, iC_mul, iC_mul]
  have e1 : ph n (fover n u) = ⟨iC u.1 * (iC u.1 * iC u.1 + iC u.2 * iC u.2 : Fin n) ^ (n - 2), -(iC u.2 * (iC u.1 * iC u.1 + iC u.2 * iC u.2 : Fin n) ^ (n - 2))⟩ := by
    refine Gi.ext2 ?_ ?_
    · show iC _ = _
      rw [fover, iC_fmod, iC_mul, eP]
    · show iC _ = _
      rw [fover, iC_fmod, iC_mul, eP, iC_neg]; grind
  rw [e1]
  by_cases hN : (iC u.1 * iC u.1 + iC u.2 * iC u.2 : Fin n) = 0
  · have hz := fin_sq h h4 hN
    have hu : ph n u = 0 := gi_zero.mpr hz
    rw [hu, Field.inv_zero, hN, zero_pow (n - 2) (by omega)]
    exact gi_zero.mpr ⟨by show iC u.1 * (0 : Fin n) = 0; grind, by show -(iC u.2 * (0 : Fin n)) = 0; grind⟩
  · have hi := fin_inv h hN
    generalize (iC u.1 * iC u.1 + iC u.2 * iC u.2 : Fin n) ^ (n - 2) = y at hi
    refine inv_uniq (Gi.ext2 ?_ ?_)
    · show (iC u.1 * (iC u.1 * y) - iC u.2 * (-(iC u.2 * y)) : Fin n) = nC 1
      rw [nc1, ← hi]; grind
    · show (iC u.1 * (-(iC u.2 * y)) + iC u.2 * (iC u.1 * y) : Fin n) = 0
      grind
/-- a point of the law's own in the field -/
noncomputable def ps (n : Nat) [NeZero n] : Aff → Option (Gi (Fin n) × Gi (Fin n))
  | none => none
  | some (x, y) => some (ph n x, ph n y)
theorem ps_inj {P Q : Aff} (hP : AfRed n P) (hQ : AfRed n Q) (e : ps n P = ps n Q) : P = Q := by
  rcases P with _ | ⟨x, y⟩ <;> rcases Q with _ | ⟨x', y'⟩
  · rfl
  · cases e
  · cases e
  · injection e with e
    injection e with e1 e2
    rw [ph_inj hP.1 hQ.1 e1, ph_inj hP.2 hQ.2 e2]
theorem ps_neg (P : Aff) : letI := giField h h4; ps n (aneg n P) = kneg (ps n P) := by
  letI := giField h h4
  rcases P with _ | ⟨x, y⟩
  · rfl
  · show some (ph n x, ph n (fsub n (0, 0) y)) = some (ph n x, -ph n y)
    rw [ph_sub h h4, ph_zero h h4]
    congr 2 <;> grind
theorem on_iff (hb : PB (n : Int)) {sh : F2} {P : Aff} (hP : AfRed n P) : letI := giField h h4; OnC n sh P ↔ OnO (ph n sh) (ps n P) := by
  letI := giField h h4
  rcases P with _ | ⟨x, y⟩
  · exact ⟨fun _ => trivial, fun _ => trivial⟩
  · have e1 : ph n (fmul n y y) = ph n y * ph n y := ph_mul h h4 y y
    have e2 : ph n (fcub n sh x) = ph n x * ph n x * ph n x + ph n sh := by
      rw [fcub, ph_add h h4, ph_mul h h4, ph_mul h h4]; grind
    constructor
    · intro q
      show ph n y * ph n y = ph n x * ph n x * ph n x + ph n sh
      rw [← e1, ← e2]; exact congrArg _ q
    · intro q
      have q' : ph n y * ph n y = ph n x * ph n x * ph n x + ph n sh := q
      rw [← e1, ← e2] at q'
      exact ph_inj (RedF.fmul hb _ _) (RedF.fcub hb _ _) q'
omit [NeZero n] in
theorem af_sum (hb : PB (n : Int)) {P Q : Aff} (hP : AfRed n P) (hQ : AfRed n Q) : AfRed n (asum n P Q) := by
  rcases P with _ | ⟨x, y⟩
  · exact hQ
  rcases Q with _ | ⟨x', y'⟩
  · exact hP
  show AfRed n (if x = x' ∧ y = fsub n (0, 0) y' then none else some (athird n (aslope n x y x' y') x y x'))
  split
  · trivial
  · exact ⟨RedF.fsub hb _ _, RedF.fsub hb _ _⟩
open Classical in
theorem ps_sum (hb : PB (n : Int)) {P Q : Aff} (hP : AfRed n P) (hQ : AfRed n Q) : letI := giField h h4; ps n (asum n P Q) = ksum (ps n P) (ps n Q) := by
  letI := giField h h4
  rcases P with _ | ⟨x1, y1⟩
  · rfl
  rcases Q with _ | ⟨x2, y2⟩
  · rfl
  have ex : x1 = x2 ↔ ph n x1 = ph n x2 := ⟨fun e => by rw [e], fun e => ph_inj hP.1 hQ.1 e⟩
  have ey : y1 = fsub n (0, 0) y2 ↔ ph n y1 = -ph n y2 := by
    have e0 : ph n (fsub n (0, 0) y2) = -ph n y2 := by rw [ph_sub h h4, ph_zero h h4]; grind
    rw [← e0]
    exact ⟨fun e => by rw [← e], fun e => ph_inj hP.2 (RedF.fsub hb _ _) e⟩
  show ps n (if x1 = x2 ∧ y1 = fsub n (0, 0) y2 then none else some (athird n (aslope n x1 y1 x2 y2) x1 y1 x2)) = ksum (some (ph n x1, ph n y1)) (some (ph n x2, ph n y2))
  by_cases hc : x1 = x2 ∧ y1 = fsub n (0, 0) y2
  · rw [if_pos hc, ksum_opp ⟨ex.mp hc.1, ey.mp hc.2⟩]
    rfl
  · rw [if_neg hc, ksum, if_neg (fun q => hc ⟨ex.mpr q.1, ey.mpr q.2⟩)]
    have em : ph n (aslope n x1 y1 x2 y2) = (if ph n x1 = ph n x2 then 3 * (ph n x1 * ph n x1) * (2 * ph n y1)⁻¹ else (ph n y2 - ph n y1) * (ph n x2 - ph n x1)⁻¹) := by
      unfold aslope
      by_cases hx : x1 = x2
      · rw [if_pos hx, if_pos (ex.mp hx), ph_mul h h4, ph_over h h4]
        have t1 := ph_smul h h4 3 (fmul n x1 x1)
        have t2 := ph_smul h h4 2 y1
        rw [show ((3 : Nat) : Int) = 3 from rfl] at t1
        rw [show ((2 : Nat) : Int) = 2 from rfl] at t2
        rw [t1, t2, ph_mul h h4]
      · rw [if_neg hx, if_neg (fun q => hx (ex.mpr q)), ph_mul h h4, ph_over h h4, ph_sub h h4, ph_sub h h4]
    dsimp only
    rw [← em]
    clear em
    generalize aslope n x1 y1 x2 y2 = S
    show some (ph n (fsub n (fsub n (fmul n S S) x1) x2), ph n (fsub n (fmul n S (fsub n x1 (fsub n (fsub n (fmul n S S) x1) x2))) y1)) = _
    rw [ph_sub h h4, ph_sub h h4, ph_mul h h4, ph_sub h h4, ph_mul h h4, ph_sub h h4, ph_sub h h4, ph_sub h h4, ph_mul h h4]
end
end Mine

end

end
section
open PySem PySem.W
open Lean.Grind
set_option linter.unusedVariables false
set_option linter.unusedSectionVars false
noncomputable section
namespace Mine
section
variable {n : Nat} [NeZero n] (h : Pr n) (h4 : n % 4 = 3)
theorem ph_mul2 (a : F2) : letI := giField h h4; ph n (fmulk n 2 a) = 2 * ph n a := ph_mulk h h4 2 a
theorem ph_mul3 (a : F2) : letI := giField h h4; ph n (fmulk n 3 a) = 3 * ph n a := ph_mulk h h4 3 a
theorem ph_mul4 (a : F2) : letI := giField h h4; ph n (fmulk n 4 a) = 4 * ph n a := ph_mulk h h4 4 a
theorem ph_mul8 (a : F2) : letI := giField h h4; ph n (fmulk n 8 a) = 8 * ph n a := ph_mulk h h4 8 a
theorem k_ne0 {k : Nat} (h0 : 0 < k) (hk : k < n) : letI := giField h h4; (OfNat.ofNat k : Gi (Fin n)) ≠ 0 := by
  letI := giField h h4
  intro e
  have := (gi_zero.mp e).1
  have e2 : nC (R := Fin n) k = 0 := this
  have := Nat.le_of_dvd h0 (nC_zero.mp e2)
  omega
theorem red0 (hn : 0 < n) : RedF (n : Int) (0, 0) := ⟨⟨Int.le_refl _, by show (0 : Int) < n; omega⟩, ⟨Int.le_refl _, by show (0 : Int) < n; omega⟩⟩
theorem red1 (hn : 1 < n) : RedF (n : Int) (fone n) := ⟨⟨(Int.fmod_nonneg_of_pos 1 (by omega) : 0 ≤ (1 : Int).fmod n), (Int.fmod_lt_of_pos 1 (by omega) : (1 : Int).fmod n < n)⟩, ⟨Int.le_refl _, by show (0 : Int) < n; omega⟩⟩
theorem z_iff {a : F2} (ha : RedF n a) : letI := giField h h4; a = (0, 0) ↔ ph n a = 0 := by
  letI := giField h h4
  have h2 := h.two
  constructor
  · intro e; rw [e]; exact ph_zero h h4
  · intro e; exact ph_inj ha (red0 (by omega)) (e.trans (ph_zero h h4).symm)
noncomputable def RedP (q : Int) (G : P3) : Prop := RedF q G.1 ∧ RedF q G.2.1 ∧ RedF q G.2.2
theorem rep_iff (hb : PB (n : Int)) {G : P3} {P : Aff} (hG : RedP n G) (hP : AfRed n P) : letI := giField h h4; Rep n G P ↔ RepK (ph n G.1) (ph n G.2.1) (ph n G.2.2) (ps n P) := by
  letI := giField h h4
  have z1 := z_iff h h4 hG.1
  have z2 := z_iff h h4 hG.2.1
  have z3 := z_iff h h4 hG.2.2
  rcases P with _ | ⟨x, y⟩
  · constructor
    · rintro ⟨_, e1, e2⟩
      exact ⟨z3.mp e1, fun q => e2 ⟨z1.mpr q.1, z2.mpr q.2⟩⟩
    · rintro ⟨e1, e2⟩
      exact ⟨hG, z3.mpr e1, fun q => e2 ⟨z1.mp q.1, z2.mp q.2⟩⟩
  · constructor
    · rintro ⟨_, e1, e2, e3⟩
      exact ⟨fun q => e1 (z3.mpr q), by rw [← ph_mul h h4, e2], by rw [← ph_mul h h4, e3]⟩
    · rintro ⟨e1, e2, e3⟩
      exact ⟨hG, fun q => e1 (z3.mp q), ph_inj (RedF.fmul hb _ _) hG.1 (by rw [ph_mul h h4]; exact e2), ph_inj (RedF.fmul hb _ _) hG.2.1 (by rw [ph_mul h h4]; exact e3)⟩
theorem rep_red {q : Int} {G : P3} : ∀ {P : Aff}, Rep q G P → RedP q G
  | none, r => r.1
  | some (_, _), r => r.1
theorem redf_fmulk (hb : PB (n : Int)) (k : Int) (a : F2) : RedF n (fmulk n k a) := Red.fmod hb _ _
theorem redp_padd (hb : PB (n : Int)) (hn : 1 < n) {G H : P3} (hG : RedP n G) (hH : RedP n H) : RedP n (padd n G H) := by
  unfold padd
  split
  · split
    · exact hG
    · exact hH
  split
  · exact ⟨RedF.fmul hb _ _, RedF.fsub hb _ _, RedF.fmul hb _ _⟩
  split
  · exact ⟨red1 hn, red1 hn, red0 (by omega)⟩
  · exact ⟨RedF.fmul hb _ _, RedF.fsub hb _ _, RedF.fmul hb _ _⟩
theorem asum_none (p : Int) : ∀ P : Aff, asum p P none = P
  | none => rfl
  | some (_, _) => rfl
theorem rep_add_n (hb : PB (n : Int)) (h5 : 3 < n) {sh : F2} {P R : Aff} {G H : P3} (hs : letI := giField h h4; ph n sh ≠ 0) (hP : AfRed n P) (hR : AfRed n R) (oP : OnC n sh P) (oR : OnC n sh R)
    (g : Rep n G P) (g' : Rep n H R) : Rep n (padd n G H) (asum n P R) := by
  letI := giField h h4
  have h2 : (2 : Gi (Fin n)) ≠ 0 := k_ne0 h h4 (k := 2) (by omega) (by omega)
  have h3 : (3 : Gi (Fin n)) ≠ 0 := k_ne0 h h4 (k := 3) (by omega) (by omega)
  have rG := rep_red g
  have rH := rep_red g'
  have rA := redp_padd hb (by omega) rG rH
  by_cases c1 : G.2.2 = (0, 0) ∨ H.2.2 = (0, 0)
  · rw [padd, if_pos c1]
    by_cases c2 : H.2.2 = (0, 0)
    · rw [if_pos c2]
      obtain rfl := (rep_inf g').mp c2
      rw [asum_none]; exact g
    · rw [if_neg c2]
      obtain rfl := (rep_inf g).mp (c1.resolve_right c2)
      exact g'
  have kG := (rep_iff h h4 hb rG hP).mp g
  have kH := (rep_iff h h4 hb rH hR).mp g'
  have sP := (on_iff h h4 hb hP).mp oP
  have sR := (on_iff h h4 hb hR).mp oR
  refine (rep_iff h h4 hb rA (af_sum hb hP hR)).mpr ?_
  rw [ps_sum h h4 hb hP hR]
  rcases P with _ | ⟨x1, y1⟩
  · exact absurd (.inl g.2.1) c1
  rcases R with _ | ⟨x2, y2⟩
  · exact absurd (.inr g'.2.1) c1
  have mulc : ∀ {a b c d : F2}, fmul n a b = fmul n c d ↔ ph n a * ph n b = ph n c * ph n d := fun {a b c d} => by
    rw [← ph_mul h h4, ← ph_mul h h4]
    exact ⟨fun e => by rw [e], fun e => ph_inj (RedF.fmul hb _ _) (RedF.fmul hb _ _) e⟩
  have ne := mul_ne kG.1 kH.1
  have cx : fmul n H.1 G.2.2 = fmul n G.1 H.2.2 ↔ ph n x1 = ph n x2 := by
    rw [mulc, ← kG.2.1, ← kH.2.1]
    exact ⟨fun e => eq_of_mul ne (lc1 (c := -1) e (by grind)), fun e => by rw [e]; grind⟩
  have cy : fmul n H.2.1 G.2.2 = fmul n G.2.1 H.2.2 ↔ ph n y1 = ph n y2 := by
    rw [mulc, ← kG.2.2, ← kH.2.2]
    exact ⟨fun e => eq_of_mul ne (lc1 (c := -1) e (by grind)), fun e => by rw [e]; grind⟩
  rw [padd, if_neg c1]
  by_cases cA : fmul n H.1 G.2.2 = fmul n G.1 H.2.2
  · by_cases cB : fmul n H.2.1 G.2.2 = fmul n G.2.1 H.2.2
    · rw [if_pos ⟨cA, cB⟩]
      have eP : ps n (some (x2, y2)) = ps n (some (x1, y1)) := by
        show some (ph n x2, ph n y2) = some (ph n x1, ph n y1)
        rw [cx.mp cA, cy.mp cB]
      rw [eP]
      have := dblK (s := ph n sh) h2 h3 hs sP kG rfl rfl rfl rfl
      unfold pdbl
      dsimp only
      simp only [ph_mul h h4, ph_sub h h4, ph_mul2 h h4, ph_mul3 h h4, ph_mul4 h h4, ph_mul8 h h4]
      exact this
    · rw [if_neg (fun q => cB q.2), if_pos cA]
      have hy : ph n y1 = -ph n y2 := Classical.byContradiction fun hn => cB (cy.mpr (sq_eq (by
        have e1 : ph n y1 * ph n y1 = ph n x1 * ph n x1 * ph n x1 + ph n sh := sP
        have e2 : ph n y2 * ph n y2 = ph n x2 * ph n x2 * ph n x2 + ph n sh := sR
        rw [e1, e2, cx.mp cA]) hn))
      have : ksum (ps n (some (x1, y1))) (ps n (some (x2, y2))) = none := ksum_opp ⟨cx.mp cA, hy⟩
      rw [this]
      refine ⟨ph_zero h h4, fun q => ?_⟩
      have := q.1
      rw [show (fone (n : Int), fone (n : Int), ((0, 0) : F2)).1 = fone n from rfl, ph_one h h4] at this
      exact Field.zero_ne_one (α := Gi (Fin n)) this.symm
  · rw [if_neg (fun q => cA q.1), if_neg cA]
    have := addK kG kH (fun e => cA (cx.mpr e)) rfl rfl rfl rfl rfl rfl
    unfold paddG
    dsimp only
    simp only [ph_mul h h4, ph_sub h h4, ph_mul2 h h4]
    exact this
end
/-- from the law's setting to the field -/
theorem setting {q : Int} {sh : F2} (S : Setting q sh) {C : Prop}
    (H : ∀ (n : Nat) (_ : NeZero n) (h : Pr n) (h4 : n % 4 = 3), q = (n : Int) → PB (n : Int) → 3 < n → RedF n sh → (letI := giField h h4; ph n sh ≠ 0) → C) : C := by
  obtain ⟨n, F⟩ := fd_of S.pm
  have h7 := S.pm.gt
  have hb := S.pm.pb
  have hr := S.red
  have e := F.eq
  have hn : 3 < n := by omega
  rw [e] at hb hr
  have nz : NeZero n := ⟨by omega⟩
  exact H n nz F.pr F.m4 e hb hn hr fun e0 => S.ne ((z_iff F.pr F.m4 hr).mpr e0)
theorem fmul_ne {q : Int} {sh a b : F2} (S : Setting q sh) (ha : RedF q a) (hb : RedF q b) (h1 : a ≠ (0, 0)) (h2 : b ≠ (0, 0)) : fmul q a b ≠ (0, 0) :=
  setting S fun n _ h h4 e pb hn rs hs => by
    letI := giField h h4
    subst e
    intro e0
    have := (z_iff h h4 (RedF.fmul pb _ _)).mp e0
    rw [ph_mul h h4] at this
    exact h2 ((z_iff h h4 hb).mpr (fcn (fun e1 => h1 ((z_iff h h4 ha).mpr e1)) this))
theorem red_neg {q : Int} (hb : PB q) : ∀ {P : Aff}, AfRed q P → AfRed q (aneg q P)
  | none, _ => trivial
  | some (_, _), h => ⟨h.1, RedF.fsub hb _ _⟩
theorem pt_neg {q : Int} {sh : F2} {P : Aff} (S : Setting q sh) (h : Pt q sh P) : Pt q sh (aneg q P) :=
  setting S fun n _ hp h4 e pb hn rs hs => by
    letI := giField hp h4
    subst e
    have r := red_neg pb h.1
    refine ⟨r, (on_iff hp h4 pb r).mpr ?_⟩
    rw [ps_neg hp h4]
    exact kneg_on ((on_iff hp h4 pb h.1).mp h.2)
theorem pt_sum {q : Int} {sh : F2} {P R : Aff} (S : Setting q sh) (h : Pt q sh P) (h' : Pt q sh R) : Pt q sh (asum q P R) :=
  setting S fun n _ hp h4 e pb hn rs hs => by
    letI := giField hp h4
    subst e
    have r := af_sum pb h.1 h'.1
    refine ⟨r, (on_iff hp h4 pb r).mpr ?_⟩
    rw [ps_sum hp h4 pb h.1 h'.1]
    exact ksum_on (k_ne0 hp h4 (k := 2) (by omega) (by omega)) ((on_iff hp h4 pb h.1).mp h.2) ((on_iff hp h4 pb h'.1).mp h'.2)
theorem sum_comm {q : Int} {sh : F2} {P R : Aff} (S : Setting q sh) (h : Pt q sh P) (h' : Pt q sh R) : asum q P R = asum q R P :=
  setting S fun n _ hp h4 e pb hn rs hs => by
    letI := giField hp h4
    subst e
    refine ps_inj (af_sum pb h.1 h'.1) (af_sum pb h'.1 h.1) ?_
    rw [ps_sum hp h4 pb h.1 h'.1, ps_sum hp h4 pb h'.1 h.1]
    exact ksum_comm (k_ne0 hp h4 (k := 2) (by omega) (by omega)) ((on_iff hp h4 pb h.1).mp h.2) ((on_iff hp h4 pb h'.1).mp h'.2)
theorem sum_assoc {q : Int} {sh : F2} {A B C : Aff} (S : Setting q sh) (h : Pt q sh A) (h' : Pt q sh B) (h'' : Pt q sh C) : asum q (asum q A B) C = asum q A (asum q B C) :=
  setting S fun n _ hp h4 e pb hn rs hs => by
    letI := giField hp h4
    subst e
    have r1 := af_sum pb h.1 h'.1
    have r2 := af_sum pb h'.1 h''.1
    refine ps_inj (af_sum pb r1 h''.1) (af_sum pb h.1 r2) ?_
    rw [ps_sum hp h4 pb r1 h''.1, ps_sum hp h4 pb h.1 h'.1, ps_sum hp h4 pb h.1 r2, ps_sum hp h4 pb h'.1 h''.1]
    exact ksum_assoc (k_ne0 hp h4 (k := 2) (by omega) (by omega)) (k_ne0 hp h4 (k := 3) (by omega) (by omega)) hs ((on_iff hp h4 pb h.1).mp h.2) ((on_iff hp h4 pb h'.1).mp h'.2) ((on_iff hp h4 pb h''.1).mp h''.2)
theorem rep_form {q : Int} {sh sc : F2} {P : Aff} (S : Setting q sh) (h : Pt q sh P) (hr : RedF q sc) (h0 : sc ≠ (0, 0)) : Rep q (aform q sc P) P := by
  have pb := S.pm.pb
  rcases P with _ | ⟨x, y⟩
  · exact ⟨⟨hr, hr, ⟨⟨Int.le_refl _, pb.1⟩, ⟨Int.le_refl _, pb.1⟩⟩⟩, rfl, fun e => h0 e.1⟩
  · exact ⟨⟨RedF.fmul pb _ _, RedF.fmul pb _ _, hr⟩, h0, rfl, rfl⟩
theorem rep_add {q : Int} {sh : F2} {P R : Aff} {G H : P3} (S : Setting q sh) (h : Pt q sh P) (h' : Pt q sh R) (g : Rep q G P) (g' : Rep q H R) : Rep q (padd q G H) (asum q P R) :=
  setting S fun n _ hp h4 e pb hn rs hs => by
    subst e
    exact rep_add_n hp h4 pb hn hs h.1 h'.1 h.2 h'.2 g g'
theorem rep_eq {q : Int} {sh : F2} {P R : Aff} {G H : P3} (S : Setting q sh) (h : Pt q sh P) (h' : Pt q sh R) (g : Rep q G P) (g' : Rep q H R) :
    (fmul q G.1 H.2.2 = fmul q H.1 G.2.2 ∧ fmul q G.2.1 H.2.2 = fmul q H.2.1 G.2.2) ↔ P = R :=
  setting S fun n _ hp h4 e pb hn rs hs => by
    letI := giField hp h4
    subst e
    have kG := (rep_iff hp h4 pb (rep_red g) h.1).mp g
    have kH := (rep_iff hp h4 pb (rep_red g') h'.1).mp g'
    have mulc : ∀ {a b c d : F2}, fmul n a b = fmul n c d ↔ ph n a * ph n b = ph n c * ph n d := fun {a b c d} => by
      rw [← ph_mul hp h4, ← ph_mul hp h4]
      exact ⟨fun e => by rw [e], fun e => ph_inj (RedF.fmul pb _ _) (RedF.fmul pb _ _) e⟩
    rw [mulc, mulc]
    exact (repK_eq kG kH).trans ⟨fun e => ps_inj h.1 h'.1 e, fun e => by rw [e]⟩
theorem rep_curve {q : Int} {sh : F2} {P : Aff} {G : P3} (S : Setting q sh) (h : Pt q sh P) (g : Rep q G P) :
    G.2.2 = (0, 0) ∨ fsub q (fmul q (fpow2 q G.2.1) G.2.2) (fpow3 q G.1) = fmul q sh (fpow3 q G.2.2) :=
  setting S fun n _ hp h4 e pb hn rs hs => by
    letI := giField hp h4
    subst e
    have kG := (rep_iff hp h4 pb (rep_red g) h.1).mp g
    rcases repK_curve ((on_iff hp h4 pb h.1).mp h.2) kG with e | e
    · exact .inl ((z_iff hp h4 (rep_red g).2.2).mpr e)
    · refine .inr (ph_inj (RedF.fsub pb _ _) (RedF.fmul pb _ _) ?_)
      unfold fpow2 fpow3
      simp only [ph_sub hp h4, ph_mul hp h4, ph_one hp h4]
      exact e
theorem rep_neg {q : Int} {sh : F2} {P : Aff} {G : P3} (S : Setting q sh) (h : Pt q sh P) (g : Rep q G P) : Rep q (G.1, fneg q G.2.1, G.2.2) (aneg q P) :=
  setting S fun n _ hp h4 e pb hn rs hs => by
    letI := giField hp h4
    subst e
    have r := rep_red g
    have rn : RedP n (G.1, fneg n G.2.1, G.2.2) := ⟨r.1, Red.fmod pb _ _, r.2.2⟩
    have kG := (rep_iff hp h4 pb r h.1).mp g
    refine (rep_iff hp h4 pb rn (red_neg pb h.1)).mpr ?_
    rw [ps_neg hp h4, ph_neg hp h4]
    rcases P with _ | ⟨x, y⟩
    · refine ⟨kG.1, fun e => kG.2 ⟨e.1, ?_⟩⟩
      exact lc1 (c := -1) e.2 (by grind)
    · refine ⟨kG.1, kG.2.1, ?_⟩
      have := kG.2.2
      rw [← this]; grind
end Mine

end

end
section
open PySem PySem.W PySem.Spec PySem.Calls PyProof.Rows
noncomputable section
namespace Mine
structure Shut (P : Prop) : Prop where
  h : P
structure NamedQ (q Q : Flow → Shared → Prop) : Prop where
  h : q = Q
theorem foldX {M : Model} {A : Around} {st : Stmt} {env : Env} {Q : Flow → Shared → Prop} {E : Value → Shared → Prop} {s : Shared} (k : ∀ q, NamedQ q Q → wpAny M A (exec st env) q E s) : wpAny M A (exec st env) Q E s := k Q ⟨rfl⟩
theorem foldT {M : Model} {A : Around} {st : Stmt} {env : Env} {Q : Flow → Shared → Prop} {E : Value → Shared → Prop} {h g d t o} (k : ∀ q t', NamedQ q Q → wpAny M A (exec st env) q E (Shared.mk h g d t' o)) : wpAny M A (exec st env) Q E (Shared.mk h g d t o) := k Q t ⟨rfl⟩
theorem foldB {M : Model} {A : Around} {b : List Stmt} {env : Env} {Q : Flow → Shared → Prop} {E : Value → Shared → Prop} {s : Shared} (k : ∀ q E', NamedQ q Q → wpAny M A (execs b env) q E' s) : wpAny M A (execs b env) Q E s := k Q E ⟨rfl⟩
theorem letA {α : Type} {M : Model} {A : Around} {t : Sem α} {Q : α → Shared → Prop} {E : Value → Shared → Prop} {s : Shared} (h : let A' := A; wpAny M A' t Q E s) : wpAny M A t Q E s := h
theorem letE {M : Model} {A : Around} {b : List Stmt} {env : Env} {Q : Flow → Shared → Prop} {E : Value → Shared → Prop} {s : Shared} (h : let e := env; wpAny M A (execs b e) Q E s) : wpAny M A (execs b env) Q E s := h
theorem letM {h₀ h : Heap} {L : Addr} {m : Str → Option Value} {P : Prop} (F : Fr h₀ L h m) (k : let m' := m; Fr h₀ L h m' → P) : P := k F
theorem letN {h₀ h : Heap} {L D : Addr} {o : Obj} {n : Led} {P : Prop} (N : News h₀ L h ((D, o) :: n)) (k : let o' := o; News h₀ L h ((D, o') :: n) → P) : P := k N
theorem storeX_M {M : Model} {A : Around} {E : Value → Shared → Prop} {s : Shared} {h₀ : Heap} {L a : Addr} {m : Str → Option Value} {cn : Str} {cs : Scope} {ccd : Value} {cl : List (Str × Addr)} {x : Str} {v : Value} {Q : Unit → Shared → Prop} {news : List (Addr × Obj)} (F : Fr h₀ L s.heap m) (N : News h₀ L s.heap news)
    (h : ∀ h', let m' := fun y => if y = x then some v else m y; Fr h₀ L h' m' → News h₀ L h' news → Q () { s with heap := h', toks := s.toks + 1 })
    (hk : cs.kind = .function := by rfl) (hx : (envX cn cs L a ccd cl).kindOf x = some .local := by rfl) : wpAny M A (storeName (envX cn cs L a ccd cl) x v) Q E s := storeX_L F N h hk hx
theorem unq {q Q : Flow → Shared → Prop} {f : Flow} {s : Shared} (n : NamedQ q Q) (h : Q f s) : q f s := n.h ▸ h
local macro_rules | `(tactic| walk_at "call ref") => `(tactic| k_extra "my call")
local macro_rules | `(tactic| units_room) => `(tactic| k_extra "my units_room")
local macro_rules | `(tactic| walk_at "storeName") => `(tactic| k_extra "my store")
local macro_rules | `(tactic| k_room) => `(tactic| k_extra "my k_room")
local macro_rules | `(tactic| k_units) => `(tactic| k_extra "my k_units")
local macro_rules | `(tactic| k_mem) => `(tactic| k_extra "my k_mem")
local macro_rules | `(tactic| walk_at "subscriptTail") => `(tactic| k_extra "my subscriptTail")
local macro_rules | `(tactic| walk_at "call type:tuple") => `(tactic| k_extra "my call type:tuple")
local macro_rules | `(tactic| walk_at "eval ListComp") => `(tactic| k_extra "my eval ListComp")
local macro_rules | `(tactic| walk_at "call type:zip") => `(tactic| k_extra "my call type:zip")
local macro_rules | `(tactic| walk_at "binaryOp Mult int int") => `(tactic| k_extra "my binaryOp Mult int int")
local macro_rules | `(tactic| walk_at "binaryOp Mult ref int") => `(tactic| k_extra "my binaryOp Mult ref int")
local macro_rules | `(tactic| walk_at "binaryOp Mult int ref") => `(tactic| k_extra "my binaryOp Mult int ref")
local macro_rules | `(tactic| walk_at "getItem ref int") => `(tactic| k_extra "my getItem ref int")
local macro_rules | `(tactic| walk_at "binaryOp Pow int int") => `(tactic| k_extra "my binaryOp Pow int int")
local macro_rules | `(tactic| walk_at "call builtin:pow") => `(tactic| k_extra "my call builtin:pow")
theorem load_part (w : World) (h : Heap) : (KX w.params).In h → PySem.Challenge.rw_ll0049_01.Holds → True := by
  k_fill
  k_with "my subscriptTail" => ((with_reducible show wpAny _ _ (subscriptTail _ _ (Value.ref _) (Value.int _ _)) _ _ _); k_dflt (refine' item_listM ?k1 ?k2 ?k3 ?k4 ?k5 ?k6 ?k7 ?_; (case k1 => k_asm); (case k2 => k_mem); (case k3 => exact rfl); (case k4 => exact rfl); (case k5 => decide); (case k6 => decide); (case k7 => exact rfl); k_whole))
  k_with "my call type:tuple" => ((with_reducible show wpAny _ _ (call (Value.type _) [Value.ref _]) _ _ _); k_dflt (refine' call_tuple_same ?k1 ?_; (case k1 => exact ⟨_, News.get (by k_asm) (by k_mem), rfl, _, rfl⟩); k_whole))
  k_with "my eval ListComp" => ((with_reducible show wpAny _ _ (eval (Expr.ListComp _ _ _ _) _) _ _ _); k_dflt (refine' listComp ?h1 ?h2 ?h3 ?_; (case h1 => exact rfl); (case h2 => exact rfl); (case h3 => decide)))
  k_with "my call type:zip" => (k_dflt (refine' zip_led ?k1 ?k2 ?k3 ?k4 ?k5 ?k6 ?k7 ?k8 ?_; (case k1 => k_asm); (case k2 => k_asm); (case k3 => k_mem); (case k4 => rfl); (case k5 => rfl); (case k6 => k_mem); (case k7 => rfl); (case k8 => rfl); k_whole))
  k_with "my binaryOp Mult int int" => (refine' PyProof.Rows.mul_int ?_ (mulok ?kM1 ?kM2 ?kM3); (case kM1 => k_extra "bd"); (case kM2 => k_extra "bd"); (case kM3 => exact Nat.le_of_ble_eq_true rfl))
  k_with "my binaryOp Mult ref int" => ((with_reducible show wpAny _ _ (binaryOp Operator.Mult (Value.ref _) (Value.int _ _)) _ _ _); ksp_bin)
  k_with "my binaryOp Mult int ref" => (k_dflt (refine' mulR_K ?F ?X ?I ?hc ?hs ?hr ?hf ?hsub ?_; (case F => k_asm); (case X => k_asm); (case I => k_inst); (case hc => k_is); (case hs => k_is); (case hr => k_is); (case hf => k_is); (case hsub => k_is); k_whole))
  k_with "my getItem ref int" => ((with_reducible show wpAny _ _ (getItem (Value.ref _) (Value.int _ _)) _ _ _); k_dflt (refine' getItem_listM ?k1 ?k2 ?k3 ?k4 ?k5 ?k6 ?k7 ?_; (case k1 => k_asm); (case k2 => k_mem); (case k3 => exact rfl); (case k4 => exact rfl); (case k5 => decide); (case k6 => decide); (case k7 => exact rfl); k_whole))
  k_with "my binaryOp Pow int int" => (refine' PyProof.Rows.pow_int (by decide) (powok ?kM1 ?kM2) ?_; (case kM1 => k_extra "bd"); (case kM2 => exact Nat.le_of_ble_eq_true rfl))
  k_with "my call builtin:pow" => (refine' call_pow3 ?kM1 ?kM2 ?_; (case kM1 => first | omega | assumption | exact Int.fdiv_nonneg (by omega) (by omega)); (case kM2 => first | assumption | omega))
  k_with "my k_room" => ((try simp (zetaDelta := true) only [depth_mark, depth_under_make, depth_under_kw, depth_in1, depth_deeper]); (try dsimp only [ktrTop]); omega)
  k_with "my k_units" => ((try simp (zetaDelta := true) only [units_in1, units_deeper, Around.mark_units]); (try dsimp only [ktrTop]); omega)
  k_with "my k_mem" => ((repeat' (first | assumption | exact List.Mem.head _ | refine List.Mem.tail _ ?_ | refine Sub.mem (by assumption) ?_)); done)
  k_with "my units_room" => ((try simp (zetaDelta := true) only [units_in1, units_deeper, Around.mark_units]); (try dsimp only [ktrTop]); omega)
  k_with "nameM" => ((rename Fr _ _ _ _ => F0); refine letM F0 ?_; clear F0; intro M0 F0)
  k_with "nameA" => (refine letA ?_; intro AA; refine letE ?_; intro EE; (rename Fr _ _ _ _ => F0); refine letM F0 ?_; clear F0; intro M0 F0; (try dsimp only))
  k_with "my store" => (k_dflt (refine' storeX_M ?smF ?smN ?_ ?smA ?smB; (case smF => k_asm); (case smN => k_asm); (case smA => rfl); (case smB => rfl); k_whole; intro h' M' F' N'; (try k_sweep)))
  k_with "ws" => ((first | (k_unfold; (try dsimp only)) | (k_end; wrow_close) | walk1 | (dsimp only; walk1) | (leave1; try dsimp only) | fail "no step"); (try dsimp only))
  k_with "wsf" => ((repeat (k_end; (with_reducible refine unq (by assumption) ?_); (try dsimp only))); (first | (k_unfold; (try dsimp only)) | (k_end; wrow_close) | walk1 | (dsimp only; walk1) | (leave1; try dsimp only) | fail "no step"); (try dsimp only); (repeat (k_end; (with_reducible refine unq (by assumption) ?_); (try dsimp only))); (try ((with_reducible show wpAny _ _ (exec _ _) _ _ _); (first | ((with_reducible show wpAny _ _ (exec _ _) _ _ (Shared.mk _ _ _ (_ + _) _)); refine foldT ?_; intro qX tX hqX; (try dsimp only)) | (refine foldX ?_; intro qX hqX)))))
  k_with "enterC" => (refine' code_defC ?k1 ?k2 ?k3 ?k4 ?k5 ?kA ?kF ?kK ?k6 ?k7 ?k8 ?k9 ?kB ?kD ?_ ?c2 ?c3 ?c4; (case kA => exact rfl); (case kF => exact rfl); (case kK => assumption); (case k1 => k_asm); (case k2 => k_asm); (case k3 => k_asm); (case k4 => k_asm); (case k5 => k_asm); (case k6 => k_is); (case k7 => k_is); (case k8 => k_room); (case k9 => exact BindsTo.of_eq rfl); (case kB => exact rfl); (case kD => decide +kernel); (case c2 => exact rfl); (case c3 => exact rfl); (case c4 => exact rfl); k_whole; intro g' L' h' tk' cells' FG' F' N' Y' B' X' T' l1; (try k_lt l1); k_cells Y'; (try simp only [List.cons_append, List.nil_append] at N'); (try dsimp only); (try k_lift B'); (try k_fold); (k_extra "nameA"))
  k_with "unq" => (repeat (k_end; (with_reducible refine unq (by assumption) ?_); (try dsimp only)))
  k_with "leave" => (k_extra "unq"; (try k_unfold); (try dsimp only); refine' leaveK_ ?k1 ?k2 ?_; (case k1 => k_asm); (case k2 => k_asm); intro kF kN; (try dsimp only))
  k_with "sr" => (repeat' (first | assumption | exact SRg.refl | refine SRg.trans ?_ (by assumption)))
  k_with "sub" => (repeat' (first | assumption | exact Sub.refl _ | refine Sub.tail ?_ | refine Sub.trans ?_ (by assumption)))
  k_with "fq" => exact ⟨_, _, _, _, _, _, _, _, _, _, _, _, _, _, _, _, _, _, _, _, _, _, by k_mem, by k_mem, by k_mem, by k_mem, by k_mem, by k_mem⟩
  k_with "turnZ" => (refine CRest.turn ?_; intro C oC D m₂ h2 tk2 its O hoC hBd F2 N2 ap kp; obtain ⟨q1, q2, q3, q4, q5, rfl⟩ := objs_zip O; obtain ⟨v1, v2, hv1, hv2, hm1, hm2⟩ := hBd; simp only [List.getElem?_cons_succ, List.getElem?_cons_zero, Option.some.injEq] at hv1 hv2; subst hv1 hv2; simp only [List.cons_append, List.nil_append] at N2; refine wpAny_tests_nil ?_)
  k_with "turnO" => (refine CRest.turn ?_; intro C oC D m₂ h2 tk2 its O hoC hBd F2 N2 ap kp; obtain ⟨q1, rfl, q2⟩ := objs_one O; obtain ⟨v1, hv1, hm1⟩ := hBd; simp only [List.getElem?_cons_succ, List.getElem?_cons_zero, Option.some.injEq] at hv1; subst hv1; simp only [List.cons_append, List.nil_append] at N2; refine wpAny_tests_nil ?_)
  k_with "cend" => (refine CEnd.mk hoC (by k_asm) (by k_asm) (Sub.refl _) ap kp ?_)
  k_with "cfin" => (refine CRest.fin ?_; intro D h2 tk2 F2 N2 off; replace off := off1_of off; (try simp only [LCg.Off1, and_true] at off))
  k_with "bd" => (repeat' (first | exact Bd.two | exact Bd.one | exact Bd.zero | exact Bd.three | exact Bd.four | exact Bd.eight | with_reducible assumption | exact Bd.ofPB (by assumption) | exact Red.bd0 (by assumption) (by assumption) | exact Red.bd1 (by assumption) (by assumption) | exact Bd.fmod (by assumption) | exact Bd.powZ (by assumption) (by assumption) | with_reducible apply Bd.fdiv2 | with_reducible apply Bd.neg | with_reducible apply Bd.mul | with_reducible apply Bd.add | with_reducible apply Bd.sub))
  k_with "off" => (repeat' (first | exact off1_lt (by tbn_find) | exact off1_ltS (by tbn_find) | refine off1_cons (by k_ne) ?_))
  k_with "unr1" => (refine unr_end (by k_asm) (by k_asm) (Sub.refl _) (seps_one ?_) ⟨⟨by k_mem, trivial⟩, ?_⟩; (k_extra "off"))
  k_with "unr2" => (refine unr_end (by k_asm) (by k_asm) (Sub.refl _) (seps_two ?_ ?_) ⟨⟨by k_mem, trivial⟩, ?_⟩; (k_extra "off"); (k_extra "off"))
  k_with "valL" => (refine ItemsRest.val ?_; intro h2 tk2 F2; refine AllObj.cons fun q3 c3 => AllObj.nil fun N2 => ?_; simp only [List.cons_append, List.nil_append] at N2)
  k_with "pairL" => (refine ItemsRest.pair ?_; intro T t h2 tk2 hT F2; refine AllObj.cons fun q1 c1 => AllObj.cons fun q2 c2 => AllObj.nil fun N2 => ?_; simp only [List.cons_append, List.nil_append] at N2)
  k_with "zeroL" => (refine ItemsRest.zero ?_; intro h2 tk2 F2 N2)
  intros; trivial
-- C1b
theorem fq2_any {w : World} {mean : ExcName → Option Value} {mg mb : Str → Option Value} {dp un : Nat} {gd : Option (List Code)} {cn : Str} {cs : Scope} {a : Addr} {ccd : Value} {cl : List (Str × Addr)} {outer : List Env} {A₀ : Around} {base h₀ : Heap} {L : Addr} {m : Str → Option Value} {s : Shared} {Q E : Value → Shared → Prop} {news : Led}
   {c mo : Addr} {c0 c1 p : Int} {n1 n2 : Nat} {t1 t2 t3 t4 tp : Tok} {T0 : Array Value}
   (B : Below A₀ base outer h₀) (F : Fr h₀ L s.heap m) (X : (KX w.params).In h₀) (N : News h₀ L s.heap ((86, tabObj T0) :: news)) (T : Top topProg LO mean mg mb h₀) (hk : cs.kind = .function) (h6 : ∀ q ∈ news, @Ne Nat q.1 86) (g : T0 = #[] ∨ ∃ c' : Addr, T0 = #[rawInt 81, rawInt 32, .ref c'])
   (hd : dp + 20 < recursionLimit) (hu : un + 200 < cLine)
   (hc : (c, { cls := .type "list", data := .seq #[.int c0 t1, .int c1 t2] n1 }) ∈ news) (hm : (mo, tupO [.int 1 t3, .int 0 t4] n2) ∈ news) (hb : PB p)
   (ret : ∀ z s' news', Fr h₀ L s'.heap m → SR s s' → News h₀ L s'.heap news' → Sub news news' → TB news' → (∀ c : Addr, T0 = #[rawInt 81, rawInt 32, .ref c] → (86, tabObj T0) ∈ news') → IsFQ w.params p news' z (c0.fmod p) (c1.fmod p) → Q (.ref z) s') :
   wpAny (model Challenge.rw_ll0049_01.row.prog w) (ktrTop dp un gd cn cs L a ccd cl outer) (call (.ref 227) [.ref c, .ref mo, .int p tp]) Q E s := by
  have hp := hb.1
  k_dflt (refine' call_cls ?k1 ?k2 ?k3 ?k4 ?k5 ?k6 ?_; (case k1 => k_asm); (case k2 => k_asm); (case k3 => k_asm); (case k4 => k_is); (case k5 => k_is); (case k6 => k_is); k_whole; intro x' d' h' F' N' l1 l2; (try k_lt l1); (try k_lt2 l2); (try k_sweep))
  k_dflt (k_extra "enterC")
  (iterate 8 k_extra "wsf")
  refine listComp rfl rfl (by decide) ?_
  (iterate 6 k_extra "wsf")
  refine enum_led (by k_asm) (by k_asm) (by k_mem) rfl rfl ?_
  intro e1 it1 o1 hh1 oc1 od1 F1 N1 off1 lt1
  refine csrc_enum rfl F1 N1 (by k_mem) (by k_mem) oc1 od1 (fun p hp => List.Mem.tail _ (List.Mem.tail _ hp)) (fun p hp => ⟨Nat.ne_of_lt (Nat.lt_trans (off1 p hp) lt1), Nat.ne_of_lt (off1 p hp)⟩) (Ne.symm (Nat.ne_of_lt lt1)) (by k_mem) rfl rfl (Nat.le_of_ble_eq_true rfl) (by decide) rfl rfl rfl (by decide) ?_
  refine CRest.turn ?_
  intro C oC D m₂ h2 tk2 its O hoC hBd F2 N2 ap kp
  obtain ⟨q1, q2, rfl, q3, q4⟩ := objs_two O
  obtain ⟨tk3, v3, hv3, hi3, hc3⟩ := hBd
  simp only [List.getElem?_cons_zero, Option.some.injEq] at hv3
  subst hv3
  simp only [List.cons_append, List.nil_append] at N2
  refine wpAny_tests_one ?_
  (iterate 11 k_extra "wsf")
  rename_i D3 h3 F3 N3 l3
  refine CEnd.mk hoC F3 N3 ?_ (CApart.cons (T := D3) (o := { cls := .type "tuple", data := .seq #[.int 0 tk3, .int 1 t3] }) ap (Nat.ne_of_gt l3.1) (Nat.ne_of_gt l3.2.1) ?_) (fun p hp => List.Mem.tail _ (kp p hp)) ?_
  · repeat' (first | exact Sub.refl _ | refine Sub.cons (by k_mem) ?_ | refine Sub.tail ?_)
  · intro q hq
    rcases List.mem_cons.mp hq with rfl | hq
    · exact Nat.ne_of_gt l3.2.2.1
    rcases List.mem_cons.mp hq with rfl | hq
    · exact Nat.ne_of_gt l3.2.2.2.1
    · cases hq
  refine CRest.turn ?_
  clear F3 N3 ap kp O hoC hi3 hc3 q3 q4
  intro C oC D m₂ h2 tk2 its O hoC hBd F2 N2 ap kp
  obtain ⟨q1, q2, rfl, q3, q4⟩ := objs_two O
  obtain ⟨tk3, v3, hv3, hi3, hc3⟩ := hBd
  simp only [List.getElem?_cons_succ, List.getElem?_cons_zero, Option.some.injEq] at hv3
  subst hv3
  simp only [List.cons_append, List.nil_append] at N2
  refine wpAny_tests_one ?_
  (iterate 4 k_extra "wsf")
  refine CEnd.mk hoC F2 N2 (Sub.refl _) ap kp ?_
  clear ap kp O hoC hi3 hc3 q3 q4 F2 N2
  refine CRest.fin ?_
  intro D h2 tk2 F2 N2 off
  replace off := off1_of off
  simp only [LCg.Off1, and_true] at off
  (iterate 49 k_extra "wsf")
  refine' genexp_any (l := c) (items := #[.int c0 t1, .int c1 t2]) (F := fun i v => ∃ t, v = .int (([c0, c1].getD i 0).fmod p) t) g X' rfl rfl rfl rfl rfl rfl (by decide) rfl rfl rfl (by k_room) T' (by k_asm) (by k_asm) ?m6 ?ks ?l6 rfl (fun Q' hQ' => ?iter) ?lst ?elt ?done
  case m6 => k_mem
  case ks => exact KS.cons (by k_ne) (KS.cons (by k_ne) (KS.cons (by k_ne) (KS.cons (by k_ne) (KS.cons (by k_ne) (KS.drop h6)))))
  case l6 => exact h6 _ hc
  case iter =>
    walk1
    exact hQ'
  case lst => exact ⟨_, (News.get (by k_asm) (by k_mem)), rfl, _, rfl⟩
  case elt =>
    intro code C A' E' i v s₂ m₂ hA hv keep F3 N3 hm3
    (iterate 1 k_extra "wsf")
    refine wpAny_Name (wpAny_loadName_local rfl rfl F3.ns hm3 ?_) (by decide)
    (iterate 1 k_extra "wsf")
    refine wpAny_Name (wpAny_loadName_free rfl rfl rfl (v := .ref x') ⟨_, News.get N3 (by k_mem), by assumption⟩ ?_ (by decide)) (by decide)
    rcases i with _ | _ | i
    · obtain rfl : Value.int c0 t1 = v := by simpa using hv
      (iterate 2 k_extra "wsf")
      exact ⟨⟨_, rfl⟩, _, _, rfl, fun _ _ e => e⟩
    · obtain rfl : Value.int c1 t2 = v := by simpa using hv
      (iterate 2 k_extra "wsf")
      exact ⟨⟨_, rfl⟩, _, _, rfl, fun _ _ e => e⟩
    · cases hv
  case done =>
    intro a1 gs1 h3 tk3 K1 c9 hc9 hb1 F3 N3 hL1 hN1 G1
    (iterate 1 k_extra "wsf")
    refine tuple_gen F3 N3 G1 hL1 hN1 ?_ (Nat.le_of_ble_eq_true rfl)
    intro s4 D4 ys F4 sr4 N4 o4 hys hF
    k_lt o4
    obtain ⟨v0, v1, rfl⟩ : ∃ v0 v1, ys = [v0, v1] := by
      match ys, hys with
      | [v0, v1], _ => exact ⟨v0, v1, rfl⟩
    obtain ⟨u0, rfl⟩ : ∃ t, v0 = .int (c0.fmod p) t := hF 0 _ rfl
    obtain ⟨u1, rfl⟩ : ∃ t, v1 = .int (c1.fmod p) t := hF 1 _ rfl
    (iterate 31 k_extra "wsf")
    refine' leaveK_ ?k1 ?k2 ?_
    case k1 => k_asm
    case k2 => k_asm
    intro kF kN
    dsimp only [InitBack]
    refine ⟨rfl, ?_⟩
    refine ret _ _ _ kF (SRg.trans (SRg.push hb1) sr4) kN ?_ ⟨c9, by k_mem⟩ (fun c e => by rw [hc9 c e]; k_mem) ⟨_, _, _, _, _, _, _, _, _, _, _, _, _, _, _, _, _, _, _, _, _, _, by k_mem, by k_mem, by k_mem, by k_mem, by k_mem, by k_mem, Red.fmod hb _ _⟩
    repeat' (first | exact Sub.refl _ | refine Sub.tail ?_)

-- C1
theorem fq2_new {w : World} {mean : ExcName → Option Value} {mg mb : Str → Option Value} {dp un : Nat} {gd : Option (List Code)} {cn : Str} {cs : Scope} {a : Addr} {ccd : Value} {cl : List (Str × Addr)} {outer : List Env} {A₀ : Around} {base h₀ : Heap} {L : Addr} {m : Str → Option Value} {s : Shared} {Q E : Value → Shared → Prop} {news : Led}
   {c mo : Addr} {c0 c1 p : Int} {n1 n2 : Nat} {t1 t2 t3 t4 tp : Tok}
   (B : Below A₀ base outer h₀) (F : Fr h₀ L s.heap m) (X : (KX w.params).In h₀) (N : News h₀ L s.heap news) (T : Top topProg LO mean mg mb h₀) (hk : cs.kind = .function) (tb : TB news)
   (hd : dp + 20 < recursionLimit) (hu : un + 200 < cLine)
   (hc : (c, { cls := .type "list", data := .seq #[.int c0 t1, .int c1 t2] n1 }) ∈ news) (hm : (mo, tupO [.int 1 t3, .int 0 t4] n2) ∈ news) (hb : PB p)
   (ret : ∀ z s' news', Fr h₀ L s'.heap m → SR s s' → News h₀ L s'.heap news' → Sub news news' → IsFQ w.params p news' z (c0.fmod p) (c1.fmod p) → Q (.ref z) s') :
   wpAny (model Challenge.rw_ll0049_01.row.prog w) (ktrTop dp un gd cn cs L a ccd cl outer) (call (.ref 227) [.ref c, .ref mo, .int p tp]) Q E s := by
  obtain ⟨c', e6⟩ := tb
  refine fq2_any (T0 := #[rawInt 81, rawInt 32, .ref c']) B F X (un86_news N e6) T hk un86_ne (Or.inr ⟨c', rfl⟩) hd hu (un86_mem N e6 hc (by intro x; cases x)) (un86_mem N e6 hm (by intro x; cases x)) hb ?_
  intro z s' n' F' sr N' sub tb' hx fq
  exact ret z s' n' F' sr N' (un86_back N e6 sub (hx _ rfl)) fq
theorem fq2_first {w : World} {mean : ExcName → Option Value} {mg mb : Str → Option Value} {dp un : Nat} {gd : Option (List Code)} {cn : Str} {cs : Scope} {a : Addr} {ccd : Value} {cl : List (Str × Addr)} {outer : List Env} {A₀ : Around} {base h₀ : Heap} {L : Addr} {m : Str → Option Value} {s : Shared} {Q E : Value → Shared → Prop} {news : Led}
   {c mo : Addr} {c0 c1 p : Int} {n1 n2 : Nat} {t1 t2 t3 t4 tp : Tok}
   (B : Below A₀ base outer h₀) (F : Fr h₀ L s.heap m) (X : (KX w.params).In h₀) (N : News h₀ L s.heap ((86, tabObj #[]) :: news)) (T : Top topProg LO mean mg mb h₀) (hk : cs.kind = .function) (h6 : ∀ q ∈ news, @Ne Nat q.1 86)
   (hd : dp + 20 < recursionLimit) (hu : un + 200 < cLine)
   (hc : (c, { cls := .type "list", data := .seq #[.int c0 t1, .int c1 t2] n1 }) ∈ news) (hm : (mo, tupO [.int 1 t3, .int 0 t4] n2) ∈ news) (hb : PB p)
   (ret : ∀ z s' news', Fr h₀ L s'.heap m → SR s s' → News h₀ L s'.heap news' → Sub news news' → TB news' → IsFQ w.params p news' z (c0.fmod p) (c1.fmod p) → Q (.ref z) s') :
   wpAny (model Challenge.rw_ll0049_01.row.prog w) (ktrTop dp un gd cn cs L a ccd cl outer) (call (.ref 227) [.ref c, .ref mo, .int p tp]) Q E s :=
  fq2_any B F X N T hk h6 (Or.inl rfl) hd hu hc hm hb fun z s' n' F' sr N' sub tb' hx fq => ret z s' n' F' sr N' sub tb' fq

-- C2
theorem load_call1 : True := by
  k_with "my call" => (k_dflt (first | (refine' fq2_new ?cB ?cF ?cX ?cN ?cT ?ck ?ctb ?cd ?cu ?e0 ?e1 ?e2 ?_; (case cB => k_asm); (case cF => k_asm); (case cX => k_asm); (case cN => k_asm); (case cT => k_asm); (case ck => rfl); (case ctb => first | k_asm | exact TB.sub (by assumption) (by k_extra "sub")); (case cd => k_room); (case cu => k_units); (case e0 => k_mem); (case e1 => k_mem); (case e2 => k_asm); k_whole)); intro zq9' sq9' newsq9' Fq9' srq9' Nq9' subq9' fqq9'; obtain ⟨dzq9', ozq9', hz1q9', hz2q9'⟩ := IsFQ.inst fqq9'; (try dsimp only [W.CmpBack]))
  trivial
theorem made_ct {w : World} {mean : ExcName → Option Value} {mg mb : Str → Option Value} {dp un : Nat} {gd : Option (List Code)} {cn : Str} {cs : Scope} {a : Addr} {ccd : Value} {cl : List (Str × Addr)} {outer : List Env} {A₀ : Around} {base h₀ : Heap} {L : Addr} {m : Str → Option Value} {s : Shared} {Q E : Value → Shared → Prop} {news : Led} {x c : Addr} {x0 x1 c0 c1 p : Int} {n1 : Nat} {t1 t2 : Tok}
   (B : Below A₀ base outer h₀) (F : Fr h₀ L s.heap m) (X : (KX w.params).In h₀) (N : News h₀ L s.heap news) (T : Top topProg LO mean mg mb h₀) (hk : cs.kind = .function) (tb : TB news) (hd : dp + 30 < recursionLimit) (hu : un + 300 < cLine)
   (hx : IsFQ w.params p news x x0 x1) (hc : (c, { cls := .type "list", data := .seq #[.int c0 t1, .int c1 t2] n1 }) ∈ news) (hb : PB p)
   (ret : ∀ z s' news', Fr h₀ L s'.heap m → SR s s' → News h₀ L s'.heap news' → Sub news news' → IsFQ w.params p news' z (c0.fmod p) (c1.fmod p) → Q (.ref z) s') :
   wpAny (model Challenge.rw_ll0049_01.row.prog w) (ktrTop dp un gd cn cs L a ccd cl outer) (call (.ref 216) [.ref x, .ref c]) Q E s := by
  have hp := hb.1
  obtain ⟨qd, qmc, qmt, qcf, qmo, qk1, qk2, qk3, qk4, qk5, qtp, qtd, qn1, qn2, qn3, qn4, qt1, qt2, qt3, qt4, qt5, qt6, hx1, hx2, hx3, hx4, hx5, hx6, hx7⟩ := hx
  refine wpAny_call ?_
  (k_dflt cell_enter); k_extra "nameA"
  (iterate 19 k_extra "wsf")
  k_extra "leave"
  exact ret _ _ _ kF (by k_extra "sr") kN (by k_extra "sub") (by assumption)

-- C3
theorem load_call2 : True := by
  k_with "my call" => (k_dflt (first | (refine' made_ct ?cB ?cF ?cX ?cN ?cT ?ck ?ctb ?cd ?cu ?e0 ?e1 ?e2 ?_; (case cB => k_asm); (case cF => k_asm); (case cX => k_asm); (case cN => k_asm); (case cT => k_asm); (case ck => rfl); (case ctb => first | k_asm | exact TB.sub (by assumption) (by k_extra "sub")); (case cd => k_room); (case cu => k_units); (case e0 => exact IsFQ.sub (by assumption) (by k_extra "sub")); (case e1 => k_mem); (case e2 => k_asm); k_whole)); intro zq9' sq9' newsq9' Fq9' srq9' Nq9' subq9' fqq9'; obtain ⟨dzq9', ozq9', hz1q9', hz2q9'⟩ := IsFQ.inst fqq9'; (try dsimp only [W.CmpBack]))
  trivial
theorem zero_ct {w : World} {mean : ExcName → Option Value} {mg mb : Str → Option Value} {dp un : Nat} {gd : Option (List Code)} {cn : Str} {cs : Scope} {a : Addr} {ccd : Value} {cl : List (Str × Addr)} {outer : List Env} {A₀ : Around} {base h₀ : Heap} {L : Addr} {m : Str → Option Value} {s : Shared} {Q E : Value → Shared → Prop} {news : Led} {x : Addr} {x0 x1 p : Int}
   (B : Below A₀ base outer h₀) (F : Fr h₀ L s.heap m) (X : (KX w.params).In h₀) (N : News h₀ L s.heap news) (T : Top topProg LO mean mg mb h₀) (hk : cs.kind = .function) (tb : TB news) (hd : dp + 40 < recursionLimit) (hu : un + 400 < cLine)
   (hx : IsFQ w.params p news x x0 x1) (hb : PB p)
   (ret : ∀ z s' news', Fr h₀ L s'.heap m → SR s s' → News h₀ L s'.heap news' → Sub news news' → IsFQ w.params p news' z (0) (0) → Q (.ref z) s') :
   wpAny (model Challenge.rw_ll0049_01.row.prog w) (ktrTop dp un gd cn cs L a ccd cl outer) (call (.ref 195) [.ref x]) Q E s := by
  have hp := hb.1
  have hx' := hx
  obtain ⟨qd, qmc, qmt, qcf, qmo, qk1, qk2, qk3, qk4, qk5, qtp, qtd, qn1, qn2, qn3, qn4, qt1, qt2, qt3, qt4, qt5, qt6, hx1, hx2, hx3, hx4, hx5, hx6, hx7⟩ := hx'
  refine wpAny_call ?_
  (k_dflt cell_enter); k_extra "nameA"
  (iterate 21 k_extra "wsf")
  rename IsFQ _ _ _ _ _ _ => fq
  rw [Int.zero_fmod] at fq
  k_extra "leave"
  exact ret _ _ _ kF (by k_extra "sr") kN (by k_extra "sub") fq
theorem one_ct {w : World} {mean : ExcName → Option Value} {mg mb : Str → Option Value} {dp un : Nat} {gd : Option (List Code)} {cn : Str} {cs : Scope} {a : Addr} {ccd : Value} {cl : List (Str × Addr)} {outer : List Env} {A₀ : Around} {base h₀ : Heap} {L : Addr} {m : Str → Option Value} {s : Shared} {Q E : Value → Shared → Prop} {news : Led} {x : Addr} {x0 x1 p : Int}
   (B : Below A₀ base outer h₀) (F : Fr h₀ L s.heap m) (X : (KX w.params).In h₀) (N : News h₀ L s.heap news) (T : Top topProg LO mean mg mb h₀) (hk : cs.kind = .function) (tb : TB news) (hd : dp + 40 < recursionLimit) (hu : un + 400 < cLine)
   (hx : IsFQ w.params p news x x0 x1) (hb : PB p)
   (ret : ∀ z s' news', Fr h₀ L s'.heap m → SR s s' → News h₀ L s'.heap news' → Sub news news' → IsFQ w.params p news' z ((1 : Int).fmod p) (0) → Q (.ref z) s') :
   wpAny (model Challenge.rw_ll0049_01.row.prog w) (ktrTop dp un gd cn cs L a ccd cl outer) (call (.ref 188) [.ref x]) Q E s := by
  have hp := hb.1
  have hx' := hx
  obtain ⟨qd, qmc, qmt, qcf, qmo, qk1, qk2, qk3, qk4, qk5, qtp, qtd, qn1, qn2, qn3, qn4, qt1, qt2, qt3, qt4, qt5, qt6, hx1, hx2, hx3, hx4, hx5, hx6, hx7⟩ := hx'
  refine wpAny_call ?_
  (k_dflt cell_enter); k_extra "nameA"
  (iterate 31 k_extra "wsf")
  rename IsFQ _ _ _ _ _ _ => fq
  rw [Int.zero_fmod] at fq
  k_extra "leave"
  exact ret _ _ _ kF (by k_extra "sr") kN (by k_extra "sub") fq

-- C4
theorem load_call3 : True := by
  k_with "my call" => (k_dflt (first | (refine' made_ct ?cB ?cF ?cX ?cN ?cT ?ck ?ctb ?cd ?cu ?e0 ?e1 ?e2 ?_; (case cB => k_asm); (case cF => k_asm); (case cX => k_asm); (case cN => k_asm); (case cT => k_asm); (case ck => rfl); (case ctb => first | k_asm | exact TB.sub (by assumption) (by k_extra "sub")); (case cd => k_room); (case cu => k_units); (case e0 => exact IsFQ.sub (by assumption) (by k_extra "sub")); (case e1 => k_mem); (case e2 => k_asm); k_whole)); intro zq9' sq9' newsq9' Fq9' srq9' Nq9' subq9' fqq9'; obtain ⟨dzq9', ozq9', hz1q9', hz2q9'⟩ := IsFQ.inst fqq9'; (try dsimp only [W.CmpBack]))
  trivial
theorem sub_ct {w : World} {mean : ExcName → Option Value} {mg mb : Str → Option Value} {dp un : Nat} {gd : Option (List Code)} {cn : Str} {cs : Scope} {a : Addr} {ccd : Value} {cl : List (Str × Addr)} {outer : List Env} {A₀ : Around} {base h₀ : Heap} {L : Addr} {m : Str → Option Value} {s : Shared} {Q E : Value → Shared → Prop} {news : Led} {x y : Addr} {x0 x1 y0 y1 p : Int}
   (B : Below A₀ base outer h₀) (F : Fr h₀ L s.heap m) (X : (KX w.params).In h₀) (N : News h₀ L s.heap news) (T : Top topProg LO mean mg mb h₀) (hk : cs.kind = .function) (tb : TB news) (hd : dp + 40 < recursionLimit) (hu : un + 400 < cLine)
   (hx : IsFQ w.params p news x x0 x1) (hy : IsFQ w.params p news y y0 y1) (hb : PB p)
   (ret : ∀ z s' news', Fr h₀ L s'.heap m → SR s s' → News h₀ L s'.heap news' → Sub news news' → IsFQ w.params p news' z ((x0 - y0).fmod p) ((x1 - y1).fmod p) → Q (.ref z) s') :
   wpAny (model Challenge.rw_ll0049_01.row.prog w) (ktrTop dp un gd cn cs L a ccd cl outer) (call (.ref 106) [.ref x, .ref y]) Q E s := by
  have hp := hb.1
  have hx' := hx
  have hy' := hy
  obtain ⟨qd, qmc, qmt, qcf, qmo, qk1, qk2, qk3, qk4, qk5, qtp, qtd, qn1, qn2, qn3, qn4, qt1, qt2, qt3, qt4, qt5, qt6, hx1, hx2, hx3, hx4, hx5, hx6, hx7⟩ := hx'
  obtain ⟨rd, rmc, rmt, rcf, rmo, rk1, rk2, rk3, rk4, rk5, rtp, rtd, rn1, rn2, rn3, rn4, rt1, rt2, rt3, rt4, rt5, rt6, hy1, hy2, hy3, hy4, hy5, hy6, hy7⟩ := hy'
  refine wpAny_call ?_
  k_dflt (k_extra "enterC")
  (iterate 36 k_extra "wsf")
  refine zip_led (by k_asm) (by k_asm) (by k_mem) rfl rfl (by k_mem) rfl rfl ?_
  intro I1 zo1 zo2 zh1 zc1 zd1 zc2 zd2 zF zN zoff
  skip
  refine csrc_zip (xs := [.int x0 qt3, .int x1 qt4]) (ys := [.int y0 rt3, .int y1 rt4]) rfl zF zN zc1 zd1 zc2 zd2 zoff (by k_mem) rfl rfl (by k_mem) rfl rfl rfl (Nat.le_of_ble_eq_true rfl) (by decide) rfl rfl rfl (by decide) ?_
  k_extra "turnZ"
  (iterate 16 k_extra "wsf")
  k_extra "cend"
  k_extra "turnZ"
  (iterate 16 k_extra "wsf")
  k_extra "cend"
  k_extra "cfin"
  (iterate 3 k_extra "wsf")
  rename IsFQ _ _ _ _ _ _ => fq
  simp only [Int.fmod_fmod] at fq
  k_extra "leave"
  exact ret _ _ _ kF (by k_extra "sr") kN (by k_extra "sub") fq
theorem neg_ct {w : World} {mean : ExcName → Option Value} {mg mb : Str → Option Value} {dp un : Nat} {gd : Option (List Code)} {cn : Str} {cs : Scope} {a : Addr} {ccd : Value} {cl : List (Str × Addr)} {outer : List Env} {A₀ : Around} {base h₀ : Heap} {L : Addr} {m : Str → Option Value} {s : Shared} {Q E : Value → Shared → Prop} {news : Led} {x : Addr} {x0 x1 p : Int}
   (B : Below A₀ base outer h₀) (F : Fr h₀ L s.heap m) (X : (KX w.params).In h₀) (N : News h₀ L s.heap news) (T : Top topProg LO mean mg mb h₀) (hk : cs.kind = .function) (tb : TB news) (hd : dp + 40 < recursionLimit) (hu : un + 400 < cLine)
   (hx : IsFQ w.params p news x x0 x1) (hb : PB p)
   (ret : ∀ z s' news', Fr h₀ L s'.heap m → SR s s' → News h₀ L s'.heap news' → Sub news news' → IsFQ w.params p news' z ((-x0).fmod p) ((-x1).fmod p) → Q (.ref z) s') :
   wpAny (model Challenge.rw_ll0049_01.row.prog w) (ktrTop dp un gd cn cs L a ccd cl outer) (call (.ref 173) [.ref x]) Q E s := by
  have hp := hb.1
  have hx' := hx
  obtain ⟨qd, qmc, qmt, qcf, qmo, qk1, qk2, qk3, qk4, qk5, qtp, qtd, qn1, qn2, qn3, qn4, qt1, qt2, qt3, qt4, qt5, qt6, hx1, hx2, hx3, hx4, hx5, hx6, hx7⟩ := hx'
  refine wpAny_call ?_
  (k_dflt cell_enter); k_extra "nameA"
  (iterate 12 k_extra "wsf")
  refine csrc_tup (vs := [.int x0 qt3, .int x1 qt4]) rfl (by k_asm) (by k_asm) (by k_mem) rfl rfl (Nat.le_of_ble_eq_true rfl) (by decide) rfl rfl ?_
  intro g1 I1
  k_extra "turnO"
  (iterate 4 k_extra "wsf")
  k_extra "cend"
  k_extra "turnO"
  (iterate 4 k_extra "wsf")
  k_extra "cend"
  k_extra "cfin"
  (iterate 3 k_extra "wsf")
  rename IsFQ _ _ _ _ _ _ => fq
  k_extra "leave"
  exact ret _ _ _ kF (by k_extra "sr") kN (by k_extra "sub") fq

-- C5
theorem load_call4 : True := by
  k_with "my call" => (k_dflt (first | (refine' made_ct ?cB ?cF ?cX ?cN ?cT ?ck ?ctb ?cd ?cu ?e0 ?e1 ?e2 ?_; (case cB => k_asm); (case cF => k_asm); (case cX => k_asm); (case cN => k_asm); (case cT => k_asm); (case ck => rfl); (case ctb => first | k_asm | exact TB.sub (by assumption) (by k_extra "sub")); (case cd => k_room); (case cu => k_units); (case e0 => exact IsFQ.sub (by assumption) (by k_extra "sub")); (case e1 => k_mem); (case e2 => k_asm); k_whole)); intro zq9' sq9' newsq9' Fq9' srq9' Nq9' subq9' fqq9'; obtain ⟨dzq9', ozq9', hz1q9', hz2q9'⟩ := IsFQ.inst fqq9'; (try dsimp only [W.CmpBack]))
  trivial
theorem mulI_ct {w : World} {mean : ExcName → Option Value} {mg mb : Str → Option Value} {dp un : Nat} {gd : Option (List Code)} {cn : Str} {cs : Scope} {a : Addr} {ccd : Value} {cl : List (Str × Addr)} {outer : List Env} {A₀ : Around} {base h₀ : Heap} {L : Addr} {m : Str → Option Value} {s : Shared} {Q E : Value → Shared → Prop} {news : Led} {x : Addr} {x0 x1 k p : Int} {tk : Tok}
   (B : Below A₀ base outer h₀) (F : Fr h₀ L s.heap m) (X : (KX w.params).In h₀) (N : News h₀ L s.heap news) (T : Top topProg LO mean mg mb h₀) (hk : cs.kind = .function) (tb : TB news) (hd : dp + 40 < recursionLimit) (hu : un + 400 < cLine)
   (hx : IsFQ w.params p news x x0 x1) (hk8 : Bd 10 k) (hb : PB p)
   (ret : ∀ z s' news', Fr h₀ L s'.heap m → SR s s' → News h₀ L s'.heap news' → Sub news news' → IsFQ w.params p news' z ((x0 * k).fmod p) ((x1 * k).fmod p) → Q (.ref z) s') :
   wpAny (model Challenge.rw_ll0049_01.row.prog w) (ktrTop dp un gd cn cs L a ccd cl outer) (call (.ref 118) [.ref x, .int k tk]) Q E s := by
  have hp := hb.1
  have hx' := hx
  obtain ⟨qd, qmc, qmt, qcf, qmo, qk1, qk2, qk3, qk4, qk5, qtp, qtd, qn1, qn2, qn3, qn4, qt1, qt2, qt3, qt4, qt5, qt6, hx1, hx2, hx3, hx4, hx5, hx6, hx7⟩ := hx'
  refine wpAny_call ?_
  k_dflt (k_extra "enterC")
  (iterate 25 k_extra "wsf")
  refine csrc_tup (vs := [.int x0 qt3, .int x1 qt4]) rfl (by k_asm) (by k_asm) (by k_mem) rfl rfl (Nat.le_of_ble_eq_true rfl) (by decide) rfl rfl ?_
  intro g1 I1
  k_extra "turnO"
  (iterate 16 k_extra "wsf")
  k_extra "cend"
  k_extra "turnO"
  (iterate 16 k_extra "wsf")
  k_extra "cend"
  k_extra "cfin"
  (iterate 3 k_extra "wsf")
  rename IsFQ _ _ _ _ _ _ => fq
  simp only [Int.fmod_fmod] at fq
  k_extra "leave"
  exact ret _ _ _ kF (by k_extra "sr") kN (by k_extra "sub") fq

-- C6
theorem load_call5 : True := by
  k_with "my call" => (k_dflt (first | (refine' mulI_ct ?cB ?cF ?cX ?cN ?cT ?ck ?ctb ?cd ?cu ?e0 ?e1 ?e2 ?_; (case cB => k_asm); (case cF => k_asm); (case cX => k_asm); (case cN => k_asm); (case cT => k_asm); (case ck => rfl); (case ctb => first | k_asm | exact TB.sub (by assumption) (by k_extra "sub")); (case cd => k_room); (case cu => k_units); (case e0 => exact IsFQ.sub (by assumption) (by k_extra "sub")); (case e1 => k_extra "bd"); (case e2 => k_asm); k_whole)); intro zq9' sq9' newsq9' Fq9' srq9' Nq9' subq9' fqq9'; obtain ⟨dzq9', ozq9', hz1q9', hz2q9'⟩ := IsFQ.inst fqq9'; (try dsimp only [W.CmpBack]))
  trivial
theorem rmul_ct {w : World} {mean : ExcName → Option Value} {mg mb : Str → Option Value} {dp un : Nat} {gd : Option (List Code)} {cn : Str} {cs : Scope} {a : Addr} {ccd : Value} {cl : List (Str × Addr)} {outer : List Env} {A₀ : Around} {base h₀ : Heap} {L : Addr} {m : Str → Option Value} {s : Shared} {Q E : Value → Shared → Prop} {news : Led} {x : Addr} {x0 x1 k p : Int} {tk : Tok}
   (B : Below A₀ base outer h₀) (F : Fr h₀ L s.heap m) (X : (KX w.params).In h₀) (N : News h₀ L s.heap news) (T : Top topProg LO mean mg mb h₀) (hk : cs.kind = .function) (tb : TB news) (hd : dp + 50 < recursionLimit) (hu : un + 500 < cLine)
   (hx : IsFQ w.params p news x x0 x1) (hk8 : Bd 10 k) (hb : PB p)
   (ret : ∀ z s' news', Fr h₀ L s'.heap m → SR s s' → News h₀ L s'.heap news' → Sub news news' → IsFQ w.params p news' z ((x0 * k).fmod p) ((x1 * k).fmod p) → Q (.ref z) s') :
   wpAny (model Challenge.rw_ll0049_01.row.prog w) (ktrTop dp un gd cn cs L a ccd cl outer) (call (.ref 125) [.ref x, .int k tk]) Q E s := by
  have hp := hb.1
  have hx' := hx
  obtain ⟨qd, qmc, qmt, qcf, qmo, qk1, qk2, qk3, qk4, qk5, qtp, qtd, qn1, qn2, qn3, qn4, qt1, qt2, qt3, qt4, qt5, qt6, hx1, hx2, hx3, hx4, hx5, hx6, hx7⟩ := hx'
  refine wpAny_call ?_
  (k_dflt cell_enter); k_extra "nameA"
  (iterate 8 k_extra "wsf")
  k_extra "leave"
  exact ret _ _ _ kF (by k_extra "sr") kN (by k_extra "sub") (by assumption)

-- C7
theorem load_call6 : True := by
  k_with "my call" => (k_dflt (first | (refine' made_ct ?cB ?cF ?cX ?cN ?cT ?ck ?ctb ?cd ?cu ?e0 ?e1 ?e2 ?_; (case cB => k_asm); (case cF => k_asm); (case cX => k_asm); (case cN => k_asm); (case cT => k_asm); (case ck => rfl); (case ctb => first | k_asm | exact TB.sub (by assumption) (by k_extra "sub")); (case cd => k_room); (case cu => k_units); (case e0 => exact IsFQ.sub (by assumption) (by k_extra "sub")); (case e1 => k_mem); (case e2 => k_asm); k_whole)); intro zq9' sq9' newsq9' Fq9' srq9' Nq9' subq9' fqq9'; obtain ⟨dzq9', ozq9', hz1q9', hz2q9'⟩ := IsFQ.inst fqq9'; (try dsimp only [W.CmpBack]))
  trivial
theorem mulF_ct {w : World} {mean : ExcName → Option Value} {mg mb : Str → Option Value} {dp un : Nat} {gd : Option (List Code)} {cn : Str} {cs : Scope} {a : Addr} {ccd : Value} {cl : List (Str × Addr)} {outer : List Env} {A₀ : Around} {base h₀ : Heap} {L : Addr} {m : Str → Option Value} {s : Shared} {Q E : Value → Shared → Prop} {news : Led} {x y : Addr} {x0 x1 y0 y1 p : Int}
   (B : Below A₀ base outer h₀) (F : Fr h₀ L s.heap m) (X : (KX w.params).In h₀) (N : News h₀ L s.heap news) (T : Top topProg LO mean mg mb h₀) (hk : cs.kind = .function) (tb : TB news) (hd : dp + 40 < recursionLimit) (hu : un + 400 < cLine)
   (hx : IsFQ w.params p news x x0 x1) (hy : IsFQ w.params p news y y0 y1) (hb : PB p)
   (ret : ∀ z s' news', Fr h₀ L s'.heap m → SR s s' → News h₀ L s'.heap news' → Sub news news' → IsFQ w.params p news' z (mA p x0 x1 y0 y1) (mB p x0 x1 y0 y1) → Q (.ref z) s') :
   wpAny (model Challenge.rw_ll0049_01.row.prog w) (ktrTop dp un gd cn cs L a ccd cl outer) (call (.ref 118) [.ref x, .ref y]) Q E s := by
  have hp := hb.1
  have hx' := hx
  have hy' := hy
  obtain ⟨qd, qmc, qmt, qcf, qmo, qk1, qk2, qk3, qk4, qk5, qtp, qtd, qn1, qn2, qn3, qn4, qt1, qt2, qt3, qt4, qt5, qt6, hx1, hx2, hx3, hx4, hx5, hx6, hx7⟩ := hx'
  obtain ⟨rd, rmc, rmt, rcf, rmo, rk1, rk2, rk3, rk4, rk5, rtp, rtd, rn1, rn2, rn3, rn4, rt1, rt2, rt3, rt4, rt5, rt6, hy1, hy2, hy3, hy4, hy5, hy6, hy7⟩ := hy'
  refine wpAny_call ?_
  k_dflt (k_extra "enterC")
  (iterate 62 k_extra "wsf")
  refine enum_led (by k_asm) (by k_asm) (by k_mem) rfl rfl ?_
  intro e1 it1 o1 hh1 oc1 od1 F1 N1 off1 lt1
  (iterate 1 k_extra "wsf")
  refine list_enum2 rfl F1 N1 (by k_mem) (by k_mem) oc1 od1 (fun p hp => List.Mem.tail _ (List.Mem.tail _ hp)) off1 lt1 (by k_mem) rfl rfl ?_
  intro DL T0 T1 h2 tk2 k0 k1 c2 F2 N2 oL1 oL2 oL3
  k_lt oL1
  k_lt2 oL2
  k_lt2 oL3
  (iterate 3 k_extra "wsf")
  rename News _ _ _ _ => N3
  rename_i tkA hA FA tkB
  replace N3 : News _ _ _ ((DL, _) :: (T0, _) :: (T1, _) :: (_, { cls := .type "list", data := .seq #[.int 0 _, .int 0 _, .int 0 _] 0 }) :: _ :: _ :: _ :: news) := N3
  skip
  k_dflt (refine' For_turns ?f ?_; (case f => k_asm))
  (iterate 8 k_extra "wsf")
  refine enum_turns (vs := [.int x0 qt3, .int x1 qt4]) rfl (by k_asm) (by k_asm) (by k_mem) rfl rfl ?_
  intro I1 off2
  k_lt off2
  k_extra "pairL"
  (iterate 10 k_extra "wsf")
  k_dflt (refine' For_turns ?f ?_; (case f => k_asm))
  (iterate 1 k_extra "wsf")
  refine iter_listTurns (vs := [.ref T0, .ref T1]) rfl (by k_asm) (by k_asm) (by k_mem) rfl rfl ?_
  intro I2 off3
  k_lt off3
  k_extra "valL"
  (iterate 31 k_extra "wsf")
  k_extra "unr1"
  k_extra "valL"
  (iterate 31 k_extra "wsf")
  k_extra "unr1"
  k_extra "zeroL"
  (iterate 1 k_extra "wsf")
  k_extra "unr2"
  k_extra "pairL"
  (iterate 10 k_extra "wsf")
  k_dflt (refine' For_turns ?f ?_; (case f => k_asm))
  (iterate 1 k_extra "wsf")
  refine iter_listTurns (vs := [.ref T0, .ref T1]) rfl (by k_asm) (by k_asm) (by k_mem) rfl rfl ?_
  intro I3 off3
  k_lt off3
  k_extra "valL"
  (iterate 31 k_extra "wsf")
  k_extra "unr1"
  k_extra "valL"
  (iterate 31 k_extra "wsf")
  k_extra "unr1"
  k_extra "zeroL"
  (iterate 1 k_extra "wsf")
  k_extra "unr2"
  k_extra "zeroL"
  (iterate 1 k_extra "wsf")
  k_dflt (refine' For_turns ?f ?_; (case f => k_asm))
  (iterate 20 k_extra "wsf")
  refine range_turns (n := 1) rfl (by k_asm) (by k_asm) (by assumption) (by decide) (by decide) ?_
  intro I4 off4
  k_lt off4
  refine ItemsRest.tok ?_
  intro t4 h2 tk2 F2
  refine AllObj.cons fun q3 c3 => AllObj.nil fun N2 => ?_
  simp only [List.cons_append, List.nil_append] at N2
  (iterate 13 k_extra "wsf")
  k_dflt (refine' For_turns ?f ?_; (case f => k_asm))
  (iterate 3 k_extra "wsf")
  refine iter_listTurns (vs := [.ref qmt]) rfl (by k_asm) (by k_asm) (by k_mem) rfl rfl ?_
  intro I5 off5
  k_lt off5
  k_extra "valL"
  (iterate 25 k_extra "wsf")
  k_extra "unr1"
  k_extra "zeroL"
  (iterate 1 k_extra "wsf")
  refine unr_end (by k_asm) (by k_asm) (Sub.refl _) (seps_one ?_) ⟨trivial, ?_⟩
  · k_extra "off"
  k_extra "zeroL"
  (iterate 9 k_extra "wsf")
  refine csrc_list (vs := [.int (0 + x0 * y0 - (0 + x1 * y1) * 1) _, .int (0 + x0 * y1 + x1 * y0) _]) rfl (by k_asm) (by k_asm) (by k_mem) rfl rfl (Nat.le_of_ble_eq_true rfl) (by decide) rfl rfl ?_
  intro g1 I6
  k_extra "turnO"
  (iterate 7 k_extra "wsf")
  k_extra "cend"
  k_extra "turnO"
  (iterate 7 k_extra "wsf")
  k_extra "cend"
  k_extra "cfin"
  (iterate 3 k_extra "wsf")
  rename IsFQ _ _ _ _ _ _ => fq
  simp only [Int.fmod_fmod, Int.zero_add, Int.mul_one] at fq
  k_extra "leave"
  exact ret _ _ _ kF (by k_extra "sr") kN (by k_extra "sub") fq

-- C8
theorem load_call7 : True := by
  k_with "my call" => (k_dflt (first | (refine' made_ct ?cB ?cF ?cX ?cN ?cT ?ck ?ctb ?cd ?cu ?e0 ?e1 ?e2 ?_; (case cB => k_asm); (case cF => k_asm); (case cX => k_asm); (case cN => k_asm); (case cT => k_asm); (case ck => rfl); (case ctb => first | k_asm | exact TB.sub (by assumption) (by k_extra "sub")); (case cd => k_room); (case cu => k_units); (case e0 => exact IsFQ.sub (by assumption) (by k_extra "sub")); (case e1 => k_mem); (case e2 => k_asm); k_whole) | (refine' mulF_ct ?cB ?cF ?cX ?cN ?cT ?ck ?ctb ?cd ?cu ?e0 ?e1 ?e2 ?_; (case cB => k_asm); (case cF => k_asm); (case cX => k_asm); (case cN => k_asm); (case cT => k_asm); (case ck => rfl); (case ctb => first | k_asm | exact TB.sub (by assumption) (by k_extra "sub")); (case cd => k_room); (case cu => k_units); (case e0 => exact IsFQ.sub (by assumption) (by k_extra "sub")); (case e1 => exact IsFQ.sub (by assumption) (by k_extra "sub")); (case e2 => k_asm); k_whole)); intro zq9' sq9' newsq9' Fq9' srq9' Nq9' subq9' fqq9'; obtain ⟨dzq9', ozq9', hz1q9', hz2q9'⟩ := IsFQ.inst fqq9'; (try dsimp only [W.CmpBack]))
  trivial
theorem pow2_ct {w : World} {mean : ExcName → Option Value} {mg mb : Str → Option Value} {dp un : Nat} {gd : Option (List Code)} {cn : Str} {cs : Scope} {a : Addr} {ccd : Value} {cl : List (Str × Addr)} {outer : List Env} {A₀ : Around} {base h₀ : Heap} {L : Addr} {m : Str → Option Value} {s : Shared} {Q E : Value → Shared → Prop} {news : Led} {x : Addr} {x0 x1 p : Int} {tk : Tok}
   (B : Below A₀ base outer h₀) (F : Fr h₀ L s.heap m) (X : (KX w.params).In h₀) (N : News h₀ L s.heap news) (T : Top topProg LO mean mg mb h₀) (hk : cs.kind = .function) (tb : TB news) (hd : dp + 50 < recursionLimit) (hu : un + 500 < cLine)
   (hx : IsFQ w.params p news x x0 x1) (hb : PB p)
   (ret : ∀ z s' news', Fr h₀ L s'.heap m → SR s s' → News h₀ L s'.heap news' → Sub news news' → IsFQ w.params p news' z (mA p ((1 : Int).fmod p) 0 (mA p x0 x1 x0 x1) (mB p x0 x1 x0 x1)) (mB p ((1 : Int).fmod p) 0 (mA p x0 x1 x0 x1) (mB p x0 x1 x0 x1)) → Q (.ref z) s') :
   wpAny (model Challenge.rw_ll0049_01.row.prog w) (ktrTop dp un gd cn cs L a ccd cl outer) (call (.ref 137) [.ref x, .int 2 tk]) Q E s := by
  have hp := hb.1
  have hx' := hx
  obtain ⟨qd, qmc, qmt, qcf, qmo, qk1, qk2, qk3, qk4, qk5, qtp, qtd, qn1, qn2, qn3, qn4, qt1, qt2, qt3, qt4, qt5, qt6, hx1, hx2, hx3, hx4, hx5, hx6, hx7⟩ := hx'
  refine wpAny_call ?_
  (k_dflt cell_enter); k_extra "nameA"
  (iterate 39 k_extra "wsf")
  k_dflt (refine' While_unr 3 ?_)
  refine WRest.turn ?_
  (iterate 36 k_extra "wsf")
  refine WRest.turn ?_
  (iterate 45 k_extra "wsf")
  refine WRest.turn ?_
  (iterate 10 k_extra "wsf")
  k_extra "leave"
  refine ret _ _ _ kF (by k_extra "sr") kN (by k_extra "sub") ?_
  refine IsFQ.sub (a := ?_) (b := ?_) ?_ ?_
  rotate_left
  · rw [← Int.zero_fmod p]; assumption
  · k_extra "sub"
theorem pow3_ct {w : World} {mean : ExcName → Option Value} {mg mb : Str → Option Value} {dp un : Nat} {gd : Option (List Code)} {cn : Str} {cs : Scope} {a : Addr} {ccd : Value} {cl : List (Str × Addr)} {outer : List Env} {A₀ : Around} {base h₀ : Heap} {L : Addr} {m : Str → Option Value} {s : Shared} {Q E : Value → Shared → Prop} {news : Led} {x : Addr} {x0 x1 p : Int} {tk : Tok}
   (B : Below A₀ base outer h₀) (F : Fr h₀ L s.heap m) (X : (KX w.params).In h₀) (N : News h₀ L s.heap news) (T : Top topProg LO mean mg mb h₀) (hk : cs.kind = .function) (tb : TB news) (hd : dp + 50 < recursionLimit) (hu : un + 500 < cLine)
   (hx : IsFQ w.params p news x x0 x1) (hb : PB p)
   (ret : ∀ z s' news', Fr h₀ L s'.heap m → SR s s' → News h₀ L s'.heap news' → Sub news news' → IsFQ w.params p news' z (mA p (mA p ((1 : Int).fmod p) 0 x0 x1) (mB p ((1 : Int).fmod p) 0 x0 x1) (mA p x0 x1 x0 x1) (mB p x0 x1 x0 x1)) (mB p (mA p ((1 : Int).fmod p) 0 x0 x1) (mB p ((1 : Int).fmod p) 0 x0 x1) (mA p x0 x1 x0 x1) (mB p x0 x1 x0 x1)) → Q (.ref z) s') :
   wpAny (model Challenge.rw_ll0049_01.row.prog w) (ktrTop dp un gd cn cs L a ccd cl outer) (call (.ref 137) [.ref x, .int 3 tk]) Q E s := by
  have hp := hb.1
  have hx' := hx
  obtain ⟨qd, qmc, qmt, qcf, qmo, qk1, qk2, qk3, qk4, qk5, qtp, qtd, qn1, qn2, qn3, qn4, qt1, qt2, qt3, qt4, qt5, qt6, hx1, hx2, hx3, hx4, hx5, hx6, hx7⟩ := hx'
  refine wpAny_call ?_
  (k_dflt cell_enter); k_extra "nameA"
  (iterate 39 k_extra "wsf")
  k_dflt (refine' While_unr 3 ?_)
  refine WRest.turn ?_
  (iterate 45 k_extra "wsf")
  refine WRest.turn ?_
  (iterate 45 k_extra "wsf")
  refine WRest.turn ?_
  (iterate 10 k_extra "wsf")
  k_extra "leave"
  refine ret _ _ _ kF (by k_extra "sr") kN (by k_extra "sub") ?_
  refine IsFQ.sub (a := ?_) (b := ?_) ?_ ?_
  rotate_left
  · rw [← Int.zero_fmod p]; assumption
  · k_extra "sub"

-- C9
theorem eq_ct {w : World} {mean : ExcName → Option Value} {mg mb : Str → Option Value} {dp un : Nat} {gd : Option (List Code)} {cn : Str} {cs : Scope} {a : Addr} {ccd : Value} {cl : List (Str × Addr)} {outer : List Env} {A₀ : Around} {base h₀ : Heap} {L : Addr} {m : Str → Option Value} {s : Shared} {Q E : Value → Shared → Prop} {news : Led} {x y : Addr} {x0 x1 y0 y1 p : Int}
   (B : Below A₀ base outer h₀) (F : Fr h₀ L s.heap m) (X : (KX w.params).In h₀) (N : News h₀ L s.heap news) (T : Top topProg LO mean mg mb h₀) (hk : cs.kind = .function) (tb : TB news) (hd : dp + 40 < recursionLimit) (hu : un + 400 < cLine)
   (hx : IsFQ w.params p news x x0 x1) (hy : IsFQ w.params p news y y0 y1)
   (ret : ∀ b s' news', Fr h₀ L s'.heap m → SR s s' → News h₀ L s'.heap news' → Sub news news' → (b = true ↔ x0 = y0 ∧ x1 = y1) → Q (.bool b) s') :
   wpAny (model Challenge.rw_ll0049_01.row.prog w) (ktrTop dp un gd cn cs L a ccd cl outer) (call (.ref 161) [.ref x, .ref y]) Q E s := by
  have hx' := hx
  have hy' := hy
  obtain ⟨qd, qmc, qmt, qcf, qmo, qk1, qk2, qk3, qk4, qk5, qtp, qtd, qn1, qn2, qn3, qn4, qt1, qt2, qt3, qt4, qt5, qt6, hx1, hx2, hx3, hx4, hx5, hx6, hx7⟩ := hx'
  obtain ⟨rd, rmc, rmt, rcf, rmo, rk1, rk2, rk3, rk4, rk5, rtp, rtd, rn1, rn2, rn3, rn4, rt1, rt2, rt3, rt4, rt5, rt6, hy1, hy2, hy3, hy4, hy5, hy6, hy7⟩ := hy'
  refine wpAny_call ?_
  (k_dflt cell_enter); k_extra "nameA"
  (iterate 18 k_extra "wsf")
  k_dflt (refine' For_turns ?f ?_; (case f => k_asm))
  (iterate 12 k_extra "wsf")
  refine zip_turns (xs := [.int x0 qt3, .int x1 qt4]) (ys := [.int y0 rt3, .int y1 rt4]) rfl (by k_asm) (by k_asm) (by k_mem) rfl rfl (by k_mem) rfl rfl rfl ?_
  intro I1 off2
  refine ItemsRest.pair ?_
  intro T t h2 tk2 hT F2
  refine AllObj.cons fun q1 c1 => AllObj.cons fun q2 c2 => AllObj.cons fun q3 c3 => AllObj.cons fun q4 c4 => AllObj.cons fun q5 c5 => AllObj.nil fun N2 => ?_
  simp only [List.cons_append, List.nil_append] at N2
  (iterate 16 k_extra "wsf")
  refine ite_split ?_ ?_
  · intro hne
    (iterate 4 k_extra "wsf")
    k_extra "leave"
    refine ret _ _ _ kF (by k_extra "sr") kN (by k_extra "sub") ?_
    simp only [bne_iff_ne, ne_eq] at hne
    simp [hne]
  intro e1
  (iterate 2 k_extra "wsf")
  refine unr_end (by k_asm) (by k_asm) (Sub.refl _) (seps_zip off2) ⟨⟨by k_mem, by k_mem, trivial⟩, ?_⟩
  refine ItemsRest.pair ?_
  intro T t h2 tk2 hT F2
  refine AllObj.cons fun q1 c1 => AllObj.cons fun q2 c2 => AllObj.cons fun q3 c3 => AllObj.cons fun q4 c4 => AllObj.cons fun q5 c5 => AllObj.nil fun N2 => ?_
  simp only [List.cons_append, List.nil_append] at N2
  (iterate 16 k_extra "wsf")
  refine ite_split ?_ ?_
  · intro hne
    (iterate 4 k_extra "wsf")
    k_extra "leave"
    refine ret _ _ _ kF (by k_extra "sr") kN (by k_extra "sub") ?_
    simp only [bne_iff_ne, ne_eq] at hne
    simp [hne]
  intro e2
  (iterate 2 k_extra "wsf")
  refine unr_end (by k_asm) (by k_asm) (Sub.refl _) (seps_zip off2) ⟨⟨by k_mem, by k_mem, trivial⟩, ?_⟩
  k_extra "zeroL"
  (iterate 3 k_extra "wsf")
  k_extra "leave"
  refine ret _ _ _ kF (by k_extra "sr") kN (by k_extra "sub") ?_
  simp only [Bool.not_eq_true, bne_eq_false_iff_eq] at e1 e2
  simp [e1, e2]

-- C10
theorem zero_c {w : World} {mean : ExcName → Option Value} {mg mb : Str → Option Value} {dp un : Nat} {gd : Option (List Code)} {cn : Str} {cs : Scope} {a : Addr} {ccd : Value} {cl : List (Str × Addr)} {outer : List Env} {A₀ : Around} {base h₀ : Heap} {L : Addr} {m : Str → Option Value} {s : Shared} {Q E : Value → Shared → Prop} {news : Led} {x : Addr} {u : F2} {p : Int}
   (B : Below A₀ base outer h₀) (F : Fr h₀ L s.heap m) (X : (KX w.params).In h₀) (N : News h₀ L s.heap news) (T : Top topProg LO mean mg mb h₀) (hk : cs.kind = .function) (tb : TB news) (hd : dp + 40 < recursionLimit) (hu : un + 400 < cLine)
   (hx : IsF w.params p news x u) (hb : PB p)
   (ret : ∀ z s' news', Fr h₀ L s'.heap m → SR s s' → News h₀ L s'.heap news' → Sub news news' → IsF w.params p news' z ((0, 0)) → Q (.ref z) s') :
   wpAny (model Challenge.rw_ll0049_01.row.prog w) (ktrTop dp un gd cn cs L a ccd cl outer) (call (.ref 195) [.ref x]) Q E s := zero_ct B F X N T hk tb hd hu hx hb fun z s' n f sr nn sb h => ret z s' n f sr nn sb h
theorem one_c {w : World} {mean : ExcName → Option Value} {mg mb : Str → Option Value} {dp un : Nat} {gd : Option (List Code)} {cn : Str} {cs : Scope} {a : Addr} {ccd : Value} {cl : List (Str × Addr)} {outer : List Env} {A₀ : Around} {base h₀ : Heap} {L : Addr} {m : Str → Option Value} {s : Shared} {Q E : Value → Shared → Prop} {news : Led} {x : Addr} {u : F2} {p : Int}
   (B : Below A₀ base outer h₀) (F : Fr h₀ L s.heap m) (X : (KX w.params).In h₀) (N : News h₀ L s.heap news) (T : Top topProg LO mean mg mb h₀) (hk : cs.kind = .function) (tb : TB news) (hd : dp + 40 < recursionLimit) (hu : un + 400 < cLine)
   (hx : IsF w.params p news x u) (hb : PB p)
   (ret : ∀ z s' news', Fr h₀ L s'.heap m → SR s s' → News h₀ L s'.heap news' → Sub news news' → IsF w.params p news' z (fone p) → Q (.ref z) s') :
   wpAny (model Challenge.rw_ll0049_01.row.prog w) (ktrTop dp un gd cn cs L a ccd cl outer) (call (.ref 188) [.ref x]) Q E s := one_ct B F X N T hk tb hd hu hx hb fun z s' n f sr nn sb h => ret z s' n f sr nn sb h
theorem neg_c {w : World} {mean : ExcName → Option Value} {mg mb : Str → Option Value} {dp un : Nat} {gd : Option (List Code)} {cn : Str} {cs : Scope} {a : Addr} {ccd : Value} {cl : List (Str × Addr)} {outer : List Env} {A₀ : Around} {base h₀ : Heap} {L : Addr} {m : Str → Option Value} {s : Shared} {Q E : Value → Shared → Prop} {news : Led} {x : Addr} {u : F2} {p : Int}
   (B : Below A₀ base outer h₀) (F : Fr h₀ L s.heap m) (X : (KX w.params).In h₀) (N : News h₀ L s.heap news) (T : Top topProg LO mean mg mb h₀) (hk : cs.kind = .function) (tb : TB news) (hd : dp + 40 < recursionLimit) (hu : un + 400 < cLine)
   (hx : IsF w.params p news x u) (hb : PB p)
   (ret : ∀ z s' news', Fr h₀ L s'.heap m → SR s s' → News h₀ L s'.heap news' → Sub news news' → IsF w.params p news' z (fneg p u) → Q (.ref z) s') :
   wpAny (model Challenge.rw_ll0049_01.row.prog w) (ktrTop dp un gd cn cs L a ccd cl outer) (call (.ref 173) [.ref x]) Q E s := neg_ct B F X N T hk tb hd hu hx hb fun z s' n f sr nn sb h => ret z s' n f sr nn sb h
theorem sub_c {w : World} {mean : ExcName → Option Value} {mg mb : Str → Option Value} {dp un : Nat} {gd : Option (List Code)} {cn : Str} {cs : Scope} {a : Addr} {ccd : Value} {cl : List (Str × Addr)} {outer : List Env} {A₀ : Around} {base h₀ : Heap} {L : Addr} {m : Str → Option Value} {s : Shared} {Q E : Value → Shared → Prop} {news : Led} {x y : Addr} {u v : F2} {p : Int}
   (B : Below A₀ base outer h₀) (F : Fr h₀ L s.heap m) (X : (KX w.params).In h₀) (N : News h₀ L s.heap news) (T : Top topProg LO mean mg mb h₀) (hk : cs.kind = .function) (tb : TB news) (hd : dp + 40 < recursionLimit) (hu : un + 400 < cLine)
   (hx : IsF w.params p news x u) (hy : IsF w.params p news y v) (hb : PB p)
   (ret : ∀ z s' news', Fr h₀ L s'.heap m → SR s s' → News h₀ L s'.heap news' → Sub news news' → IsF w.params p news' z (fsub p u v) → Q (.ref z) s') :
   wpAny (model Challenge.rw_ll0049_01.row.prog w) (ktrTop dp un gd cn cs L a ccd cl outer) (call (.ref 106) [.ref x, .ref y]) Q E s := sub_ct B F X N T hk tb hd hu hx hy hb fun z s' n f sr nn sb h => ret z s' n f sr nn sb h
theorem mul_c {w : World} {mean : ExcName → Option Value} {mg mb : Str → Option Value} {dp un : Nat} {gd : Option (List Code)} {cn : Str} {cs : Scope} {a : Addr} {ccd : Value} {cl : List (Str × Addr)} {outer : List Env} {A₀ : Around} {base h₀ : Heap} {L : Addr} {m : Str → Option Value} {s : Shared} {Q E : Value → Shared → Prop} {news : Led} {x y : Addr} {u v : F2} {p : Int}
   (B : Below A₀ base outer h₀) (F : Fr h₀ L s.heap m) (X : (KX w.params).In h₀) (N : News h₀ L s.heap news) (T : Top topProg LO mean mg mb h₀) (hk : cs.kind = .function) (tb : TB news) (hd : dp + 40 < recursionLimit) (hu : un + 400 < cLine)
   (hx : IsF w.params p news x u) (hy : IsF w.params p news y v) (hb : PB p)
   (ret : ∀ z s' news', Fr h₀ L s'.heap m → SR s s' → News h₀ L s'.heap news' → Sub news news' → IsF w.params p news' z (fmul p u v) → Q (.ref z) s') :
   wpAny (model Challenge.rw_ll0049_01.row.prog w) (ktrTop dp un gd cn cs L a ccd cl outer) (call (.ref 118) [.ref x, .ref y]) Q E s := mulF_ct B F X N T hk tb hd hu hx hy hb fun z s' n f sr nn sb h => ret z s' n f sr nn sb h
theorem rmul_c {w : World} {mean : ExcName → Option Value} {mg mb : Str → Option Value} {dp un : Nat} {gd : Option (List Code)} {cn : Str} {cs : Scope} {a : Addr} {ccd : Value} {cl : List (Str × Addr)} {outer : List Env} {A₀ : Around} {base h₀ : Heap} {L : Addr} {m : Str → Option Value} {s : Shared} {Q E : Value → Shared → Prop} {news : Led} {x : Addr} {u : F2} {p k : Int} {tk : Tok}
   (B : Below A₀ base outer h₀) (F : Fr h₀ L s.heap m) (X : (KX w.params).In h₀) (N : News h₀ L s.heap news) (T : Top topProg LO mean mg mb h₀) (hk : cs.kind = .function) (tb : TB news) (hd : dp + 50 < recursionLimit) (hu : un + 500 < cLine)
   (hx : IsF w.params p news x u) (hk8 : Bd 10 k) (hb : PB p)
   (ret : ∀ z s' news', Fr h₀ L s'.heap m → SR s s' → News h₀ L s'.heap news' → Sub news news' → IsF w.params p news' z (fmulk p k u) → Q (.ref z) s') :
   wpAny (model Challenge.rw_ll0049_01.row.prog w) (ktrTop dp un gd cn cs L a ccd cl outer) (call (.ref 125) [.ref x, .int k tk]) Q E s := rmul_ct B F X N T hk tb hd hu hx hk8 hb fun z s' n f sr nn sb h => ret z s' n f sr nn sb h
theorem pow2_c {w : World} {mean : ExcName → Option Value} {mg mb : Str → Option Value} {dp un : Nat} {gd : Option (List Code)} {cn : Str} {cs : Scope} {a : Addr} {ccd : Value} {cl : List (Str × Addr)} {outer : List Env} {A₀ : Around} {base h₀ : Heap} {L : Addr} {m : Str → Option Value} {s : Shared} {Q E : Value → Shared → Prop} {news : Led} {x : Addr} {u : F2} {p : Int} {tk : Tok}
   (B : Below A₀ base outer h₀) (F : Fr h₀ L s.heap m) (X : (KX w.params).In h₀) (N : News h₀ L s.heap news) (T : Top topProg LO mean mg mb h₀) (hk : cs.kind = .function) (tb : TB news) (hd : dp + 50 < recursionLimit) (hu : un + 500 < cLine)
   (hx : IsF w.params p news x u) (hb : PB p)
   (ret : ∀ z s' news', Fr h₀ L s'.heap m → SR s s' → News h₀ L s'.heap news' → Sub news news' → IsF w.params p news' z (fpow2 p u) → Q (.ref z) s') :
   wpAny (model Challenge.rw_ll0049_01.row.prog w) (ktrTop dp un gd cn cs L a ccd cl outer) (call (.ref 137) [.ref x, .int 2 tk]) Q E s := pow2_ct B F X N T hk tb hd hu hx hb fun z s' n f sr nn sb h => ret z s' n f sr nn sb h
theorem pow3_c {w : World} {mean : ExcName → Option Value} {mg mb : Str → Option Value} {dp un : Nat} {gd : Option (List Code)} {cn : Str} {cs : Scope} {a : Addr} {ccd : Value} {cl : List (Str × Addr)} {outer : List Env} {A₀ : Around} {base h₀ : Heap} {L : Addr} {m : Str → Option Value} {s : Shared} {Q E : Value → Shared → Prop} {news : Led} {x : Addr} {u : F2} {p : Int} {tk : Tok}
   (B : Below A₀ base outer h₀) (F : Fr h₀ L s.heap m) (X : (KX w.params).In h₀) (N : News h₀ L s.heap news) (T : Top topProg LO mean mg mb h₀) (hk : cs.kind = .function) (tb : TB news) (hd : dp + 50 < recursionLimit) (hu : un + 500 < cLine)
   (hx : IsF w.params p news x u) (hb : PB p)
   (ret : ∀ z s' news', Fr h₀ L s'.heap m → SR s s' → News h₀ L s'.heap news' → Sub news news' → IsF w.params p news' z (fpow3 p u) → Q (.ref z) s') :
   wpAny (model Challenge.rw_ll0049_01.row.prog w) (ktrTop dp un gd cn cs L a ccd cl outer) (call (.ref 137) [.ref x, .int 3 tk]) Q E s := pow3_ct B F X N T hk tb hd hu hx hb fun z s' n f sr nn sb h => ret z s' n f sr nn sb h
theorem eq_c {w : World} {mean : ExcName → Option Value} {mg mb : Str → Option Value} {dp un : Nat} {gd : Option (List Code)} {cn : Str} {cs : Scope} {a : Addr} {ccd : Value} {cl : List (Str × Addr)} {outer : List Env} {A₀ : Around} {base h₀ : Heap} {L : Addr} {m : Str → Option Value} {s : Shared} {Q E : Value → Shared → Prop} {news : Led} {x y : Addr} {u v : F2} {p : Int}
   (B : Below A₀ base outer h₀) (F : Fr h₀ L s.heap m) (X : (KX w.params).In h₀) (N : News h₀ L s.heap news) (T : Top topProg LO mean mg mb h₀) (hk : cs.kind = .function) (tb : TB news) (hd : dp + 40 < recursionLimit) (hu : un + 400 < cLine)
   (hx : IsF w.params p news x u) (hy : IsF w.params p news y v)
   (ret : ∀ (r : Bool) s' news', Fr h₀ L s'.heap m → SR s s' → News h₀ L s'.heap news' → Sub news news' → (r = true ↔ u = v) → Q (.bool r) s') :
   wpAny (model Challenge.rw_ll0049_01.row.prog w) (ktrTop dp un gd cn cs L a ccd cl outer) (call (.ref 161) [.ref x, .ref y]) Q E s := eq_ct B F X N T hk tb hd hu hx hy fun r s' n f sr nn sb h => ret r s' n f sr nn sb (h.trans ⟨fun e => Prod.ext e.1 e.2, fun e => by rw [e]; exact ⟨rfl, rfl⟩⟩)

-- C11
theorem load_call8 : True := by
  k_with "my call" => (k_dflt (first | (refine' eq_c ?cB ?cF ?cX ?cN ?cT ?ck ?ctb ?cd ?cu ?e0 ?e1 ?_; (case cB => k_asm); (case cF => k_asm); (case cX => k_asm); (case cN => k_asm); (case cT => k_asm); (case ck => rfl); (case ctb => first | k_asm | exact TB.sub (by assumption) (by k_extra "sub")); (case cd => k_room); (case cu => k_units); (case e0 => exact IsF.sub (by assumption) (by k_extra "sub")); (case e1 => exact IsF.sub (by assumption) (by k_extra "sub")); k_whole)); intro rq9' sq9' newsq9' Fq9' srq9' Nq9' subq9' hrq9'; (try dsimp only [W.CmpBack]))
  trivial
theorem load_call9 : True := by
  k_with "my call" => (k_dflt (first | (refine' zero_c ?cB ?cF ?cX ?cN ?cT ?ck ?ctb ?cd ?cu ?e0 ?e1 ?_; (case cB => k_asm); (case cF => k_asm); (case cX => k_asm); (case cN => k_asm); (case cT => k_asm); (case ck => rfl); (case ctb => first | k_asm | exact TB.sub (by assumption) (by k_extra "sub")); (case cd => k_room); (case cu => k_units); (case e0 => exact IsF.sub (by assumption) (by k_extra "sub")); (case e1 => k_asm); k_whole) | (refine' one_c ?cB ?cF ?cX ?cN ?cT ?ck ?ctb ?cd ?cu ?e0 ?e1 ?_; (case cB => k_asm); (case cF => k_asm); (case cX => k_asm); (case cN => k_asm); (case cT => k_asm); (case ck => rfl); (case ctb => first | k_asm | exact TB.sub (by assumption) (by k_extra "sub")); (case cd => k_room); (case cu => k_units); (case e0 => exact IsF.sub (by assumption) (by k_extra "sub")); (case e1 => k_asm); k_whole) | (refine' neg_c ?cB ?cF ?cX ?cN ?cT ?ck ?ctb ?cd ?cu ?e0 ?e1 ?_; (case cB => k_asm); (case cF => k_asm); (case cX => k_asm); (case cN => k_asm); (case cT => k_asm); (case ck => rfl); (case ctb => first | k_asm | exact TB.sub (by assumption) (by k_extra "sub")); (case cd => k_room); (case cu => k_units); (case e0 => exact IsF.sub (by assumption) (by k_extra "sub")); (case e1 => k_asm); k_whole) | (refine' sub_c ?cB ?cF ?cX ?cN ?cT ?ck ?ctb ?cd ?cu ?e0 ?e1 ?e2 ?_; (case cB => k_asm); (case cF => k_asm); (case cX => k_asm); (case cN => k_asm); (case cT => k_asm); (case ck => rfl); (case ctb => first | k_asm | exact TB.sub (by assumption) (by k_extra "sub")); (case cd => k_room); (case cu => k_units); (case e0 => exact IsF.sub (by assumption) (by k_extra "sub")); (case e1 => exact IsF.sub (by assumption) (by k_extra "sub")); (case e2 => k_asm); k_whole) | (refine' mul_c ?cB ?cF ?cX ?cN ?cT ?ck ?ctb ?cd ?cu ?e0 ?e1 ?e2 ?_; (case cB => k_asm); (case cF => k_asm); (case cX => k_asm); (case cN => k_asm); (case cT => k_asm); (case ck => rfl); (case ctb => first | k_asm | exact TB.sub (by assumption) (by k_extra "sub")); (case cd => k_room); (case cu => k_units); (case e0 => exact IsF.sub (by assumption) (by k_extra "sub")); (case e1 => exact IsF.sub (by assumption) (by k_extra "sub")); (case e2 => k_asm); k_whole) | (refine' rmul_c ?cB ?cF ?cX ?cN ?cT ?ck ?ctb ?cd ?cu ?e0 ?e1 ?e2 ?_; (case cB => k_asm); (case cF => k_asm); (case cX => k_asm); (case cN => k_asm); (case cT => k_asm); (case ck => rfl); (case ctb => first | k_asm | exact TB.sub (by assumption) (by k_extra "sub")); (case cd => k_room); (case cu => k_units); (case e0 => exact IsF.sub (by assumption) (by k_extra "sub")); (case e1 => exact Bd.small (by decide)); (case e2 => k_asm); k_whole) | (refine' pow2_c ?cB ?cF ?cX ?cN ?cT ?ck ?ctb ?cd ?cu ?e0 ?e1 ?_; (case cB => k_asm); (case cF => k_asm); (case cX => k_asm); (case cN => k_asm); (case cT => k_asm); (case ck => rfl); (case ctb => first | k_asm | exact TB.sub (by assumption) (by k_extra "sub")); (case cd => k_room); (case cu => k_units); (case e0 => exact IsF.sub (by assumption) (by k_extra "sub")); (case e1 => k_asm); k_whole) | (refine' pow3_c ?cB ?cF ?cX ?cN ?cT ?ck ?ctb ?cd ?cu ?e0 ?e1 ?_; (case cB => k_asm); (case cF => k_asm); (case cX => k_asm); (case cN => k_asm); (case cT => k_asm); (case ck => rfl); (case ctb => first | k_asm | exact TB.sub (by assumption) (by k_extra "sub")); (case cd => k_room); (case cu => k_units); (case e0 => exact IsF.sub (by assumption) (by k_extra "sub")); (case e1 => k_asm); k_whole)); intro zq9' sq9' newsq9' Fq9' srq9' Nq9' subq9' fqq9'; obtain ⟨dzq9', ozq9', hz1q9', hz2q9'⟩ := IsFQ.inst fqq9'; (try dsimp only [W.CmpBack]))
  trivial
theorem cneg_c {w : World} {mean : ExcName → Option Value} {mg mb : Str → Option Value} {dp un : Nat} {gd : Option (List Code)} {cn : Str} {cs : Scope} {a : Addr} {ccd : Value} {cl : List (Str × Addr)} {outer : List Env} {A₀ : Around} {base h₀ : Heap} {L : Addr} {m : Str → Option Value} {s : Shared} {Q E : Value → Shared → Prop} {news : Led} {t : Addr} {P : P3} {p : Int}
   (B : Below A₀ base outer h₀) (F : Fr h₀ L s.heap m) (X : (KX w.params).In h₀) (N : News h₀ L s.heap news) (T : Top topProg LO mean mg mb h₀) (hk : cs.kind = .function) (tb : TB news) (hd : dp + 60 < recursionLimit) (hu : un + 600 < cLine)
   (ht : IsPt w.params p news t P) (hb : PB p)
   (ret : ∀ z s' news', Fr h₀ L s'.heap m → SR s s' → News h₀ L s'.heap news' → Sub news news' → IsPt w.params p news' z ((P.1, fneg p P.2.1, P.2.2)) → Q (.ref z) s') :
   wpAny (model Challenge.rw_ll0049_01.row.prog w) (ktrTop dp un gd cn cs L a ccd cl outer) (call (.ref 63) [.ref t]) Q E s := by
  have hp := hb.1
  have ht' := ht
  obtain ⟨x, y, z, n, htt, htx, hty, htz⟩ := ht'
  obtain ⟨_, _, htx1, htx2⟩ := IsFQ.inst htx
  obtain ⟨_, _, hty1, hty2⟩ := IsFQ.inst hty
  obtain ⟨_, _, htz1, htz2⟩ := IsFQ.inst htz
  refine wpAny_call ?_
  (k_dflt cell_enter); k_extra "nameA"
  (iterate 30 k_extra "wsf")
  k_extra "leave"
  refine ret _ _ _ kF (by k_extra "sr") kN (by k_extra "sub") ⟨_, _, _, _, by k_mem, ?_, ?_, ?_⟩ <;> exact IsF.sub (by assumption) (by k_extra "sub")
theorem double_c {w : World} {mean : ExcName → Option Value} {mg mb : Str → Option Value} {dp un : Nat} {gd : Option (List Code)} {cn : Str} {cs : Scope} {a : Addr} {ccd : Value} {cl : List (Str × Addr)} {outer : List Env} {A₀ : Around} {base h₀ : Heap} {L : Addr} {m : Str → Option Value} {s : Shared} {Q E : Value → Shared → Prop} {news : Led} {t : Addr} {P : P3} {p : Int}
   (B : Below A₀ base outer h₀) (F : Fr h₀ L s.heap m) (X : (KX w.params).In h₀) (N : News h₀ L s.heap news) (T : Top topProg LO mean mg mb h₀) (hk : cs.kind = .function) (tb : TB news) (hd : dp + 60 < recursionLimit) (hu : un + 600 < cLine)
   (ht : IsPt w.params p news t P) (hb : PB p)
   (ret : ∀ z s' news', Fr h₀ L s'.heap m → SR s s' → News h₀ L s'.heap news' → Sub news news' → IsPt w.params p news' z (pdbl p P) → Q (.ref z) s') :
   wpAny (model Challenge.rw_ll0049_01.row.prog w) (ktrTop dp un gd cn cs L a ccd cl outer) (call (.ref 42) [.ref t]) Q E s := by
  have hp := hb.1
  have ht' := ht
  obtain ⟨x, y, z, n, htt, htx, hty, htz⟩ := ht'
  obtain ⟨_, _, htx1, htx2⟩ := IsFQ.inst htx
  obtain ⟨_, _, hty1, hty2⟩ := IsFQ.inst hty
  obtain ⟨_, _, htz1, htz2⟩ := IsFQ.inst htz
  refine wpAny_call ?_
  (k_dflt cell_enter); k_extra "nameA"
  (iterate 147 k_extra "wsf")
  k_extra "leave"
  refine ret _ _ _ kF (by k_extra "sr") kN (by k_extra "sub") ⟨_, _, _, _, by k_mem, ?_, ?_, ?_⟩ <;> exact IsF.sub (by assumption) (by k_extra "sub")

-- C12
theorem load_call10 : True := by
  k_with "my call" => (k_dflt (first | (refine' eq_c ?cB ?cF ?cX ?cN ?cT ?ck ?ctb ?cd ?cu ?e0 ?e1 ?_; (case cB => k_asm); (case cF => k_asm); (case cX => k_asm); (case cN => k_asm); (case cT => k_asm); (case ck => rfl); (case ctb => first | k_asm | exact TB.sub (by assumption) (by k_extra "sub")); (case cd => k_room); (case cu => k_units); (case e0 => exact IsF.sub (by assumption) (by k_extra "sub")); (case e1 => exact IsF.sub (by assumption) (by k_extra "sub")); k_whole)); intro rq9' sq9' newsq9' Fq9' srq9' Nq9' subq9' hrq9'; (try dsimp only [W.CmpBack]))
  trivial
theorem load_call12 : True := by
  k_with "my call" => (k_dflt (first | (refine' zero_c ?cB ?cF ?cX ?cN ?cT ?ck ?ctb ?cd ?cu ?e0 ?e1 ?_; (case cB => k_asm); (case cF => k_asm); (case cX => k_asm); (case cN => k_asm); (case cT => k_asm); (case ck => rfl); (case ctb => first | k_asm | exact TB.sub (by assumption) (by k_extra "sub")); (case cd => k_room); (case cu => k_units); (case e0 => exact IsF.sub (by assumption) (by k_extra "sub")); (case e1 => k_asm); k_whole) | (refine' one_c ?cB ?cF ?cX ?cN ?cT ?ck ?ctb ?cd ?cu ?e0 ?e1 ?_; (case cB => k_asm); (case cF => k_asm); (case cX => k_asm); (case cN => k_asm); (case cT => k_asm); (case ck => rfl); (case ctb => first | k_asm | exact TB.sub (by assumption) (by k_extra "sub")); (case cd => k_room); (case cu => k_units); (case e0 => exact IsF.sub (by assumption) (by k_extra "sub")); (case e1 => k_asm); k_whole) | (refine' neg_c ?cB ?cF ?cX ?cN ?cT ?ck ?ctb ?cd ?cu ?e0 ?e1 ?_; (case cB => k_asm); (case cF => k_asm); (case cX => k_asm); (case cN => k_asm); (case cT => k_asm); (case ck => rfl); (case ctb => first | k_asm | exact TB.sub (by assumption) (by k_extra "sub")); (case cd => k_room); (case cu => k_units); (case e0 => exact IsF.sub (by assumption) (by k_extra "sub")); (case e1 => k_asm); k_whole) | (refine' sub_c ?cB ?cF ?cX ?cN ?cT ?ck ?ctb ?cd ?cu ?e0 ?e1 ?e2 ?_; (case cB => k_asm); (case cF => k_asm); (case cX => k_asm); (case cN => k_asm); (case cT => k_asm); (case ck => rfl); (case ctb => first | k_asm | exact TB.sub (by assumption) (by k_extra "sub")); (case cd => k_room); (case cu => k_units); (case e0 => exact IsF.sub (by assumption) (by k_extra "sub")); (case e1 => exact IsF.sub (by assumption) (by k_extra "sub")); (case e2 => k_asm); k_whole) | (refine' mul_c ?cB ?cF ?cX ?cN ?cT ?ck ?ctb ?cd ?cu ?e0 ?e1 ?e2 ?_; (case cB => k_asm); (case cF => k_asm); (case cX => k_asm); (case cN => k_asm); (case cT => k_asm); (case ck => rfl); (case ctb => first | k_asm | exact TB.sub (by assumption) (by k_extra "sub")); (case cd => k_room); (case cu => k_units); (case e0 => exact IsF.sub (by assumption) (by k_extra "sub")); (case e1 => exact IsF.sub (by assumption) (by k_extra "sub")); (case e2 => k_asm); k_whole) | (refine' rmul_c ?cB ?cF ?cX ?cN ?cT ?ck ?ctb ?cd ?cu ?e0 ?e1 ?e2 ?_; (case cB => k_asm); (case cF => k_asm); (case cX => k_asm); (case cN => k_asm); (case cT => k_asm); (case ck => rfl); (case ctb => first | k_asm | exact TB.sub (by assumption) (by k_extra "sub")); (case cd => k_room); (case cu => k_units); (case e0 => exact IsF.sub (by assumption) (by k_extra "sub")); (case e1 => exact Bd.small (by decide)); (case e2 => k_asm); k_whole) | (refine' pow2_c ?cB ?cF ?cX ?cN ?cT ?ck ?ctb ?cd ?cu ?e0 ?e1 ?_; (case cB => k_asm); (case cF => k_asm); (case cX => k_asm); (case cN => k_asm); (case cT => k_asm); (case ck => rfl); (case ctb => first | k_asm | exact TB.sub (by assumption) (by k_extra "sub")); (case cd => k_room); (case cu => k_units); (case e0 => exact IsF.sub (by assumption) (by k_extra "sub")); (case e1 => k_asm); k_whole) | (refine' pow3_c ?cB ?cF ?cX ?cN ?cT ?ck ?ctb ?cd ?cu ?e0 ?e1 ?_; (case cB => k_asm); (case cF => k_asm); (case cX => k_asm); (case cN => k_asm); (case cT => k_asm); (case ck => rfl); (case ctb => first | k_asm | exact TB.sub (by assumption) (by k_extra "sub")); (case cd => k_room); (case cu => k_units); (case e0 => exact IsF.sub (by assumption) (by k_extra "sub")); (case e1 => k_asm); k_whole)); intro zq9' sq9' newsq9' Fq9' srq9' Nq9' subq9' fqq9'; obtain ⟨dzq9', ozq9', hz1q9', hz2q9'⟩ := IsFQ.inst fqq9'; (try dsimp only [W.CmpBack]))
  trivial
theorem load_call11 : True := by
  k_with "my call" => (k_dflt (first | (refine' double_c ?cB ?cF ?cX ?cN ?cT ?ck ?ctb ?cd ?cu ?e0 ?e1 ?_; (case cB => k_asm); (case cF => k_asm); (case cX => k_asm); (case cN => k_asm); (case cT => k_asm); (case ck => rfl); (case ctb => first | k_asm | exact TB.sub (by assumption) (by k_extra "sub")); (case cd => k_room); (case cu => k_units); (case e0 => exact IsPt.sub (by assumption) (by k_extra "sub")); (case e1 => k_asm); k_whole)); intro zq9' sq9' newsq9' Fq9' srq9' Nq9' subq9' ptq9'; (try dsimp only [W.CmpBack]))
  trivial
theorem add_c {w : World} {mean : ExcName → Option Value} {mg mb : Str → Option Value} {dp un : Nat} {gd : Option (List Code)} {cn : Str} {cs : Scope} {a : Addr} {ccd : Value} {cl : List (Str × Addr)} {outer : List Env} {A₀ : Around} {base h₀ : Heap} {L : Addr} {m : Str → Option Value} {s : Shared} {Q E : Value → Shared → Prop} {news : Led} {t u : Addr} {P P' : P3} {p : Int}
   (B : Below A₀ base outer h₀) (F : Fr h₀ L s.heap m) (X : (KX w.params).In h₀) (N : News h₀ L s.heap news) (T : Top topProg LO mean mg mb h₀) (hk : cs.kind = .function) (tb : TB news) (hd : dp + 80 < recursionLimit) (hu : un + 800 < cLine)
   (ht : IsPt w.params p news t P) (hv : IsPt w.params p news u P') (hb : PB p)
   (ret : ∀ z s' news', Fr h₀ L s'.heap m → SR s s' → News h₀ L s'.heap news' → Sub news news' → IsPt w.params p news' z (padd p P P') → Q (.ref z) s') :
   wpAny (model Challenge.rw_ll0049_01.row.prog w) (ktrTop dp un gd cn cs L a ccd cl outer) (call (.ref 49) [.ref t, .ref u]) Q E s := by
  have hp := hb.1
  have ht' := ht
  obtain ⟨ax, ay, az, an, htt, htx, hty, htz⟩ := ht'
  have htx' := htx
  obtain ⟨qd, qmc, qmt, qcf, qmo, qk1, qk2, qk3, qk4, qk5, qtp, qtd, qn1, qn2, qn3, qn4, qt1, qt2, qt3, qt4, qt5, qt6, hq1, hq2, hq3, hq4, hq5, hq6, hq7⟩ := htx'
  obtain ⟨_, _, hty1, hty2⟩ := IsFQ.inst hty
  obtain ⟨_, _, htz1, htz2⟩ := IsFQ.inst htz
  have hv' := hv
  obtain ⟨ex, ey, ez, en, hvt, hvx, hvy, hvz⟩ := hv'
  obtain ⟨_, _, hvx1, hvx2⟩ := IsFQ.inst hvx
  obtain ⟨_, _, hvy1, hvy2⟩ := IsFQ.inst hvy
  obtain ⟨_, _, hvz1, hvz2⟩ := IsFQ.inst hvz
  refine wpAny_call ?_
  (k_dflt cell_enter); k_extra "nameA"
  (iterate 45 k_extra "wsf")
  rename (_ = true ↔ _) => e1
  refine ite_split (fun c1 => ?_) (fun c1 => ?_) <;> rw [e1] at c1
  · (iterate 10 k_extra "wsf")
    (iterate 3 k_extra "wsf")
    rename (_ = true ↔ _) => e2
    refine ite_split (fun c2 => ?_) (fun c2 => ?_) <;> rw [e2] at c2
    · (iterate 1 k_extra "wsf")
      k_extra "leave"
      refine ret _ _ _ kF (by k_extra "sr") kN (by k_extra "sub") ?_
      rw [show padd p P P' = P by simp only [padd, c1, c2, or_self, if_true]]
      exact IsPt.sub ht (by k_extra "sub")
    · (iterate 1 k_extra "wsf")
      k_extra "leave"
      refine ret _ _ _ kF (by k_extra "sr") kN (by k_extra "sub") ?_
      rw [show padd p P P' = P' by simp only [padd, c1, true_or, if_true, if_neg c2]]
      exact IsPt.sub hv (by k_extra "sub")
  (iterate 7 k_extra "wsf")
  (iterate 3 k_extra "wsf")
  rename (_ = true ↔ _) => e2
  refine ite_split (fun c2 => ?_) (fun c2 => ?_) <;> rw [e2] at c2
  · (iterate 10 k_extra "wsf")
    (iterate 3 k_extra "wsf")
    rename (_ = true ↔ _) => e3
    refine ite_split (fun c3 => ?_) (fun c3 => ?_) <;> rw [e3] at c3
    · (iterate 1 k_extra "wsf")
      k_extra "leave"
      refine ret _ _ _ kF (by k_extra "sr") kN (by k_extra "sub") ?_
      rw [show padd p P P' = P by simp only [padd, c2, or_true, if_true]]
      exact IsPt.sub ht (by k_extra "sub")
    · exact absurd c2 c3
  have c12 : ¬ (P.2.2 = (0, 0) ∨ P'.2.2 = (0, 0)) := fun q => q.elim c1 c2
  (iterate 75 k_extra "wsf")
  (iterate 3 k_extra "wsf")
  rename (_ = true ↔ _) => e4
  refine ite_split (fun c4 => ?_) (fun c4 => ?_) <;> rw [e4] at c4
  · (iterate 4 k_extra "wsf")
    (iterate 3 k_extra "wsf")
    rename (_ = true ↔ _) => e5
    refine ite_split (fun c5 => ?_) (fun c5 => ?_) <;> rw [e5] at c5
    · (iterate 12 k_extra "wsf")
      k_extra "leave"
      refine ret _ _ _ kF (by k_extra "sr") kN (by k_extra "sub") ?_
      rw [show padd p P P' = pdbl p P by simp only [padd, if_neg c12]; rw [if_pos ⟨c4, c5⟩]]
      exact IsPt.sub (by assumption) (by k_extra "sub")
    (iterate 6 k_extra "wsf")
    (iterate 3 k_extra "wsf")
    rename (_ = true ↔ _) => e6
    refine ite_split (fun c6 => ?_) (fun c6 => ?_) <;> rw [e6] at c6
    · (iterate 11 k_extra "wsf")
      k_extra "leave"
      refine ret _ _ _ kF (by k_extra "sr") kN (by k_extra "sub") ?_
      rw [show padd p P P' = (fone p, fone p, (0, 0)) by simp only [padd, if_neg c12]; rw [if_neg fun q => c5 q.2, if_pos c4]]
      refine ⟨_, _, _, _, by k_mem, ?_, ?_, ?_⟩ <;> exact IsF.sub (by assumption) (by k_extra "sub")
    · exact absurd c4 c6
  (iterate 6 k_extra "wsf")
  (iterate 3 k_extra "wsf")
  rename (_ = true ↔ _) => e6
  refine ite_split (fun c6 => ?_) (fun c6 => ?_) <;> rw [e6] at c6
  · exact absurd c6 c4
  (iterate 131 k_extra "wsf")
  k_extra "leave"
  refine ret _ _ _ kF (by k_extra "sr") kN (by k_extra "sub") ?_
  rw [show padd p P P' = paddG p (fsub p (fmul p P'.2.1 P.2.2) (fmul p P.2.1 P'.2.2)) (fsub p (fmul p P'.1 P.2.2) (fmul p P.1 P'.2.2)) (fmul p P.1 P'.2.2) (fmul p P.2.1 P'.2.2) (fmul p P.2.2 P'.2.2) by simp only [padd, if_neg c12]; rw [if_neg fun q => c4 q.1, if_neg fun q => c4 q]]
  refine ⟨_, _, _, _, by k_mem, ?_, ?_, ?_⟩ <;> exact IsF.sub (by assumption) (by k_extra "sub")

-- C13
theorem load_call13 : True := by
  k_with "my call" => (k_dflt (first | (refine' eq_c ?cB ?cF ?cX ?cN ?cT ?ck ?ctb ?cd ?cu ?e0 ?e1 ?_; (case cB => k_asm); (case cF => k_asm); (case cX => k_asm); (case cN => k_asm); (case cT => k_asm); (case ck => rfl); (case ctb => first | k_asm | exact TB.sub (by assumption) (by k_extra "sub")); (case cd => k_room); (case cu => k_units); (case e0 => exact IsF.sub (by assumption) (by k_extra "sub")); (case e1 => exact IsF.sub (by assumption) (by k_extra "sub")); k_whole)); intro rq9' sq9' newsq9' Fq9' srq9' Nq9' subq9' hrq9'; (try dsimp only [W.CmpBack]))
  trivial
theorem load_call15 : True := by
  k_with "my call" => (k_dflt (first | (refine' zero_c ?cB ?cF ?cX ?cN ?cT ?ck ?ctb ?cd ?cu ?e0 ?e1 ?_; (case cB => k_asm); (case cF => k_asm); (case cX => k_asm); (case cN => k_asm); (case cT => k_asm); (case ck => rfl); (case ctb => first | k_asm | exact TB.sub (by assumption) (by k_extra "sub")); (case cd => k_room); (case cu => k_units); (case e0 => exact IsF.sub (by assumption) (by k_extra "sub")); (case e1 => k_asm); k_whole) | (refine' one_c ?cB ?cF ?cX ?cN ?cT ?ck ?ctb ?cd ?cu ?e0 ?e1 ?_; (case cB => k_asm); (case cF => k_asm); (case cX => k_asm); (case cN => k_asm); (case cT => k_asm); (case ck => rfl); (case ctb => first | k_asm | exact TB.sub (by assumption) (by k_extra "sub")); (case cd => k_room); (case cu => k_units); (case e0 => exact IsF.sub (by assumption) (by k_extra "sub")); (case e1 => k_asm); k_whole) | (refine' neg_c ?cB ?cF ?cX ?cN ?cT ?ck ?ctb ?cd ?cu ?e0 ?e1 ?_; (case cB => k_asm); (case cF => k_asm); (case cX => k_asm); (case cN => k_asm); (case cT => k_asm); (case ck => rfl); (case ctb => first | k_asm | exact TB.sub (by assumption) (by k_extra "sub")); (case cd => k_room); (case cu => k_units); (case e0 => exact IsF.sub (by assumption) (by k_extra "sub")); (case e1 => k_asm); k_whole) | (refine' sub_c ?cB ?cF ?cX ?cN ?cT ?ck ?ctb ?cd ?cu ?e0 ?e1 ?e2 ?_; (case cB => k_asm); (case cF => k_asm); (case cX => k_asm); (case cN => k_asm); (case cT => k_asm); (case ck => rfl); (case ctb => first | k_asm | exact TB.sub (by assumption) (by k_extra "sub")); (case cd => k_room); (case cu => k_units); (case e0 => exact IsF.sub (by assumption) (by k_extra "sub")); (case e1 => exact IsF.sub (by assumption) (by k_extra "sub")); (case e2 => k_asm); k_whole) | (refine' mul_c ?cB ?cF ?cX ?cN ?cT ?ck ?ctb ?cd ?cu ?e0 ?e1 ?e2 ?_; (case cB => k_asm); (case cF => k_asm); (case cX => k_asm); (case cN => k_asm); (case cT => k_asm); (case ck => rfl); (case ctb => first | k_asm | exact TB.sub (by assumption) (by k_extra "sub")); (case cd => k_room); (case cu => k_units); (case e0 => exact IsF.sub (by assumption) (by k_extra "sub")); (case e1 => exact IsF.sub (by assumption) (by k_extra "sub")); (case e2 => k_asm); k_whole) | (refine' rmul_c ?cB ?cF ?cX ?cN ?cT ?ck ?ctb ?cd ?cu ?e0 ?e1 ?e2 ?_; (case cB => k_asm); (case cF => k_asm); (case cX => k_asm); (case cN => k_asm); (case cT => k_asm); (case ck => rfl); (case ctb => first | k_asm | exact TB.sub (by assumption) (by k_extra "sub")); (case cd => k_room); (case cu => k_units); (case e0 => exact IsF.sub (by assumption) (by k_extra "sub")); (case e1 => exact Bd.small (by decide)); (case e2 => k_asm); k_whole) | (refine' pow2_c ?cB ?cF ?cX ?cN ?cT ?ck ?ctb ?cd ?cu ?e0 ?e1 ?_; (case cB => k_asm); (case cF => k_asm); (case cX => k_asm); (case cN => k_asm); (case cT => k_asm); (case ck => rfl); (case ctb => first | k_asm | exact TB.sub (by assumption) (by k_extra "sub")); (case cd => k_room); (case cu => k_units); (case e0 => exact IsF.sub (by assumption) (by k_extra "sub")); (case e1 => k_asm); k_whole) | (refine' pow3_c ?cB ?cF ?cX ?cN ?cT ?ck ?ctb ?cd ?cu ?e0 ?e1 ?_; (case cB => k_asm); (case cF => k_asm); (case cX => k_asm); (case cN => k_asm); (case cT => k_asm); (case ck => rfl); (case ctb => first | k_asm | exact TB.sub (by assumption) (by k_extra "sub")); (case cd => k_room); (case cu => k_units); (case e0 => exact IsF.sub (by assumption) (by k_extra "sub")); (case e1 => k_asm); k_whole)); intro zq9' sq9' newsq9' Fq9' srq9' Nq9' subq9' fqq9'; obtain ⟨dzq9', ozq9', hz1q9', hz2q9'⟩ := IsFQ.inst fqq9'; (try dsimp only [W.CmpBack]))
  trivial
theorem is_inf_c {w : World} {mean : ExcName → Option Value} {mg mb : Str → Option Value} {dp un : Nat} {gd : Option (List Code)} {cn : Str} {cs : Scope} {a : Addr} {ccd : Value} {cl : List (Str × Addr)} {outer : List Env} {A₀ : Around} {base h₀ : Heap} {L : Addr} {m : Str → Option Value} {s : Shared} {Q E : Value → Shared → Prop} {news : Led} {t : Addr} {P : P3} {p : Int}
   (B : Below A₀ base outer h₀) (F : Fr h₀ L s.heap m) (X : (KX w.params).In h₀) (N : News h₀ L s.heap news) (T : Top topProg LO mean mg mb h₀) (hk : cs.kind = .function) (tb : TB news) (hd : dp + 60 < recursionLimit) (hu : un + 600 < cLine)
   (ht : IsPt w.params p news t P) (hb : PB p)
   (ret : ∀ (r : Bool) s' news', Fr h₀ L s'.heap m → SR s s' → News h₀ L s'.heap news' → Sub news news' → (r = true ↔ P.2.2 = (0, 0)) → Q (.bool r) s') :
   wpAny (model Challenge.rw_ll0049_01.row.prog w) (ktrTop dp un gd cn cs L a ccd cl outer) (call (.ref 28) [.ref t]) Q E s := by
  have hp := hb.1
  have ht' := ht
  obtain ⟨ax, ay, az, an, htt, htx, hty, htz⟩ := ht'
  obtain ⟨_, _, htx1, htx2⟩ := IsFQ.inst htx
  obtain ⟨_, _, hty1, hty2⟩ := IsFQ.inst hty
  have htz' := htz
  obtain ⟨qd, qmc, qmt, qcf, qmo, qk1, qk2, qk3, qk4, qk5, qtp, qtd, qn1, qn2, qn3, qn4, qt1, qt2, qt3, qt4, qt5, qt6, hq1, hq2, hq3, hq4, hq5, hq6, hq7⟩ := htz'
  refine wpAny_call ?_
  (k_dflt cell_enter); k_extra "nameA"
  (iterate 22 k_extra "wsf")
  k_extra "leave"
  exact ret _ _ _ kF (by k_extra "sr") kN (by k_extra "sub") (by assumption)
theorem ceq_c {w : World} {mean : ExcName → Option Value} {mg mb : Str → Option Value} {dp un : Nat} {gd : Option (List Code)} {cn : Str} {cs : Scope} {a : Addr} {ccd : Value} {cl : List (Str × Addr)} {outer : List Env} {A₀ : Around} {base h₀ : Heap} {L : Addr} {m : Str → Option Value} {s : Shared} {Q E : Value → Shared → Prop} {news : Led} {t u : Addr} {P P' : P3} {p : Int}
   (B : Below A₀ base outer h₀) (F : Fr h₀ L s.heap m) (X : (KX w.params).In h₀) (N : News h₀ L s.heap news) (T : Top topProg LO mean mg mb h₀) (hk : cs.kind = .function) (tb : TB news) (hd : dp + 60 < recursionLimit) (hu : un + 600 < cLine)
   (ht : IsPt w.params p news t P) (hv : IsPt w.params p news u P') (hb : PB p)
   (ret : ∀ (r : Bool) s' news', Fr h₀ L s'.heap m → SR s s' → News h₀ L s'.heap news' → Sub news news' → (r = true ↔ fmul p P.1 P'.2.2 = fmul p P'.1 P.2.2 ∧ fmul p P.2.1 P'.2.2 = fmul p P'.2.1 P.2.2) → Q (.bool r) s') :
   wpAny (model Challenge.rw_ll0049_01.row.prog w) (ktrTop dp un gd cn cs L a ccd cl outer) (call (.ref 56) [.ref t, .ref u]) Q E s := by
  have hp := hb.1
  have ht' := ht
  obtain ⟨ax, ay, az, an, htt, htx, hty, htz⟩ := ht'
  obtain ⟨_, _, htx1, htx2⟩ := IsFQ.inst htx
  obtain ⟨_, _, hty1, hty2⟩ := IsFQ.inst hty
  obtain ⟨_, _, htz1, htz2⟩ := IsFQ.inst htz
  have hv' := hv
  obtain ⟨ex, ey, ez, en, hvt, hvx, hvy, hvz⟩ := hv'
  obtain ⟨_, _, hvx1, hvx2⟩ := IsFQ.inst hvx
  obtain ⟨_, _, hvy1, hvy2⟩ := IsFQ.inst hvy
  obtain ⟨_, _, hvz1, hvz2⟩ := IsFQ.inst hvz
  refine wpAny_call ?_
  (k_dflt cell_enter); k_extra "nameA"
  (iterate 48 k_extra "wsf")
  rename (_ = true ↔ _) => e1
  refine ite_split (fun c1 => ?_) (fun c1 => ?_) <;> rw [e1] at c1
  · (iterate 14 k_extra "wsf")
    rename (_ = true ↔ _) => e2
    k_extra "leave"
    exact ret _ _ _ kF (by k_extra "sr") kN (by k_extra "sub") (by rw [e2]; simp [c1])
  · skip
    k_extra "leave"
    refine ret _ _ _ kF (by k_extra "sr") kN (by k_extra "sub") ?_
    simp [e1, c1]
theorem load_call14 : True := by
  k_with "my call" => (k_dflt (first | (refine' is_inf_c ?cB ?cF ?cX ?cN ?cT ?ck ?ctb ?cd ?cu ?e0 ?e1 ?_; (case cB => k_asm); (case cF => k_asm); (case cX => k_asm); (case cN => k_asm); (case cT => k_asm); (case ck => rfl); (case ctb => first | k_asm | exact TB.sub (by assumption) (by k_extra "sub")); (case cd => k_room); (case cu => k_units); (case e0 => exact IsPt.sub (by assumption) (by k_extra "sub")); (case e1 => k_asm); k_whole)); intro rq9' sq9' newsq9' Fq9' srq9' Nq9' subq9' hrq9'; (try dsimp only [W.CmpBack]))
  trivial
theorem on_curve_c {w : World} {mean : ExcName → Option Value} {mg mb : Str → Option Value} {dp un : Nat} {gd : Option (List Code)} {cn : Str} {cs : Scope} {a : Addr} {ccd : Value} {cl : List (Str × Addr)} {outer : List Env} {A₀ : Around} {base h₀ : Heap} {L : Addr} {m : Str → Option Value} {s : Shared} {Q E : Value → Shared → Prop} {news : Led} {t y' : Addr} {P : P3} {c : F2} {p : Int}
   (B : Below A₀ base outer h₀) (F : Fr h₀ L s.heap m) (X : (KX w.params).In h₀) (N : News h₀ L s.heap news) (T : Top topProg LO mean mg mb h₀) (hk : cs.kind = .function) (tb : TB news) (hd : dp + 80 < recursionLimit) (hu : un + 800 < cLine)
   (ht : IsPt w.params p news t P) (hc : IsF w.params p news y' c) (hb : PB p)
   (ret : ∀ (r : Bool) s' news', Fr h₀ L s'.heap m → SR s s' → News h₀ L s'.heap news' → Sub news news' → (r = true ↔ P.2.2 = (0, 0) ∨ fsub p (fmul p (fpow2 p P.2.1) P.2.2) (fpow3 p P.1) = fmul p c (fpow3 p P.2.2)) → Q (.bool r) s') :
   wpAny (model Challenge.rw_ll0049_01.row.prog w) (ktrTop dp un gd cn cs L a ccd cl outer) (call (.ref 35) [.ref t, .ref y']) Q E s := by
  have hp := hb.1
  have ht' := ht
  obtain ⟨ax, ay, az, an, htt, htx, hty, htz⟩ := ht'
  obtain ⟨_, _, htx1, htx2⟩ := IsFQ.inst htx
  obtain ⟨_, _, hty1, hty2⟩ := IsFQ.inst hty
  obtain ⟨_, _, htz1, htz2⟩ := IsFQ.inst htz
  obtain ⟨_, _, hc1, hc2⟩ := IsFQ.inst hc
  refine wpAny_call ?_
  (k_dflt cell_enter); k_extra "nameA"
  (iterate 13 k_extra "wsf")
  rename (_ = true ↔ _) => e1
  refine ite_split (fun c1 => ?_) (fun c1 => ?_) <;> rw [e1] at c1
  · (iterate 3 k_extra "wsf")
    k_extra "leave"
    exact ret _ _ _ kF (by k_extra "sr") kN (by k_extra "sub") (by simp [c1])
  · (iterate 47 k_extra "wsf")
    rename (_ = true ↔ _) => e2
    k_extra "leave"
    exact ret _ _ _ kF (by k_extra "sr") kN (by k_extra "sub") (by rw [e2]; simp [c1])

-- D1
theorem times_c {w : World} {mean : ExcName → Option Value} {mg mb : Str → Option Value} {dp un : Nat} {gd : Option (List Code)} {cn : Str} {cs : Scope} {a : Addr} {ccd : Value} {cl : List (Str × Addr)} {outer : List Env} {A₀ : Around} {base h₀ : Heap} {L : Addr} {m : Str → Option Value} {s : Shared} {Q E : Value → Shared → Prop} {news : Led} {x y : Addr} {u v : F2} {p : Int} {c1 c2 : Nat} {t1 t2 t3 t4 tp : Tok}
   (B : Below A₀ base outer h₀) (F : Fr h₀ L s.heap m) (X : (KX w.params).In h₀) (N : News h₀ L s.heap news) (T : Top topProg LO mean mg mb h₀) (hk : cs.kind = .function) (hd : dp + 40 < recursionLimit) (hu : un + 400 < cLine)
   (hx : (x, tupO [.int u.1 t1, .int u.2 t2] c1) ∈ news) (hy : (y, tupO [.int v.1 t3, .int v.2 t4] c2) ∈ news) (hu1 : Bd 800 u.1) (hu2 : Bd 800 u.2) (hv1 : Bd 800 v.1) (hv2 : Bd 800 v.2) (hb : PB p)
   (ret : ∀ z h' tk' news' k1 k2, Fr h₀ L h' m → News h₀ L h' news' → Sub news news' → (z, tupO [.int (fmul p u v).1 k1, .int (fmul p u v).2 k2] 0) ∈ news' → Q (.ref z) { s with heap := h', toks := tk' }) :
   wpAny (model Challenge.rw_ll0049_01.row.prog w) (ktrTop dp un gd cn cs L a ccd cl outer) (call (.ref 248) [.ref x, .ref y, .int p tp]) Q E s := by
  have hp := hb.1
  refine wpAny_call ?_
  (k_dflt cell_enter); k_extra "nameA"
  (iterate 58 k_extra "wsf")
  k_extra "leave"
  exact ret _ _ _ _ _ _ kF kN (by k_extra "sub") (by k_mem)
theorem less_c {w : World} {mean : ExcName → Option Value} {mg mb : Str → Option Value} {dp un : Nat} {gd : Option (List Code)} {cn : Str} {cs : Scope} {a : Addr} {ccd : Value} {cl : List (Str × Addr)} {outer : List Env} {A₀ : Around} {base h₀ : Heap} {L : Addr} {m : Str → Option Value} {s : Shared} {Q E : Value → Shared → Prop} {news : Led} {x y : Addr} {u v : F2} {p : Int} {c1 c2 : Nat} {t1 t2 t3 t4 tp : Tok}
   (B : Below A₀ base outer h₀) (F : Fr h₀ L s.heap m) (X : (KX w.params).In h₀) (N : News h₀ L s.heap news) (T : Top topProg LO mean mg mb h₀) (hk : cs.kind = .function) (hd : dp + 40 < recursionLimit) (hu : un + 400 < cLine)
   (hx : (x, tupO [.int u.1 t1, .int u.2 t2] c1) ∈ news) (hy : (y, tupO [.int v.1 t3, .int v.2 t4] c2) ∈ news) (hb : PB p)
   (ret : ∀ z h' tk' news' k1 k2, Fr h₀ L h' m → News h₀ L h' news' → Sub news news' → (z, tupO [.int (fsub p u v).1 k1, .int (fsub p u v).2 k2] 0) ∈ news' → Q (.ref z) { s with heap := h', toks := tk' }) :
   wpAny (model Challenge.rw_ll0049_01.row.prog w) (ktrTop dp un gd cn cs L a ccd cl outer) (call (.ref 255) [.ref x, .ref y, .int p tp]) Q E s := by
  have hp := hb.1
  refine wpAny_call ?_
  (k_dflt cell_enter); k_extra "nameA"
  (iterate 34 k_extra "wsf")
  k_extra "leave"
  exact ret _ _ _ _ _ _ kF kN (by k_extra "sub") (by k_mem)

-- D2
theorem over_c {w : World} {mean : ExcName → Option Value} {mg mb : Str → Option Value} {dp un : Nat} {gd : Option (List Code)} {cn : Str} {cs : Scope} {a : Addr} {ccd : Value} {cl : List (Str × Addr)} {outer : List Env} {A₀ : Around} {base h₀ : Heap} {L : Addr} {m : Str → Option Value} {s : Shared} {Q E : Value → Shared → Prop} {news : Led} {x : Addr} {u : F2} {p : Int} {c1 : Nat} {t1 t2 tp : Tok}
   (B : Below A₀ base outer h₀) (F : Fr h₀ L s.heap m) (X : (KX w.params).In h₀) (N : News h₀ L s.heap news) (T : Top topProg LO mean mg mb h₀) (hk : cs.kind = .function) (hd : dp + 40 < recursionLimit) (hu : un + 400 < cLine)
   (hx : (x, tupO [.int u.1 t1, .int u.2 t2] c1) ∈ news) (hu1 : Bd 800 u.1) (hu2 : Bd 800 u.2) (hb : PB p) (hp1 : 1 < p)
   (ret : ∀ z h' tk' news' k1 k2, Fr h₀ L h' m → News h₀ L h' news' → Sub news news' → (z, tupO [.int (fover p u).1 k1, .int (fover p u).2 k2] 0) ∈ news' → Q (.ref z) { s with heap := h', toks := tk' }) :
   wpAny (model Challenge.rw_ll0049_01.row.prog w) (ktrTop dp un gd cn cs L a ccd cl outer) (call (.ref 262) [.ref x, .int p tp]) Q E s := by
  have hp := hb.1
  refine wpAny_call ?_
  (k_dflt cell_enter); k_extra "nameA"
  (iterate 66 k_extra "wsf")
  k_extra "leave"
  exact ret _ _ _ _ _ _ kF kN (by k_extra "sub") (by k_mem)

-- D1q
theorem times_q {w : World} {mean : ExcName → Option Value} {mg mb : Str → Option Value} {dp un : Nat} {gd : Option (List Code)} {cn : Str} {cs : Scope} {a : Addr} {ccd : Value} {cl : List (Str × Addr)} {outer : List Env} {A₀ : Around} {base h₀ : Heap} {L : Addr} {m : Str → Option Value} {s : Shared} {Q E : Value → Shared → Prop} {news : Led} {x y : Addr} {a₁ a₂ b₁ b₂ : Int} {p : Int} {c1 c2 : Nat} {t1 t2 t3 t4 tp : Tok}
   (B : Below A₀ base outer h₀) (F : Fr h₀ L s.heap m) (X : (KX w.params).In h₀) (N : News h₀ L s.heap news) (T : Top topProg LO mean mg mb h₀) (hk : cs.kind = .function) (hd : dp + 40 < recursionLimit) (hu : un + 400 < cLine)
   (hx : (x, tupO [.int a₁ t1, .int a₂ t2] c1) ∈ news) (hy : (y, tupO [.int b₁ t3, .int b₂ t4] c2) ∈ news) (hu1 : Bd 800 a₁) (hu2 : Bd 800 a₂) (hv1 : Bd 800 b₁) (hv2 : Bd 800 b₂) (hb : PB p)
   (ret : ∀ z h' tk' news' k1 k2, Fr h₀ L h' m → News h₀ L h' news' → Sub news news' → (z, tupO [.int (fmul p (a₁, a₂) (b₁, b₂)).1 k1, .int (fmul p (a₁, a₂) (b₁, b₂)).2 k2] 0) ∈ news' → Q (.ref z) { s with heap := h', toks := tk' }) :
   wpAny (model Challenge.rw_ll0049_01.row.prog w) (ktrTop dp un gd cn cs L a ccd cl outer) (call (.ref 248) [.ref x, .ref y, .int p tp]) Q E s :=
  times_c (u := (a₁, a₂)) (v := (b₁, b₂)) B F X N T hk hd hu hx hy hu1 hu2 hv1 hv2 hb ret
theorem less_q {w : World} {mean : ExcName → Option Value} {mg mb : Str → Option Value} {dp un : Nat} {gd : Option (List Code)} {cn : Str} {cs : Scope} {a : Addr} {ccd : Value} {cl : List (Str × Addr)} {outer : List Env} {A₀ : Around} {base h₀ : Heap} {L : Addr} {m : Str → Option Value} {s : Shared} {Q E : Value → Shared → Prop} {news : Led} {x y : Addr} {a₁ a₂ b₁ b₂ : Int} {p : Int} {c1 c2 : Nat} {t1 t2 t3 t4 tp : Tok}
   (B : Below A₀ base outer h₀) (F : Fr h₀ L s.heap m) (X : (KX w.params).In h₀) (N : News h₀ L s.heap news) (T : Top topProg LO mean mg mb h₀) (hk : cs.kind = .function) (hd : dp + 40 < recursionLimit) (hu : un + 400 < cLine)
   (hx : (x, tupO [.int a₁ t1, .int a₂ t2] c1) ∈ news) (hy : (y, tupO [.int b₁ t3, .int b₂ t4] c2) ∈ news) (hb : PB p)
   (ret : ∀ z h' tk' news' k1 k2, Fr h₀ L h' m → News h₀ L h' news' → Sub news news' → (z, tupO [.int (fsub p (a₁, a₂) (b₁, b₂)).1 k1, .int (fsub p (a₁, a₂) (b₁, b₂)).2 k2] 0) ∈ news' → Q (.ref z) { s with heap := h', toks := tk' }) :
   wpAny (model Challenge.rw_ll0049_01.row.prog w) (ktrTop dp un gd cn cs L a ccd cl outer) (call (.ref 255) [.ref x, .ref y, .int p tp]) Q E s :=
  less_c (u := (a₁, a₂)) (v := (b₁, b₂)) B F X N T hk hd hu hx hy hb ret
theorem over_q {w : World} {mean : ExcName → Option Value} {mg mb : Str → Option Value} {dp un : Nat} {gd : Option (List Code)} {cn : Str} {cs : Scope} {a : Addr} {ccd : Value} {cl : List (Str × Addr)} {outer : List Env} {A₀ : Around} {base h₀ : Heap} {L : Addr} {m : Str → Option Value} {s : Shared} {Q E : Value → Shared → Prop} {news : Led} {x : Addr} {a₁ a₂ : Int} {p : Int} {c1 : Nat} {t1 t2 tp : Tok}
   (B : Below A₀ base outer h₀) (F : Fr h₀ L s.heap m) (X : (KX w.params).In h₀) (N : News h₀ L s.heap news) (T : Top topProg LO mean mg mb h₀) (hk : cs.kind = .function) (hd : dp + 40 < recursionLimit) (hu : un + 400 < cLine)
   (hx : (x, tupO [.int a₁ t1, .int a₂ t2] c1) ∈ news) (hu1 : Bd 800 a₁) (hu2 : Bd 800 a₂) (hb : PB p) (hp1 : 1 < p)
   (ret : ∀ z h' tk' news' k1 k2, Fr h₀ L h' m → News h₀ L h' news' → Sub news news' → (z, tupO [.int (fover p (a₁, a₂)).1 k1, .int (fover p (a₁, a₂)).2 k2] 0) ∈ news' → Q (.ref z) { s with heap := h', toks := tk' }) :
   wpAny (model Challenge.rw_ll0049_01.row.prog w) (ktrTop dp un gd cn cs L a ccd cl outer) (call (.ref 262) [.ref x, .int p tp]) Q E s :=
  over_c (u := (a₁, a₂)) B F X N T hk hd hu hx hu1 hu2 hb hp1 ret

-- D3
theorem load_call16 : True := by
  k_with "my call" => (k_dflt (first | (refine' times_q ?cB ?cF ?cX ?cN ?cT ?ck ?cd ?cu ?e0 ?e1 ?e2 ?e3 ?e4 ?e5 ?e6 ?_; (case cB => k_asm); (case cF => k_asm); (case cX => k_asm); (case cN => k_asm); (case cT => k_asm); (case ck => rfl); (case cd => k_room); (case cu => k_units); (case e0 => k_mem); (case e1 => k_mem); (case e2 => (refine' Bd.mono ?bmA ?bmB; (case bmA => k_extra "bd"); (case bmB => decide))); (case e3 => (refine' Bd.mono ?bmA ?bmB; (case bmA => k_extra "bd"); (case bmB => decide))); (case e4 => (refine' Bd.mono ?bmA ?bmB; (case bmA => k_extra "bd"); (case bmB => decide))); (case e5 => (refine' Bd.mono ?bmA ?bmB; (case bmA => k_extra "bd"); (case bmB => decide))); (case e6 => k_asm); k_whole)); intro zq9' hq9' tkq9' newsq9' k1q9' k2q9' Fq9' Nq9' subq9' tpq9')
  trivial
theorem ItemsRest.repV {prog : Program} {w : World} {A : Around} {E : Value → Shared → Prop} {s : Shared} {h₀ : Heap} {env : Env} {target : Expr} {body : List Stmt} {Q : Flow → Shared → Prop} {ws : List (Addr × String)} {keep news : List (Addr × Obj)} (I : (Str → Option Value) → Prop) (P : Value → Prop)
    (turn : ∀ v m r, P v → I m → (∀ m', I m' → ItemsRest prog w A E h₀ env target body Q s ws keep r m' news) → ItemsRest prog w A E h₀ env target body Q s ws keep (.val v :: r) m news)
    (fin : ∀ m, I m → ItemsRest prog w A E h₀ env target body Q s ws keep [] m news) :
    ∀ (l : List Value), (∀ v ∈ l, P v) → ∀ m, I m → ItemsRest prog w A E h₀ env target body Q s ws keep (l.map Itm.val) m news
  | [], _, m, h => fin m h
  | v :: l, hl, m, h => turn v m _ (hl v (List.Mem.head _)) h fun m' h' => ItemsRest.repV I P turn fin l (fun v hv => hl v (List.Mem.tail _ hv)) m' h'
theorem root_c {w : World} {mean : ExcName → Option Value} {mg mb : Str → Option Value} {dp un : Nat} {gd : Option (List Code)} {cn : Str} {cs : Scope} {a : Addr} {ccd : Value} {cl : List (Str × Addr)} {outer : List Env} {A₀ : Around} {base h₀ : Heap} {L : Addr} {m : Str → Option Value} {s : Shared} {Q E : Value → Shared → Prop} {news : Led} {x : Addr} {u : F2} {p : Int} {c1 : Nat} {t1 t2 tp : Tok}
   (B : Below A₀ base outer h₀) (F : Fr h₀ L s.heap m) (X : (KX w.params).In h₀) (N : News h₀ L s.heap news) (T : Top topProg LO mean mg mb h₀) (hk : cs.kind = .function) (hd : dp + 80 < recursionLimit) (hu : un + 800 < cLine)
   (hx : (x, tupO [.int u.1 t1, .int u.2 t2] c1) ∈ news) (hr : Red p u.1 u.2) (hb : PB p) (hp1 : 1 < p)
   (ret : ∀ v h' tk' news', Fr h₀ L h' m → News h₀ L h' news' → Sub news news' → (v = .none ∨ ∃ z r k1 k2 n, v = .ref z ∧ (z, tupO [.int r.1 k1, .int r.2 k2] n) ∈ news' ∧ Red p r.1 r.2 ∧ fmul p r r = u) → Q v { s with heap := h', toks := tk' }) :
   wpAny (model Challenge.rw_ll0049_01.row.prog w) (ktrTop dp un gd cn cs L a ccd cl outer) (call (.ref 269) [.ref x, .int p tp]) Q E s := by
  have hp := hb.1
  have hu1 := Red.bd0 hb hr
  have hu2 := Red.bd1 hb hr
  refine wpAny_call ?_
  (k_dflt cell_enter); k_extra "nameA"
  (iterate 57 k_extra "wsf")
  k_dflt (refine' For_turns ?f ?_; (case f => k_asm))
  (iterate 31 k_extra "wsf")
  refine iter_tupTurns (vs := [_, _]) rfl (by k_asm) (by k_asm) (by k_mem) rfl rfl ?_
  intro I1 off
  k_lt off
  refine ItemsRest.repV (I := fun m => ∃ X Y Z : Option Value, m = fun z => if z = Str.ofString "pair" then X else if z = Str.ofString "first" then Y else if z = Str.ofString "part" then Z else M' z) (P := fun v => ∃ z t, v = .int z t) ?_ ?_ [_, _] ?_ _ ?_
  · intro v m r hv hI ih
    obtain ⟨z, tz, rfl⟩ := hv
    obtain ⟨X, Y, Z, rfl⟩ := hI
    k_extra "valL"
    k_extra "nameM"
    (iterate 72 k_extra "wsf")
    refine ite_split (fun c1 => ?_) (fun c1 => ?_)
    · (iterate 4 k_extra "wsf")
      k_extra "leave"
      simp only [Bool.and_eq_true, beq_iff_eq, Bool.and_true] at c1
      refine ret _ _ _ _ kF kN (by k_extra "sub") (Or.inr ⟨_, (_, _), _, _, _, rfl, by k_mem, ⟨?_, ?_⟩, Prod.ext c1.1 c1.2⟩)
      · exact powZ_red hp1
      · exact ⟨Int.fmod_nonneg_of_pos _ hp, Int.fmod_lt_of_pos _ hp⟩
    clear c1
    (iterate 2 k_extra "wsf")
    rename Sub _ _ => sb
    refine unr_end (news' := _ :: news) (by k_asm) (by k_asm) (fun q hq => sb q (List.Mem.tail _ hq)) (seps_one ?_) ⟨⟨by exact List.Mem.head _, trivial⟩, ih M' ⟨M' (Str.ofString "pair"), M' (Str.ofString "first"), M' (Str.ofString "part"), ?he⟩⟩
    · k_extra "off"
    clear sb
    case he =>
      funext z
      by_cases h1 : z = Str.ofString "pair"
      · subst h1; rfl
      · by_cases h2 : z = Str.ofString "first"
        · subst h2; rfl
        · by_cases h3 : z = Str.ofString "part"
          · subst h3; rfl
          · simp (zetaDelta := true) only [if_neg h1, if_neg h2, if_neg h3]
  rotate_left
  · intro v hv
    rcases List.mem_cons.mp hv with e | hv
    · exact ⟨_, _, e⟩
    rcases List.mem_cons.mp hv with e | hv
    · exact ⟨_, _, e⟩
    · cases hv
  · refine ⟨none, none, none, ?_⟩
    funext z
    by_cases h1 : z = Str.ofString "pair"
    · subst h1; rfl
    · by_cases h2 : z = Str.ofString "first"
      · subst h2; rfl
      · by_cases h3 : z = Str.ofString "part"
        · subst h3; rfl
        · simp only [if_neg h1, if_neg h2, if_neg h3]
  intro m hI
  obtain ⟨X, Y, Z, rfl⟩ := hI
  k_extra "zeroL"
  (iterate 48 k_extra "wsf")
  refine ite_split (fun c1 => ?_) (fun c1 => ?_)
  · (iterate 1 k_extra "wsf")
    k_extra "leave"
    simp only [Bool.and_eq_true, beq_iff_eq, Bool.and_true] at c1
    refine ret _ _ _ _ kF kN (by k_extra "sub") (Or.inr ⟨_, (_, _), _, _, _, rfl, by k_mem, ⟨?_, ?_⟩, Prod.ext c1.1 c1.2⟩)
    · exact ⟨Int.le_refl _, hp⟩
    · exact powZ_red hp1
  (iterate 1 k_extra "wsf")
  k_extra "leave"
  exact ret _ _ _ _ kF kN (by k_extra "sub") (Or.inl rfl)

-- D4
theorem load_call17 : True := by
  k_with "my call" => (k_dflt (first | (refine' times_q ?cB ?cF ?cX ?cN ?cT ?ck ?cd ?cu ?e0 ?e1 ?e2 ?e3 ?e4 ?e5 ?e6 ?_; (case cB => k_asm); (case cF => k_asm); (case cX => k_asm); (case cN => k_asm); (case cT => k_asm); (case ck => rfl); (case cd => k_room); (case cu => k_units); (case e0 => k_mem); (case e1 => k_mem); (case e2 => (refine' Bd.mono ?bmA ?bmB; (case bmA => k_extra "bd"); (case bmB => decide))); (case e3 => (refine' Bd.mono ?bmA ?bmB; (case bmA => k_extra "bd"); (case bmB => decide))); (case e4 => (refine' Bd.mono ?bmA ?bmB; (case bmA => k_extra "bd"); (case bmB => decide))); (case e5 => (refine' Bd.mono ?bmA ?bmB; (case bmA => k_extra "bd"); (case bmB => decide))); (case e6 => k_asm); k_whole)); intro zq9' hq9' tkq9' newsq9' k1q9' k2q9' Fq9' Nq9' subq9' tpq9')
  trivial
theorem cubed_q {w : World} {mean : ExcName → Option Value} {mg mb : Str → Option Value} {dp un : Nat} {gd : Option (List Code)} {cn : Str} {cs : Scope} {a : Addr} {ccd : Value} {cl : List (Str × Addr)} {outer : List Env} {A₀ : Around} {base h₀ : Heap} {L : Addr} {m : Str → Option Value} {s : Shared} {Q E : Value → Shared → Prop} {news : Led} {x y : Addr} {a₁ a₂ b₁ b₂ : Int} {p : Int} {c1 c2 : Nat} {t1 t2 t3 t4 tp : Tok}
   (B : Below A₀ base outer h₀) (F : Fr h₀ L s.heap m) (X : (KX w.params).In h₀) (N : News h₀ L s.heap news) (T : Top topProg LO mean mg mb h₀) (hk : cs.kind = .function) (hd : dp + 60 < recursionLimit) (hu : un + 600 < cLine)
   (hx : (x, tupO [.int a₁ t1, .int a₂ t2] c1) ∈ news) (hy : (y, tupO [.int b₁ t3, .int b₂ t4] c2) ∈ news) (hu1 : Bd 400 a₁) (hu2 : Bd 400 a₂) (hb : PB p)
   (ret : ∀ z h' tk' news' k1 k2, Fr h₀ L h' m → News h₀ L h' news' → Sub news news' → (z, tupO [.int (fcub p (b₁, b₂) (a₁, a₂)).1 k1, .int (fcub p (b₁, b₂) (a₁, a₂)).2 k2] 0) ∈ news' → Q (.ref z) { s with heap := h', toks := tk' }) :
   wpAny (model Challenge.rw_ll0049_01.row.prog w) (ktrTop dp un gd cn cs L a ccd cl outer) (call (.ref 276) [.ref x, .ref y, .int p tp]) Q E s := by
  have hp := hb.1
  refine wpAny_call ?_
  (k_dflt cell_enter); k_extra "nameA"
  (iterate 61 k_extra "wsf")
  k_extra "leave"
  exact ret _ _ _ _ _ _ kF kN (by k_extra "sub") (by k_mem)

-- D5
theorem root_q {w : World} {mean : ExcName → Option Value} {mg mb : Str → Option Value} {dp un : Nat} {gd : Option (List Code)} {cn : Str} {cs : Scope} {a : Addr} {ccd : Value} {cl : List (Str × Addr)} {outer : List Env} {A₀ : Around} {base h₀ : Heap} {L : Addr} {m : Str → Option Value} {s : Shared} {Q E : Value → Shared → Prop} {news : Led} {x : Addr} {a₁ a₂ : Int} {p : Int} {c1 : Nat} {t1 t2 tp : Tok}
   (B : Below A₀ base outer h₀) (F : Fr h₀ L s.heap m) (X : (KX w.params).In h₀) (N : News h₀ L s.heap news) (T : Top topProg LO mean mg mb h₀) (hk : cs.kind = .function) (hd : dp + 80 < recursionLimit) (hu : un + 800 < cLine)
   (hx : (x, tupO [.int a₁ t1, .int a₂ t2] c1) ∈ news) (hr : RedF p (a₁, a₂)) (hb : PB p) (hp1 : 1 < p)
   (retN : ∀ h' tk' news', Fr h₀ L h' m → News h₀ L h' news' → Sub news news' → Q .none { s with heap := h', toks := tk' })
   (retS : ∀ z r₁ r₂ h' tk' news' k1 k2 n, Fr h₀ L h' m → News h₀ L h' news' → Sub news news' → (z, tupO [.int r₁ k1, .int r₂ k2] n) ∈ news' → RedF p (r₁, r₂) → fmul p (r₁, r₂) (r₁, r₂) = (a₁, a₂) → Q (.ref z) { s with heap := h', toks := tk' }) :
   wpAny (model Challenge.rw_ll0049_01.row.prog w) (ktrTop dp un gd cn cs L a ccd cl outer) (call (.ref 269) [.ref x, .int p tp]) Q E s := by
  refine root_c (u := (a₁, a₂)) B F X N T hk hd hu hx hr hb hp1 fun v h' tk' news' F' N' sb hv => ?_
  rcases hv with e | ⟨z, r, k1, k2, n, e, hz, hr, he⟩
  · rw [e]; exact retN _ _ _ F' N' sb
  · rw [e]; exact retS _ _ _ _ _ _ _ _ _ F' N' sb hz hr he
theorem load_call18 : True := by
  k_with "my call" => (k_dflt (first | (refine' cubed_q ?cB ?cF ?cX ?cN ?cT ?ck ?cd ?cu ?e0 ?e1 ?e2 ?e3 ?e4 ?_; (case cB => k_asm); (case cF => k_asm); (case cX => k_asm); (case cN => k_asm); (case cT => k_asm); (case ck => rfl); (case cd => k_room); (case cu => k_units); (case e0 => k_mem); (case e1 => k_mem); (case e2 => (refine' Bd.mono ?bmA ?bmB; (case bmA => k_extra "bd"); (case bmB => decide))); (case e3 => (refine' Bd.mono ?bmA ?bmB; (case bmA => k_extra "bd"); (case bmB => decide))); (case e4 => k_asm); k_whole) | (refine' less_q ?cB ?cF ?cX ?cN ?cT ?ck ?cd ?cu ?e0 ?e1 ?e2 ?_; (case cB => k_asm); (case cF => k_asm); (case cX => k_asm); (case cN => k_asm); (case cT => k_asm); (case ck => rfl); (case cd => k_room); (case cu => k_units); (case e0 => k_mem); (case e1 => k_mem); (case e2 => k_asm); k_whole)); intro zq9' hq9' tkq9' newsq9' k1q9' k2q9' Fq9' Nq9' subq9' tpq9')
  trivial
theorem point_q {w : World} {mean : ExcName → Option Value} {mg mb : Str → Option Value} {dp un : Nat} {gd : Option (List Code)} {cn : Str} {cs : Scope} {a : Addr} {ccd : Value} {cl : List (Str × Addr)} {outer : List Env} {A₀ : Around} {base h₀ : Heap} {L : Addr} {m : Str → Option Value} {s : Shared} {Q E : Value → Shared → Prop} {news : Led} {y : Addr} {nm ot b₁ b₂ : Int} {p : Int} {c2 : Nat} {t1 t2 t3 t4 tp : Tok}
   (B : Below A₀ base outer h₀) (F : Fr h₀ L s.heap m) (X : (KX w.params).In h₀) (N : News h₀ L s.heap news) (T : Top topProg LO mean mg mb h₀) (hk : cs.kind = .function) (hd : dp + 100 < recursionLimit) (hu : un + 1000 < cLine)
   (hy : (y, tupO [.int b₁ t3, .int b₂ t4] c2) ∈ news) (hb : PB p) (hp1 : 1 < p)
   (ret : ∀ v h' tk' news' P, Fr h₀ L h' m → News h₀ L h' news' → Sub news news' → IsAf p news' v P → OnC p (b₁, b₂) P → Q v { s with heap := h', toks := tk' }) :
   wpAny (model Challenge.rw_ll0049_01.row.prog w) (ktrTop dp un gd cn cs L a ccd cl outer) (call (.ref 283) [.int nm t1, .int ot t2, .ref y, .int p tp]) Q E s := by
  have hp := hb.1
  refine wpAny_call ?_
  (k_dflt cell_enter); k_extra "nameA"
  (iterate 11 k_extra "wsf")
  refine ite_split (fun c1 => ?_) (fun c1 => ?_)
  · (iterate 4 k_extra "wsf")
    k_extra "leave"
    exact ret _ _ _ _ none kF kN (by k_extra "sub") rfl trivial
  (iterate 23 k_extra "wsf")
  rename (∀ p : Addr × Obj, p ∈ news → p.1 < _) => lp
  k_dflt (refine' For_turns ?f ?_; (case f => k_asm))
  (iterate 7 k_extra "wsf")
  refine range_turns (n := 12) rfl (by k_asm) (by k_asm) (by assumption) (by decide) (by decide) ?_
  intro I1 off
  k_lt off
  refine ItemsRest.rep (I := fun m n => ∃ D u₁ u₂ H TT k1 k2 c, m = (fun z => if z = Str.ofString "place" then some (.ref D) else if z = Str.ofString "height" then H else if z = Str.ofString "turn" then TT else mPt nm ot t1 t2 y p tp z) ∧ n = (D, tupO [.int u₁ k1, .int u₂ k2] c) :: news ∧ (∀ q ∈ news, q.1 ≠ D) ∧ RedF p (u₁, u₂) ∧ I1 ≠ D) ?_ ?_ (List.range 12) _ _ ?_
  · intro i m0 n0 r hI ih
    obtain ⟨D, u₁, u₂, H, TT, k1, k2, c, rfl, rfl, hD, hu, hID⟩ := hI
    refine ItemsRest.tok ?_
    intro t4 h2 tk2 F2
    refine AllObj.cons fun q3 c3 => AllObj.nil fun N2 => ?_
    simp only [List.cons_append, List.nil_append] at N2
    (iterate 20 k_extra "wsf")
    walk1
    (iterate 4 k_extra "wsf")
    rename Sub _ _ => sb
    refine' root_q ?cB ?cF ?cX ?cN ?cT ?ck ?cd ?cu ?e0 ?e1 ?e2 ?e3 ?_ ?_
    case cB => k_asm
    case cF => k_asm
    case cX => k_asm
    case cN => k_asm
    case cT => k_asm
    case ck => rfl
    case cd => k_room
    case cu => k_units
    case e0 => k_mem
    case e1 => exact RedF.fcub (by assumption) _ _
    case e2 => k_asm
    case e3 => first | assumption | omega
    · intro h3 tk3 n3 F3 N3 s3
      (iterate 35 k_extra "wsf")
      rename (∀ p : Addr × Obj, p ∈ n3 → p.1 < _) => lD
      have lI := lD _ (s3 _ (sb _ (List.Mem.head _)))
      refine' unr_end (news' := _ :: news) (by k_asm) (by k_asm) ?hs (seps_one ?ho) ⟨trivial, ih _ _ ⟨_, _, _, some .none, some (.int (0 + (i : Nat) * 1) t4), _, _, _, ?he, rfl, ?hn, ?hr, ?hx⟩⟩
      case hs =>
        intro q hq
        rcases List.mem_cons.mp hq with e | hq
        · rw [e]; exact List.Mem.tail _ (s3 _ (sb _ (List.Mem.head _)))
        rcases List.mem_cons.mp hq with e | hq
        · rw [e]; exact List.Mem.head _
        · exact List.Mem.tail _ (s3 _ (sb _ (List.Mem.tail _ (List.Mem.tail _ hq))))
      case ho => exact ⟨Nat.ne_of_gt lI, off1_lt (by tbn_find)⟩
      case he =>
        funext z
        by_cases h1 : z = Str.ofString "place"
        · subst h1; rfl
        · by_cases h2 : z = Str.ofString "height"
          · subst h2; rfl
          · by_cases h3 : z = Str.ofString "turn"
            · subst h3; rfl
            · simp (zetaDelta := true) only [if_neg h1, if_neg h2, if_neg h3]
      case hn =>
        intro q hq
        exact Nat.ne_of_lt (lD _ (s3 _ (sb _ (List.Mem.tail _ (List.Mem.tail _ hq)))))
      case hr => exact ⟨⟨Int.fmod_nonneg_of_pos _ hp, Int.fmod_lt_of_pos _ hp⟩, hu.2⟩
      case hx => exact Nat.ne_of_lt lI
    · intro z r₁ r₂ h3 tk3 n3 k3 k4 c3 F3 N3 s3 hz hr hrr
      (iterate 16 k_extra "wsf")
      (iterate 9 k_extra "wsf")
      refine ite_split (fun c4 => ?_) (fun c4 => ?_)
      · (iterate 4 k_extra "wsf")
        k_extra "leave"
        refine ret _ _ _ _ (some ((u₁, u₂), (r₁, r₂))) kF kN (by k_extra "sub") ⟨_, _, _, _, rfl, by k_mem, ⟨_, _, _, by k_mem⟩, ⟨_, _, _, by k_mem⟩, hu, hr⟩ hrr
      · (iterate 21 k_extra "wsf")
        k_extra "leave"
        refine ret _ _ _ _ (some ((u₁, u₂), fsub p (0, 0) (r₁, r₂))) kF kN (by k_extra "sub") ⟨_, _, _, _, rfl, by k_mem, ⟨_, _, _, by k_mem⟩, ⟨_, _, _, by k_mem⟩, hu, RedF.fsub hb _ _⟩ ((fmul_neg hp _).trans hrr)
  · intro m0 n0 hI h2 tk2 F2 N2
    obtain ⟨D, u₁, u₂, H, TT, k1, k2, c, rfl, rfl, hD, hu, hID⟩ := hI
    (iterate 3 k_extra "wsf")
    k_extra "leave"
    exact ret _ _ _ _ none kF kN (by k_extra "sub") rfl trivial
  · refine ⟨_, _, _, none, none, _, _, _, ?_, rfl, ?_, ?_, ?_⟩
    · funext z
      by_cases h1 : z = Str.ofString "place"
      · subst h1; rfl
      · simp (zetaDelta := true) only [if_neg h1]
        refine (lk4 z).trans ?_
        by_cases h2 : z = Str.ofString "height"
        · subst h2; rfl
        · rw [if_neg h2]
          by_cases h3 : z = Str.ofString "turn"
          · subst h3; rfl
          · rw [if_neg h3]; rfl
    · intro q hq
      exact Nat.ne_of_lt (lp q hq)
    · exact ⟨⟨Int.fmod_nonneg_of_pos _ hp, Int.fmod_lt_of_pos _ hp⟩, ⟨Int.fmod_nonneg_of_pos _ hp, Int.fmod_lt_of_pos _ hp⟩⟩
    · k_ne

-- D6
theorem load_call19 : True := by
  k_with "my call" => (k_dflt (first | (refine' times_q ?cB ?cF ?cX ?cN ?cT ?ck ?cd ?cu ?e0 ?e1 ?e2 ?e3 ?e4 ?e5 ?e6 ?_; (case cB => k_asm); (case cF => k_asm); (case cX => k_asm); (case cN => k_asm); (case cT => k_asm); (case ck => rfl); (case cd => k_room); (case cu => k_units); (case e0 => k_mem); (case e1 => k_mem); (case e2 => (refine' Bd.mono ?bmA ?bmB; (case bmA => k_extra "bd"); (case bmB => decide))); (case e3 => (refine' Bd.mono ?bmA ?bmB; (case bmA => k_extra "bd"); (case bmB => decide))); (case e4 => (refine' Bd.mono ?bmA ?bmB; (case bmA => k_extra "bd"); (case bmB => decide))); (case e5 => (refine' Bd.mono ?bmA ?bmB; (case bmA => k_extra "bd"); (case bmB => decide))); (case e6 => k_asm); k_whole) | (refine' less_q ?cB ?cF ?cX ?cN ?cT ?ck ?cd ?cu ?e0 ?e1 ?e2 ?_; (case cB => k_asm); (case cF => k_asm); (case cX => k_asm); (case cN => k_asm); (case cT => k_asm); (case ck => rfl); (case cd => k_room); (case cu => k_units); (case e0 => k_mem); (case e1 => k_mem); (case e2 => k_asm); k_whole) | (refine' over_q ?cB ?cF ?cX ?cN ?cT ?ck ?cd ?cu ?e0 ?e1 ?e2 ?e3 ?e4 ?_; (case cB => k_asm); (case cF => k_asm); (case cX => k_asm); (case cN => k_asm); (case cT => k_asm); (case ck => rfl); (case cd => k_room); (case cu => k_units); (case e0 => k_mem); (case e1 => (refine' Bd.mono ?bmA ?bmB; (case bmA => k_extra "bd"); (case bmB => decide))); (case e2 => (refine' Bd.mono ?bmA ?bmB; (case bmA => k_extra "bd"); (case bmB => decide))); (case e3 => k_asm); (case e4 => first | assumption | omega); k_whole)); intro zq9' hq9' tkq9' newsq9' k1q9' k2q9' Fq9' Nq9' subq9' tpq9')
  trivial
theorem opp_q {w : World} {mean : ExcName → Option Value} {mg mb : Str → Option Value} {dp un : Nat} {gd : Option (List Code)} {cn : Str} {cs : Scope} {a : Addr} {ccd : Value} {cl : List (Str × Addr)} {outer : List Env} {A₀ : Around} {base h₀ : Heap} {L : Addr} {m : Str → Option Value} {s : Shared} {Q E : Value → Shared → Prop} {news : Led} {v : Value} {P : Aff} {p : Int} {tp : Tok}
   (B : Below A₀ base outer h₀) (F : Fr h₀ L s.heap m) (X : (KX w.params).In h₀) (N : News h₀ L s.heap news) (T : Top topProg LO mean mg mb h₀) (hk : cs.kind = .function) (hd : dp + 60 < recursionLimit) (hu : un + 600 < cLine)
   (hv : IsAf p news v P) (hb : PB p)
   (ret : ∀ v' h' tk' news', Fr h₀ L h' m → News h₀ L h' news' → Sub news news' → IsAf p news' v' (aneg p P) → Q v' { s with heap := h', toks := tk' }) :
   wpAny (model Challenge.rw_ll0049_01.row.prog w) (ktrTop dp un gd cn cs L a ccd cl outer) (call (.ref 290) [v, .int p tp]) Q E s := by
  have hp := hb.1
  rcases P with _ | ⟨⟨x1, x2⟩, ⟨y1, y2⟩⟩
  · obtain rfl : v = .none := hv
    refine wpAny_call ?_
    (k_dflt cell_enter); k_extra "nameA"
    (iterate 11 k_extra "wsf")
    k_extra "leave"
    exact ret _ _ _ _ kF kN (by k_extra "sub") rfl
  · obtain ⟨z, zx, zy, n, rfl, hz, ⟨k1, k2, n1, hzx⟩, ⟨k3, k4, n2, hzy⟩, hx, hy⟩ := hv
    refine wpAny_call ?_
    (k_dflt cell_enter); k_extra "nameA"
    (iterate 40 k_extra "wsf")
    k_extra "leave"
    exact ret _ _ _ _ kF kN (by k_extra "sub") ⟨_, _, _, _, rfl, by k_mem, ⟨_, _, _, by k_mem⟩, ⟨_, _, _, by k_mem⟩, hx, RedF.fsub hb _ _⟩
theorem sum_q {w : World} {mean : ExcName → Option Value} {mg mb : Str → Option Value} {dp un : Nat} {gd : Option (List Code)} {cn : Str} {cs : Scope} {a : Addr} {ccd : Value} {cl : List (Str × Addr)} {outer : List Env} {A₀ : Around} {base h₀ : Heap} {L : Addr} {m : Str → Option Value} {s : Shared} {Q E : Value → Shared → Prop} {news : Led} {v v' : Value} {P P' : Aff} {p : Int} {tp : Tok}
   (B : Below A₀ base outer h₀) (F : Fr h₀ L s.heap m) (X : (KX w.params).In h₀) (N : News h₀ L s.heap news) (T : Top topProg LO mean mg mb h₀) (hk : cs.kind = .function) (hd : dp + 60 < recursionLimit) (hu : un + 600 < cLine)
   (hv : IsAf p news v P) (hv' : IsAf p news v' P') (hb : PB p) (hp1 : 1 < p)
   (ret : ∀ v' h' tk' news' , Fr h₀ L h' m → News h₀ L h' news' → Sub news news' → IsAf p news' v' (asum p P P') → Q v' { s with heap := h', toks := tk' }) :
   wpAny (model Challenge.rw_ll0049_01.row.prog w) (ktrTop dp un gd cn cs L a ccd cl outer) (call (.ref 297) [v, v', .int p tp]) Q E s := by
  have hp := hb.1
  rcases P with _ | ⟨⟨x1, x2⟩, ⟨y1, y2⟩⟩
  · obtain rfl : v = .none := hv
    refine wpAny_call ?_
    (k_dflt cell_enter); k_extra "nameA"
    (iterate 21 k_extra "wsf")
    k_extra "leave"
    exact ret _ _ _ _ kF kN (by k_extra "sub") (by rw [asum]; exact IsAf.sub hv' (by k_extra "sub"))
  obtain ⟨z, zx, zy, n, rfl, hz, ⟨k1, k2, n1, hzx⟩, ⟨k3, k4, n2, hzy⟩, hx, hy⟩ := hv
  rcases P' with _ | ⟨⟨x1', x2'⟩, ⟨y1', y2'⟩⟩
  · obtain rfl : v' = .none := hv'
    refine wpAny_call ?_
    (k_dflt cell_enter); k_extra "nameA"
    (iterate 28 k_extra "wsf")
    k_extra "leave"
    exact ret _ _ _ _ kF kN (by k_extra "sub") ⟨_, _, _, _, rfl, by k_mem, ⟨_, _, _, by k_mem⟩, ⟨_, _, _, by k_mem⟩, hx, hy⟩
  obtain ⟨z', zx', zy', n', rfl, hz', ⟨k1', k2', n1', hzx'⟩, ⟨k3', k4', n2', hzy'⟩, hx', hy'⟩ := hv'
  have bx1 := RedF.b1 hb hx
  have bx2 := RedF.b2 hb hx
  have by1 := RedF.b1 hb hy
  have by2 := RedF.b2 hb hy
  have bx1' := RedF.b1 hb hx'
  have bx2' := RedF.b2 hb hx'
  have by1' := RedF.b1 hb hy'
  have by2' := RedF.b2 hb hy'
  refine wpAny_call ?_
  (k_dflt cell_enter); k_extra "nameA"
  (iterate 32 k_extra "wsf")
  (iterate 2 k_extra "wsf")
  refine ite_split (fun c4 => ?_) (fun c4 => ?_)
  · have e4 : ((x1, x2) : F2) = (x1', x2') := by simp only [Bool.and_eq_true, beq_iff_eq, Bool.and_true] at c4; rw [c4.1, c4.2]
    (iterate 29 k_extra "wsf")
    refine ite_split (fun c5 => ?_) (fun c5 => ?_)
    · have e5 : ((y1, y2) : F2) = fsub p (0, 0) (y1', y2') := by simp only [Bool.and_eq_true, beq_iff_eq, Bool.and_true] at c5; exact Prod.ext c5.1 c5.2
      (iterate 5 k_extra "wsf")
      k_extra "leave"
      refine ret _ _ _ _ kF kN (by k_extra "sub") ?_
      rw [asum, if_pos ⟨e4, e5⟩]
      rfl
    · have e5 : ¬ ((y1, y2) : F2) = fsub p (0, 0) (y1', y2') := fun q => c5 (by rw [← q]; simp)
      skip
      rw [if_neg (by decide)]
      (iterate 66 k_extra "wsf")
      refine ite_split (fun c6 => ?_) (fun c6 => absurd c4 c6)
      (iterate 201 k_extra "wsf")
      k_extra "leave"
      refine ret _ _ _ _ kF kN (by k_extra "sub") ?_
      rw [asum, if_neg (fun q => e5 q.2), aslope, if_pos e4]
      exact ⟨_, _, _, _, rfl, by k_mem, ⟨_, _, _, by k_mem⟩, ⟨_, _, _, by k_mem⟩, RedF.fsub hb _ _, RedF.fsub hb _ _⟩
  · have e4 : ¬ ((x1, x2) : F2) = (x1', x2') := fun q => c4 (by injection q with q1 q2; rw [q1, q2]; simp)
    skip
    rw [if_neg (by decide)]
    (iterate 67 k_extra "wsf")
    refine ite_split (fun c6 => absurd c6 c4) (fun c6 => ?_)
    (iterate 119 k_extra "wsf")
    k_extra "leave"
    refine ret _ _ _ _ kF kN (by k_extra "sub") ?_
    rw [asum, if_neg (fun q => e4 q.1), aslope, if_neg e4]
    exact ⟨_, _, _, _, rfl, by k_mem, ⟨_, _, _, by k_mem⟩, ⟨_, _, _, by k_mem⟩, RedF.fsub hb _ _, RedF.fsub hb _ _⟩

-- D7
theorem load_call21 : True := by
  k_with "my call" => (k_dflt (first | (refine' fq2_new ?cB ?cF ?cX ?cN ?cT ?ck ?ctb ?cd ?cu ?e0 ?e1 ?e2 ?_; (case cB => k_asm); (case cF => k_asm); (case cX => k_asm); (case cN => k_asm); (case cT => k_asm); (case ck => rfl); (case ctb => first | k_asm | exact TB.sub (by assumption) (by k_extra "sub")); (case cd => k_room); (case cu => k_units); (case e0 => k_mem); (case e1 => k_mem); (case e2 => k_asm); k_whole)); intro zq9' sq9' newsq9' Fq9' srq9' Nq9' subq9' fqq9'; obtain ⟨dzq9', ozq9', hz1q9', hz2q9'⟩ := IsFQ.inst fqq9'; (try dsimp only [W.CmpBack]))
  trivial
theorem lmade_q {w : World} {mean : ExcName → Option Value} {mg mb : Str → Option Value} {dp un : Nat} {gd : Option (List Code)} {cn : Str} {cs : Scope} {a : Addr} {ccd : Value} {cl : List (Str × Addr)} {outer : List Env} {A₀ : Around} {base h₀ : Heap} {L : Addr} {m : Str → Option Value} {s : Shared} {Q E : Value → Shared → Prop} {news : Led} {x : Addr} {a₁ a₂ p : Int} {n1 : Nat} {t1 t2 tp : Tok}
   (B : Below A₀ base outer h₀) (F : Fr h₀ L s.heap m) (X : (KX w.params).In h₀) (N : News h₀ L s.heap news) (T : Top topProg LO mean mg mb h₀) (hk : cs.kind = .function) (tb : TB news) (hd : dp + 40 < recursionLimit) (hu : un + 400 < cLine)
   (hx : (x, tupO [.int a₁ t1, .int a₂ t2] n1) ∈ news) (hr : RedF p (a₁, a₂)) (hb : PB p)
   (ret : ∀ z s' news', Fr h₀ L s'.heap m → SR s s' → News h₀ L s'.heap news' → Sub news news' → IsFQ w.params p news' z (a₁) (a₂) → Q (.ref z) s') :
   wpAny (model Challenge.rw_ll0049_01.row.prog w) (ktrTop dp un gd cn cs L a ccd cl outer) (call (.ref 304) [.ref x, .int p tp]) Q E s := by
  have hp := hb.1
  refine wpAny_call ?_
  (k_dflt cell_enter); k_extra "nameA"
  (iterate 33 k_extra "wsf")
  rename IsFQ _ _ _ _ _ _ => fq
  rw [fmod_self hr.1, fmod_self hr.2] at fq
  k_extra "leave"
  exact ret _ _ _ kF (by k_extra "sr") kN (by k_extra "sub") fq
theorem load_call20 : True := by
  k_with "my call" => (k_dflt (first | (refine' times_q ?cB ?cF ?cX ?cN ?cT ?ck ?cd ?cu ?e0 ?e1 ?e2 ?e3 ?e4 ?e5 ?e6 ?_; (case cB => k_asm); (case cF => k_asm); (case cX => k_asm); (case cN => k_asm); (case cT => k_asm); (case ck => rfl); (case cd => k_room); (case cu => k_units); (case e0 => k_mem); (case e1 => k_mem); (case e2 => (refine' Bd.mono ?bmA ?bmB; (case bmA => k_extra "bd"); (case bmB => decide))); (case e3 => (refine' Bd.mono ?bmA ?bmB; (case bmA => k_extra "bd"); (case bmB => decide))); (case e4 => (refine' Bd.mono ?bmA ?bmB; (case bmA => k_extra "bd"); (case bmB => decide))); (case e5 => (refine' Bd.mono ?bmA ?bmB; (case bmA => k_extra "bd"); (case bmB => decide))); (case e6 => k_asm); k_whole)); intro zq9' hq9' tkq9' newsq9' k1q9' k2q9' Fq9' Nq9' subq9' tpq9')
  trivial
theorem load_call22 : True := by
  k_with "my call" => (k_dflt (first | (refine' lmade_q ?cB ?cF ?cX ?cN ?cT ?ck ?ctb ?cd ?cu ?e0 ?e1 ?e2 ?_; (case cB => k_asm); (case cF => k_asm); (case cX => k_asm); (case cN => k_asm); (case cT => k_asm); (case ck => rfl); (case ctb => first | k_asm | exact TB.sub (by assumption) (by k_extra "sub")); (case cd => k_room); (case cu => k_units); (case e0 => k_mem); (case e1 => first | assumption | exact Red.fmod (by assumption) _ _); (case e2 => k_asm); k_whole)); intro zq9' sq9' newsq9' Fq9' srq9' Nq9' subq9' fqq9'; obtain ⟨dzq9', ozq9', hz1q9', hz2q9'⟩ := IsFQ.inst fqq9'; (try dsimp only [W.CmpBack]))
  trivial
theorem form_q {w : World} {mean : ExcName → Option Value} {mg mb : Str → Option Value} {dp un : Nat} {gd : Option (List Code)} {cn : Str} {cs : Scope} {a : Addr} {ccd : Value} {cl : List (Str × Addr)} {outer : List Env} {A₀ : Around} {base h₀ : Heap} {L : Addr} {m : Str → Option Value} {s : Shared} {Q E : Value → Shared → Prop} {news : Led} {x : Addr} {v : Value} {P : Aff} {a₁ a₂ p : Int} {n1 : Nat} {t1 t2 tp : Tok}
   (B : Below A₀ base outer h₀) (F : Fr h₀ L s.heap m) (X : (KX w.params).In h₀) (N : News h₀ L s.heap news) (T : Top topProg LO mean mg mb h₀) (hk : cs.kind = .function) (tb : TB news) (hd : dp + 60 < recursionLimit) (hu : un + 600 < cLine)
   (hv : IsAf p news v P) (hx : (x, tupO [.int a₁ t1, .int a₂ t2] n1) ∈ news) (hr : RedF p (a₁, a₂)) (hb : PB p)
   (ret : ∀ z s' news', Fr h₀ L s'.heap m → SR s s' → News h₀ L s'.heap news' → Sub news news' → IsPt w.params p news' z (aform p (a₁, a₂) P) → Q (.ref z) s') :
   wpAny (model Challenge.rw_ll0049_01.row.prog w) (ktrTop dp un gd cn cs L a ccd cl outer) (call (.ref 311) [v, .ref x, .int p tp]) Q E s := by
  have hp := hb.1
  have r0 : RedF p (0, 0) := ⟨⟨Int.le_refl _, hp⟩, Int.le_refl _, hp⟩
  have ba1 := RedF.b1 hb hr
  have ba2 := RedF.b2 hb hr
  rcases P with _ | ⟨⟨x1, x2⟩, ⟨y1, y2⟩⟩
  · obtain rfl : v = .none := hv
    refine wpAny_call ?_
    (k_dflt cell_enter); k_extra "nameA"
    (iterate 53 k_extra "wsf")
    k_extra "leave"
    refine ret _ _ _ kF (by k_extra "sr") kN (by k_extra "sub") ⟨_, _, _, _, by k_mem, ?_, ?_, ?_⟩ <;> exact IsFQ.sub (by assumption) (by k_extra "sub")
  obtain ⟨z, zx, zy, n, rfl, hz, ⟨k1, k2, n1, hzx⟩, ⟨k3, k4, n2, hzy⟩, hpx, hpy⟩ := hv
  have bx1 := RedF.b1 hb hpx
  have bx2 := RedF.b2 hb hpx
  have by1 := RedF.b1 hb hpy
  have by2 := RedF.b2 hb hpy
  refine wpAny_call ?_
  (k_dflt cell_enter); k_extra "nameA"
  (iterate 94 k_extra "wsf")
  k_extra "leave"
  refine ret _ _ _ kF (by k_extra "sr") kN (by k_extra "sub") ⟨_, _, _, _, by k_mem, ?_, ?_, ?_⟩ <;> exact IsFQ.sub (by assumption) (by k_extra "sub")

-- D8
theorem lmade_first {w : World} {mean : ExcName → Option Value} {mg mb : Str → Option Value} {dp un : Nat} {gd : Option (List Code)} {cn : Str} {cs : Scope} {a : Addr} {ccd : Value} {cl : List (Str × Addr)} {outer : List Env} {A₀ : Around} {base h₀ : Heap} {L : Addr} {m : Str → Option Value} {s : Shared} {Q E : Value → Shared → Prop} {news : Led} {x : Addr} {a₁ a₂ p : Int} {n1 : Nat} {t1 t2 tp : Tok}
   (B : Below A₀ base outer h₀) (F : Fr h₀ L s.heap m) (X : (KX w.params).In h₀) (N : News h₀ L s.heap ((86, tabObj #[]) :: news)) (T : Top topProg LO mean mg mb h₀) (hk : cs.kind = .function) (h6 : ∀ q ∈ news, @Ne Nat q.1 86) (hd : dp + 40 < recursionLimit) (hu : un + 400 < cLine)
   (hx : (x, tupO [.int a₁ t1, .int a₂ t2] n1) ∈ news) (hr : RedF p (a₁, a₂)) (hb : PB p)
   (ret : ∀ z s' news', Fr h₀ L s'.heap m → SR s s' → News h₀ L s'.heap news' → Sub news news' → TB news' → IsFQ w.params p news' z a₁ a₂ → Q (.ref z) s') :
   wpAny (model Challenge.rw_ll0049_01.row.prog w) (ktrTop dp un gd cn cs L a ccd cl outer) (call (.ref 304) [.ref x, .int p tp]) Q E s := by
  have hp := hb.1
  refine wpAny_call ?_
  (k_dflt cell_enter); k_extra "nameA"
  (iterate 32 k_extra "wsf")
  rename News _ _ _ ((_, _) :: (_, _) :: (86, _) :: news) => N9
  refine' fq2_first ?cB ?cF ?cX (News.swap3 N9) ?cT rfl ?c6 ?cd ?cu ?e0 ?e1 ?e2 ?_
  case cB => k_asm
  case cF => k_asm
  case cX => k_asm
  case cT => k_asm
  case c6 =>
    intro q hq
    rcases List.mem_cons.mp hq with e | hq
    · rw [e]; k_ne
    rcases List.mem_cons.mp hq with e | hq
    · rw [e]; k_ne
    · exact h6 q hq
  case cd => k_room
  case cu => k_units
  case e0 => k_mem
  case e1 => k_mem
  case e2 => k_asm
  intro z' s' news' F' sr' N' sub' tb' fq'
  obtain ⟨dz', oz', hz1', hz2'⟩ := IsFQ.inst fq'
  skip
  rename IsFQ _ _ _ _ _ _ => fq
  rw [fmod_self hr.1, fmod_self hr.2] at fq
  k_extra "leave"
  exact ret _ _ _ kF (by k_extra "sr") kN (by k_extra "sub") (by assumption) fq
theorem load_call23 : True := by
  k_with "my call" => (k_dflt (first | (refine' times_q ?cB ?cF ?cX ?cN ?cT ?ck ?cd ?cu ?e0 ?e1 ?e2 ?e3 ?e4 ?e5 ?e6 ?_; (case cB => k_asm); (case cF => k_asm); (case cX => k_asm); (case cN => k_asm); (case cT => k_asm); (case ck => rfl); (case cd => k_room); (case cu => k_units); (case e0 => k_mem); (case e1 => k_mem); (case e2 => (refine' Bd.mono ?bmA ?bmB; (case bmA => k_extra "bd"); (case bmB => decide))); (case e3 => (refine' Bd.mono ?bmA ?bmB; (case bmA => k_extra "bd"); (case bmB => decide))); (case e4 => (refine' Bd.mono ?bmA ?bmB; (case bmA => k_extra "bd"); (case bmB => decide))); (case e5 => (refine' Bd.mono ?bmA ?bmB; (case bmA => k_extra "bd"); (case bmB => decide))); (case e6 => k_asm); k_whole)); intro zq9' hq9' tkq9' newsq9' k1q9' k2q9' Fq9' Nq9' subq9' tpq9')
  trivial
theorem load_call24 : True := by
  k_with "my call" => (k_dflt (first | (refine' lmade_q ?cB ?cF ?cX ?cN ?cT ?ck ?ctb ?cd ?cu ?e0 ?e1 ?e2 ?_; (case cB => k_asm); (case cF => k_asm); (case cX => k_asm); (case cN => k_asm); (case cT => k_asm); (case ck => rfl); (case ctb => first | k_asm | exact TB.sub (by assumption) (by k_extra "sub")); (case cd => k_room); (case cu => k_units); (case e0 => k_mem); (case e1 => first | assumption | exact Red.fmod (by assumption) _ _); (case e2 => k_asm); k_whole)); intro zq9' sq9' newsq9' Fq9' srq9' Nq9' subq9' fqq9'; obtain ⟨dzq9', ozq9', hz1q9', hz2q9'⟩ := IsFQ.inst fqq9'; (try dsimp only [W.CmpBack]))
  trivial
theorem form_first {w : World} {mean : ExcName → Option Value} {mg mb : Str → Option Value} {dp un : Nat} {gd : Option (List Code)} {cn : Str} {cs : Scope} {a : Addr} {ccd : Value} {cl : List (Str × Addr)} {outer : List Env} {A₀ : Around} {base h₀ : Heap} {L : Addr} {m : Str → Option Value} {s : Shared} {Q E : Value → Shared → Prop} {news : Led} {x : Addr} {v : Value} {P : Aff} {a₁ a₂ p : Int} {n1 : Nat} {t1 t2 tp : Tok}
   (B : Below A₀ base outer h₀) (F : Fr h₀ L s.heap m) (X : (KX w.params).In h₀) (N : News h₀ L s.heap ((86, tabObj #[]) :: news)) (T : Top topProg LO mean mg mb h₀) (hk : cs.kind = .function) (h6 : ∀ q ∈ news, @Ne Nat q.1 86) (hd : dp + 60 < recursionLimit) (hu : un + 600 < cLine)
   (hv : IsAf p news v P) (hx : (x, tupO [.int a₁ t1, .int a₂ t2] n1) ∈ news) (hr : RedF p (a₁, a₂)) (hb : PB p)
   (ret : ∀ z s' news', Fr h₀ L s'.heap m → SR s s' → News h₀ L s'.heap news' → Sub news news' → TB news' → IsPt w.params p news' z (aform p (a₁, a₂) P) → Q (.ref z) s') :
   wpAny (model Challenge.rw_ll0049_01.row.prog w) (ktrTop dp un gd cn cs L a ccd cl outer) (call (.ref 311) [v, .ref x, .int p tp]) Q E s := by
  have hp := hb.1
  have r0 : RedF p (0, 0) := ⟨⟨Int.le_refl _, hp⟩, Int.le_refl _, hp⟩
  have ba1 := RedF.b1 hb hr
  have ba2 := RedF.b2 hb hr
  rcases P with _ | ⟨⟨x1, x2⟩, ⟨y1, y2⟩⟩
  · obtain rfl : v = .none := hv
    refine wpAny_call ?_
    (k_dflt cell_enter); k_extra "nameA"
    (iterate 22 k_extra "wsf")
    refine' lmade_first ?cB ?cF ?cX ?cN ?cT rfl ?c6 ?cd ?cu ?e0 ?e1 ?e2 ?_
    case cB => k_asm
    case cF => k_asm
    case cX => k_asm
    case cN => k_asm
    case cT => k_asm
    case c6 => exact h6
    case cd => k_room
    case cu => k_units
    case e0 => k_mem
    case e1 => exact hr
    case e2 => k_asm
    intro z' s' news' F' sr' N' sub' tb' fq'
    (iterate 30 k_extra "wsf")
    k_extra "leave"
    refine ret _ _ _ kF (by k_extra "sr") kN (by k_extra "sub") (TB.sub tb' (by k_extra "sub")) ⟨_, _, _, _, by k_mem, ?_, ?_, ?_⟩ <;> exact IsFQ.sub (by assumption) (by k_extra "sub")
  obtain ⟨z, zx, zy, n, rfl, hz, ⟨k1, k2, n1, hzx⟩, ⟨k3, k4, n2, hzy⟩, hpx, hpy⟩ := hv
  have bx1 := RedF.b1 hb hpx
  have bx2 := RedF.b2 hb hpx
  have by1 := RedF.b1 hb hpy
  have by2 := RedF.b2 hb hpy
  have hz' : (z, tupO [.ref zx, .ref zy] n) ∈ ((86, tabObj #[]) :: news : Led) := List.Mem.tail _ hz
  have hzx' : (zx, tupO [.int x1 k1, .int x2 k2] n1) ∈ ((86, tabObj #[]) :: news : Led) := List.Mem.tail _ hzx
  have hzy' : (zy, tupO [.int y1 k3, .int y2 k4] n2) ∈ ((86, tabObj #[]) :: news : Led) := List.Mem.tail _ hzy
  refine wpAny_call ?_
  (k_dflt cell_enter); k_extra "nameA"
  (iterate 28 k_extra "wsf")
  walk1
  (iterate 15 k_extra "wsf")
  walk1
  (iterate 24 k_extra "wsf")
  rename News _ _ _ _ => N9
  rename Sub _ _ => s2
  rename Sub (_ :: news) _ => s1
  rename (_, tupO [.int (fmul p (x1, x2) (a₁, a₂)).1 _, _] _) ∈ _ => hA
  rename (_, tupO [.int (fmul p (y1, y2) (a₁, a₂)).1 _, _] _) ∈ _ => hB
  obtain ⟨N10, up, up'⟩ := un86_all N9 (List.Mem.tail _ (s2 _ (s1 _ (List.Mem.head _))))
  have hA' := up _ (List.Mem.tail _ (s2 _ hA)) (by intro q; cases q)
  have hB' := up _ (List.Mem.tail _ hB) (by intro q; cases q)
  have hx' := up _ (List.Mem.tail _ (s2 _ (s1 _ (List.Mem.tail _ hx)))) (by intro q; cases q)
  have s3 := fun q hq => up' q (List.Mem.tail _ (s2 _ (s1 _ (List.Mem.tail _ hq)))) (h6 q hq)
  refine' lmade_first ?cB ?cF ?cX N10 ?cT rfl ?c6 ?cd ?cu ?e0 ?e1 ?e2 ?_
  case cB => k_asm
  case cF => k_asm
  case cX => k_asm
  case cT => k_asm
  case c6 => exact un86_ne
  case cd => k_room
  case cu => k_units
  case e0 => exact hA'
  case e1 => exact Red.fmod hb _ _
  case e2 => k_asm
  intro z' s' news' F' sr' N' sub' tb' fq'
  (iterate 24 k_extra "wsf")
  k_extra "leave"
  refine ret _ _ _ kF (by k_extra "sr") kN (Sub.trans s3 (by k_extra "sub")) (TB.sub tb' (by k_extra "sub")) ⟨_, _, _, _, by k_mem, ?_, ?_, ?_⟩ <;> exact IsFQ.sub (by assumption) (by k_extra "sub")

-- D9
theorem load_call25 : True := by
  k_with "my call" => (k_dflt (first | (refine' times_q ?cB ?cF ?cX ?cN ?cT ?ck ?cd ?cu ?e0 ?e1 ?e2 ?e3 ?e4 ?e5 ?e6 ?_; (case cB => k_asm); (case cF => k_asm); (case cX => k_asm); (case cN => k_asm); (case cT => k_asm); (case ck => rfl); (case cd => k_room); (case cu => k_units); (case e0 => k_mem); (case e1 => k_mem); (case e2 => (refine' Bd.mono ?bmA ?bmB; (case bmA => k_extra "bd"); (case bmB => decide))); (case e3 => (refine' Bd.mono ?bmA ?bmB; (case bmA => k_extra "bd"); (case bmB => decide))); (case e4 => (refine' Bd.mono ?bmA ?bmB; (case bmA => k_extra "bd"); (case bmB => decide))); (case e5 => (refine' Bd.mono ?bmA ?bmB; (case bmA => k_extra "bd"); (case bmB => decide))); (case e6 => k_asm); k_whole)); intro zq9' hq9' tkq9' newsq9' k1q9' k2q9' Fq9' Nq9' subq9' tpq9')
  trivial
theorem reads_q {w : World} {mean : ExcName → Option Value} {mg mb : Str → Option Value} {dp un : Nat} {gd : Option (List Code)} {cn : Str} {cs : Scope} {a : Addr} {ccd : Value} {cl : List (Str × Addr)} {outer : List Env} {A₀ : Around} {base h₀ : Heap} {L : Addr} {m : Str → Option Value} {s : Shared} {Q E : Value → Shared → Prop} {news : Led} {x : Addr} {v : Value} {P : Aff} {G : P3} {p : Int} {tp : Tok}
   (B : Below A₀ base outer h₀) (F : Fr h₀ L s.heap m) (X : (KX w.params).In h₀) (N : News h₀ L s.heap news) (T : Top topProg LO mean mg mb h₀) (hk : cs.kind = .function) (tb : TB news) (hd : dp + 60 < recursionLimit) (hu : un + 600 < cLine)
   (hg : IsPt w.params p news x G) (hv : IsAf p news v P) (hb : PB p)
   (ret : ∀ (r : Bool) s' news', Fr h₀ L s'.heap m → SR s s' → News h₀ L s'.heap news' → Sub news news' → (r = true ↔ areads p G P) → Q (.bool r) s') :
   wpAny (model Challenge.rw_ll0049_01.row.prog w) (ktrTop dp un gd cn cs L a ccd cl outer) (call (.ref 316) [.ref x, v, .int p tp]) Q E s := by
  have hp := hb.1
  have hg' := hg
  obtain ⟨gx, gy, gz, gn, hgt, hgx, hgy, hgz⟩ := hg'
  obtain ⟨qd, qmc, qmt, qcf, qmo, qk1, qk2, qk3, qk4, qk5, qtp, qtd, qn1, qn2, qn3, qn4, qt1, qt2, qt3, qt4, qt5, qt6, hgx1, hgx2, hgx3, hgx4, hgx5, hgx6, hgx7⟩ := hgx
  obtain ⟨rd, rmc, rmt, rcf, rmo, rk1, rk2, rk3, rk4, rk5, rtp, rtd, rn1, rn2, rn3, rn4, rt1, rt2, rt3, rt4, rt5, rt6, hgy1, hgy2, hgy3, hgy4, hgy5, hgy6, hgy7⟩ := hgy
  obtain ⟨ud, umc, umt, ucf, umo, uk1, uk2, uk3, uk4, uk5, utp, utd, un1, un2, un3, un4, ut1, ut2, ut3, ut4, ut5, ut6, hgz1, hgz2, hgz3, hgz4, hgz5, hgz6, hgz7⟩ := hgz
  refine wpAny_call ?_
  (k_dflt cell_enter); k_extra "nameA"
  (iterate 5 k_extra "wsf")
  refine csrc_tup (vs := [.ref gx, .ref gy, .ref gz]) rfl (by k_asm) (by k_asm) (by k_mem) rfl rfl (Nat.le_of_ble_eq_true rfl) (by decide) rfl rfl ?_
  intro g1 I6
  k_extra "turnO"
  (iterate 18 k_extra "wsf")
  rename (C < _ ∧ _) => l3
  refine CEnd.mk hoC (by k_asm) (by k_asm) ?_ (CApart.cons (o := { cls := .type "tuple", data := .seq #[.int G.1.1 qt3, .int G.1.2 qt4] }) ap (Nat.ne_of_gt l3.1) (Nat.ne_of_gt l3.2.1) ?_) (fun p hp => List.Mem.tail _ (kp p hp)) ?_
  · repeat' (first | exact Sub.refl _ | refine Sub.cons (by k_mem) ?_ | refine Sub.tail ?_)
  · intro q hq
    rcases List.mem_cons.mp hq with rfl | hq
    · exact Nat.ne_of_gt l3.2.2.1
    · cases hq
  clear ap kp O hoC l3
  k_extra "turnO"
  (iterate 18 k_extra "wsf")
  rename (C < _ ∧ _) => l3
  refine CEnd.mk hoC (by k_asm) (by k_asm) ?_ (CApart.cons (o := { cls := .type "tuple", data := .seq #[.int G.2.1.1 rt3, .int G.2.1.2 rt4] }) ap (Nat.ne_of_gt l3.1) (Nat.ne_of_gt l3.2.1) ?_) (fun p hp => List.Mem.tail _ (kp p hp)) ?_
  · repeat' (first | exact Sub.refl _ | refine Sub.cons (by k_mem) ?_ | refine Sub.tail ?_)
  · intro q hq
    rcases List.mem_cons.mp hq with rfl | hq
    · exact Nat.ne_of_gt l3.2.2.1
    · cases hq
  clear ap kp O hoC l3
  k_extra "turnO"
  (iterate 18 k_extra "wsf")
  rename (C < _ ∧ _) => l3
  refine CEnd.mk hoC (by k_asm) (by k_asm) ?_ (CApart.cons (o := { cls := .type "tuple", data := .seq #[.int G.2.2.1 ut3, .int G.2.2.2 ut4] }) ap (Nat.ne_of_gt l3.1) (Nat.ne_of_gt l3.2.1) ?_) (fun p hp => List.Mem.tail _ (kp p hp)) ?_
  · repeat' (first | exact Sub.refl _ | refine Sub.cons (by k_mem) ?_ | refine Sub.tail ?_)
  · intro q hq
    rcases List.mem_cons.mp hq with rfl | hq
    · exact Nat.ne_of_gt l3.2.2.1
    · cases hq
  clear ap kp O hoC l3
  k_extra "cfin"
  rcases P with _ | ⟨⟨x1, x2⟩, ⟨y1, y2⟩⟩
  · obtain rfl : v = .none := hv
    (iterate 32 k_extra "wsf")
    k_extra "leave"
    refine ret _ _ _ kF (by k_extra "sr") kN (by k_extra "sub") ?_
    simp only [Bool.and_eq_true, beq_iff_eq, areads]
    exact ⟨fun q => Prod.ext q.1 q.2, fun q => by rw [q]; exact ⟨rfl, rfl⟩⟩
  obtain ⟨z, zx, zy, n, rfl, hz, ⟨k1, k2, n1, hzx⟩, ⟨k3, k4, n2, hzy⟩, hpx, hpy⟩ := hv
  have bx1 := RedF.b1 hb hpx
  have bx2 := RedF.b2 hb hpx
  have by1 := RedF.b1 hb hpy
  have by2 := RedF.b2 hb hpy
  have bg1 := Red.bd0 hb hgz7
  have bg2 := Red.bd1 hb hgz7
  (iterate 19 k_extra "wsf")
  rw [if_neg (by decide)]
  (iterate 15 k_extra "wsf")
  refine ite_split (fun c4 => ?_) (fun c4 => ?_)
  · have e4 := (bne2 G.2.2 (0, 0)).mp c4
    (iterate 20 k_extra "wsf")
    refine ite_split (fun c5 => ?_) (fun c5 => ?_)
    · have e5 := (beq2 (fmul p (x1, x2) G.2.2) G.1).mp c5
      (iterate 19 k_extra "wsf")
      k_extra "leave"
      refine ret _ _ _ kF (by k_extra "sr") kN (by k_extra "sub") ?_
      exact (beq2 (fmul p (y1, y2) G.2.2) G.2.1).trans ⟨fun q => ⟨e4, e5, q⟩, fun q => q.2.2⟩
    · skip
      k_extra "leave"
      refine ret _ _ _ kF (by k_extra "sr") kN (by k_extra "sub") ?_
      exact (beq2 (fmul p (x1, x2) G.2.2) G.1).trans ⟨fun q => absurd ((beq2 (fmul p (x1, x2) G.2.2) G.1).mpr q) c5, fun q => q.2.1⟩
  · skip
    k_extra "leave"
    refine ret _ _ _ kF (by k_extra "sr") kN (by k_extra "sub") ?_
    exact (bne2 G.2.2 (0, 0)).trans ⟨fun q => absurd ((bne2 G.2.2 (0, 0)).mpr q) c4, fun q => q.1⟩

-- E1
theorem toks_any {P : Shared → Prop} {h : Heap} {s : Shared} {tk : Nat} (H : ∀ tk, P { s with heap := h, toks := tk }) : P { s with heap := h, toks := tk } := H _
local macro_rules | `(tactic| k_all) => `(tactic| k_extra "my k_all")
theorem load_kall : True := by
  k_with "my k_all" => exact fun p hp => Nat.ne_of_lt (Nat.lt_succ_of_lt ((show ∀ p : Addr × Obj, p ∈ _ → p.1 < _ from by assumption) p hp))
  trivial
theorem prime_q {w : World} {mean : ExcName → Option Value} {mg mb : Str → Option Value} {dp un : Nat} {gd : Option (List Code)} {cn : Str} {cs : Scope} {a : Addr} {ccd : Value} {cl : List (Str × Addr)} {outer : List Env} {A₀ : Around} {base h₀ : Heap} {L : Addr} {m : Str → Option Value} {s : Shared} {Q E : Value → Shared → Prop} {news : Led} {nm : Int} {t1 : Tok}
   (B : Below A₀ base outer h₀) (F : Fr h₀ L s.heap m) (X : (KX w.params).In h₀) (N : News h₀ L s.heap news) (T : Top topProg LO mean mg mb h₀) (hk : cs.kind = .function) (hd : dp + 60 < recursionLimit) (hu : un + 600 < cLine)
   (h0 : 0 ≤ nm)
   (ret : ∀ q t h' tk' news', Fr h₀ L h' m → News h₀ L h' news' → Sub news news' → IsPm q → Q (.int q t) { s with heap := h', toks := tk' }) :
   wpAny (model Challenge.rw_ll0049_01.row.prog w) (ktrTop dp un gd cn cs L a ccd cl outer) (call (.ref 241) [.int nm t1]) Q E s := by
  refine wpAny_call ?_
  k_dflt (k_extra "enterC")
  (iterate 10 k_extra "ws")
  refine ite_split (fun c1 => ?_) (fun c1 => ?_)
  · (iterate 23 k_extra "ws")
    have m0 : 0 ≤ nm.fmod 3 := Int.fmod_nonneg_of_pos _ (by decide)
    have m1 : nm.fmod 3 < 3 := Int.fmod_lt_of_pos _ (by decide)
    have m2 : nm.fmod 3 = 0 ∨ nm.fmod 3 = 1 := by
      have : nm.fmod 3 ≠ 2 := by simpa using c1
      omega
    rcases m2 with m2 | m2 <;> rw [m2]
    · (iterate 1 k_extra "ws")
      k_extra "leave"
      exact ret _ _ _ _ _ kF kN (by k_extra "sub") (Or.inl rfl)
    · (iterate 1 k_extra "ws")
      k_extra "leave"
      exact ret _ _ _ _ _ kF kN (by k_extra "sub") (Or.inr (Or.inl rfl))
  (iterate 20 k_extra "ws")
  refine While_unr 300 ?_
  rename Fr _ _ _ _ => F9
  rename News _ _ _ _ => N9
  rename (Obj.data _ = Data.cell _) => d9
  rename Heap => h9
  rename Obj => o9
  have hj1 : 0 ≤ (nm.fdiv 3).fmod 250 := Int.fmod_nonneg_of_pos _ (by decide)
  have hj2 : (nm.fdiv 3).fmod 250 < 250 := Int.fmod_lt_of_pos _ (by decide)
  obtain ⟨f, hf⟩ : ∃ f, f = 7 + 4 * (nm.fdiv 3).fmod 250 := ⟨_, rfl⟩
  rw [← hf] at d9
  have f1 : 7 ≤ f := by omega
  have f2 : f ≤ 1019 := by omega
  have f3 : f % 4 = 3 := by omega
  have f4 : 1019 - f < 4 * (300 : Nat) := by omega
  clear hf
  generalize 300 = k at f4 ⊢
  have d9' : ∃ t, o9.data = Data.cell (some (.int f t)) := ⟨_, d9⟩
  clear d9
  obtain ⟨t9, d9⟩ := d9'
  refine toks_any (P := WRest _ _ _ _ _ _ _ _ k) (h := h9) (s := s) ?_
  intro tk9
  clear hj1 hj2 c1
  induction k generalizing h9 o9 f tk9 t9 with
  | zero => omega
  | succ k ih =>
    refine WRest.turn ?_
    (iterate 13 k_extra "ws")
    refine csrc_range (n := 15) rfl (by k_asm) (by k_asm) (by assumption) (by decide) (by decide) (Nat.le_of_ble_eq_true rfl) (by decide) rfl rfl ?_
    intro g9 I9
    refine CRest.rep (I := fun i ys => ys.length ≤ i ∧ (ys = [] ↔ ∀ j < i, ¬ hit f j)) ?_ 15 0 [] rfl (by simp) ?_
    · intro i ys hi15 hI C oC D m₂ h₁ tk₁ its O hoC hBd F2 N2 ap kp
      obtain ⟨q1, rfl, q2⟩ := objs_one O
      obtain ⟨t5, hm5⟩ := hBd
      simp only [List.cons_append, List.nil_append] at N2
      refine wpAny_tests_one ?_
      (iterate 6 k_extra "ws")
      have up : ∀ {x : Value}, (¬ hit f i → ((ys = [] ↔ ∀ j < i + 1, ¬ hit f j))) := fun {x} nh => hI.2.trans ⟨fun q j hj => by
        rcases Nat.lt_succ_iff_lt_or_eq.mp hj with h | h
        · exact q j h
        · rw [h]; exact nh, fun q j hj => q j (Nat.lt_succ_of_lt hj)⟩
      refine ite_split (fun c1 => ?_) (fun c1 => ?_)
      · (iterate 9 k_extra "ws")
        refine ite_split (fun c2 => ?_) (fun c2 => ?_)
        · (iterate 3 k_extra "ws")
          refine CEnd.mk hoC F2 N2 (Sub.refl _) ap kp ⟨rfl, by simpa using hI.1, ?_⟩
          refine ⟨fun q => by simp at q, fun q => absurd ⟨by simpa using c1, by simpa using c2⟩ (q i (Nat.lt_succ_self i))⟩
        · (iterate 1 k_extra "ws")
          refine CEnd.mk hoC F2 N2 (Sub.refl _) ap kp ⟨rfl, by omega, up (x := .none) fun q => c2 (by simpa using q.2)⟩
      · (iterate 1 k_extra "ws")
        refine CEnd.mk hoC F2 N2 (Sub.refl _) ap kp ⟨rfl, by omega, up (x := .none) fun q => c1 (by simpa using q.1)⟩
    · intro ys hI D h2 tk2 F2 N2 off
      replace off := off1_of off
      skip
      refine kgr_truthy (by k_asm) (by k_mem) rfl rfl (by omega) ?_
      refine ite_split (fun c1 => ?_) (fun c1 => ?_)
      · have hne : f ≠ 1019 := fun q => by
          have := hI.2.mpr (by rw [q]; exact no1019)
          rw [this] at c1; simp at c1
        rename News _ _ _ _ => N7
        replace N7 := News.sub N7 (Sub.tail (Sub.refl _))
        clear off
        (iterate 9 k_extra "ws")
        refine ⟨rfl, ?_⟩
        rename Fr _ _ _ _ => F8
        rename News _ _ _ _ => N8
        rename (Obj.data _ = Data.cell _) => d8
        exact ih _ _ F8 N8 (f + 4) (by omega) (by omega) (by omega) (by omega) _ d8 _
      · have hem : ys = [] := by simpa using c1
        (iterate 3 k_extra "ws")
        k_extra "leave"
        exact ret _ _ _ _ _ kF kN (by k_extra "sub") (Or.inr (Or.inr ⟨f1, f2, f3, hI.2.mp hem⟩))

-- E9a
theorem eq_af {w : World} {mean : ExcName → Option Value} {mg mb : Str → Option Value} {dp un : Nat} {gd : Option (List Code)} {cn : Str} {cs : Scope} {a : Addr} {ccd : Value} {cl : List (Str × Addr)} {outer : List Env} {A₀ : Around} {base h₀ : Heap} {L : Addr} {m : Str → Option Value} {s : Shared} {Q E : Value → Shared → Prop} {news : Led} {v v' : Value} {P P' : Aff} {p : Int}
   (B : Below A₀ base outer h₀) (F : Fr h₀ L s.heap m) (X : (KX w.params).In h₀) (N : News h₀ L s.heap news) (T : Top topProg LO mean mg mb h₀) (hk : cs.kind = .function) (hd : dp + 60 < recursionLimit) (hu : un + 600 < cLine)
   (hv : IsAf p news v P) (hv' : IsAf p news v' P')
   (ret : ∀ (r : Bool) tk, (r = true ↔ P = P') → Q (.bool r) { s with toks := tk }) :
   wpAny (model Challenge.rw_ll0049_01.row.prog w) (ktrTop dp un gd cn cs L a ccd cl outer) (compareOp .Eq v v') Q E s := by
  rcases P with _ | ⟨⟨x1, x2⟩, ⟨y1, y2⟩⟩
  · obtain rfl : v = .none := hv
    rcases P' with _ | ⟨⟨x1', x2'⟩, ⟨y1', y2'⟩⟩
    · obtain rfl : v' = .none := hv'
      refine PySem.EqNone.eq_none_none ?_
      exact ret true _ ⟨fun _ => rfl, fun _ => rfl⟩
    · obtain ⟨z', zx', zy', n', rfl, hz', ⟨k1', k2', n1', hzx'⟩, ⟨k3', k4', n2', hzy'⟩, hx', hy'⟩ := hv'
      have h0 := (N _ hz').1
      show wpAny _ _ (richCompare .Eq _ _) _ _ _
      refine PySem.SeqAt.RcAt.none_tuple ⟨_, h0, rfl, _, rfl⟩ (by k_units) _ _ _ _ ?_
      exact ret false _ ⟨nofun, nofun⟩
  obtain ⟨z, zx, zy, n, rfl, hz, ⟨k1, k2, n1, hzx⟩, ⟨k3, k4, n2, hzy⟩, hx, hy⟩ := hv
  rcases P' with _ | ⟨⟨x1', x2'⟩, ⟨y1', y2'⟩⟩
  · obtain rfl : v' = .none := hv'
    have h0 := (N _ hz).1
    show wpAny _ _ (richCompare .Eq _ _) _ _ _
    refine PySem.SeqAt.RcAt.tuple_none ⟨_, h0, rfl, _, rfl⟩ (by k_units) _ _ _ _ ?_
    exact ret false _ ⟨nofun, nofun⟩
  · obtain ⟨z', zx', zy', n', rfl, hz', ⟨k1', k2', n1', hzx'⟩, ⟨k3', k4', n2', hzy'⟩, hx', hy'⟩ := hv'
    walk1
    refine ret _ _ ?_
    simp only [Bool.and_eq_true, beq_iff_eq, Option.some.injEq, Prod.mk.injEq]

-- E9b
theorem reads_t {w : World} {mean : ExcName → Option Value} {mg mb : Str → Option Value} {dp un : Nat} {gd : Option (List Code)} {cn : Str} {cs : Scope} {a : Addr} {ccd : Value} {cl : List (Str × Addr)} {outer : List Env} {A₀ : Around} {base h₀ : Heap} {L : Addr} {m : Str → Option Value} {s : Shared} {Q E : Value → Shared → Prop} {news : Led} {x : Addr} {v : Value} {P : Aff} {G : P3} {p : Int} {tp : Tok}
   (B : Below A₀ base outer h₀) (F : Fr h₀ L s.heap m) (X : (KX w.params).In h₀) (N : News h₀ L s.heap news) (T : Top topProg LO mean mg mb h₀) (hk : cs.kind = .function) (tb : TB news) (hd : dp + 60 < recursionLimit) (hu : un + 600 < cLine)
   (hg : IsPt w.params p news x G) (hv : IsAf p news v P) (hb : PB p) (ha : areads p G P)
   (ret : ∀ s' news', Fr h₀ L s'.heap m → SR s s' → News h₀ L s'.heap news' → Sub news news' → Q (.bool true) s') :
   wpAny (model Challenge.rw_ll0049_01.row.prog w) (ktrTop dp un gd cn cs L a ccd cl outer) (call (.ref 316) [.ref x, v, .int p tp]) Q E s :=
  reads_q B F X N T hk tb hd hu hg hv hb fun r s' n f sr nn sb h => by obtain rfl := h.mpr ha; exact ret s' n f sr nn sb
theorem ceq_t {w : World} {mean : ExcName → Option Value} {mg mb : Str → Option Value} {dp un : Nat} {gd : Option (List Code)} {cn : Str} {cs : Scope} {a : Addr} {ccd : Value} {cl : List (Str × Addr)} {outer : List Env} {A₀ : Around} {base h₀ : Heap} {L : Addr} {m : Str → Option Value} {s : Shared} {Q E : Value → Shared → Prop} {news : Led} {t u : Addr} {P P' : P3} {p : Int}
   (B : Below A₀ base outer h₀) (F : Fr h₀ L s.heap m) (X : (KX w.params).In h₀) (N : News h₀ L s.heap news) (T : Top topProg LO mean mg mb h₀) (hk : cs.kind = .function) (tb : TB news) (hd : dp + 60 < recursionLimit) (hu : un + 600 < cLine)
   (ht : IsPt w.params p news t P) (hv : IsPt w.params p news u P') (hb : PB p) (ha : fmul p P.1 P'.2.2 = fmul p P'.1 P.2.2 ∧ fmul p P.2.1 P'.2.2 = fmul p P'.2.1 P.2.2)
   (ret : ∀ s' news', Fr h₀ L s'.heap m → SR s s' → News h₀ L s'.heap news' → Sub news news' → Q (.bool true) s') :
   wpAny (model Challenge.rw_ll0049_01.row.prog w) (ktrTop dp un gd cn cs L a ccd cl outer) (call (.ref 56) [.ref t, .ref u]) Q E s :=
  ceq_c B F X N T hk tb hd hu ht hv hb fun r s' n f sr nn sb h => by obtain rfl := h.mpr ha; exact ret s' n f sr nn sb
theorem on_curve_t {w : World} {mean : ExcName → Option Value} {mg mb : Str → Option Value} {dp un : Nat} {gd : Option (List Code)} {cn : Str} {cs : Scope} {a : Addr} {ccd : Value} {cl : List (Str × Addr)} {outer : List Env} {A₀ : Around} {base h₀ : Heap} {L : Addr} {m : Str → Option Value} {s : Shared} {Q E : Value → Shared → Prop} {news : Led} {t y' : Addr} {P : P3} {c₁ c₂ : Int} {p : Int}
   (B : Below A₀ base outer h₀) (F : Fr h₀ L s.heap m) (X : (KX w.params).In h₀) (N : News h₀ L s.heap news) (T : Top topProg LO mean mg mb h₀) (hk : cs.kind = .function) (tb : TB news) (hd : dp + 80 < recursionLimit) (hu : un + 800 < cLine)
   (ht : IsPt w.params p news t P) (hc : IsFQ w.params p news y' c₁ c₂) (hb : PB p) (ha : P.2.2 = (0, 0) ∨ fsub p (fmul p (fpow2 p P.2.1) P.2.2) (fpow3 p P.1) = fmul p (c₁, c₂) (fpow3 p P.2.2))
   (ret : ∀ s' news', Fr h₀ L s'.heap m → SR s s' → News h₀ L s'.heap news' → Sub news news' → Q (.bool true) s') :
   wpAny (model Challenge.rw_ll0049_01.row.prog w) (ktrTop dp un gd cn cs L a ccd cl outer) (call (.ref 35) [.ref t, .ref y']) Q E s :=
  on_curve_c (c := (c₁, c₂)) B F X N T hk tb hd hu ht hc hb fun r s' n f sr nn sb h => by obtain rfl := h.mpr ha; exact ret s' n f sr nn sb

theorem my_post {M : Model} {A : Around} {cd : Code} {s s₁ : Shared} {cw : ClaimW} {cl : Str → Option Addr} {mean : ExcName → Option Value} {args : List WData} {tabs : List (Addr × Addr)} (hT : TabsAt tabs s₁.heap)
    (hn : ∀ cls, cw.raises args cls = false) (hp : cw.post args (.bool true) args = true)
    (h : codeAny M A cd (fun r s' => r = .ok (.ret (.bool true)) ∧ (∀ b o, (ghostOf s₁.heap tabs).get? b = some o → s'.heap.get? b = some o) ∧ s'.os = s₁.os ∧ AllBare s'.gens ∧ GrownAll tabs s'.heap) s) : codeAny M A cd (GoodWG cw cl mean args s₁) s :=
  codeAny_mono h fun r s' ⟨hr, hk, hos, hg, hgr⟩ => by
    have keep : ∀ b o, b ∉ tabs.map (·.2) → s₁.heap.get? b = some o → s'.heap.get? b = some o := fun b o hb e => hk b o (ghost_ne e hb)
    have grown : ∀ b o, b ∈ tabs.map (·.2) → s₁.heap.get? b = some o → isCodeTable s₁.heap b ∧ o = tabObj #[] ∧ ∃ ps, s'.heap.get? b = some (tabObj ps) := fun b o hb e => by
      obtain ⟨q, hq, rfl⟩ := List.mem_map.mp hb
      have e2 := (hT q hq).2
      rw [e] at e2
      exact ⟨((hT q hq).1.tab (hT q hq).2).isCodeTable, Option.some.inj e2, hgr.get q hq⟩
    refine ⟨.inl ⟨_, .bool true, [], hr, hn, .bool true, hp, unshared_nil⟩, ⟨fun b o e => ?_, fun b o e => ?_⟩, hos, hg⟩
    · by_cases hb : b ∈ tabs.map (·.2)
      · obtain ⟨ht, rfl, ps, hP⟩ := grown b o hb e
        exact .inr (.inl ⟨ht, rfl, #[], ps, rfl, by rw [Array.empty_append]; exact hP⟩)
      · exact .inl (keep b o hb e)
    · by_cases hb : b ∈ tabs.map (·.2)
      · obtain ⟨_, _, ps, hP⟩ := grown b o hb e
        exact ⟨_, hP⟩
      · exact ⟨o, keep b o hb e⟩
theorem load_call26 : True := by
  k_with "my call" => (k_dflt (first | (refine' cubed_q ?cB ?cF ?cX ?cN ?cT ?ck ?cd ?cu ?e0 ?e1 ?e2 ?e3 ?e4 ?_; (case cB => k_asm); (case cF => k_asm); (case cX => k_asm); (case cN => k_asm); (case cT => k_asm); (case ck => rfl); (case cd => k_room); (case cu => k_units); (case e0 => k_mem); (case e1 => k_mem); (case e2 => (refine' Bd.mono ?bmA ?bmB; (case bmA => k_extra "bd"); (case bmB => decide))); (case e3 => (refine' Bd.mono ?bmA ?bmB; (case bmA => k_extra "bd"); (case bmB => decide))); (case e4 => k_asm); k_whole)); intro zq9' hq9' tkq9' newsq9' k1q9' k2q9' Fq9' Nq9' subq9' tpq9')
  trivial
theorem load_call27 : True := by
  k_with "my call" => (k_dflt (first | (refine' opp_q ?cB ?cF ?cX ?cN ?cT ?ck ?cd ?cu ?e0 ?e1 ?_; (case cB => k_asm); (case cF => k_asm); (case cX => k_asm); (case cN => k_asm); (case cT => k_asm); (case ck => rfl); (case cd => k_room); (case cu => k_units); (case e0 => exact IsAf.sub (by assumption) (by k_extra "sub")); (case e1 => k_asm); k_whole) | (refine' sum_q ?cB ?cF ?cX ?cN ?cT ?ck ?cd ?cu ?e0 ?e1 ?e2 ?e3 ?_; (case cB => k_asm); (case cF => k_asm); (case cX => k_asm); (case cN => k_asm); (case cT => k_asm); (case ck => rfl); (case cd => k_room); (case cu => k_units); (case e0 => exact IsAf.sub (by assumption) (by k_extra "sub")); (case e1 => exact IsAf.sub (by assumption) (by k_extra "sub")); (case e2 => k_asm); (case e3 => first | assumption | omega); k_whole)); intro vq9' hq9' tkq9' newsq9' Fq9' Nq9' subq9' hvq9')
  trivial
theorem load_call28 : True := by
  k_with "my call" => (k_dflt (first | (refine' times_q ?cB ?cF ?cX ?cN ?cT ?ck ?cd ?cu ?e0 ?e1 ?e2 ?e3 ?e4 ?e5 ?e6 ?_; (case cB => k_asm); (case cF => k_asm); (case cX => k_asm); (case cN => k_asm); (case cT => k_asm); (case ck => rfl); (case cd => k_room); (case cu => k_units); (case e0 => k_mem); (case e1 => k_mem); (case e2 => (refine' Bd.mono ?bmA ?bmB; (case bmA => k_extra "bd"); (case bmB => decide))); (case e3 => (refine' Bd.mono ?bmA ?bmB; (case bmA => k_extra "bd"); (case bmB => decide))); (case e4 => (refine' Bd.mono ?bmA ?bmB; (case bmA => k_extra "bd"); (case bmB => decide))); (case e5 => (refine' Bd.mono ?bmA ?bmB; (case bmA => k_extra "bd"); (case bmB => decide))); (case e6 => k_asm); k_whole)); intro zq9' hq9' tkq9' newsq9' k1q9' k2q9' Fq9' Nq9' subq9' tpq9')
  trivial
theorem load_call30 : True := by
  k_with "my call" => (k_dflt (first | (refine' times_q ?cB ?cF ?cX ?cN ?cT ?ck ?cd ?cu ?e0 ?e1 ?e2 ?e3 ?e4 ?e5 ?e6 ?_; (case cB => k_asm); (case cF => k_asm); (case cX => k_asm); (case cN => k_asm); (case cT => k_asm); (case ck => rfl); (case cd => k_room); (case cu => k_units); (case e0 => k_mem); (case e1 => k_mem); (case e2 => (refine' Bd.mono ?bmA ?bmB; (case bmA => k_extra "bd"); (case bmB => decide))); (case e3 => (refine' Bd.mono ?bmA ?bmB; (case bmA => k_extra "bd"); (case bmB => decide))); (case e4 => (refine' Bd.mono ?bmA ?bmB; (case bmA => k_extra "bd"); (case bmB => decide))); (case e5 => (refine' Bd.mono ?bmA ?bmB; (case bmA => k_extra "bd"); (case bmB => decide))); (case e6 => k_asm); k_whole)); intro zq9' hq9' tkq9' newsq9' k1q9' k2q9' Fq9' Nq9' subq9' tpq9')
  trivial
theorem load_call29 : True := by
  k_with "my call" => (k_dflt (first | (refine' sum_q ?cB ?cF ?cX ?cN ?cT ?ck ?cd ?cu ?e0 ?e1 ?e2 ?e3 ?_; (case cB => k_asm); (case cF => k_asm); (case cX => k_asm); (case cN => k_asm); (case cT => k_asm); (case ck => rfl); (case cd => k_room); (case cu => k_units); (case e0 => exact IsAf.sub (by assumption) (by k_extra "sub")); (case e1 => exact IsAf.sub (by assumption) (by k_extra "sub")); (case e2 => k_asm); (case e3 => first | assumption | omega); k_whole)); intro vq9' hq9' tkq9' newsq9' Fq9' Nq9' subq9' hvq9')
  trivial
theorem load_call31 : True := by
  k_with "my call" => (k_dflt (first | (refine' form_q ?cB ?cF ?cX ?cN ?cT ?ck ?ctb ?cd ?cu ?e0 ?e1 ?e2 ?e3 ?_; (case cB => k_asm); (case cF => k_asm); (case cX => k_asm); (case cN => k_asm); (case cT => k_asm); (case ck => rfl); (case ctb => first | k_asm | exact TB.sub (by assumption) (by k_extra "sub")); (case cd => k_room); (case cu => k_units); (case e0 => exact IsAf.sub (by assumption) (by k_extra "sub")); (case e1 => k_mem); (case e2 => first | assumption | exact Red.fmod (by assumption) _ _); (case e3 => k_asm); k_whole)); intro zq9' sq9' newsq9' Fq9' srq9' Nq9' subq9' ptq9'; (try dsimp only [W.CmpBack]))
  trivial
theorem load_call32 : True := by
  k_with "my call" => (k_dflt (first | (refine' add_c ?cB ?cF ?cX ?cN ?cT ?ck ?ctb ?cd ?cu ?e0 ?e1 ?e2 ?_; (case cB => k_asm); (case cF => k_asm); (case cX => k_asm); (case cN => k_asm); (case cT => k_asm); (case ck => rfl); (case ctb => first | k_asm | exact TB.sub (by assumption) (by k_extra "sub")); (case cd => k_room); (case cu => k_units); (case e0 => exact IsPt.sub (by assumption) (by k_extra "sub")); (case e1 => exact IsPt.sub (by assumption) (by k_extra "sub")); (case e2 => k_asm); k_whole)); intro zq9' sq9' newsq9' Fq9' srq9' Nq9' subq9' ptq9'; (try dsimp only [W.CmpBack]))
  trivial
theorem load_call35 : True := by
  k_with "my call" => (k_dflt (first | (refine' is_inf_c ?cB ?cF ?cX ?cN ?cT ?ck ?ctb ?cd ?cu ?e0 ?e1 ?_; (case cB => k_asm); (case cF => k_asm); (case cX => k_asm); (case cN => k_asm); (case cT => k_asm); (case ck => rfl); (case ctb => first | k_asm | exact TB.sub (by assumption) (by k_extra "sub")); (case cd => k_room); (case cu => k_units); (case e0 => exact IsPt.sub (by assumption) (by k_extra "sub")); (case e1 => k_asm); k_whole) | (refine' ceq_c ?cB ?cF ?cX ?cN ?cT ?ck ?ctb ?cd ?cu ?e0 ?e1 ?e2 ?_; (case cB => k_asm); (case cF => k_asm); (case cX => k_asm); (case cN => k_asm); (case cT => k_asm); (case ck => rfl); (case ctb => first | k_asm | exact TB.sub (by assumption) (by k_extra "sub")); (case cd => k_room); (case cu => k_units); (case e0 => exact IsPt.sub (by assumption) (by k_extra "sub")); (case e1 => exact IsPt.sub (by assumption) (by k_extra "sub")); (case e2 => k_asm); k_whole)); intro rq9' sq9' newsq9' Fq9' srq9' Nq9' subq9' hrq9'; (try dsimp only [W.CmpBack]))
  trivial
theorem load_call37 : True := by
  k_with "my call" => (k_dflt (first | (refine' lmade_q ?cB ?cF ?cX ?cN ?cT ?ck ?ctb ?cd ?cu ?e0 ?e1 ?e2 ?_; (case cB => k_asm); (case cF => k_asm); (case cX => k_asm); (case cN => k_asm); (case cT => k_asm); (case ck => rfl); (case ctb => first | k_asm | exact TB.sub (by assumption) (by k_extra "sub")); (case cd => k_room); (case cu => k_units); (case e0 => k_mem); (case e1 => first | assumption | exact Red.fmod (by assumption) _ _); (case e2 => k_asm); k_whole)); intro zq9' sq9' newsq9' Fq9' srq9' Nq9' subq9' fqq9'; obtain ⟨dzq9', ozq9', hz1q9', hz2q9'⟩ := IsFQ.inst fqq9'; (try dsimp only [W.CmpBack]))
  trivial
theorem load_call36 : True := by
  k_with "my call" => (k_dflt (first | (refine' form_q ?cB ?cF ?cX ?cN ?cT ?ck ?ctb ?cd ?cu ?e0 ?e1 ?e2 ?e3 ?_; (case cB => k_asm); (case cF => k_asm); (case cX => k_asm); (case cN => k_asm); (case cT => k_asm); (case ck => rfl); (case ctb => first | k_asm | exact TB.sub (by assumption) (by k_extra "sub")); (case cd => k_room); (case cu => k_units); (case e0 => exact IsAf.sub (by assumption) (by k_extra "sub")); (case e1 => k_mem); (case e2 => first | assumption | exact Red.fmod (by assumption) _ _); (case e3 => k_asm); k_whole) | (refine' cneg_c ?cB ?cF ?cX ?cN ?cT ?ck ?ctb ?cd ?cu ?e0 ?e1 ?_; (case cB => k_asm); (case cF => k_asm); (case cX => k_asm); (case cN => k_asm); (case cT => k_asm); (case ck => rfl); (case ctb => first | k_asm | exact TB.sub (by assumption) (by k_extra "sub")); (case cd => k_room); (case cu => k_units); (case e0 => exact IsPt.sub (by assumption) (by k_extra "sub")); (case e1 => k_asm); k_whole)); intro zq9' sq9' newsq9' Fq9' srq9' Nq9' subq9' ptq9'; (try dsimp only [W.CmpBack]))
  trivial
theorem load_call34 : True := by
  k_with "my call" => (k_dflt (first | (refine' opp_q ?cB ?cF ?cX ?cN ?cT ?ck ?cd ?cu ?e0 ?e1 ?_; (case cB => k_asm); (case cF => k_asm); (case cX => k_asm); (case cN => k_asm); (case cT => k_asm); (case ck => rfl); (case cd => k_room); (case cu => k_units); (case e0 => exact IsAf.sub (by assumption) (by k_extra "sub")); (case e1 => k_asm); k_whole)); intro vq9' hq9' tkq9' newsq9' Fq9' Nq9' subq9' hvq9')
  trivial
theorem load_call33 : True := by
  k_with "my call" => (k_dflt (first | (refine' reads_t ?cB ?cF ?cX ?cN ?cT ?ck ?ctb ?cd ?cu ?e0 ?e1 ?e2 ?e3 ?_; (case cB => k_asm); (case cF => k_asm); (case cX => k_asm); (case cN => k_asm); (case cT => k_asm); (case ck => rfl); (case ctb => first | k_asm | exact TB.sub (by assumption) (by k_extra "sub")); (case cd => k_room); (case cu => k_units); (case e0 => exact IsPt.sub (by assumption) (by k_extra "sub")); (case e1 => exact IsAf.sub (by assumption) (by k_extra "sub")); (case e2 => k_asm); (case e3 => k_asm); k_whole) | (refine' on_curve_t ?cB ?cF ?cX ?cN ?cT ?ck ?ctb ?cd ?cu ?e0 ?e1 ?e2 ?e3 ?_; (case cB => k_asm); (case cF => k_asm); (case cX => k_asm); (case cN => k_asm); (case cT => k_asm); (case ck => rfl); (case ctb => first | k_asm | exact TB.sub (by assumption) (by k_extra "sub")); (case cd => k_room); (case cu => k_units); (case e0 => exact IsPt.sub (by assumption) (by k_extra "sub")); (case e1 => exact IsFQ.sub (by assumption) (by k_extra "sub")); (case e2 => k_asm); (case e3 => k_asm); k_whole) | (refine' ceq_t ?cB ?cF ?cX ?cN ?cT ?ck ?ctb ?cd ?cu ?e0 ?e1 ?e2 ?e3 ?_; (case cB => k_asm); (case cF => k_asm); (case cX => k_asm); (case cN => k_asm); (case cT => k_asm); (case ck => rfl); (case ctb => first | k_asm | exact TB.sub (by assumption) (by k_extra "sub")); (case cd => k_room); (case cu => k_units); (case e0 => exact IsPt.sub (by assumption) (by k_extra "sub")); (case e1 => exact IsPt.sub (by assumption) (by k_extra "sub")); (case e2 => k_asm); (case e3 => k_asm); k_whole)); intro sq9' newsq9' Fq9' srq9' Nq9' subq9'; (try dsimp only [W.CmpBack]))
  trivial
set_option maxHeartbeats 40000000 in
theorem main : Shut PySem.Challenge.rw_ll0049_01.Holds := by
  refine ⟨?_⟩
  w_on
  refine holds_law ws fun said => ?_
  refine PySem.W.holds_open (q := viewX) (loose := [Str.ofString "FQP", Str.ofString "FQ2"]) (Xt := fun s => xlAt viewX [] s && recOk (RowW.records PySem.Challenge.rw_ll0049_01.row.toRowW) s) (XP := XL viewX []) (Yf := Hook.obs hkX) (Ya := Hook.val hkX) (YP := Hook.says hkX) (N := 3966) leftX (Hook.of hkX) (Hook.keeps hkX) (fun s e => xl_of s (Bool.and_eq_true_iff.mp e).1) XL.keeps (by rfl) (by rfl) (by rfl) (fun s e => recFacts_of (Bool.and_eq_true_iff.mp e).2) (by rfl) (by assumption) (by decide +kernel) ⟨rfl, rfl, rfl, rfl, rfl, by decide +kernel⟩ ?hw ?hc
  case hw => w_witness2
  clear said
  -- E2
  intro w s₀ s₁ mg mb G Y fa o pm cd doc dV kV ho hd hcd hD hmg hg args vals as hpre hlay hrd hwl hlo
  have KX := km_in_of Y
  have hT8 := km_tabs_of Y
  have X := (Ground.X G).1
  have V := (Ground.X G).2
  refine Ground.open G ?_
  intro T B D TE TW
  try (refine guard_noD D (by decide +kernel) ?_; clear D)
  have hT9 : TabsAt [(88, 86)] _ := List.forall_mem_cons.mpr ⟨⟨codeHd_of_K (c := 88) (P := 86) KX (by kernel_rfl), hT8 86 (by k_mem)⟩, fun _ h => nomatch h⟩
  clear hmg
  wrow_args hpre hlay hrd hwl hlo
  all_goals (
    first | refine callC_kw (enter_call ?_) | refine enter_call ?_
    w_top on)
  refine my_post hT9 (fun _ => rfl) (postW_of rfl (w_eq_bool (w_res rfl) w_lit) rfl) ?_
  w_call any ho hd hcd hD T F
  clear hd
  kn_ghosts F T
  k_drop
  rename Top topProg _ _ _ _ _ => T8
  have T9 : Top topProg LO (ExcName.means s₀.heap) mg mb (ghostOf s₁.heap [(88, 86)]) := top_relax (p := topProg) T8 (by decide +kernel)
  clear T8
  clear hT8 X V T B TE TW G Y
  try clear hcd
  try clear hD
  refine foldB ?_
  intro qT ET hqT
  k_extra "nameA"
  (iterate 10 k_extra "wsf")
  refine csrc_range (n := 12) rfl (by k_asm) (by k_asm) (by assumption) (by decide) (by decide) (Nat.le_of_ble_eq_true rfl) (by decide) rfl rfl ?_
  intro g9 I9
  refine CRest.rep (I := fun i ys => ys.length = i ∧ ∀ y ∈ ys, ∃ n t, y = .int n t ∧ 0 ≤ n) ?_ 12 0 [] rfl ⟨rfl, nofun⟩ ?_
  · intro i ys hi12 hI C oC D m₂ h₁ tk₁ its O hoC hBd F2 N2 ap kp
    replace kp := KeepS.mk kp
    obtain ⟨q1, rfl, q2⟩ := objs_one O
    obtain ⟨t5, hm5⟩ := hBd
    simp only [List.cons_append, List.nil_append] at N2
    refine wpAny_tests_nil ?_
    (iterate 11 k_extra "wsf")
    (iterate 13 k_extra "wsf")
    (rotate_left; (iterate 7 k_extra "wsf"); rotate_right)
    skip
    all_goals
      refine CEnd.mk hoC (by k_asm) (by k_asm) (Sub.refl _) ap kp.h ⟨rfl, by simp [hI.1], ?_⟩
      intro y hy
      rcases List.mem_append.mp hy with hy | hy
      · exact hI.2 y hy
      · rw [List.mem_singleton.mp hy]
        exact ⟨_, _, rfl, by omega⟩
  intro ys hI D h2 tk2 F2 N2 off
  obtain ⟨hl, hI⟩ := hI
  replace off := off1_of off
  simp only [LCg.Off1, and_true] at off
  obtain ⟨y0, y1, y2, y3, y4, y5, y6, y7, y8, y9, y10, y11, rfl⟩ := twelve hl
  obtain ⟨g0, u0, rfl, p0⟩ := hI y0 (by simp)
  obtain ⟨g1, u1, rfl, p1⟩ := hI y1 (by simp)
  obtain ⟨g2, u2, rfl, p2⟩ := hI y2 (by simp)
  obtain ⟨g3, u3, rfl, p3⟩ := hI y3 (by simp)
  obtain ⟨g4, u4, rfl, p4⟩ := hI y4 (by simp)
  obtain ⟨g5, u5, rfl, p5⟩ := hI y5 (by simp)
  obtain ⟨g6, u6, rfl, p6⟩ := hI y6 (by simp)
  obtain ⟨g7, u7, rfl, p7⟩ := hI y7 (by simp)
  obtain ⟨g8, u8, rfl, p8⟩ := hI y8 (by simp)
  obtain ⟨g9, u9, rfl, p9⟩ := hI y9 (by simp)
  obtain ⟨g10, u10, rfl, p10⟩ := hI y10 (by simp)
  obtain ⟨g11, u11, rfl, p11⟩ := hI y11 (by simp)
  clear hI hl
  refine letN N2 ?_
  clear N2
  intro GL N2
  (iterate 13 k_extra "wsf")
  -- E3
  change _ at w
  refine' prime_q ?cB ?cF ?cX ?cN ?cT ?ck ?cd ?cu ?e0 ?_
  case cB => k_asm
  case cF => k_asm
  case cX => k_asm
  case cN => k_asm
  case cT => k_asm
  case ck => rfl
  case cd => k_room
  case cu => k_units
  case e0 => first | assumption | omega
  intro q tq h3 tk3 n3 F3 N3 s3 hq
  replace N3 := News.sub N3 s3
  clear s3 n3
  have hb := hq.pb
  have hp := hb.1
  have hp1 : 1 < q := by have := hq.gt; omega
  (iterate 25 k_extra "wsf")
  rename Fr _ _ _ _ => F9
  rename News _ _ _ _ => N9
  obtain ⟨M, hM, F8⟩ := Fr.named F9
  refine wpAny_mono (Q := fun f s' => f = .next ∧ ∃ h tk n D₂ o₂ oG oP sa sb ka kb kc, s' = { s₁ with heap := h, toks := tk } ∧ Fr (ghostOf s₁.heap [(88, 86)]) s₁.heap.objs.size h M ∧ News (ghostOf s₁.heap [(88, 86)]) s₁.heap.objs.size h n ∧
    (86, tabObj #[]) ∈ n ∧ (D, GL) ∈ n ∧ (s₁.heap.objs.size + 1 + 1, oG) ∈ n ∧ oG.data = .cell (some (.ref D)) ∧ (s₁.heap.objs.size + 1 + 1 + 1, oP) ∈ n ∧ oP.data = .cell (some (.int q tq)) ∧
    (s₁.heap.objs.size + 1 + 1 + 1 + 1, o₂) ∈ n ∧ o₂.data = .cell (some (.ref D₂)) ∧ (D₂, tupO [.int sa ka, .int sb kb] kc) ∈ n ∧ RedF q (sa, sb) ∧ (sa, sb) ≠ (0, 0)) ?_ ?_ (fun _ _ h => h)
  · clear F8
    (iterate 12 k_extra "wsf")
    refine ite_split (fun c1 => ?_) (fun c1 => ?_)
    · (iterate 13 k_extra "wsf")
      refine ⟨rfl, _, _, _, _, _, _, _, _, _, _, _, _, rfl, by rw [hM]; k_asm, by k_asm, .tail _ (.tail _ (.tail _ (.tail _ (.tail _ (.tail _ (.tail _ (.tail _ (.head _)))))))), .tail _ (.tail _ (.tail _ (.head _))), .tail _ (.tail _ (.tail _ (.tail _ (.tail _ (.tail _ (.head _)))))), by assumption, .tail _ (.tail _ (.tail _ (.tail _ (.tail _ (.head _))))), by assumption, .tail _ (.tail _ (.tail _ (.tail _ (.head _)))), by assumption, .head _, ⟨⟨by omega, hp1⟩, ⟨by omega, hp⟩⟩, by decide⟩
    · (iterate 2 k_extra "wsf")
      rename News _ _ _ _ => N7
      refine ⟨rfl, _, _, _, _, _, _, _, _, _, _, _, _, rfl, by rw [hM]; k_asm, N7, .tail _ (.tail _ (.tail _ (.tail _ (.tail _ (.tail _ (.tail _ (.head _))))))), .tail _ (.tail _ (.head _)), .tail _ (.tail _ (.tail _ (.tail _ (.tail _ (.head _))))), by assumption, .tail _ (.tail _ (.tail _ (.tail _ (.head _)))), by assumption, .tail _ (.tail _ (.tail _ (.head _))), by assumption, .tail _ (.head _), Red.fmod hb _ _, ?_⟩
      intro e
      injection e with e1 e2
      exact c1 (by rw [e1, e2]; rfl)
  rintro f s' ⟨rfl, h4, tk4, n4, D₂, o₂, oG, oP, sa, sb, ka, kb, kc, rfl, F4, N4, m86, mG, moG, doG, moP, doP, mo2, do2, mS, hS, hS0⟩
  subst hM
  rename_i F3 N3
  clear F9 N9
  (iterate 2 k_extra "wsf")
  -- E4
  change _ at w
  (iterate 10 k_extra "wsf")
  refine csrc_tup (vs := [.int 3 _, .int 5 _, .int 7 _]) rfl (by k_asm) (by k_asm) (by k_mem) rfl rfl (Nat.le_of_ble_eq_true rfl) (by decide) rfl rfl ?_
  intro g1 I6
  k_extra "turnO"
  replace kp := KeepS.mk kp
  (iterate 24 k_extra "wsf")
  refine' point_q ?cB ?cF ?cX ?cN ?cT ?ck ?cd ?cu ?e0 ?e1 ?e2 ?_
  case cB => k_asm
  case cF => k_asm
  case cX => k_asm
  case cN => k_asm
  case cT => k_asm
  case ck => rfl
  case cd => k_room
  case cu => k_units
  case e0 => k_mem
  case e1 => k_asm
  case e2 => first | assumption | omega
  intro v1 h5 tk5 n5 P1 F5 N5 s5 hv1 ho1
  skip
  refine cend_fil hoC F5 N5 s5 ap q2 kp.h fun f1 uf1 tf1 => ?_
  replace hv1 := IsAf.subT hv1 tf1
  have sf1 : Sub _ f1 := uf1
  clear uf1 tf1 s5 N5 F5 n5 h5 tk5 ap kp O hoC q2 hm1 F2 N2
  rename InElt _ _ => cE
  clear cE qk ek q1 C oC D m₂ h2 tk2
  k_extra "turnO"
  replace kp := KeepS.mk kp
  (iterate 24 k_extra "wsf")
  refine' point_q ?cB ?cF ?cX ?cN ?cT ?ck ?cd ?cu ?e0 ?e1 ?e2 ?_
  case cB => k_asm
  case cF => k_asm
  case cX => k_asm
  case cN => k_asm
  case cT => k_asm
  case ck => rfl
  case cd => k_room
  case cu => k_units
  case e0 => k_mem
  case e1 => k_asm
  case e2 => first | assumption | omega
  intro v2 h5 tk5 n5 P2 F5 N5 s5 hv2 ho2
  skip
  refine cend_fil hoC F5 N5 s5 ap q2 kp.h fun f2 uf2 tf2 => ?_
  replace hv2 := IsAf.subT hv2 tf2
  replace hv1 := IsAf.sub hv1 uf2
  have sf2 : Sub _ f2 := uf2
  clear uf2 tf2 s5 N5 F5 n5 h5 tk5 ap kp O hoC q2 hm1 F2 N2
  rename InElt _ _ => cE
  clear cE qk ek q1 C oC D m₂ h2 tk2
  k_extra "turnO"
  replace kp := KeepS.mk kp
  (iterate 24 k_extra "wsf")
  refine' point_q ?cB ?cF ?cX ?cN ?cT ?ck ?cd ?cu ?e0 ?e1 ?e2 ?_
  case cB => k_asm
  case cF => k_asm
  case cX => k_asm
  case cN => k_asm
  case cT => k_asm
  case ck => rfl
  case cd => k_room
  case cu => k_units
  case e0 => k_mem
  case e1 => k_asm
  case e2 => first | assumption | omega
  intro v3 h5 tk5 n5 P3 F5 N5 s5 hv3 ho3
  skip
  refine cend_fil hoC F5 N5 s5 ap q2 kp.h fun f3 uf3 tf3 => ?_
  replace hv3 := IsAf.subT hv3 tf3
  replace hv1 := IsAf.sub hv1 uf3
  replace hv2 := IsAf.sub hv2 uf3
  have sf3 : Sub _ f3 := uf3
  clear uf3 tf3 s5 N5 F5 n5 h5 tk5 ap kp O hoC q2 hm1 F2 N2
  rename InElt _ _ => cE
  clear cE qk ek q1 C oC D m₂ h2 tk2
  k_extra "cfin"
  (iterate 24 k_extra "wsf")
  -- E5
  change _ at w
  have hst : Setting q (sa, sb) := ⟨hq, hS, hS0⟩
  have pt1 : Pt q (sa, sb) P1 := ⟨IsAf.red hv1, ho1⟩
  have pt2 : Pt q (sa, sb) P2 := ⟨IsAf.red hv2, ho2⟩
  have pt3 : Pt q (sa, sb) P3 := ⟨IsAf.red hv3, ho3⟩
  rename Fr _ _ _ _ => F9
  rename News _ _ _ _ => N9
  obtain ⟨M, hM, F8⟩ := Fr.named F9
  refine wpAny_mono (Q := JK s₁ (ghostOf s₁.heap [(88, 86)]) s₁.heap.objs.size q (sa, sb) f3 M) ?_ ?_ (fun _ _ h => h)
  · clear F8
    (iterate 12 k_extra "wsf")
    refine ite_split (fun c4 => ?_) (fun c4 => ?_)
    · (iterate 7 k_extra "wsf")
      refine ⟨rfl, _, _, _, v1, P1, v3, P3, rfl, Fr.conv (by k_asm) (by
        rw [hM]
        funext y
        by_cases h1 : y = Str.ofString "second"
        · subst h1; rfl
        · by_cases h2 : y = Str.ofString "third"
          · subst h2; rfl
          · simp (zetaDelta := true) only [if_neg h1, if_neg h2]), by k_asm, by k_extra "sub", ?_, ?_, pt1, pt3⟩
      · first | assumption | exact IsAf.sub (by assumption) (by k_extra "sub")
      · first | assumption | exact IsAf.sub (by assumption) (by k_extra "sub")
    · (iterate 2 k_extra "wsf")
      refine ⟨rfl, _, _, _, v2, P2, v3, P3, rfl, Fr.conv (by k_asm) (by
        rw [hM]
        funext y
        by_cases h1 : y = Str.ofString "second"
        · subst h1; rfl
        · by_cases h2 : y = Str.ofString "third"
          · subst h2; rfl
          · simp (zetaDelta := true) only [if_neg h1, if_neg h2]), by k_asm, by k_extra "sub", ?_, ?_, pt2, pt3⟩
      · first | assumption | exact IsAf.sub (by assumption) (by k_extra "sub")
      · first | assumption | exact IsAf.sub (by assumption) (by k_extra "sub")
  rintro f s' ⟨rfl, h6, tk6, n6, w2, R2, w3, R3, rfl, F6, N6, s6, hw2, hw3, pw2, pw3⟩
  clear F8 F9 N9 hv2 hv3 pt2 pt3 ho2 ho3
  (iterate 1 k_extra "wsf")
  refine wpAny_mono (Q := JK s₁ (ghostOf s₁.heap [(88, 86)]) s₁.heap.objs.size q (sa, sb) f3 M) ?_ ?_ (fun _ _ h => h)
  · subst hM
    (iterate 6 k_extra "wsf")
    refine ite_split (fun c4 => ?_) (fun c4 => ?_)
    · (iterate 16 k_extra "wsf")
      refine ⟨rfl, _, _, _, _, aneg q P1, w3, R3, rfl, Fr.conv (by k_asm) (by
        funext y
        by_cases h1 : y = Str.ofString "second"
        · subst h1; rfl
        · by_cases h2 : y = Str.ofString "third"
          · subst h2; rfl
          · simp (zetaDelta := true) only [if_neg h1, if_neg h2]), by k_asm, by k_extra "sub", ?_, ?_, pt_neg hst pt1, pw3⟩
      · first | assumption | exact IsAf.sub (by assumption) (by k_extra "sub")
      · first | assumption | exact IsAf.sub (by assumption) (by k_extra "sub")
    · (iterate 2 k_extra "wsf")
      refine ⟨rfl, _, _, _, w2, R2, w3, R3, rfl, Fr.conv (by k_asm) (by
        funext y
        by_cases h1 : y = Str.ofString "second"
        · subst h1; rfl
        · by_cases h2 : y = Str.ofString "third"
          · subst h2; rfl
          · simp (zetaDelta := true) only [if_neg h1, if_neg h2]), by k_asm, by k_extra "sub", ?_, ?_, pw2, pw3⟩
      · first | assumption | exact IsAf.sub (by assumption) (by k_extra "sub")
      · first | assumption | exact IsAf.sub (by assumption) (by k_extra "sub")
  clear F6 N6 hw2 hw3 pw2 pw3 s6
  rintro f s' ⟨rfl, h6, tk6, n6, w2, R2, w3, R3, rfl, F6, N6, s6, hw2, hw3, pw2, pw3⟩
  (iterate 1 k_extra "wsf")
  refine wpAny_mono (Q := JK s₁ (ghostOf s₁.heap [(88, 86)]) s₁.heap.objs.size q (sa, sb) f3 M) ?_ ?_ (fun _ _ h => h)
  · subst hM
    (iterate 6 k_extra "wsf")
    refine ite_split (fun c4 => ?_) (fun c4 => ?_)
    · (iterate 7 k_extra "wsf")
      refine ⟨rfl, _, _, _, w2, R2, v1, P1, rfl, Fr.conv (by k_asm) (by
        funext y
        by_cases h1 : y = Str.ofString "second"
        · subst h1; rfl
        · by_cases h2 : y = Str.ofString "third"
          · subst h2; rfl
          · simp (zetaDelta := true) only [if_neg h1, if_neg h2]), by k_asm, by k_extra "sub", ?_, ?_, pw2, pt1⟩
      · first | assumption | exact IsAf.sub (by assumption) (by k_extra "sub")
      · first | assumption | exact IsAf.sub (by assumption) (by k_extra "sub")
    · (iterate 2 k_extra "wsf")
      refine ⟨rfl, _, _, _, w2, R2, w3, R3, rfl, Fr.conv (by k_asm) (by
        funext y
        by_cases h1 : y = Str.ofString "second"
        · subst h1; rfl
        · by_cases h2 : y = Str.ofString "third"
          · subst h2; rfl
          · simp (zetaDelta := true) only [if_neg h1, if_neg h2]), by k_asm, by k_extra "sub", ?_, ?_, pw2, pw3⟩
      · first | assumption | exact IsAf.sub (by assumption) (by k_extra "sub")
      · first | assumption | exact IsAf.sub (by assumption) (by k_extra "sub")
  clear F6 N6 hw2 hw3 pw2 pw3 s6
  rintro f s' ⟨rfl, h6, tk6, n6, w2, R2, w3, R3, rfl, F6, N6, s6, hw2, hw3, pw2, pw3⟩
  (iterate 1 k_extra "wsf")
  refine wpAny_mono (Q := JK s₁ (ghostOf s₁.heap [(88, 86)]) s₁.heap.objs.size q (sa, sb) f3 M) ?_ ?_ (fun _ _ h => h)
  · subst hM
    (iterate 6 k_extra "wsf")
    refine ite_split (fun c4 => ?_) (fun c4 => ?_)
    · (iterate 27 k_extra "wsf")
      refine ⟨rfl, _, _, _, w2, R2, _, aneg q (asum q P1 R2), rfl, Fr.conv (by k_asm) (by
        funext y
        by_cases h1 : y = Str.ofString "second"
        · subst h1; rfl
        · by_cases h2 : y = Str.ofString "third"
          · subst h2; rfl
          · simp (zetaDelta := true) only [if_neg h1, if_neg h2]), by k_asm, by k_extra "sub", ?_, ?_, pw2, pt_neg hst (pt_sum hst pt1 pw2)⟩
      · first | assumption | exact IsAf.sub (by assumption) (by k_extra "sub")
      · first | assumption | exact IsAf.sub (by assumption) (by k_extra "sub")
    · (iterate 2 k_extra "wsf")
      refine ⟨rfl, _, _, _, w2, R2, w3, R3, rfl, Fr.conv (by k_asm) (by
        funext y
        by_cases h1 : y = Str.ofString "second"
        · subst h1; rfl
        · by_cases h2 : y = Str.ofString "third"
          · subst h2; rfl
          · simp (zetaDelta := true) only [if_neg h1, if_neg h2]), by k_asm, by k_extra "sub", ?_, ?_, pw2, pw3⟩
      · first | assumption | exact IsAf.sub (by assumption) (by k_extra "sub")
      · first | assumption | exact IsAf.sub (by assumption) (by k_extra "sub")
  clear F6 N6 hw2 hw3 pw2 pw3 s6
  rintro f s' ⟨rfl, h6, tk6, n6, w2, R2, w3, R3, rfl, F6, N6, s6, hw2, hw3, pw2, pw3⟩
  (iterate 1 k_extra "wsf")
  refine wpAny_mono (Q := JK s₁ (ghostOf s₁.heap [(88, 86)]) s₁.heap.objs.size q (sa, sb) f3 M) ?_ ?_ (fun _ _ h => h)
  · subst hM
    (iterate 6 k_extra "wsf")
    refine ite_split (fun c4 => ?_) (fun c4 => ?_)
    · (iterate 16 k_extra "wsf")
      refine ⟨rfl, _, _, _, w2, R2, _, aneg q R2, rfl, Fr.conv (by k_asm) (by
        funext y
        by_cases h1 : y = Str.ofString "second"
        · subst h1; rfl
        · by_cases h2 : y = Str.ofString "third"
          · subst h2; rfl
          · simp (zetaDelta := true) only [if_neg h1, if_neg h2]), by k_asm, by k_extra "sub", ?_, ?_, pw2, pt_neg hst pw2⟩
      · first | assumption | exact IsAf.sub (by assumption) (by k_extra "sub")
      · first | assumption | exact IsAf.sub (by assumption) (by k_extra "sub")
    · (iterate 2 k_extra "wsf")
      refine ⟨rfl, _, _, _, w2, R2, w3, R3, rfl, Fr.conv (by k_asm) (by
        funext y
        by_cases h1 : y = Str.ofString "second"
        · subst h1; rfl
        · by_cases h2 : y = Str.ofString "third"
          · subst h2; rfl
          · simp (zetaDelta := true) only [if_neg h1, if_neg h2]), by k_asm, by k_extra "sub", ?_, ?_, pw2, pw3⟩
      · first | assumption | exact IsAf.sub (by assumption) (by k_extra "sub")
      · first | assumption | exact IsAf.sub (by assumption) (by k_extra "sub")
  clear F6 N6 hw2 hw3 pw2 pw3 s6
  rintro f s' ⟨rfl, h6, tk6, n6, w2, R2, w3, R3, rfl, F6, N6, s6, hw2, hw3, pw2, pw3⟩
  -- E6
  change _ at w
  (iterate 24 k_extra "wsf")
  rename Fr _ _ _ _ => F9
  rename News _ _ _ _ => N9
  refine wpAny_mono (Q := fun f s' => f = .next ∧ ∃ h tk n D₃ a b ka kb kc, s' = { s₁ with heap := h, toks := tk } ∧ Fr (ghostOf s₁.heap [(88, 86)]) s₁.heap.objs.size h (fun y => if y = Str.ofString "scale" then some (.ref D₃) else if y = Str.ofString "second" then some w2 else if y = Str.ofString "third" then some w3 else M y) ∧
    News (ghostOf s₁.heap [(88, 86)]) s₁.heap.objs.size h n ∧ Sub n6 n ∧ (D₃, tupO [.int a ka, .int b kb] kc) ∈ n ∧ RedF q (a, b) ∧ (a, b) ≠ (0, 0)) ?_ ?_ (fun _ _ h => h)
  · (iterate 12 k_extra "wsf")
    refine ite_split (fun c1 => ?_) (fun c1 => ?_)
    · (iterate 13 k_extra "wsf")
      refine ⟨rfl, _, _, _, _, _, _, _, _, _, rfl, Fr.conv (by k_asm) (by
        funext y
        by_cases h1 : y = Str.ofString "scale"
        · subst h1; rfl
        · simp (zetaDelta := true) only [if_neg h1]), by k_asm, by k_extra "sub", .head _, ⟨⟨by omega, hp1⟩, ⟨by omega, hp⟩⟩, by decide⟩
    · (iterate 2 k_extra "wsf")
      refine ⟨rfl, _, _, _, _, _, _, _, _, _, rfl, by k_asm, by k_asm, by k_extra "sub", .tail _ (.head _), Red.fmod hb _ _, ?_⟩
      intro e
      exact c1 (by rw [show g10.fmod q = 0 from congrArg Prod.fst e, show g11.fmod q = 0 from congrArg Prod.snd e]; rfl)
  rintro f s' ⟨rfl, h7, tk7, n7, D₃, a₃, b₃, ka₃, kb₃, kc₃, rfl, F7, N7, s7, mC, hC, hC0⟩
  clear F9 N9
  subst hM
  have a71 := RedF.b1 hb hC
  have a72 := RedF.b2 hb hC
  (iterate 15 k_extra "wsf")
  have L4 : ∀ x ∈ n4, x ∈ n7 := fun x hx => s7 _ (s6 _ (sf3 _ (sf2 _ (sf1 _ (.tail _ hx)))))
  obtain ⟨N10, up, up'⟩ := un86_all N7 (L4 _ m86)
  have tup : ∀ z vs c, (z, tupO vs c) ∈ n7 → (z, tupO vs c) ∈ un86 n7 := fun z vs c h => up _ h (by intro x; cases x)
  have hv1' := IsAf.subT (IsAf.sub hv1 (Sub.trans s6 s7)) tup
  have hw2' := IsAf.subT (IsAf.sub hw2 s7) tup
  have hw3' := IsAf.subT (IsAf.sub hw3 s7) tup
  have mC' := tup _ _ _ mC
  have mS' := tup _ _ _ (L4 _ mS)
  have mG' := up _ (L4 _ mG) (by intro x; cases x)
  have moG' := up' _ (L4 _ moG) (by show ¬ s₁.heap.objs.size + 1 + 1 = 86; omega)
  have moP' := up' _ (L4 _ moP) (by show ¬ s₁.heap.objs.size + 1 + 1 + 1 = 86; omega)
  have mo2' := up' _ (L4 _ mo2) (by show ¬ s₁.heap.objs.size + 1 + 1 + 1 + 1 = 86; omega)
  refine' form_first ?cB ?cF ?cX N10 ?cT rfl un86_ne ?cd ?cu hv1' mC' hC hb ?_
  case cB => k_asm
  case cF => k_asm
  case cX => k_asm
  case cT => k_asm
  case cd => k_room
  case cu => k_units
  intro zH s8 n8 F8 sr8 N8 s8' tb8 ptH
  have av1 := IsAf.sub hv1' s8'
  have av2 := IsAf.sub hw2' s8'
  have av3 := IsAf.sub hw3' s8'
  have aC := s8' _ mC'
  have aS := s8' _ mS'
  have aG := s8' _ mG'
  have aoG := s8' _ moG'
  have aoP := s8' _ moP'
  have ao2 := s8' _ mo2'
  clear hv1' hw2' hw3' mC' mS' mG' moG' moP' mo2' s8' tup up up' N10 L4 N7 F7 mC s7 s6 hv1 hw2 hw3 mS mG moG moP mo2 m86 sf1 sf2 sf3
  -- E7
  change _ at w
  have hCs : RedF q (b₃, a₃) := ⟨hC.2, hC.1⟩
  (iterate 96 k_extra "wsf")
  -- E8
  change _ at w
  rename IsPt _ _ _ _ (aform q (b₃, a₃) R3) => ptL
  rename IsPt _ _ _ _ (aform q (_, _) R2) => ptT
  have rH : Rep q (aform q (a₃, b₃) P1) P1 := rep_form hst pt1 hC hC0
  have rT := rep_form (sc := fmul q (a₃, b₃) (a₃, b₃)) hst pw2 (Red.fmod hb _ _) (fmul_ne hst hC hC hC0 hC0)
  have rL : Rep q (aform q (b₃, a₃) R3) R3 := rep_form hst pw3 hCs (fun e => hC0 (by rw [show a₃ = 0 from congrArg Prod.snd e, show b₃ = 0 from congrArg Prod.fst e]))
  have pd := pt_sum hst pt1 pw2
  rename Fr _ _ _ _ => F9
  rename News _ _ _ _ => N9
  obtain ⟨M, hM, F8'⟩ := Fr.named F9
  obtain ⟨n0, hn0, N8'⟩ := News.named N9
  refine wpAny_mono (Q := JT w.params (ghostOf s₁.heap [(88, 86)]) s₁.heap.objs.size q n0 s₁ M (asum q P1 R2) (asum q (asum q P1 R2) R3)) ?_ ?_ (fun _ _ h => h)
  · clear F8' N8'
    (iterate 15 k_extra "wsf")
    refine ite_split (fun c1 => ?_) (fun c1 => ?_)
    · (iterate 30 k_extra "wsf")
      refine ⟨rfl, _, _, padd q (aform q (a₃, b₃) P1) (aform q (fmul q (a₃, b₃) (a₃, b₃)) R2), _, padd q (padd q (aform q (a₃, b₃) P1) (aform q (fmul q (a₃, b₃) (a₃, b₃)) R2)) (aform q (b₃, a₃) R3), by rw [hM]; k_asm, by k_asm, by k_extra "sr", by rw [hn0]; k_extra "sub", ?_, ?_, ?_, ?_⟩
      · exact IsPt.sub (by assumption) (by k_extra "sub")
      · exact rep_add hst pt1 pw2 rH rT
      · exact IsPt.sub (by assumption) (by k_extra "sub")
      · exact rep_add hst pd pw3 (rep_add hst pt1 pw2 rH rT) rL
    · (iterate 39 k_extra "wsf")
      refine ⟨rfl, _, _, padd q (aform q (fmul q (a₃, b₃) (a₃, b₃)) R2) (aform q (a₃, b₃) P1), _, padd q (aform q (a₃, b₃) P1) (padd q (aform q (fmul q (a₃, b₃) (a₃, b₃)) R2) (aform q (b₃, a₃) R3)), by rw [hM]; k_asm, by k_asm, by k_extra "sr", by rw [hn0]; k_extra "sub", ?_, ?_, ?_, ?_⟩
      · exact IsPt.sub (by assumption) (by k_extra "sub")
      · exact sum_comm hst pw2 pt1 ▸ rep_add hst pw2 pt1 rT rH
      · exact IsPt.sub (by assumption) (by k_extra "sub")
      · exact sum_assoc hst pt1 pw2 pw3 ▸ rep_add hst pt1 (pt_sum hst pw2 pw3) rH (rep_add hst pw2 pw3 rT rL)
  rintro f s' ⟨rfl, n9, zB, GB, zT, GT, F, N, sr9, sub9, ptB, rB, ptO, rO⟩
  clear F8' N8' F9 N9
  subst hM
  subst hn0
  -- E9
  change _ at w
  have pw := pt_sum hst pd pw3
  have r1 := rep_reads rB
  have r2 := rep_reads rO
  have r3 := rep_reads (rep_neg hst pt1 rH)
  have c1 := rep_curve hst pw rO
  have q7 := hq.gt
  have h21 : RedF q (2, 1) := ⟨⟨by omega, by omega⟩, ⟨by omega, by omega⟩⟩
  have e1 := (rep_eq hst pw pw rO (rep_form (sc := (2, 1)) hst pw h21 (by decide))).mpr rfl
  (iterate 16 k_extra "wsf")
  walk1
  (iterate 16 k_extra "wsf")
  walk1
  (iterate 32 k_extra "wsf")
  walk1
  (iterate 2 k_extra "wsf")
  walk1
  (iterate 19 k_extra "wsf")
  walk1
  (iterate 10 k_extra "wsf")
  walk1
  (iterate 4 k_extra "wsf")
  walk1
  (iterate 13 k_extra "wsf")
  walk1
  (iterate 3 k_extra "wsf")
  rename (_ = true ↔ fmul _ _ _ = _ ∧ _) => hr1
  refine' eq_af ?cB ?cF ?cX ?cN ?cT ?ck ?cd ?cu ?e0 ?e1 ?_
  case cB => k_asm
  case cF => k_asm
  case cX => k_asm
  case cN => k_asm
  case cT => k_asm
  case ck => rfl
  case cd => k_room
  case cu => k_units
  case e0 => exact IsAf.sub (by assumption) (by k_extra "sub")
  case e1 => exact IsAf.sub (by assumption) (by k_extra "sub")
  intro r2 tk2 hr2
  have hr3 := hr1.trans (rep_eq hst pt1 pw2 rH rT)
  have r12 := Bool.eq_iff_iff.mpr (hr3.trans hr2.symm)
  (iterate 2 k_extra "wsf")
  rw [if_neg (by rw [r12]; simp)]
  (iterate 21 k_extra "wsf")
  walk1
  (iterate 2 k_extra "wsf")
  walk1
  (iterate 11 k_extra "wsf")
  walk1
  (iterate 3 k_extra "wsf")
  rename (_ = true ↔ GT.2.2 = _) => hr5
  replace hr5 := hr5.trans (rep_inf rO)
  rename IsAf q _ _ (asum q (asum q P1 R2) R3) => hwh
  generalize asum q (asum q P1 R2) R3 = W at hwh hr5
  rcases W with _ | ⟨⟨x1, x2⟩, ⟨y1, y2⟩⟩
  · obtain hv9 := (show _ = Value.none from hwh)
    rw [hv9]
    obtain rfl := hr5.mpr rfl
    (iterate 2 k_extra "wsf")
    rename Fr _ _ _ _ => FZ
    rename News _ _ _ _ => NZ
    refine ⟨rfl, FZ.keep, ?_⟩
    refine (fun (a : _ ∧ _) b => ⟨a.1, a.2, b⟩ : ∀ {A B C : Prop}, A ∧ B → C → A ∧ B ∧ C) (law_end (S := s₁) (by k_extra "sr") hg) ?_
    obtain ⟨cz, mz⟩ := tb8
    exact ⟨GrownAt.of NZ ((by k_extra "sub" : Sub n8 _) _ mz), trivial⟩
  · obtain ⟨z9, zx9, zy9, n9', hv9, -⟩ := hwh
    rw [hv9]
    have hr6 := Bool.eq_false_iff.mpr (fun e => by cases hr5.mp e)
    subst hr6
    (iterate 2 k_extra "wsf")
    rename Fr _ _ _ _ => FZ
    rename News _ _ _ _ => NZ
    refine ⟨rfl, FZ.keep, ?_⟩
    refine (fun (a : _ ∧ _) b => ⟨a.1, a.2, b⟩ : ∀ {A B C : Prop}, A ∧ B → C → A ∧ B ∧ C) (law_end (S := s₁) (by k_extra "sr") hg) ?_
    obtain ⟨cz, mz⟩ := tb8
    exact ⟨GrownAt.of NZ ((by k_extra "sub" : Sub n8 _) _ mz), trivial⟩

end Mine
end
end
set_option maxRecDepth 100000 in
theorem PySem.Challenge.cw_ll0049_01_holds : PySem.Challenge.rw_ll0049_01.Holds :=
  Mine.main.h
