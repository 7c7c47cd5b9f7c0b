import PyProof.Rows.All
import Wide.All
import OpenK.AllK
import Wide.FinOn
import Flt.RightMore
import PySem.Challenge.RW_rl0010_01
open PySem PySem.W PySem.Calls PyProof.Rows
set_option Elab.async false
set_option linter.unusedVariables false
set_option linter.unusedSimpArgs false

/-! HeadA -/
namespace Mine
open PySem PySem.W PySem.Calls PyProof.Rows
set_option maxRecDepth 100000
abbrev pw : Program := PySem.Challenge.pw_rl0010_01
noncomputable def stm (i : Nat) : Stmt := (pw.main.body[i]?).getD (.Pass ⟨0, 0, 0, 0⟩)
noncomputable def fpar : Stmt → Arguments
  | .FunctionDef _ a _ _ _ _ _ _ _ _ => a
  | _ => ⟨[], [], none, [], [], none, []⟩
noncomputable def fbod : Stmt → List Stmt
  | .FunctionDef _ _ b _ _ _ _ _ _ _ => b
  | _ => []
noncomputable def fsco : Stmt → Scope
  | .FunctionDef _ _ _ _ _ _ s _ _ _ => s
  | _ => { kind := .function, names := [], isGenerator := false, isCoroutine := false, more := [] }
/-- the set as it stands after j adds -/
noncomputable def item (k : Nat) : Value := .int (917536 + k) (240 + k)
noncomputable def entry (k : Nat) : Int × Value := (917536 + k, item k)
noncomputable def first : Int × Value := (917505, .int 917505 234)
noncomputable def esOf (j : Nat) : List (Int × Value) :=
  if j = 0 then [] else if j = 1 then [first] else if j = 2 then [entry 0, first] else if j = 3 then [entry 0, first, entry 1]
  else if j = 4 then [entry 0, first, entry 2, entry 1] else if j < 19 then entry 0 :: first :: entry 2 :: entry 3 :: entry 1 :: (List.range (j - 5)).map (fun k => entry (4 + k))
  else first :: (List.range (j - 1)).map entry
noncomputable def nOf (j : Nat) : Nat := if j < 5 then j else if j < 19 then j + 1 else if j < 77 then j + 2 else j + 3
noncomputable def maskOf (j : Nat) : Nat := if j < 5 then 7 else if j < 19 then 31 else if j < 77 then 127 else 511
noncomputable def movesOf (j : Nat) : Nat := if j < 5 then 0 else if j < 19 then 1 else if j < 77 then 2 else 3
noncomputable def placeOf (j : Nat) : List Nat :=
  if j = 0 then [] else if j = 1 then [1] else if j = 2 then [0, 1] else if j = 3 then [0, 1, 7] else if j = 4 then [0, 1, 2, 7]
  else if j < 19 then List.range j else 1 :: (List.range (j - 1)).map (fun k => 32 + k)
noncomputable def itemsOf (j : Nat) : List Value := (List.range j).map item
noncomputable def setOb (j : Nat) (led : Bool) : Obj := { cls := Value.type "set", data := Data.set (esOf j).toArray (nOf j) { mask := maskOf j, place := (placeOf j).toArray, dummies := #[], finger := 0, led := led, moves := movesOf j, plain := true } }
noncomputable def lstOb (j : Nat) : Obj := { cls := Value.type "list", data := Data.seq (itemsOf j).toArray (j + 2) }
noncomputable def ritOb (j : Nat) : Obj := { cls := Value.type "range_iterator", data := Data.fields #[.int (917536 + j) 0, .int (96 - j : Nat) 0, .int 1 0] }
noncomputable def litOb (j : Nat) : Obj := { cls := Value.type "list_iterator", data := Data.fields #[.ref 42, .int j 0] }
noncomputable def ob11 (_ : Params) : Obj := { cls := Value.type "tuple", data := Data.seq #[] }
noncomputable def ob12 (_ : Params) : Obj := { cls := Value.none, data := Data.fields #[] }
noncomputable def ob13 (_ : Params) : Obj := { cls := Value.type "code", data := Data.fields #[Value.str (Str.ofString "<module>") 182, Value.str (Str.ofString "<module>") 183, Value.str (Str.ofString "/claim/cut.py") 184, Value.int 1 0, Value.int 0 0, Value.int 0 0, Value.int 0 0, Value.int 0 0, Value.ref 11, Value.bool false, Value.int 181 0, Value.ref 12, Value.none, Value.none, Value.none, Value.none, Value.int 185 0, Value.int 1 0, Value.str (Str.ofString "/claim/cut.py") 186] }
noncomputable def ob14 (_ : Params) : Obj := { cls := Value.type "frame", slots := #[some (Value.ref 13), some (Value.ref 3), some (Value.ref 3), none, some (Value.str (Str.ofString "__main__") 164), none, some (Value.ref 0)] }
noncomputable def tr_sa (P : Params) : BT := (.node (boot_o_0 P) (.node (boot_o_1 P) (.node (boot_o_3 P) (.node (boot_o_7 P) .nil .nil) (.node (ob11 P) .nil .nil)) (.node (boot_o_5 P) (.node (boot_o_9 P) .nil .nil) (.node (ob13 P) .nil .nil))) (.node (boot_o_2 P) (.node (boot_o_4 P) (.node (boot_o_8 P) .nil .nil) (.node (ob12 P) .nil .nil)) (.node (boot_o_6 P) (.node (boot_o_10 P) .nil .nil) (.node (ob14 P) .nil .nil))))
noncomputable def ob3 (P : Params) : Obj := { cls := Value.type "dict", data := Data.dict #[{ hash := PyData.keyHash P (Str.ofString "__name__"), key := Value.str (Str.ofString "__name__") 165, val := Value.str (Str.ofString "cpy313.stringprep") 232 }, { hash := PyData.keyHash P (Str.ofString "__doc__"), key := Value.str (Str.ofString "__doc__") 166, val := Value.none }, { hash := PyData.keyHash P (Str.ofString "__package__"), key := Value.str (Str.ofString "__package__") 167, val := Value.none }, { hash := PyData.keyHash P (Str.ofString "__loader__"), key := Value.str (Str.ofString "__loader__") 168, val := Value.builtin "__main__.__loader__#opaque" }, { hash := PyData.keyHash P (Str.ofString "__spec__"), key := Value.str (Str.ofString "__spec__") 169, val := Value.none }, { hash := PyData.keyHash P (Str.ofString "__annotations__"), key := Value.str (Str.ofString "__annotations__") 170, val := Value.ref 6 }, { hash := PyData.keyHash P (Str.ofString "__builtins__"), key := Value.str (Str.ofString "__builtins__") 171, val := Value.ref 4 }, { hash := PyData.keyHash P (Str.ofString "__file__"), key := Value.str (Str.ofString "__file__") 173, val := Value.str (Str.ofString "/claim/cut.py") 172 }, { hash := PyData.keyHash P (Str.ofString "__cached__"), key := Value.str (Str.ofString "__cached__") 174, val := Value.none }, { hash := PyData.keyHash P (Str.ofString "rgb_to_hsv"), key := Value.str (Str.ofString "rgb_to_hsv") 206, val := Value.ref 21 }, { hash := PyData.keyHash P (Str.ofString "hsv_to_rgb"), key := Value.str (Str.ofString "hsv_to_rgb") 220, val := Value.ref 28 }, { hash := PyData.keyHash P (Str.ofString "_parse_varint"), key := Value.str (Str.ofString "_parse_varint") 231, val := Value.ref 35 }] 12 }
noncomputable def ob12_1 (_ : Params) : Obj := { cls := Value.none, data := Data.fields #[Value.int 2 0, Value.int 0 0, Value.ref 20, Value.int 21 0, Value.int 0 0, Value.ref 27, Value.int 43 0, Value.int 0 0, Value.ref 34] }
noncomputable def ob15 (_ : Params) : Obj := { cls := Value.type "tuple", data := Data.seq #[] }
noncomputable def ob16 (_ : Params) : Obj := { cls := Value.none, data := Data.fields #[] }
noncomputable def ob17 (_ : Params) : Obj := { cls := Value.type "tuple", data := Data.seq #[Value.str (Str.ofString "r") 192, Value.str (Str.ofString "g") 193, Value.str (Str.ofString "b") 194, Value.str (Str.ofString "maxc") 195, Value.str (Str.ofString "minc") 196, Value.str (Str.ofString "rangec") 197, Value.str (Str.ofString "v") 198, Value.str (Str.ofString "s") 199, Value.str (Str.ofString "rc") 200, Value.str (Str.ofString "gc") 201, Value.str (Str.ofString "bc") 202, Value.str (Str.ofString "h") 203] }
noncomputable def ob18 (_ : Params) : Obj := { cls := Value.type "tuple", data := Data.seq #[] }
noncomputable def ob19 (_ : Params) : Obj := { cls := Value.none, data := Data.func { name := Str.ofString "rgb_to_hsv", qualname := Str.ofString "rgb_to_hsv", params := fpar (stm 1), body := FuncBody.stmts (fbod (stm 1)), scope := fsco (stm 1), globals := 0, closure := [], defaults := Value.none, kwdefaults := Value.none } }
noncomputable def ob20 (_ : Params) : Obj := { cls := Value.type "code", data := Data.fields #[Value.str (Str.ofString "rgb_to_hsv") 189, Value.str (Str.ofString "rgb_to_hsv") 190, Value.str (Str.ofString "/claim/cut.py") 191, Value.int 2 0, Value.int 3 0, Value.int 0 0, Value.int 0 0, Value.int 3 0, Value.ref 15, Value.bool true, Value.int 181 0, Value.ref 16, Value.none, Value.ref 17, Value.ref 18, Value.ref 19, Value.int 204 0, Value.int 2 0, Value.str (Str.ofString "/claim/cut.py") 205] }
noncomputable def ob21 (_ : Params) : Obj := { cls := Value.type "function", data := Data.func { name := Str.ofString "rgb_to_hsv", qualname := Str.ofString "rgb_to_hsv", params := fpar (stm 1), body := FuncBody.stmts (fbod (stm 1)), scope := fsco (stm 1), globals := 3, closure := [], defaults := Value.none, kwdefaults := Value.none, pyModule := Value.str (Str.ofString "cpy313.colorsys") 187, code := Value.ref 20 } }
noncomputable def ob22 (_ : Params) : Obj := { cls := Value.type "tuple", data := Data.seq #[] }
noncomputable def ob23 (_ : Params) : Obj := { cls := Value.none, data := Data.fields #[] }
noncomputable def ob24 (_ : Params) : Obj := { cls := Value.type "tuple", data := Data.seq #[Value.str (Str.ofString "h") 210, Value.str (Str.ofString "s") 211, Value.str (Str.ofString "v") 212, Value.str (Str.ofString "i") 213, Value.str (Str.ofString "f") 214, Value.str (Str.ofString "p") 215, Value.str (Str.ofString "q") 216, Value.str (Str.ofString "t") 217] }
noncomputable def ob25 (_ : Params) : Obj := { cls := Value.type "tuple", data := Data.seq #[] }
noncomputable def ob26 (_ : Params) : Obj := { cls := Value.none, data := Data.func { name := Str.ofString "hsv_to_rgb", qualname := Str.ofString "hsv_to_rgb", params := fpar (stm 2), body := FuncBody.stmts (fbod (stm 2)), scope := fsco (stm 2), globals := 0, closure := [], defaults := Value.none, kwdefaults := Value.none } }
noncomputable def ob27 (_ : Params) : Obj := { cls := Value.type "code", data := Data.fields #[Value.str (Str.ofString "hsv_to_rgb") 207, Value.str (Str.ofString "hsv_to_rgb") 208, Value.str (Str.ofString "/claim/cut.py") 209, Value.int 21 0, Value.int 3 0, Value.int 0 0, Value.int 0 0, Value.int 3 0, Value.ref 22, Value.bool true, Value.int 181 0, Value.ref 23, Value.none, Value.ref 24, Value.ref 25, Value.ref 26, Value.int 218 0, Value.int 21 0, Value.str (Str.ofString "/claim/cut.py") 219] }
noncomputable def ob28 (_ : Params) : Obj := { cls := Value.type "function", data := Data.func { name := Str.ofString "hsv_to_rgb", qualname := Str.ofString "hsv_to_rgb", params := fpar (stm 2), body := FuncBody.stmts (fbod (stm 2)), scope := fsco (stm 2), globals := 3, closure := [], defaults := Value.none, kwdefaults := Value.none, pyModule := Value.str (Str.ofString "cpy313.colorsys") 187, code := Value.ref 27 } }
noncomputable def ob29 (_ : Params) : Obj := { cls := Value.type "tuple", data := Data.seq #[] }
noncomputable def ob30 (_ : Params) : Obj := { cls := Value.none, data := Data.fields #[] }
noncomputable def ob31 (_ : Params) : Obj := { cls := Value.type "tuple", data := Data.seq #[Value.str (Str.ofString "iterator") 226, Value.str (Str.ofString "b") 227, Value.str (Str.ofString "val") 228] }
noncomputable def ob32 (_ : Params) : Obj := { cls := Value.type "tuple", data := Data.seq #[] }
noncomputable def ob33 (_ : Params) : Obj := { cls := Value.none, data := Data.func { name := Str.ofString "_parse_varint", qualname := Str.ofString "_parse_varint", params := fpar (stm 4), body := FuncBody.stmts (fbod (stm 4)), scope := fsco (stm 4), globals := 0, closure := [], defaults := Value.none, kwdefaults := Value.none } }
noncomputable def ob34 (_ : Params) : Obj := { cls := Value.type "code", data := Data.fields #[Value.str (Str.ofString "_parse_varint") 223, Value.str (Str.ofString "_parse_varint") 224, Value.str (Str.ofString "/claim/cut.py") 225, Value.int 43 0, Value.int 1 0, Value.int 0 0, Value.int 0 0, Value.int 3 0, Value.ref 29, Value.bool true, Value.int 181 0, Value.ref 30, Value.none, Value.ref 31, Value.ref 32, Value.ref 33, Value.int 229 0, Value.int 43 0, Value.str (Str.ofString "/claim/cut.py") 230] }
noncomputable def ob35 (_ : Params) : Obj := { cls := Value.type "function", data := Data.func { name := Str.ofString "_parse_varint", qualname := Str.ofString "_parse_varint", params := fpar (stm 4), body := FuncBody.stmts (fbod (stm 4)), scope := fsco (stm 4), globals := 3, closure := [], defaults := Value.none, kwdefaults := Value.none, pyModule := Value.str (Str.ofString "cpy313.dis") 221, code := Value.ref 34 } }
noncomputable def tr_s6 (P : Params) : BT := (.node (boot_o_0 P) (.node (boot_o_1 P) (.node (ob3 P) (.node (boot_o_7 P) (.node (ob15 P) (.node (ob31 P) .nil .nil) .nil) (.node (ob23 P) .nil .nil)) (.node (ob11 P) (.node (ob19 P) (.node (ob35 P) .nil .nil) .nil) (.node (ob27 P) .nil .nil))) (.node (boot_o_5 P) (.node (boot_o_9 P) (.node (ob17 P) (.node (ob33 P) .nil .nil) .nil) (.node (ob25 P) .nil .nil)) (.node (ob13 P) (.node (ob21 P) .nil .nil) (.node (ob29 P) .nil .nil)))) (.node (boot_o_2 P) (.node (boot_o_4 P) (.node (boot_o_8 P) (.node (ob16 P) (.node (ob32 P) .nil .nil) .nil) (.node (ob24 P) .nil .nil)) (.node (ob12_1 P) (.node (ob20 P) .nil .nil) (.node (ob28 P) .nil .nil))) (.node (boot_o_6 P) (.node (boot_o_10 P) (.node (ob18 P) (.node (ob34 P) .nil .nil) .nil) (.node (ob26 P) .nil .nil)) (.node (ob14 P) (.node (ob22 P) .nil .nil) (.node (ob30 P) .nil .nil)))))
noncomputable def ob36 (_ : Params) : Obj := { cls := Value.type "list", data := Data.seq #[Value.int 917505 234] }
noncomputable def ob37 (_ : Params) : Obj := { cls := Value.type "range", data := Data.fields #[Value.int 917536 235, Value.int 917632 236, Value.int 1 237] }
noncomputable def tr_l0 (j : Nat) (P : Params) : BT := (.node (boot_o_0 P) (.node (boot_o_1 P) (.node (ob3 P) (.node (boot_o_7 P) (.node (ob15 P) (.node (ob31 P) .nil .nil) .nil) (.node (ob23 P) (.node (ritOb j) .nil .nil) .nil)) (.node (ob11 P) (.node (ob19 P) (.node (ob35 P) .nil .nil) .nil) (.node (ob27 P) .nil .nil))) (.node (boot_o_5 P) (.node (boot_o_9 P) (.node (ob17 P) (.node (ob33 P) .nil .nil) .nil) (.node (ob25 P) .nil .nil)) (.node (ob13 P) (.node (ob21 P) (.node (ob37 P) .nil .nil) .nil) (.node (ob29 P) .nil .nil)))) (.node (boot_o_2 P) (.node (boot_o_4 P) (.node (boot_o_8 P) (.node (ob16 P) (.node (ob32 P) .nil .nil) .nil) (.node (ob24 P) .nil .nil)) (.node (ob12_1 P) (.node (ob20 P) (.node (ob36 P) .nil .nil) .nil) (.node (ob28 P) .nil .nil))) (.node (boot_o_6 P) (.node (boot_o_10 P) (.node (ob18 P) (.node (ob34 P) .nil .nil) .nil) (.node (ob26 P) .nil .nil)) (.node (ob14 P) (.node (ob22 P) (.node (lstOb j) .nil .nil) .nil) (.node (ob30 P) .nil .nil)))))
noncomputable def ob40 (_ : Params) : Obj := { cls := Value.type "tuple", data := Data.seq #[] }
noncomputable def ob41 (_ : Params) : Obj := { cls := Value.type "StopIteration", data := Data.fields #[Value.ref 40, Value.none, Value.none, Value.none, Value.bool false, Value.none] }
noncomputable def ob42 (_ : Params) : Obj := { cls := Value.type "list", data := Data.seq (Value.int 917505 234 :: itemsOf 96).toArray }
noncomputable def tr_t0 (j : Nat) (led : Bool) (P : Params) : BT := (.node (boot_o_0 P) (.node (boot_o_1 P) (.node (ob3 P) (.node (boot_o_7 P) (.node (ob15 P) (.node (ob31 P) .nil .nil) .nil) (.node (ob23 P) (.node (ritOb 96) .nil .nil) .nil)) (.node (ob11 P) (.node (ob19 P) (.node (ob35 P) .nil .nil) .nil) (.node (ob27 P) (.node (setOb j led) .nil .nil) .nil))) (.node (boot_o_5 P) (.node (boot_o_9 P) (.node (ob17 P) (.node (ob33 P) .nil .nil) .nil) (.node (ob25 P) (.node (ob41 P) .nil .nil) .nil)) (.node (ob13 P) (.node (ob21 P) (.node (ob37 P) .nil .nil) .nil) (.node (ob29 P) .nil .nil)))) (.node (boot_o_2 P) (.node (boot_o_4 P) (.node (boot_o_8 P) (.node (ob16 P) (.node (ob32 P) .nil .nil) .nil) (.node (ob24 P) (.node (ob40 P) .nil .nil) .nil)) (.node (ob12_1 P) (.node (ob20 P) (.node (ob36 P) .nil .nil) .nil) (.node (ob28 P) (.node (litOb j) .nil .nil) .nil))) (.node (boot_o_6 P) (.node (boot_o_10 P) (.node (ob18 P) (.node (ob34 P) .nil .nil) .nil) (.node (ob26 P) (.node (ob42 P) .nil .nil) .nil)) (.node (ob14 P) (.node (ob22 P) (.node (lstOb 96) .nil .nil) .nil) (.node (ob30 P) .nil .nil)))))
noncomputable def ob3_1 (P : Params) : Obj := { cls := Value.type "dict", data := Data.dict #[{ hash := PyData.keyHash P (Str.ofString "__name__"), key := Value.str (Str.ofString "__name__") 165, val := Value.str (Str.ofString "cpy313.stringprep") 232 }, { hash := PyData.keyHash P (Str.ofString "__doc__"), key := Value.str (Str.ofString "__doc__") 166, val := Value.none }, { hash := PyData.keyHash P (Str.ofString "__package__"), key := Value.str (Str.ofString "__package__") 167, val := Value.none }, { hash := PyData.keyHash P (Str.ofString "__loader__"), key := Value.str (Str.ofString "__loader__") 168, val := Value.builtin "__main__.__loader__#opaque" }, { hash := PyData.keyHash P (Str.ofString "__spec__"), key := Value.str (Str.ofString "__spec__") 169, val := Value.none }, { hash := PyData.keyHash P (Str.ofString "__annotations__"), key := Value.str (Str.ofString "__annotations__") 170, val := Value.ref 6 }, { hash := PyData.keyHash P (Str.ofString "__builtins__"), key := Value.str (Str.ofString "__builtins__") 171, val := Value.ref 4 }, { hash := PyData.keyHash P (Str.ofString "__file__"), key := Value.str (Str.ofString "__file__") 173, val := Value.str (Str.ofString "/claim/cut.py") 172 }, { hash := PyData.keyHash P (Str.ofString "__cached__"), key := Value.str (Str.ofString "__cached__") 174, val := Value.none }, { hash := PyData.keyHash P (Str.ofString "rgb_to_hsv"), key := Value.str (Str.ofString "rgb_to_hsv") 206, val := Value.ref 21 }, { hash := PyData.keyHash P (Str.ofString "hsv_to_rgb"), key := Value.str (Str.ofString "hsv_to_rgb") 220, val := Value.ref 28 }, { hash := PyData.keyHash P (Str.ofString "_parse_varint"), key := Value.str (Str.ofString "_parse_varint") 231, val := Value.ref 35 }, { hash := PyData.keyHash P (Str.ofString "c9_set"), key := Value.str (Str.ofString "c9_set") 433, val := Value.ref 43 }] 13 }
noncomputable def ob44 (_ : Params) : Obj := { cls := Value.type "list_iterator", data := Data.fields #[Value.none, Value.int 97 0] }
noncomputable def ob45 (_ : Params) : Obj := { cls := Value.type "tuple", data := Data.seq #[] }
noncomputable def ob46 (_ : Params) : Obj := { cls := Value.type "StopIteration", data := Data.fields #[Value.ref 45, Value.none, Value.none, Value.none, Value.bool false, Value.none] }
noncomputable def tr_s7 (led : Bool) (P : Params) : BT := (.node (boot_o_0 P) (.node (boot_o_1 P) (.node (ob3_1 P) (.node (boot_o_7 P) (.node (ob15 P) (.node (ob31 P) .nil .nil) .nil) (.node (ob23 P) (.node (ritOb 96) .nil .nil) .nil)) (.node (ob11 P) (.node (ob19 P) (.node (ob35 P) .nil .nil) .nil) (.node (ob27 P) (.node (setOb 97 led) .nil .nil) .nil))) (.node (boot_o_5 P) (.node (boot_o_9 P) (.node (ob17 P) (.node (ob33 P) .nil .nil) .nil) (.node (ob25 P) (.node (ob41 P) .nil .nil) .nil)) (.node (ob13 P) (.node (ob21 P) (.node (ob37 P) .nil .nil) .nil) (.node (ob29 P) (.node (ob45 P) .nil .nil) .nil)))) (.node (boot_o_2 P) (.node (boot_o_4 P) (.node (boot_o_8 P) (.node (ob16 P) (.node (ob32 P) .nil .nil) .nil) (.node (ob24 P) (.node (ob40 P) .nil .nil) .nil)) (.node (ob12_1 P) (.node (ob20 P) (.node (ob36 P) .nil .nil) .nil) (.node (ob28 P) (.node (ob44 P) .nil .nil) .nil))) (.node (boot_o_6 P) (.node (boot_o_10 P) (.node (ob18 P) (.node (ob34 P) .nil .nil) .nil) (.node (ob26 P) (.node (ob42 P) .nil .nil) .nil)) (.node (ob14 P) (.node (ob22 P) (.node (lstOb 96) .nil .nil) .nil) (.node (ob30 P) (.node (ob46 P) .nil .nil) .nil)))))
noncomputable def ob3_2 (P : Params) : Obj := { cls := Value.type "dict", data := Data.dict #[{ hash := PyData.keyHash P (Str.ofString "__name__"), key := Value.str (Str.ofString "__name__") 165, val := Value.str (Str.ofString "law_rl0010_01") 441 }, { hash := PyData.keyHash P (Str.ofString "__doc__"), key := Value.str (Str.ofString "__doc__") 166, val := Value.none }, { hash := PyData.keyHash P (Str.ofString "__package__"), key := Value.str (Str.ofString "__package__") 167, val := Value.none }, { hash := PyData.keyHash P (Str.ofString "__loader__"), key := Value.str (Str.ofString "__loader__") 168, val := Value.builtin "__main__.__loader__#opaque" }, { hash := PyData.keyHash P (Str.ofString "__spec__"), key := Value.str (Str.ofString "__spec__") 169, val := Value.none }, { hash := PyData.keyHash P (Str.ofString "__annotations__"), key := Value.str (Str.ofString "__annotations__") 170, val := Value.ref 6 }, { hash := PyData.keyHash P (Str.ofString "__builtins__"), key := Value.str (Str.ofString "__builtins__") 171, val := Value.ref 4 }, { hash := PyData.keyHash P (Str.ofString "__file__"), key := Value.str (Str.ofString "__file__") 173, val := Value.str (Str.ofString "/claim/cut.py") 172 }, { hash := PyData.keyHash P (Str.ofString "__cached__"), key := Value.str (Str.ofString "__cached__") 174, val := Value.none }, { hash := PyData.keyHash P (Str.ofString "rgb_to_hsv"), key := Value.str (Str.ofString "rgb_to_hsv") 206, val := Value.ref 21 }, { hash := PyData.keyHash P (Str.ofString "hsv_to_rgb"), key := Value.str (Str.ofString "hsv_to_rgb") 220, val := Value.ref 28 }, { hash := PyData.keyHash P (Str.ofString "_parse_varint"), key := Value.str (Str.ofString "_parse_varint") 231, val := Value.ref 35 }, { hash := PyData.keyHash P (Str.ofString "c9_set"), key := Value.str (Str.ofString "c9_set") 433, val := Value.ref 43 }, { hash := PyData.keyHash P (Str.ofString "in_table_c9"), key := Value.str (Str.ofString "in_table_c9") 440, val := Value.ref 53 }, { hash := PyData.keyHash P (Str.ofString "_law_heaps"), key := Value.str (Str.ofString "_law_heaps") 452, val := Value.ref 60 }, { hash := PyData.keyHash P (Str.ofString "_law_word"), key := Value.str (Str.ofString "_law_word") 460, val := Value.ref 67 }, { hash := PyData.keyHash P (Str.ofString "_law_number"), key := Value.str (Str.ofString "_law_number") 469, val := Value.ref 74 }, { hash := PyData.keyHash P (Str.ofString "_law_hidden"), key := Value.str (Str.ofString "_law_hidden") 475, val := Value.ref 79 }, { hash := PyData.keyHash P (Str.ofString "_law_paint"), key := Value.str (Str.ofString "_law_paint") 488, val := Value.ref 86 }, { hash := PyData.keyHash P (Str.ofString "_law_word_back"), key := Value.str (Str.ofString "_law_word_back") 494, val := Value.ref 91 }, { hash := PyData.keyHash P (Str.ofString "law"), key := Value.str (Str.ofString "law") 500, val := Value.ref 96 }] 21 }
noncomputable def ob12_2 (_ : Params) : Obj := { cls := Value.none, data := Data.fields #[Value.int 2 0, Value.int 0 0, Value.ref 20, Value.int 21 0, Value.int 0 0, Value.ref 27, Value.int 43 0, Value.int 0 0, Value.ref 34, Value.int 53 0, Value.int 0 0, Value.ref 52, Value.int 56 0, Value.int 0 0, Value.ref 59, Value.int 61 0, Value.int 0 0, Value.ref 66, Value.int 64 0, Value.int 0 0, Value.ref 73, Value.int 69 0, Value.int 0 0, Value.ref 78, Value.int 79 0, Value.int 0 0, Value.ref 85, Value.int 85 0, Value.int 0 0, Value.ref 90, Value.int 91 0, Value.int 0 0, Value.ref 95] }
noncomputable def ob47 (_ : Params) : Obj := { cls := Value.type "tuple", data := Data.seq #[] }
noncomputable def ob48 (_ : Params) : Obj := { cls := Value.none, data := Data.fields #[] }
noncomputable def ob49 (_ : Params) : Obj := { cls := Value.type "tuple", data := Data.seq #[Value.str (Str.ofString "code") 437] }
noncomputable def ob50 (_ : Params) : Obj := { cls := Value.type "tuple", data := Data.seq #[] }
noncomputable def ob51 (_ : Params) : Obj := { cls := Value.none, data := Data.func { name := Str.ofString "in_table_c9", qualname := Str.ofString "in_table_c9", params := fpar (stm 7), body := FuncBody.stmts (fbod (stm 7)), scope := fsco (stm 7), globals := 0, closure := [], defaults := Value.none, kwdefaults := Value.none } }
noncomputable def ob52 (_ : Params) : Obj := { cls := Value.type "code", data := Data.fields #[Value.str (Str.ofString "in_table_c9") 434, Value.str (Str.ofString "in_table_c9") 435, Value.str (Str.ofString "/claim/cut.py") 436, Value.int 53 0, Value.int 1 0, Value.int 0 0, Value.int 0 0, Value.int 3 0, Value.ref 47, Value.bool true, Value.int 181 0, Value.ref 48, Value.none, Value.ref 49, Value.ref 50, Value.ref 51, Value.int 438 0, Value.int 53 0, Value.str (Str.ofString "/claim/cut.py") 439] }
noncomputable def ob53 (_ : Params) : Obj := { cls := Value.type "function", data := Data.func { name := Str.ofString "in_table_c9", qualname := Str.ofString "in_table_c9", params := fpar (stm 7), body := FuncBody.stmts (fbod (stm 7)), scope := fsco (stm 7), globals := 3, closure := [], defaults := Value.none, kwdefaults := Value.none, pyModule := Value.str (Str.ofString "cpy313.stringprep") 232, code := Value.ref 52 } }
noncomputable def ob54 (_ : Params) : Obj := { cls := Value.type "tuple", data := Data.seq #[] }
noncomputable def ob55 (_ : Params) : Obj := { cls := Value.none, data := Data.fields #[] }
noncomputable def ob56 (_ : Params) : Obj := { cls := Value.type "tuple", data := Data.seq #[Value.str (Str.ofString "script") 446, Value.str (Str.ofString "heaps") 447, Value.str (Str.ofString "place") 448, Value.str (Str.ofString "number") 449] }
noncomputable def ob57 (_ : Params) : Obj := { cls := Value.type "tuple", data := Data.seq #[] }
noncomputable def ob58 (_ : Params) : Obj := { cls := Value.none, data := Data.func { name := Str.ofString "_law_heaps", qualname := Str.ofString "_law_heaps", params := fpar (stm 9), body := FuncBody.stmts (fbod (stm 9)), scope := fsco (stm 9), globals := 0, closure := [], defaults := Value.none, kwdefaults := Value.none } }
noncomputable def ob59 (_ : Params) : Obj := { cls := Value.type "code", data := Data.fields #[Value.str (Str.ofString "_law_heaps") 443, Value.str (Str.ofString "_law_heaps") 444, Value.str (Str.ofString "/claim/cut.py") 445, Value.int 56 0, Value.int 1 0, Value.int 0 0, Value.int 0 0, Value.int 3 0, Value.ref 54, Value.bool true, Value.int 181 0, Value.ref 55, Value.none, Value.ref 56, Value.ref 57, Value.ref 58, Value.int 450 0, Value.int 56 0, Value.str (Str.ofString "/claim/cut.py") 451] }
noncomputable def ob60 (_ : Params) : Obj := { cls := Value.type "function", data := Data.func { name := Str.ofString "_law_heaps", qualname := Str.ofString "_law_heaps", params := fpar (stm 9), body := FuncBody.stmts (fbod (stm 9)), scope := fsco (stm 9), globals := 3, closure := [], defaults := Value.none, kwdefaults := Value.none, pyModule := Value.str (Str.ofString "law_rl0010_01") 441, code := Value.ref 59 } }
noncomputable def ob61 (_ : Params) : Obj := { cls := Value.type "tuple", data := Data.seq #[] }
noncomputable def ob62 (_ : Params) : Obj := { cls := Value.none, data := Data.fields #[] }
noncomputable def ob63 (_ : Params) : Obj := { cls := Value.type "tuple", data := Data.seq #[Value.str (Str.ofString "heap") 456, Value.str (Str.ofString "last") 457] }
noncomputable def ob64 (_ : Params) : Obj := { cls := Value.type "tuple", data := Data.seq #[] }
noncomputable def ob65 (_ : Params) : Obj := { cls := Value.none, data := Data.func { name := Str.ofString "_law_word", qualname := Str.ofString "_law_word", params := fpar (stm 10), body := FuncBody.stmts (fbod (stm 10)), scope := fsco (stm 10), globals := 0, closure := [], defaults := Value.none, kwdefaults := Value.none } }
noncomputable def ob66 (_ : Params) : Obj := { cls := Value.type "code", data := Data.fields #[Value.str (Str.ofString "_law_word") 453, Value.str (Str.ofString "_law_word") 454, Value.str (Str.ofString "/claim/cut.py") 455, Value.int 61 0, Value.int 1 0, Value.int 0 0, Value.int 0 0, Value.int 3 0, Value.ref 61, Value.bool true, Value.int 181 0, Value.ref 62, Value.none, Value.ref 63, Value.ref 64, Value.ref 65, Value.int 458 0, Value.int 61 0, Value.str (Str.ofString "/claim/cut.py") 459] }
noncomputable def ob67 (_ : Params) : Obj := { cls := Value.type "function", data := Data.func { name := Str.ofString "_law_word", qualname := Str.ofString "_law_word", params := fpar (stm 10), body := FuncBody.stmts (fbod (stm 10)), scope := fsco (stm 10), globals := 3, closure := [], defaults := Value.none, kwdefaults := Value.none, pyModule := Value.str (Str.ofString "law_rl0010_01") 441, code := Value.ref 66 } }
noncomputable def ob68 (_ : Params) : Obj := { cls := Value.type "tuple", data := Data.seq #[] }
noncomputable def ob69 (_ : Params) : Obj := { cls := Value.none, data := Data.fields #[] }
noncomputable def ob70 (_ : Params) : Obj := { cls := Value.type "tuple", data := Data.seq #[Value.str (Str.ofString "word") 464, Value.str (Str.ofString "number") 465, Value.str (Str.ofString "figure") 466] }
noncomputable def ob71 (_ : Params) : Obj := { cls := Value.type "tuple", data := Data.seq #[] }
noncomputable def ob72 (_ : Params) : Obj := { cls := Value.none, data := Data.func { name := Str.ofString "_law_number", qualname := Str.ofString "_law_number", params := fpar (stm 11), body := FuncBody.stmts (fbod (stm 11)), scope := fsco (stm 11), globals := 0, closure := [], defaults := Value.none, kwdefaults := Value.none } }
noncomputable def ob73 (_ : Params) : Obj := { cls := Value.type "code", data := Data.fields #[Value.str (Str.ofString "_law_number") 461, Value.str (Str.ofString "_law_number") 462, Value.str (Str.ofString "/claim/cut.py") 463, Value.int 64 0, Value.int 1 0, Value.int 0 0, Value.int 0 0, Value.int 3 0, Value.ref 68, Value.bool true, Value.int 181 0, Value.ref 69, Value.none, Value.ref 70, Value.ref 71, Value.ref 72, Value.int 467 0, Value.int 64 0, Value.str (Str.ofString "/claim/cut.py") 468] }
noncomputable def ob74 (_ : Params) : Obj := { cls := Value.type "function", data := Data.func { name := Str.ofString "_law_number", qualname := Str.ofString "_law_number", params := fpar (stm 11), body := FuncBody.stmts (fbod (stm 11)), scope := fsco (stm 11), globals := 3, closure := [], defaults := Value.none, kwdefaults := Value.none, pyModule := Value.str (Str.ofString "law_rl0010_01") 441, code := Value.ref 73 } }
noncomputable def ob75 (_ : Params) : Obj := { cls := Value.type "tuple", data := Data.seq #[] }
noncomputable def ob76 (_ : Params) : Obj := { cls := Value.none, data := Data.fields #[] }
noncomputable def ob77 (_ : Params) : Obj := { cls := Value.none, data := Data.func { name := Str.ofString "_law_hidden", qualname := Str.ofString "_law_hidden", params := fpar (stm 12), body := FuncBody.stmts (fbod (stm 12)), scope := fsco (stm 12), globals := 0, closure := [], defaults := Value.none, kwdefaults := Value.none } }
noncomputable def ob78 (_ : Params) : Obj := { cls := Value.type "code", data := Data.fields #[Value.str (Str.ofString "_law_hidden") 470, Value.str (Str.ofString "_law_hidden") 471, Value.str (Str.ofString "/claim/cut.py") 472, Value.int 69 0, Value.int 2 0, Value.int 0 0, Value.int 0 0, Value.int 3 0, Value.ref 75, Value.bool true, Value.int 181 0, Value.ref 76, Value.none, Value.none, Value.none, Value.ref 77, Value.int 473 0, Value.int 69 0, Value.str (Str.ofString "/claim/cut.py") 474] }
noncomputable def ob79 (_ : Params) : Obj := { cls := Value.type "function", data := Data.func { name := Str.ofString "_law_hidden", qualname := Str.ofString "_law_hidden", params := fpar (stm 12), body := FuncBody.stmts (fbod (stm 12)), scope := fsco (stm 12), globals := 3, closure := [], defaults := Value.none, kwdefaults := Value.none, pyModule := Value.str (Str.ofString "law_rl0010_01") 441, code := Value.ref 78 } }
noncomputable def ob80 (_ : Params) : Obj := { cls := Value.type "tuple", data := Data.seq #[] }
noncomputable def ob81 (_ : Params) : Obj := { cls := Value.none, data := Data.fields #[] }
noncomputable def ob82 (_ : Params) : Obj := { cls := Value.type "tuple", data := Data.seq #[Value.str (Str.ofString "part") 479, Value.str (Str.ofString "wheel") 480, Value.str (Str.ofString "share") 481, Value.str (Str.ofString "size") 482, Value.str (Str.ofString "due") 483, Value.str (Str.ofString "corner") 484, Value.str (Str.ofString "away") 485] }
noncomputable def ob83 (_ : Params) : Obj := { cls := Value.type "tuple", data := Data.seq #[] }
noncomputable def ob84 (_ : Params) : Obj := { cls := Value.none, data := Data.func { name := Str.ofString "_law_paint", qualname := Str.ofString "_law_paint", params := fpar (stm 13), body := FuncBody.stmts (fbod (stm 13)), scope := fsco (stm 13), globals := 0, closure := [], defaults := Value.none, kwdefaults := Value.none } }
noncomputable def ob85 (_ : Params) : Obj := { cls := Value.type "code", data := Data.fields #[Value.str (Str.ofString "_law_paint") 476, Value.str (Str.ofString "_law_paint") 477, Value.str (Str.ofString "/claim/cut.py") 478, Value.int 79 0, Value.int 4 0, Value.int 0 0, Value.int 0 0, Value.int 3 0, Value.ref 80, Value.bool true, Value.int 181 0, Value.ref 81, Value.none, Value.ref 82, Value.ref 83, Value.ref 84, Value.int 486 0, Value.int 79 0, Value.str (Str.ofString "/claim/cut.py") 487] }
noncomputable def ob86 (_ : Params) : Obj := { cls := Value.type "function", data := Data.func { name := Str.ofString "_law_paint", qualname := Str.ofString "_law_paint", params := fpar (stm 13), body := FuncBody.stmts (fbod (stm 13)), scope := fsco (stm 13), globals := 3, closure := [], defaults := Value.none, kwdefaults := Value.none, pyModule := Value.str (Str.ofString "law_rl0010_01") 441, code := Value.ref 85 } }
noncomputable def ob87 (_ : Params) : Obj := { cls := Value.type "tuple", data := Data.seq #[] }
noncomputable def ob88 (_ : Params) : Obj := { cls := Value.none, data := Data.fields #[] }
noncomputable def ob89 (_ : Params) : Obj := { cls := Value.none, data := Data.func { name := Str.ofString "_law_word_back", qualname := Str.ofString "_law_word_back", params := fpar (stm 14), body := FuncBody.stmts (fbod (stm 14)), scope := fsco (stm 14), globals := 0, closure := [], defaults := Value.none, kwdefaults := Value.none } }
noncomputable def ob90 (_ : Params) : Obj := { cls := Value.type "code", data := Data.fields #[Value.str (Str.ofString "_law_word_back") 489, Value.str (Str.ofString "_law_word_back") 490, Value.str (Str.ofString "/claim/cut.py") 491, Value.int 85 0, Value.int 3 0, Value.int 0 0, Value.int 0 0, Value.int 3 0, Value.ref 87, Value.bool true, Value.int 181 0, Value.ref 88, Value.none, Value.none, Value.none, Value.ref 89, Value.int 492 0, Value.int 85 0, Value.str (Str.ofString "/claim/cut.py") 493] }
noncomputable def ob91 (_ : Params) : Obj := { cls := Value.type "function", data := Data.func { name := Str.ofString "_law_word_back", qualname := Str.ofString "_law_word_back", params := fpar (stm 14), body := FuncBody.stmts (fbod (stm 14)), scope := fsco (stm 14), globals := 3, closure := [], defaults := Value.none, kwdefaults := Value.none, pyModule := Value.str (Str.ofString "law_rl0010_01") 441, code := Value.ref 90 } }
noncomputable def ob92 (_ : Params) : Obj := { cls := Value.type "tuple", data := Data.seq #[] }
noncomputable def ob93 (_ : Params) : Obj := { cls := Value.none, data := Data.fields #[] }
noncomputable def ob94 (_ : Params) : Obj := { cls := Value.none, data := Data.func { name := Str.ofString "law", qualname := Str.ofString "law", params := fpar (stm 15), body := FuncBody.stmts (fbod (stm 15)), scope := fsco (stm 15), globals := 0, closure := [], defaults := Value.none, kwdefaults := Value.none } }
noncomputable def ob95 (_ : Params) : Obj := { cls := Value.type "code", data := Data.fields #[Value.str (Str.ofString "law") 495, Value.str (Str.ofString "law") 496, Value.str (Str.ofString "/claim/cut.py") 497, Value.int 91 0, Value.int 1 0, Value.int 0 0, Value.int 0 0, Value.int 3 0, Value.ref 92, Value.bool true, Value.int 181 0, Value.ref 93, Value.none, Value.none, Value.none, Value.ref 94, Value.int 498 0, Value.int 91 0, Value.str (Str.ofString "/claim/cut.py") 499] }
noncomputable def ob96 (_ : Params) : Obj := { cls := Value.type "function", data := Data.func { name := Str.ofString "law", qualname := Str.ofString "law", params := fpar (stm 15), body := FuncBody.stmts (fbod (stm 15)), scope := fsco (stm 15), globals := 3, closure := [], defaults := Value.none, kwdefaults := Value.none, pyModule := Value.str (Str.ofString "law_rl0010_01") 441, code := Value.ref 95 } }
noncomputable def tr_sf (P : Params) : BT := (.node (boot_o_0 P) (.node (boot_o_1 P) (.node (ob3_2 P) (.node (boot_o_7 P) (.node (ob15 P) (.node (ob31 P) (.node (ob63 P) .nil .nil) (.node (ob95 P) .nil .nil)) (.node (ob47 P) (.node (ob79 P) .nil .nil) .nil)) (.node (ob23 P) (.node (ritOb 96) (.node (ob71 P) .nil .nil) .nil) (.node (ob55 P) (.node (ob87 P) .nil .nil) .nil))) (.node (ob11 P) (.node (ob19 P) (.node (ob35 P) (.node (ob67 P) .nil .nil) .nil) (.node (ob51 P) (.node (ob83 P) .nil .nil) .nil)) (.node (ob27 P) (.node (setOb 97 (!P.followText "set-order")) (.node (ob75 P) .nil .nil) .nil) (.node (ob59 P) (.node (ob91 P) .nil .nil) .nil)))) (.node (boot_o_5 P) (.node (boot_o_9 P) (.node (ob17 P) (.node (ob33 P) (.node (ob65 P) .nil .nil) .nil) (.node (ob49 P) (.node (ob81 P) .nil .nil) .nil)) (.node (ob25 P) (.node (ob41 P) (.node (ob73 P) .nil .nil) .nil) (.node (ob57 P) (.node (ob89 P) .nil .nil) .nil))) (.node (ob13 P) (.node (ob21 P) (.node (ob37 P) (.node (ob69 P) .nil .nil) .nil) (.node (ob53 P) (.node (ob85 P) .nil .nil) .nil)) (.node (ob29 P) (.node (ob45 P) (.node (ob77 P) .nil .nil) .nil) (.node (ob61 P) (.node (ob93 P) .nil .nil) .nil))))) (.node (boot_o_2 P) (.node (boot_o_4 P) (.node (boot_o_8 P) (.node (ob16 P) (.node (ob32 P) (.node (ob64 P) .nil .nil) (.node (ob96 P) .nil .nil)) (.node (ob48 P) (.node (ob80 P) .nil .nil) .nil)) (.node (ob24 P) (.node (ob40 P) (.node (ob72 P) .nil .nil) .nil) (.node (ob56 P) (.node (ob88 P) .nil .nil) .nil))) (.node (ob12_2 P) (.node (ob20 P) (.node (ob36 P) (.node (ob68 P) .nil .nil) .nil) (.node (ob52 P) (.node (ob84 P) .nil .nil) .nil)) (.node (ob28 P) (.node (ob44 P) (.node (ob76 P) .nil .nil) .nil) (.node (ob60 P) (.node (ob92 P) .nil .nil) .nil)))) (.node (boot_o_6 P) (.node (boot_o_10 P) (.node (ob18 P) (.node (ob34 P) (.node (ob66 P) .nil .nil) .nil) (.node (ob50 P) (.node (ob82 P) .nil .nil) .nil)) (.node (ob26 P) (.node (ob42 P) (.node (ob74 P) .nil .nil) .nil) (.node (ob58 P) (.node (ob90 P) .nil .nil) .nil))) (.node (ob14 P) (.node (ob22 P) (.node (lstOb 96) (.node (ob70 P) .nil .nil) .nil) (.node (ob54 P) (.node (ob86 P) .nil .nil) .nil)) (.node (ob30 P) (.node (ob46 P) (.node (ob78 P) .nil .nil) .nil) (.node (ob62 P) (.node (ob94 P) .nil .nil) .nil))))))
noncomputable def S_sa (w : World) (os : OsState) : SharedT := ⟨tr_sa w.params, 15, {}, Array.mk [], {}, 187, os⟩
noncomputable def S_s6 (w : World) (os : OsState) : SharedT := ⟨tr_s6 w.params, 36, {}, Array.mk [], {}, 234, os⟩
noncomputable def S_l0 (j : Nat) (w : World) (os : OsState) : SharedT := ⟨tr_l0 j w.params, 40, {}, Array.mk [], {}, (240 + j), os⟩
noncomputable def S_t0 (j : Nat) (led : Bool) (w : World) (os : OsState) : SharedT := ⟨tr_t0 j led w.params, 45, {}, Array.mk [], {}, (336 + j), os⟩
noncomputable def S_s7 (led : Bool) (w : World) (os : OsState) : SharedT := ⟨tr_s7 led w.params, 47, {}, Array.mk [], {}, 434, os⟩
noncomputable def S_sf (w : World) (os : OsState) : SharedT := ⟨tr_sf w.params, 97, {}, Array.mk [], {}, 501, os⟩
noncomputable def KF : Params → Frag := fun P => [(nat_lit 2, boot_o_2 P), (nat_lit 3, ob3_2 P), (nat_lit 6, boot_o_6 P), (nat_lit 15, ob15 P), (nat_lit 17, ob17 P), (nat_lit 18, ob18 P), (nat_lit 20, ob20 P), (nat_lit 21, ob21 P), (nat_lit 22, ob22 P), (nat_lit 24, ob24 P), (nat_lit 25, ob25 P), (nat_lit 27, ob27 P), (nat_lit 28, ob28 P), (nat_lit 29, ob29 P), (nat_lit 31, ob31 P), (nat_lit 32, ob32 P), (nat_lit 34, ob34 P), (nat_lit 35, ob35 P), (nat_lit 43, (setOb 97 (!P.followText "set-order"))), (nat_lit 47, ob47 P), (nat_lit 49, ob49 P), (nat_lit 50, ob50 P), (nat_lit 52, ob52 P), (nat_lit 53, ob53 P), (nat_lit 54, ob54 P), (nat_lit 56, ob56 P), (nat_lit 57, ob57 P), (nat_lit 59, ob59 P), (nat_lit 60, ob60 P), (nat_lit 61, ob61 P), (nat_lit 63, ob63 P), (nat_lit 64, ob64 P), (nat_lit 66, ob66 P), (nat_lit 67, ob67 P), (nat_lit 68, ob68 P), (nat_lit 70, ob70 P), (nat_lit 71, ob71 P), (nat_lit 73, ob73 P), (nat_lit 74, ob74 P), (nat_lit 75, ob75 P), (nat_lit 78, ob78 P), (nat_lit 79, ob79 P), (nat_lit 80, ob80 P), (nat_lit 82, ob82 P), (nat_lit 83, ob83 P), (nat_lit 85, ob85 P), (nat_lit 86, ob86 P), (nat_lit 87, ob87 P), (nat_lit 90, ob90 P), (nat_lit 91, ob91 P), (nat_lit 92, ob92 P), (nat_lit 95, ob95 P), (nat_lit 96, ob96 P)]
noncomputable def asF : List Addr := [2, 3, 6, 15, 17, 18, 20, 21, 22, 24, 25, 27, 28, 29, 31, 32, 34, 35, 43, 47, 49, 50, 52, 53, 54, 56, 57, 59, 60, 61, 63, 64, 66, 67, 68, 70, 71, 73, 74, 75, 78, 79, 80, 82, 83, 85, 86, 87, 90, 91, 92, 95, 96]
end Mine

/-! HeadB -/
namespace Mine
open PySem PySem.W PySem.Calls PyProof.Rows
set_option maxRecDepth 100000
set_option maxHeartbeats 0
noncomputable abbrev annT : Option Value := some (.ref 6)
noncomputable def pos0 : Pos := ⟨0, 0, 0, 0⟩
noncomputable def envT : Env := { scope := pw.main.scope, locals := mainNs, globals := mainNs, cells := [], code := .ref 13, frame := some 14 }
noncomputable def cB : Code := .body (behindTheImports pw) envT
noncomputable def BT0 : List Frame := [topFrame pos0]
theorem pre (w : World) (os : OsState) : topGo treeTable pw w 11 annT 12 ⟨boot_heap w.params, Array.mk [], boot_drawn, boot_toks, os⟩ (topStub pw) = some ((S_sa w os).abs, ⟨denote treeTable cB, cB, pos0, BT0⟩) := by
  rw [PySem.W.Fast.te15667345088766844465, PySem.W.Fast.te11892475500146522536, PySem.W.Fast.te14364793385576792824]
  kernel_rfl
theorem block (w : World) (os : OsState) : segRun treeTable pw w 11 annT 1 1 (S_sa w os).abs (blockOf (behindTheImports pw) envT cB pos0 BT0) = some (.next, (S_sa w os).abs, cB, pos0) := by
  kernel_rfl
end Mine

/-! HeadC -/
namespace Mine
open PySem PySem.W PySem.Calls PyProof.Rows
set_option maxRecDepth 100000
set_option maxHeartbeats 0
noncomputable def stsA : List Stmt := [stm 0, stm 1, stm 2, stm 3, stm 4, stm 5]
noncomputable def stsB : List Stmt := [stm 6]
noncomputable def stsC : List Stmt := [stm 7, stm 8, stm 9, stm 10, stm 11, stm 12, stm 13, stm 14, stm 15]
noncomputable def posA : Pos := ⟨51, 0, 51, 8⟩
noncomputable def posB : Pos := ⟨52, 0, 52, 6⟩
noncomputable def posC : Pos := ⟨91, 0, 134, 59⟩
theorem pieceA (w : World) (os : OsState) : segRunT treeTable pw w 11 annT 1 135 (S_sa w os) (piecesOf stsA envT cB pos0 BT0) = some (.next, S_s6 w os, cB, posA) := by
  rw [piecesOf, PySem.W.Fast.te12563942051412417395, PySem.W.Fast.te10110043849684766642, PySem.W.Fast.te14364793385576792824]
  kernel_rfl
end Mine

/-! HeadE -/
namespace Mine
open PySem PySem.W PySem.Calls PyProof.Rows
set_option maxRecDepth 100000
set_option maxHeartbeats 0
noncomputable def cL : Code := .builtin "list.extend.loop" ⟨[.ref 38, .ref 39, .none], []⟩
noncomputable def cS : Code := .builtin "set.update.loop" ⟨[.ref 43, .ref 44], []⟩
noncomputable def posL : Pos := ⟨52, 24, 52, 51⟩
noncomputable def posS : Pos := ⟨52, 9, 52, 52⟩
/-- a thread at the head of a loop -/
noncomputable def atL (F G H : Frame) (R : List Frame) : Thread := ⟨denote treeTable cL, cL, posL, F :: G :: H :: R⟩
noncomputable def atS (F G H : Frame) (R : List Frame) : Thread := ⟨denote treeTable cS, cS, posS, F :: G :: H :: R⟩
noncomputable def turnL (j : Nat) : Prop := ∀ (w : World) (os : OsState) (F G H : Frame) (R : List Frame), segGoT treeTable pw w 11 annT 1 17 (S_l0 j w os) (atL F G H R) = some (S_l0 (j + 1) w os, atL F G H R)
noncomputable def turnS (n j : Nat) (led : Bool) : Prop := ∀ (w : World) (os : OsState) (F G H : Frame) (R : List Frame), segGoT treeTable pw w 11 annT 1 n (S_t0 j led w os) (atS F G H R) = some (S_t0 (j + 1) led w os, atS F G H R)
theorem l0 : turnL 0 := by unfold turnL atL; rw [PySem.W.Fast.te10295753902157049106, PySem.W.Fast.te11892475500146522536, PySem.W.Fast.te14364793385576792824]; intro w os F G H R; kernel_rfl
theorem l1 : turnL 1 := by unfold turnL atL; rw [PySem.W.Fast.te10295753902157049106, PySem.W.Fast.te11892475500146522536, PySem.W.Fast.te14364793385576792824]; intro w os F G H R; kernel_rfl
theorem l2 : turnL 2 := by unfold turnL atL; rw [PySem.W.Fast.te10295753902157049106, PySem.W.Fast.te11892475500146522536, PySem.W.Fast.te14364793385576792824]; intro w os F G H R; kernel_rfl
theorem l3 : turnL 3 := by unfold turnL atL; rw [PySem.W.Fast.te10295753902157049106, PySem.W.Fast.te11892475500146522536, PySem.W.Fast.te14364793385576792824]; intro w os F G H R; kernel_rfl
theorem l4 : turnL 4 := by unfold turnL atL; rw [PySem.W.Fast.te10295753902157049106, PySem.W.Fast.te11892475500146522536, PySem.W.Fast.te14364793385576792824]; intro w os F G H R; kernel_rfl
theorem l5 : turnL 5 := by unfold turnL atL; rw [PySem.W.Fast.te10295753902157049106, PySem.W.Fast.te11892475500146522536, PySem.W.Fast.te14364793385576792824]; intro w os F G H R; kernel_rfl
theorem l6 : turnL 6 := by unfold turnL atL; rw [PySem.W.Fast.te10295753902157049106, PySem.W.Fast.te11892475500146522536, PySem.W.Fast.te14364793385576792824]; intro w os F G H R; kernel_rfl
theorem l7 : turnL 7 := by unfold turnL atL; rw [PySem.W.Fast.te10295753902157049106, PySem.W.Fast.te11892475500146522536, PySem.W.Fast.te14364793385576792824]; intro w os F G H R; kernel_rfl
theorem l8 : turnL 8 := by unfold turnL atL; rw [PySem.W.Fast.te10295753902157049106, PySem.W.Fast.te11892475500146522536, PySem.W.Fast.te14364793385576792824]; intro w os F G H R; kernel_rfl
theorem l9 : turnL 9 := by unfold turnL atL; rw [PySem.W.Fast.te10295753902157049106, PySem.W.Fast.te11892475500146522536, PySem.W.Fast.te14364793385576792824]; intro w os F G H R; kernel_rfl
theorem l10 : turnL 10 := by unfold turnL atL; rw [PySem.W.Fast.te10295753902157049106, PySem.W.Fast.te11892475500146522536, PySem.W.Fast.te14364793385576792824]; intro w os F G H R; kernel_rfl
theorem l11 : turnL 11 := by unfold turnL atL; rw [PySem.W.Fast.te10295753902157049106, PySem.W.Fast.te11892475500146522536, PySem.W.Fast.te14364793385576792824]; intro w os F G H R; kernel_rfl
theorem l12 : turnL 12 := by unfold turnL atL; rw [PySem.W.Fast.te10295753902157049106, PySem.W.Fast.te11892475500146522536, PySem.W.Fast.te14364793385576792824]; intro w os F G H R; kernel_rfl
theorem l13 : turnL 13 := by unfold turnL atL; rw [PySem.W.Fast.te10295753902157049106, PySem.W.Fast.te11892475500146522536, PySem.W.Fast.te14364793385576792824]; intro w os F G H R; kernel_rfl
theorem l14 : turnL 14 := by unfold turnL atL; rw [PySem.W.Fast.te10295753902157049106, PySem.W.Fast.te11892475500146522536, PySem.W.Fast.te14364793385576792824]; intro w os F G H R; kernel_rfl
theorem l15 : turnL 15 := by unfold turnL atL; rw [PySem.W.Fast.te10295753902157049106, PySem.W.Fast.te11892475500146522536, PySem.W.Fast.te14364793385576792824]; intro w os F G H R; kernel_rfl
theorem l16 : turnL 16 := by unfold turnL atL; rw [PySem.W.Fast.te10295753902157049106, PySem.W.Fast.te11892475500146522536, PySem.W.Fast.te14364793385576792824]; intro w os F G H R; kernel_rfl
theorem l17 : turnL 17 := by unfold turnL atL; rw [PySem.W.Fast.te10295753902157049106, PySem.W.Fast.te11892475500146522536, PySem.W.Fast.te14364793385576792824]; intro w os F G H R; kernel_rfl
theorem l18 : turnL 18 := by unfold turnL atL; rw [PySem.W.Fast.te10295753902157049106, PySem.W.Fast.te11892475500146522536, PySem.W.Fast.te14364793385576792824]; intro w os F G H R; kernel_rfl
theorem l19 : turnL 19 := by unfold turnL atL; rw [PySem.W.Fast.te10295753902157049106, PySem.W.Fast.te11892475500146522536, PySem.W.Fast.te14364793385576792824]; intro w os F G H R; kernel_rfl
theorem l20 : turnL 20 := by unfold turnL atL; rw [PySem.W.Fast.te10295753902157049106, PySem.W.Fast.te11892475500146522536, PySem.W.Fast.te14364793385576792824]; intro w os F G H R; kernel_rfl
theorem l21 : turnL 21 := by unfold turnL atL; rw [PySem.W.Fast.te10295753902157049106, PySem.W.Fast.te11892475500146522536, PySem.W.Fast.te14364793385576792824]; intro w os F G H R; kernel_rfl
theorem l22 : turnL 22 := by unfold turnL atL; rw [PySem.W.Fast.te10295753902157049106, PySem.W.Fast.te11892475500146522536, PySem.W.Fast.te14364793385576792824]; intro w os F G H R; kernel_rfl
theorem l23 : turnL 23 := by unfold turnL atL; rw [PySem.W.Fast.te10295753902157049106, PySem.W.Fast.te11892475500146522536, PySem.W.Fast.te14364793385576792824]; intro w os F G H R; kernel_rfl
theorem l24 : turnL 24 := by unfold turnL atL; rw [PySem.W.Fast.te10295753902157049106, PySem.W.Fast.te11892475500146522536, PySem.W.Fast.te14364793385576792824]; intro w os F G H R; kernel_rfl
theorem l25 : turnL 25 := by unfold turnL atL; rw [PySem.W.Fast.te10295753902157049106, PySem.W.Fast.te11892475500146522536, PySem.W.Fast.te14364793385576792824]; intro w os F G H R; kernel_rfl
theorem l26 : turnL 26 := by unfold turnL atL; rw [PySem.W.Fast.te10295753902157049106, PySem.W.Fast.te11892475500146522536, PySem.W.Fast.te14364793385576792824]; intro w os F G H R; kernel_rfl
theorem l27 : turnL 27 := by unfold turnL atL; rw [PySem.W.Fast.te10295753902157049106, PySem.W.Fast.te11892475500146522536, PySem.W.Fast.te14364793385576792824]; intro w os F G H R; kernel_rfl
theorem l28 : turnL 28 := by unfold turnL atL; rw [PySem.W.Fast.te10295753902157049106, PySem.W.Fast.te11892475500146522536, PySem.W.Fast.te14364793385576792824]; intro w os F G H R; kernel_rfl
theorem l29 : turnL 29 := by unfold turnL atL; rw [PySem.W.Fast.te10295753902157049106, PySem.W.Fast.te11892475500146522536, PySem.W.Fast.te14364793385576792824]; intro w os F G H R; kernel_rfl
theorem l30 : turnL 30 := by unfold turnL atL; rw [PySem.W.Fast.te10295753902157049106, PySem.W.Fast.te11892475500146522536, PySem.W.Fast.te14364793385576792824]; intro w os F G H R; kernel_rfl
theorem l31 : turnL 31 := by unfold turnL atL; rw [PySem.W.Fast.te10295753902157049106, PySem.W.Fast.te11892475500146522536, PySem.W.Fast.te14364793385576792824]; intro w os F G H R; kernel_rfl
theorem l32 : turnL 32 := by unfold turnL atL; rw [PySem.W.Fast.te10295753902157049106, PySem.W.Fast.te11892475500146522536, PySem.W.Fast.te14364793385576792824]; intro w os F G H R; kernel_rfl
theorem l33 : turnL 33 := by unfold turnL atL; rw [PySem.W.Fast.te10295753902157049106, PySem.W.Fast.te11892475500146522536, PySem.W.Fast.te14364793385576792824]; intro w os F G H R; kernel_rfl
theorem l34 : turnL 34 := by unfold turnL atL; rw [PySem.W.Fast.te10295753902157049106, PySem.W.Fast.te11892475500146522536, PySem.W.Fast.te14364793385576792824]; intro w os F G H R; kernel_rfl
theorem l35 : turnL 35 := by unfold turnL atL; rw [PySem.W.Fast.te10295753902157049106, PySem.W.Fast.te11892475500146522536, PySem.W.Fast.te14364793385576792824]; intro w os F G H R; kernel_rfl
theorem l36 : turnL 36 := by unfold turnL atL; rw [PySem.W.Fast.te10295753902157049106, PySem.W.Fast.te11892475500146522536, PySem.W.Fast.te14364793385576792824]; intro w os F G H R; kernel_rfl
theorem l37 : turnL 37 := by unfold turnL atL; rw [PySem.W.Fast.te10295753902157049106, PySem.W.Fast.te11892475500146522536, PySem.W.Fast.te14364793385576792824]; intro w os F G H R; kernel_rfl
theorem l38 : turnL 38 := by unfold turnL atL; rw [PySem.W.Fast.te10295753902157049106, PySem.W.Fast.te11892475500146522536, PySem.W.Fast.te14364793385576792824]; intro w os F G H R; kernel_rfl
theorem l39 : turnL 39 := by unfold turnL atL; rw [PySem.W.Fast.te10295753902157049106, PySem.W.Fast.te11892475500146522536, PySem.W.Fast.te14364793385576792824]; intro w os F G H R; kernel_rfl
theorem l40 : turnL 40 := by unfold turnL atL; rw [PySem.W.Fast.te10295753902157049106, PySem.W.Fast.te11892475500146522536, PySem.W.Fast.te14364793385576792824]; intro w os F G H R; kernel_rfl
theorem l41 : turnL 41 := by unfold turnL atL; rw [PySem.W.Fast.te10295753902157049106, PySem.W.Fast.te11892475500146522536, PySem.W.Fast.te14364793385576792824]; intro w os F G H R; kernel_rfl
theorem l42 : turnL 42 := by unfold turnL atL; rw [PySem.W.Fast.te10295753902157049106, PySem.W.Fast.te11892475500146522536, PySem.W.Fast.te14364793385576792824]; intro w os F G H R; kernel_rfl
theorem l43 : turnL 43 := by unfold turnL atL; rw [PySem.W.Fast.te10295753902157049106, PySem.W.Fast.te11892475500146522536, PySem.W.Fast.te14364793385576792824]; intro w os F G H R; kernel_rfl
theorem l44 : turnL 44 := by unfold turnL atL; rw [PySem.W.Fast.te10295753902157049106, PySem.W.Fast.te11892475500146522536, PySem.W.Fast.te14364793385576792824]; intro w os F G H R; kernel_rfl
theorem l45 : turnL 45 := by unfold turnL atL; rw [PySem.W.Fast.te10295753902157049106, PySem.W.Fast.te11892475500146522536, PySem.W.Fast.te14364793385576792824]; intro w os F G H R; kernel_rfl
theorem l46 : turnL 46 := by unfold turnL atL; rw [PySem.W.Fast.te10295753902157049106, PySem.W.Fast.te11892475500146522536, PySem.W.Fast.te14364793385576792824]; intro w os F G H R; kernel_rfl
theorem l47 : turnL 47 := by unfold turnL atL; rw [PySem.W.Fast.te10295753902157049106, PySem.W.Fast.te11892475500146522536, PySem.W.Fast.te14364793385576792824]; intro w os F G H R; kernel_rfl
theorem l48 : turnL 48 := by unfold turnL atL; rw [PySem.W.Fast.te10295753902157049106, PySem.W.Fast.te11892475500146522536, PySem.W.Fast.te14364793385576792824]; intro w os F G H R; kernel_rfl
theorem l49 : turnL 49 := by unfold turnL atL; rw [PySem.W.Fast.te10295753902157049106, PySem.W.Fast.te11892475500146522536, PySem.W.Fast.te14364793385576792824]; intro w os F G H R; kernel_rfl
theorem l50 : turnL 50 := by unfold turnL atL; rw [PySem.W.Fast.te10295753902157049106, PySem.W.Fast.te11892475500146522536, PySem.W.Fast.te14364793385576792824]; intro w os F G H R; kernel_rfl
theorem l51 : turnL 51 := by unfold turnL atL; rw [PySem.W.Fast.te10295753902157049106, PySem.W.Fast.te11892475500146522536, PySem.W.Fast.te14364793385576792824]; intro w os F G H R; kernel_rfl
theorem l52 : turnL 52 := by unfold turnL atL; rw [PySem.W.Fast.te10295753902157049106, PySem.W.Fast.te11892475500146522536, PySem.W.Fast.te14364793385576792824]; intro w os F G H R; kernel_rfl
theorem l53 : turnL 53 := by unfold turnL atL; rw [PySem.W.Fast.te10295753902157049106, PySem.W.Fast.te11892475500146522536, PySem.W.Fast.te14364793385576792824]; intro w os F G H R; kernel_rfl
theorem l54 : turnL 54 := by unfold turnL atL; rw [PySem.W.Fast.te10295753902157049106, PySem.W.Fast.te11892475500146522536, PySem.W.Fast.te14364793385576792824]; intro w os F G H R; kernel_rfl
theorem l55 : turnL 55 := by unfold turnL atL; rw [PySem.W.Fast.te10295753902157049106, PySem.W.Fast.te11892475500146522536, PySem.W.Fast.te14364793385576792824]; intro w os F G H R; kernel_rfl
theorem l56 : turnL 56 := by unfold turnL atL; rw [PySem.W.Fast.te10295753902157049106, PySem.W.Fast.te11892475500146522536, PySem.W.Fast.te14364793385576792824]; intro w os F G H R; kernel_rfl
theorem l57 : turnL 57 := by unfold turnL atL; rw [PySem.W.Fast.te10295753902157049106, PySem.W.Fast.te11892475500146522536, PySem.W.Fast.te14364793385576792824]; intro w os F G H R; kernel_rfl
theorem l58 : turnL 58 := by unfold turnL atL; rw [PySem.W.Fast.te10295753902157049106, PySem.W.Fast.te11892475500146522536, PySem.W.Fast.te14364793385576792824]; intro w os F G H R; kernel_rfl
theorem l59 : turnL 59 := by unfold turnL atL; rw [PySem.W.Fast.te10295753902157049106, PySem.W.Fast.te11892475500146522536, PySem.W.Fast.te14364793385576792824]; intro w os F G H R; kernel_rfl
theorem l60 : turnL 60 := by unfold turnL atL; rw [PySem.W.Fast.te10295753902157049106, PySem.W.Fast.te11892475500146522536, PySem.W.Fast.te14364793385576792824]; intro w os F G H R; kernel_rfl
theorem l61 : turnL 61 := by unfold turnL atL; rw [PySem.W.Fast.te10295753902157049106, PySem.W.Fast.te11892475500146522536, PySem.W.Fast.te14364793385576792824]; intro w os F G H R; kernel_rfl
theorem l62 : turnL 62 := by unfold turnL atL; rw [PySem.W.Fast.te10295753902157049106, PySem.W.Fast.te11892475500146522536, PySem.W.Fast.te14364793385576792824]; intro w os F G H R; kernel_rfl
theorem l63 : turnL 63 := by unfold turnL atL; rw [PySem.W.Fast.te10295753902157049106, PySem.W.Fast.te11892475500146522536, PySem.W.Fast.te14364793385576792824]; intro w os F G H R; kernel_rfl
theorem l64 : turnL 64 := by unfold turnL atL; rw [PySem.W.Fast.te10295753902157049106, PySem.W.Fast.te11892475500146522536, PySem.W.Fast.te14364793385576792824]; intro w os F G H R; kernel_rfl
theorem l65 : turnL 65 := by unfold turnL atL; rw [PySem.W.Fast.te10295753902157049106, PySem.W.Fast.te11892475500146522536, PySem.W.Fast.te14364793385576792824]; intro w os F G H R; kernel_rfl
theorem l66 : turnL 66 := by unfold turnL atL; rw [PySem.W.Fast.te10295753902157049106, PySem.W.Fast.te11892475500146522536, PySem.W.Fast.te14364793385576792824]; intro w os F G H R; kernel_rfl
theorem l67 : turnL 67 := by unfold turnL atL; rw [PySem.W.Fast.te10295753902157049106, PySem.W.Fast.te11892475500146522536, PySem.W.Fast.te14364793385576792824]; intro w os F G H R; kernel_rfl
theorem l68 : turnL 68 := by unfold turnL atL; rw [PySem.W.Fast.te10295753902157049106, PySem.W.Fast.te11892475500146522536, PySem.W.Fast.te14364793385576792824]; intro w os F G H R; kernel_rfl
theorem l69 : turnL 69 := by unfold turnL atL; rw [PySem.W.Fast.te10295753902157049106, PySem.W.Fast.te11892475500146522536, PySem.W.Fast.te14364793385576792824]; intro w os F G H R; kernel_rfl
theorem l70 : turnL 70 := by unfold turnL atL; rw [PySem.W.Fast.te10295753902157049106, PySem.W.Fast.te11892475500146522536, PySem.W.Fast.te14364793385576792824]; intro w os F G H R; kernel_rfl
theorem l71 : turnL 71 := by unfold turnL atL; rw [PySem.W.Fast.te10295753902157049106, PySem.W.Fast.te11892475500146522536, PySem.W.Fast.te14364793385576792824]; intro w os F G H R; kernel_rfl
theorem l72 : turnL 72 := by unfold turnL atL; rw [PySem.W.Fast.te10295753902157049106, PySem.W.Fast.te11892475500146522536, PySem.W.Fast.te14364793385576792824]; intro w os F G H R; kernel_rfl
theorem l73 : turnL 73 := by unfold turnL atL; rw [PySem.W.Fast.te10295753902157049106, PySem.W.Fast.te11892475500146522536, PySem.W.Fast.te14364793385576792824]; intro w os F G H R; kernel_rfl
theorem l74 : turnL 74 := by unfold turnL atL; rw [PySem.W.Fast.te10295753902157049106, PySem.W.Fast.te11892475500146522536, PySem.W.Fast.te14364793385576792824]; intro w os F G H R; kernel_rfl
theorem l75 : turnL 75 := by unfold turnL atL; rw [PySem.W.Fast.te10295753902157049106, PySem.W.Fast.te11892475500146522536, PySem.W.Fast.te14364793385576792824]; intro w os F G H R; kernel_rfl
theorem l76 : turnL 76 := by unfold turnL atL; rw [PySem.W.Fast.te10295753902157049106, PySem.W.Fast.te11892475500146522536, PySem.W.Fast.te14364793385576792824]; intro w os F G H R; kernel_rfl
theorem l77 : turnL 77 := by unfold turnL atL; rw [PySem.W.Fast.te10295753902157049106, PySem.W.Fast.te11892475500146522536, PySem.W.Fast.te14364793385576792824]; intro w os F G H R; kernel_rfl
theorem l78 : turnL 78 := by unfold turnL atL; rw [PySem.W.Fast.te10295753902157049106, PySem.W.Fast.te11892475500146522536, PySem.W.Fast.te14364793385576792824]; intro w os F G H R; kernel_rfl
theorem l79 : turnL 79 := by unfold turnL atL; rw [PySem.W.Fast.te10295753902157049106, PySem.W.Fast.te11892475500146522536, PySem.W.Fast.te14364793385576792824]; intro w os F G H R; kernel_rfl
theorem l80 : turnL 80 := by unfold turnL atL; rw [PySem.W.Fast.te10295753902157049106, PySem.W.Fast.te11892475500146522536, PySem.W.Fast.te14364793385576792824]; intro w os F G H R; kernel_rfl
theorem l81 : turnL 81 := by unfold turnL atL; rw [PySem.W.Fast.te10295753902157049106, PySem.W.Fast.te11892475500146522536, PySem.W.Fast.te14364793385576792824]; intro w os F G H R; kernel_rfl
theorem l82 : turnL 82 := by unfold turnL atL; rw [PySem.W.Fast.te10295753902157049106, PySem.W.Fast.te11892475500146522536, PySem.W.Fast.te14364793385576792824]; intro w os F G H R; kernel_rfl
theorem l83 : turnL 83 := by unfold turnL atL; rw [PySem.W.Fast.te10295753902157049106, PySem.W.Fast.te11892475500146522536, PySem.W.Fast.te14364793385576792824]; intro w os F G H R; kernel_rfl
theorem l84 : turnL 84 := by unfold turnL atL; rw [PySem.W.Fast.te10295753902157049106, PySem.W.Fast.te11892475500146522536, PySem.W.Fast.te14364793385576792824]; intro w os F G H R; kernel_rfl
theorem l85 : turnL 85 := by unfold turnL atL; rw [PySem.W.Fast.te10295753902157049106, PySem.W.Fast.te11892475500146522536, PySem.W.Fast.te14364793385576792824]; intro w os F G H R; kernel_rfl
theorem l86 : turnL 86 := by unfold turnL atL; rw [PySem.W.Fast.te10295753902157049106, PySem.W.Fast.te11892475500146522536, PySem.W.Fast.te14364793385576792824]; intro w os F G H R; kernel_rfl
theorem l87 : turnL 87 := by unfold turnL atL; rw [PySem.W.Fast.te10295753902157049106, PySem.W.Fast.te11892475500146522536, PySem.W.Fast.te14364793385576792824]; intro w os F G H R; kernel_rfl
theorem l88 : turnL 88 := by unfold turnL atL; rw [PySem.W.Fast.te10295753902157049106, PySem.W.Fast.te11892475500146522536, PySem.W.Fast.te14364793385576792824]; intro w os F G H R; kernel_rfl
theorem l89 : turnL 89 := by unfold turnL atL; rw [PySem.W.Fast.te10295753902157049106, PySem.W.Fast.te11892475500146522536, PySem.W.Fast.te14364793385576792824]; intro w os F G H R; kernel_rfl
theorem l90 : turnL 90 := by unfold turnL atL; rw [PySem.W.Fast.te10295753902157049106, PySem.W.Fast.te11892475500146522536, PySem.W.Fast.te14364793385576792824]; intro w os F G H R; kernel_rfl
theorem l91 : turnL 91 := by unfold turnL atL; rw [PySem.W.Fast.te10295753902157049106, PySem.W.Fast.te11892475500146522536, PySem.W.Fast.te14364793385576792824]; intro w os F G H R; kernel_rfl
theorem l92 : turnL 92 := by unfold turnL atL; rw [PySem.W.Fast.te10295753902157049106, PySem.W.Fast.te11892475500146522536, PySem.W.Fast.te14364793385576792824]; intro w os F G H R; kernel_rfl
theorem l93 : turnL 93 := by unfold turnL atL; rw [PySem.W.Fast.te10295753902157049106, PySem.W.Fast.te11892475500146522536, PySem.W.Fast.te14364793385576792824]; intro w os F G H R; kernel_rfl
theorem l94 : turnL 94 := by unfold turnL atL; rw [PySem.W.Fast.te10295753902157049106, PySem.W.Fast.te11892475500146522536, PySem.W.Fast.te14364793385576792824]; intro w os F G H R; kernel_rfl
theorem l95 : turnL 95 := by unfold turnL atL; rw [PySem.W.Fast.te10295753902157049106, PySem.W.Fast.te11892475500146522536, PySem.W.Fast.te14364793385576792824]; intro w os F G H R; kernel_rfl
theorem s0 (led : Bool) : turnS 20 0 led := by unfold turnS atS; rw [PySem.W.Fast.te10295753902157049106, PySem.W.Fast.te11892475500146522536, PySem.W.Fast.te14364793385576792824]; cases led <;> exact byRow2 "special-get-raises" (by intro w os F G H R; kernel_rfl) (by intro w os F G H R; kernel_rfl)
theorem s1 (led : Bool) : turnS 20 1 led := by unfold turnS atS; rw [PySem.W.Fast.te10295753902157049106, PySem.W.Fast.te11892475500146522536, PySem.W.Fast.te14364793385576792824]; cases led <;> exact byRow2 "special-get-raises" (by intro w os F G H R; kernel_rfl) (by intro w os F G H R; kernel_rfl)
theorem s2 (led : Bool) : turnS 20 2 led := by unfold turnS atS; rw [PySem.W.Fast.te10295753902157049106, PySem.W.Fast.te11892475500146522536, PySem.W.Fast.te14364793385576792824]; cases led <;> exact byRow2 "special-get-raises" (by intro w os F G H R; kernel_rfl) (by intro w os F G H R; kernel_rfl)
theorem s3 (led : Bool) : turnS 20 3 led := by unfold turnS atS; rw [PySem.W.Fast.te10295753902157049106, PySem.W.Fast.te11892475500146522536, PySem.W.Fast.te14364793385576792824]; cases led <;> exact byRow2 "special-get-raises" (by intro w os F G H R; kernel_rfl) (by intro w os F G H R; kernel_rfl)
theorem s4 (led : Bool) : turnS 22 4 led := by unfold turnS atS; rw [PySem.W.Fast.te10295753902157049106, PySem.W.Fast.te11892475500146522536, PySem.W.Fast.te14364793385576792824]; cases led <;> exact byRow2 "special-get-raises" (by intro w os F G H R; kernel_rfl) (by intro w os F G H R; kernel_rfl)
theorem s5 (led : Bool) : turnS 20 5 led := by unfold turnS atS; rw [PySem.W.Fast.te10295753902157049106, PySem.W.Fast.te11892475500146522536, PySem.W.Fast.te14364793385576792824]; cases led <;> exact byRow2 "special-get-raises" (by intro w os F G H R; kernel_rfl) (by intro w os F G H R; kernel_rfl)
theorem s6 (led : Bool) : turnS 20 6 led := by unfold turnS atS; rw [PySem.W.Fast.te10295753902157049106, PySem.W.Fast.te11892475500146522536, PySem.W.Fast.te14364793385576792824]; cases led <;> exact byRow2 "special-get-raises" (by intro w os F G H R; kernel_rfl) (by intro w os F G H R; kernel_rfl)
theorem s7 (led : Bool) : turnS 20 7 led := by unfold turnS atS; rw [PySem.W.Fast.te10295753902157049106, PySem.W.Fast.te11892475500146522536, PySem.W.Fast.te14364793385576792824]; cases led <;> exact byRow2 "special-get-raises" (by intro w os F G H R; kernel_rfl) (by intro w os F G H R; kernel_rfl)
theorem s8 (led : Bool) : turnS 20 8 led := by unfold turnS atS; rw [PySem.W.Fast.te10295753902157049106, PySem.W.Fast.te11892475500146522536, PySem.W.Fast.te14364793385576792824]; cases led <;> exact byRow2 "special-get-raises" (by intro w os F G H R; kernel_rfl) (by intro w os F G H R; kernel_rfl)
theorem s9 (led : Bool) : turnS 20 9 led := by unfold turnS atS; rw [PySem.W.Fast.te10295753902157049106, PySem.W.Fast.te11892475500146522536, PySem.W.Fast.te14364793385576792824]; cases led <;> exact byRow2 "special-get-raises" (by intro w os F G H R; kernel_rfl) (by intro w os F G H R; kernel_rfl)
theorem s10 (led : Bool) : turnS 20 10 led := by unfold turnS atS; rw [PySem.W.Fast.te10295753902157049106, PySem.W.Fast.te11892475500146522536, PySem.W.Fast.te14364793385576792824]; cases led <;> exact byRow2 "special-get-raises" (by intro w os F G H R; kernel_rfl) (by intro w os F G H R; kernel_rfl)
theorem s11 (led : Bool) : turnS 20 11 led := by unfold turnS atS; rw [PySem.W.Fast.te10295753902157049106, PySem.W.Fast.te11892475500146522536, PySem.W.Fast.te14364793385576792824]; cases led <;> exact byRow2 "special-get-raises" (by intro w os F G H R; kernel_rfl) (by intro w os F G H R; kernel_rfl)
theorem s12 (led : Bool) : turnS 20 12 led := by unfold turnS atS; rw [PySem.W.Fast.te10295753902157049106, PySem.W.Fast.te11892475500146522536, PySem.W.Fast.te14364793385576792824]; cases led <;> exact byRow2 "special-get-raises" (by intro w os F G H R; kernel_rfl) (by intro w os F G H R; kernel_rfl)
theorem s13 (led : Bool) : turnS 20 13 led := by unfold turnS atS; rw [PySem.W.Fast.te10295753902157049106, PySem.W.Fast.te11892475500146522536, PySem.W.Fast.te14364793385576792824]; cases led <;> exact byRow2 "special-get-raises" (by intro w os F G H R; kernel_rfl) (by intro w os F G H R; kernel_rfl)
theorem s14 (led : Bool) : turnS 20 14 led := by unfold turnS atS; rw [PySem.W.Fast.te10295753902157049106, PySem.W.Fast.te11892475500146522536, PySem.W.Fast.te14364793385576792824]; cases led <;> exact byRow2 "special-get-raises" (by intro w os F G H R; kernel_rfl) (by intro w os F G H R; kernel_rfl)
theorem s15 (led : Bool) : turnS 20 15 led := by unfold turnS atS; rw [PySem.W.Fast.te10295753902157049106, PySem.W.Fast.te11892475500146522536, PySem.W.Fast.te14364793385576792824]; cases led <;> exact byRow2 "special-get-raises" (by intro w os F G H R; kernel_rfl) (by intro w os F G H R; kernel_rfl)
theorem s16 (led : Bool) : turnS 20 16 led := by unfold turnS atS; rw [PySem.W.Fast.te10295753902157049106, PySem.W.Fast.te11892475500146522536, PySem.W.Fast.te14364793385576792824]; cases led <;> exact byRow2 "special-get-raises" (by intro w os F G H R; kernel_rfl) (by intro w os F G H R; kernel_rfl)
theorem s17 (led : Bool) : turnS 20 17 led := by unfold turnS atS; rw [PySem.W.Fast.te10295753902157049106, PySem.W.Fast.te11892475500146522536, PySem.W.Fast.te14364793385576792824]; cases led <;> exact byRow2 "special-get-raises" (by intro w os F G H R; kernel_rfl) (by intro w os F G H R; kernel_rfl)
theorem s18 (led : Bool) : turnS 22 18 led := by unfold turnS atS; rw [PySem.W.Fast.te10295753902157049106, PySem.W.Fast.te11892475500146522536, PySem.W.Fast.te14364793385576792824]; cases led <;> exact byRow2 "special-get-raises" (by intro w os F G H R; kernel_rfl) (by intro w os F G H R; kernel_rfl)
theorem s19 (led : Bool) : turnS 20 19 led := by unfold turnS atS; rw [PySem.W.Fast.te10295753902157049106, PySem.W.Fast.te11892475500146522536, PySem.W.Fast.te14364793385576792824]; cases led <;> exact byRow2 "special-get-raises" (by intro w os F G H R; kernel_rfl) (by intro w os F G H R; kernel_rfl)
theorem s20 (led : Bool) : turnS 20 20 led := by unfold turnS atS; rw [PySem.W.Fast.te10295753902157049106, PySem.W.Fast.te11892475500146522536, PySem.W.Fast.te14364793385576792824]; cases led <;> exact byRow2 "special-get-raises" (by intro w os F G H R; kernel_rfl) (by intro w os F G H R; kernel_rfl)
theorem s21 (led : Bool) : turnS 20 21 led := by unfold turnS atS; rw [PySem.W.Fast.te10295753902157049106, PySem.W.Fast.te11892475500146522536, PySem.W.Fast.te14364793385576792824]; cases led <;> exact byRow2 "special-get-raises" (by intro w os F G H R; kernel_rfl) (by intro w os F G H R; kernel_rfl)
theorem s22 (led : Bool) : turnS 20 22 led := by unfold turnS atS; rw [PySem.W.Fast.te10295753902157049106, PySem.W.Fast.te11892475500146522536, PySem.W.Fast.te14364793385576792824]; cases led <;> exact byRow2 "special-get-raises" (by intro w os F G H R; kernel_rfl) (by intro w os F G H R; kernel_rfl)
theorem s23 (led : Bool) : turnS 20 23 led := by unfold turnS atS; rw [PySem.W.Fast.te10295753902157049106, PySem.W.Fast.te11892475500146522536, PySem.W.Fast.te14364793385576792824]; cases led <;> exact byRow2 "special-get-raises" (by intro w os F G H R; kernel_rfl) (by intro w os F G H R; kernel_rfl)
theorem s24 (led : Bool) : turnS 20 24 led := by unfold turnS atS; rw [PySem.W.Fast.te10295753902157049106, PySem.W.Fast.te11892475500146522536, PySem.W.Fast.te14364793385576792824]; cases led <;> exact byRow2 "special-get-raises" (by intro w os F G H R; kernel_rfl) (by intro w os F G H R; kernel_rfl)
theorem s25 (led : Bool) : turnS 20 25 led := by unfold turnS atS; rw [PySem.W.Fast.te10295753902157049106, PySem.W.Fast.te11892475500146522536, PySem.W.Fast.te14364793385576792824]; cases led <;> exact byRow2 "special-get-raises" (by intro w os F G H R; kernel_rfl) (by intro w os F G H R; kernel_rfl)
theorem s26 (led : Bool) : turnS 20 26 led := by unfold turnS atS; rw [PySem.W.Fast.te10295753902157049106, PySem.W.Fast.te11892475500146522536, PySem.W.Fast.te14364793385576792824]; cases led <;> exact byRow2 "special-get-raises" (by intro w os F G H R; kernel_rfl) (by intro w os F G H R; kernel_rfl)
theorem s27 (led : Bool) : turnS 20 27 led := by unfold turnS atS; rw [PySem.W.Fast.te10295753902157049106, PySem.W.Fast.te11892475500146522536, PySem.W.Fast.te14364793385576792824]; cases led <;> exact byRow2 "special-get-raises" (by intro w os F G H R; kernel_rfl) (by intro w os F G H R; kernel_rfl)
theorem s28 (led : Bool) : turnS 20 28 led := by unfold turnS atS; rw [PySem.W.Fast.te10295753902157049106, PySem.W.Fast.te11892475500146522536, PySem.W.Fast.te14364793385576792824]; cases led <;> exact byRow2 "special-get-raises" (by intro w os F G H R; kernel_rfl) (by intro w os F G H R; kernel_rfl)
theorem s29 (led : Bool) : turnS 20 29 led := by unfold turnS atS; rw [PySem.W.Fast.te10295753902157049106, PySem.W.Fast.te11892475500146522536, PySem.W.Fast.te14364793385576792824]; cases led <;> exact byRow2 "special-get-raises" (by intro w os F G H R; kernel_rfl) (by intro w os F G H R; kernel_rfl)
theorem s30 (led : Bool) : turnS 20 30 led := by unfold turnS atS; rw [PySem.W.Fast.te10295753902157049106, PySem.W.Fast.te11892475500146522536, PySem.W.Fast.te14364793385576792824]; cases led <;> exact byRow2 "special-get-raises" (by intro w os F G H R; kernel_rfl) (by intro w os F G H R; kernel_rfl)
theorem s31 (led : Bool) : turnS 20 31 led := by unfold turnS atS; rw [PySem.W.Fast.te10295753902157049106, PySem.W.Fast.te11892475500146522536, PySem.W.Fast.te14364793385576792824]; cases led <;> exact byRow2 "special-get-raises" (by intro w os F G H R; kernel_rfl) (by intro w os F G H R; kernel_rfl)
theorem s32 (led : Bool) : turnS 20 32 led := by unfold turnS atS; rw [PySem.W.Fast.te10295753902157049106, PySem.W.Fast.te11892475500146522536, PySem.W.Fast.te14364793385576792824]; cases led <;> exact byRow2 "special-get-raises" (by intro w os F G H R; kernel_rfl) (by intro w os F G H R; kernel_rfl)
theorem s33 (led : Bool) : turnS 20 33 led := by unfold turnS atS; rw [PySem.W.Fast.te10295753902157049106, PySem.W.Fast.te11892475500146522536, PySem.W.Fast.te14364793385576792824]; cases led <;> exact byRow2 "special-get-raises" (by intro w os F G H R; kernel_rfl) (by intro w os F G H R; kernel_rfl)
theorem s34 (led : Bool) : turnS 20 34 led := by unfold turnS atS; rw [PySem.W.Fast.te10295753902157049106, PySem.W.Fast.te11892475500146522536, PySem.W.Fast.te14364793385576792824]; cases led <;> exact byRow2 "special-get-raises" (by intro w os F G H R; kernel_rfl) (by intro w os F G H R; kernel_rfl)
theorem s35 (led : Bool) : turnS 20 35 led := by unfold turnS atS; rw [PySem.W.Fast.te10295753902157049106, PySem.W.Fast.te11892475500146522536, PySem.W.Fast.te14364793385576792824]; cases led <;> exact byRow2 "special-get-raises" (by intro w os F G H R; kernel_rfl) (by intro w os F G H R; kernel_rfl)
theorem s36 (led : Bool) : turnS 20 36 led := by unfold turnS atS; rw [PySem.W.Fast.te10295753902157049106, PySem.W.Fast.te11892475500146522536, PySem.W.Fast.te14364793385576792824]; cases led <;> exact byRow2 "special-get-raises" (by intro w os F G H R; kernel_rfl) (by intro w os F G H R; kernel_rfl)
theorem s37 (led : Bool) : turnS 20 37 led := by unfold turnS atS; rw [PySem.W.Fast.te10295753902157049106, PySem.W.Fast.te11892475500146522536, PySem.W.Fast.te14364793385576792824]; cases led <;> exact byRow2 "special-get-raises" (by intro w os F G H R; kernel_rfl) (by intro w os F G H R; kernel_rfl)
theorem s38 (led : Bool) : turnS 20 38 led := by unfold turnS atS; rw [PySem.W.Fast.te10295753902157049106, PySem.W.Fast.te11892475500146522536, PySem.W.Fast.te14364793385576792824]; cases led <;> exact byRow2 "special-get-raises" (by intro w os F G H R; kernel_rfl) (by intro w os F G H R; kernel_rfl)
theorem s39 (led : Bool) : turnS 20 39 led := by unfold turnS atS; rw [PySem.W.Fast.te10295753902157049106, PySem.W.Fast.te11892475500146522536, PySem.W.Fast.te14364793385576792824]; cases led <;> exact byRow2 "special-get-raises" (by intro w os F G H R; kernel_rfl) (by intro w os F G H R; kernel_rfl)
theorem s40 (led : Bool) : turnS 20 40 led := by unfold turnS atS; rw [PySem.W.Fast.te10295753902157049106, PySem.W.Fast.te11892475500146522536, PySem.W.Fast.te14364793385576792824]; cases led <;> exact byRow2 "special-get-raises" (by intro w os F G H R; kernel_rfl) (by intro w os F G H R; kernel_rfl)
theorem s41 (led : Bool) : turnS 20 41 led := by unfold turnS atS; rw [PySem.W.Fast.te10295753902157049106, PySem.W.Fast.te11892475500146522536, PySem.W.Fast.te14364793385576792824]; cases led <;> exact byRow2 "special-get-raises" (by intro w os F G H R; kernel_rfl) (by intro w os F G H R; kernel_rfl)
theorem s42 (led : Bool) : turnS 20 42 led := by unfold turnS atS; rw [PySem.W.Fast.te10295753902157049106, PySem.W.Fast.te11892475500146522536, PySem.W.Fast.te14364793385576792824]; cases led <;> exact byRow2 "special-get-raises" (by intro w os F G H R; kernel_rfl) (by intro w os F G H R; kernel_rfl)
theorem s43 (led : Bool) : turnS 20 43 led := by unfold turnS atS; rw [PySem.W.Fast.te10295753902157049106, PySem.W.Fast.te11892475500146522536, PySem.W.Fast.te14364793385576792824]; cases led <;> exact byRow2 "special-get-raises" (by intro w os F G H R; kernel_rfl) (by intro w os F G H R; kernel_rfl)
theorem s44 (led : Bool) : turnS 20 44 led := by unfold turnS atS; rw [PySem.W.Fast.te10295753902157049106, PySem.W.Fast.te11892475500146522536, PySem.W.Fast.te14364793385576792824]; cases led <;> exact byRow2 "special-get-raises" (by intro w os F G H R; kernel_rfl) (by intro w os F G H R; kernel_rfl)
theorem s45 (led : Bool) : turnS 20 45 led := by unfold turnS atS; rw [PySem.W.Fast.te10295753902157049106, PySem.W.Fast.te11892475500146522536, PySem.W.Fast.te14364793385576792824]; cases led <;> exact byRow2 "special-get-raises" (by intro w os F G H R; kernel_rfl) (by intro w os F G H R; kernel_rfl)
theorem s46 (led : Bool) : turnS 20 46 led := by unfold turnS atS; rw [PySem.W.Fast.te10295753902157049106, PySem.W.Fast.te11892475500146522536, PySem.W.Fast.te14364793385576792824]; cases led <;> exact byRow2 "special-get-raises" (by intro w os F G H R; kernel_rfl) (by intro w os F G H R; kernel_rfl)
theorem s47 (led : Bool) : turnS 20 47 led := by unfold turnS atS; rw [PySem.W.Fast.te10295753902157049106, PySem.W.Fast.te11892475500146522536, PySem.W.Fast.te14364793385576792824]; cases led <;> exact byRow2 "special-get-raises" (by intro w os F G H R; kernel_rfl) (by intro w os F G H R; kernel_rfl)
theorem s48 (led : Bool) : turnS 20 48 led := by unfold turnS atS; rw [PySem.W.Fast.te10295753902157049106, PySem.W.Fast.te11892475500146522536, PySem.W.Fast.te14364793385576792824]; cases led <;> exact byRow2 "special-get-raises" (by intro w os F G H R; kernel_rfl) (by intro w os F G H R; kernel_rfl)
theorem s49 (led : Bool) : turnS 20 49 led := by unfold turnS atS; rw [PySem.W.Fast.te10295753902157049106, PySem.W.Fast.te11892475500146522536, PySem.W.Fast.te14364793385576792824]; cases led <;> exact byRow2 "special-get-raises" (by intro w os F G H R; kernel_rfl) (by intro w os F G H R; kernel_rfl)
theorem s50 (led : Bool) : turnS 20 50 led := by unfold turnS atS; rw [PySem.W.Fast.te10295753902157049106, PySem.W.Fast.te11892475500146522536, PySem.W.Fast.te14364793385576792824]; cases led <;> exact byRow2 "special-get-raises" (by intro w os F G H R; kernel_rfl) (by intro w os F G H R; kernel_rfl)
theorem s51 (led : Bool) : turnS 20 51 led := by unfold turnS atS; rw [PySem.W.Fast.te10295753902157049106, PySem.W.Fast.te11892475500146522536, PySem.W.Fast.te14364793385576792824]; cases led <;> exact byRow2 "special-get-raises" (by intro w os F G H R; kernel_rfl) (by intro w os F G H R; kernel_rfl)
theorem s52 (led : Bool) : turnS 20 52 led := by unfold turnS atS; rw [PySem.W.Fast.te10295753902157049106, PySem.W.Fast.te11892475500146522536, PySem.W.Fast.te14364793385576792824]; cases led <;> exact byRow2 "special-get-raises" (by intro w os F G H R; kernel_rfl) (by intro w os F G H R; kernel_rfl)
theorem s53 (led : Bool) : turnS 20 53 led := by unfold turnS atS; rw [PySem.W.Fast.te10295753902157049106, PySem.W.Fast.te11892475500146522536, PySem.W.Fast.te14364793385576792824]; cases led <;> exact byRow2 "special-get-raises" (by intro w os F G H R; kernel_rfl) (by intro w os F G H R; kernel_rfl)
theorem s54 (led : Bool) : turnS 20 54 led := by unfold turnS atS; rw [PySem.W.Fast.te10295753902157049106, PySem.W.Fast.te11892475500146522536, PySem.W.Fast.te14364793385576792824]; cases led <;> exact byRow2 "special-get-raises" (by intro w os F G H R; kernel_rfl) (by intro w os F G H R; kernel_rfl)
theorem s55 (led : Bool) : turnS 20 55 led := by unfold turnS atS; rw [PySem.W.Fast.te10295753902157049106, PySem.W.Fast.te11892475500146522536, PySem.W.Fast.te14364793385576792824]; cases led <;> exact byRow2 "special-get-raises" (by intro w os F G H R; kernel_rfl) (by intro w os F G H R; kernel_rfl)
theorem s56 (led : Bool) : turnS 20 56 led := by unfold turnS atS; rw [PySem.W.Fast.te10295753902157049106, PySem.W.Fast.te11892475500146522536, PySem.W.Fast.te14364793385576792824]; cases led <;> exact byRow2 "special-get-raises" (by intro w os F G H R; kernel_rfl) (by intro w os F G H R; kernel_rfl)
theorem s57 (led : Bool) : turnS 20 57 led := by unfold turnS atS; rw [PySem.W.Fast.te10295753902157049106, PySem.W.Fast.te11892475500146522536, PySem.W.Fast.te14364793385576792824]; cases led <;> exact byRow2 "special-get-raises" (by intro w os F G H R; kernel_rfl) (by intro w os F G H R; kernel_rfl)
theorem s58 (led : Bool) : turnS 20 58 led := by unfold turnS atS; rw [PySem.W.Fast.te10295753902157049106, PySem.W.Fast.te11892475500146522536, PySem.W.Fast.te14364793385576792824]; cases led <;> exact byRow2 "special-get-raises" (by intro w os F G H R; kernel_rfl) (by intro w os F G H R; kernel_rfl)
theorem s59 (led : Bool) : turnS 20 59 led := by unfold turnS atS; rw [PySem.W.Fast.te10295753902157049106, PySem.W.Fast.te11892475500146522536, PySem.W.Fast.te14364793385576792824]; cases led <;> exact byRow2 "special-get-raises" (by intro w os F G H R; kernel_rfl) (by intro w os F G H R; kernel_rfl)
theorem s60 (led : Bool) : turnS 20 60 led := by unfold turnS atS; rw [PySem.W.Fast.te10295753902157049106, PySem.W.Fast.te11892475500146522536, PySem.W.Fast.te14364793385576792824]; cases led <;> exact byRow2 "special-get-raises" (by intro w os F G H R; kernel_rfl) (by intro w os F G H R; kernel_rfl)
theorem s61 (led : Bool) : turnS 20 61 led := by unfold turnS atS; rw [PySem.W.Fast.te10295753902157049106, PySem.W.Fast.te11892475500146522536, PySem.W.Fast.te14364793385576792824]; cases led <;> exact byRow2 "special-get-raises" (by intro w os F G H R; kernel_rfl) (by intro w os F G H R; kernel_rfl)
theorem s62 (led : Bool) : turnS 20 62 led := by unfold turnS atS; rw [PySem.W.Fast.te10295753902157049106, PySem.W.Fast.te11892475500146522536, PySem.W.Fast.te14364793385576792824]; cases led <;> exact byRow2 "special-get-raises" (by intro w os F G H R; kernel_rfl) (by intro w os F G H R; kernel_rfl)
theorem s63 (led : Bool) : turnS 20 63 led := by unfold turnS atS; rw [PySem.W.Fast.te10295753902157049106, PySem.W.Fast.te11892475500146522536, PySem.W.Fast.te14364793385576792824]; cases led <;> exact byRow2 "special-get-raises" (by intro w os F G H R; kernel_rfl) (by intro w os F G H R; kernel_rfl)
theorem s64 (led : Bool) : turnS 20 64 led := by unfold turnS atS; rw [PySem.W.Fast.te10295753902157049106, PySem.W.Fast.te11892475500146522536, PySem.W.Fast.te14364793385576792824]; cases led <;> exact byRow2 "special-get-raises" (by intro w os F G H R; kernel_rfl) (by intro w os F G H R; kernel_rfl)
theorem s65 (led : Bool) : turnS 20 65 led := by unfold turnS atS; rw [PySem.W.Fast.te10295753902157049106, PySem.W.Fast.te11892475500146522536, PySem.W.Fast.te14364793385576792824]; cases led <;> exact byRow2 "special-get-raises" (by intro w os F G H R; kernel_rfl) (by intro w os F G H R; kernel_rfl)
theorem s66 (led : Bool) : turnS 20 66 led := by unfold turnS atS; rw [PySem.W.Fast.te10295753902157049106, PySem.W.Fast.te11892475500146522536, PySem.W.Fast.te14364793385576792824]; cases led <;> exact byRow2 "special-get-raises" (by intro w os F G H R; kernel_rfl) (by intro w os F G H R; kernel_rfl)
theorem s67 (led : Bool) : turnS 20 67 led := by unfold turnS atS; rw [PySem.W.Fast.te10295753902157049106, PySem.W.Fast.te11892475500146522536, PySem.W.Fast.te14364793385576792824]; cases led <;> exact byRow2 "special-get-raises" (by intro w os F G H R; kernel_rfl) (by intro w os F G H R; kernel_rfl)
theorem s68 (led : Bool) : turnS 20 68 led := by unfold turnS atS; rw [PySem.W.Fast.te10295753902157049106, PySem.W.Fast.te11892475500146522536, PySem.W.Fast.te14364793385576792824]; cases led <;> exact byRow2 "special-get-raises" (by intro w os F G H R; kernel_rfl) (by intro w os F G H R; kernel_rfl)
theorem s69 (led : Bool) : turnS 20 69 led := by unfold turnS atS; rw [PySem.W.Fast.te10295753902157049106, PySem.W.Fast.te11892475500146522536, PySem.W.Fast.te14364793385576792824]; cases led <;> exact byRow2 "special-get-raises" (by intro w os F G H R; kernel_rfl) (by intro w os F G H R; kernel_rfl)
theorem s70 (led : Bool) : turnS 20 70 led := by unfold turnS atS; rw [PySem.W.Fast.te10295753902157049106, PySem.W.Fast.te11892475500146522536, PySem.W.Fast.te14364793385576792824]; cases led <;> exact byRow2 "special-get-raises" (by intro w os F G H R; kernel_rfl) (by intro w os F G H R; kernel_rfl)
theorem s71 (led : Bool) : turnS 20 71 led := by unfold turnS atS; rw [PySem.W.Fast.te10295753902157049106, PySem.W.Fast.te11892475500146522536, PySem.W.Fast.te14364793385576792824]; cases led <;> exact byRow2 "special-get-raises" (by intro w os F G H R; kernel_rfl) (by intro w os F G H R; kernel_rfl)
theorem s72 (led : Bool) : turnS 20 72 led := by unfold turnS atS; rw [PySem.W.Fast.te10295753902157049106, PySem.W.Fast.te11892475500146522536, PySem.W.Fast.te14364793385576792824]; cases led <;> exact byRow2 "special-get-raises" (by intro w os F G H R; kernel_rfl) (by intro w os F G H R; kernel_rfl)
theorem s73 (led : Bool) : turnS 20 73 led := by unfold turnS atS; rw [PySem.W.Fast.te10295753902157049106, PySem.W.Fast.te11892475500146522536, PySem.W.Fast.te14364793385576792824]; cases led <;> exact byRow2 "special-get-raises" (by intro w os F G H R; kernel_rfl) (by intro w os F G H R; kernel_rfl)
theorem s74 (led : Bool) : turnS 20 74 led := by unfold turnS atS; rw [PySem.W.Fast.te10295753902157049106, PySem.W.Fast.te11892475500146522536, PySem.W.Fast.te14364793385576792824]; cases led <;> exact byRow2 "special-get-raises" (by intro w os F G H R; kernel_rfl) (by intro w os F G H R; kernel_rfl)
theorem s75 (led : Bool) : turnS 20 75 led := by unfold turnS atS; rw [PySem.W.Fast.te10295753902157049106, PySem.W.Fast.te11892475500146522536, PySem.W.Fast.te14364793385576792824]; cases led <;> exact byRow2 "special-get-raises" (by intro w os F G H R; kernel_rfl) (by intro w os F G H R; kernel_rfl)
theorem s76f : turnS 22 76 false := by unfold turnS atS; rw [PySem.W.Fast.te10295753902157049106, PySem.W.Fast.te11892475500146522536, PySem.W.Fast.te14364793385576792824]; exact byRow2 "special-get-raises" (by intro w os F G H R; kernel_rfl) (by intro w os F G H R; kernel_rfl)
theorem s76t : turnS 22 76 true := by unfold turnS atS; rw [PySem.W.Fast.te10295753902157049106, PySem.W.Fast.te11892475500146522536, PySem.W.Fast.te14364793385576792824]; exact byRow2 "special-get-raises" (by intro w os F G H R; kernel_rfl) (by intro w os F G H R; kernel_rfl)
theorem s76 (led : Bool) : turnS 22 76 led := by cases led; exact s76f; exact s76t
theorem s77 (led : Bool) : turnS 20 77 led := by unfold turnS atS; rw [PySem.W.Fast.te10295753902157049106, PySem.W.Fast.te11892475500146522536, PySem.W.Fast.te14364793385576792824]; cases led <;> exact byRow2 "special-get-raises" (by intro w os F G H R; kernel_rfl) (by intro w os F G H R; kernel_rfl)
theorem s78 (led : Bool) : turnS 20 78 led := by unfold turnS atS; rw [PySem.W.Fast.te10295753902157049106, PySem.W.Fast.te11892475500146522536, PySem.W.Fast.te14364793385576792824]; cases led <;> exact byRow2 "special-get-raises" (by intro w os F G H R; kernel_rfl) (by intro w os F G H R; kernel_rfl)
theorem s79 (led : Bool) : turnS 20 79 led := by unfold turnS atS; rw [PySem.W.Fast.te10295753902157049106, PySem.W.Fast.te11892475500146522536, PySem.W.Fast.te14364793385576792824]; cases led <;> exact byRow2 "special-get-raises" (by intro w os F G H R; kernel_rfl) (by intro w os F G H R; kernel_rfl)
theorem s80 (led : Bool) : turnS 20 80 led := by unfold turnS atS; rw [PySem.W.Fast.te10295753902157049106, PySem.W.Fast.te11892475500146522536, PySem.W.Fast.te14364793385576792824]; cases led <;> exact byRow2 "special-get-raises" (by intro w os F G H R; kernel_rfl) (by intro w os F G H R; kernel_rfl)
theorem s81 (led : Bool) : turnS 20 81 led := by unfold turnS atS; rw [PySem.W.Fast.te10295753902157049106, PySem.W.Fast.te11892475500146522536, PySem.W.Fast.te14364793385576792824]; cases led <;> exact byRow2 "special-get-raises" (by intro w os F G H R; kernel_rfl) (by intro w os F G H R; kernel_rfl)
theorem s82 (led : Bool) : turnS 20 82 led := by unfold turnS atS; rw [PySem.W.Fast.te10295753902157049106, PySem.W.Fast.te11892475500146522536, PySem.W.Fast.te14364793385576792824]; cases led <;> exact byRow2 "special-get-raises" (by intro w os F G H R; kernel_rfl) (by intro w os F G H R; kernel_rfl)
theorem s83 (led : Bool) : turnS 20 83 led := by unfold turnS atS; rw [PySem.W.Fast.te10295753902157049106, PySem.W.Fast.te11892475500146522536, PySem.W.Fast.te14364793385576792824]; cases led <;> exact byRow2 "special-get-raises" (by intro w os F G H R; kernel_rfl) (by intro w os F G H R; kernel_rfl)
theorem s84 (led : Bool) : turnS 20 84 led := by unfold turnS atS; rw [PySem.W.Fast.te10295753902157049106, PySem.W.Fast.te11892475500146522536, PySem.W.Fast.te14364793385576792824]; cases led <;> exact byRow2 "special-get-raises" (by intro w os F G H R; kernel_rfl) (by intro w os F G H R; kernel_rfl)
theorem s85 (led : Bool) : turnS 20 85 led := by unfold turnS atS; rw [PySem.W.Fast.te10295753902157049106, PySem.W.Fast.te11892475500146522536, PySem.W.Fast.te14364793385576792824]; cases led <;> exact byRow2 "special-get-raises" (by intro w os F G H R; kernel_rfl) (by intro w os F G H R; kernel_rfl)
theorem s86 (led : Bool) : turnS 20 86 led := by unfold turnS atS; rw [PySem.W.Fast.te10295753902157049106, PySem.W.Fast.te11892475500146522536, PySem.W.Fast.te14364793385576792824]; cases led <;> exact byRow2 "special-get-raises" (by intro w os F G H R; kernel_rfl) (by intro w os F G H R; kernel_rfl)
theorem s87 (led : Bool) : turnS 20 87 led := by unfold turnS atS; rw [PySem.W.Fast.te10295753902157049106, PySem.W.Fast.te11892475500146522536, PySem.W.Fast.te14364793385576792824]; cases led <;> exact byRow2 "special-get-raises" (by intro w os F G H R; kernel_rfl) (by intro w os F G H R; kernel_rfl)
theorem s88 (led : Bool) : turnS 20 88 led := by unfold turnS atS; rw [PySem.W.Fast.te10295753902157049106, PySem.W.Fast.te11892475500146522536, PySem.W.Fast.te14364793385576792824]; cases led <;> exact byRow2 "special-get-raises" (by intro w os F G H R; kernel_rfl) (by intro w os F G H R; kernel_rfl)
theorem s89 (led : Bool) : turnS 20 89 led := by unfold turnS atS; rw [PySem.W.Fast.te10295753902157049106, PySem.W.Fast.te11892475500146522536, PySem.W.Fast.te14364793385576792824]; cases led <;> exact byRow2 "special-get-raises" (by intro w os F G H R; kernel_rfl) (by intro w os F G H R; kernel_rfl)
theorem s90 (led : Bool) : turnS 20 90 led := by unfold turnS atS; rw [PySem.W.Fast.te10295753902157049106, PySem.W.Fast.te11892475500146522536, PySem.W.Fast.te14364793385576792824]; cases led <;> exact byRow2 "special-get-raises" (by intro w os F G H R; kernel_rfl) (by intro w os F G H R; kernel_rfl)
theorem s91 (led : Bool) : turnS 20 91 led := by unfold turnS atS; rw [PySem.W.Fast.te10295753902157049106, PySem.W.Fast.te11892475500146522536, PySem.W.Fast.te14364793385576792824]; cases led <;> exact byRow2 "special-get-raises" (by intro w os F G H R; kernel_rfl) (by intro w os F G H R; kernel_rfl)
theorem s92 (led : Bool) : turnS 20 92 led := by unfold turnS atS; rw [PySem.W.Fast.te10295753902157049106, PySem.W.Fast.te11892475500146522536, PySem.W.Fast.te14364793385576792824]; cases led <;> exact byRow2 "special-get-raises" (by intro w os F G H R; kernel_rfl) (by intro w os F G H R; kernel_rfl)
theorem s93 (led : Bool) : turnS 20 93 led := by unfold turnS atS; rw [PySem.W.Fast.te10295753902157049106, PySem.W.Fast.te11892475500146522536, PySem.W.Fast.te14364793385576792824]; cases led <;> exact byRow2 "special-get-raises" (by intro w os F G H R; kernel_rfl) (by intro w os F G H R; kernel_rfl)
theorem s94 (led : Bool) : turnS 20 94 led := by unfold turnS atS; rw [PySem.W.Fast.te10295753902157049106, PySem.W.Fast.te11892475500146522536, PySem.W.Fast.te14364793385576792824]; cases led <;> exact byRow2 "special-get-raises" (by intro w os F G H R; kernel_rfl) (by intro w os F G H R; kernel_rfl)
theorem s95 (led : Bool) : turnS 20 95 led := by unfold turnS atS; rw [PySem.W.Fast.te10295753902157049106, PySem.W.Fast.te11892475500146522536, PySem.W.Fast.te14364793385576792824]; cases led <;> exact byRow2 "special-get-raises" (by intro w os F G H R; kernel_rfl) (by intro w os F G H R; kernel_rfl)
theorem s96 (led : Bool) : turnS 20 96 led := by unfold turnS atS; rw [PySem.W.Fast.te10295753902157049106, PySem.W.Fast.te11892475500146522536, PySem.W.Fast.te14364793385576792824]; cases led <;> exact byRow2 "special-get-raises" (by intro w os F G H R; kernel_rfl) (by intro w os F G H R; kernel_rfl)
theorem chainL0 (w : World) (os : OsState) (F G H : Frame) (R : List Frame) {N : Nat} {r : Flow × Shared × Code × Pos} (h : segRun treeTable pw w 11 annT 1 N (S_l0 16 w os).abs (atL F G H R) = some r) : segRun treeTable pw w 11 annT 1 (17 + (17 + (17 + (17 + (17 + (17 + (17 + (17 + (17 + (17 + (17 + (17 + (17 + (17 + (17 + (17 + N)))))))))))))))) (S_l0 0 w os).abs (atL F G H R) = some r :=
  seg_go (segGo_of (l0 w os F G H R)) (seg_go (segGo_of (l1 w os F G H R)) (seg_go (segGo_of (l2 w os F G H R)) (seg_go (segGo_of (l3 w os F G H R)) (seg_go (segGo_of (l4 w os F G H R)) (seg_go (segGo_of (l5 w os F G H R)) (seg_go (segGo_of (l6 w os F G H R)) (seg_go (segGo_of (l7 w os F G H R)) (seg_go (segGo_of (l8 w os F G H R)) (seg_go (segGo_of (l9 w os F G H R)) (seg_go (segGo_of (l10 w os F G H R)) (seg_go (segGo_of (l11 w os F G H R)) (seg_go (segGo_of (l12 w os F G H R)) (seg_go (segGo_of (l13 w os F G H R)) (seg_go (segGo_of (l14 w os F G H R)) (seg_go (segGo_of (l15 w os F G H R)) (h))))))))))))))))
theorem chainL1 (w : World) (os : OsState) (F G H : Frame) (R : List Frame) {N : Nat} {r : Flow × Shared × Code × Pos} (h : segRun treeTable pw w 11 annT 1 N (S_l0 32 w os).abs (atL F G H R) = some r) : segRun treeTable pw w 11 annT 1 (17 + (17 + (17 + (17 + (17 + (17 + (17 + (17 + (17 + (17 + (17 + (17 + (17 + (17 + (17 + (17 + N)))))))))))))))) (S_l0 16 w os).abs (atL F G H R) = some r :=
  seg_go (segGo_of (l16 w os F G H R)) (seg_go (segGo_of (l17 w os F G H R)) (seg_go (segGo_of (l18 w os F G H R)) (seg_go (segGo_of (l19 w os F G H R)) (seg_go (segGo_of (l20 w os F G H R)) (seg_go (segGo_of (l21 w os F G H R)) (seg_go (segGo_of (l22 w os F G H R)) (seg_go (segGo_of (l23 w os F G H R)) (seg_go (segGo_of (l24 w os F G H R)) (seg_go (segGo_of (l25 w os F G H R)) (seg_go (segGo_of (l26 w os F G H R)) (seg_go (segGo_of (l27 w os F G H R)) (seg_go (segGo_of (l28 w os F G H R)) (seg_go (segGo_of (l29 w os F G H R)) (seg_go (segGo_of (l30 w os F G H R)) (seg_go (segGo_of (l31 w os F G H R)) (h))))))))))))))))
theorem chainL2 (w : World) (os : OsState) (F G H : Frame) (R : List Frame) {N : Nat} {r : Flow × Shared × Code × Pos} (h : segRun treeTable pw w 11 annT 1 N (S_l0 48 w os).abs (atL F G H R) = some r) : segRun treeTable pw w 11 annT 1 (17 + (17 + (17 + (17 + (17 + (17 + (17 + (17 + (17 + (17 + (17 + (17 + (17 + (17 + (17 + (17 + N)))))))))))))))) (S_l0 32 w os).abs (atL F G H R) = some r :=
  seg_go (segGo_of (l32 w os F G H R)) (seg_go (segGo_of (l33 w os F G H R)) (seg_go (segGo_of (l34 w os F G H R)) (seg_go (segGo_of (l35 w os F G H R)) (seg_go (segGo_of (l36 w os F G H R)) (seg_go (segGo_of (l37 w os F G H R)) (seg_go (segGo_of (l38 w os F G H R)) (seg_go (segGo_of (l39 w os F G H R)) (seg_go (segGo_of (l40 w os F G H R)) (seg_go (segGo_of (l41 w os F G H R)) (seg_go (segGo_of (l42 w os F G H R)) (seg_go (segGo_of (l43 w os F G H R)) (seg_go (segGo_of (l44 w os F G H R)) (seg_go (segGo_of (l45 w os F G H R)) (seg_go (segGo_of (l46 w os F G H R)) (seg_go (segGo_of (l47 w os F G H R)) (h))))))))))))))))
theorem chainL3 (w : World) (os : OsState) (F G H : Frame) (R : List Frame) {N : Nat} {r : Flow × Shared × Code × Pos} (h : segRun treeTable pw w 11 annT 1 N (S_l0 64 w os).abs (atL F G H R) = some r) : segRun treeTable pw w 11 annT 1 (17 + (17 + (17 + (17 + (17 + (17 + (17 + (17 + (17 + (17 + (17 + (17 + (17 + (17 + (17 + (17 + N)))))))))))))))) (S_l0 48 w os).abs (atL F G H R) = some r :=
  seg_go (segGo_of (l48 w os F G H R)) (seg_go (segGo_of (l49 w os F G H R)) (seg_go (segGo_of (l50 w os F G H R)) (seg_go (segGo_of (l51 w os F G H R)) (seg_go (segGo_of (l52 w os F G H R)) (seg_go (segGo_of (l53 w os F G H R)) (seg_go (segGo_of (l54 w os F G H R)) (seg_go (segGo_of (l55 w os F G H R)) (seg_go (segGo_of (l56 w os F G H R)) (seg_go (segGo_of (l57 w os F G H R)) (seg_go (segGo_of (l58 w os F G H R)) (seg_go (segGo_of (l59 w os F G H R)) (seg_go (segGo_of (l60 w os F G H R)) (seg_go (segGo_of (l61 w os F G H R)) (seg_go (segGo_of (l62 w os F G H R)) (seg_go (segGo_of (l63 w os F G H R)) (h))))))))))))))))
theorem chainL4 (w : World) (os : OsState) (F G H : Frame) (R : List Frame) {N : Nat} {r : Flow × Shared × Code × Pos} (h : segRun treeTable pw w 11 annT 1 N (S_l0 80 w os).abs (atL F G H R) = some r) : segRun treeTable pw w 11 annT 1 (17 + (17 + (17 + (17 + (17 + (17 + (17 + (17 + (17 + (17 + (17 + (17 + (17 + (17 + (17 + (17 + N)))))))))))))))) (S_l0 64 w os).abs (atL F G H R) = some r :=
  seg_go (segGo_of (l64 w os F G H R)) (seg_go (segGo_of (l65 w os F G H R)) (seg_go (segGo_of (l66 w os F G H R)) (seg_go (segGo_of (l67 w os F G H R)) (seg_go (segGo_of (l68 w os F G H R)) (seg_go (segGo_of (l69 w os F G H R)) (seg_go (segGo_of (l70 w os F G H R)) (seg_go (segGo_of (l71 w os F G H R)) (seg_go (segGo_of (l72 w os F G H R)) (seg_go (segGo_of (l73 w os F G H R)) (seg_go (segGo_of (l74 w os F G H R)) (seg_go (segGo_of (l75 w os F G H R)) (seg_go (segGo_of (l76 w os F G H R)) (seg_go (segGo_of (l77 w os F G H R)) (seg_go (segGo_of (l78 w os F G H R)) (seg_go (segGo_of (l79 w os F G H R)) (h))))))))))))))))
theorem chainL5 (w : World) (os : OsState) (F G H : Frame) (R : List Frame) {N : Nat} {r : Flow × Shared × Code × Pos} (h : segRun treeTable pw w 11 annT 1 N (S_l0 96 w os).abs (atL F G H R) = some r) : segRun treeTable pw w 11 annT 1 (17 + (17 + (17 + (17 + (17 + (17 + (17 + (17 + (17 + (17 + (17 + (17 + (17 + (17 + (17 + (17 + N)))))))))))))))) (S_l0 80 w os).abs (atL F G H R) = some r :=
  seg_go (segGo_of (l80 w os F G H R)) (seg_go (segGo_of (l81 w os F G H R)) (seg_go (segGo_of (l82 w os F G H R)) (seg_go (segGo_of (l83 w os F G H R)) (seg_go (segGo_of (l84 w os F G H R)) (seg_go (segGo_of (l85 w os F G H R)) (seg_go (segGo_of (l86 w os F G H R)) (seg_go (segGo_of (l87 w os F G H R)) (seg_go (segGo_of (l88 w os F G H R)) (seg_go (segGo_of (l89 w os F G H R)) (seg_go (segGo_of (l90 w os F G H R)) (seg_go (segGo_of (l91 w os F G H R)) (seg_go (segGo_of (l92 w os F G H R)) (seg_go (segGo_of (l93 w os F G H R)) (seg_go (segGo_of (l94 w os F G H R)) (seg_go (segGo_of (l95 w os F G H R)) (h))))))))))))))))
theorem chainS0 (led : Bool) (w : World) (os : OsState) (F G H : Frame) (R : List Frame) {N : Nat} {r : Flow × Shared × Code × Pos} (h : segRun treeTable pw w 11 annT 1 N (S_t0 16 led w os).abs (atS F G H R) = some r) : segRun treeTable pw w 11 annT 1 (20 + (20 + (20 + (20 + (22 + (20 + (20 + (20 + (20 + (20 + (20 + (20 + (20 + (20 + (20 + (20 + N)))))))))))))))) (S_t0 0 led w os).abs (atS F G H R) = some r :=
  seg_go (segGo_of (s0 led w os F G H R)) (seg_go (segGo_of (s1 led w os F G H R)) (seg_go (segGo_of (s2 led w os F G H R)) (seg_go (segGo_of (s3 led w os F G H R)) (seg_go (segGo_of (s4 led w os F G H R)) (seg_go (segGo_of (s5 led w os F G H R)) (seg_go (segGo_of (s6 led w os F G H R)) (seg_go (segGo_of (s7 led w os F G H R)) (seg_go (segGo_of (s8 led w os F G H R)) (seg_go (segGo_of (s9 led w os F G H R)) (seg_go (segGo_of (s10 led w os F G H R)) (seg_go (segGo_of (s11 led w os F G H R)) (seg_go (segGo_of (s12 led w os F G H R)) (seg_go (segGo_of (s13 led w os F G H R)) (seg_go (segGo_of (s14 led w os F G H R)) (seg_go (segGo_of (s15 led w os F G H R)) (h))))))))))))))))
theorem chainS1 (led : Bool) (w : World) (os : OsState) (F G H : Frame) (R : List Frame) {N : Nat} {r : Flow × Shared × Code × Pos} (h : segRun treeTable pw w 11 annT 1 N (S_t0 32 led w os).abs (atS F G H R) = some r) : segRun treeTable pw w 11 annT 1 (20 + (20 + (22 + (20 + (20 + (20 + (20 + (20 + (20 + (20 + (20 + (20 + (20 + (20 + (20 + (20 + N)))))))))))))))) (S_t0 16 led w os).abs (atS F G H R) = some r :=
  seg_go (segGo_of (s16 led w os F G H R)) (seg_go (segGo_of (s17 led w os F G H R)) (seg_go (segGo_of (s18 led w os F G H R)) (seg_go (segGo_of (s19 led w os F G H R)) (seg_go (segGo_of (s20 led w os F G H R)) (seg_go (segGo_of (s21 led w os F G H R)) (seg_go (segGo_of (s22 led w os F G H R)) (seg_go (segGo_of (s23 led w os F G H R)) (seg_go (segGo_of (s24 led w os F G H R)) (seg_go (segGo_of (s25 led w os F G H R)) (seg_go (segGo_of (s26 led w os F G H R)) (seg_go (segGo_of (s27 led w os F G H R)) (seg_go (segGo_of (s28 led w os F G H R)) (seg_go (segGo_of (s29 led w os F G H R)) (seg_go (segGo_of (s30 led w os F G H R)) (seg_go (segGo_of (s31 led w os F G H R)) (h))))))))))))))))
theorem chainS2 (led : Bool) (w : World) (os : OsState) (F G H : Frame) (R : List Frame) {N : Nat} {r : Flow × Shared × Code × Pos} (h : segRun treeTable pw w 11 annT 1 N (S_t0 48 led w os).abs (atS F G H R) = some r) : segRun treeTable pw w 11 annT 1 (20 + (20 + (20 + (20 + (20 + (20 + (20 + (20 + (20 + (20 + (20 + (20 + (20 + (20 + (20 + (20 + N)))))))))))))))) (S_t0 32 led w os).abs (atS F G H R) = some r :=
  seg_go (segGo_of (s32 led w os F G H R)) (seg_go (segGo_of (s33 led w os F G H R)) (seg_go (segGo_of (s34 led w os F G H R)) (seg_go (segGo_of (s35 led w os F G H R)) (seg_go (segGo_of (s36 led w os F G H R)) (seg_go (segGo_of (s37 led w os F G H R)) (seg_go (segGo_of (s38 led w os F G H R)) (seg_go (segGo_of (s39 led w os F G H R)) (seg_go (segGo_of (s40 led w os F G H R)) (seg_go (segGo_of (s41 led w os F G H R)) (seg_go (segGo_of (s42 led w os F G H R)) (seg_go (segGo_of (s43 led w os F G H R)) (seg_go (segGo_of (s44 led w os F G H R)) (seg_go (segGo_of (s45 led w os F G H R)) (seg_go (segGo_of (s46 led w os F G H R)) (seg_go (segGo_of (s47 led w os F G H R)) (h))))))))))))))))
theorem chainS3 (led : Bool) (w : World) (os : OsState) (F G H : Frame) (R : List Frame) {N : Nat} {r : Flow × Shared × Code × Pos} (h : segRun treeTable pw w 11 annT 1 N (S_t0 64 led w os).abs (atS F G H R) = some r) : segRun treeTable pw w 11 annT 1 (20 + (20 + (20 + (20 + (20 + (20 + (20 + (20 + (20 + (20 + (20 + (20 + (20 + (20 + (20 + (20 + N)))))))))))))))) (S_t0 48 led w os).abs (atS F G H R) = some r :=
  seg_go (segGo_of (s48 led w os F G H R)) (seg_go (segGo_of (s49 led w os F G H R)) (seg_go (segGo_of (s50 led w os F G H R)) (seg_go (segGo_of (s51 led w os F G H R)) (seg_go (segGo_of (s52 led w os F G H R)) (seg_go (segGo_of (s53 led w os F G H R)) (seg_go (segGo_of (s54 led w os F G H R)) (seg_go (segGo_of (s55 led w os F G H R)) (seg_go (segGo_of (s56 led w os F G H R)) (seg_go (segGo_of (s57 led w os F G H R)) (seg_go (segGo_of (s58 led w os F G H R)) (seg_go (segGo_of (s59 led w os F G H R)) (seg_go (segGo_of (s60 led w os F G H R)) (seg_go (segGo_of (s61 led w os F G H R)) (seg_go (segGo_of (s62 led w os F G H R)) (seg_go (segGo_of (s63 led w os F G H R)) (h))))))))))))))))
theorem chainS4 (led : Bool) (w : World) (os : OsState) (F G H : Frame) (R : List Frame) {N : Nat} {r : Flow × Shared × Code × Pos} (h : segRun treeTable pw w 11 annT 1 N (S_t0 80 led w os).abs (atS F G H R) = some r) : segRun treeTable pw w 11 annT 1 (20 + (20 + (20 + (20 + (20 + (20 + (20 + (20 + (20 + (20 + (20 + (20 + (22 + (20 + (20 + (20 + N)))))))))))))))) (S_t0 64 led w os).abs (atS F G H R) = some r :=
  seg_go (segGo_of (s64 led w os F G H R)) (seg_go (segGo_of (s65 led w os F G H R)) (seg_go (segGo_of (s66 led w os F G H R)) (seg_go (segGo_of (s67 led w os F G H R)) (seg_go (segGo_of (s68 led w os F G H R)) (seg_go (segGo_of (s69 led w os F G H R)) (seg_go (segGo_of (s70 led w os F G H R)) (seg_go (segGo_of (s71 led w os F G H R)) (seg_go (segGo_of (s72 led w os F G H R)) (seg_go (segGo_of (s73 led w os F G H R)) (seg_go (segGo_of (s74 led w os F G H R)) (seg_go (segGo_of (s75 led w os F G H R)) (seg_go (segGo_of (s76 led w os F G H R)) (seg_go (segGo_of (s77 led w os F G H R)) (seg_go (segGo_of (s78 led w os F G H R)) (seg_go (segGo_of (s79 led w os F G H R)) (h))))))))))))))))
theorem chainS5 (led : Bool) (w : World) (os : OsState) (F G H : Frame) (R : List Frame) {N : Nat} {r : Flow × Shared × Code × Pos} (h : segRun treeTable pw w 11 annT 1 N (S_t0 96 led w os).abs (atS F G H R) = some r) : segRun treeTable pw w 11 annT 1 (20 + (20 + (20 + (20 + (20 + (20 + (20 + (20 + (20 + (20 + (20 + (20 + (20 + (20 + (20 + (20 + N)))))))))))))))) (S_t0 80 led w os).abs (atS F G H R) = some r :=
  seg_go (segGo_of (s80 led w os F G H R)) (seg_go (segGo_of (s81 led w os F G H R)) (seg_go (segGo_of (s82 led w os F G H R)) (seg_go (segGo_of (s83 led w os F G H R)) (seg_go (segGo_of (s84 led w os F G H R)) (seg_go (segGo_of (s85 led w os F G H R)) (seg_go (segGo_of (s86 led w os F G H R)) (seg_go (segGo_of (s87 led w os F G H R)) (seg_go (segGo_of (s88 led w os F G H R)) (seg_go (segGo_of (s89 led w os F G H R)) (seg_go (segGo_of (s90 led w os F G H R)) (seg_go (segGo_of (s91 led w os F G H R)) (seg_go (segGo_of (s92 led w os F G H R)) (seg_go (segGo_of (s93 led w os F G H R)) (seg_go (segGo_of (s94 led w os F G H R)) (seg_go (segGo_of (s95 led w os F G H R)) (h))))))))))))))))
theorem chainS6 (led : Bool) (w : World) (os : OsState) (F G H : Frame) (R : List Frame) {N : Nat} {r : Flow × Shared × Code × Pos} (h : segRun treeTable pw w 11 annT 1 N (S_t0 97 led w os).abs (atS F G H R) = some r) : segRun treeTable pw w 11 annT 1 (20 + N) (S_t0 96 led w os).abs (atS F G H R) = some r :=
  seg_go (segGo_of (s96 led w os F G H R)) (h)
end Mine

/-! HeadF -/
namespace Mine
open PySem PySem.W PySem.Calls PyProof.Rows
set_option maxRecDepth 100000
set_option maxHeartbeats 0
noncomputable def stkOf : Option (SharedT × Thread) → List Frame
  | some (_, t) => t.stack
  | none => []
/-- the statement that makes the set, up to the first loop's head (in the library's quick constants) -/
noncomputable def run0 (w : World) (os : OsState) : Option (SharedT × Thread) := PySem.W.Fast.tw10295753902157049106 PySem.W.Fast.tw14364793385576792824 pw w 11 annT 1 87 (S_s6 w os) ⟨(PySem.W.Fast.tw12563942051412417395 stsB envT).wrap doneF deadEnd id id, cB, posA, BT0⟩
noncomputable def stk1 (w : World) (os : OsState) : List Frame := stkOf (run0 w os)
theorem pieceB0 : ∀ (w : World) (os : OsState), segGoT treeTable pw w 11 annT 1 87 (S_s6 w os) (piecesOf stsB envT cB posA BT0) = some (S_l0 0 w os, ⟨denote treeTable cL, cL, posL, stk1 w os⟩) := by
  rw [piecesOf, PySem.W.Fast.te12563942051412417395, PySem.W.Fast.te10295753902157049106, PySem.W.Fast.te11892475500146522536, PySem.W.Fast.te14364793385576792824]
  exact byRow2 "special-get-raises" (by intro w os; kernel_rfl) (by intro w os; kernel_rfl)
noncomputable def run2 (w : World) (os : OsState) : Option (SharedT × Thread) := PySem.W.Fast.tw10295753902157049106 PySem.W.Fast.tw14364793385576792824 pw w 11 annT 1 59 (S_l0 96 w os) ⟨PySem.W.Fast.tw11892475500146522536 PySem.W.Fast.tw14364793385576792824 cL, cL, posL, stk1 w os⟩
noncomputable def stk2 (w : World) (os : OsState) : List Frame := stkOf (run2 w os)
theorem pieceB2 : ∀ (w : World) (os : OsState), segGoT treeTable pw w 11 annT 1 59 (S_l0 96 w os) ⟨denote treeTable cL, cL, posL, stk1 w os⟩ = some (S_t0 0 (!w.params.followText "set-order") w os, ⟨denote treeTable cS, cS, posS, stk2 w os⟩) := by
  rw [PySem.W.Fast.te10295753902157049106, PySem.W.Fast.te11892475500146522536, PySem.W.Fast.te14364793385576792824]
  exact byRow2 "special-get-raises" (by intro w os; kernel_rfl) (by intro w os; kernel_rfl)
theorem pieceB4 : ∀ (w : World) (os : OsState), segRunT treeTable pw w 11 annT 1 27 (S_t0 97 (!w.params.followText "set-order") w os) ⟨denote treeTable cS, cS, posS, stk2 w os⟩ = some (.next, S_s7 (!w.params.followText "set-order") w os, cB, posB) := by
  rw [PySem.W.Fast.te10110043849684766642, PySem.W.Fast.te11892475500146522536, PySem.W.Fast.te14364793385576792824]
  exact byRow2 "special-get-raises" (by intro w os; kernel_rfl) (by intro w os; kernel_rfl)
noncomputable def fr0 : Frame := topFrame pos0
theorem stk1_shape : ∀ (w : World) (os : OsState), stk1 w os = (stk1 w os).getD 0 fr0 :: (stk1 w os).getD 1 fr0 :: (stk1 w os).getD 2 fr0 :: [] :=
  byRow2 "special-get-raises" (by intro w os; kernel_rfl) (by intro w os; kernel_rfl)
theorem stk2_shape : ∀ (w : World) (os : OsState), stk2 w os = (stk2 w os).getD 0 fr0 :: (stk2 w os).getD 1 fr0 :: (stk2 w os).getD 2 fr0 :: (stk2 w os).getD 3 fr0 :: [] :=
  byRow2 "special-get-raises" (by intro w os; kernel_rfl) (by intro w os; kernel_rfl)
theorem pieceC (w : World) (os : OsState) : segRunT treeTable pw w 11 annT 1 245 (S_s7 (!w.params.followText "set-order") w os) (piecesOf stsC envT cB posB BT0) = some (.next, S_sf w os, cB, posC) := by
  rw [piecesOf, PySem.W.Fast.te12563942051412417395, PySem.W.Fast.te10110043849684766642, PySem.W.Fast.te14364793385576792824]
  kernel_rfl
end Mine

/-! HeadG -/
namespace Mine
open PySem PySem.W PySem.Calls PyProof.Rows
set_option maxRecDepth 100000
set_option maxHeartbeats 0
theorem pieceB (w : World) (os : OsState) : ∃ M, Nat.ble M 4000 = true ∧ segRun treeTable pw w 11 annT 1 M (S_s6 w os).abs (piecesOf stsB envT cB posA BT0) = some (.next, (S_s7 (!w.params.followText "set-order") w os).abs, cB, posB) := by
  obtain ⟨F1, G1, H1, R1, e1⟩ : ∃ F G H R, (⟨denote treeTable cL, cL, posL, stk1 w os⟩ : Thread) = atL F G H R := ⟨_, _, _, _, congrArg (Thread.mk _ _ _) (stk1_shape w os)⟩
  obtain ⟨F2, G2, H2, R2, e2⟩ : ∃ F G H R, (⟨denote treeTable cS, cS, posS, stk2 w os⟩ : Thread) = atS F G H R := ⟨_, _, _, _, congrArg (Thread.mk _ _ _) (stk2_shape w os)⟩
  have b4 := segRun_of (pieceB4 w os)
  rw [e2] at b4
  have s := chainS0 _ _ _ _ _ _ _ (chainS1 _ _ _ _ _ _ _ (chainS2 _ _ _ _ _ _ _ (chainS3 _ _ _ _ _ _ _ (chainS4 _ _ _ _ _ _ _ (chainS5 _ _ _ _ _ _ _ (chainS6 _ _ _ _ _ _ _ b4))))))
  rw [← e2] at s
  have b2 := seg_go (segGo_of (pieceB2 w os)) s
  rw [e1] at b2
  have l := chainL0 _ _ _ _ _ _ (chainL1 _ _ _ _ _ _ (chainL2 _ _ _ _ _ _ (chainL3 _ _ _ _ _ _ (chainL4 _ _ _ _ _ _ (chainL5 _ _ _ _ _ _ b2)))))
  rw [← e1] at l
  exact ⟨_, by decide +kernel, seg_go (segGo_of (pieceB0 w os)) l⟩
theorem finT (w : World) (os : OsState) : topRun treeTable pw w 11 annT 2 (S_sf w os).abs ⟨doneF .next, cB, posC, BT0⟩ = some (S_sf w os).abs := by kernel_rfl
theorem body_is : behindTheImports pw = stsA ++ (stsB ++ (stsC ++ [])) := by kernel_rfl
theorem runT (w : World) (os : OsState) : topRun treeTable pw w 11 annT 5000 ⟨boot_heap w.params, Array.mk [], boot_drawn, boot_toks, os⟩ (topStub pw) = some (S_sf w os).abs := by
  obtain ⟨M, hM, b⟩ := pieceB w os
  have c := piece_app (rest := []) (segRun_of (pieceC w os)) (piece_nil (finT w os))
  have b' := piece_app b c
  have a := piece_app (segRun_of (pieceA w os)) b'
  have e : restOf (stsA ++ (stsB ++ (stsC ++ []))) envT cB pos0 [topFrame pos0] = restOf (behindTheImports pw) envT cB pos0 BT0 := by rw [body_is]; rfl
  have a' := e ▸ a
  have t := go_top (pre w os) (piece_block (block w os) a')
  have le := Nat.le_of_ble_eq_true hM
  have := topRun_mono (5000 - (12 + (1 + (135 + (M + (245 + 2)))))) _ _ _ _ t
  rwa [show 12 + (1 + (135 + (M + (245 + 2)))) + (5000 - (12 + (1 + (135 + (M + (245 + 2)))))) = 5000 by omega] at this
end Mine

/-! HeadH -/
namespace Mine
open PySem PySem.W PySem.Calls PyProof.Rows
set_option maxRecDepth 100000
set_option maxHeartbeats 0
noncomputable def qv : Program := { pw with main := { pw.main with body := [stm 1, stm 2, stm 4, stm 6, stm 7, stm 9, stm 10, stm 11, stm 12, stm 13, stm 14, stm 15] } }
noncomputable def looseF : List Str := [Str.ofString "c9_set"]
theorem asF_ok (P : Params) : asF = (KF P).map (·.1) := by kernel_rfl
noncomputable abbrev hookF : Hook := kHook KF asF asF_ok
noncomputable def XtF : Shared → Bool := fun s => xlAt qv [] s && recOk [] s
theorem openF : ∀ w : World, (fencedOpening treeTable pw w 5000).map (fun s => (s.heap, s.gens, s.drawn, s.toks)) = some (boot_heap w.params, Array.mk [], boot_drawn, boot_toks) :=
  boot_open (by kernel_rfl) (by decide) (fun s => by kernel_rfl)
theorem sizeF : ∀ w : World, ((boot_heap w.params).isNs mainGlobals && (Array.mk [] : Array GenState).size == 0, (boot_heap w.params).objs.size, (boot_heap w.params).nsMap mainGlobals "__annotations__") = (true, 11, annT) := by
  intro w; kernel_rfl
noncomputable def H1 (P : Params) : Heap := absHeap (tr_sf P) 97 {}
theorem look1 (w : World) (os : OsState) : (staticsOk (importedModules pw.main.body) (boot_heap w.params) (H1 w.params) && namesBound pw (H1 w.params) && gensDone ⟨H1 w.params, Array.mk [], {}, 501, os⟩ && laidKept (boot_heap w.params) (H1 w.params)) = true := by kernel_rfl
end Mine

/-! HeadI -/
namespace Mine
open PySem PySem.W PySem.Calls PyProof.Rows
set_option maxRecDepth 100000
set_option maxHeartbeats 0
noncomputable abbrev SF (w : World) (os : OsState) : Shared := ⟨H1 w.params, Array.mk [], {}, 501, os⟩
theorem see1 (w : World) (os : OsState) : seen ((recsOf qv).map (·.name)) (ownsOf qv) [] { SF w os with gens := #[] } = expectedOf qv := by
  rw [PySem.W.Fast.te5160383126252970620]; kernel_rfl
theorem see2 (w : World) (os : OsState) : (SF w os).heap.bltView = bltViewBooted := by kernel_rfl
theorem see3 (w : World) (os : OsState) : ((SF w os).heap.keysOk (looseW qv looseF) ((recsOf qv).map (·.name)) ((litsOf qv).map (·.1)) ((clssOf qv (looseW qv looseF)).map (·.name)) && (SF w os).heap.accountedOkI (importedModules pw.main.body) && (SF w os).heap.isNs mainGlobals && (SF w os).heap.isNs builtinsNs && tablesOk qv (SF w os).heap && XtF (SF w os) && (if true then (SF w os).gens.size == 0 else !leftWithCleanup (SF w os).gens)) = true := by kernel_rfl
theorem see4 (w : World) (os : OsState) : tabsOk qv (SF w os) = true := by rw [PySem.W.Fast.te479339242167458305]; kernel_rfl
theorem see5 (w : World) (os : OsState) : pinSeenD qv (drecsOf qv) (SF w os) = pinGoodD (drecsOf qv) := by rw [PySem.W.Fast.te16090120013241838585]; kernel_rfl
theorem see6 (w : World) (os : OsState) : plainSeenE qv (looseW qv looseF) (SF w os) = plainGoodE qv (looseW qv looseF) := by rw [PySem.W.Fast.te2386780881361962483]; kernel_rfl
theorem see7 (w : World) (os : OsState) : plainSeenD qv looseF (SF w os) = plainGoodD qv looseF := by rw [PySem.W.Fast.te11698064438423848299]; kernel_rfl
theorem see8 (w : World) (os : OsState) : wideSeen qv (SF w os) = wideGood qv := by rw [PySem.W.Fast.te7317090234206586261]; kernel_rfl
theorem see9 (w : World) (os : OsState) : clsSeenW qv looseF (SF w os) = clsGoodW qv looseF := by rw [PySem.W.Fast.te7369524293546568484]; kernel_rfl
theorem see10 (w : World) (os : OsState) : hookF.obs (SF w os) = hookF.val w := by kernel_rfl
end Mine

/-! HeadJ -/
namespace Mine
open PySem PySem.W PySem.Calls PyProof.Rows
set_option maxRecDepth 100000
set_option maxHeartbeats 0
theorem leftF : LeftO pw qv looseF XtF hookF.obs hookF.val 5000 :=
  LeftO.of_pieces (H₁ := H1) (gs₁ := Array.mk []) (d₁ := {}) (k₁ := 501) (m₀ := 11) (ann := annT) (M := 5000) openF sizeF runT (by decide)
    (fun w => funext fun os => looks_pair (look1 w os) (looks_pair (looks_pair (see1 w os) (looks_pair (see2 w os) (looks_pair (see3 w os) (looks_pair (see4 w os) (looks_pair (see5 w os) (looks_pair (see6 w os) (looks_pair (see7 w os) (looks_pair (see8 w os) (see9 w os))))))))) (see10 w os)))
abbrev rwF := PySem.Challenge.rw_rl0010_01
theorem saidF : rwF.wellSaid = true := by decide +kernel
end Mine

/-! HeadK -/
namespace Mine
open PySem PySem.W PySem.Calls PyProof.Rows
set_option maxRecDepth 100000
set_option maxHeartbeats 0
noncomputable def dF : DefRec := { name := Str.ofString "law", params := fpar (stm 15), body := fbod (stm 15), scope := fsco (stm 15), pos := ⟨91, 0, 134, 59⟩ }
theorem hdF (walk : WalkO qv looseF (XL qv []) hookF.says rwF.row.toRowW dF [] fun f vs => PySem.call f vs) : rwF.Holds := by
  refine holds_law saidF fun said => ?_
  refine holds_open (q := qv) (loose := looseF) (Xt := XtF) (XP := XL qv []) (Yf := hookF.obs) (Ya := hookF.val) (YP := hookF.says) (N := 5000) leftF hookF.of hookF.keeps (fun s e => xl_of s (Bool.and_eq_true_iff.mp e).1) XL.keeps (d := dF) (kwd := []) (by kernel_rfl) (by kernel_rfl) (by kernel_rfl) (fun s e => recFacts_of (Bool.and_eq_true_iff.mp e).2) (by rfl) said (by decide +kernel) ⟨rfl, rfl, rfl, rfl, rfl, by decide +kernel⟩ ?hw walk
  case hw => w_witness2
end Mine

/-! WBase -/
namespace Mine
open PySem PySem.W PySem.Calls PyProof.Rows
set_option maxRecDepth 100000
/-- what stands below every call: the written part, the names -/
structure Gd (w : World) (mg mb : Str → Option Value) (h : Heap) : Prop where
  K : (KF w.params).In h
  T : TopRead qv (looseW qv looseF) mg mb h
  GL : Glob 0 mg mb (List.map itemOf (recsOf qv)) (scalarsOf [] ++ constsW qv) [] (namesW qv looseF) h
noncomputable def Ext (h h' : Heap) : Prop := ∀ b o, h.get? b = some o → h'.get? b = some o
theorem Ext.refl (h : Heap) : Ext h h := fun _ _ e => e
theorem Ext.trans {a b c : Heap} (x : Ext a b) (y : Ext b c) : Ext a c := fun _ _ e => y _ _ (x _ _ e)
theorem Gd.ext {w : World} {mg mb : Str → Option Value} {h h' : Heap} (G : Gd w mg mb h) (x : Ext h h') : Gd w mg mb h' := ⟨G.K.keeps x, G.T.keeps x, G.GL.keeps x⟩
theorem Fr.ext {h₀ h h' : Heap} {L : Addr} {m : Str → Option Value} (F : Fr h₀ L h m) (x : Ext h h') : Fr h₀ L h' m := ⟨F.ns.keeps x, fun b o e => x b o (F.keep b o e), F.above⟩
theorem News.ext {h₀ h h' : Heap} {L : Addr} {news : List (Addr × Obj)} (N : News h₀ L h news) (x : Ext h h') : News h₀ L h' news := fun p hp => ⟨x _ _ (N p hp).1, (N p hp).2⟩
/-- what a call of a pure def leaves: the old heap stands, a value of which P is told -/
noncomputable def Back (s : Shared) (P : Value → Heap → Prop) (v : Value) (s' : Shared) : Prop := ∃ h' tk, s' = { s with heap := h', toks := tk } ∧ Ext s.heap h' ∧ P v h'
theorem enter {w : World} {mg mb : Str → Option Value} {A : Around} {s : Shared} {f c : Addr} {o : Obj} {name : Str} {i : Nat} {args : List Value} {binds : List (Str × Value)} {pm : Value} {P : Value → Heap → Prop}
    (G : Gd w mg mb s.heap) (hd : A.depth < 900) (ho : (KF w.params).lookup f = some o) (hdata : o.data = .func (docDef name (fpar (stm i)) (fbod (stm i)) (fsco (stm i)) pm (.ref c) .none)) (hc : codeIn (KF w.params) (.ref c) name = true)
    (hbind : bindArgs (docDef name (fpar (stm i)) (fbod (stm i)) (fsco (stm i)) pm (.ref c) .none) ⟨args, []⟩ = pure binds)
    (hloc : ∀ x ∈ binds, (fsco (stm i)).names.lookup x.1 = some .local)
    (hco : (fsco (stm i)).isCoroutine = false) (hgen : (fsco (stm i)).isGenerator = false) (hk : (fsco (stm i)).kind = .function) (hcell : ∀ x ∈ (fsco (stm i)).names, x.2 ≠ .cell)
    (h : ∀ h₁, Fr s.heap s.heap.objs.size h₁ (fun x => binds.reverse.lookup x) →
      wpAny (model pw w) (A.deeper (envOf name (fsco (stm i)) s.heap.objs.size f (.ref c))) (execs (fbod (stm i)) (envOf name (fsco (stm i)) s.heap.objs.size f (.ref c)))
        (fun fl s' => Back s P (match fl with | .ret v => v | _ => .none) s') (fun _ _ => False) { s with heap := h₁, toks := s.toks + binds.length }) :
    wpAny (model pw w) A (call (.ref f) args) (Back s P) (fun _ _ => False) s :=
  wpAny_call (call_plain_ret (Nat.lt_trans hd (by decide)) (G.K _ _ ho) hdata G.T.nolimit (codeRec_of G.K hc) hbind hloc h hco hgen hk hcell)
theorem enterC {w : World} {mg mb : Str → Option Value} {A : Around} {s : Shared} {f c : Addr} {o : Obj} {name : Str} {i : Nat} {args : List Value} {binds : List (Str × Value)} {pm : Value} {P : Value → Heap → Prop}
    (G : Gd w mg mb s.heap) (hd : A.depth < 900) (ho : (KF w.params).lookup f = some o) (hdata : o.data = .func (docDef name (fpar (stm i)) (fbod (stm i)) (fsco (stm i)) pm (.ref c) .none)) (hc : codeIn (KF w.params) (.ref c) name = true)
    (hbind : bindArgs (docDef name (fpar (stm i)) (fbod (stm i)) (fsco (stm i)) pm (.ref c) .none) ⟨args, []⟩ = pure binds)
    (hloc : ∀ x ∈ binds, (fsco (stm i)).names.lookup x.1 = some .local)
    (hco : (fsco (stm i)).isCoroutine = false) (hgen : (fsco (stm i)).isGenerator = false) (hk : (fsco (stm i)).kind = .function) (hnd : ((cellsFrom 0 (fsco (stm i)).names []).map (·.1)).Nodup)
    (h : ∀ h₁ tk cells, Fr s.heap s.heap.objs.size h₁ (bindL (envOfC name (fsco (stm i)) s.heap.objs.size f (.ref c)).kindOf binds fun _ => none) → News s.heap s.heap.objs.size h₁ cells →
      CellsAre (bindC (envOfC name (fsco (stm i)) s.heap.objs.size f (.ref c)).kindOf binds fun _ => none) (cellsFrom (s.heap.objs.size + 1) (fsco (stm i)).names []) cells →
      wpAny (model pw w) (A.deeper (envOfC name (fsco (stm i)) s.heap.objs.size f (.ref c))) (execs (fbod (stm i)) (envOfC name (fsco (stm i)) s.heap.objs.size f (.ref c)))
        (fun fl s' => Back s P (match fl with | .ret v => v | _ => .none) s') (fun _ _ => False) { s with heap := h₁, toks := tk }) :
    wpAny (model pw w) A (call (.ref f) args) (Back s P) (fun _ _ => False) s :=
  wpAny_call (call_cellsN_ret (Nat.lt_trans hd (by decide)) (G.K _ _ ho) hdata G.T.nolimit (codeRec_of G.K hc) hbind (fun x hx => .inl (hloc x hx)) hnd h hco hgen hk)
noncomputable def pmOf (o : Obj) : Value := match o.data with | .func f => f.pyModule | _ => .none
theorem not_over {n : Int} (h : n.natAbs < 2 ^ 60) : ¬ (n.natAbs ≥ 2 ^ 1024 - 2 ^ 970) := by
  intro h2
  have : (2 : Nat) ^ 60 < 2 ^ 1024 - 2 ^ 970 := by decide +kernel
  omega
inductive Nm where
  | i (n : Int)
  | f (x : UInt64)
noncomputable def NmIs (v : Value) : Nm → Prop
  | .i k => ∃ t, v = .int k t
  | .f y => ∃ t, v = .float y t
noncomputable def Tup3 (T : Nm × Nm × Nm) (r : Value) (h : Heap) : Prop := ∃ a x y z, r = .ref a ∧ IsTup h a #[x, y, z] ∧ NmIs x T.1 ∧ NmIs y T.2.1 ∧ NmIs z T.2.2
theorem tup3_end {w : World} {A : Around} {E : Value → Shared → Prop} {s : Shared} {L : Addr} {m : Str → Option Value} {h : Heap} {tk : Nat} {T : Nm × Nm × Nm} {x y z : Value} (F : Fr s.heap L h m) (hT : NmIs x T.1 ∧ NmIs y T.2.1 ∧ NmIs z T.2.2) :
    wpAny (model pw w) A (newTuple [x, y, z]) (fun v s' => Back s (Tup3 T) v s') E { s with heap := h, toks := tk } :=
  newTuple_N (s := { s with heap := h, toks := tk }) F News.nil (fun h' F' N' => ⟨h', tk, rfl, F'.keep, _, x, y, z, rfl, ⟨_, (N' _ (List.mem_cons_self ..)).1, rfl, _, rfl⟩, hT⟩) (by show 3 ≤ sizeLine; decide)
noncomputable def truncF (x : UInt64) : Int := match Float64.decode x with
  | .fin sg m e => Float64.truncOf sg m e
  | _ => 0
theorem truncF_eq {x : UInt64} {sg : Bool} {m : Nat} {e : Int} (h : Float64.decode x = .fin sg m e) : truncF x = Float64.truncOf sg m e := by unfold truncF; rw [h]
/-- what hsv_to_rgb reckons, where the share is not nought -/
noncomputable def hsvT (h s : UInt64) (v : Int) : Nm × Nm × Nm :=
  let y := Float64.mul h 4618441417868443648
  let i := truncF y
  let f := Float64.sub y (Float64.ofInt i)
  let p := Nm.f (Float64.mul (Float64.ofInt v) (Float64.sub 4607182418800017408 s))
  let q := Nm.f (Float64.mul (Float64.ofInt v) (Float64.sub 4607182418800017408 (Float64.mul s f)))
  let t := Nm.f (Float64.mul (Float64.ofInt v) (Float64.sub 4607182418800017408 (Float64.mul s (Float64.sub 4607182418800017408 f))))
  let k := i.fmod 6
  if k = 0 then (.i v, t, p) else if k = 1 then (q, .i v, p) else if k = 2 then (p, .i v, t) else if k = 3 then (p, q, .i v) else if k = 4 then (t, p, .i v) else (.i v, p, q)
noncomputable def mx (r g b : Int) : Int := if g > r then if b > g then b else g else if b > r then b else r
noncomputable def mn (r g b : Int) : Int := if g < r then if b < g then b else g else if b < r then b else r
/-- int / int -/
noncomputable def dv (a b : Int) : UInt64 := Float64.ofFrac (decide (a < 0) != decide (b < 0)) a.natAbs b.natAbs
/-- what rgb_to_hsv reckons -/
noncomputable def rgbT (r g b : Int) : Nm × Nm × Nm :=
  if mn r g b = mx r g b then (.f 0, .f 0, .i (mx r g b)) else
  let ra := mx r g b - mn r g b
  let rc := dv (mx r g b - r) ra
  let gc := dv (mx r g b - g) ra
  let bc := dv (mx r g b - b) ra
  let h := if r = mx r g b then Float64.sub bc gc else if g = mx r g b then Float64.sub (Float64.add 4611686018427387904 rc) bc else Float64.sub (Float64.add 4616189618054758400 gc) rc
  (.f (Float64.divmod (Float64.div h 4618441417868443648) 4607182418800017408).2, .f (dv ra (mx r g b)), .i (mx r g b))
theorem bits60 {a : Int} (h : a.natAbs < 2 ^ 60) : Builtin.Int.intBits a ≤ 64 := intBits_le_64 (by omega) (by omega)
noncomputable def mn2 (a b : Int) : Int := if b < a then b else a
noncomputable def mx2 (a b : Int) : Int := if b > a then b else a
noncomputable def dueAt (part wheel share size corner : Int) : Int := size * ((2 - share) * wheel + share * mx2 0 (mn2 wheel (2 * wheel - 2 * mn2 ((3 * part - corner).fmod (3 * wheel)) ((corner - 3 * part).fmod (3 * wheel)))))
noncomputable def paintL (part wheel share size : Int) : List Int := [dueAt part wheel share size 0, dueAt part wheel share size wheel, dueAt part wheel share size (2 * wheel)]
/-- a list of ints stands at r -/
noncomputable def IntL (ns : List Int) (r : Value) (h : Heap) : Prop := ∃ a vs, r = .ref a ∧ h.IsList a vs.toArray ∧ IntsAre vs ns
noncomputable def wordL (heap : Int) : List Int := List.take (heap.fmod 3).toNat [(heap.fdiv 3).fmod 63, (heap.fdiv 189).fmod 64] ++ [if 32 + (heap.fdiv 12096).fmod 33 < 64 then 32 + (heap.fdiv 12096).fmod 33 else 1]
noncomputable def numL (ns : List Int) : Int := (List.foldl (fun (σ : Int × Unit) n => (σ.fst * 64 + n, ())) (0, ()) ns).fst
noncomputable def IntV (n : Int) (r : Value) (_ : Heap) : Prop := ∃ t, r = .int n t
noncomputable def backNum (k : Nat) (a0 a2 b0 b1 b2 : Int) : Int := 64 * ((b0 - a0 - b1).fmod 63 + 63 * ((((b0 - a0 - b1).fmod 63 - (b1 - b2 + (-1) ^ k * a2).fmod 65) * 33).fmod 65)) + b1
noncomputable def backL (k : Nat) (n : Int) : List Int := match k with
  | 1 => [(n.fdiv (64 ^ 0)).fmod 64]
  | 2 => [(n.fdiv (64 ^ 1)).fmod 64, (n.fdiv (64 ^ 0)).fmod 64]
  | 3 => [(n.fdiv (64 ^ 2)).fmod 64, (n.fdiv (64 ^ 1)).fmod 64, (n.fdiv (64 ^ 0)).fmod 64]
  | _ => []
end Mine

/-! WNum -/
namespace Mine
open PySem PySem.W PySem.Calls PyProof.Rows
set_option maxRecDepth 100000
set_option maxHeartbeats 8000000
theorem c_num {w : World} {mg mb : Str → Option Value} {A : Around} {s : Shared} (G : Gd w mg mb s.heap) (hA : A.handled = none) (hdp : A.depth < 900) {l : Addr} {vs : List Value} {ns : List Int}
   (hl : s.heap.IsList l vs.toArray) (hi : IntsAre vs ns) (hn : ns.length ≤ 3) :
   wpAny (model pw w) A (call (.ref 74) [.ref l]) (Back s (IntV (numL ns))) (fun _ _ => False) s := by
  refine enter (i := 11) (name := Str.ofString "_law_number") (o := ob74 w.params) (c := 73) (pm := pmOf (ob74 w.params)) (binds := [(Str.ofString "word", Value.ref l)]) G hdp (by kernel_rfl) (by kernel_rfl) (by kernel_rfl) (by kernel_rfl) (locs (by kernel_rfl)) (by kernel_rfl) (by kernel_rfl) (by kernel_rfl) (by decide +kernel) (fun h₁ F => ?_)
  obtain ⟨K, TT, GL⟩ := G
  obtain ⟨hh, d, fr, gu, un⟩ := A
  cases hA
  have N0 : News s.heap s.heap.objs.size h₁ [] := News.nil
  conv in fbod _ => whnf
  w_on
  repeat' (first | walk1 | (dsimp only; walk1))
  dsimp only
  exact ⟨_, _, rfl, Fr.keep (by assumption), _, rfl⟩
end Mine

/-! WLoop -/
namespace Mine
open PySem PySem.W PySem.Calls PyProof.Rows
set_option maxRecDepth 100000
section
variable {prog : Program} {w : World} {A : Around}
/-- a while, n turns at the most, written out -/
noncomputable def WUnr (prog : Program) (w : World) (A : Around) (test : Expr) (body : List Stmt) (env : Env) (R : Result → Shared → Prop) : Nat → Shared → Prop
  | 0, _ => False
  | n + 1, s => wpAny (model prog w) A (isTrue test env (eval test env)) (fun b s₂ =>
        if b then wpAny (model prog w) A (execs body env) (fun f s₃ => match f with
            | .next | .cont => WUnr prog w A test body env R n s₃
            | .brk => R (.ok .next) s₃
            | .ret v => R (.ok (.ret v)) s₃) (notedBy (model prog w) A env fun e s' => R (.error e) s') s₂
        else R (.ok .next) s₂)
        (notedBy (model prog w) A env fun e s' => R (.error e) s') s
theorem while_code {test : Expr} {body : List Stmt} {env : Env} {R : Result → Shared → Prop} {s : Shared} (n : Nat) (h : WUnr prog w A test body env R n s) : codeAny (model prog w) A (.whileLoop test body [] env) R s := by
  refine codeAny_whileLoop (WUnr prog w A test body env R) (fun n s hI => ?_) n h
  cases n with
  | zero => exact hI.elim
  | succ n =>
    refine wpAny_mono hI (fun b s₂ h₂ => ?_) fun _ _ e => e
    cases b with
    | false => exact wpAny_pure h₂
    | true =>
      refine wpAny_mono h₂ (fun f s₃ h₃ => ?_) fun _ _ e => e
      cases f with
      | next => exact ⟨n, Nat.lt_succ_self _, h₃⟩
      | cont => exact ⟨n, Nat.lt_succ_self _, h₃⟩
      | brk => exact h₃
      | ret v => exact h₃
theorem while_unr {test : Expr} {body : List Stmt} {env : Env} {pos : Pos} {Q : Flow → Shared → Prop} {E : Value → Shared → Prop} {s : Shared} (n : Nat)
    (h : WUnr prog w A test body env (fun r s' => match r with | .ok f => Q f s' | .error e => cameBackBy (model prog w) A env E e s') n s) : wpAny (model prog w) A (exec (.While test body [] pos) env) Q E s := by
  show wpAny _ _ (do standAt pos; runOwn (.whileLoop test body [] env) env) _ _ s
  exact wpAny_bind (wpAny_standAt (wpAny_runOwn (while_code n h)))
/-- a for over an iterator, n turns at the most, written out -/
noncomputable def FUnr (prog : Program) (w : World) (A : Around) (target : Expr) (it : Value) (body : List Stmt) (env : Env) (R : Result → Shared → Prop) : Nat → Shared → Prop
  | 0, _ => False
  | n + 1, s => wpAny (model prog w) A (pyNext it) (fun r s₁ => match r with
      | none => R (.ok .next) s₁
      | some v => wpAny (model prog w) A (assign target env v) (fun _ s₂ => wpAny (model prog w) A (execs body env) (fun f s₃ => match f with
          | .next | .cont => FUnr prog w A target it body env R n s₃
          | .brk => R (.ok .next) s₃
          | .ret v => R (.ok (.ret v)) s₃) (notedBy (model prog w) A env fun e s' => R (.error e) s') s₂) (notedBy (model prog w) A env fun e s' => R (.error e) s') s₁) (notedBy (model prog w) A env fun e s' => R (.error e) s') s
theorem for_code {target : Expr} {it : Value} {body : List Stmt} {env : Env} {R : Result → Shared → Prop} {s : Shared} (n : Nat) (h : FUnr prog w A target it body env R n s) (ht : ∀ v, letOwnedTupleGo target it v = pure ()) : codeAny (model prog w) A (.forLoop target it body [] env) R s := by
  refine codeAny_forLoop (FUnr prog w A target it body env R) (fun n s hI => ?_) n h ht
  cases n with
  | zero => exact hI.elim
  | succ n =>
    refine wpAny_mono hI (fun r s₂ h₂ => ?_) fun _ _ e => e
    cases r with
    | none => exact wpAny_pure h₂
    | some v =>
      refine wpAny_mono h₂ (fun _ s₃ h₃ => ?_) fun _ _ e => e
      refine wpAny_mono h₃ (fun f s₄ h₄ => ?_) fun _ _ e => e
      cases f with
      | next => exact ⟨n, Nat.lt_succ_self _, h₄⟩
      | cont => exact ⟨n, Nat.lt_succ_self _, h₄⟩
      | brk => exact h₄
      | ret v => exact h₄
end
section
variable {prog : Program} {w : World} {A : Around} {E : Value → Shared → Prop} {s : Shared}
theorem next_special {it l : Addr} {i : Nat} {items : Array Value} {x : Value} {Q : Option Value → Shared → Prop} (hit : s.heap.IsListIter it l i) (hl : s.heap.IsList l items) (hx : items[i]? = some x)
    (hQ : ∀ h', h'.IsListIter it l (i + 1) → Heap.SameBut it s.heap h' → Q (some x) { s with heap := h' }) : wpAny (model prog w) A (callSpecial? (.ref it) "__next__") Q E s := by
  obtain ⟨o, ho, hc, hd⟩ := id hit
  obtain ⟨ol, hol, _, nl, hdl⟩ := hl
  refine wpAny_callSpecial?_slot (name := Str.ofString "__next__") hit.typeIs slot_listiter_next (wpAny_call_entry slot_listiter_next hit.typeIs entry_listiter_next ?_ (args_listiter_next _))
  show wpAny _ _ (field (.ref it) 0 >>= _) _ _ s
  refine wpAny_bind (wpAny_field ho hd (x := .ref l) rfl ?_)
  show wpAny _ _ (if (Value.ref l == Value.none) = true then _ else _) _ _ s
  rw [if_neg (show ¬ ((Value.ref l == Value.none) = true) from Bool.false_ne_true)]
  show wpAny _ _ (field (.ref it) 1 >>= _) _ _ s
  refine wpAny_bind (wpAny_field ho hd (x := .int i 0) rfl ?_)
  show wpAny _ _ (seqItems? (.ref l) >>= _) _ _ s
  refine wpAny_bind (wpAny_seqItems hol hdl ?_)
  simp only [Int.toNat_natCast, hx]
  refine wpAny_bind (wpAny_setField ho hd (by simp) (wpAny_pure ⟨x, rfl, hQ _ ?_ (Heap.SameBut.update ..)⟩))
  exact ⟨_, Heap.get?_update_self _ ho (Obj.isFreed_of_fields (Obj.data_mapFields hd _)), (Obj.cls_mapFields ..).trans hc, by rw [Obj.data_mapFields hd]; simp [rawInt]⟩
theorem next_item {it l : Addr} {i : Nat} {items : Array Value} {x : Value} {Q : Value → Shared → Prop} (hit : s.heap.IsListIter it l i) (hl : s.heap.IsList l items) (hx : items[i]? = some x)
    (hQ : ∀ h', h'.IsListIter it l (i + 1) → Heap.SameBut it s.heap h' → Q x { s with heap := h' }) : wpAny (model prog w) A (call (.builtin "next") [.ref it]) Q E s := by
  refine call_function_entry (by decide +kernel) (by decide +kernel) kdk_entry_next (kdk_args_next _) ?_
  unfold Builtin.«next»
  refine wpAny_bind (m := someArgs "next" 1 2 _) (wpAny_of_eq (a := [Value.ref it]) (by first | rfl | kernel_rfl!) ?_)
  dsimp only
  refine wpAny_bind (wpAny_specialOf (name := Str.ofString "__next__") hit.typeIs slot_listiter_next.lookup ?_)
  refine wpAny_ite_split (fun hab => absurd hab (by decide)) (fun _ => ?_)
  refine wpAny_bind (next_special hit hl hx fun h' hit' hs => ?_)
  exact wpAny_pure ⟨_, rfl, hQ h' hit' hs⟩
end
end Mine

/-! WEnum -/
namespace Mine
open PySem PySem.W PySem.Calls PyProof.Rows
set_option maxRecDepth 100000
/-- enumerate over a list that stands, as a pair loop by an invariant -/
theorem enum_pair {w : World} {A : Around} {E : Value → Shared → Prop} {s : Shared} {h₀ : Heap} {env : Env} {l : Addr} {items : Array Value} {m : Str → Option Value} {news : List (Addr × Obj)} {Q : Flow → Shared → Prop} {body : List Stmt} {xi xc : Str}
    (hh : A.handled = none) (hl : s.heap.IsList l items) (hlL : l ≠ env.locals) (F : Fr h₀ env.locals s.heap m) (N : News h₀ env.locals s.heap news)
    (J : Nat → (Str → Option Value) → List (Addr × Obj) → Prop) (h0 : J 0 m news)
    (step : ∀ i v0 v1 m₁ news₁ h tk own, i < items.size → (∃ t, v0 = .int (i : Nat) t) → items[i]? = some v1 → J i m₁ news₁ → news₁.map (·.1) = news.map (·.1) → (∀ p ∈ own, p.1 = l ∨ s.heap.objs.size ≤ p.1) →
      Fr h₀ env.locals h (fun y => if y = xc then some v1 else if y = xi then some v0 else m₁ y) → News h₀ env.locals h (own ++ news₁) →
      wpAny (model pw w) A (execs body env) (LoopStep3 h₀ env.locals own news₁ (J (i + 1)) { s with heap := h, toks := tk } (fun v s' => Q (.ret v) s') fun s' => Q .next s') E { s with heap := h, toks := tk })
    (done : ∀ h' tk m' news', Fr h₀ env.locals h' m' → News h₀ env.locals h' news' → news'.map (·.1) = news.map (·.1) → J items.size m' news' → Q .next { s with heap := h', toks := tk }) :
    wpAny (model pw w) A (call (.type "enumerate") [.ref l]) (fun xv s₁ => wpAny (model pw w) A (pyIter xv) (fun it s₂ => PairAt3 pw w A h₀ env xi xc body Q E it s₂) E s₁) E s := by
  have hlt : l < s.heap.objs.size := by obtain ⟨_, e, _⟩ := hl; exact Heap.lt_size e
  have hLs : env.locals < s.heap.objs.size := F.ns.lt
  refine call_enumerate_list hl fun h' he hit hsz hk => ?_
  refine wpAny_pyIter_enum he ?_
  have W := WalksT.enumerate (prog := pw) (w := w) (A := A) hh (s.heap.objs.size + 1) s.heap.objs.size l (Nat.succ_ne_self _) (Nat.ne_of_lt (Nat.lt_succ_of_lt hlt)) (Nat.ne_of_lt hlt) items
  have none₀ : ∀ a, s.heap.objs.size ≤ a → h₀.get? a = none := fun a ha => by
    cases e : h₀.get? a with
    | none => rfl
    | some o => exact absurd (Heap.lt_size (F.keep a o e)) (Nat.not_lt.mpr ha)
  refine ⟨_, _, _, _, _, _, _, (fun i v0 v1 => (∃ t, v0 = .int (i : Nat) t) ∧ items[i]? = some v1), m, news, J, rfl, W, ?_, ?_, ?_, ?_, ⟨⟨_, he⟩, hit, hl.at fun o e => hk l o e⟩, Fr.ext F hk, News.ext N hk, h0, ?_, ?_⟩
  · rintro i vals ⟨t, x, hx, rfl⟩
    exact ⟨_, _, rfl, ⟨t, rfl⟩, hx⟩
  · intro hm
    rcases List.mem_cons.mp hm with e | hm
    · exact Nat.ne_of_lt (Nat.lt_succ_of_lt hLs) e
    · rcases List.mem_cons.mp hm with e | hm
      · exact Nat.ne_of_lt hLs e
      · exact hlL (List.mem_singleton.mp hm).symm
  · intro b hb
    rcases List.mem_cons.mp hb with rfl | hb
    · exact none₀ _ (Nat.le_succ _)
    · rw [List.mem_singleton.mp hb]; exact none₀ _ (Nat.le_refl _)
  · intro p hp hb
    have hp1 : p.1 < s.heap.objs.size := Heap.lt_size (N p hp).1
    rcases List.mem_cons.mp hb with e | hb
    · exact Nat.ne_of_lt (Nat.lt_succ_of_lt hp1) e
    · exact Nat.ne_of_lt hp1 (List.mem_singleton.mp hb)
  · rintro i v0 v1 m₁ news₁ s₁ own ⟨h, tk, rfl⟩ hi ⟨h1, h2⟩ hJ ha hown F₁ N₁
    refine step i v0 v1 m₁ news₁ h tk own hi h1 h2 hJ ha (fun p hp => ?_) F₁ N₁
    rcases List.mem_cons.mp (hown p hp) with e | hm
    · exact .inr (by rw [e]; exact Nat.le_succ _)
    · rcases List.mem_cons.mp hm with e | hm
      · exact .inr (Nat.le_of_eq e.symm)
      · exact .inl (List.mem_singleton.mp hm)
  · intro h'' tk m' news' F' N' ha hJ
    exact done h'' tk m' news' F' N' ha hJ
end Mine

/-! WForL -/
namespace Mine
open PySem PySem.W PySem.Calls PyProof.Rows
set_option maxRecDepth 100000
/-- one turn of a for over a list that stands in the heap, name target; ledger with a tail -/
theorem for_item {w : World} {A : Around} {s : Shared} {h₀ : Heap} {env : Env} {L I D : Addr} {m : Str → Option Value} {oI : Obj} {news : List (Addr × Obj)} {i n : Nat} {items : Array Value} {v : Value} {x : Str} {px : Pos} {body : List Stmt} {R : Result → Shared → Prop}
    (hL : env.locals = L) (hx : env.kindOf x = some .local) (hp : (env.scope.kind == .class || (env.scope.kind == .module && env.locals != env.globals)) = false)
    (F : Fr h₀ L s.heap m) (N : News h₀ L s.heap ((I, oI) :: news)) (hI : oI.cls = .type "list_iterator" ∧ oI.data = .fields #[.ref D, .int i 0]) (hD : s.heap.IsList D items) (hne : ∀ p ∈ news, p.1 ≠ I) (hv : items[i]? = some v)
    (h : ∀ h' oI' tk', Fr h₀ L h' (fun y => if y = x then some v else m y) → News h₀ L h' ((I, oI') :: news) → (oI'.cls = .type "list_iterator" ∧ oI'.data = .fields #[.ref D, .int (i + 1 : Nat) 0]) →
      wpAny (model pw w) A (execs body env) (fun f s₃ => match f with
          | .next | .cont => FUnr pw w A (.Name x px) (.ref I) body env R n s₃
          | .brk => R (.ok .next) s₃
          | .ret v => R (.ok (.ret v)) s₃) (notedBy (model pw w) A env fun e s' => R (.error e) s') { s with heap := h', toks := tk' }) :
    FUnr pw w A (.Name x px) (.ref I) body env R (n + 1) s := by
  subst hL
  have z := N _ (List.mem_cons_self ..)
  unfold FUnr
  refine wpAny_pyNext_list_item (l := D) (i := i) ⟨oI, z.1, hI.1, hI.2⟩ hD hv (fun h' hit' hs => ?_)
  obtain ⟨o', ho', hc', hd'⟩ := hit'
  have F' := F.change hs z.2.1 z.2.2
  have N' : News h₀ env.locals h' ((I, o') :: news) := fun p hp => by
    rcases List.mem_cons.mp hp with rfl | hp
    · exact ⟨ho', z.2⟩
    · exact ⟨(hs.2 p.1 (hne p hp)).trans (N p (List.mem_cons_of_mem _ hp)).1, (N p (List.mem_cons_of_mem _ hp)).2⟩
  refine wpAny_assign_Name (wpAny_storeName_local hx F'.ns (fun h₂ hn₂ hs₂ => ?_) hp)
  exact h h₂ o' _ (F'.set hn₂ hs₂) (N'.set hs₂) ⟨hc', hd'⟩
theorem for_end {w : World} {A : Around} {s : Shared} {h₀ : Heap} {env : Env} {L I D : Addr} {m : Str → Option Value} {oI : Obj} {news : List (Addr × Obj)} {i n : Nat} {items : Array Value} {x : Str} {px : Pos} {body : List Stmt} {R : Result → Shared → Prop}
    (hA : A.handled = none) (F : Fr h₀ L s.heap m) (N : News h₀ L s.heap ((I, oI) :: news)) (hI : oI.cls = .type "list_iterator" ∧ oI.data = .fields #[.ref D, .int i 0]) (hD : s.heap.IsList D items) (hne : ∀ p ∈ news, p.1 ≠ I) (hv : items[i]? = none)
    (h : ∀ h', Fr h₀ L h' m → News h₀ L h' news → R (.ok .next) { s with heap := h' }) :
    FUnr pw w A (.Name x px) (.ref I) body env R (n + 1) s := by
  have z := N _ (List.mem_cons_self ..)
  unfold FUnr
  refine wpAny_pyNext_list_end (l := D) (i := i) hA ⟨oI, z.1, hI.1, hI.2⟩ hD hv (fun h' hs => ?_)
  refine h h' ⟨F.ns.at' fun o e => hs L o (Ne.symm z.2.1) e, fun b o e => hs b o (fun q => by rw [q, z.2.2] at e; cases e) (F.keep b o e), F.above⟩ (fun p hp => ⟨hs _ _ (hne p hp) (N p (List.mem_cons_of_mem _ hp)).1, (N p (List.mem_cons_of_mem _ hp)).2⟩)
theorem for_list {w : World} {A : Around} {E : Value → Shared → Prop} {s : Shared} {h₀ : Heap} {env : Env} {L D : Addr} {m : Str → Option Value} {news : List (Addr × Obj)} (n : Nat) {items : Array Value} {x : Str} {px : Pos} {body : List Stmt} {Q : Flow → Shared → Prop}
    (F : Fr h₀ L s.heap m) (N : News h₀ L s.heap news) (hD : s.heap.IsList D items)
    (h : ∀ h' I oI, Fr h₀ L h' m → News h₀ L h' ((I, oI) :: news) → (oI.cls = .type "list_iterator" ∧ oI.data = .fields #[.ref D, .int 0 0]) → (∀ p ∈ news, p.1 ≠ I) → h'.IsList D items → Ext s.heap h' →
      FUnr pw w A (.Name x px) (.ref I) body env (fun r s' => match r with | .ok f => Q f s' | .error e => cameBackBy (model pw w) A env E e s') n { s with heap := h' }) :
    wpAny (model pw w) A (pyIter (.ref D)) (fun it s₂ => codeAny (model pw w) A (.forLoop (.Name x px) it body [] env) (fun r s' => match r with | .ok f => Q f s' | .error e => cameBackBy (model pw w) A env E e s') s₂) E s := by
  refine wpAny_pyIter_list hD ?_
  have up : Ext s.heap (s.heap.push { cls := .type "list_iterator", data := .fields #[.ref D, .int 0 0] }) := fun _ _ e => Heap.get?_push_of_some _ e
  refine for_code n (h _ _ _ (F.push _) (News.push F N _) ⟨rfl, rfl⟩ (fun p hp => Nat.ne_of_lt (Heap.lt_size (N p hp).1)) (hD.at fun o e => up _ o e) up) (by intro _; rfl)
end Mine

/-! WSign -/
namespace Mine
open PySem PySem.W PySem.Calls PyProof.Rows
set_option maxRecDepth 100000
set_option maxHeartbeats 8000000
noncomputable def forBody : Stmt → List Stmt
  | .For _ _ b _ _ => b
  | _ => []
noncomputable def augV : Stmt → Expr
  | .AugAssign _ _ v _ => v
  | _ => .Constant .none 0 ⟨0, 0, 0, 0⟩
noncomputable def binL : Expr → Expr
  | .BinOp l _ _ _ => l
  | e => e
noncomputable def nth (l : List Stmt) (i : Nat) : Stmt := (l[i]?).getD (.Pass ⟨0, 0, 0, 0⟩)
/-- the two places where a strange sign is put ahead -/
noncomputable def joinE1 : Expr := binL (augV (nth (forBody (nth (forBody (nth (fbod (stm 12)) 2)) 1)) 0))
noncomputable def joinE2 : Expr := binL (augV (nth (forBody (nth (fbod (stm 12)) 2)) 2))
noncomputable def strangeL : List Int := [917504, 917506, 917535, 917632, 97, 8206, 65529, 983105]
/-- the strange signs that stand ahead at a turn: one, or none -/
noncomputable def sgnL (t : Int) : List Int := List.take 1 (List.drop (t % 9).toNat strangeL)
theorem sgn_cases {ws : List Value} {t : Int} (h : IntsAre ws (List.take (min (t.fmod 9 + 1).toNat [917504, 917506, 917535, 917632, 97, 8206, 65529, 983105].length - (t.fmod 9).toNat) (List.drop (t.fmod 9).toNat [917504, 917506, 917535, 917632, 97, 8206, 65529, 983105]))) :
    (sgnL t = [] ∧ ws = []) ∨ ∃ c u, sgnL t = [c] ∧ (0 ≤ c ∧ c < 1114112) ∧ ws = [.int c u] := by
  rw [Int.fmod_eq_emod_of_nonneg _ (by decide)] at h
  unfold sgnL
  have h9 : t % 9 = 0 ∨ t % 9 = 1 ∨ t % 9 = 2 ∨ t % 9 = 3 ∨ t % 9 = 4 ∨ t % 9 = 5 ∨ t % 9 = 6 ∨ t % 9 = 7 ∨ t % 9 = 8 := by omega
  rcases h9 with e | e | e | e | e | e | e | e | e <;> rw [e] at h ⊢
  · obtain ⟨⟩ | ⟨c, u, ⟨⟩⟩ := h; exact .inr ⟨_, _, rfl, by decide, rfl⟩
  · obtain ⟨⟩ | ⟨c, u, ⟨⟩⟩ := h; exact .inr ⟨_, _, rfl, by decide, rfl⟩
  · obtain ⟨⟩ | ⟨c, u, ⟨⟩⟩ := h; exact .inr ⟨_, _, rfl, by decide, rfl⟩
  · obtain ⟨⟩ | ⟨c, u, ⟨⟩⟩ := h; exact .inr ⟨_, _, rfl, by decide, rfl⟩
  · obtain ⟨⟩ | ⟨c, u, ⟨⟩⟩ := h; exact .inr ⟨_, _, rfl, by decide, rfl⟩
  · obtain ⟨⟩ | ⟨c, u, ⟨⟩⟩ := h; exact .inr ⟨_, _, rfl, by decide, rfl⟩
  · obtain ⟨⟩ | ⟨c, u, ⟨⟩⟩ := h; exact .inr ⟨_, _, rfl, by decide, rfl⟩
  · obtain ⟨⟩ | ⟨c, u, ⟨⟩⟩ := h; exact .inr ⟨_, _, rfl, by decide, rfl⟩
  · cases h; exact .inl ⟨rfl, rfl⟩
noncomputable def SliceP (s : Shared) (h₀ : Heap) (L : Addr) (m : Str → Option Value) (news : List (Addr × Obj)) (t : Int) (xv : Value) (s₁ : Shared) : Prop :=
  ∃ D ws h' tk', xv = .ref D ∧ s₁ = { s with heap := h', toks := tk' } ∧ Fr h₀ L h' m ∧ News h₀ L h' ((D, W.listOf ws.toArray 0) :: news) ∧ IntsAre ws (List.take (min (t.fmod 9 + 1).toNat [917504, 917506, 917535, 917632, 97, 8206, 65529, 983105].length - (t.fmod 9).toNat) (List.drop (t.fmod 9).toNat [917504, 917506, 917535, 917632, 97, 8206, 65529, 983105]))
/-- the same as a text -/
noncomputable def sgnT (t : Int) : Str := ⟨((sgnL t).map Int.toNat).toArray⟩
theorem sgn1 {w : World} {mg mb : Str → Option Value} {d : Nat} {fr : Option (List Env)} {gu : Option (List Code)} {un : Nat} {s : Shared} {h₀ : Heap} (G : Gd w mg mb h₀) {L S : Addr} {m₀ : Str → Option Value} {t : Int} {tk : Tok} {u0 u1 u2 u3 u4 u5 u6 u7 : Tok} {rest : List (Addr × Obj)} {Q : Value → Shared → Prop}
    (F : Fr h₀ L s.heap (fun y => if y = Str.ofString "strange" then some (.ref S) else if y = Str.ofString "turn" then some (.int t tk) else m₀ y))
    (N : News h₀ L s.heap ((S, W.listOf #[.int 917504 u0, .int 917506 u1, .int 917535 u2, .int 917632 u3, .int 97 u4, .int 8206 u5, .int 65529 u6, .int 983105 u7] 0) :: rest))
    (h : ∀ h' tk' tt, Fr h₀ L h' (fun y => if y = Str.ofString "strange" then some (.ref S) else if y = Str.ofString "turn" then some (.int t tk) else m₀ y) → News h₀ L h' ((S, W.listOf #[.int 917504 u0, .int 917506 u1, .int 917535 u2, .int 917632 u3, .int 97 u4, .int 8206 u5, .int 65529 u6, .int 983105 u7] 0) :: rest) → Q (.str (sgnT t) tt) { s with heap := h', toks := tk' }) :
    wpAny (model pw w) ⟨none, d, fr, gu, un⟩ (eval joinE1 (envOf (Str.ofString "_law_hidden") (fsco (stm 12)) L 79 (.ref 78))) Q (fun _ _ => False) s := by
  obtain ⟨K, TT, GL⟩ := G
  conv in joinE1 => whnf
  w_on
  repeat' ((fail_if_success (with_reducible show wpAny _ _ (eval (Expr.ListComp _ _ _ _) _) _ _ _)); first | walk1 | (dsimp only; walk1))
  refine LCg.ListComp_U (F₀ := F) (by rfl) (by decide) (by rfl) (by decide) (by rfl) ?_
  refine wpAny_mono (Q := SliceP s h₀ L (fun y => if y = Str.ofString "strange" then some (.ref S) else if y = Str.ofString "turn" then some (.int t tk) else m₀ y) ((S, W.listOf #[.int 917504 u0, .int 917506 u1, .int 917535 u2, .int 917632 u3, .int 97 u4, .int 8206 u5, .int 65529 u6, .int 983105 u7] 0) :: rest) t) (E := fun _ _ => False) ?_ ?_ (fun _ _ h => h)
  · repeat' (first | walk1 | (dsimp only; walk1))
    rename News _ _ _ _ => nw
    rename Fr _ _ _ _ => fw
    exact ⟨_, _, _, _, rfl, rfl, fw, nw, by assumption⟩
  · rintro xv s₁ ⟨D, ws, h', tk', rfl, rfl, F', N', hI⟩
    rcases sgn_cases hI with ⟨hs9, rfl⟩ | ⟨c9, u9, hs9, hc9, rfl⟩
    · refine LCg.CompSrc.ledger rfl F' N' (List.mem_cons_self ..) (by decide) (fun g' => ?_)
      refine LCg.CompRest.zero ?_
      intro D2 h2 tk2 F2 N2 _
      repeat' ((fail_if_success (with_reducible show wpAny _ _ (call (Value.builtin "str.join") _) _ _ _)); first | walk1 | (dsimp only; walk1))
      refine join_listC (ys := []) ⟨_, (N2 _ (List.mem_cons_self ..)).1, rfl, _, rfl⟩ StrsAre.nil (by decide) (by decide) (fun t' k => ?_)
      have e : Txt.join (Str.ofString "") [] = sgnT t := by unfold sgnT; rw [hs9]; rfl
      rw [e]
      exact h _ _ _ F2 (fun p hp => N2 p (List.mem_cons_of_mem _ (List.mem_cons_of_mem _ hp)))
    · refine LCg.CompSrc.ledger rfl F' N' (List.mem_cons_self ..) (by show 1 ≤ sizeLine; decide) (fun g' => ?_)
      refine LCg.CompRest.succ ?_
      intro v' I' oI' C' oC' D' m' h' tk' E' hv' hC' hx' F' N' off' ne'
      have ev : v' = .int c9 u9 := (Option.some.inj hv').symm
      subst ev
      repeat' ((fail_if_success (with_reducible show LCg.CompEnd _ _ _ _ _ _ _ _ _ _ _ _ _ _)); first | walk1 | (dsimp only; walk1))
      refine LCg.CompEnd.intro F' N' _ (fun p hp => hp) off' (.inr ⟨_, List.mem_cons_self .., rfl, _, rfl⟩) ?_
      refine LCg.CompRest.zero ?_
      intro D2 h2 tk2 F2 N2 _
      repeat' ((fail_if_success (with_reducible show wpAny _ _ (call (Value.builtin "str.join") _) _ _ _)); first | walk1 | (dsimp only; walk1))
      refine join_listC (ys := [⟨#[c9.toNat]⟩]) ⟨_, (N2 _ (List.mem_cons_self ..)).1, rfl, _, rfl⟩ (StrsAre.cons _ _ StrsAre.nil) (by decide) (by show 1 + 0 + 1 * 64 ≤ 16777216; decide) (fun t' k => ?_)
      have e : Txt.join (Str.ofString "") [⟨#[c9.toNat]⟩] = sgnT t := by unfold sgnT; rw [hs9]; rfl
      rw [e]
      exact h _ _ _ F2 (fun p hp => N2 p (List.mem_cons_of_mem _ (List.mem_cons_of_mem _ hp)))
theorem sgn2 {w : World} {mg mb : Str → Option Value} {d : Nat} {fr : Option (List Env)} {gu : Option (List Code)} {un : Nat} {s : Shared} {h₀ : Heap} (G : Gd w mg mb h₀) {L S : Addr} {m₀ : Str → Option Value} {t : Int} {tk : Tok} {u0 u1 u2 u3 u4 u5 u6 u7 : Tok} {rest : List (Addr × Obj)} {Q : Value → Shared → Prop}
    (F : Fr h₀ L s.heap (fun y => if y = Str.ofString "strange" then some (.ref S) else if y = Str.ofString "turn" then some (.int t tk) else m₀ y))
    (N : News h₀ L s.heap ((S, W.listOf #[.int 917504 u0, .int 917506 u1, .int 917535 u2, .int 917632 u3, .int 97 u4, .int 8206 u5, .int 65529 u6, .int 983105 u7] 0) :: rest))
    (h : ∀ h' tk' tt, Fr h₀ L h' (fun y => if y = Str.ofString "strange" then some (.ref S) else if y = Str.ofString "turn" then some (.int t tk) else m₀ y) → News h₀ L h' ((S, W.listOf #[.int 917504 u0, .int 917506 u1, .int 917535 u2, .int 917632 u3, .int 97 u4, .int 8206 u5, .int 65529 u6, .int 983105 u7] 0) :: rest) → Q (.str (sgnT t) tt) { s with heap := h', toks := tk' }) :
    wpAny (model pw w) ⟨none, d, fr, gu, un⟩ (eval joinE2 (envOf (Str.ofString "_law_hidden") (fsco (stm 12)) L 79 (.ref 78))) Q (fun _ _ => False) s := by
  obtain ⟨K, TT, GL⟩ := G
  conv in joinE2 => whnf
  w_on
  repeat' ((fail_if_success (with_reducible show wpAny _ _ (eval (Expr.ListComp _ _ _ _) _) _ _ _)); first | walk1 | (dsimp only; walk1))
  refine LCg.ListComp_U (F₀ := F) (by rfl) (by decide) (by rfl) (by decide) (by rfl) ?_
  refine wpAny_mono (Q := SliceP s h₀ L (fun y => if y = Str.ofString "strange" then some (.ref S) else if y = Str.ofString "turn" then some (.int t tk) else m₀ y) ((S, W.listOf #[.int 917504 u0, .int 917506 u1, .int 917535 u2, .int 917632 u3, .int 97 u4, .int 8206 u5, .int 65529 u6, .int 983105 u7] 0) :: rest) t) (E := fun _ _ => False) ?_ ?_ (fun _ _ h => h)
  · repeat' (first | walk1 | (dsimp only; walk1))
    rename News _ _ _ _ => nw
    rename Fr _ _ _ _ => fw
    exact ⟨_, _, _, _, rfl, rfl, fw, nw, by assumption⟩
  · rintro xv s₁ ⟨D, ws, h', tk', rfl, rfl, F', N', hI⟩
    rcases sgn_cases hI with ⟨hs9, rfl⟩ | ⟨c9, u9, hs9, hc9, rfl⟩
    · refine LCg.CompSrc.ledger rfl F' N' (List.mem_cons_self ..) (by decide) (fun g' => ?_)
      refine LCg.CompRest.zero ?_
      intro D2 h2 tk2 F2 N2 _
      repeat' ((fail_if_success (with_reducible show wpAny _ _ (call (Value.builtin "str.join") _) _ _ _)); first | walk1 | (dsimp only; walk1))
      refine join_listC (ys := []) ⟨_, (N2 _ (List.mem_cons_self ..)).1, rfl, _, rfl⟩ StrsAre.nil (by decide) (by decide) (fun t' k => ?_)
      have e : Txt.join (Str.ofString "") [] = sgnT t := by unfold sgnT; rw [hs9]; rfl
      rw [e]
      exact h _ _ _ F2 (fun p hp => N2 p (List.mem_cons_of_mem _ (List.mem_cons_of_mem _ hp)))
    · refine LCg.CompSrc.ledger rfl F' N' (List.mem_cons_self ..) (by show 1 ≤ sizeLine; decide) (fun g' => ?_)
      refine LCg.CompRest.succ ?_
      intro v' I' oI' C' oC' D' m' h' tk' E' hv' hC' hx' F' N' off' ne'
      have ev : v' = .int c9 u9 := (Option.some.inj hv').symm
      subst ev
      repeat' ((fail_if_success (with_reducible show LCg.CompEnd _ _ _ _ _ _ _ _ _ _ _ _ _ _)); first | walk1 | (dsimp only; walk1))
      refine LCg.CompEnd.intro F' N' _ (fun p hp => hp) off' (.inr ⟨_, List.mem_cons_self .., rfl, _, rfl⟩) ?_
      refine LCg.CompRest.zero ?_
      intro D2 h2 tk2 F2 N2 _
      repeat' ((fail_if_success (with_reducible show wpAny _ _ (call (Value.builtin "str.join") _) _ _ _)); first | walk1 | (dsimp only; walk1))
      refine join_listC (ys := [⟨#[c9.toNat]⟩]) ⟨_, (N2 _ (List.mem_cons_self ..)).1, rfl, _, rfl⟩ (StrsAre.cons _ _ StrsAre.nil) (by decide) (by show 1 + 0 + 1 * 64 ≤ 16777216; decide) (fun t' k => ?_)
      have e : Txt.join (Str.ofString "") [⟨#[c9.toNat]⟩] = sgnT t := by unfold sgnT; rw [hs9]; rfl
      rw [e]
      exact h _ _ _ F2 (fun p hp => N2 p (List.mem_cons_of_mem _ (List.mem_cons_of_mem _ hp)))
end Mine

/-! WInner -/
namespace Mine
open PySem PySem.W PySem.Calls PyProof.Rows
set_option maxRecDepth 100000
set_option maxHeartbeats 8000000
noncomputable def txt (l : List Int) : Str := ⟨(l.map Int.toNat).toArray⟩
theorem txt_append (a b : List Int) : txt (a ++ b) = txt a ++ txt b := by
  show (⟨((a ++ b).map Int.toNat).toArray⟩ : Str) = ⟨(a.map Int.toNat).toArray ++ (b.map Int.toNat).toArray⟩
  rw [List.map_append, List.append_toArray]
noncomputable def innerB : List Stmt := forBody (nth (forBody (nth (fbod (stm 12)) 2)) 1)
noncomputable abbrev hidE (L : Addr) : Env := envOf (Str.ofString "_law_hidden") (fsco (stm 12)) L 79 (.ref 78)
theorem frm {h₀ h : Heap} {L : Addr} {m m' : Str → Option Value} (F : Fr h₀ L h m) (e : m = m') : Fr h₀ L h m' := e ▸ F
theorem norm2 (m : Str → Option Value) {a b : Str} {x y : Option Value} (h1 : m a = x) (h2 : m b = y) : m = fun k => if k = a then x else if k = b then y else m k := by
  funext k
  by_cases e1 : k = a
  · rw [if_pos e1, e1, h1]
  · rw [if_neg e1]
    by_cases e2 : k = b
    · rw [if_pos e2, e2, h2]
    · rw [if_neg e2]
theorem norm3 (m : Str → Option Value) {a b c : Str} {x y z : Option Value} (h1 : m a = x) (h2 : m b = y) (h3 : m c = z) : m = fun k => if k = a then x else if k = b then y else if k = c then z else m k := by
  funext k
  by_cases e1 : k = a
  · rw [if_pos e1, e1, h1]
  · rw [if_neg e1]
    by_cases e2 : k = b
    · rw [if_pos e2, e2, h2]
    · rw [if_neg e2]
      by_cases e3 : k = c
      · rw [if_pos e3, e3, h3]
      · rw [if_neg e3]
theorem sgn_len (t : Int) : (sgnL t).length ≤ 1 := by unfold sgnL; rw [List.length_take]; omega
theorem txt_len (l : List Int) : (txt l).length = l.length := by show ((l.map Int.toNat).toArray).size = _; simp
theorem sgnT_txt (t : Int) : sgnT t = txt (sgnL t) := rfl
theorem one_txt (n : Int) : (⟨#[n.toNat]⟩ : Str) = txt [n] := rfl
theorem inner {w : World} {mg mb : Str → Option Value} {d : Nat} {fr : Option (List Env)} {gu : Option (List Code)} {un : Nat} {s : Shared} {h₀ : Heap} (G : Gd w mg mb h₀) {L S : Addr} {m₀ : Str → Option Value} {t f : Int} {tk uf tt : Tok} {x : List Int} {u0 u1 u2 u3 u4 u5 u6 u7 : Tok} {rest : List (Addr × Obj)} {Q : Flow → Shared → Prop} (hf : 0 ≤ f) (hf' : f < 64) (hx : x.length ≤ 1000)
    (F : Fr h₀ L s.heap (fun y => if y = Str.ofString "figure" then some (.int f uf) else if y = Str.ofString "text" then some (.str (txt x) tt) else if y = Str.ofString "strange" then some (.ref S) else if y = Str.ofString "turn" then some (.int t tk) else m₀ y))
    (N : News h₀ L s.heap ((S, W.listOf #[.int 917504 u0, .int 917506 u1, .int 917535 u2, .int 917632 u3, .int 97 u4, .int 8206 u5, .int 65529 u6, .int 983105 u7] 0) :: rest))
    (h : ∀ (h' : Heap) (tk' : Nat) (tt' tk2 : Tok) (m' : Str → Option Value), Fr h₀ L h' (fun y => if y = Str.ofString "text" then some (.str (txt (x ++ sgnL t ++ [917568 + f])) tt') else if y = Str.ofString "strange" then some (.ref S) else if y = Str.ofString "turn" then some (.int (t + 4) tk2) else m' y) → (∀ y, y ≠ Str.ofString "text" → y ≠ Str.ofString "turn" → y ≠ Str.ofString "figure" → y ≠ Str.ofString "strange" → m' y = m₀ y) → News h₀ L h' ((S, W.listOf #[.int 917504 u0, .int 917506 u1, .int 917535 u2, .int 917632 u3, .int 97 u4, .int 8206 u5, .int 65529 u6, .int 983105 u7] 0) :: rest) → Q .next { s with heap := h', toks := tk' }) :
    wpAny (model pw w) ⟨none, d, fr, gu, un⟩ (execs innerB (hidE L)) Q (fun _ _ => False) s := by
  have G0 := G
  obtain ⟨K, TT, GL⟩ := G
  conv in innerB => whnf
  w_on
  repeat' ((fail_if_success (with_reducible show wpAny _ _ (eval (Expr.Call (Expr.Attribute _ _ _) _ _ _) _) _ _ _)); first | walk1 | (dsimp only; walk1))
  refine sgn1 G0 (S := S) (t := t) (tk := tk) (frm F (norm2 _ (a := Str.ofString "strange") (b := Str.ofString "turn") rfl rfl)) N ?_
  intro h' tk' tt1 F' N'
  clear F N
  repeat' ((fail_if_success (with_reducible show wpAny _ _ (binaryOp Operator.Add (Value.str _ _) (Value.str _ _)) _ _ _)); first | walk1 | (dsimp only; walk1))
  have l1 := sgn_len t
  rw [sgnT_txt, one_txt]
  refine PyProof.Rows.add_str (fun t1 k1 => ?_) (by rw [txt_len, txt_len, sizeLine_eq]; show _ + 1 ≤ _; omega)
  rw [← txt_append]
  refine PyProof.Rows.iadd_str (fun t2 k2 => ?_) (by rw [txt_len, txt_len, List.length_append, sizeLine_eq]; show _ + (_ + 1) ≤ _; omega)
  rw [← txt_append, ← List.append_assoc]
  dsimp only
  repeat' (first | walk1 | (dsimp only; walk1))
  rename News _ _ _ _ => nw
  rename Fr _ _ _ _ => fw
  refine h _ _ _ _ _ (frm fw (norm3 _ (a := Str.ofString "text") (b := Str.ofString "strange") (c := Str.ofString "turn") rfl rfl rfl)) ?_ nw
  intro y n1 n2 n3 n4
  simp only [if_neg n1, if_neg n2, if_neg n3, if_neg n4]
end Mine

/-! WCut -/
namespace Mine
open PySem PySem.W PySem.Calls PyProof.Rows
set_option maxRecDepth 100000
set_option maxHeartbeats 8000000
noncomputable def iterOf : Stmt → Expr
  | .For _ i _ _ _ => i
  | _ => .Constant .none 0 ⟨0, 0, 0, 0⟩
noncomputable def restB : List Stmt := (forBody (nth (fbod (stm 12)) 2)).drop 1
noncomputable def cutE : Expr := iterOf (nth restB 0)
/-- word[:-1] -/
theorem cut_word {w : World} {mg mb : Str → Option Value} {d : Nat} {fr : Option (List Env)} {gu : Option (List Code)} {un : Nat} {s : Shared} {h₀ : Heap} (G : Gd w mg mb h₀) {L wa : Addr} {wv : List Value} {ns : List Int} {m₀ : Str → Option Value} {rest : List (Addr × Obj)} {Q : Value → Shared → Prop}
    (hwa : h₀.IsList wa wv.toArray) (hwi : IntsAre wv ns) (h1 : 1 ≤ ns.length) (h3 : ns.length ≤ 3)
    (F : Fr h₀ L s.heap (fun y => if y = Str.ofString "word" then some (.ref wa) else m₀ y)) (N : News h₀ L s.heap rest)
    (h : ∀ D h' ws tk', Fr h₀ L h' (fun y => if y = Str.ofString "word" then some (.ref wa) else m₀ y) → News h₀ L h' ((D, W.listOf ws.toArray 0) :: rest) → IntsAre ws (List.take (ns.length - 1) ns) → Q (.ref D) { s with heap := h', toks := tk' }) :
    wpAny (model pw w) ⟨none, d, fr, gu, un⟩ (eval cutE (hidE L)) Q (fun _ _ => False) s := by
  obtain ⟨K, TT, GL⟩ := G
  conv in cutE => whnf
  w_on
  repeat' (first | walk1 | (dsimp only; walk1))
  rename News _ _ _ _ => nw
  rename Fr _ _ _ _ => fw
  exact h _ _ _ _ fw nw (by assumption)
/-- the signs ahead of the last one -/
noncomputable def preL : List Int → Int → List Int
  | [], _ => []
  | f :: r, t => sgnL t ++ [917568 + f] ++ preL r (t + 4)
theorem preL_len : ∀ (l : List Int) (t : Int), (preL l t).length ≤ 2 * l.length
  | [], _ => Nat.le_refl _
  | f :: r, t => by
    have a := sgn_len t
    have b := preL_len r (t + 4)
    show (sgnL t ++ [917568 + f] ++ preL r (t + 4)).length ≤ _
    rw [List.length_append, List.length_append, List.length_cons, List.length_nil, List.length_cons]
    omega
noncomputable def tgt : Stmt → Expr
  | .For t _ _ _ _ => t
  | _ => .Constant .none 0 ⟨0, 0, 0, 0⟩
noncomputable def figE : Expr := tgt (nth restB 0)
theorem figE_is : ∃ p, figE = .Name (Str.ofString "figure") p := ⟨_, rfl⟩
noncomputable def Keep4 (m m₀ : Str → Option Value) : Prop := ∀ y, y ≠ Str.ofString "text" → y ≠ Str.ofString "turn" → y ≠ Str.ofString "figure" → y ≠ Str.ofString "strange" → m y = m₀ y
theorem loopF {w : World} {mg mb : Str → Option Value} {d : Nat} {fr : Option (List Env)} {gu : Option (List Code)} {un : Nat} {h₀ : Heap} (G : Gd w mg mb h₀) {L S I D : Addr} {px : Pos} {u0 u1 u2 u3 u4 u5 u6 u7 : Tok} {rest : List (Addr × Obj)} {R : Result → Shared → Prop} {ws : List Value} {gs : List Int} {m₀ : Str → Option Value} (hws : IntsAre ws gs) (hlen : gs.length ≤ 10) (hgs : ∀ f ∈ gs, 0 ≤ f ∧ f < 64) (hne : ∀ p ∈ (S, W.listOf #[.int 917504 u0, .int 917506 u1, .int 917535 u2, .int 917632 u3, .int 97 u4, .int 8206 u5, .int 65529 u6, .int 983105 u7] 0) :: (D, W.listOf ws.toArray 0) :: rest, p.1 ≠ I) :
    ∀ (k i : Nat), i + k = gs.length → ∀ (s : Shared) (x : List Int) (t : Int) (tt tk : Tok) (m : Str → Option Value) (oI : Obj), x.length ≤ 900 + 2 * i →
      Fr h₀ L s.heap (fun y => if y = Str.ofString "text" then some (.str (txt x) tt) else if y = Str.ofString "strange" then some (.ref S) else if y = Str.ofString "turn" then some (.int t tk) else m y) → Keep4 m m₀ →
      News h₀ L s.heap ((I, oI) :: (S, W.listOf #[.int 917504 u0, .int 917506 u1, .int 917535 u2, .int 917632 u3, .int 97 u4, .int 8206 u5, .int 65529 u6, .int 983105 u7] 0) :: (D, W.listOf ws.toArray 0) :: rest) → (oI.cls = .type "list_iterator" ∧ oI.data = .fields #[.ref D, .int i 0]) →
      (∀ (s' : Shared) h' tk' (tt' tk2 : Tok) (m' : Str → Option Value), s' = { s with heap := h', toks := tk' } → Fr h₀ L h' (fun y => if y = Str.ofString "text" then some (.str (txt (x ++ preL (gs.drop i) t)) tt') else if y = Str.ofString "strange" then some (.ref S) else if y = Str.ofString "turn" then some (.int (t + 4 * ((gs.drop i).length : Int)) tk2) else m' y) → Keep4 m' m₀ → News h₀ L h' ((S, W.listOf #[.int 917504 u0, .int 917506 u1, .int 917535 u2, .int 917632 u3, .int 97 u4, .int 8206 u5, .int 65529 u6, .int 983105 u7] 0) :: (D, W.listOf ws.toArray 0) :: rest) → R (.ok .next) s') →
      FUnr pw w ⟨none, d, fr, gu, un⟩ (.Name (Str.ofString "figure") px) (.ref I) innerB (hidE L) R (k + 1) s := by
  intro k
  induction k with
  | zero =>
    intro i hik s x t tt tk m oI hx F hm N hI done
    refine for_end rfl F N hI ⟨_, (N (D, W.listOf ws.toArray 0) (by simp)).1, rfl, _, rfl⟩ hne (by have := hws.length; simp; omega) (fun h' F' N' => ?_)
    have e : gs.drop i = [] := List.drop_eq_nil_of_le (by omega)
    refine done _ h' _ tt tk m rfl ?_ hm N'
    rw [e]
    simpa [preL] using F'
  | succ k ih =>
    intro i hik s x t tt tk m oI hx F hm N hI done
    have hlt : i < gs.length := by omega
    obtain ⟨u, hu⟩ := hws.get i gs[i] (by simp [hlt])
    have hg := hgs gs[i] (List.getElem_mem hlt)
    refine for_item rfl rfl rfl F N hI ⟨_, (N (D, W.listOf ws.toArray 0) (by simp)).1, rfl, _, rfl⟩ hne (by simpa using hu) (fun h' oI' tk' F' N' hI' => ?_)
    have N'' : News h₀ L h' ((S, W.listOf #[.int 917504 u0, .int 917506 u1, .int 917535 u2, .int 917632 u3, .int 97 u4, .int 8206 u5, .int 65529 u6, .int 983105 u7] 0) :: (I, oI') :: (D, W.listOf ws.toArray 0) :: rest) := fun p hp => N' p (by simp only [List.mem_cons] at hp ⊢; rcases hp with e | e | e | e <;> simp [e])
    refine wpAny_mono (Q := fun f s₃ => f = .next ∧ FUnr pw w ⟨none, d, fr, gu, un⟩ (.Name (Str.ofString "figure") px) (.ref I) innerB (hidE L) R (k + 1) s₃) (E := fun _ _ => False) ?_ (fun f s₃ h₃ => by obtain ⟨rfl, h₃⟩ := h₃; exact h₃) (fun _ _ e => e.elim)
    refine inner (s := { s with heap := h', toks := tk' }) G hg.1 hg.2 (x := x) (t := t) (by omega) F' N'' (fun h2 tk2 tt2 tk3 m2 F2 hm2 N2 => ⟨rfl, ?_⟩)
    refine ih (i + 1) (by omega) _ _ _ _ _ m2 oI' ?_ F2 (fun y a b c e => (hm2 y a b c e).trans (hm y a b c e)) (fun p hp => N2 p (by simp only [List.mem_cons] at hp ⊢; rcases hp with e | e | e | e <;> simp [e])) hI' ?_
    · have := sgn_len t
      rw [List.length_append, List.length_append, List.length_cons, List.length_nil]
      omega
    · rintro s' h3 tk4 tt3 tk5 m3 rfl F3 hm3 N3
      refine done _ h3 tk4 tt3 tk5 m3 rfl ?_ hm3 N3
      rw [List.drop_eq_getElem_cons hlt]
      have e1 : x ++ preL (gs[i] :: gs.drop (i + 1)) t = x ++ sgnL t ++ [917568 + gs[i]] ++ preL (gs.drop (i + 1)) (t + 4) := by simp [preL]
      have e2 : t + 4 * ((gs[i] :: gs.drop (i + 1)).length : Int) = t + 4 + 4 * ((gs.drop (i + 1)).length : Int) := by rw [List.length_cons]; omega
      rw [e1, e2]
      exact F3
end Mine

/-! WLast -/
namespace Mine
open PySem PySem.W PySem.Calls PyProof.Rows
set_option maxRecDepth 100000
set_option maxHeartbeats 8000000
theorem norm1 (m : Str → Option Value) {a : Str} {x : Option Value} (h1 : m a = x) : m = fun k => if k = a then x else m k := by
  funext k
  by_cases e1 : k = a
  · rw [if_pos e1, e1, h1]
  · rw [if_neg e1]
theorem last_sign {w : World} {mg mb : Str → Option Value} {d : Nat} {fr : Option (List Env)} {gu : Option (List Code)} {un : Nat} {s : Shared} {h₀ : Heap} (G : Gd w mg mb h₀) {L S wa : Addr} {wv : List Value} {ns : List Int} {m₀ : Str → Option Value} {t : Int} {tk tt : Tok} {x : List Int} {u0 u1 u2 u3 u4 u5 u6 u7 : Tok} {rest : List (Addr × Obj)} {Q : Flow → Shared → Prop} (hwa : h₀.IsList wa wv.toArray) (hwi : IntsAre wv ns) (h1 : 1 ≤ ns.length) (h3 : ns.length ≤ 3) (hf : ∀ f ∈ ns, 0 ≤ f ∧ f < 64) (hx : x.length ≤ 1000)
    (F : Fr h₀ L s.heap (fun y => if y = Str.ofString "text" then some (.str (txt x) tt) else if y = Str.ofString "strange" then some (.ref S) else if y = Str.ofString "turn" then some (.int t tk) else if y = Str.ofString "word" then some (.ref wa) else m₀ y))
    (N : News h₀ L s.heap ((S, W.listOf #[.int 917504 u0, .int 917506 u1, .int 917535 u2, .int 917632 u3, .int 97 u4, .int 8206 u5, .int 65529 u6, .int 983105 u7] 0) :: rest))
    (h : ∀ (h' : Heap) (tk' : Nat) (tt' : Tok) (m' : Str → Option Value), Fr h₀ L h' (fun y => if y = Str.ofString "text" then some (.str (txt (x ++ sgnL t ++ [917504 + ns.getD (ns.length - 1) 0])) tt') else if y = Str.ofString "strange" then some (.ref S) else m' y) → (∀ y, y ≠ Str.ofString "text" → y ≠ Str.ofString "turn" → y ≠ Str.ofString "word" → y ≠ Str.ofString "strange" → m' y = m₀ y) → News h₀ L h' ((S, W.listOf #[.int 917504 u0, .int 917506 u1, .int 917535 u2, .int 917632 u3, .int 97 u4, .int 8206 u5, .int 65529 u6, .int 983105 u7] 0) :: rest) → Q .next { s with heap := h', toks := tk' }) :
    wpAny (model pw w) ⟨none, d, fr, gu, un⟩ (execs (restB.drop 1) (hidE L)) Q (fun _ _ => False) s := by
  have G0 := G
  obtain ⟨K, TT, GL⟩ := G
  conv in List.drop _ _ => whnf
  w_on
  repeat' ((fail_if_success (with_reducible show wpAny _ _ (eval (Expr.Call (Expr.Attribute _ _ _) _ _ _) _) _ _ _)); first | walk1 | (dsimp only; walk1))
  refine sgn2 G0 (S := S) (t := t) (tk := tk) (frm F (norm2 _ (a := Str.ofString "strange") (b := Str.ofString "turn") rfl rfl)) N ?_
  intro h' tk' tt1 F' N'
  clear F N
  repeat' ((fail_if_success (with_reducible show wpAny _ _ (call (Value.builtin "chr") _) _ _ _)); first | walk1 | (dsimp only; walk1))
  have en : (-1 + (ns.length : Int)).toNat = ns.length - 1 := by omega
  have hl := hf (ns.getD (ns.length - 1) 0) (by rw [show ns.getD (ns.length - 1) 0 = ns[ns.length - 1]'(by omega) from by simp [List.getD, show ns.length - 1 < ns.length by omega]]; exact List.getElem_mem _)
  rw [en]
  generalize ns.getD (ns.length - 1) 0 = g at hl h ⊢
  repeat' ((fail_if_success (with_reducible show wpAny _ _ (binaryOp Operator.Add (Value.str _ _) (Value.str _ _)) _ _ _)); first | walk1 | (dsimp only; walk1))
  have l1 := sgn_len t
  rw [sgnT_txt, one_txt]
  refine PyProof.Rows.add_str (fun t1 k1 => ?_) (by rw [txt_len, txt_len, sizeLine_eq]; show _ + 1 ≤ _; omega)
  rw [← txt_append]
  refine PyProof.Rows.iadd_str (fun t2 k2 => ?_) (by rw [txt_len, txt_len, List.length_append, sizeLine_eq]; show _ + (_ + 1) ≤ _; omega)
  rw [← txt_append, ← List.append_assoc]
  dsimp only
  repeat' (first | walk1 | (dsimp only; walk1))
  rename News _ _ _ _ => nw
  rename Fr _ _ _ _ => fw
  refine h _ _ _ _ (frm fw (norm2 _ (a := Str.ofString "text") (b := Str.ofString "strange") rfl rfl)) ?_ nw
  intro y n1 n2 n3 n4
  simp only [if_neg n1, if_neg n2, if_neg n3, if_neg n4]
end Mine

/-! WHidW -/
namespace Mine
open PySem PySem.W PySem.Calls PyProof.Rows
set_option maxRecDepth 100000
set_option maxHeartbeats 8000000
noncomputable def fPx : Stmt → Option Pos | .For (.Name _ p) _ _ _ _ => some p | _ => none
noncomputable def fPy : Stmt → Option Pos | .For _ _ _ _ p => some p | _ => none
/-- the signs of one word -/
noncomputable def hidW (ns : List Int) (t : Int) : List Int := preL (ns.take (ns.length - 1)) t ++ sgnL (t + 4 * ((ns.take (ns.length - 1)).length : Int)) ++ [917504 + ns.getD (ns.length - 1) 0]
theorem hid_word {w : World} {mg mb : Str → Option Value} {d : Nat} {fr : Option (List Env)} {gu : Option (List Code)} {un : Nat} {s : Shared} {h₀ : Heap} (G : Gd w mg mb h₀) {L S wa : Addr} {wv : List Value} {ns : List Int} {m₀ : Str → Option Value} {t : Int} {tk tt : Tok} {x : List Int} {u0 u1 u2 u3 u4 u5 u6 u7 : Tok} {rest : List (Addr × Obj)} {Q : Flow → Shared → Prop} (hwa : h₀.IsList wa wv.toArray) (hwi : IntsAre wv ns) (h1 : 1 ≤ ns.length) (h3 : ns.length ≤ 3) (hf : ∀ f ∈ ns, 0 ≤ f ∧ f < 64) (hx : x.length ≤ 900)
    (F : Fr h₀ L s.heap (fun y => if y = Str.ofString "text" then some (.str (txt x) tt) else if y = Str.ofString "strange" then some (.ref S) else if y = Str.ofString "turn" then some (.int t tk) else if y = Str.ofString "word" then some (.ref wa) else m₀ y))
    (N : News h₀ L s.heap ((S, W.listOf #[.int 917504 u0, .int 917506 u1, .int 917535 u2, .int 917632 u3, .int 97 u4, .int 8206 u5, .int 65529 u6, .int 983105 u7] 0) :: rest))
    (h : ∀ (h' : Heap) (tk' : Nat) (tt' : Tok) (m' : Str → Option Value), Fr h₀ L h' (fun y => if y = Str.ofString "text" then some (.str (txt (x ++ hidW ns t)) tt') else if y = Str.ofString "strange" then some (.ref S) else m' y) → (∀ y, y ≠ Str.ofString "text" → y ≠ Str.ofString "turn" → y ≠ Str.ofString "figure" → y ≠ Str.ofString "word" → y ≠ Str.ofString "strange" → m' y = m₀ y) → News h₀ L h' ((S, W.listOf #[.int 917504 u0, .int 917506 u1, .int 917535 u2, .int 917632 u3, .int 97 u4, .int 8206 u5, .int 65529 u6, .int 983105 u7] 0) :: rest) → Q .next { s with heap := h', toks := tk' }) :
    wpAny (model pw w) ⟨none, d, fr, gu, un⟩ (execs restB (hidE L)) Q (fun _ _ => False) s := by
  have eR : restB = nth restB 0 :: restB.drop 1 := by kernel_rfl
  rw [eR]
  refine wpAny_execs_cons ?_
  obtain ⟨px, py, eF⟩ : ∃ px py, nth restB 0 = .For (.Name (Str.ofString "figure") px) cutE innerB [] py := ⟨(fPx (nth restB 0)).get (by kernel_rfl), (fPy (nth restB 0)).get (by kernel_rfl), by kernel_rfl⟩
  rw [eF]
  refine wpAny_For ?_ (by intro _; rfl)
  refine cut_word G hwa hwi h1 h3 (frm F (norm1 _ (a := Str.ofString "word") rfl)) N (fun D h' ws tk' F' N' hI => ?_)
  refine for_list (n := (ns.take (ns.length - 1)).length + 1) F' N' ⟨_, (N' _ (List.mem_cons_self ..)).1, rfl, _, rfl⟩ (fun h2 I oI F2 N2 hO hne hD _ => ?_)
  refine loopF G hI (by rw [List.length_take]; omega) (fun f hm => hf f (List.mem_of_mem_take hm)) (S := S) (D := D) (rest := rest) (m₀ := fun y => if y = Str.ofString "word" then some (.ref wa) else m₀ y) (fun p hp => hne p (by simp only [List.mem_cons] at hp ⊢; rcases hp with e | e | e <;> (first | exact .inl e | exact .inr (.inl e) | exact .inr (.inr e) | exact .inr (.inr (.inl e))))) _ 0 (by simp) _ x t tt tk _ oI (by omega) (frm F2 (norm3 _ (a := Str.ofString "text") (b := Str.ofString "strange") (c := Str.ofString "turn") rfl rfl rfl)) (fun y a b c e => by simp only [if_neg a, if_neg b, if_neg e]; split <;> rfl) (fun p hp => N2 p (by simp only [List.mem_cons] at hp ⊢; rcases hp with e | e | e | e <;> (first | exact .inl e | exact .inr (.inl e) | exact .inr (.inr e) | exact .inr (.inr (.inl e)) | exact .inr (.inr (.inr e)) ))) hO ?_
  rintro s' h4 tk4 tt4 tk5 m4 rfl F4 hm4 N4
  dsimp only
  rw [List.drop_zero] at F4
  have hw4 : m4 (Str.ofString "word") = some (.ref wa) := by rw [hm4 _ (by decide) (by decide) (by decide) (by decide)]; rfl
  rw [norm1 m4 hw4] at F4
  have hpl := preL_len (ns.take (ns.length - 1)) t
  refine last_sign G hwa hwi h1 h3 hf (by rw [List.length_append]; rw [List.length_take] at hpl; omega) F4 (fun p hp => N4 p (by simp only [List.mem_cons] at hp ⊢; rcases hp with e | e <;> (first | exact .inl e | exact .inr (.inl e) | exact .inr (.inr e) | exact .inr (.inr (.inl e)) | exact .inr (.inr (.inr e))))) (fun h5 tk6 tt6 m6 F6 hm6 N6 => ?_)
  refine h h5 tk6 tt6 m6 ?_ (fun y a b c e g => ?_) N6
  · have ee : x ++ hidW ns t = x ++ preL (ns.take (ns.length - 1)) t ++ sgnL (t + 4 * ((ns.take (ns.length - 1)).length : Int)) ++ [917504 + ns.getD (ns.length - 1) 0] := by unfold hidW; simp [List.append_assoc]
    rw [ee]
    exact F6
  · rw [hm6 y a b e g, hm4 y a b c g]
    simp only [if_neg e]
end Mine

/-! WHid -/
namespace Mine
open PySem PySem.W PySem.Calls PyProof.Rows
set_option maxRecDepth 100000
set_option maxHeartbeats 8000000
/-- the signs of the first i words -/
noncomputable def hidAt (nss : List (List Int)) (hs : List Int) : Nat → List Int
  | 0 => []
  | i + 1 => hidAt nss hs i ++ hidW (nss.getD i []) ((hs.getD i 0).fdiv 399168)
noncomputable def WL (h : Heap) : List Value → List (List Int) → Prop
  | [], [] => True
  | v :: vs, ns :: nss => IntL ns v h ∧ WL h vs nss
  | _, _ => False
theorem WL.get {h : Heap} : ∀ {ws : List Value} {nss : List (List Int)} {i : Nat} {v : Value}, WL h ws nss → ws[i]? = some v → IntL (nss.getD i []) v h ∧ i < nss.length
  | [], _, _, _, _, e => by simp at e
  | v :: vs, [], _, _, x, _ => x.elim
  | v :: vs, ns :: nss, 0, u, x, e => by
    have : v = u := by simpa using e
    subst this
    exact ⟨x.1, Nat.succ_pos _⟩
  | v :: vs, ns :: nss, i + 1, u, x, e => by
    have r := WL.get x.2 (i := i) (v := u) (by simpa using e)
    exact ⟨by simpa [List.getD] using r.1, Nat.succ_lt_succ r.2⟩
theorem norm4 (m : Str → Option Value) {a b c d : Str} {x y z u : Option Value} (h1 : m a = x) (h2 : m b = y) (h3 : m c = z) (h4 : m d = u) : m = fun k => if k = a then x else if k = b then y else if k = c then z else if k = d then u else m k := by
  funext k
  by_cases e1 : k = a
  · rw [if_pos e1, e1, h1]
  · rw [if_neg e1]; exact congrFun (norm3 m h2 h3 h4) k
theorem sub_restB {w : World} {A : Around} {B : List Stmt} {env : Env} {Q : Flow → Shared → Prop} {E : Value → Shared → Prop} {s : Shared} (e : restB = B) (h : wpAny (model pw w) A (execs restB env) Q E s) : wpAny (model pw w) A (execs B env) Q E s := e ▸ h
theorem News.swap {h h' : Heap} {L : Addr} {own : List (Addr × Obj)} {a : Addr × Obj} (N : News h L h' (own ++ [a])) : News h L h' (a :: own) := fun p hp => N p (by
  rcases List.mem_cons.mp hp with e | e
  · exact List.mem_append_right _ (List.mem_singleton.mpr e)
  · exact List.mem_append_left _ e)
theorem News.swap' {h h' : Heap} {L : Addr} {own : List (Addr × Obj)} {a : Addr × Obj} (N : News h L h' (a :: own)) : News h L h' (own ++ [a]) := fun p hp => N p (by
  rcases List.mem_append.mp hp with e | e
  · exact List.mem_cons_of_mem _ e
  · rw [List.mem_singleton.mp e]; exact List.mem_cons_self ..)
theorem hidW_len (ns : List Int) (t : Int) (h3 : ns.length ≤ 3) : (hidW ns t).length ≤ 10 := by
  have a := preL_len (ns.take (ns.length - 1)) t
  have b := sgn_len (t + 4 * ((ns.take (ns.length - 1)).length : Int))
  rw [List.length_take] at a
  unfold hidW
  simp only [List.length_append, List.length_cons, List.length_nil]
  omega
theorem hidAt_len {nss : List (List Int)} {hs : List Int} (h : ∀ n ∈ nss, n.length ≤ 3) : ∀ i, (hidAt nss hs i).length ≤ 10 * i
  | 0 => by simp [hidAt]
  | i + 1 => by
    have a := hidAt_len (hs := hs) h i
    have b := hidW_len (nss.getD i []) ((hs.getD i 0).fdiv 399168) (by
      by_cases e : i < nss.length
      · have : nss.getD i [] = nss[i] := by simp [List.getD, e]
        rw [this]; exact h _ (List.getElem_mem e)
      · have : nss.getD i [] = [] := by simp [List.getD, Nat.le_of_not_lt e]
        rw [this]; simp)
    simp only [hidAt, List.length_append]
    omega
theorem c_hid {w : World} {mg mb : Str → Option Value} {A : Around} {s : Shared} (G : Gd w mg mb s.heap) (hA : A.handled = none) (hdp : A.depth < 900) {lw lh : Addr} {ws hs : List Value} {ns : List Int} {nss : List (List Int)}
   (hl : s.heap.IsList lw ws.toArray) (hW : WL s.heap ws nss) (hf : ∀ n ∈ nss, 1 ≤ n.length ∧ n.length ≤ 3 ∧ ∀ f ∈ n, 0 ≤ f ∧ f < 64) (hl2 : s.heap.IsList lh hs.toArray) (hi : IntsAre hs ns) (hn : ns.length = 4) (hw : ws.length = 4) (hp : ∀ n ∈ ns, 0 ≤ n) :
   wpAny (model pw w) A (call (.ref 79) [.ref lw, .ref lh]) (Back s (fun r _ => ∃ t, r = .str (txt (hidAt nss ns 4)) t)) (fun _ _ => False) s := by
  refine enter (i := 12) (name := Str.ofString "_law_hidden") (o := ob79 w.params) (c := 78) (pm := pmOf (ob79 w.params)) (binds := [(Str.ofString "words", Value.ref lw), (Str.ofString "heaps", Value.ref lh)]) G hdp (by kernel_rfl) (by kernel_rfl) (by kernel_rfl) (by kernel_rfl) (locs (by kernel_rfl)) (by kernel_rfl) (by kernel_rfl) (by kernel_rfl) (by decide +kernel) (fun h₁ F => ?_)
  have G0 := G
  obtain ⟨K, TT, GL⟩ := G
  obtain ⟨hh, d, fr, gu, un⟩ := A
  cases hA
  have N0 : News s.heap s.heap.objs.size h₁ [] := News.nil
  conv in fbod _ => whnf
  w_on
  repeat' ((fail_if_success (with_reducible show wpAny _ _ (call (Value.type "enumerate") _) _ _ _)); first | walk1 | (dsimp only; walk1))
  rename News _ _ _ _ => N2
  rename Fr _ _ _ _ => F2
  have hlw : lw < s.heap.objs.size := by obtain ⟨_, e, _⟩ := hl; exact Heap.lt_size e
  refine enum_pair rfl (hl.at fun o e => F2.keep _ o e) (Nat.ne_of_lt hlw) F2 N2 (fun i m₁ news₁ => ∃ S tt u0 u1 u2 u3 u4 u5 u6 u7, m₁ (Str.ofString "strange") = some (.ref S) ∧ m₁ (Str.ofString "heaps") = some (.ref lh) ∧ m₁ (Str.ofString "text") = some (.str (txt (hidAt nss ns i)) tt) ∧ news₁ = [(S, W.listOf #[.int 917504 u0, .int 917506 u1, .int 917535 u2, .int 917632 u3, .int 97 u4, .int 8206 u5, .int 65529 u6, .int 983105 u7] 0)]) ⟨_, _, _, _, _, _, _, _, _, _, rfl, rfl, rfl, rfl⟩ ?_ ?_
  · rintro i v0 v1 m₁ news₁ h tk own hi1 ⟨t, rfl⟩ hv ⟨S, tt, u0, u1, u2, u3, u4, u5, u6, u7, e1, e2, e3, rfl⟩ ha hown F3 N3
    rw [norm3 m₁ e1 e2 e3] at F3
    have hv' : ws[i]? = some v1 := by simpa using hv
    obtain ⟨⟨wa, wv, rfl, hwa, hwi⟩, hil⟩ := hW.get hv'
    have hi4 : i < ns.length := by rw [hn]; simpa [hw] using hi1
    repeat' ((fail_if_success (with_reducible show wpAny _ _ (execs (Stmt.For _ _ _ _ _ :: _) _) _ _ _)); first | walk1 | (dsimp only; walk1))
    rename Fr _ _ _ _ => F4
    rename News _ _ _ _ => N4
    have hmem : nss.getD i [] ∈ nss := by
      have : nss.getD i [] = nss[i] := by simp [List.getD, hil]
      rw [this]; exact List.getElem_mem hil
    obtain ⟨f1, f3, ff⟩ := hf _ hmem
    have hxl := hidAt_len (nss := nss) (hs := ns) (fun n hn => (hf n hn).2.1) i
    refine sub_restB (by kernel_rfl) ?_
    refine hid_word (S := S) (wa := wa) G0 hwa hwi f1 f3 ff (by omega) (frm F4 (norm4 _ (a := Str.ofString "text") (b := Str.ofString "strange") (c := Str.ofString "turn") (d := Str.ofString "word") rfl rfl rfl rfl)) (rest := own) (News.swap N4) (fun h5 tk5 tt5 m5 F5 hm5 N5 => ?_)
    refine LoopStep2.intro F5 (News.swap' N5) rfl ⟨S, tt5, _, _, _, _, _, _, _, _, rfl, ?_, ?_, rfl⟩
    · dsimp only
      rw [if_neg (by decide), if_neg (by decide), hm5 _ (by decide) (by decide) (by decide) (by decide) (by decide)]
      rfl
    · rfl
  · rintro h' tk m' news' F' N' ha ⟨S, tt, u0, u1, u2, u3, u4, u5, u6, u7, e1, e2, e3, rfl⟩
    have : ws.toArray.size = 4 := by simpa using hw
    rw [this] at e3
    dsimp only
    walk1
    walk1
    refine ld F' (v := .str (txt (hidAt nss ns 4)) tt) e3 ?_
    exact ⟨_, _, rfl, F'.keep, _, rfl⟩
end Mine

/-! WStop -/
namespace Mine
open PySem PySem.W PySem.Calls PyProof PyProof.Rows
set_option maxRecDepth 100000
set_option maxHeartbeats 8000000
section
variable {prog : Program} {w : World} {A : Around} {E : Value → Shared → Prop} {s : Shared}
theorem next_special_end {it l : Addr} {i : Nat} {items : Array Value} {Q : Option Value → Shared → Prop} (hh : A.handled = none) (hit : s.heap.IsListIter it l i) (hl : s.heap.IsList l items) (hx : items[i]? = none)
    (hE : ∀ h' e, Heap.ExtBut it s.heap h' → (∃ o vs a0, h'.get? e = some o ∧ o.cls = .type "StopIteration" ∧ o.data = .fields vs ∧ vs[1]? = some .none ∧ vs[0]? = some a0) → s.heap.objs.size < e → E (.ref e) { s with heap := h' }) : wpAny (model prog w) A (callSpecial? (.ref it) "__next__") Q E s := by
  obtain ⟨o, ho, hc, hd⟩ := id hit
  obtain ⟨ol, hol, _, nl, hdl⟩ := hl
  refine wpAny_callSpecial?_slot (name := Str.ofString "__next__") hit.typeIs slot_listiter_next (wpAny_call_entry slot_listiter_next hit.typeIs entry_listiter_next ?_ (args_listiter_next _))
  show wpAny _ _ (field (.ref it) 0 >>= _) _ _ s
  refine wpAny_bind (wpAny_field ho hd (x := .ref l) rfl ?_)
  show wpAny _ _ (if (Value.ref l == Value.none) = true then _ else _) _ _ s
  rw [if_neg (show ¬ ((Value.ref l == Value.none) = true) from Bool.false_ne_true)]
  show wpAny _ _ (field (.ref it) 1 >>= _) _ _ s
  refine wpAny_bind (wpAny_field ho hd (x := .int i 0) rfl ?_)
  show wpAny _ _ (seqItems? (.ref l) >>= _) _ _ s
  refine wpAny_bind (wpAny_seqItems hol hdl ?_)
  simp only [Int.toNat_natCast, hx]
  refine wpAny_bind (wpAny_rule (wpAny_bind (wpAny_setField ho hd (by simp) ?_)))
  show wpAny _ _ (newExc (.type "StopIteration") [] >>= _) _ _ _
  refine wpAny_bind ?_
  simp only [newExc, newTuple]
  refine wpAny_bind (wpAny_newObj_type ?_ (by size_fits))
  refine wpAny_bind (m := firstArgMember _ _) (wpAny_of_eq (a := Value.none) (by first | rfl | (simp only [firstArgMember]; rfl)) ?_)
  refine wpAny_newObj_type ?_ (by size_fits)
  simp only [raiseNew]
  refine wpAny_bind (wpAny_handled ?_)
  first | rw [show A.in1.handled = none from hh] | rw [hh]
  refine wpAny_bind (wpAny_pure (wpAny_throw ?_))
  refine hE _ _ (((Heap.SameBut.update ..).extBut.push _).push _) ⟨_, _, _, Heap.get?_push_size _ rfl, rfl, rfl, rfl, rfl⟩ ?_
  simp [Heap.push, Heap.update]
/-- next(it) on a list iterator that is through: StopIteration -/
theorem next_stop {it l : Addr} {i : Nat} {items : Array Value} {Q : Value → Shared → Prop} (hh : A.handled = none) (hit : s.heap.IsListIter it l i) (hl : s.heap.IsList l items) (hx : items[i]? = none)
    (hE : ∀ h' e, Heap.ExtBut it s.heap h' → (∃ o vs a0, h'.get? e = some o ∧ o.cls = .type "StopIteration" ∧ o.data = .fields vs ∧ vs[1]? = some .none ∧ vs[0]? = some a0) → s.heap.objs.size < e → E (.ref e) { s with heap := h' }) : wpAny (model prog w) A (call (.builtin "next") [.ref it]) Q E s := by
  refine call_function_entry (by decide +kernel) (by decide +kernel) kdk_entry_next (kdk_args_next _) ?_
  unfold Builtin.«next»
  refine wpAny_bind (m := someArgs "next" 1 2 _) (wpAny_of_eq (a := [Value.ref it]) (by first | rfl | kernel_rfl!) ?_)
  dsimp only
  refine wpAny_bind (wpAny_specialOf (name := Str.ofString "__next__") hit.typeIs slot_listiter_next.lookup ?_)
  refine wpAny_ite_split (fun hab => absurd hab (by decide)) (fun _ => ?_)
  exact wpAny_bind (next_special_end hh hit hl hx hE)
end
end Mine

/-! WHsv -/
namespace Mine
open PySem PySem.W PySem.Calls PyProof.Rows
set_option maxRecDepth 100000
set_option maxHeartbeats 8000000
local macro_rules | `(tactic| walk_at "binaryOp Sub float int") => `(tactic| (refine sub_fi_sharp rfl (fun ho => absurd ho (not_over (by assumption))) (fun _ => ?_)))
local macro_rules | `(tactic| walk_at "binaryOp Mult int float") => `(tactic| (refine mul_if_sharp rfl (fun ho => absurd ho (not_over (by assumption))) (fun _ => ?_)))
theorem c_hsv {w : World} {mg mb : Str → Option Value} {A : Around} {s : Shared} (G : Gd w mg mb s.heap) (hA : A.handled = none) (hdp : A.depth < 900) {hb sb : UInt64} {v : Int} {t1 t2 t3 : Tok} 
   {sg : Bool} {m : Nat} {e : Int} (hd : Float64.decode (Float64.mul hb 4618441417868443648) = .fin sg m e) (hs : (Float64.cmp sb 0 == some Ordering.eq) = false) (hi : (Float64.truncOf sg m e).natAbs < 2 ^ 60) (hv : v.natAbs < 2 ^ 60) :
   wpAny (model pw w) A (call (.ref 28) [.float hb t1, .float sb t2, .int v t3]) (Back s (Tup3 (hsvT hb sb v))) (fun _ _ => False) s := by
  refine enter (i := 2) (name := Str.ofString "hsv_to_rgb") (o := ob28 w.params) (c := 27) (pm := pmOf (ob28 w.params)) (binds := [(Str.ofString "h", Value.float hb t1), (Str.ofString "s", Value.float sb t2), (Str.ofString "v", Value.int v t3)]) G hdp (by kernel_rfl) (by kernel_rfl) (by kernel_rfl) (by kernel_rfl) (locs (by kernel_rfl)) (by kernel_rfl) (by kernel_rfl) (by kernel_rfl) (by decide +kernel) (fun h₁ F => ?_)
  obtain ⟨K, T, GL⟩ := G
  obtain ⟨hh, d, fr, gu, un⟩ := A
  cases hA
  clear K
  conv in fbod _ => whnf
  w_on
  repeat' (first | ((with_reducible show wpAny _ _ (call (Value.type "int") [Value.float _ _]) _ _ _); refine call_int_float hd ?_) | ((with_reducible show wpAny _ _ (newTuple _) _ _ _); fail) | walk1 | (dsimp only; walk1))
  · exact absurd ‹_ = true› (by rw [hs]; exact Bool.false_ne_true)
  iterate 6 (refine tup3_end (by assumption) ?_; unfold hsvT; dsimp only; rw [truncF_eq hd]; simp (config := { decide := true }) only [*, if_true, if_false]; exact ⟨⟨_, rfl⟩, ⟨_, rfl⟩, ⟨_, rfl⟩⟩)
  exfalso
  have e6 : (Float64.truncOf sg m e).fmod 6 = (Float64.truncOf sg m e) % 6 := Int.fmod_eq_emod_of_nonneg _ (by decide)
  simp only [e6] at *
  omega
end Mine

/-! WHsv0 -/
namespace Mine
open PySem PySem.W PySem.Calls PyProof.Rows
set_option maxRecDepth 100000
set_option maxHeartbeats 8000000
theorem c_hsv0 {w : World} {mg mb : Str → Option Value} {A : Around} {s : Shared} (G : Gd w mg mb s.heap) (hA : A.handled = none) (hdp : A.depth < 900) {hb : UInt64} {v : Int} {t1 t2 t3 : Tok} :
   wpAny (model pw w) A (call (.ref 28) [.float hb t1, .float 0 t2, .int v t3]) (Back s (Tup3 (.i v, .i v, .i v))) (fun _ _ => False) s := by
  refine enter (i := 2) (name := Str.ofString "hsv_to_rgb") (o := ob28 w.params) (c := 27) (pm := pmOf (ob28 w.params)) (binds := [(Str.ofString "h", Value.float hb t1), (Str.ofString "s", Value.float 0 t2), (Str.ofString "v", Value.int v t3)]) G hdp (by kernel_rfl) (by kernel_rfl) (by kernel_rfl) (by kernel_rfl) (locs (by kernel_rfl)) (by kernel_rfl) (by kernel_rfl) (by kernel_rfl) (by decide +kernel) (fun h₁ F => ?_)
  obtain ⟨K, T, GL⟩ := G
  obtain ⟨hh, d, fr, gu, un⟩ := A
  cases hA
  clear K
  conv in fbod _ => whnf
  w_on
  have hs : (Float64.cmp 0 0 == some Ordering.eq) = true := by decide +kernel
  repeat' ((fail_if_success (with_reducible show wpAny _ _ (newTuple _) _ _ _)); (fail_if_success (with_reducible show wpAny _ _ (execs (Stmt.Assign _ _ _ :: _) _) _ _ _)); first | walk1 | (dsimp only; walk1))
  · exact tup3_end (by assumption) ⟨⟨_, rfl⟩, ⟨_, rfl⟩, ⟨_, rfl⟩⟩
  · exact absurd hs (by rw [(by assumption : (Float64.cmp 0 0 == some Ordering.eq) = false)]; exact Bool.false_ne_true)
end Mine

/-! WRgb -/
namespace Mine
open PySem PySem.W PySem.Calls PyProof.Rows
set_option maxRecDepth 100000
set_option maxHeartbeats 8000000
noncomputable def NmT (v : Value) : Nm → Prop
  | .i k => ∃ t, v = .int k t
  | .f y => ∃ t : Tok, v = .float y t ∧ t ≠ 0
theorem NmT.is {v : Value} : ∀ {n : Nm}, NmT v n → NmIs v n
  | .i _, h => h
  | .f _, ⟨t, h, _⟩ => ⟨t, h⟩
noncomputable def Tup3T (T : Nm × Nm × Nm) (r : Value) (h : Heap) : Prop := ∃ a x y z, r = .ref a ∧ IsTup h a #[x, y, z] ∧ NmT x T.1 ∧ NmT y T.2.1 ∧ NmT z T.2.2
noncomputable def BackT (s : Shared) (P : Value → Heap → Prop) (v : Value) (s' : Shared) : Prop := ∃ h' tk, s' = { s with heap := h', toks := tk } ∧ Ext s.heap h' ∧ P v h' ∧ tk ≠ 0
theorem tup3_endT {w : World} {A : Around} {E : Value → Shared → Prop} {s : Shared} {L : Addr} {m : Str → Option Value} {h : Heap} {tk : Nat} {T : Nm × Nm × Nm} {x y z : Value} (F : Fr s.heap L h m) (hT : NmT x T.1 ∧ NmT y T.2.1 ∧ NmT z T.2.2) (ht : tk ≠ 0) :
    wpAny (model pw w) A (newTuple [x, y, z]) (fun v s' => BackT s (Tup3T T) v s') E { s with heap := h, toks := tk } :=
  newTuple_N (s := { s with heap := h, toks := tk }) F News.nil (fun h' F' N' => ⟨h', tk, rfl, F'.keep, ⟨_, x, y, z, rfl, ⟨_, (N' _ (List.mem_cons_self ..)).1, rfl, _, rfl⟩, hT⟩, ht⟩) (by show 3 ≤ sizeLine; decide)
theorem enterQ {w : World} {mg mb : Str → Option Value} {A : Around} {s : Shared} {f c : Addr} {o : Obj} {name : Str} {i : Nat} {args : List Value} {binds : List (Str × Value)} {pm : Value} {Q : Value → Shared → Prop}
    (G : Gd w mg mb s.heap) (hd : A.depth < 900) (ho : (KF w.params).lookup f = some o) (hdata : o.data = .func (docDef name (fpar (stm i)) (fbod (stm i)) (fsco (stm i)) pm (.ref c) .none)) (hc : codeIn (KF w.params) (.ref c) name = true)
    (hbind : bindArgs (docDef name (fpar (stm i)) (fbod (stm i)) (fsco (stm i)) pm (.ref c) .none) ⟨args, []⟩ = pure binds)
    (hloc : ∀ x ∈ binds, (fsco (stm i)).names.lookup x.1 = some .local)
    (hco : (fsco (stm i)).isCoroutine = false) (hgen : (fsco (stm i)).isGenerator = false) (hk : (fsco (stm i)).kind = .function) (hcell : ∀ x ∈ (fsco (stm i)).names, x.2 ≠ .cell)
    (h : ∀ h₁, Fr s.heap s.heap.objs.size h₁ (fun x => binds.reverse.lookup x) →
      wpAny (model pw w) (A.deeper (envOf name (fsco (stm i)) s.heap.objs.size f (.ref c))) (execs (fbod (stm i)) (envOf name (fsco (stm i)) s.heap.objs.size f (.ref c)))
        (fun fl s' => Q (match fl with | .ret v => v | _ => .none) s') (fun _ _ => False) { s with heap := h₁, toks := s.toks + binds.length }) :
    wpAny (model pw w) A (call (.ref f) args) Q (fun _ _ => False) s :=
  wpAny_call (call_plain_ret (Nat.lt_trans hd (by decide)) (G.K _ _ ho) hdata G.T.nolimit (codeRec_of G.K hc) hbind hloc h hco hgen hk hcell)
theorem c_rgb {w : World} {mg mb : Str → Option Value} {A : Around} {s : Shared} (G : Gd w mg mb s.heap) (hA : A.handled = none) (hdp : A.depth < 900) {r g b : Int} {t1 t2 t3 : Tok}
   (p1 : 0 ≤ r) (p2 : 0 ≤ g) (p3 : 0 ≤ b) (h1 : r.natAbs < 2 ^ 60) (h2 : g.natAbs < 2 ^ 60) (h3 : b.natAbs < 2 ^ 60) :
   wpAny (model pw w) A (call (.ref 21) [.int r t1, .int g t2, .int b t3]) (BackT s (Tup3T (rgbT r g b))) (fun _ _ => False) s := by
  refine enterQ (i := 1) (name := Str.ofString "rgb_to_hsv") (o := ob21 w.params) (c := 20) (pm := pmOf (ob21 w.params)) (binds := [(Str.ofString "r", Value.int r t1), (Str.ofString "g", Value.int g t2), (Str.ofString "b", Value.int b t3)]) G hdp (by kernel_rfl) (by kernel_rfl) (by kernel_rfl) (by kernel_rfl) (locs (by kernel_rfl)) (by kernel_rfl) (by kernel_rfl) (by kernel_rfl) (by decide +kernel) (fun h₁ F => ?_)
  obtain ⟨K, TT, GL⟩ := G
  obtain ⟨hh, d, fr, gu, un⟩ := A
  cases hA
  clear K
  conv in fbod _ => whnf
  w_on
  repeat' ((fail_if_success (with_reducible show wpAny _ _ (newTuple _) _ _ _)); first | walk1 | (dsimp only; walk1))
  · refine tup3_endT (by assumption) ?_ (Nat.succ_ne_zero _)
    unfold rgbT
    rw [if_pos (show mn r g b = mx r g b from by assumption)]
    exact ⟨⟨_, rfl, Nat.succ_ne_zero _⟩, ⟨_, rfl, Nat.succ_ne_zero _⟩, ⟨_, rfl⟩⟩
  · refine tup3_endT (by assumption) ?_ (Nat.succ_ne_zero _)
    unfold rgbT
    rw [if_neg (show ¬ mn r g b = mx r g b from by assumption)]
    dsimp only
    rw [if_pos (show r = mx r g b from by assumption)]
    exact ⟨⟨_, rfl, Nat.succ_ne_zero _⟩, ⟨_, rfl, Nat.succ_ne_zero _⟩, ⟨_, rfl⟩⟩
  · refine tup3_endT (by assumption) ?_ (Nat.succ_ne_zero _)
    unfold rgbT
    rw [if_neg (show ¬ mn r g b = mx r g b from by assumption)]
    dsimp only
    rw [if_neg (show ¬ r = mx r g b from by assumption), if_pos (show g = mx r g b from by assumption)]
    exact ⟨⟨_, rfl, Nat.succ_ne_zero _⟩, ⟨_, rfl, Nat.succ_ne_zero _⟩, ⟨_, rfl⟩⟩
  · refine tup3_endT (by assumption) ?_ (Nat.succ_ne_zero _)
    unfold rgbT
    rw [if_neg (show ¬ mn r g b = mx r g b from by assumption)]
    dsimp only
    rw [if_neg (show ¬ r = mx r g b from by assumption), if_neg (show ¬ g = mx r g b from by assumption)]
    exact ⟨⟨_, rfl, Nat.succ_ne_zero _⟩, ⟨_, rfl, Nat.succ_ne_zero _⟩, ⟨_, rfl⟩⟩
end Mine

/-! WPaint -/
namespace Mine
open PySem PySem.W PySem.Calls PyProof.Rows
set_option maxRecDepth 100000
set_option maxHeartbeats 8000000
local macro_rules | `(tactic| walk_at "binaryOp Mult int int") => `(tactic| first | (refine PyProof.Rows.mul_int ?_ (IntMulOk.of_left (by first | decide | exact bits60 (by assumption)))) | (refine PyProof.Rows.mul_int ?_ (IntMulOk.of_right (by first | decide | exact bits60 (by assumption)))))
theorem c_paint {w : World} {mg mb : Str → Option Value} {A : Around} {s : Shared} (G : Gd w mg mb s.heap) (hA : A.handled = none) (hdp : A.depth < 900) {part wheel share size : Int} {t1 t2 t3 t4 : Tok}
   (h1 : part.natAbs < 2 ^ 60) (h2 : wheel.natAbs < 2 ^ 60) (h3 : share.natAbs < 2 ^ 60) (h4 : size.natAbs < 2 ^ 60) (h5 : 0 < wheel) :
   wpAny (model pw w) A (call (.ref 86) [.int part t1, .int wheel t2, .int share t3, .int size t4]) (Back s (IntL (paintL part wheel share size))) (fun _ _ => False) s := by
  refine enter (i := 13) (name := Str.ofString "_law_paint") (o := ob86 w.params) (c := 85) (pm := pmOf (ob86 w.params)) (binds := [(Str.ofString "part", Value.int part t1), (Str.ofString "wheel", Value.int wheel t2), (Str.ofString "share", Value.int share t3), (Str.ofString "size", Value.int size t4)]) G hdp (by kernel_rfl) (by kernel_rfl) (by kernel_rfl) (by kernel_rfl) (locs (by kernel_rfl)) (by kernel_rfl) (by kernel_rfl) (by kernel_rfl) (by decide +kernel) (fun h₁ F => ?_)
  obtain ⟨K, TT, GL⟩ := G
  obtain ⟨hh, d, fr, gu, un⟩ := A
  cases hA
  have N0 : News s.heap s.heap.objs.size h₁ [] := News.nil
  conv in fbod _ => whnf
  w_on
  repeat' (first | walk1 | (dsimp only; walk1))
  dsimp only
  rename_i hN
  exact ⟨_, _, rfl, Fr.keep (by assumption), _, [Value.int _ _, Value.int _ _, Value.int _ _], rfl, ⟨_, (hN _ (List.mem_cons_of_mem _ (List.mem_cons_self ..))).1, rfl, _, rfl⟩, IntsAre.cons _ _ (IntsAre.cons _ _ (IntsAre.cons _ _ IntsAre.nil))⟩
end Mine

/-! WComp -/
namespace Mine
open PySem PySem.W PySem.Calls PyProof.Rows PySem.Spec
set_option maxRecDepth 100000
section
variable {prog : Program} {w : World} {A : Around} {E : Value → Shared → Prop} {s : Shared} {h₀ : Heap} {L : Addr} {m : Str → Option Value} {env : Env}
/-- a source that is a range of any step -/
noncomputable def SrcD (prog : Program) (w : World) (A : Around) (h₀ : Heap) (L : Addr) (m : Str → Option Value) (env : Env) (elt : Expr) (x : Str) (scope : Scope) (cl : List (Str × Addr)) (Fin : Shared → List Value → List (Addr × Obj) → Prop) (xv : Value) (s₁ : Shared) : Prop :=
  ∃ r a b c t u v n news, xv = .ref r ∧ A.handled = none ∧ Fr h₀ L s₁.heap m ∧ News h₀ L s₁.heap news ∧ IsRange s₁.heap r a b c t u v ∧ Builtin.Range.small a b c = true ∧ Builtin.Range.rangeSize a b c = ((n : Nat) : Int) ∧ n ≤ sizeLine ∧
    ∀ g, LCg.CompRest prog w A h₀ L m env elt x scope cl { s₁ with heap := g } (fun _ => True) (fun i v => ∃ t, v = .int (a + (i : Int) * c) t) (Fin { s₁ with heap := g }) n 0 [] news
theorem rangeD_st {I : Addr} {a c : Int} {n : Nat} : ∀ i (h h' : Heap) (o : Obj) (nw : List (Addr × Obj)), IsRangeIter h I (a + (i : Nat) * c) ((n : Int) - (i : Nat)) c → h.get? I = some o → h'.get? I = some o → (∀ b o, h₀.get? b = some o → h'.get? b = some o) → News h₀ L h' nw → True → IsRangeIter h' I (a + (i : Nat) * c) ((n : Int) - (i : Nat)) c :=
  fun i h h' o nw st e e' _ _ _ => by
    have st' : h.get? I = some _ := st
    show h'.get? I = some _
    rw [e', ← e]; exact st'
theorem ListComp_D {elt iter : Expr} {x : Str} {px : Pos} {scope : Scope} {cl : List (Str × Addr)} {pos : Pos} {Q : Value → Shared → Prop} (F₀ : Fr h₀ L s.heap m)
    (hclos : closureFor scope env = pure cl) (hcell : ∀ y ∈ scope.names, y.2 ≠ .cell) (hkind : scope.kind = .function)
    (hnames : ∀ y ∈ scope.names, y.2 = .local → scope.names.lookup y.1 = some .local) (hx : scope.names.lookup x = some .local)
    (h : wpAny (model prog w) A (eval iter env) (SrcD prog w A h₀ L m env elt x scope cl (fun s₂ => LCg.FinE h₀ L m s₂ Q)) E s)
    (hs : ∀ x, foldedSetIterable iter env x = pure x := by intro _; rfl) :
    wpAny (model prog w) A (eval (.ListComp elt [⟨.Name x px, iter, [], 0⟩] scope pos) env) Q E s := by
  rw [eval_ListComp]
  refine wpAny_comprehension_free (use := none) rfl hs hclos hkind hnames (wpAny_mono h (fun xv s₁ h₁ => ?_) fun _ _ e => e)
  obtain ⟨r, a, b, c, t, u, v, n, news, rfl, hh, F, N, hr, hsm, hn, hsz, R⟩ := h₁
  have up : Ext s₁.heap (s₁.heap.push { cls := .type "range_iterator", data := .fields #[rawInt a, rawInt (Builtin.Range.rangeSize a b c), rawInt c] }) := fun _ _ e => Heap.get?_push_of_some _ e
  refine wpAny_pyIter_range hr hsm (LCg.block_U (Walks.range hh s₁.heap.objs.size a c n) hsz (fun i h st => ⟨_, st⟩) rangeD_st hcell hkind hx (by show IsRangeIter _ _ _ _ _; rw [hn]; simpa using Heap.get?_push_size _ rfl)
    (fun b hb => by rw [List.mem_singleton.mp hb]; show s₁.heap.objs.size < (s₁.heap.push _).objs.size; rw [Heap.size_push]; exact Nat.lt_succ_self _)
    (Fr.ext F up) (News.ext N up) (Nat.ne_of_lt F.ns.lt) (next_is_new F) (fun p hp => Nat.ne_of_lt (Heap.lt_size (N p hp).1)) trivial (R _) ?_)
  intro D C h tk m' ys news' F' N' o1 hns hC₀ hD₀ hCL hDL hCD offC fin
  refine ⟨m', hns, fun h'' hs'' => fin D h'' tk (F'.change hs'' hCL hC₀) (fun p hp => ⟨hs''.extBut _ _ ?_ (N' p hp).1, (N' p hp).2⟩) o1⟩
  rcases List.mem_cons.mp hp with rfl | hp
  · exact Ne.symm hCD
  · exact offC p hp
end
end Mine

/-! WBack -/
namespace Mine
open PySem PySem.W PySem.Calls PyProof.Rows
set_option maxRecDepth 100000
set_option maxHeartbeats 8000000
local macro_rules | `(tactic| walk_at "eval ListComp") => `(tactic| (k_dflt (refine ListComp_D (F₀ := by k_asm) (by rfl) (by decide) (by rfl) (by decide) (by rfl) ?_)))
local macro_rules | `(tactic| walk_at "binaryOp FloorDiv int int") => `(tactic| (refine PyProof.Rows.floordiv_int (by decide) ?_ (Or.inl (PyProof.noPylong_of_log2 (by decide +kernel)))))
local macro_rules | `(tactic| walk_at "binaryOp Mod int int") => `(tactic| (refine PyProof.Rows.mod_int (by decide) ?_))
theorem c_back1 {w : World} {mg mb : Str → Option Value} {A : Around} {s : Shared} (G : Gd w mg mb s.heap) (hA : A.handled = none) (hdp : A.depth < 900) {l1 l2 : Addr} {vs1 vs2 : List Value} {a0 a1 a2 b0 b1 b2 : Int} {t1 : Tok}
   (hl1 : s.heap.IsList l1 vs1.toArray) (hi1 : IntsAre vs1 [a0, a1, a2]) (hl2 : s.heap.IsList l2 vs2.toArray) (hi2 : IntsAre vs2 [b0, b1, b2])
   (h0 : 0 ≤ a0) (h0' : a0 < 100) (h1 : 0 ≤ a2) (h1' : a2 < 100) (h2 : 0 ≤ b0) (h2' : b0 < 100) (h3 : 0 ≤ b1) (h3' : b1 < 100) (h4 : 0 ≤ b2) (h4' : b2 < 100) :
   wpAny (model pw w) A (call (.ref 91) [.ref l1, .ref l2, .int 1 t1]) (Back s (IntL (backL 1 (backNum 1 a0 a2 b0 b1 b2)))) (fun _ _ => False) s := by
  refine enterC (i := 14) (name := Str.ofString "_law_word_back") (o := ob91 w.params) (c := 90) (pm := pmOf (ob91 w.params)) (binds := [(Str.ofString "ahead", Value.ref l1), (Str.ofString "behind", Value.ref l2), (Str.ofString "size", Value.int 1 t1)]) G hdp (by kernel_rfl) (by kernel_rfl) (by kernel_rfl) (by kernel_rfl) (locs (by kernel_rfl)) (by kernel_rfl) (by kernel_rfl) (by kernel_rfl) (by decide +kernel) (fun h₁ tk cells F N0 Y' => ?_)
  obtain ⟨K, TT, GL⟩ := G
  obtain ⟨hh, d, fr, gu, un⟩ := A
  cases hA
  conv in fbod _ => whnf
  w_on
  k_cells Y'
  repeat' ((fail_if_success (with_reducible show SrcD _ _ _ _ _ _ _ _ _ _ _ _ _ _)); first | walk1 | (dsimp only; walk1))
  rename IsRange _ _ _ _ _ _ _ _ => rg
  rename News _ _ _ _ => nw
  rename Fr _ _ _ _ => fw
  refine ⟨_, _, _, _, _, _, _, 1, _, rfl, rfl, fw, nw, rg, by decide, by decide, by decide, ?_⟩
  intro g'
  refine LCg.CompRest.succ ?_
  intro v' I' oI' C' oC' D' m' h' tk' E' hv' hC' hx' F' N' off' ne'
  obtain ⟨t9', hv9'⟩ := hv'
  replace hv9' : v' = Value.int 0 t9' := hv9'
  subst hv9'
  simp only [LCg.Off3, and_true] at off'
  repeat' ((fail_if_success (with_reducible show LCg.CompRest _ _ _ _ _ _ _ _ _ _ _ _ _ _ _ _ _ _ _)); first | walk1 | (dsimp only; walk1))
  refine LCg.CompRest.zero ?_
  intro D h tk2 F2 N2 _
  exact ⟨_, _, rfl, F2.keep, _, _, rfl, ⟨_, (N2 _ (List.mem_cons_self ..)).1, rfl, _, rfl⟩, IntsAre.cons _ _ (IntsAre.nil)⟩
theorem c_back2 {w : World} {mg mb : Str → Option Value} {A : Around} {s : Shared} (G : Gd w mg mb s.heap) (hA : A.handled = none) (hdp : A.depth < 900) {l1 l2 : Addr} {vs1 vs2 : List Value} {a0 a1 a2 b0 b1 b2 : Int} {t1 : Tok}
   (hl1 : s.heap.IsList l1 vs1.toArray) (hi1 : IntsAre vs1 [a0, a1, a2]) (hl2 : s.heap.IsList l2 vs2.toArray) (hi2 : IntsAre vs2 [b0, b1, b2])
   (h0 : 0 ≤ a0) (h0' : a0 < 100) (h1 : 0 ≤ a2) (h1' : a2 < 100) (h2 : 0 ≤ b0) (h2' : b0 < 100) (h3 : 0 ≤ b1) (h3' : b1 < 100) (h4 : 0 ≤ b2) (h4' : b2 < 100) :
   wpAny (model pw w) A (call (.ref 91) [.ref l1, .ref l2, .int 2 t1]) (Back s (IntL (backL 2 (backNum 2 a0 a2 b0 b1 b2)))) (fun _ _ => False) s := by
  refine enterC (i := 14) (name := Str.ofString "_law_word_back") (o := ob91 w.params) (c := 90) (pm := pmOf (ob91 w.params)) (binds := [(Str.ofString "ahead", Value.ref l1), (Str.ofString "behind", Value.ref l2), (Str.ofString "size", Value.int 2 t1)]) G hdp (by kernel_rfl) (by kernel_rfl) (by kernel_rfl) (by kernel_rfl) (locs (by kernel_rfl)) (by kernel_rfl) (by kernel_rfl) (by kernel_rfl) (by decide +kernel) (fun h₁ tk cells F N0 Y' => ?_)
  obtain ⟨K, TT, GL⟩ := G
  obtain ⟨hh, d, fr, gu, un⟩ := A
  cases hA
  conv in fbod _ => whnf
  w_on
  k_cells Y'
  repeat' ((fail_if_success (with_reducible show SrcD _ _ _ _ _ _ _ _ _ _ _ _ _ _)); first | walk1 | (dsimp only; walk1))
  rename IsRange _ _ _ _ _ _ _ _ => rg
  rename News _ _ _ _ => nw
  rename Fr _ _ _ _ => fw
  refine ⟨_, _, _, _, _, _, _, 2, _, rfl, rfl, fw, nw, rg, by decide, by decide, by decide, ?_⟩
  intro g'
  refine LCg.CompRest.succ ?_
  intro v' I' oI' C' oC' D' m' h' tk' E' hv' hC' hx' F' N' off' ne'
  obtain ⟨t9', hv9'⟩ := hv'
  replace hv9' : v' = Value.int 1 t9' := hv9'
  subst hv9'
  simp only [LCg.Off3, and_true] at off'
  repeat' ((fail_if_success (with_reducible show LCg.CompRest _ _ _ _ _ _ _ _ _ _ _ _ _ _ _ _ _ _ _)); first | walk1 | (dsimp only; walk1))
  refine LCg.CompRest.succ ?_
  intro v' I' oI' C' oC' D' m' h' tk' E' hv' hC' hx' F' N' off' ne'
  obtain ⟨t9', hv9'⟩ := hv'
  replace hv9' : v' = Value.int 0 t9' := hv9'
  subst hv9'
  simp only [LCg.Off3, and_true] at off'
  repeat' ((fail_if_success (with_reducible show LCg.CompRest _ _ _ _ _ _ _ _ _ _ _ _ _ _ _ _ _ _ _)); first | walk1 | (dsimp only; walk1))
  refine LCg.CompRest.zero ?_
  intro D h tk2 F2 N2 _
  exact ⟨_, _, rfl, F2.keep, _, _, rfl, ⟨_, (N2 _ (List.mem_cons_self ..)).1, rfl, _, rfl⟩, IntsAre.cons _ _ (IntsAre.cons _ _ (IntsAre.nil))⟩
theorem c_back3 {w : World} {mg mb : Str → Option Value} {A : Around} {s : Shared} (G : Gd w mg mb s.heap) (hA : A.handled = none) (hdp : A.depth < 900) {l1 l2 : Addr} {vs1 vs2 : List Value} {a0 a1 a2 b0 b1 b2 : Int} {t1 : Tok}
   (hl1 : s.heap.IsList l1 vs1.toArray) (hi1 : IntsAre vs1 [a0, a1, a2]) (hl2 : s.heap.IsList l2 vs2.toArray) (hi2 : IntsAre vs2 [b0, b1, b2])
   (h0 : 0 ≤ a0) (h0' : a0 < 100) (h1 : 0 ≤ a2) (h1' : a2 < 100) (h2 : 0 ≤ b0) (h2' : b0 < 100) (h3 : 0 ≤ b1) (h3' : b1 < 100) (h4 : 0 ≤ b2) (h4' : b2 < 100) :
   wpAny (model pw w) A (call (.ref 91) [.ref l1, .ref l2, .int 3 t1]) (Back s (IntL (backL 3 (backNum 3 a0 a2 b0 b1 b2)))) (fun _ _ => False) s := by
  refine enterC (i := 14) (name := Str.ofString "_law_word_back") (o := ob91 w.params) (c := 90) (pm := pmOf (ob91 w.params)) (binds := [(Str.ofString "ahead", Value.ref l1), (Str.ofString "behind", Value.ref l2), (Str.ofString "size", Value.int 3 t1)]) G hdp (by kernel_rfl) (by kernel_rfl) (by kernel_rfl) (by kernel_rfl) (locs (by kernel_rfl)) (by kernel_rfl) (by kernel_rfl) (by kernel_rfl) (by decide +kernel) (fun h₁ tk cells F N0 Y' => ?_)
  obtain ⟨K, TT, GL⟩ := G
  obtain ⟨hh, d, fr, gu, un⟩ := A
  cases hA
  conv in fbod _ => whnf
  w_on
  k_cells Y'
  repeat' ((fail_if_success (with_reducible show SrcD _ _ _ _ _ _ _ _ _ _ _ _ _ _)); first | walk1 | (dsimp only; walk1))
  rename IsRange _ _ _ _ _ _ _ _ => rg
  rename News _ _ _ _ => nw
  rename Fr _ _ _ _ => fw
  refine ⟨_, _, _, _, _, _, _, 3, _, rfl, rfl, fw, nw, rg, by decide, by decide, by decide, ?_⟩
  intro g'
  refine LCg.CompRest.succ ?_
  intro v' I' oI' C' oC' D' m' h' tk' E' hv' hC' hx' F' N' off' ne'
  obtain ⟨t9', hv9'⟩ := hv'
  replace hv9' : v' = Value.int 2 t9' := hv9'
  subst hv9'
  simp only [LCg.Off3, and_true] at off'
  repeat' ((fail_if_success (with_reducible show LCg.CompRest _ _ _ _ _ _ _ _ _ _ _ _ _ _ _ _ _ _ _)); first | walk1 | (dsimp only; walk1))
  refine LCg.CompRest.succ ?_
  intro v' I' oI' C' oC' D' m' h' tk' E' hv' hC' hx' F' N' off' ne'
  obtain ⟨t9', hv9'⟩ := hv'
  replace hv9' : v' = Value.int 1 t9' := hv9'
  subst hv9'
  simp only [LCg.Off3, and_true] at off'
  repeat' ((fail_if_success (with_reducible show LCg.CompRest _ _ _ _ _ _ _ _ _ _ _ _ _ _ _ _ _ _ _)); first | walk1 | (dsimp only; walk1))
  refine LCg.CompRest.succ ?_
  intro v' I' oI' C' oC' D' m' h' tk' E' hv' hC' hx' F' N' off' ne'
  obtain ⟨t9', hv9'⟩ := hv'
  replace hv9' : v' = Value.int 0 t9' := hv9'
  subst hv9'
  simp only [LCg.Off3, and_true] at off'
  repeat' ((fail_if_success (with_reducible show LCg.CompRest _ _ _ _ _ _ _ _ _ _ _ _ _ _ _ _ _ _ _)); first | walk1 | (dsimp only; walk1))
  refine LCg.CompRest.zero ?_
  intro D h tk2 F2 N2 _
  exact ⟨_, _, rfl, F2.keep, _, _, rfl, ⟨_, (N2 _ (List.mem_cons_self ..)).1, rfl, _, rfl⟩, IntsAre.cons _ _ (IntsAre.cons _ _ (IntsAre.cons _ _ (IntsAre.nil)))⟩
end Mine

/-! WTab -/
namespace Mine
open PySem PySem.W PySem.Calls PyProof.Rows
set_option maxRecDepth 100000
set_option maxHeartbeats 8000000
noncomputable def inTab (k : Int) : Bool := decide (k = 917505) || (decide (917536 ≤ k) && decide (k ≤ 917631))
theorem mem_es (e : Int × Value) : e ∈ esOf 97 ↔ e = first ∨ ∃ k, k < 96 ∧ e = entry k := by
  show e ∈ first :: (List.range 96).map entry ↔ _
  simp only [List.mem_cons, List.mem_map, List.mem_range]
  constructor
  · rintro (h | ⟨k, hk, rfl⟩)
    · exact .inl h
    · exact .inr ⟨k, hk, rfl⟩
  · rintro (h | ⟨k, hk, rfl⟩)
    · exact .inl h
    · exact .inr ⟨k, hk, rfl⟩
theorem hashes (prog : Program) (w : World) : (intKind prog w).hash 917505 = 917505 ∧ ∀ k, k < 96 → (intKind prog w).hash (917536 + (k : Nat)) = 917536 + (k : Nat) := by
  refine ⟨by kernel_rfl, fun k hk => ?_⟩
  have : ∀ k < 96, hashInt (917536 + ((k : Nat) : Int)) = 917536 + ((k : Nat) : Int) := by decide +kernel
  exact this k hk
theorem setOb_of (prog : Program) (w : World) (led : Bool) : Obj.SetObjOf (intKind prog w) (setOb 97 led) inTab 97 := by
  refine ⟨⟨rfl, rfl, rfl⟩, (esOf 97).toArray, _, _, rfl, ?_, ?_, ?_, ?_⟩
  · intro e he
    rcases (mem_es e).mp he with rfl | ⟨k, hk, rfl⟩
    · exact ⟨⟨917505, by kernel_rfl, (hashes prog w).1.symm⟩, rfl⟩
    · exact ⟨⟨917536 + (k : Nat), beq_self_eq_true _, ((hashes prog w).2 k hk).symm⟩, rfl⟩
  · intro k
    constructor
    · intro hk
      simp only [inTab, Bool.or_eq_true, Bool.and_eq_true, decide_eq_true_eq] at hk
      rcases hk with rfl | ⟨h1, h2⟩
      · exact ⟨first, (mem_es _).mpr (.inl rfl), by kernel_rfl⟩
      · refine ⟨entry (k - 917536).toNat, (mem_es _).mpr (.inr ⟨_, by omega, rfl⟩), ?_⟩
        show ((917536 + ((k - 917536).toNat : Nat) : Int) == k) = true
        exact beq_iff_eq.mpr (by omega)
    · rintro ⟨e, he, h⟩
      simp only [inTab, Bool.or_eq_true, Bool.and_eq_true, decide_eq_true_eq]
      rcases (mem_es e).mp he with rfl | ⟨j, hj, rfl⟩
      · have h' : ((917505 : Int) == k) = true := h
        exact .inl (beq_iff_eq.mp h').symm
      · have h' : ((917536 + (j : Nat) : Int) == k) = true := h
        have := beq_iff_eq.mp h'
        exact .inr ⟨by omega, by omega⟩
  · kernel_rfl
  · cases led <;> kernel_rfl
noncomputable def BoolV (b : Bool) (r : Value) (_ : Heap) : Prop := r = .bool b
theorem c_table {w : World} {mg mb : Str → Option Value} {A : Around} {s : Shared} (G : Gd w mg mb s.heap) (hA : A.handled = none) (hdp : A.depth < 900) {c : Nat} {t : Tok} :
   wpAny (model pw w) A (call (.ref 53) [.str ⟨#[c]⟩ t]) (Back s (BoolV (inTab c))) (fun _ _ => False) s := by
  refine enter (i := 7) (name := Str.ofString "in_table_c9") (o := ob53 w.params) (c := 52) (pm := pmOf (ob53 w.params)) (binds := [(Str.ofString "code", Value.str ⟨#[c]⟩ t)]) G hdp (by kernel_rfl) (by kernel_rfl) (by kernel_rfl) (by kernel_rfl) (locs (by kernel_rfl)) (by kernel_rfl) (by kernel_rfl) (by kernel_rfl) (by decide +kernel) (fun h₁ F => ?_)
  obtain ⟨K, TT, GL⟩ := G
  obtain ⟨hh, d, fr, gu, un⟩ := A
  cases hA
  have K' := K.keeps F.keep
  have hset : h₁.get? 43 = some (setOb 97 (!w.params.followText "set-order")) := K' 43 _ (by kernel_rfl)
  clear K'
  have hnm : nsIn (KF w.params) mainGlobals (Str.ofString "c9_set") = some (some (.ref 43)) := by kernel_rfl
  conv in fbod _ => whnf
  w_on
  repeat' ((fail_if_success (with_reducible show wpAny _ _ (eval (Expr.Name (Str.ofString "c9_set") _) _) _ _ _)); first | walk1 | (dsimp only; walk1))
  refine name_K F K TT hnm ?_
  refine wpAny_inSet_of (knd := intKind pw w) (k := (c : Int)) (S := inTab) (n := 97) (beq_self_eq_true _) rfl ((setOb_of pw w _).setOf hset (by decide)) ?_
  exact ⟨_, _, rfl, F.keep, rfl⟩
end Mine

/-! WVarA -/
namespace Mine
open PySem PySem.W PySem.Calls PyProof.Rows
set_option maxRecDepth 100000
set_option maxHeartbeats 8000000
noncomputable def ItObj (o : Obj) (l : Addr) (i : Nat) : Prop := o.cls = .type "list_iterator" ∧ o.data = .fields #[.ref l, .int i 0]
noncomputable def BackIt (s : Shared) (it : Addr) (P : Value → Heap → Prop) (v : Value) (s' : Shared) : Prop := ∃ h' tk, s' = { s with heap := h', toks := tk } ∧ (∀ b o, b ≠ it → s.heap.get? b = some o → h'.get? b = some o) ∧ P v h'
theorem nextN {w : World} {A : Around} {E : Value → Shared → Prop} {s : Shared} {h₀ : Heap} {L it l : Addr} {m : Str → Option Value} {oI : Obj} {i : Nat} {items : Array Value} {x : Value} {Q : Value → Shared → Prop}
    (F : Fr h₀ L s.heap m) (N : News h₀ L s.heap [(it, oI)]) (hI : ItObj oI l i) (hl : h₀.IsList l items) (hx : items[i]? = some x)
    (h : ∀ h' oI', Fr h₀ L h' m → News h₀ L h' [(it, oI')] → ItObj oI' l (i + 1) → Q x { s with heap := h' }) : wpAny (model pw w) A (call (.builtin "next") [.ref it]) Q E s := by
  have z := N _ (List.mem_cons_self ..)
  refine next_item (l := l) (i := i) ⟨oI, z.1, hI.1, hI.2⟩ (hl.at fun o e => F.keep l o e) hx (fun h' hit' hs => ?_)
  obtain ⟨o', ho', hc', hd'⟩ := hit'
  exact h h' o' (F.change hs z.2.1 z.2.2) (fun p hp => by rw [List.mem_singleton.mp hp]; exact ⟨ho', z.2⟩) ⟨hc', hd'⟩
theorem enterIt {w : World} {mg mb : Str → Option Value} {A : Around} {s : Shared} {hb : Heap} {it l : Addr} {oI : Obj} {i : Nat} {items : Array Value} {P : Value → Heap → Prop}
    (Gb : Gd w mg mb hb) (hx : Ext hb s.heap) (hn : hb.get? it = none) (hd : A.depth < 900) (ho : s.heap.get? it = some oI) (hI : ItObj oI l i) (hl : s.heap.IsList l items)
    (h : ∀ h₁ L, Gd w mg mb (s.heap.hide it) → Fr (s.heap.hide it) L h₁ (fun x => [(Str.ofString "iterator", Value.ref it)].reverse.lookup x) → News (s.heap.hide it) L h₁ [(it, oI)] → (s.heap.hide it).IsList l items →
      wpAny (model pw w) (A.deeper (envOf (Str.ofString "_parse_varint") (fsco (stm 4)) L 35 (.ref 34))) (execs (fbod (stm 4)) (envOf (Str.ofString "_parse_varint") (fsco (stm 4)) L 35 (.ref 34)))
        (fun fl s' => BackIt s it P (match fl with | .ret v => v | _ => .none) s') (fun _ _ => False) { s with heap := h₁, toks := s.toks + 1 }) :
    wpAny (model pw w) A (call (.ref 35) [.ref it]) (BackIt s it P) (fun _ _ => False) s := by
  have G := Gb.ext hx
  have hne : l ≠ it := by
    rintro rfl
    obtain ⟨o, e, c, _⟩ := hl
    rw [ho] at e
    cases e
    rw [hI.1] at c
    exact absurd c (by decide)
  have xh : Ext hb (s.heap.hide it) := fun b o e => (Heap.hide_ne _ (fun q => by rw [q, hn] at e; cases e)).trans (hx b o e)
  refine wpAny_call (call_plain_ret (name := Str.ofString "_parse_varint") (params := fpar (stm 4)) (body := fbod (stm 4)) (scope := fsco (stm 4)) (pm := pmOf (ob35 w.params)) (cd := .ref 34) (doc := .none) (o := ob35 w.params) (binds := [(Str.ofString "iterator", Value.ref it)])
    (Nat.lt_trans hd (by decide)) (G.K _ _ (by kernel_rfl)) (by kernel_rfl) G.T.nolimit (codeRec_of G.K (by kernel_rfl)) (by kernel_rfl) (locs (by kernel_rfl)) (fun h₁ F => ?_) (by kernel_rfl) (by kernel_rfl) (by kernel_rfl) (by decide +kernel))
  refine h h₁ _ (Gb.ext xh) ⟨F.ns, fun b o e => F.keep b o (Heap.of_hide e), by rw [Heap.hide_size]; exact F.above⟩ (fun p hp => ?_) ?_
  · rw [List.mem_singleton.mp hp]
    exact ⟨F.keep _ _ ho, Nat.ne_of_lt (Heap.lt_size ho), Heap.hide_self _ _⟩
  · obtain ⟨o, e, r⟩ := hl
    exact ⟨o, (Heap.hide_ne _ hne).trans e, r⟩
theorem and63 {f : Int} (h0 : 0 ≤ f) (h1 : f < 64) : Builtin.bitAnd (917568 + f) 63 = f ∧ Builtin.bitAnd (917568 + f) 64 = 64 ∧ Builtin.bitAnd (917504 + f) 63 = f ∧ Builtin.bitAnd (917504 + f) 64 = 0 := by
  have h : ∀ n : Nat, n < 64 → Builtin.bitAnd (917568 + (n : Int)) 63 = n ∧ Builtin.bitAnd (917568 + (n : Int)) 64 = 64 ∧ Builtin.bitAnd (917504 + (n : Int)) 63 = n ∧ Builtin.bitAnd (917504 + (n : Int)) 64 = 0 := by decide +kernel
  have := h f.toNat (by omega)
  rwa [show ((f.toNat : Nat) : Int) = f from by omega] at this
theorem and_low (n f : Nat) (h : f < 64) : (n * 64) &&& f = 0 := by
  apply Nat.eq_of_testBit_eq
  intro i
  rw [Nat.testBit_and, Nat.zero_testBit, show n * 64 = n * 2 ^ 6 from rfl, Nat.testBit_mul_two_pow]
  by_cases hi : 6 ≤ i
  · have : f.testBit i = false := Nat.testBit_lt_two_pow (Nat.lt_of_lt_of_le h (by calc 64 = 2 ^ 6 := rfl
      _ ≤ 2 ^ i := Nat.pow_le_pow_right (by decide) hi))
    rw [this, Bool.and_false]
  · simp [hi]
theorem or_low {a f : Int} (ha : 0 ≤ a) (h0 : 0 ≤ f) (h1 : f < 64) : Builtin.bitOr (a * 64) f = a * 64 + f := by
  rw [PyProof.Rows.bitOr_and]
  have : Builtin.bitAnd (a * 64) f = 0 := by
    unfold Builtin.bitAnd
    rw [decide_eq_true (show 0 ≤ a * 64 by omega), decide_eq_true h0]
    show (((a * 64).toNat &&& f.toNat : Nat) : Int) = 0
    rw [show (a * 64).toNat = a.toNat * 64 by omega, and_low _ _ (by omega)]
    rfl
  omega
end Mine

/-! WVar -/
namespace Mine
open PySem PySem.W PySem.Calls PyProof.Rows
set_option maxRecDepth 100000
set_option maxHeartbeats 8000000
/-- what _parse_varint leaves: the number, the iterator further on -/
noncomputable def VarP (it l : Addr) (i : Nat) (n : Int) (r : Value) (h : Heap) : Prop := ∃ o t, h.get? it = some o ∧ ItObj o l i ∧ r = .int n t
theorem var_end {s : Shared} {it l L : Addr} {i : Nat} {n n' : Int} {t : Tok} {h' : Heap} {tk : Nat} {m : Str → Option Value} {o : Obj} (F : Fr (s.heap.hide it) L h' m) (N : News (s.heap.hide it) L h' [(it, o)]) (hI : ItObj o l i) (e : n = n') :
    BackIt s it (VarP it l i n') (.int n t) { s with heap := h', toks := tk } :=
  ⟨_, _, rfl, fun b o hb e => F.keep b o ((Heap.hide_ne _ hb).trans e), o, t, (N _ (List.mem_cons_self ..)).1, hI, by rw [e]⟩
theorem c_var1 {w : World} {mg mb : Str → Option Value} {A : Around} {s : Shared} {hb : Heap} (Gb : Gd w mg mb hb) (hx : Ext hb s.heap) (hA : A.handled = none) (hdp : A.depth < 900) {it l : Addr} {i : Nat} {oI : Obj} {items : Array Value} {f1 : Int} {u1 : Tok} (hn : hb.get? it = none) (ho : s.heap.get? it = some oI) (hI : ItObj oI l i) (hl : s.heap.IsList l items)
    (h1 : items[i]? = some (.int (917504 + f1) u1)) (p1 : 0 ≤ f1) (q1 : f1 < 64) :
   wpAny (model pw w) A (call (.ref 35) [.ref it]) (BackIt s it (VarP it l (i + 1) f1)) (fun _ _ => False) s := by
  refine enterIt Gb hx hn hdp ho hI hl (fun h₁ L G F N hl => ?_)
  obtain ⟨K, TT, GL⟩ := G
  obtain ⟨hh, d, fr, gu, un⟩ := A
  cases hA
  have e1 := and63 p1 q1
  conv in fbod _ => whnf
  w_on
  repeat' ((fail_if_success (with_reducible show wpAny _ _ (call (Value.builtin "next") _) _ _ _)); first | walk1 | (dsimp only; walk1))
  refine nextN F N hI hl h1 ?_
  intro h' oI' F' N' hI'
  clear F N hI
  repeat' ((fail_if_success (with_reducible show wpAny _ _ (exec (Stmt.While _ _ _ _) _) _ _ _)); first | walk1 | (dsimp only; walk1))
  refine while_unr 4 ?_
  unfold WUnr
  repeat' ((fail_if_success (with_reducible show wpAny _ _ (call (Value.builtin "next") _) _ _ _)); first | walk1 | (dsimp only; walk1))
  · exact absurd e1.2.2.2 (by assumption)
  dsimp only
  rename News _ _ _ _ => nwF
  rename Fr _ _ _ _ => fwF
  exact var_end fwF nwF (by assumption) e1.2.2.1
theorem c_var2 {w : World} {mg mb : Str → Option Value} {A : Around} {s : Shared} {hb : Heap} (Gb : Gd w mg mb hb) (hx : Ext hb s.heap) (hA : A.handled = none) (hdp : A.depth < 900) {it l : Addr} {i : Nat} {oI : Obj} {items : Array Value} {f1 f2 : Int} {u1 u2 : Tok} (hn : hb.get? it = none) (ho : s.heap.get? it = some oI) (hI : ItObj oI l i) (hl : s.heap.IsList l items)
    (h1 : items[i]? = some (.int (917568 + f1) u1)) (p1 : 0 ≤ f1) (q1 : f1 < 64) (h2 : items[i + 1]? = some (.int (917504 + f2) u2)) (p2 : 0 ≤ f2) (q2 : f2 < 64) :
   wpAny (model pw w) A (call (.ref 35) [.ref it]) (BackIt s it (VarP it l (i + 2) (f1 * 64 + f2))) (fun _ _ => False) s := by
  refine enterIt Gb hx hn hdp ho hI hl (fun h₁ L G F N hl => ?_)
  obtain ⟨K, TT, GL⟩ := G
  obtain ⟨hh, d, fr, gu, un⟩ := A
  cases hA
  have e1 := and63 p1 q1
  have e2 := and63 p2 q2
  conv in fbod _ => whnf
  w_on
  repeat' ((fail_if_success (with_reducible show wpAny _ _ (call (Value.builtin "next") _) _ _ _)); first | walk1 | (dsimp only; walk1))
  refine nextN F N hI hl h1 ?_
  intro h' oI' F' N' hI'
  clear F N hI
  repeat' ((fail_if_success (with_reducible show wpAny _ _ (exec (Stmt.While _ _ _ _) _) _ _ _)); first | walk1 | (dsimp only; walk1))
  refine while_unr 4 ?_
  unfold WUnr
  repeat' ((fail_if_success (with_reducible show wpAny _ _ (call (Value.builtin "next") _) _ _ _)); first | walk1 | (dsimp only; walk1))
  rotate_left
  · exact absurd (by assumption : Builtin.bitAnd (917568 + f1) 64 = 0) (by rw [e1.2.1]; decide)
  rename News _ _ _ _ => nw1
  rename Fr _ _ _ _ => fw1
  refine nextN (by exact fw1) (by exact nw1) (by assumption) hl h2 ?_
  intro h'1 oI'1 F'1 N'1 hI'1
  clear fw1 nw1 hI'
  repeat' ((fail_if_success (with_reducible show WUnr _ _ _ _ _ _ _ _ _)); first | walk1 | (dsimp only; walk1))
  try dsimp only
  unfold WUnr
  repeat' ((fail_if_success (with_reducible show wpAny _ _ (call (Value.builtin "next") _) _ _ _)); first | walk1 | (dsimp only; walk1))
  · exact absurd e2.2.2.2 (by assumption)
  dsimp only
  rename News _ _ _ _ => nwF
  rename Fr _ _ _ _ => fwF
  exact var_end fwF nwF (by assumption) (by rw [e1.1, e2.2.2.1]; exact or_low p1 p2 q2)
theorem c_var3 {w : World} {mg mb : Str → Option Value} {A : Around} {s : Shared} {hb : Heap} (Gb : Gd w mg mb hb) (hx : Ext hb s.heap) (hA : A.handled = none) (hdp : A.depth < 900) {it l : Addr} {i : Nat} {oI : Obj} {items : Array Value} {f1 f2 f3 : Int} {u1 u2 u3 : Tok} (hn : hb.get? it = none) (ho : s.heap.get? it = some oI) (hI : ItObj oI l i) (hl : s.heap.IsList l items)
    (h1 : items[i]? = some (.int (917568 + f1) u1)) (p1 : 0 ≤ f1) (q1 : f1 < 64) (h2 : items[i + 1]? = some (.int (917568 + f2) u2)) (p2 : 0 ≤ f2) (q2 : f2 < 64) (h3 : items[i + 2]? = some (.int (917504 + f3) u3)) (p3 : 0 ≤ f3) (q3 : f3 < 64) :
   wpAny (model pw w) A (call (.ref 35) [.ref it]) (BackIt s it (VarP it l (i + 3) ((f1 * 64 + f2) * 64 + f3))) (fun _ _ => False) s := by
  refine enterIt Gb hx hn hdp ho hI hl (fun h₁ L G F N hl => ?_)
  obtain ⟨K, TT, GL⟩ := G
  obtain ⟨hh, d, fr, gu, un⟩ := A
  cases hA
  have e1 := and63 p1 q1
  have e2 := and63 p2 q2
  have e3 := and63 p3 q3
  conv in fbod _ => whnf
  w_on
  repeat' ((fail_if_success (with_reducible show wpAny _ _ (call (Value.builtin "next") _) _ _ _)); first | walk1 | (dsimp only; walk1))
  refine nextN F N hI hl h1 ?_
  intro h' oI' F' N' hI'
  clear F N hI
  repeat' ((fail_if_success (with_reducible show wpAny _ _ (exec (Stmt.While _ _ _ _) _) _ _ _)); first | walk1 | (dsimp only; walk1))
  refine while_unr 4 ?_
  unfold WUnr
  repeat' ((fail_if_success (with_reducible show wpAny _ _ (call (Value.builtin "next") _) _ _ _)); first | walk1 | (dsimp only; walk1))
  rotate_left
  · exact absurd (by assumption : Builtin.bitAnd (917568 + f1) 64 = 0) (by rw [e1.2.1]; decide)
  rename News _ _ _ _ => nw1
  rename Fr _ _ _ _ => fw1
  refine nextN (by exact fw1) (by exact nw1) (by assumption) hl h2 ?_
  intro h'1 oI'1 F'1 N'1 hI'1
  clear fw1 nw1 hI'
  repeat' ((fail_if_success (with_reducible show WUnr _ _ _ _ _ _ _ _ _)); first | walk1 | (dsimp only; walk1))
  try dsimp only
  have o12 : Builtin.bitOr (f1 * 2 ^ Int.toNat 6) f2 = f1 * 64 + f2 := or_low p1 p2 q2
  rename Fr _ _ _ _ => fx
  simp only [e1.1, e2.1, o12] at fx
  unfold WUnr
  repeat' ((fail_if_success (with_reducible show wpAny _ _ (call (Value.builtin "next") _) _ _ _)); first | walk1 | (dsimp only; walk1))
  rotate_left
  · exact absurd (by assumption : Builtin.bitAnd (917568 + f2) 64 = 0) (by rw [e2.2.1]; decide)
  rename News _ _ _ _ => nw2
  rename Fr _ _ _ _ => fw2
  refine nextN (by exact fw2) (by exact nw2) (by assumption) hl h3 ?_
  intro h'2 oI'2 F'2 N'2 hI'2
  clear fw2 nw2 hI'1
  repeat' ((fail_if_success (with_reducible show WUnr _ _ _ _ _ _ _ _ _)); first | walk1 | (dsimp only; walk1))
  try dsimp only
  unfold WUnr
  repeat' ((fail_if_success (with_reducible show wpAny _ _ (call (Value.builtin "next") _) _ _ _)); first | walk1 | (dsimp only; walk1))
  · exact absurd e3.2.2.2 (by assumption)
  dsimp only
  rename News _ _ _ _ => nwF
  rename Fr _ _ _ _ => fwF
  exact var_end fwF nwF (by assumption) (by rw [e3.2.2.1]; exact or_low (by omega) p3 q3)
end Mine

/-! WHeaps -/
namespace Mine
open PySem PySem.W PySem.Calls PyProof.Rows
set_option maxRecDepth 100000
set_option maxHeartbeats 8000000
noncomputable def heapStep (hs : List Int) (i : Nat) (n : Int) : List Int := hs.set (i % 4) (hs.getD (i % 4) 0 + n.fmod (10 ^ 12))
noncomputable def heapsAt (ns : List Int) : Nat → List Int
  | 0 => [774144, 5178533, 2395195, 3350594]
  | i + 1 => heapStep (heapsAt ns i) i (ns.getD i 0)
noncomputable def heapsL (ns : List Int) : List Int := heapsAt ns ns.length
theorem ints_set {vs : List Value} {ns : List Int} (h : IntsAre vs ns) (k : Nat) (x : Int) (t : Tok) : IntsAre (vs.set k (.int x t)) (ns.set k x) := by
  induction h generalizing k with
  | nil => exact IntsAre.nil
  | cons n u h ih =>
    cases k with
    | zero => exact IntsAre.cons _ _ h
    | succ k => exact IntsAre.cons _ _ (ih k)
theorem heapsAt_len (ns : List Int) : ∀ i, (heapsAt ns i).length = 4
  | 0 => rfl
  | i + 1 => by show (List.set _ _ _).length = 4; rw [List.length_set]; exact heapsAt_len ns i
theorem getD_some {l : List Int} {k : Nat} (h : k < l.length) : l[k]? = some (l.getD k 0) := by simp [List.getD, h]
theorem news_chg {h₀ h h' : Heap} {L H : Addr} {news : List (Addr × Obj)} (N : News h₀ L h news) (hs : Heap.SameBut H h h') (hne : ∀ p ∈ news, p.1 ≠ H) : News h₀ L h' news := fun p hp => ⟨(hs.2 p.1 (hne p hp)).trans (N p hp).1, (N p hp).2⟩
theorem c_heaps {w : World} {mg mb : Str → Option Value} {A : Around} {s : Shared} (G : Gd w mg mb s.heap) (hA : A.handled = none) (hdp : A.depth < 900) {l : Addr} {vs : List Value} {ns : List Int}
   (hl : s.heap.IsList l vs.toArray) (hi : IntsAre vs ns) (hn : ns.length ≤ 63) :
   wpAny (model pw w) A (call (.ref 60) [.ref l]) (Back s (IntL (heapsL ns))) (fun _ _ => False) s := by
  refine enter (i := 9) (name := Str.ofString "_law_heaps") (o := ob60 w.params) (c := 59) (pm := pmOf (ob60 w.params)) (binds := [(Str.ofString "script", Value.ref l)]) G hdp (by kernel_rfl) (by kernel_rfl) (by kernel_rfl) (by kernel_rfl) (locs (by kernel_rfl)) (by kernel_rfl) (by kernel_rfl) (by kernel_rfl) (by decide +kernel) (fun h₁ F => ?_)
  obtain ⟨K, TT, GL⟩ := G
  obtain ⟨hh, d, fr, gu, un⟩ := A
  cases hA
  have N0 : News s.heap s.heap.objs.size h₁ [] := News.nil
  conv in fbod _ => whnf
  w_on
  repeat' ((fail_if_success (with_reducible show wpAny _ _ (call (Value.type "enumerate") _) _ _ _)); first | walk1 | (dsimp only; walk1))
  rename_i D ws h2 F2 N2 y1 y2 y3 y4
  have J0 := N2 _ (List.mem_cons_self ..)
  have e63 : List.take 63 ns = ns := List.take_of_length_le hn
  rw [e63] at y1
  have hws : ws.toArray.size = ns.length := by rw [List.size_toArray]; exact y1.length
  have hDs : D < h2.objs.size := Heap.lt_size J0.1
  refine enum_pair rfl ⟨_, J0.1, rfl, _, rfl⟩ J0.2.1 F2 N2 (fun i m₁ news₁ => ∃ H oH vs, m₁ (Str.ofString "heaps") = some (.ref H) ∧ news₁ = [(D, W.listOf ws.toArray 0), (H, oH)] ∧ H < D ∧ oH.cls = .type "list" ∧ (∃ n, oH.data = .seq vs.toArray n) ∧ IntsAre vs (heapsAt ns i))
    ⟨_, _, [Value.int _ _, Value.int _ _, Value.int _ _, Value.int _ _], rfl, rfl, y4, rfl, ⟨_, rfl⟩, IntsAre.cons _ _ (IntsAre.cons _ _ (IntsAre.cons _ _ (IntsAre.cons _ _ IntsAre.nil)))⟩ ?_ ?_
  · rintro i v0 v1 m₁ news₁ h tk own hi1 ⟨t, rfl⟩ hv ⟨H, oH, vs', hm, rfl, hHD, hc, ⟨n, hd⟩, hI⟩ ha hown F3 N3
    obtain ⟨t', hv'⟩ := y1.get i (ns.getD i 0) (getD_some (by rw [← hws]; exact hi1))
    have ev : v1 = .int (ns.getD i 0) t' := by
      have : ws[i]? = some v1 := by simpa using hv
      rw [hv'] at this; exact (Option.some.inj this).symm
    subst ev
    have NH := N3 (H, oH) (by simp)
    have hL : h.IsList H vs'.toArray := ⟨_, NH.1, hc, n, hd⟩
    have hlen : vs'.length = 4 := hI.length.trans (heapsAt_len ns i)
    have k0 : 0 ≤ ((i : Nat) : Int).fmod 4 := by rw [Int.fmod_eq_emod_of_nonneg _ (by decide)]; omega
    have k1 : ((i : Nat) : Int).fmod 4 < 4 := by rw [Int.fmod_eq_emod_of_nonneg _ (by decide)]; omega
    have k2 : (((i : Nat) : Int).fmod 4).toNat = i % 4 := by rw [Int.fmod_eq_emod_of_nonneg _ (by decide)]; omega
    obtain ⟨t2, hx2⟩ := hI.get (i % 4) ((heapsAt ns i).getD (i % 4) 0) (getD_some (by rw [heapsAt_len]; omega))
    walk1
    refine wpAny_AugAssign_SubscriptAny ?_
    refine ld F3 (v := .ref H) (by rw [if_neg (by decide), if_neg (by decide)]; exact hm) ?_
    repeat' ((fail_if_success (with_reducible show wpAny _ _ (getItem _ _) _ _ _)); first | walk1 | (dsimp only; walk1))
    refine wpAny_getItem_list hL k0 (by omega) (by rw [k2, List.getElem?_toArray]; exact hx2) ?_
    repeat' ((fail_if_success (with_reducible show wpAny _ _ (setItem _ _ _) _ _ _)); first | walk1 | (dsimp only; walk1))
    refine wpAny_setItem_list hL k0 (by omega) (by rw [List.size_toArray, hlen]; exact k1) (fun h' hL' hs' => ?_)
    rw [k2, List.setIfInBounds_toArray] at hL'
    obtain ⟨o', ho', hc', n', hd'⟩ := hL'
    dsimp only at hs' ho' ⊢
    have hHs : H < h2.objs.size := Nat.lt_trans hHD hDs
    have hH1 : ∀ p ∈ own, p.1 ≠ H := fun p hp => by
      rcases hown p hp with e | e
      · rw [e]; exact Nat.ne_of_gt hHD
      · exact Nat.ne_of_gt (Nat.lt_of_lt_of_le hHs e)
    refine wpAny_execs_nil ?_
    refine LoopStep2.intro (news₂ := [(D, W.listOf ws.toArray 0), (H, o')]) (F3.change hs' NH.2.1 NH.2.2) ?_ rfl ⟨H, o', _, ?_, rfl, hHD, hc', ⟨n', hd'⟩, ?_⟩
    · intro p hp
      rcases List.mem_append.mp hp with q | q
      · exact ⟨(hs'.2 p.1 (hH1 p q)).trans (N3 p (List.mem_append_left _ q)).1, (N3 p (List.mem_append_left _ q)).2⟩
      · rcases List.mem_cons.mp q with rfl | q
        · have z := N3 (D, W.listOf ws.toArray 0) (by simp)
          exact ⟨(hs'.2 D (Nat.ne_of_gt hHD)).trans z.1, z.2⟩
        · rw [List.mem_singleton.mp q]
          exact ⟨ho', NH.2⟩
    · dsimp only; rw [if_neg (by decide), if_neg (by decide)]; exact hm
    · exact ints_set hI _ _ _
  · rintro h' tk m' news' F' N' ha ⟨H, oH, vs', hm, rfl, hHD, hc, ⟨n, hd⟩, hI⟩
    rw [hws] at hI
    dsimp only
    walk1
    walk1
    refine ld F' (v := .ref H) hm ?_
    have NH := N' (H, oH) (by simp)
    exact ⟨_, _, rfl, F'.keep, _, _, rfl, ⟨_, NH.1, hc, n, hd⟩, hI⟩
end Mine

/-! LBase -/
namespace Mine
open PySem PySem.W PySem.Calls PyProof.Rows
set_option maxRecDepth 100000
set_option maxHeartbeats 8000000
noncomputable def fullL (h₀ h : Heap) (off : List Addr) : List (Addr × Obj) := ((List.range h.objs.size).filterMap fun a => (h.get? a).map fun o => (a, o)).filter fun p => decide (p.1 ∉ off) && (h₀.get? p.1).isNone
theorem full_mem {h₀ h : Heap} {off : List Addr} {a : Addr} {o : Obj} : (a, o) ∈ fullL h₀ h off ↔ h.get? a = some o ∧ a ∉ off ∧ h₀.get? a = none := by
  unfold fullL
  rw [List.mem_filter, List.mem_filterMap]
  constructor
  · rintro ⟨⟨b, _, e⟩, q⟩
    cases x : h.get? b with
    | none => rw [x] at e; cases e
    | some o' =>
      rw [x] at e
      cases e
      simp at q
      exact ⟨x, q.1, q.2⟩
  · rintro ⟨e, f, g⟩
    exact ⟨⟨a, List.mem_range.mpr (Heap.lt_size e), by rw [e]; rfl⟩, by simp [f, g]⟩
theorem full_news {h₀ h : Heap} {L : Addr} {off : List Addr} (hL : L ∈ off) : News h₀ L h (fullL h₀ h off) := fun p hp => by
  obtain ⟨a, b, c⟩ := full_mem.mp (show (p.1, p.2) ∈ _ from hp)
  exact ⟨a, fun e => b (e ▸ hL), c⟩
noncomputable def Kp (off : List Addr) (h h' : Heap) : Prop := ∀ b o, b ∉ off → h.get? b = some o → h'.get? b = some o
theorem Kp.trans {off : List Addr} {a b c : Heap} (x : Kp off a b) (y : Kp off b c) : Kp off a c := fun q o n e => y q o n (x q o n e)
theorem Kp.refl {off : List Addr} (a : Heap) : Kp off a a := fun _ _ _ e => e
theorem Kp.mono {off off' : List Addr} {a b : Heap} (x : Kp off a b) (h : ∀ q ∈ off, q ∈ off') : Kp off' a b := fun q o n e => x q o (fun z => n (h q z)) e
theorem Ext.kp {off : List Addr} {a b : Heap} (x : Ext a b) : Kp off a b := fun q o _ e => x q o e
theorem kp_of {h₀ h h' : Heap} {L : Addr} {off : List Addr} {m' : Str → Option Value} {nw : List (Addr × Obj)} (F : Fr h₀ L h' m') (N : News h₀ L h' nw) (F0 : ∀ b o, h₀.get? b = some o → h.get? b = some o) (sub : ∀ p ∈ fullL h₀ h off, p ∈ nw) : Kp off h h' := fun b o hb e => by
  cases x : h₀.get? b with
  | some o' =>
    have := F0 b o' x
    rw [e] at this
    cases this
    exact F.keep b o x
  | none => exact (N _ (sub (b, o) (full_mem.mpr ⟨e, hb, x⟩))).1
/-- a list stands aside from the addresses -/
noncomputable def Lst (off : List Addr) (h : Heap) (a : Addr) (vs : List Value) : Prop := a ∉ off ∧ h.IsList a vs.toArray
theorem Lst.kp {off : List Addr} {h h' : Heap} {a : Addr} {vs : List Value} (x : Lst off h a vs) (k : Kp off h h') : Lst off h' a vs := ⟨x.1, by
  obtain ⟨o, e, r⟩ := x.2
  exact ⟨o, k a o x.1 e, r⟩⟩
theorem ns_ne {h : Heap} {L a : Addr} {m : Str → Option Value} {vs : Array Value} (F : h.Ns L m) (x : h.IsList a vs) : a ≠ L := by
  rintro rfl
  obtain ⟨o, es, ep, e, hd, _⟩ := F
  obtain ⟨o', e', _, n, hd'⟩ := x
  rw [e] at e'
  cases e'
  rw [hd] at hd'
  cases hd'
noncomputable def lawB : List Stmt := fbod (stm 15)
noncomputable abbrev lawE (L fa c : Addr) : Env := envOfC (Str.ofString "law") (fsco (stm 15)) L fa (.ref c)
theorem fn_name {w : World} {mg mb : Str → Option Value} {A : Around} {s : Shared} {h₀ : Heap} {env : Env} {x : Str} {pos : Pos} {v : Value} {Q : Value → Shared → Prop} {E : Value → Shared → Prop} (G : Gd w mg mb h₀) (keep : ∀ b o, h₀.get? b = some o → s.heap.get? b = some o) (e : nsIn (KF w.params) mainGlobals x = some (some v)) (h : Q v s)
    (hk : env.scope.kind = .function := by rfl) (hg : env.globals = mainGlobals := by rfl) (hx : env.kindOf x = some .globalImplicit := by rfl) (hd : (x == ("__debug__" : Str)) = false := by decide) :
    wpAny (model pw w) A (eval (.Name x pos) env) Q E s := by
  obtain ⟨K, T, GL⟩ := G
  exact Name_function_global hk hx (loadGlobal_global (env := env) (by rw [hg]; exact T.g.keeps keep) (mg_of K T.g e) h) hd
theorem callB {w : World} {A : Around} {s : Shared} {f : Value} {args : List Value} {P : Value → Heap → Prop} {Q : Value → Shared → Prop} {E : Value → Shared → Prop} (c : wpAny (model pw w) A (call f args) (Back s P) (fun _ _ => False) s)
    (h : ∀ v h' tk, Ext s.heap h' → P v h' → Q v { s with heap := h', toks := tk }) : wpAny (model pw w) A (call f args) Q E s :=
  wpAny_mono c (fun v s' b => by obtain ⟨h', tk, rfl, x, p⟩ := b; exact h v h' tk x p) (fun _ _ => False.elim)
theorem src_full {h₀ h : Heap} {H : Addr} {its : Array Value} {off : List Addr} {nw : List (Addr × Obj)} (hl : h.IsList H its) (hH : H ∉ off) (keep : ∀ b o, h₀.get? b = some o → h.get? b = some o) (sub : ∀ p ∈ fullL h₀ h off, p ∈ nw) : LCg.SrcAt h₀ H its nw := by
  obtain ⟨o, e, r⟩ := hl
  cases x : h₀.get? H with
  | some o' =>
    have := keep H o' x
    rw [e] at this
    cases this
    exact .inl ⟨o, x, r⟩
  | none => exact .inr ⟨o, sub _ (full_mem.mpr ⟨e, hH, x⟩), r⟩
theorem src_mono {h₀ : Heap} {H : Addr} {its : Array Value} {nw nw' : List (Addr × Obj)} (x : LCg.SrcAt h₀ H its nw) (sub : ∀ p ∈ nw, p ∈ nw') : LCg.SrcAt h₀ H its nw' := by
  rcases x with x | ⟨o, e, r⟩
  · exact .inl x
  · exact .inr ⟨o, sub _ e, r⟩
theorem comp_rest {w : World} {A : Around} {h₀ : Heap} {L : Addr} {m : Str → Option Value} {env : Env} {elt : Expr} {x : Str} {scope : Scope} {cl : List (Str × Addr)} {s : Shared} {S : List (Addr × Obj) → Prop} {P : Nat → Value → Prop} {Fin : List Value → List (Addr × Obj) → Prop} {n : Nat} (J : Nat → List Value → List (Addr × Obj) → Prop)
    (step : ∀ i ys nw v I oI C oC D m₂ h tk (E' : Value → Shared → Prop), J i ys nw → i < n → P i v → LCg.NsObj oC m₂ → m₂ x = some v → Fr h₀ L h m → News h₀ L h ((I, oI) :: (C, oC) :: (D, LCg.lst ys) :: nw) → LCg.Off3 I C D nw → ((@Ne Nat I C) ∧ (@Ne Nat I D) ∧ (@Ne Nat C D)) →
      wpAny (model pw w) A (eval elt (compEnvC scope cl C env)) (LCg.CompEnd h₀ L m { s with heap := h, toks := tk } I oI C oC D (LCg.lst ys) S (fun y nw' => J (i + 1) (ys ++ [y]) nw')) E' { s with heap := h, toks := tk })
    (fin : ∀ ys nw, J n ys nw → Fin ys nw) : ∀ k i ys nw, k + i = n → J i ys nw → LCg.CompRest pw w A h₀ L m env elt x scope cl s S P Fin k i ys nw
  | 0, i, ys, nw, e, j => fin ys nw (by rw [← e, Nat.zero_add]; exact j)
  | k + 1, i, ys, nw, e, j => by
    intro v I oI C oC D m₂ h tk E' p q r F N o ne
    refine wpAny_mono (step i ys nw v I oI C oC D m₂ h tk E' j (by omega) p q r F N o ne) (fun y s' z => ?_) (fun _ _ z => z)
    obtain ⟨h', tk', nw', e1, e2, e3, e4, e5, e6⟩ := z
    exact ⟨h', tk', nw', e1, e2, e3, e4, e5, comp_rest J step fin k (i + 1) _ _ (by omega) e6⟩
theorem ldN {w : World} {A : Around} {s : Shared} {env : Env} {m : Str → Option Value} {x : Str} {pos : Pos} {v : Value} {Q : Value → Shared → Prop} {E : Value → Shared → Prop} (hn : s.heap.Ns env.locals m) (hv : m x = some v) (h : Q v s)
    (hk : env.scope.kind = .function := by rfl) (hx : env.kindOf x = some .local := by rfl) (hd : (x == ("__debug__" : Str)) = false := by decide) :
    wpAny (model pw w) A (eval (.Name x pos) env) Q E s := wpAny_Name (wpAny_loadName_local hk hx hn hv h) hd
theorem fcall {w : World} {mg mb : Str → Option Value} {A : Around} {s : Shared} {h₀ : Heap} {env : Env} {x : Str} {px pos : Pos} {e : Expr} {rest : List Expr} {f : Addr} {o : Obj} {fd : FuncData} {Q : Value → Shared → Prop} {E : Value → Shared → Prop} (G : Gd w mg mb h₀) (keep : ∀ b o, h₀.get? b = some o → s.heap.get? b = some o)
    (hn : nsIn (KF w.params) mainGlobals x = some (some (.ref f))) (ho : (KF w.params).lookup f = some o) (hdat : o.data = .func fd)
    (h : wpAny (model pw w) A (spliced (backTo pos (starEach (e :: rest) env))) (fun vs s₁ => (∀ b o, h₀.get? b = some o → s₁.heap.get? b = some o) ∧ wpAny (model pw w) A (call (.ref f) vs) Q E s₁) E s)
    (hk : env.scope.kind = .function := by rfl) (hg : env.globals = mainGlobals := by rfl) (hx : env.kindOf x = some .globalImplicit := by rfl) (hd : (x == ("__debug__" : Str)) = false := by decide) (he : starEach (e :: rest) env = (false, eval e env) :: starEach rest env := by rfl) :
    wpAny (model pw w) A (eval (.Call (.Name x px) (e :: rest) [] pos) env) Q E s :=
  Call_ (fn_name G keep hn (callWith_def hdat (wpAny_mono h (fun vs s₁ z => ⟨z.1 _ _ (G.K _ _ ho), z.2⟩) (fun _ _ z => z)) he) hk hg hx hd)
end Mine

/-! L2 -/
namespace Mine
open PySem PySem.W PySem.Calls PyProof.Rows
set_option maxRecDepth 100000
set_option maxHeartbeats 8000000
theorem stL {w : World} {A : Around} {s : Shared} {h₀ : Heap} {env : Env} {m : Str → Option Value} {x : Str} {v : Value} {Q : Unit → Shared → Prop} {E : Value → Shared → Prop} (F : Fr h₀ env.locals s.heap m)
    (h : ∀ h', Fr h₀ env.locals h' (fun y => if y = x then some v else m y) → Heap.SameBut env.locals s.heap h' → Q () { s with heap := h', toks := s.toks + 1 })
    (hx : env.kindOf x = some .local := by rfl) (hp : (env.scope.kind == .class || (env.scope.kind == .module && env.locals != env.globals)) = false := by rfl) :
    wpAny (model pw w) A (storeName env x v) Q E s := wpAny_storeName_local hx F.ns (fun h' hn hs => h h' (F.set hn hs) hs) hp
theorem SameBut.kp {L : Addr} {h h' : Heap} {off : List Addr} (x : Heap.SameBut L h h') (hL : L ∈ off) : Kp off h h' := fun b o hb e => (x.2 b (fun q => hb (q ▸ hL))).trans e
theorem push_ext (h : Heap) (o : Obj) : Ext h (h.push o) := fun _ _ e => Heap.get?_push_of_some _ e
theorem law2 {w : World} {mg mb : Str → Option Value} {d : Nat} {fr : Option (List Env)} {gu : Option (List Code)} {un : Nat} {s : Shared} {h₀ : Heap} (G : Gd w mg mb h₀) {L fa c : Addr} {m : Str → Option Value} {Q : Flow → Shared → Prop} {E : Value → Shared → Prop} (F : Fr h₀ L s.heap m)
    (h : ∀ h' tk, Fr h₀ L h' (fun y => if y = Str.ofString "kept" then some (.ref s.heap.objs.size) else m y) → Kp [L] s.heap h' → PlainL h' s.heap.objs.size ([] : List Value).toArray → Q .next { s with heap := h', toks := tk }) :
    wpAny (model pw w) ⟨none, d, fr, gu, un⟩ (exec (nth lawB 2) (lawE L fa c)) Q E s := by
  obtain ⟨K, TT, GL⟩ := G
  have N : News h₀ L s.heap [] := News.nil
  conv in nth _ _ => whnf
  w_on
  repeat' ((fail_if_success (with_reducible show wpAny _ _ (newList _) _ _ _)); first | walk1 | (dsimp only; walk1))
  refine wpAny_newObj_type ?_ (by size_fits)
  refine stL (env := lawE L fa c) (F.push _) (fun h' F' hs => ?_)
  have k := SameBut.kp hs (off := [L]) (List.mem_cons_self ..)
  refine h _ _  F' ((push_ext _ _).kp.trans k) ⟨_, _, k _ _ (fun e => ?_) (Heap.get?_push_size _ rfl), rfl, rfl, rfl⟩
  exact absurd (List.mem_singleton.mp e) (Nat.ne_of_gt F.ns.lt)
theorem law7 {w : World} {mg mb : Str → Option Value} {d : Nat} {fr : Option (List Env)} {gu : Option (List Code)} {un : Nat} {s : Shared} {h₀ : Heap} (G : Gd w mg mb h₀) {L fa c : Addr} {m : Str → Option Value} {Q : Flow → Shared → Prop} {E : Value → Shared → Prop} (F : Fr h₀ L s.heap m)
    (h : ∀ h' tk t1 t2 t3, Fr h₀ L h' (fun y => if y = Str.ofString "hues" then some (.ref s.heap.objs.size) else m y) → Kp [L] s.heap h' → h'.IsList s.heap.objs.size ([.float 0 t1, .float 0 t2, .float 0 t3] : List Value).toArray → Q .next { s with heap := h', toks := tk }) :
    wpAny (model pw w) ⟨none, d, fr, gu, un⟩ (exec (nth lawB 7) (lawE L fa c)) Q E s := by
  obtain ⟨K, TT, GL⟩ := G
  have N : News h₀ L s.heap [] := News.nil
  conv in nth _ _ => whnf
  w_on
  repeat' ((fail_if_success (with_reducible show wpAny _ _ (newList _) _ _ _)); first | walk1 | (dsimp only; walk1))
  refine wpAny_newObj_type ?_ (by size_fits)
  refine stL (env := lawE L fa c) (F.push _) (fun h' F' hs => ?_)
  have k := SameBut.kp hs (off := [L]) (List.mem_cons_self ..)
  refine h _ _  _ _ _ F' ((push_ext _ _).kp.trans k) ⟨_, k _ _ (fun e => ?_) (Heap.get?_push_size _ rfl), rfl, _, rfl⟩
  exact absurd (List.mem_singleton.mp e) (Nat.ne_of_gt F.ns.lt)
theorem law8 {w : World} {mg mb : Str → Option Value} {d : Nat} {fr : Option (List Env)} {gu : Option (List Code)} {un : Nat} {s : Shared} {h₀ : Heap} (G : Gd w mg mb h₀) {L fa c : Addr} {m : Str → Option Value} {Q : Flow → Shared → Prop} {E : Value → Shared → Prop} (F : Fr h₀ L s.heap m)
    (h : ∀ h' tk t1 t2 t3, Fr h₀ L h' (fun y => if y = Str.ofString "spots" then some (.ref s.heap.objs.size) else m y) → Kp [L] s.heap h' → h'.IsList s.heap.objs.size ([.int 0 t1, .int 0 t2, .int 0 t3] : List Value).toArray → Q .next { s with heap := h', toks := tk }) :
    wpAny (model pw w) ⟨none, d, fr, gu, un⟩ (exec (nth lawB 8) (lawE L fa c)) Q E s := by
  obtain ⟨K, TT, GL⟩ := G
  have N : News h₀ L s.heap [] := News.nil
  conv in nth _ _ => whnf
  w_on
  repeat' ((fail_if_success (with_reducible show wpAny _ _ (newList _) _ _ _)); first | walk1 | (dsimp only; walk1))
  refine wpAny_newObj_type ?_ (by size_fits)
  refine stL (env := lawE L fa c) (F.push _) (fun h' F' hs => ?_)
  have k := SameBut.kp hs (off := [L]) (List.mem_cons_self ..)
  refine h _ _  _ _ _ F' ((push_ext _ _).kp.trans k) ⟨_, k _ _ (fun e => ?_) (Heap.get?_push_size _ rfl), rfl, _, rfl⟩
  exact absurd (List.mem_singleton.mp e) (Nat.ne_of_gt F.ns.lt)
end Mine

/-! WHue -/
namespace Mine
open PySem PySem.W PySem.Calls PyProof.Rows
set_option maxRecDepth 100000
set_option maxHeartbeats 4000000
noncomputable def nmB : Nm → Nm → Bool
  | .i a, .i b => a == b
  | .f a, .f b => a == b
  | _, _ => false
theorem nmB_eq : ∀ {a b : Nm}, nmB a b = true → a = b
  | .i a, .i b, h => by rw [eq_of_beq h]
  | .f a, .f b, h => by rw [eq_of_beq h]
  | .i _, .f _, h => absurd h Bool.false_ne_true
  | .f _, .i _, h => absurd h Bool.false_ne_true
noncomputable def nm3B (a b : Nm × Nm × Nm) : Bool := nmB a.1 b.1 && nmB a.2.1 b.2.1 && nmB a.2.2 b.2.2
theorem nm3B_eq {a b : Nm × Nm × Nm} (h : nm3B a b = true) : a = b := by
  unfold nm3B at h
  simp only [Bool.and_eq_true] at h
  obtain ⟨a1, a2, a3⟩ := a
  obtain ⟨b1, b2, b3⟩ := b
  have e1 : a1 = b1 := nmB_eq h.1.1
  have e2 : a2 = b2 := nmB_eq h.1.2
  have e3 : a3 = b3 := nmB_eq h.2
  rw [e1, e2, e3]
noncomputable def hueOf (T : Nm × Nm × Nm) : UInt64 := match T.1 with
  | .f x => x
  | .i _ => 0
noncomputable def rgbOf (l : List Int) : Nm × Nm × Nm := rgbT (l.getD 0 0) (l.getD 1 0) (l.getD 2 0)
/-- the hue that rgb_to_hsv tells of a part of a wheel -/
noncomputable def hueF (wheel part : Int) : UInt64 := hueOf (rgbOf (paintL part wheel 1 1))
noncomputable def hueOk (wheel part : Nat) : Bool :=
  [1, 2].all fun share => [1, 2, 3].all fun size => nm3B (rgbOf (paintL part wheel share size)) (.f (hueF wheel part), .f (dv share 2), .i (2 * wheel * size))
noncomputable def markOk (wheel part : Nat) : Bool :=
  decide (truncF (Float64.add (Float64.mul (hueF wheel part) (Float64.ofInt wheel)) 4602678819172646912) = part)
/-- the hue lies in [0, 1), and close to part / wheel -/
noncomputable def nearOk (wheel part : Nat) : Bool :=
  (Float64.cmpInt (hueF wheel part) 0 == some .gt || Float64.cmpInt (hueF wheel part) 0 == some .eq) && Float64.cmpInt (hueF wheel part) 1 == some .lt &&
  decide (0 ≤ Float64.val (hueF wheel part)) && decide (((wheel : Int) * Float64.val (hueF wheel part) - part * 2 ^ 1074).natAbs ≤ 2 ^ 1030)
/-- the finite checks, eight parts at a time -/
noncomputable def chk (wheel a : Nat) : Bool := (List.range 8).all fun p => if a + p < wheel then hueOk wheel (a + p) && markOk wheel (a + p) && nearOk wheel (a + p) else true
theorem chk63_0 : chk 63 0 = true := by decide +kernel
theorem chk63_8 : chk 63 8 = true := by decide +kernel
theorem chk63_16 : chk 63 16 = true := by decide +kernel
theorem chk63_24 : chk 63 24 = true := by decide +kernel
theorem chk63_32 : chk 63 32 = true := by decide +kernel
theorem chk63_40 : chk 63 40 = true := by decide +kernel
theorem chk63_48 : chk 63 48 = true := by decide +kernel
theorem chk63_56 : chk 63 56 = true := by decide +kernel
theorem chk64_0 : chk 64 0 = true := by decide +kernel
theorem chk64_8 : chk 64 8 = true := by decide +kernel
theorem chk64_16 : chk 64 16 = true := by decide +kernel
theorem chk64_24 : chk 64 24 = true := by decide +kernel
theorem chk64_32 : chk 64 32 = true := by decide +kernel
theorem chk64_40 : chk 64 40 = true := by decide +kernel
theorem chk64_48 : chk 64 48 = true := by decide +kernel
theorem chk64_56 : chk 64 56 = true := by decide +kernel
theorem chk65_0 : chk 65 0 = true := by decide +kernel
theorem chk65_8 : chk 65 8 = true := by decide +kernel
theorem chk65_16 : chk 65 16 = true := by decide +kernel
theorem chk65_24 : chk 65 24 = true := by decide +kernel
theorem chk65_32 : chk 65 32 = true := by decide +kernel
theorem chk65_40 : chk 65 40 = true := by decide +kernel
theorem chk65_48 : chk 65 48 = true := by decide +kernel
theorem chk65_56 : chk 65 56 = true := by decide +kernel
theorem chk65_64 : chk 65 64 = true := by decide +kernel
end Mine

/-! WFlt -/
namespace Mine
open PySem PySem.W PySem.Calls PyProof.Rows
set_option maxRecDepth 100000
set_option maxHeartbeats 4000000
open PySem.Float64
theorem V_ge : ∀ t : Nat, t ≤ V t
  | 0 => Nat.zero_le _
  | t + 1 => Nat.lt_of_le_of_lt (V_ge t) (V_succ t)
theorem V_floor {W D : Nat} : ∀ n, W < D * V n → ∃ t, D * V t ≤ W ∧ W < D * V (t + 1)
  | 0, h => by rw [V_zero] at h; omega
  | n + 1, h => by
    by_cases e : W < D * V n
    · exact V_floor n e
    · exact ⟨n, Nat.le_of_not_lt e, h⟩
theorem V_gap {t : Nat} (h : V t ≤ 2 ^ 1096) : V (t + 1) ≤ V t + 2 ^ 1044 := by
  obtain ⟨k, q, e, hq, hk, hV⟩ := V_form t
  have e1 : V (t + 1) = (q + 1) * 2 ^ k := by
    rw [e, Nat.add_assoc]
    exact V_at (by omega) (by omega)
  have hk2 : k ≤ 1044 := by
    rcases hk with hk | hk
    · apply Nat.le_of_not_lt
      intro hlt
      have a : 2 ^ 52 * 2 ^ k ≤ q * 2 ^ k := Nat.mul_le_mul_right _ hk
      have b : 2 ^ 1097 ≤ 2 ^ 52 * 2 ^ k := by
        rw [← Nat.pow_add]; exact Nat.pow_le_pow_right (by decide) (by omega)
      have c : (2 : Nat) ^ 1096 < 2 ^ 1097 := Nat.pow_lt_pow_right (by decide) (by decide)
      rw [hV] at h
      exact absurd (Nat.le_trans b (Nat.le_trans a h)) (Nat.not_le.mpr c)
    · omega
  rw [e1, hV, Nat.add_mul, Nat.one_mul]
  exact Nat.add_le_add_left (Nat.pow_le_pow_right (by decide) hk2) _
theorem near_t {W D : Nat} (hD : 0 < D) (h : W ≤ D * 2 ^ 1096) : ∃ t, D * V t ≤ W ∧ W ≤ D * V t + D * 2 ^ 1044 := by
  obtain ⟨t, h1, h2⟩ := V_floor (W := W) (D := D) (W + 1) (by
    have := V_ge (W + 1)
    calc W < W + 1 := Nat.lt_succ_self _
      _ ≤ D * (W + 1) := Nat.le_mul_of_pos_left _ hD
      _ ≤ D * V (W + 1) := Nat.mul_le_mul_left _ this)
  have g := V_gap (t := t) (Nat.le_of_mul_le_mul_left (Nat.le_trans h1 h) hD)
  refine ⟨t, h1, Nat.le_trans (Nat.le_of_lt h2) ?_⟩
  rw [← Nat.mul_add]
  exact Nat.mul_le_mul_left _ g
end Mine

/-! WFlt2 -/
namespace Mine
open PySem PySem.W PySem.Calls PyProof.Rows
set_option maxRecDepth 100000
set_option maxHeartbeats 4000000
open PySem.Float64
/-- a rightly rounded result of size at most 2^22 is finite, and within 2^-30 -/
theorem right_near {r : UInt64} {neg : Bool} {W D : Nat} (R : Right r neg W D) (hD : 0 < D) (h : W ≤ D * 2 ^ 1096) :
    ∃ m e X, decode r = .fin neg m e ∧ val r = sgn neg X ∧ W ≤ D * X + D * 2 ^ 1044 ∧ D * X ≤ W + D * 2 ^ 1044 := by
  obtain ⟨t, rfl, hle, hov, hn⟩ := R
  have hlt : t < infMag := by
    refine Nat.lt_of_le_of_ne hle (fun e => ?_)
    have a := hov.mp e
    have b : 2 * W ≤ D * 2 ^ 1097 := by
      rw [show (2 : Nat) ^ 1097 = 2 ^ 1096 * 2 from Nat.pow_succ .., ← Nat.mul_assoc]; omega
    have c : (2 : Nat) ^ 1097 < (2 ^ 54 - 1) * 2 ^ 2045 := by decide +kernel
    exact absurd (Nat.le_of_mul_le_mul_left (Nat.le_trans a b) hD) (Nat.not_le.mpr c)
  obtain ⟨t', h1, h2⟩ := near_t hD h
  have d := (hn hlt t').1
  obtain ⟨m, e, hd, _⟩ := decode_pack neg hlt
  refine ⟨m, e, V t, hd, val_pack neg hlt, ?_, ?_⟩
  · unfold dist at d
    generalize D * 2 ^ 1044 = z at *
    omega
  · unfold dist at d
    generalize D * 2 ^ 1044 = z at *
    omega
end Mine

/-! WFlt3 -/
namespace Mine
open PySem PySem.W PySem.Calls PyProof.Rows
set_option maxRecDepth 100000
set_option maxHeartbeats 4000000
open PySem.Float64
theorem sgn_near {neg : Bool} {W D X z : Nat} (h1 : W ≤ D * X + z) (h2 : D * X ≤ W + z) : (sgn neg X * (D : Int) - sgn neg W).natAbs ≤ z := by
  have e : ((D * X : Nat) : Int) = (X : Int) * D := by rw [Int.natCast_mul, Int.mul_comm]
  cases neg
  · show ((X : Int) * D - W).natAbs ≤ z
    rw [← e]; omega
  · show (-(X : Int) * D - -(W : Int)).natAbs ≤ z
    rw [Int.neg_mul, ← e]; omega
theorem sgn_val {x : UInt64} {a : Bool} {m : Nat} {e : Int} (h : decode x = .fin a m e) : val x = sgn a (val x).natAbs := by
  rw [val_eq h, sgn_natAbs]
theorem sgn_prod (a b : Bool) (X Y : Nat) : sgn a X * sgn b Y = sgn (a != b) (X * Y) := by
  cases a <;> cases b <;> simp [sgn, Int.neg_mul, Int.mul_neg]
theorem mul_near {x y : UInt64} {a b : Bool} {m k : Nat} {e f : Int} (hx : decode x = .fin a m e) (hy : decode y = .fin b k f) (h : (val x).natAbs * (val y).natAbs ≤ 2 ^ 1074 * 2 ^ 1096) :
    ∃ m' e', decode (mul x y) = .fin (a != b) m' e' ∧ (val (mul x y) * ((2 ^ 1074 : Nat) : Int) - val x * val y).natAbs ≤ 2 ^ 1074 * 2 ^ 1044 := by
  obtain ⟨m', e', X, hd, hv, h1, h2⟩ := right_near (mul_right hx hy) (Nat.two_pow_pos _) h
  refine ⟨m', e', hd, ?_⟩
  have ep : val x * val y = sgn (a != b) ((val x).natAbs * (val y).natAbs) := by
    rw [← sgn_prod, ← sgn_val hx, ← sgn_val hy]
  rw [hv, ep]
  exact sgn_near h1 h2
end Mine

/-! WFlt4 -/
namespace Mine
open PySem PySem.W PySem.Calls PyProof.Rows
set_option maxRecDepth 100000
set_option maxHeartbeats 4000000
open PySem.Float64
theorem zero_val (a : Bool) : ∃ s m e, decode (zero a) = .fin s m e ∧ val (zero a) = 0 := by
  obtain ⟨m, e, hd, _⟩ := decode_pack a (t := 0) (by decide +kernel)
  refine ⟨a, m, e, hd, ?_⟩
  show val (pack a 0) = 0
  rw [val_pack a (by decide +kernel), V_zero]
  cases a <;> rfl
theorem sgn_self (i : Int) : sgn (decide (i < 0)) i.natAbs = i := by
  by_cases h : i < 0
  · rw [decide_eq_true h]; show -(i.natAbs : Int) = i; omega
  · rw [decide_eq_false h]; show (i.natAbs : Int) = i; omega
theorem add_near {x y : UInt64} {a b : Bool} {m k : Nat} {e f : Int} (hx : decode x = .fin a m e) (hy : decode y = .fin b k f) (h : (val x + val y).natAbs ≤ 2 ^ 1096) :
    ∃ s' m' e', decode (add x y) = .fin s' m' e' ∧ (val (add x y) - (val x + val y)).natAbs ≤ 2 ^ 1044 := by
  obtain ⟨z, nz⟩ := add_right hx hy
  by_cases q : val x + val y = 0
  · obtain ⟨s', m', e', hd, hv⟩ := zero_val (a && b)
    rw [z q, q, hv]
    exact ⟨s', m', e', hd, Nat.zero_le _⟩
  · obtain ⟨m', e', X, hd, hv, h1, h2⟩ := right_near (nz q) (by decide) (by rw [Nat.one_mul]; exact h)
    refine ⟨_, m', e', hd, ?_⟩
    have := sgn_near (neg := decide (val x + val y < 0)) h1 h2
    rw [sgn_self, ← hv] at this
    simpa using this
end Mine

/-! WFlt5 -/
namespace Mine
open PySem PySem.W PySem.Calls PyProof.Rows
set_option maxRecDepth 100000
set_option maxHeartbeats 4000000
open PySem.Float64
theorem sub_near {x y : UInt64} {a b : Bool} {m k : Nat} {e f : Int} (hx : decode x = .fin a m e) (hy : decode y = .fin b k f) (h : (val x - val y).natAbs ≤ 2 ^ 1096) :
    ∃ s' m' e', decode (Float64.sub x y) = .fin s' m' e' ∧ (val (Float64.sub x y) - (val x - val y)).natAbs ≤ 2 ^ 1044 := by
  obtain ⟨z, nz⟩ := sub_right hx hy
  by_cases q : val x - val y = 0
  · obtain ⟨s', m', e', hd, hv⟩ := zero_val (a && !b)
    rw [z q, q, hv]
    exact ⟨s', m', e', hd, Nat.zero_le _⟩
  · obtain ⟨m', e', X, hd, hv, h1, h2⟩ := right_near (nz q) (by decide) (by rw [Nat.one_mul]; exact h)
    refine ⟨_, m', e', hd, ?_⟩
    have := sgn_near (neg := decide (val x - val y < 0)) h1 h2
    rw [sgn_self, ← hv] at this
    simpa using this
end Mine

/-! WNear -/
namespace Mine
open PySem PySem.W PySem.Calls PyProof.Rows
set_option maxRecDepth 100000
open PySem.Float64
noncomputable def SS : Nat := 2 ^ 1074
noncomputable def EE : Nat := 2 ^ 1044
theorem SS_EE : SS = 1073741824 * EE := by
  unfold SS EE
  rw [show (1074 : Nat) = 30 + 1044 from rfl, Nat.pow_add]
theorem EE_pos : 0 < EE := Nat.two_pow_pos _
theorem S22 : 4194304 * SS = 2 ^ 1096 := by
  unfold SS
  rw [show (1096 : Nat) = 22 + 1074 from rfl, Nat.pow_add]
/-- a finite float within c * 2^-30 (over D) of k / D -/
noncomputable def Near (D : Nat) (k : Int) (c : Nat) (x : UInt64) : Prop :=
  (∃ s m e, decode x = .fin s m e) ∧ ((D : Int) * val x - k * (SS : Int)).natAbs ≤ c * EE
theorem natAbs_mul_le {a b : Int} {p q : Nat} (h1 : a.natAbs ≤ p) (h2 : b.natAbs ≤ q) : (a * b).natAbs ≤ p * q := by
  rw [Int.natAbs_mul]; exact Nat.mul_le_mul h1 h2
theorem Near.mono {D c c' : Nat} {k : Int} {x : UInt64} (h : Near D k c x) (hc : c ≤ c') : Near D k c' x := ⟨h.1, Nat.le_trans h.2 (Nat.mul_le_mul_right _ hc)⟩
theorem Near.scale {D c : Nat} {k : Int} {x : UInt64} (h : Near D k c x) (n : Nat) : Near (n * D) (n * k) (n * c) x := ⟨h.1, by
  have e : ((n * D : Nat) : Int) * val x - (n * k) * (SS : Int) = (n : Int) * ((D : Int) * val x - k * (SS : Int)) := by
    rw [Int.natCast_mul]; grind
  rw [e, Nat.mul_assoc]
  exact natAbs_mul_le (by simp) h.2⟩
theorem Near.cancel {D c : Nat} {k : Int} {x : UInt64} {n : Nat} (hn : 0 < n) (h : Near (n * D) (n * k) (n * c) x) : Near D k c x := ⟨h.1, by
  have e : ((n * D : Nat) : Int) * val x - (n * k) * (SS : Int) = (n : Int) * ((D : Int) * val x - k * (SS : Int)) := by
    rw [Int.natCast_mul]; grind
  have := h.2
  rw [e, Nat.mul_assoc, Int.natAbs_mul, Int.natAbs_natCast] at this
  exact Nat.le_of_mul_le_mul_left this hn⟩
/-- the size of such a float -/
theorem Near.size {D c A : Nat} {k : Int} {x : UInt64} (h : Near D k c x) (hD : 0 < D) (hA : k.natAbs * 1073741824 + c ≤ A * D * 1073741824) : (val x).natAbs ≤ A * SS := by
  have h2 := h.2
  have e : (D : Int) * val x = ((D : Int) * val x - k * (SS : Int)) + k * (SS : Int) := by omega
  have a : D * (val x).natAbs ≤ c * EE + k.natAbs * SS := by
    have : ((D : Int) * val x).natAbs = D * (val x).natAbs := by rw [Int.natAbs_mul, Int.natAbs_natCast]
    rw [← this, e]
    refine Nat.le_trans (Int.natAbs_add_le _ _) (Nat.add_le_add h2 ?_)
    rw [Int.natAbs_mul, Int.natAbs_natCast]
    exact Nat.le_refl _
  have b : c * EE + k.natAbs * SS ≤ D * (A * SS) := by
    rw [SS_EE]
    have := Nat.mul_le_mul_right EE hA
    calc c * EE + k.natAbs * (1073741824 * EE) = (k.natAbs * 1073741824 + c) * EE := by grind
      _ ≤ A * D * 1073741824 * EE := this
      _ = D * (A * (1073741824 * EE)) := by grind
  exact Nat.le_of_mul_le_mul_left (Nat.le_trans a b) hD
theorem Near.add {D c c' A A' : Nat} {k k' : Int} {x y : UInt64} (h : Near D k c x) (h' : Near D k' c' y) (hD : 0 < D) (a1 : k.natAbs * 1073741824 + c ≤ A * D * 1073741824) (a2 : k'.natAbs * 1073741824 + c' ≤ A' * D * 1073741824) (hA : A + A' ≤ 4194304) :
    Near D (k + k') (c + c' + D) (Float64.add x y) := by
  obtain ⟨s, m, e, hx⟩ := h.1
  obtain ⟨s', m', e', hy⟩ := h'.1
  have z1 := h.size hD a1
  have z2 := h'.size hD a2
  have z3 := Nat.mul_le_mul_right SS hA
  rw [S22, Nat.add_mul] at z3
  obtain ⟨s2, m2, e2, hd, he⟩ := add_near hx hy (Nat.le_trans (Int.natAbs_add_le _ _) (Nat.le_trans (Nat.add_le_add z1 z2) z3))
  refine ⟨⟨s2, m2, e2, hd⟩, ?_⟩
  have q : (D : Int) * val (Float64.add x y) - (k + k') * (SS : Int) = (D : Int) * (val (Float64.add x y) - (val x + val y)) + (((D : Int) * val x - k * (SS : Int)) + ((D : Int) * val y - k' * (SS : Int))) := by grind
  rw [q]
  have w1 : ((D : Int) * (val (Float64.add x y) - (val x + val y))).natAbs ≤ D * EE := natAbs_mul_le (by simp) he
  have w2 := Int.natAbs_add_le ((D : Int) * (val (Float64.add x y) - (val x + val y))) (((D : Int) * val x - k * (SS : Int)) + ((D : Int) * val y - k' * (SS : Int)))
  have w3 := Int.natAbs_add_le ((D : Int) * val x - k * (SS : Int)) ((D : Int) * val y - k' * (SS : Int))
  have w4 := h.2
  have w5 := h'.2
  rw [Nat.add_mul, Nat.add_mul]
  omega
theorem Near.sub {D c c' A A' : Nat} {k k' : Int} {x y : UInt64} (h : Near D k c x) (h' : Near D k' c' y) (hD : 0 < D) (a1 : k.natAbs * 1073741824 + c ≤ A * D * 1073741824) (a2 : k'.natAbs * 1073741824 + c' ≤ A' * D * 1073741824) (hA : A + A' ≤ 4194304) :
    Near D (k - k') (c + c' + D) (Float64.sub x y) := by
  obtain ⟨s, m, e, hx⟩ := h.1
  obtain ⟨s', m', e', hy⟩ := h'.1
  have z1 := h.size hD a1
  have z2 := h'.size hD a2
  have z3 := Nat.mul_le_mul_right SS hA
  rw [S22, Nat.add_mul] at z3
  obtain ⟨s2, m2, e2, hd, he⟩ := sub_near hx hy (Nat.le_trans (by rw [Int.sub_eq_add_neg]; exact Nat.le_trans (Int.natAbs_add_le _ _) (by rw [Int.natAbs_neg]; exact Nat.le_refl _)) (Nat.le_trans (Nat.add_le_add z1 z2) z3))
  refine ⟨⟨s2, m2, e2, hd⟩, ?_⟩
  have q : (D : Int) * val (Float64.sub x y) - (k - k') * (SS : Int) = (D : Int) * (val (Float64.sub x y) - (val x - val y)) + (((D : Int) * val x - k * (SS : Int)) + -((D : Int) * val y - k' * (SS : Int))) := by grind
  rw [q]
  have w1 : ((D : Int) * (val (Float64.sub x y) - (val x - val y))).natAbs ≤ D * EE := natAbs_mul_le (by simp) he
  have w2 := Int.natAbs_add_le ((D : Int) * (val (Float64.sub x y) - (val x - val y))) (((D : Int) * val x - k * (SS : Int)) + -((D : Int) * val y - k' * (SS : Int)))
  have w3 := Int.natAbs_add_le ((D : Int) * val x - k * (SS : Int)) (-((D : Int) * val y - k' * (SS : Int)))
  rw [Int.natAbs_neg] at w3
  have w4 := h.2
  have w5 := h'.2
  rw [Nat.add_mul, Nat.add_mul]
  omega
theorem Near.mul {D D' c c' A A' : Nat} {k k' : Int} {x y : UInt64} (h : Near D k c x) (h' : Near D' k' c' y) (hD : 0 < D) (hD' : 0 < D') (a1 : k.natAbs * 1073741824 + c ≤ A * D * 1073741824) (a2 : k'.natAbs * 1073741824 + c' ≤ A' * D' * 1073741824) (hA : A * A' ≤ 4194304) :
    Near (D * D') (k * k') (D * D' + k.natAbs * c' + k'.natAbs * c + c * c') (Float64.mul x y) := by
  obtain ⟨s, m, e, hx⟩ := h.1
  obtain ⟨s', m', e', hy⟩ := h'.1
  have z1 := h.size hD a1
  have z2 := h'.size hD' a2
  have z3 : (val x).natAbs * (val y).natAbs ≤ 2 ^ 1074 * 2 ^ 1096 := by
    refine Nat.le_trans (Nat.mul_le_mul z1 z2) ?_
    have := Nat.mul_le_mul_right (SS * SS) hA
    calc A * SS * (A' * SS) = A * A' * (SS * SS) := by grind
      _ ≤ 4194304 * (SS * SS) := this
      _ = SS * (4194304 * SS) := by grind
      _ = 2 ^ 1074 * 2 ^ 1096 := by rw [S22]; rfl
  obtain ⟨m2, e2, hd, he⟩ := mul_near hx hy z3
  refine ⟨⟨_, m2, e2, hd⟩, ?_⟩
  have he' : (val (Float64.mul x y) * (SS : Int) - val x * val y).natAbs ≤ SS * EE := he
  have S0 : 0 < SS := Nat.two_pow_pos _
  generalize val (Float64.mul x y) = P at *
  obtain ⟨α, hα⟩ : ∃ α, α = (D : Int) * val x - k * (SS : Int) := ⟨_, rfl⟩
  obtain ⟨β, hβ⟩ : ∃ β, β = (D' : Int) * val y - k' * (SS : Int) := ⟨_, rfl⟩
  have w4 := h.2
  have w5 := h'.2
  rw [← hα] at w4
  rw [← hβ] at w5
  have q : (((D * D' : Nat) : Int) * P - (k * k') * (SS : Int)) * (SS : Int) = ((D * D' : Nat) : Int) * (P * (SS : Int) - val x * val y) + (k * β * (SS : Int) + (k' * α * (SS : Int) + α * β)) := by
    rw [Int.natCast_mul, hα, hβ]; grind
  have le1 : (((D * D' : Nat) : Int) * (P * (SS : Int) - val x * val y)).natAbs ≤ D * D' * (SS * EE) := natAbs_mul_le (Nat.le_of_eq (Int.natAbs_natCast _)) he'
  have le2 : (k * β * (SS : Int)).natAbs ≤ k.natAbs * (c' * EE) * SS := natAbs_mul_le (natAbs_mul_le (Nat.le_refl _) w5) (by simp)
  have le3 : (k' * α * (SS : Int)).natAbs ≤ k'.natAbs * (c * EE) * SS := natAbs_mul_le (natAbs_mul_le (Nat.le_refl _) w4) (by simp)
  have le4 : (α * β).natAbs ≤ c * EE * (c' * EE) := natAbs_mul_le w4 w5
  have le5 : c * EE * (c' * EE) ≤ c * c' * EE * SS := by
    have : EE ≤ SS := by rw [SS_EE]; omega
    calc c * EE * (c' * EE) = c * c' * EE * EE := by grind
      _ ≤ c * c' * EE * SS := Nat.mul_le_mul_left _ this
  have t := Int.natAbs_add_le (((D * D' : Nat) : Int) * (P * (SS : Int) - val x * val y)) (k * β * (SS : Int) + (k' * α * (SS : Int) + α * β))
  have t2 := Int.natAbs_add_le (k * β * (SS : Int)) (k' * α * (SS : Int) + α * β)
  have t3 := Int.natAbs_add_le (k' * α * (SS : Int)) (α * β)
  rw [← q, Int.natAbs_mul, Int.natAbs_natCast] at t
  have fin : (((D * D' : Nat) : Int) * P - (k * k') * (SS : Int)).natAbs * SS ≤ (D * D' + k.natAbs * c' + k'.natAbs * c + c * c') * EE * SS := by
    have e : (D * D' + k.natAbs * c' + k'.natAbs * c + c * c') * EE * SS = D * D' * (SS * EE) + (k.natAbs * (c' * EE) * SS + (k'.natAbs * (c * EE) * SS + c * c' * EE * SS)) := by grind
    rw [e]
    exact Nat.le_trans t (Nat.add_le_add le1 (Nat.le_trans t2 (Nat.add_le_add le2 (Nat.le_trans t3 (Nat.add_le_add le3 (Nat.le_trans le4 le5))))))
  exact Nat.le_of_mul_le_mul_right fin S0
end Mine

/-! WNear2 -/
namespace Mine
open PySem PySem.W PySem.Calls PyProof.Rows
set_option maxRecDepth 100000
open PySem.Float64
theorem floor_val {m : Nat} {e : Int} (he : -1074 ≤ e) : ∃ F r : Nat, floorOf false m e = (F : Int) ∧ m * 2 ^ (e + 1074).toNat = F * SS + r ∧ r < SS := by
  have S0 : 0 < SS := Nat.two_pow_pos _
  unfold floorOf
  by_cases h : e ≥ 0
  · rw [if_pos h]
    refine ⟨m * 2 ^ e.toNat, 0, ?_, ?_, S0⟩
    · show (m : Int) * 2 ^ e.toNat = _
      rw [Int.natCast_mul, Int.natCast_pow]; rfl
    · rw [show (e + 1074).toNat = e.toNat + 1074 by omega, Nat.pow_add, Nat.add_zero, Nat.mul_assoc]; rfl
  · rw [if_neg h]
    refine ⟨m / 2 ^ (-e).toNat, (m % 2 ^ (-e).toNat) * 2 ^ (e + 1074).toNat, ?_, ?_, ?_⟩
    · show Int.fdiv (m : Int) (2 ^ (-e).toNat) = _
      rw [show (2 : Int) ^ (-e).toNat = ((2 ^ (-e).toNat : Nat) : Int) by rw [Int.natCast_pow]; rfl, Int.fdiv_eq_ediv_of_nonneg _ (Int.natCast_nonneg _)]
      rfl
    · have e1 : SS = 2 ^ (-e).toNat * 2 ^ (e + 1074).toNat := by
        unfold SS
        rw [← Nat.pow_add, show (-e).toNat + (e + 1074).toNat = 1074 by omega]
      rw [e1, ← Nat.mul_assoc, ← Nat.add_mul]
      congr 1
      rw [Nat.mul_comm]
      exact (Nat.div_add_mod _ _).symm
    · have e1 : SS = 2 ^ (-e).toNat * 2 ^ (e + 1074).toNat := by
        unfold SS
        rw [← Nat.pow_add, show (-e).toNat + (e + 1074).toNat = 1074 by omega]
      rw [e1]
      exact Nat.mul_lt_mul_of_pos_right (Nat.mod_lt _ (Nat.two_pow_pos _)) (Nat.two_pow_pos _)
theorem sgn_f (n : Nat) : sgn false n = (n : Int) := rfl
theorem sgn_t (n : Nat) : sgn true n = -(n : Int) := rfl
theorem trunc_val {x : UInt64} {sg : Bool} {m : Nat} {e : Int} (h : decode x = .fin sg m e) : ∃ r : Int, val x = truncOf sg m e * (SS : Int) + r ∧ r.natAbs < SS ∧ (0 ≤ val x → 0 ≤ r) ∧ (val x ≤ 0 → r ≤ 0) := by
  obtain ⟨F, r, h1, h2, h3⟩ := floor_val (m := m) (decode_ge h)
  have hv := val_eq h
  rw [h2] at hv
  have hp : ((F * SS + r : Nat) : Int) = (F : Int) * (SS : Int) + r := by rw [Int.natCast_add, Int.natCast_mul]
  have hF : (0 : Int) ≤ (F : Int) * (SS : Int) := by rw [← Int.natCast_mul]; exact Int.natCast_nonneg _
  cases sg
  · have ht : truncOf false m e = (F : Int) := by unfold truncOf; rw [if_neg (by decide)]; exact h1
    have hv' : val x = (F : Int) * (SS : Int) + r := by rw [hv, ← hp, sgn_f]
    refine ⟨r, by rw [ht, hv'], by simpa using h3, ?_, ?_⟩ <;> omega
  · have ht : truncOf true m e = -(F : Int) := by
      unfold truncOf ceilOf; rw [if_pos rfl]
      show -floorOf false m e = _
      rw [h1]
    have hv' : val x = -((F : Int) * (SS : Int) + r) := by rw [hv, ← hp, sgn_t]
    refine ⟨-r, by rw [ht, hv', Int.neg_mul]; omega, by simpa using h3, ?_, ?_⟩ <;> omega
theorem int_near {i : Int} (h : i.natAbs ≤ 4194304) : Near 1 i 1 (ofInt i) := by
  obtain ⟨m, e, X, hd, hv, h1, h2⟩ := right_near (ofInt_right i) (by decide) (by
    have := Nat.mul_le_mul_right SS h
    rw [S22] at this
    rw [Nat.one_mul]
    exact this)
  refine ⟨⟨_, m, e, hd⟩, ?_⟩
  have := sgn_near (neg := decide (i < 0)) h1 h2
  rw [sgn_mul, sgn_self, ← hv] at this
  rw [show ((1 : Nat) : Int) * val (ofInt i) - i * (SS : Int) = val (ofInt i) * ((1 : Nat) : Int) - i * ((2 ^ 1074 : Nat) : Int) by unfold SS; rw [Int.mul_comm]]
  exact this
theorem frac_near {n : Int} {d : Nat} (h0 : 0 ≤ n) (hd : 0 < d) (h : n.natAbs ≤ d * 4194304) : Near d n d (dv n d) := by
  have e : dv n d = ofFrac false n.natAbs d := by
    unfold dv
    rw [decide_eq_false (show ¬ n < 0 by omega), decide_eq_false (show ¬ (d : Int) < 0 by omega)]
    rfl
  rw [e]
  obtain ⟨m, e, X, hd', hv, h1, h2⟩ := right_near (ofFrac_right (neg := false) (n := n.natAbs) (d := d) (W := n.natAbs * 2 ^ 1074) (D := d) hd rfl hd) hd (by
    have := Nat.mul_le_mul_right SS h
    rw [Nat.mul_assoc, S22] at this
    exact this)
  refine ⟨⟨_, m, e, hd'⟩, ?_⟩
  have := sgn_near (neg := false) h1 h2
  rw [sgn_mul, ← hv] at this
  rw [show (d : Int) * val (ofFrac false n.natAbs d) - n * (SS : Int) = val (ofFrac false n.natAbs d) * (d : Int) - sgn false n.natAbs * ((2 ^ 1074 : Nat) : Int) by
    unfold SS; rw [Int.mul_comm, show sgn false n.natAbs = n from by show (n.natAbs : Int) = n; omega]]
  exact this
theorem near_one : Near 1 1 0 4607182418800017408 := ⟨⟨false, 4503599627370496, -52, by kernel_rfl⟩, by decide +kernel⟩
theorem near_six : Near 1 6 0 4618441417868443648 := ⟨⟨false, 6755399441055744, -50, by kernel_rfl⟩, by decide +kernel⟩
theorem near_half : Near 2 1 0 4602678819172646912 := ⟨⟨false, 4503599627370496, -53, by kernel_rfl⟩, by decide +kernel⟩
/-- int(x + 0.5) is N -/
noncomputable def Rnd (x : UInt64) (N : Int) : Prop := ∃ sg m e, decode (Float64.add x 4602678819172646912) = .fin sg m e ∧ truncOf sg m e = N
theorem Near.rnd {N : Int} {c : Nat} {x : UInt64} (h : Near 1 N c x) (h0 : 0 ≤ N) (hN : N ≤ 1000) (hc : c ≤ 268435456) : Rnd x N := by
  have a := ((h.mono hc).scale 2).add near_half (A := 1001) (A' := 1) (by decide) (by omega) (by decide) (by decide)
  obtain ⟨⟨sg, m, e, hd⟩, b⟩ := a
  refine ⟨sg, m, e, hd, ?_⟩
  obtain ⟨r, h1, h2, h3, h4⟩ := trunc_val hd
  generalize val (Float64.add x 4602678819172646912) = v at *
  generalize truncOf sg m e = t at *
  have hE := EE_pos
  have hS := SS_EE
  have d1 : N + 1 ≤ t → (N + 1) * (SS : Int) ≤ t * (SS : Int) := fun h => Int.mul_le_mul_of_nonneg_right h (Int.natCast_nonneg _)
  have d2 : t ≤ N - 1 → t * (SS : Int) ≤ (N - 1) * (SS : Int) := fun h => Int.mul_le_mul_of_nonneg_right h (Int.natCast_nonneg _)
  have d3 : 0 ≤ N * (SS : Int) := Int.mul_nonneg h0 (Int.natCast_nonneg _)
  have d4 : (((2 : Nat) : Int) * N + 1) * (SS : Int) = 2 * (N * (SS : Int)) + SS := by grind
  have d5 : (N + 1) * (SS : Int) = N * (SS : Int) + SS := by grind
  have d6 : (N - 1) * (SS : Int) = N * (SS : Int) - SS := by grind
  rw [d4] at b
  rw [d5] at d1
  rw [d6] at d2
  generalize N * (SS : Int) = P at *
  generalize t * (SS : Int) = Q at *
  omega
end Mine

/-! WDue -/
namespace Mine
open PySem PySem.W PySem.Calls PyProof.Rows
set_option maxRecDepth 100000
set_option maxHeartbeats 4000000
open PySem.Float64
theorem Near.cast {D D' c c' : Nat} {k k' : Int} {x : UInt64} (h : Near D k c x) (e1 : D = D') (e2 : k = k') (e3 : c ≤ c') : Near D' k' c' x := by
  subst e1 e2; exact h.mono e3
/-- the hue's turns: six times them, in steps -/
theorem turn_near {W K : Nat} {part n : Int} {hue : UInt64} (hW : 63 ≤ W ∧ W ≤ 65) (hK : K = 64 ∨ K = 4096 ∨ K = 262144) (p0 : 0 ≤ part) (p1 : part < W) (n0 : 0 ≤ n) (n1 : n < K) (hh : Near W part 1 hue) :
    Near W (6 * (part * K + n)) 2000000 (Float64.mul (Float64.add (Float64.mul hue (ofInt K)) (dv n W)) 4618441417868443648) := by
  have a1 := hh.mul (int_near (i := (K : Int)) (by omega)) (A := 1) (A' := K + 1) (by omega) (by decide) (by omega) (by simp only [Int.natAbs_natCast]; omega) (by omega)
  have a1 : Near W (part * K) 263000 (Float64.mul hue (ofInt K)) := a1.cast (Nat.mul_one _) rfl (by simp only [Int.natAbs_natCast]; omega)
  have a2 := frac_near (n := n) (d := W) n0 (by omega) (by omega)
  have b0 : 0 ≤ part * K := Int.mul_nonneg p0 (Int.natCast_nonneg _)
  have b1 : part * K ≤ ((W : Int) - 1) * K := Int.mul_le_mul_of_nonneg_right (by omega) (Int.natCast_nonneg _)
  have kw : ((W : Int) - 1) * K = K * W - K := by rw [Int.sub_mul, Int.one_mul, Int.mul_comm]
  rw [kw] at b1
  have k1 : 64 ≤ K ∧ K ≤ 262144 := by omega
  have k2 : 63 * K ≤ K * W := by rw [Nat.mul_comm]; exact Nat.mul_le_mul_left _ hW.1
  have a3 := a1.add a2 (A := K) (A' := K) (by omega) (by omega) (by omega) (by omega)
  have a4 := (a3.mono (c' := 264000) (by omega)).mul near_six (A := K) (A' := 6) (by omega) (by decide) (by omega) (by decide) (by omega)
  exact a4.cast (Nat.mul_one _) (Int.mul_comm _ _) (by rw [show (6 : Int).natAbs = 6 from rfl, Nat.mul_zero]; omega)
/-- the sixth of the wheel, and where in it -/
theorem sixth_near {W K : Nat} {T : Int} {y : UInt64} {sg : Bool} {mm : Nat} {e : Int} (hW : 63 ≤ W ∧ W ≤ 65) (hK : K = 64 ∨ K = 4096 ∨ K = 262144) (t0 : 0 ≤ T) (t1 : T < K * W) (hy : Near W (6 * T) 2000000 y) (hd : decode y = .fin sg mm e) :
    0 ≤ 6 * T - W * truncOf sg mm e ∧ 6 * T - W * truncOf sg mm e ≤ W ∧ (truncOf sg mm e).natAbs ≤ 4194304 ∧ Near W (6 * T - W * truncOf sg mm e) 2100000 (Float64.sub y (ofInt (truncOf sg mm e))) := by
  obtain ⟨r, h1, h2, h3, h4⟩ := trunc_val hd
  have hb := hy.2
  have key : 0 ≤ 6 * T - W * truncOf sg mm e ∧ 6 * T - W * truncOf sg mm e ≤ W ∧ (truncOf sg mm e).natAbs ≤ 4194304 := by
    generalize val y = v at *
    generalize truncOf sg mm e = i at *
    have hE := EE_pos
    have hS := SS_EE
    have q1 : (W : Int) * v - 6 * T * SS = (W : Int) * r - (6 * T - W * i) * SS := by rw [h1]; grind
    rw [q1] at hb
    have r1 : ((W : Int) * r).natAbs ≤ W * SS := natAbs_mul_le (by simp) (Nat.le_of_lt h2)
    have W1 : (W : Int) * SS = ((W * SS : Nat) : Int) := (Int.natCast_mul ..).symm
    have m0 : (0 : Int) ≤ W := Int.natCast_nonneg _
    by_cases hv : 0 ≤ v
    · have r0 : 0 ≤ (W : Int) * r := Int.mul_nonneg m0 (h3 hv)
      have g1 : 0 ≤ 6 * T - W * i := by
        apply Int.le_of_not_gt
        intro hlt
        have : (6 * T - W * i) * (SS : Int) ≤ (-1) * SS := Int.mul_le_mul_of_nonneg_right (by omega) (Int.natCast_nonneg _)
        generalize (6 * T - W * i) * (SS : Int) = P at *
        generalize (W : Int) * r = R at *
        omega
      have g2 : 6 * T - W * i ≤ W := by
        apply Int.le_of_not_gt
        intro hlt
        have : ((W : Int) + 1) * (SS : Int) ≤ (6 * T - W * i) * (SS : Int) := Int.mul_le_mul_of_nonneg_right (by omega) (Int.natCast_nonneg _)
        rw [Int.add_mul, W1] at this
        generalize (6 * T - W * i) * (SS : Int) = P at *
        generalize (W : Int) * r = R at *
        generalize W * SS = Z at *
        omega
      refine ⟨g1, g2, ?_⟩
      have kw : (K : Int) * W ≤ 262144 * W := Int.mul_le_mul_of_nonneg_right (by omega) (Int.natCast_nonneg _)
      have wi : ∀ c : Int, c ≤ i → (W : Int) * c ≤ W * i := fun c h => Int.mul_le_mul_of_nonneg_left h (Int.natCast_nonneg _)
      have wi2 : ∀ c : Int, i ≤ c → (W : Int) * i ≤ W * c := fun c h => Int.mul_le_mul_of_nonneg_left h (Int.natCast_nonneg _)
      have u1 : i ≤ 4194304 := by
        apply Int.le_of_not_gt
        intro h
        have := wi 4194305 (by omega)
        omega
      have u2 : -4194304 ≤ i := by
        apply Int.le_of_not_gt
        intro h
        have := wi2 (-4194305) (by omega)
        omega
      omega
    · have r0 : (W : Int) * r ≤ 0 := Int.mul_nonpos_of_nonneg_of_nonpos m0 (h4 (by omega))
      have tz : T = 0 := by
        apply Int.le_antisymm ?_ t0
        apply Int.le_of_not_gt
        intro hlt
        have : 6 * (SS : Int) ≤ 6 * T * SS := Int.mul_le_mul_of_nonneg_right (by omega) (Int.natCast_nonneg _)
        have q2 : (W : Int) * v ≤ 0 := Int.mul_nonpos_of_nonneg_of_nonpos m0 (by omega)
        rw [← q1] at hb
        generalize 6 * T * (SS : Int) = P at *
        generalize (W : Int) * v = R at *
        omega
      subst tz
      have hi : i = 0 := by
        have q2 : ((W : Int) * v).natAbs ≤ 2000000 * EE := by rw [← q1] at hb; simpa using hb
        have q3 : v.natAbs ≤ 2000000 * EE := by
          rw [Int.natAbs_mul, Int.natAbs_natCast] at q2
          exact Nat.le_trans (Nat.le_mul_of_pos_left _ (by omega)) q2
        by_cases e1 : 1 ≤ i
        · have : 1 * (SS : Int) ≤ i * SS := Int.mul_le_mul_of_nonneg_right e1 (Int.natCast_nonneg _)
          generalize i * (SS : Int) = P at *
          omega
        · by_cases e2 : i ≤ -1
          · have : i * (SS : Int) ≤ (-1) * SS := Int.mul_le_mul_of_nonneg_right e2 (Int.natCast_nonneg _)
            have := h4 (by omega)
            generalize i * (SS : Int) = P at *
            omega
          · omega
      subst hi
      simp
  refine ⟨key.1, key.2.1, key.2.2, ?_⟩
  generalize truncOf sg mm e = i at *
  have a1 : Near W (W * i) W (ofInt i) := ((int_near key.2.2).scale W).cast (Nat.mul_one _) rfl (by omega)
  have k1 : 64 ≤ K ∧ K ≤ 262144 := by omega
  have ew : 6 * K * W * 1073741824 = 6442450944 * (K * W) := by rw [Nat.mul_assoc 6, Nat.mul_right_comm]
  have k2 : 63 * K ≤ K * W := by rw [Nat.mul_comm]; exact Nat.mul_le_mul_left _ hW.1
  have a2 := hy.sub a1 (A := 6 * K) (A' := 6 * K) (by omega) (by rw [ew]; omega) (by rw [ew]; omega) (by omega)
  exact a2.cast rfl rfl (by omega)
end Mine

/-! WDue2 -/
namespace Mine
open PySem PySem.W PySem.Calls PyProof.Rows
set_option maxRecDepth 100000
set_option maxHeartbeats 4000000
open PySem.Float64
/-- a colour that lies g = m / W up from the least one -/
theorem col_near {W size : Nat} {share m : Int} {g : UInt64} (hW : 63 ≤ W ∧ W ≤ 65) (hs : size = 1 ∨ size = 2 ∨ size = 3) (hh : share = 1 ∨ share = 2) (m0 : 0 ≤ m) (m1 : m ≤ W) (hg : Near W m 2200000 g) :
    Near 1 (size * (2 * W - share * m)) 200000000 (Float64.mul (ofInt (2 * W * size)) (Float64.sub 4607182418800017408 (Float64.mul (dv share 2) g))) := by
  have b1 := frac_near (n := share) (d := 2) (by omega) (by decide) (by omega)
  have b2 := b1.mul hg (A := 2) (A' := 2) (by decide) (by omega) (by omega) (by omega) (by decide)
  have b3 : Near (2 * W) (share * m) 10000000 (Float64.mul (dv share 2) g) := b2.mono (by omega)
  have hsm : 0 ≤ share * m ∧ share * m ≤ 2 * W := by rcases hh with rfl | rfl <;> omega
  have hv : 0 ≤ 2 * (W : Int) * size ∧ 2 * (W : Int) * size ≤ 390 := by rcases hs with rfl | rfl | rfl <;> omega
  have ev : (2 * (W : Int) * size) * (2 * W - share * m) = (2 * W : Nat) * (size * (2 * W - share * m)) := by
    rw [Int.mul_assoc, Int.natCast_mul]; rfl
  clear b1 b2 hg m0 m1 hs hh
  generalize Float64.mul (dv share 2) g = x at *
  generalize share * m = q at *
  have b4 := (near_one.scale (2 * W)).cast (Nat.mul_one _) (Int.mul_one _) (Nat.le_refl _)
  have b5 := b4.sub b3 (A := 2) (A' := 3) (by omega) (by rw [Nat.mul_zero]; omega) (by omega) (by decide)
  have b5 : Near (2 * W) (2 * W - q) 10000200 (Float64.sub 4607182418800017408 x) := b5.cast rfl (by omega) (by omega)
  clear b3 b4
  generalize Float64.sub 4607182418800017408 x = y at *
  refine Near.cancel (n := 2 * W) (by omega) ?_
  rw [← ev]
  generalize 2 * (W : Int) * size = v at *
  have b6 := int_near (i := v) (by omega)
  have b7 := b6.mul b5 (A := 400) (A' := 3) (by decide) (by omega) (by omega) (by omega) (by decide)
  exact b7.cast (by omega) rfl (by omega)
theorem low_near {W size : Nat} {share : Int} (hW : 63 ≤ W ∧ W ≤ 65) (hs : size = 1 ∨ size = 2 ∨ size = 3) (hh : share = 1 ∨ share = 2) :
    Near 1 (size * ((2 - share) * W)) 200000000 (Float64.mul (ofInt (2 * W * size)) (Float64.sub 4607182418800017408 (dv share 2))) := by
  have b1 := frac_near (n := share) (d := 2) (by omega) (by decide) (by omega)
  have b4 := near_one.scale 2
  have b5 := b4.sub b1 (A := 2) (A' := 2) (by omega) (by omega) (by omega) (by decide)
  have hv : 0 ≤ 2 * (W : Int) * size ∧ 2 * (W : Int) * size ≤ 390 := by rcases hs with rfl | rfl | rfl <;> omega
  have ev : (2 * (W : Int) * size) * (2 - share) = ((2 : Nat) : Int) * (size * ((2 - share) * W)) := by
    rw [Int.mul_assoc, Int.mul_assoc]
    show 2 * _ = 2 * _
    congr 1
    rw [Int.mul_comm (W : Int), Int.mul_assoc]
  refine Near.cancel (n := 2) (by omega) ?_
  rw [← ev]
  generalize 2 * (W : Int) * size = v at *
  have b6 := int_near (i := v) (by omega)
  have b5 : Near 2 (2 - share) 6 (Float64.sub 4607182418800017408 (dv share 2)) := b5.cast rfl (by omega) (by omega)
  have b7 := b6.mul b5 (A := 400) (A' := 3) (by decide) (by decide) (by omega) (by omega) (by decide)
  exact b7.cast rfl rfl (by omega)
noncomputable def RndN : Nm → Int → Prop
  | .f x, N => Rnd x N
  | .i k, N => Rnd (ofInt k) N
/-- how much of the colour stands at a corner -/
noncomputable def colr (part wheel corner : Int) : Int := mx2 0 (mn2 wheel (2 * wheel - 2 * mn2 ((3 * part - corner).fmod (3 * wheel)) ((corner - 3 * part).fmod (3 * wheel))))
theorem due_colr (part wheel share size corner : Int) : dueAt part wheel share size corner = size * ((2 - share) * wheel + share * colr part wheel corner) := rfl
/-- the corners' colours of one part, by the sixth of the wheel -/
noncomputable def colB (W p : Nat) (j : Int) : Bool :=
  let m := 6 * (p : Int) - W * j
  if 0 ≤ m ∧ m ≤ W then
    let k := j % 6
    let c0 := colr p W 0
    let c1 := colr p W W
    let c2 := colr p W (2 * W)
    if k = 0 then c0 == (W : Int) && c1 == m && c2 == 0 else if k = 1 then c0 == (W : Int) - m && c1 == (W : Int) && c2 == 0 else if k = 2 then c0 == 0 && c1 == (W : Int) && c2 == m
    else if k = 3 then c0 == 0 && c1 == (W : Int) - m && c2 == (W : Int) else if k = 4 then c0 == m && c1 == 0 && c2 == (W : Int) else c0 == (W : Int) && c1 == 0 && c2 == (W : Int) - m
  else true
theorem colB_ok : [63, 64, 65].all (fun W => (List.range W).all fun p => ([-1, 0, 1, 2, 3, 4, 5] : List Int).all fun j => colB W p j) = true := by decide +kernel
theorem colr_eq {W : Nat} (hW : 63 ≤ W ∧ W ≤ 65) {T i m : Int} (t0 : 0 ≤ T) (e : m = 6 * T - W * i) (m0 : 0 ≤ m) (m1 : m ≤ W) :
    (i.fmod 6 = 0 → colr (T.fmod W) W 0 = W ∧ colr (T.fmod W) W W = m ∧ colr (T.fmod W) W (2 * W) = 0) ∧
    (i.fmod 6 = 1 → colr (T.fmod W) W 0 = W - m ∧ colr (T.fmod W) W W = W ∧ colr (T.fmod W) W (2 * W) = 0) ∧
    (i.fmod 6 = 2 → colr (T.fmod W) W 0 = 0 ∧ colr (T.fmod W) W W = W ∧ colr (T.fmod W) W (2 * W) = m) ∧
    (i.fmod 6 = 3 → colr (T.fmod W) W 0 = 0 ∧ colr (T.fmod W) W W = W - m ∧ colr (T.fmod W) W (2 * W) = W) ∧
    (i.fmod 6 = 4 → colr (T.fmod W) W 0 = m ∧ colr (T.fmod W) W W = 0 ∧ colr (T.fmod W) W (2 * W) = W) ∧
    (i.fmod 6 = 5 → colr (T.fmod W) W 0 = W ∧ colr (T.fmod W) W W = 0 ∧ colr (T.fmod W) W (2 * W) = W - m) := by
  have f6 : i.fmod 6 = i % 6 := Int.fmod_eq_emod_of_nonneg _ (by decide)
  have fW : T.fmod W = T % W := Int.fmod_eq_emod_of_nonneg _ (Int.natCast_nonneg _)
  have hdm := Int.mul_ediv_add_emod T (W : Int)
  have hp0 := Int.emod_nonneg T (show (W : Int) ≠ 0 by omega)
  have hp1 := Int.emod_lt_of_pos T (show (0 : Int) < W by omega)
  rw [f6, fW]
  generalize T % (W : Int) = p at *
  generalize T / (W : Int) = q at *
  obtain ⟨pn, rfl⟩ := Int.eq_ofNat_of_zero_le hp0
  obtain ⟨j, rfl⟩ : ∃ j, i = 6 * q + j := ⟨i - 6 * q, by omega⟩
  have em : m = 6 * (pn : Int) - W * j := by
    rw [e, ← hdm, Int.mul_add, Int.mul_add (W : Int)]
    have : (W : Int) * (6 * q) = 6 * (W * q) := by rw [← Int.mul_assoc, Int.mul_comm (W : Int) 6, Int.mul_assoc]
    omega
  have hWj : (W : Int) * j ≤ 6 * pn ∧ 6 * (pn : Int) ≤ W * j + W := by omega
  have hj : -1 ≤ j ∧ j ≤ 5 := by
    constructor
    · apply Int.le_of_not_gt
      intro h
      have : (W : Int) * j ≤ W * (-2) := Int.mul_le_mul_of_nonneg_left (by omega) (Int.natCast_nonneg _)
      omega
    · apply Int.le_of_not_gt
      intro h
      have : (W : Int) * 6 ≤ W * j := Int.mul_le_mul_of_nonneg_left (by omega) (Int.natCast_nonneg _)
      omega
  have hmW : W ∈ [63, 64, 65] := by
    have : W = 63 ∨ W = 64 ∨ W = 65 := by omega
    simpa using this
  have c1 := List.all_eq_true.mp (List.all_eq_true.mp colB_ok W hmW) pn (List.mem_range.mpr (by omega))
  have c2 := List.all_eq_true.mp c1 j (by
    have : j = -1 ∨ j = 0 ∨ j = 1 ∨ j = 2 ∨ j = 3 ∨ j = 4 ∨ j = 5 := by omega
    simpa using this)
  unfold colB at c2
  rw [← em, if_pos ⟨m0, m1⟩] at c2
  rw [show (6 * q + j) % 6 = j % 6 by omega]
  dsimp only at c2
  have dec : j % 6 = 0 ∨ j % 6 = 1 ∨ j % 6 = 2 ∨ j % 6 = 3 ∨ j % 6 = 4 ∨ j % 6 = 5 := by omega
  generalize j % 6 = k at *
  refine ⟨?_, ?_, ?_, ?_, ?_, ?_⟩ <;> rintro rfl
  · rw [if_pos rfl] at c2; simpa [and_assoc] using c2
  · rw [if_neg (by decide), if_pos rfl] at c2; simpa [and_assoc] using c2
  · rw [if_neg (by decide), if_neg (by decide), if_pos rfl] at c2; simpa [and_assoc] using c2
  · rw [if_neg (by decide), if_neg (by decide), if_neg (by decide), if_pos rfl] at c2; simpa [and_assoc] using c2
  · rw [if_neg (by decide), if_neg (by decide), if_neg (by decide), if_neg (by decide), if_pos rfl] at c2; simpa [and_assoc] using c2
  · rw [if_neg (by decide), if_neg (by decide), if_neg (by decide), if_neg (by decide), if_neg (by decide)] at c2; simpa [and_assoc] using c2
end Mine

/-! WDue3 -/
namespace Mine
open PySem PySem.W PySem.Calls PyProof.Rows
set_option maxRecDepth 100000
set_option maxHeartbeats 4000000
open PySem.Float64
theorem near_rnd {W size : Nat} {share c : Int} {x : UInt64} (hW : 63 ≤ W ∧ W ≤ 65) (hs : size = 1 ∨ size = 2 ∨ size = 3) (hh : share = 1 ∨ share = 2) (c0 : 0 ≤ c) (c1 : c ≤ W) {N : Int} (e : N = size * ((2 - share) * W + share * c)) {k : Int} (e2 : k = N) (h : Near 1 k 200000000 x) : Rnd x N := by
  subst e2
  refine h.rnd ?_ ?_ (by decide) <;> rcases hs with rfl | rfl | rfl <;> rcases hh with rfl | rfl <;> omega
/-- hsv_to_rgb of the hue gone on paints the parts due -/
theorem hsv_due {W K size : Nat} {part n share : Int} {hue : UInt64} (hW : 63 ≤ W ∧ W ≤ 65) (hK : K = 64 ∨ K = 4096 ∨ K = 262144) (hs : size = 1 ∨ size = 2 ∨ size = 3) (hh : share = 1 ∨ share = 2) (p0 : 0 ≤ part) (p1 : part < W) (n0 : 0 ≤ n) (n1 : n < K) (hn : Near W part 1 hue) :
    ∃ sg m e, decode (Float64.mul (Float64.add (Float64.mul hue (ofInt K)) (dv n W)) 4618441417868443648) = .fin sg m e ∧ (Float64.truncOf sg m e).natAbs < 2 ^ 60 ∧
      RndN (hsvT (Float64.add (Float64.mul hue (ofInt K)) (dv n W)) (dv share 2) (2 * W * size)).1 (dueAt ((part * K + n).fmod W) W share size 0) ∧
      RndN (hsvT (Float64.add (Float64.mul hue (ofInt K)) (dv n W)) (dv share 2) (2 * W * size)).2.1 (dueAt ((part * K + n).fmod W) W share size W) ∧
      RndN (hsvT (Float64.add (Float64.mul hue (ofInt K)) (dv n W)) (dv share 2) (2 * W * size)).2.2 (dueAt ((part * K + n).fmod W) W share size (2 * W)) := by
  have hy := turn_near hW hK p0 p1 n0 n1 hn
  obtain ⟨sg, mm, e, hd⟩ := hy.1
  have t0 : 0 ≤ part * K + n := Int.add_nonneg (Int.mul_nonneg p0 (Int.natCast_nonneg _)) n0
  have t1 : part * K + n < K * W := by
    have : part * K ≤ ((W : Int) - 1) * K := Int.mul_le_mul_of_nonneg_right (by omega) (Int.natCast_nonneg _)
    have q : ((W : Int) - 1) * K = K * W - K := by rw [Int.sub_mul, Int.one_mul, Int.mul_comm]
    omega
  obtain ⟨m0, m1, hi, hf⟩ := sixth_near hW hK t0 t1 hy hd
  refine ⟨sg, mm, e, hd, by omega, ?_⟩
  generalize part * (K : Int) + n = T at *
  generalize hx : Float64.add (Float64.mul hue (ofInt K)) (dv n W) = x at *
  have cc := colr_eq hW t0 (m := 6 * T - W * truncOf sg mm e) rfl m0 m1
  unfold hsvT
  dsimp only
  rw [truncF_eq hd]
  generalize truncOf sg mm e = i at *
  have hq := col_near hW hs hh m0 m1 (hf.mono (by decide))
  have hf1 := ((near_one.scale W).cast (Nat.mul_one _) (Int.mul_one _) (Nat.le_refl _)).sub hf (A := 2) (A' := 2) (by omega) (by rw [Nat.mul_zero]; omega) (by omega) (by decide)
  have ht := col_near hW hs hh (share := share) (by omega) (by omega) (hf1.mono (by omega))
  have hp := low_near hW hs hh
  have hv : Near 1 (2 * W * size) 200000000 (ofInt (2 * W * size)) := (int_near (by rcases hs with rfl | rfl | rfl <;> omega)).mono (by decide)
  simp only [due_colr]
  generalize 6 * T - (W : Int) * i = M at *
  have e1 : ∀ c : Int, ((size : Int) * (2 * W - share * M) = size * ((2 - share) * W + share * (W - M))) := fun c => by rcases hs with rfl | rfl | rfl <;> rcases hh with rfl | rfl <;> omega
  have e2 : ((size : Int) * (2 * W - share * (W - M)) = size * ((2 - share) * W + share * M)) := by rcases hs with rfl | rfl | rfl <;> rcases hh with rfl | rfl <;> omega
  have e3 : ((size : Int) * ((2 - share) * W) = size * ((2 - share) * W + share * 0)) := by rw [Int.mul_zero, Int.add_zero]
  have e4 : (2 * (W : Int) * size = size * ((2 - share) * W + share * W)) := by rcases hs with rfl | rfl | rfl <;> rcases hh with rfl | rfl <;> omega
  have f6 : i.fmod 6 = i % 6 := Int.fmod_eq_emod_of_nonneg _ (by decide)
  have hk : i.fmod 6 = 0 ∨ i.fmod 6 = 1 ∨ i.fmod 6 = 2 ∨ i.fmod 6 = 3 ∨ i.fmod 6 = 4 ∨ i.fmod 6 = 5 := by rw [f6]; omega
  have rq : Rnd _ (size * ((2 - share) * W + share * (W - M))) := near_rnd hW hs hh (by omega) (by omega) rfl (e1 0) hq
  have rt : Rnd _ (size * ((2 - share) * W + share * M)) := near_rnd hW hs hh (by omega) (by omega) rfl e2 ht
  have rp : Rnd _ (size * ((2 - share) * W + share * 0)) := near_rnd hW hs hh (by omega) (by omega) rfl e3 hp
  have rv : Rnd _ (size * ((2 - share) * W + share * W)) := near_rnd hW hs hh (by omega) (by omega) rfl e4 hv
  obtain ⟨c0, c1, c2, c3, c4, c5⟩ := cc
  rcases hk with k | k | k | k | k | k
  · obtain ⟨x0, x1, x2⟩ := c0 k
    rw [x0, x1, x2, if_pos k]
    exact ⟨rv, rt, rp⟩
  · obtain ⟨x0, x1, x2⟩ := c1 k
    rw [x0, x1, x2, if_neg (by rw [k]; decide), if_pos k]
    exact ⟨rq, rv, rp⟩
  · obtain ⟨x0, x1, x2⟩ := c2 k
    rw [x0, x1, x2, if_neg (by rw [k]; decide), if_neg (by rw [k]; decide), if_pos k]
    exact ⟨rp, rv, rt⟩
  · obtain ⟨x0, x1, x2⟩ := c3 k
    rw [x0, x1, x2, if_neg (by rw [k]; decide), if_neg (by rw [k]; decide), if_neg (by rw [k]; decide), if_pos k]
    exact ⟨rp, rq, rv⟩
  · obtain ⟨x0, x1, x2⟩ := c4 k
    rw [x0, x1, x2, if_neg (by rw [k]; decide), if_neg (by rw [k]; decide), if_neg (by rw [k]; decide), if_neg (by rw [k]; decide), if_pos k]
    exact ⟨rt, rp, rv⟩
  · obtain ⟨x0, x1, x2⟩ := c5 k
    rw [x0, x1, x2, if_neg (by rw [k]; decide), if_neg (by rw [k]; decide), if_neg (by rw [k]; decide), if_neg (by rw [k]; decide), if_neg (by rw [k]; decide)]
    exact ⟨rv, rp, rq⟩
end Mine

/-! WPlain -/
namespace Mine
open PySem PySem.W PySem.Calls PyProof.Rows
set_option maxRecDepth 100000
set_option maxHeartbeats 4000000
theorem fmod_pos (a : Int) {b : Int} (h : 0 ≤ b) : a.fmod b = a % b := Int.fmod_eq_emod_of_nonneg _ h
/-- two residues give the high part back -/
theorem crt {hi : Int} (h0 : 0 ≤ hi) (h1 : hi < 4095) : hi % 63 + 63 * (((hi % 63 - hi % 65) * 33) % 65) = hi := by omega
theorem one_of {V V' hi lo : Int} (e : ∃ q, V' = V + hi + lo + 63 * q) : (V' % 63 - V % 63 - lo) % 63 = hi % 63 := by
  obtain ⟨q, rfl⟩ := e; omega
theorem other_odd {V V' hi lo : Int} (e : ∃ q, V' = - V - hi + lo + 65 * q) : (lo - V' % 65 + -(V % 65)) % 65 = hi % 65 := by
  obtain ⟨q, rfl⟩ := e; omega
theorem other_even {V V' hi lo : Int} (e : ∃ q, V' = V - hi + lo + 65 * q) : (lo - V' % 65 + V % 65) % 65 = hi % 65 := by
  obtain ⟨q, rfl⟩ := e; omega
theorem back_eq (k : Nat) (hk : 1 ≤ k) (hk3 : k ≤ 3) {V hi lo : Int} (h0 : 0 ≤ hi) (h1 : hi < 4095) (l0 : 0 ≤ lo) (l1 : lo < 64) :
    backNum k (V % 63) (V % 65) ((V * 64 ^ k + (64 * hi + lo)) % 63) ((V * 64 ^ k + (64 * hi + lo)) % 64) ((V * 64 ^ k + (64 * hi + lo)) % 65) = 64 * hi + lo := by
  have hlo : (V * 64 ^ k + (64 * hi + lo)) % 64 = lo := by
    have : k = 1 ∨ k = 2 ∨ k = 3 := by omega
    rcases this with rfl | rfl | rfl <;> omega
  rw [hlo]
  unfold backNum
  simp only [fmod_pos _ (show (0 : Int) ≤ 63 by decide), fmod_pos _ (show (0 : Int) ≤ 65 by decide)]
  have e1 : ((V * 64 ^ k + (64 * hi + lo)) % 63 - V % 63 - lo) % 63 = hi % 63 := by
    refine one_of ?_
    have : k = 1 ∨ k = 2 ∨ k = 3 := by omega
    rcases this with rfl | rfl | rfl
    · exact ⟨V + hi, by omega⟩
    · exact ⟨65 * V + hi, by omega⟩
    · exact ⟨4161 * V + hi, by omega⟩
  have e2 : (lo - (V * 64 ^ k + (64 * hi + lo)) % 65 + (-1) ^ k * (V % 65)) % 65 = hi % 65 := by
    have : k = 1 ∨ k = 2 ∨ k = 3 := by omega
    rcases this with rfl | rfl | rfl
    · rw [show ((-1 : Int) ^ 1 * (V % 65)) = -(V % 65) by omega]; exact other_odd ⟨V + hi, by omega⟩
    · rw [show ((-1 : Int) ^ 2 * (V % 65)) = (V % 65) by omega]; exact other_even ⟨63 * V + hi, by omega⟩
    · rw [show ((-1 : Int) ^ 3 * (V % 65)) = -(V % 65) by omega]; exact other_odd ⟨4033 * V + hi, by omega⟩
  rw [e1, e2, crt h0 h1]
end Mine

/-! I0 -/
namespace Mine
open PySem PySem.W PySem.Calls PyProof.Rows
set_option maxRecDepth 100000
set_option maxHeartbeats 8000000
noncomputable def wordB : List Stmt := match nth lawB 9 with | .For _ _ b _ _ => b | _ => []
noncomputable def wheelB : List Stmt := match nth wordB 5 with | .For _ _ b _ _ => b | _ => []
local macro_rules | `(tactic| walk_at "binaryOp Mod int int") => `(tactic| (refine PyProof.Rows.mod_int (by omega) ?_))
theorem in0 {w : World} {mg mb : Str → Option Value} {d : Nat} {fr : Option (List Env)} {gu : Option (List Code)} {un : Nat} {s : Shared} {h₀ : Heap} (G : Gd w mg mb h₀) (hd : d < 900) {L fa c : Addr} {m : Str → Option Value} {W : Nat} {V sh sz : Int} {t1 t2 t3 t4 : Tok} {Q : Flow → Shared → Prop} {E : Value → Shared → Prop} (F : Fr h₀ L s.heap m)
    (m1 : m (Str.ofString "whole") = some (.int V t1)) (m2 : m (Str.ofString "wheel") = some (.int W t2)) (m3 : m (Str.ofString "share") = some (.int sh t3)) (m4 : m (Str.ofString "size") = some (.int sz t4))
    (hW : 63 ≤ W ∧ W ≤ 65) (hs : 0 ≤ sh ∧ sh ≤ 10) (hz : 0 ≤ sz ∧ sz ≤ 10)
    (h : ∀ h' tk D vs, Fr h₀ L h' (fun y => if y = Str.ofString "due" then some (.ref D) else m y) → Kp [L] s.heap h' → h'.IsList D vs.toArray → IntsAre vs (paintL (V.fmod W) W sh sz) → Q .next { s with heap := h', toks := tk }) :
    wpAny (model pw w) ⟨none, d, fr, gu, un⟩ (exec (nth wheelB 0) (lawE L fa c)) Q E s := by
  have G0 := G
  obtain ⟨K, TT, GL⟩ := G
  have N : News h₀ L s.heap (fullL h₀ s.heap [L]) := full_news (List.mem_cons_self ..)
  have hk0 := F.keep
  generalize hnw : fullL h₀ s.heap [L] = nw at N
  have F1 := frm F (norm4 m m1 m2 m3 m4)
  conv in nth _ _ => whnf
  w_on
  refine wpAny_Assign_Name ?_
  refine fcall G0 F.keep (f := 86) (o := ob86 w.params) (by kernel_rfl) (by kernel_rfl) rfl ?_
  clear F
  repeat' ((fail_if_success (with_reducible show wpAny _ _ (call (Value.ref _) _) _ _ _)); first | walk1 | (dsimp only; walk1))
  have hf : 0 ≤ V.fmod W ∧ V.fmod W < W := by
    rw [fmod_pos _ (Int.natCast_nonneg _)]
    exact ⟨Int.emod_nonneg _ (by omega), Int.emod_lt_of_pos _ (by omega)⟩
  have F := frm F1 (norm4 m m1 m2 m3 m4).symm
  have cp := @c_paint w mg mb ⟨none, d, fr, gu, un⟩ { s with toks := s.toks + 1 } (G0.ext F.keep) rfl hd (V.fmod W) W sh sz s.toks t2 t3 t4 (by omega) (by omega) (by omega) (by omega) (by omega)
  refine callB cp (fun v h' tk x b => ?_)
  obtain ⟨D, vs, rfl, hD, hI⟩ := b
  have F2 := Fr.ext F x
  have hDL := ns_ne F2.ns hD
  refine stL (env := lawE L fa c) F2 (fun h3 F3 s3 => ?_)
  exact h _ _ D vs F3 (x.kp.trans (SameBut.kp s3 (List.mem_cons_self ..))) (hD.at fun o e => s3.extBut _ o hDL e) hI
theorem norm5 (m : Str → Option Value) {a b c d e : Str} {x y z u v : Option Value} (h1 : m a = x) (h2 : m b = y) (h3 : m c = z) (h4 : m d = u) (h5 : m e = v) : m = fun k => if k = a then x else if k = b then y else if k = c then z else if k = d then u else if k = e then v else m k := by
  funext k
  by_cases e1 : k = a
  · rw [if_pos e1, e1, h1]
  · rw [if_neg e1]; exact congrFun (norm4 m h2 h3 h4 h5) k
theorem norm6 (m : Str → Option Value) {a b c d e f : Str} {x y z u v w : Option Value} (h1 : m a = x) (h2 : m b = y) (h3 : m c = z) (h4 : m d = u) (h5 : m e = v) (h6 : m f = w) : m = fun k => if k = a then x else if k = b then y else if k = c then z else if k = d then u else if k = e then v else if k = f then w else m k := by
  funext k
  by_cases e1 : k = a
  · rw [if_pos e1, e1, h1]
  · rw [if_neg e1]; exact congrFun (norm5 m h2 h3 h4 h5 h6) k
end Mine

/-! I1 -/
namespace Mine
open PySem PySem.W PySem.Calls PyProof.Rows
set_option maxRecDepth 100000
set_option maxHeartbeats 8000000
local macro_rules | `(tactic| walk_at "binaryOp Mult float int") => `(tactic| (refine mul_fi_sharp rfl (fun ho => absurd ho (not_over (by assumption))) (fun _ => ?_)))
local macro_rules | `(tactic| walk_at "binaryOp Mult int int") => `(tactic| first | (refine PyProof.Rows.mul_int ?_ (IntMulOk.of_left (by first | decide | exact bits60 (by assumption)))) | (refine PyProof.Rows.mul_int ?_ (IntMulOk.of_right (by first | decide | exact bits60 (by assumption)))))
theorem subL {prog : Program} {w : World} {A : Around} {E : Value → Shared → Prop} {s : Shared} {value slice : Expr} {l : Addr} {vs : List Value} {k : Int} {u : Tok} {v : Value} {Q : Value → Shared → Prop}
    (hl : s.heap.IsList l vs.toArray) (h0 : 0 ≤ k) (hhi : k < 2 ^ 63) (hx : vs[k.toNat]? = some v) (h : Q v s)
    (hs : subscripted slice false (.ref l) (.int k u) = operate [.ref l, .int k u] (getItem (.ref l) (.int k u)) := by with_unfolding_all rfl) :
    wpAny (model prog w) A (subscriptTail value slice (.ref l) (.int k u)) Q E s :=
  tail_any hl.typeIs slot_list_getitem.lookup (wpAny_getItem_list hl h0 hhi (by simpa using hx) h) hs
theorem in1 {w : World} {mg mb : Str → Option Value} {d : Nat} {fr : Option (List Env)} {gu : Option (List Code)} {un : Nat} {s : Shared} {h₀ : Heap} (G : Gd w mg mb h₀) (hd : d < 900) {L fa c D : Addr} {m : Str → Option Value} {W sz i : Nat} {hb : UInt64} {n sh : Int} {vs : List Value} {t1 t2 t3 t4 t5 t6 : Tok} {Q : Flow → Shared → Prop} {E : Value → Shared → Prop} (F : Fr h₀ L s.heap m)
    (m1 : m (Str.ofString "hue") = some (.float hb t1)) (m2 : m (Str.ofString "size") = some (.int sz t2)) (m3 : m (Str.ofString "numbers") = some (.ref D)) (m4 : m (Str.ofString "place") = some (.int i t4)) (m5 : m (Str.ofString "wheel") = some (.int W t5)) (m6 : m (Str.ofString "share") = some (.int sh t6))
    (hl : s.heap.IsList D vs.toArray) (hv : vs[i]? = some (.int n t3)) (hi : i < 10) (hn : n.natAbs < 2 ^ 60)
    (hW : 63 ≤ W ∧ W ≤ 65) (hs : sh = 1 ∨ sh = 2) (hz : sz = 1 ∨ sz = 2 ∨ sz = 3)
    {sg : Bool} {mm : Nat} {e : Int} (hd1 : Float64.decode (Float64.mul (Float64.add (Float64.mul hb (Float64.ofInt ((64 ^ sz : Nat) : Int))) (dv n W)) 4618441417868443648) = .fin sg mm e) (hd2 : (Float64.truncOf sg mm e).natAbs < 2 ^ 60)
    (h : ∀ h' tk P x y z, Fr h₀ L h' (fun y => if y = Str.ofString "paint" then some (.ref P) else m y) → Kp [L] s.heap h' → IsTup h' P #[x, y, z] → NmIs x (hsvT (Float64.add (Float64.mul hb (Float64.ofInt ((64 ^ sz : Nat) : Int))) (dv n W)) (dv sh 2) (2 * W * sz)).1 → NmIs y (hsvT (Float64.add (Float64.mul hb (Float64.ofInt ((64 ^ sz : Nat) : Int))) (dv n W)) (dv sh 2) (2 * W * sz)).2.1 → NmIs z (hsvT (Float64.add (Float64.mul hb (Float64.ofInt ((64 ^ sz : Nat) : Int))) (dv n W)) (dv sh 2) (2 * W * sz)).2.2 → Q .next { s with heap := h', toks := tk }) :
    wpAny (model pw w) ⟨none, d, fr, gu, un⟩ (exec (nth wheelB 1) (lawE L fa c)) Q E s := by
  have G0 := G
  obtain ⟨K, TT, GL⟩ := G
  have N : News h₀ L s.heap [] := News.nil
  have F1 := frm F (norm6 m m1 m2 m3 m4 m5 m6)
  have p1 : ((64 : Int) ^ ((sz : Int)).toNat).natAbs < 2 ^ 60 := by
    rcases hz with rfl | rfl | rfl <;> decide
  have p2 : (2 : Int).natAbs < 2 ^ 60 := by decide
  have p3 : (2 * (W : Int)).natAbs < 2 ^ 60 := by omega
  conv in nth _ _ => whnf
  w_on
  refine wpAny_Assign_Name ?_
  refine fcall G0 F.keep (f := 28) (o := ob28 w.params) (by kernel_rfl) (by kernel_rfl) rfl ?_
  clear F
  repeat' ((fail_if_success (with_reducible show wpAny _ _ (subscriptTail _ _ _ _) _ _ _)); first | walk1 | (dsimp only; walk1))
  refine subL hl (by omega) (by omega) (by simpa using hv) ?_
  repeat' ((fail_if_success (with_reducible show wpAny _ _ (call (Value.ref _) _) _ _ _)); first | walk1 | (dsimp only; walk1))
  have F := frm F1 (norm6 m m1 m2 m3 m4 m5 m6).symm
  have hcmp : (Float64.cmp (dv sh 2) 0 == some Ordering.eq) = false := by rcases hs with rfl | rfl <;> decide +kernel
  have ek : (64 : Int) ^ ((sz : Int)).toNat = ((64 ^ sz : Nat) : Int) := by rw [Int.toNat_natCast, Int.natCast_pow]; rfl
  rw [ek]
  have hv2 : (2 * (W : Int) * sz).natAbs < 2 ^ 60 := by rcases hz with rfl | rfl | rfl <;> omega
  have cp := fun tk a b e' => @c_hsv w mg mb ⟨none, d, fr, gu, un⟩ { s with toks := tk } (G0.ext F.keep) rfl hd (Float64.add (Float64.mul hb (Float64.ofInt ((64 ^ sz : Nat) : Int))) (dv n W)) (dv sh 2) (2 * W * sz) a b e' sg mm e hd1 hcmp hd2 hv2
  refine callB (cp _ _ _ _) (fun v h' tk x b => ?_)
  obtain ⟨P, x1, x2, x3, rfl, hP, n1, n2, n3⟩ := b
  have F2 := Fr.ext F x
  have hPL : P ≠ L := by
    obtain ⟨o, es, ep, e1, hdd, _⟩ := F2.ns
    obtain ⟨o', e2, _, nn, hd'⟩ := hP
    rintro rfl
    rw [e1] at e2; cases e2
    rw [hdd] at hd'; cases hd'
  refine stL (env := lawE L fa c) F2 (fun h3 F3 s3 => ?_)
  exact h _ _ P _ _ _ F3 (x.kp.trans (SameBut.kp s3 (List.mem_cons_self ..))) (by obtain ⟨o, e1, r⟩ := hP; exact ⟨o, s3.extBut _ o hPL e1, r⟩) n1 n2 n3
end Mine

/-! WCompT -/
namespace Mine
open PySem PySem.W PySem.Calls PyProof.Rows
set_option maxRecDepth 100000
set_option maxHeartbeats 4000000
section
variable {prog : Program} {w : World} {A : Around} {E : Value → Shared → Prop} {s : Shared} {h₀ : Heap} {L : Addr} {m : Str → Option Value} {env : Env}
theorem walksTup (hh : A.handled = none) (I t : Addr) (hne : t ≠ I) (items : Array Value) :
    Walks prog w A I [I, t] [I] items.size (fun i v => items[i]? = some v) (fun i h => h.IsTupleIter I t i ∧ h.IsTuple t items) where
  sub := fun b hb => by rw [List.mem_singleton.mp hb]; exact List.mem_cons_self ..
  frame := fun _ _ _ st hk => ⟨let ⟨o, ho, r⟩ := st.1; ⟨o, hk I (by simp) o ho, r⟩, let ⟨o, ho, r⟩ := st.2; ⟨o, hk t (by simp) o ho, r⟩⟩
  item := fun i s Q E hi st hQ => wpAny_pyNext_tuple_item st.1 st.2 (x := items[i]) (by simp [hi]) fun h' hit' hs' =>
    hQ _ h' s.toks (by simp [hi]) ⟨hit', st.2.extBut hs'.extBut hne⟩ fun b o hb e => hs'.extBut b o (fun q => hb (by simp [q])) e
  done := fun s Q E st hQ => wpAny_pyNext_tuple_end hh st.1 st.2 (by simp) fun h' hs' => hQ h' s.toks fun b o hb e => hs' b o (fun q => hb (by simp [q])) e
  self := fun i s Q E st h => by
    refine wpAny_pyIter_slot st.1.typeIs F.slot_tuple_iterator_iter (wpAny_call_entry F.slot_tuple_iterator_iter st.1.typeIs F.entry_tuple_iterator_iter ?_ (F.args_tuple_iterator_iter_1 _))
    show wpAny _ _ (ret (.ref I)) _ _ s
    exact wpAny_pure ⟨_, rfl, "tuple_iterator", _, st.1.typeIs, F.slot_tuple_iterator_next.lookup, h⟩
noncomputable def TAt (h₀ : Heap) (ax : Addr) (o : Obj) (nw : List (Addr × Obj)) : Prop := h₀.get? ax = some o ∨ (ax, o) ∈ nw
theorem TAt.at {h : Heap} {ax : Addr} {o : Obj} {nw : List (Addr × Obj)} (x : TAt h₀ ax o nw) (k : ∀ b o, h₀.get? b = some o → h.get? b = some o) (N : News h₀ L h nw) : h.get? ax = some o := by
  rcases x with x | x
  · exact k _ _ x
  · exact (N _ x).1
/-- a source that is a tuple of the ledger or of the base -/
noncomputable def SrcT (prog : Program) (w : World) (A : Around) (h₀ : Heap) (L : Addr) (m : Str → Option Value) (env : Env) (elt : Expr) (x : Str) (scope : Scope) (cl : List (Str × Addr)) (Fin : Shared → List Value → List (Addr × Obj) → Prop) (xv : Value) (s₁ : Shared) : Prop :=
  ∃ ax o its n news, xv = .ref ax ∧ A.handled = none ∧ Fr h₀ L s₁.heap m ∧ News h₀ L s₁.heap news ∧ TAt h₀ ax o news ∧ o.cls = .type "tuple" ∧ o.data = .seq its n ∧ its.size ≤ sizeLine ∧
    ∀ g, LCg.CompRest prog w A h₀ L m env elt x scope cl { s₁ with heap := g } (fun nw => TAt h₀ ax o nw) (fun i v => its[i]? = some v) (Fin { s₁ with heap := g }) its.size 0 [] news
theorem ListComp_T {elt iter : Expr} {x : Str} {px : Pos} {scope : Scope} {cl : List (Str × Addr)} {pos : Pos} {Q : Value → Shared → Prop} (F₀ : Fr h₀ L s.heap m)
    (hclos : closureFor scope env = pure cl) (hcell : ∀ y ∈ scope.names, y.2 ≠ .cell) (hkind : scope.kind = .function)
    (hnames : ∀ y ∈ scope.names, y.2 = .local → scope.names.lookup y.1 = some .local) (hx : scope.names.lookup x = some .local)
    (h : wpAny (model prog w) A (eval iter env) (SrcT prog w A h₀ L m env elt x scope cl (fun s₂ => LCg.FinE h₀ L m s₂ Q)) E s)
    (hs : ∀ x, foldedSetIterable iter env x = pure x := by intro _; rfl) :
    wpAny (model prog w) A (eval (.ListComp elt [⟨.Name x px, iter, [], 0⟩] scope pos) env) Q E s := by
  rw [eval_ListComp]
  refine wpAny_comprehension_free (use := none) rfl hs hclos hkind hnames (wpAny_mono h (fun xv s₁ h₁ => ?_) fun _ _ e => e)
  obtain ⟨ax, o, its, n, news, rfl, hh, F, N, hm, hc, hd, hsz, R⟩ := h₁
  have hax := hm.at F.keep N
  have up : Ext s₁.heap (s₁.heap.push { cls := .type "tuple_iterator", data := .fields #[.ref ax, .int 0 0] }) := fun _ _ e => Heap.get?_push_of_some _ e
  have hlt : ax < s₁.heap.objs.size := Heap.lt_size hax
  refine wpAny_pyIter_tuple ⟨o, hax, hc, n, hd⟩ (LCg.block_U (S := fun nw => TAt h₀ ax o nw) (walksTup hh s₁.heap.objs.size ax (Nat.ne_of_lt hlt) its) hsz (fun i h st => let ⟨o, ho, _⟩ := st.1; ⟨o, ho⟩) (fun i h h' o' nw st e e' kk N' hS => ?_) hcell hkind hx ⟨⟨_, Heap.get?_push_size _ rfl, rfl, rfl⟩, ⟨o, up _ _ hax, hc, n, hd⟩⟩
    (fun b hb => ?_) (Fr.ext F up) (News.ext N up) (Nat.ne_of_lt F.ns.lt) (next_is_new F) (fun p hp => Nat.ne_of_lt (Heap.lt_size (N p hp).1)) hm (R _) ?_)
  · refine ⟨?_, ⟨o, hS.at kk N', hc, n, hd⟩⟩
    obtain ⟨oi, hoi, r⟩ := st.1
    have : oi = o' := Option.some.inj (hoi.symm.trans e)
    exact ⟨o', e', this ▸ r⟩
  · show b < (s₁.heap.push _).objs.size
    rw [Heap.size_push]
    simp only [List.mem_cons, List.not_mem_nil, or_false] at hb
    rcases hb with rfl | rfl
    · exact Nat.lt_succ_self _
    · exact Nat.lt_succ_of_lt hlt
  intro D C h tk m' ys news' F' N' o1 hns hC₀ hD₀ hCL hDL hCD offC fin
  refine ⟨m', hns, fun h'' hs'' => fin D h'' tk (F'.change hs'' hCL hC₀) (fun p hp => ⟨hs''.extBut _ _ ?_ (N' p hp).1, (N' p hp).2⟩) o1⟩
  rcases List.mem_cons.mp hp with rfl | hp
  · exact Ne.symm hCD
  · exact offC p hp
end
end Mine

/-! I2 -/
namespace Mine
open PySem PySem.W PySem.Calls PyProof.Rows
set_option maxRecDepth 100000
set_option maxHeartbeats 8000000
theorem rnd_step {w : World} {A : Around} {E : Value → Shared → Prop} {s : Shared} {v : Value} {nm : Nm} {N : Int} {t5 : Tok} {Q : Value → Shared → Prop} (hA : A.handled = none) (hv : NmIs v nm) (hr : RndN nm N) (hk : ∀ k, nm = .i k → k.natAbs < 2 ^ 60) (h : ∀ y t tk sg m e, Float64.decode y = .fin sg m e → Float64.truncOf sg m e = N → Q (.float y t) { s with toks := tk }) :
    wpAny (model pw w) A (binaryOp .Add v (.float 4602678819172646912 t5)) Q E s := by
  cases nm with
  | f x =>
    obtain ⟨t, rfl⟩ := hv
    obtain ⟨sg, m, e, h1, h2⟩ := hr
    exact PyProof.Rows.add_float (h _ _ _ sg m e h1 h2)
  | i k =>
    obtain ⟨t, rfl⟩ := hv
    obtain ⟨sg, m, e, h1, h2⟩ := hr
    exact add_if_sharp hA (fun ho => absurd ho (not_over (hk k rfl))) (fun _ => h _ _ _ sg m e h1 h2)
theorem in2 {w : World} {mg mb : Str → Option Value} {d : Nat} {fr : Option (List Env)} {gu : Option (List Code)} {un : Nat} {s : Shared} {h₀ : Heap} (G : Gd w mg mb h₀) (hd : d < 900) (hu : un + 64 < cLine) {L fa c P D : Addr} {m : Str → Option Value} {x y z : Value} {a b e : Nm} {n1 n2 n3 : Int} {vs : List Value} {Q : Flow → Shared → Prop} {E : Value → Shared → Prop} (F : Fr h₀ L s.heap m)
    (m1 : m (Str.ofString "paint") = some (.ref P)) (m2 : m (Str.ofString "due") = some (.ref D)) (hP : IsTup s.heap P #[x, y, z]) (v1 : NmIs x a) (v2 : NmIs y b) (v3 : NmIs z e) (r1 : RndN a n1) (r2 : RndN b n2) (r3 : RndN e n3) (k1 : ∀ k, a = .i k → k.natAbs < 2 ^ 60) (k2 : ∀ k, b = .i k → k.natAbs < 2 ^ 60) (k3 : ∀ k, e = .i k → k.natAbs < 2 ^ 60)
    (hl : s.heap.IsList D vs.toArray) (hi : IntsAre vs [n1, n2, n3])
    (h : ∀ h' tk, Fr h₀ L h' m → Kp [L] s.heap h' → Q .next { s with heap := h', toks := tk }) :
    wpAny (model pw w) ⟨none, d, fr, gu, un⟩ (exec (nth wheelB 2) (lawE L fa c)) Q E s := by
  have G0 := G
  obtain ⟨K, TT, GL⟩ := G
  have hDL := ns_ne F.ns hl
  obtain ⟨oP, hPo, hPc, nP, hPd⟩ := hP
  have hPL : P ≠ L := by
    rintro rfl
    obtain ⟨o, es, ep, e1, hdd, _⟩ := F.ns
    rw [e1] at hPo; cases hPo
    rw [hdd] at hPd; cases hPd
  have N : News h₀ L s.heap (fullL h₀ s.heap [L]) := full_news (List.mem_cons_self ..)
  have hPm : TAt h₀ P oP (fullL h₀ s.heap [L]) := by
    cases q : h₀.get? P with
    | none => exact .inr (full_mem.mpr ⟨hPo, by simpa using hPL, q⟩)
    | some o' =>
      have := F.keep _ _ q
      rw [hPo] at this; cases this
      exact .inl q
  have hS := src_full (off := [L]) hl (by simpa using hDL) F.keep (fun p hp => hp)
  have hk0 := F.keep
  generalize hnw : fullL h₀ s.heap [L] = nw at N hPm hS
  have F1 := frm F (norm2 m m1 m2)
  conv in nth _ _ => whnf
  w_on
  repeat' ((fail_if_success (with_reducible show wpAny _ _ (eval (Expr.ListComp _ _ _ _) _) _ _ _)); first | walk1 | (dsimp only; walk1))
  refine ListComp_T (F₀ := F1) (by rfl) (by decide) (by rfl) (by decide) (by rfl) ?_
  refine ldN F1.ns (v := .ref P) (by rfl) ?_
  refine ⟨P, oP, _, _, nw, rfl, rfl, F1, N, hPm, hPc, hPd, by show 3 ≤ sizeLine; decide, fun g => ?_⟩
  refine LCg.CompRest.succ ?_
  intro v' I' oI' C' oC' D' m' h' tk' E' hv' hC' hx' F' N' off' ne'
  have ev : v' = x := (Option.some.inj hv').symm
  subst ev
  repeat' ((fail_if_success (with_reducible show wpAny _ _ (binaryOp _ _ _) _ _ _)); first | walk1 | (dsimp only; walk1))
  refine rnd_step rfl v1 r1 k1 ?_
  intro y1 t1 tk1 sg1 mm1 e1 hd1 hn1
  repeat' ((fail_if_success (with_reducible show wpAny _ _ (call (Value.type "int") _) _ _ _)); first | walk1 | (dsimp only; walk1))
  refine call_int_float hd1 ?_
  rw [hn1]
  refine LCg.CompEnd.intro F' N' nw (fun p hp => hp) off' hPm ?_
  clear hv' hC' hx' F' N' off' ne'
  refine LCg.CompRest.succ ?_
  intro v' I' oI' C' oC' D' m' h' tk' E' hv' hC' hx' F' N' off' ne'
  have ev : v' = y := (Option.some.inj hv').symm
  subst ev
  repeat' ((fail_if_success (with_reducible show wpAny _ _ (binaryOp _ _ _) _ _ _)); first | walk1 | (dsimp only; walk1))
  refine rnd_step rfl v2 r2 k2 ?_
  intro y1 t1 tk1 sg1 mm1 e1 hd1 hn1
  repeat' ((fail_if_success (with_reducible show wpAny _ _ (call (Value.type "int") _) _ _ _)); first | walk1 | (dsimp only; walk1))
  refine call_int_float hd1 ?_
  rw [hn1]
  refine LCg.CompEnd.intro F' N' nw (fun p hp => hp) off' hPm ?_
  clear hv' hC' hx' F' N' off' ne'
  refine LCg.CompRest.succ ?_
  intro v' I' oI' C' oC' D' m' h' tk' E' hv' hC' hx' F' N' off' ne'
  have ev : v' = z := (Option.some.inj hv').symm
  subst ev
  repeat' ((fail_if_success (with_reducible show wpAny _ _ (binaryOp _ _ _) _ _ _)); first | walk1 | (dsimp only; walk1))
  refine rnd_step rfl v3 r3 k3 ?_
  intro y1 t1 tk1 sg1 mm1 e1 hd1 hn1
  repeat' ((fail_if_success (with_reducible show wpAny _ _ (call (Value.type "int") _) _ _ _)); first | walk1 | (dsimp only; walk1))
  refine call_int_float hd1 ?_
  rw [hn1]
  refine LCg.CompEnd.intro F' N' nw (fun p hp => hp) off' hPm ?_
  clear hv' hC' hx' F' N' off' ne'
  refine LCg.CompRest.zero ?_
  intro D2 h2 tk2 F2 N2 o2
  have hk2 := N2 _ (List.mem_cons_self ..)
  have N3 : News h₀ L h2 nw := fun p hp => N2 p (List.mem_cons_of_mem _ hp)
  repeat' ((fail_if_success (with_reducible show wpAny _ _ (compareOp _ _ _) _ _ _)); first | walk1 | (dsimp only; walk1))
  refine ne_intsK (vs := [.int n1 _, .int n2 _, .int n3 _]) (ns := [n1, n2, n3]) ⟨_, hk2.1, rfl, _, rfl⟩ (IntsAre.cons _ _ (IntsAre.cons _ _ (IntsAre.cons _ _ IntsAre.nil))) (hS.list F2.keep N3) hi hu ?_
  rw [decide_eq_true rfl]
  repeat' ((fail_if_success (with_reducible show wpAny _ _ (Pure.pure _) _ _ _)); first | walk1 | (dsimp only; walk1))
  exact h _ _ (frm F2 (norm2 m m1 m2).symm) (kp_of F2 N3 hk0 (fun p hp => hnw ▸ hp))
end Mine

/-! I3 -/
namespace Mine
open PySem PySem.W PySem.Calls PyProof.Rows
set_option maxRecDepth 100000
set_option maxHeartbeats 8000000
theorem callBT {w : World} {A : Around} {s : Shared} {f : Value} {args : List Value} {P : Value → Heap → Prop} {Q : Value → Shared → Prop} {E : Value → Shared → Prop} (c : wpAny (model pw w) A (call f args) (BackT s P) (fun _ _ => False) s)
    (h : ∀ v h' tk, Ext s.heap h' → P v h' → tk ≠ 0 → Q v { s with heap := h', toks := tk }) : wpAny (model pw w) A (call f args) Q E s :=
  wpAny_mono c (fun v s' b => by obtain ⟨h', tk, rfl, x, p, q⟩ := b; exact h v h' tk x p q) (fun _ _ => False.elim)
theorem tup_ne {h : Heap} {L a : Addr} {m : Str → Option Value} {vs : Array Value} (F : h.Ns L m) (x : IsTup h a vs) : a ≠ L := by
  rintro rfl
  obtain ⟨o, es, ep, e1, hdd, _⟩ := F
  obtain ⟨o', e2, _, nn, hd'⟩ := x
  rw [e1] at e2; cases e2
  rw [hdd] at hd'; cases hd'
/-- told = rgb_to_hsv(due[0], due[1], due[2]) -/
theorem in3 {w : World} {mg mb : Str → Option Value} {d : Nat} {fr : Option (List Env)} {gu : Option (List Code)} {un : Nat} {s : Shared} {h₀ : Heap} (G : Gd w mg mb h₀) (hd : d < 900) {L fa c D : Addr} {m : Str → Option Value} {n1 n2 n3 : Int} {vs : List Value} {Q : Flow → Shared → Prop} {E : Value → Shared → Prop} (F : Fr h₀ L s.heap m)
    (m2 : m (Str.ofString "due") = some (.ref D)) (hl : s.heap.IsList D vs.toArray) (hi : IntsAre vs [n1, n2, n3]) (p1 : 0 ≤ n1 ∧ n1 < 2 ^ 60) (p2 : 0 ≤ n2 ∧ n2 < 2 ^ 60) (p3 : 0 ≤ n3 ∧ n3 < 2 ^ 60)
    (h : ∀ h' tk T x y z, Fr h₀ L h' (fun k => if k = Str.ofString "told" then some (.ref T) else m k) → Kp [L] s.heap h' → IsTup h' T #[x, y, z] → NmT x (rgbT n1 n2 n3).1 → NmT y (rgbT n1 n2 n3).2.1 → NmT z (rgbT n1 n2 n3).2.2 → Q .next { s with heap := h', toks := tk }) :
    wpAny (model pw w) ⟨none, d, fr, gu, un⟩ (exec (nth wheelB 3) (lawE L fa c)) Q E s := by
  have G0 := G
  obtain ⟨K, TT, GL⟩ := G
  have N : News h₀ L s.heap [] := News.nil
  have F1 := frm F (norm1 m m2)
  obtain ⟨u1, g1⟩ := hi.get 0 n1 rfl
  obtain ⟨u2, g2⟩ := hi.get 1 n2 rfl
  obtain ⟨u3, g3⟩ := hi.get 2 n3 rfl
  conv in nth _ _ => whnf
  w_on
  refine wpAny_Assign_Name ?_
  refine fcall G0 F.keep (f := 21) (o := ob21 w.params) (by kernel_rfl) (by kernel_rfl) rfl ?_
  clear F
  repeat' ((fail_if_success (with_reducible show wpAny _ _ (subscriptTail _ _ _ _) _ _ _)); first | walk1 | (dsimp only; walk1))
  refine subL hl (by decide) (by decide) (by simpa using g1) ?_
  repeat' ((fail_if_success (with_reducible show wpAny _ _ (subscriptTail _ _ _ _) _ _ _)); first | walk1 | (dsimp only; walk1))
  refine subL hl (by decide) (by decide) (by simpa using g2) ?_
  repeat' ((fail_if_success (with_reducible show wpAny _ _ (subscriptTail _ _ _ _) _ _ _)); first | walk1 | (dsimp only; walk1))
  refine subL hl (by decide) (by decide) (by simpa using g3) ?_
  repeat' ((fail_if_success (with_reducible show wpAny _ _ (call (Value.ref _) _) _ _ _)); first | walk1 | (dsimp only; walk1))
  have F := frm F1 (norm1 m m2).symm
  have cp := fun tk a b e' => @c_rgb w mg mb ⟨none, d, fr, gu, un⟩ { s with toks := tk } (G0.ext F.keep) rfl hd n1 n2 n3 a b e' p1.1 p2.1 p3.1 (by omega) (by omega) (by omega)
  refine callBT (cp _ _ _ _) (fun v h' tk x b _ => ?_)
  obtain ⟨P, x1, x2, x3, rfl, hP, q1, q2, q3⟩ := b
  have F2 := Fr.ext F x
  have hPL : P ≠ L := tup_ne F2.ns hP
  refine stL (env := lawE L fa c) F2 (fun h3 F3 s3 => ?_)
  exact h _ _ P _ _ _ F3 (x.kp.trans (SameBut.kp s3 (List.mem_cons_self ..))) (by obtain ⟨o, e1, r⟩ := hP; exact ⟨o, s3.extBut _ o hPL e1, r⟩) q1 q2 q3
end Mine

/-! I4 -/
namespace Mine
open PySem PySem.W PySem.Calls PyProof.Rows
set_option maxRecDepth 100000
set_option maxHeartbeats 8000000
local macro_rules | `(tactic| walk_at "binaryOp Mult float int") => `(tactic| (refine mul_fi_sharp rfl (fun ho => absurd ho (not_over (by assumption))) (fun _ => ?_)))
theorem in4 {w : World} {mg mb : Str → Option Value} {d : Nat} {fr : Option (List Env)} {gu : Option (List Code)} {un : Nat} {s : Shared} {h₀ : Heap} (G : Gd w mg mb h₀) {L fa c T M : Addr} {m : Str → Option Value} {x y z : Value} {tv : List Value} {Q : Flow → Shared → Prop} {E : Value → Shared → Prop} (F : Fr h₀ L s.heap m)
    (m1 : m (Str.ofString "told") = some (.ref T)) (m2 : m (Str.ofString "turns") = some (.ref M)) (hT : IsTup s.heap T #[x, y, z]) (hM : PlainL s.heap M tv.toArray) (hMn : h₀.get? M = none) (hv : tv.length ≤ 100)
    (h : ∀ h' tk, Fr h₀ L h' m → Kp [M] s.heap h' → PlainL h' M (tv ++ [x]).toArray → Q .next { s with heap := h', toks := tk }) :
    wpAny (model pw w) ⟨none, d, fr, gu, un⟩ (exec (nth wheelB 4) (lawE L fa c)) Q E s := by
  have G0 := G
  obtain ⟨K, TT, GL⟩ := G
  have N : News h₀ L s.heap [] := News.nil
  have F1 := frm F (norm2 m m1 m2)
  have hML := ns_ne F.ns hM.isList
  conv in nth _ _ => whnf
  w_on
  refine wpAny_Expr_any ?_
  refine wpAny_Call_append (by rfl) (by rfl) (by rfl) (by rfl) (ldN F.ns m2 ⟨M, _, rfl, hM, ?_⟩)
  clear F
  repeat' ((fail_if_success (with_reducible show wpAny _ _ (subscriptTail _ _ _ _) _ _ _)); first | walk1 | (dsimp only; walk1))
  refine item_tupleT (l := [x, y, z]) (j := 0) hT (by decide) (by decide) (by show seqIndex? 0 3 = some 0; decide) rfl ?_ (by with_unfolding_all rfl)
  repeat' ((fail_if_success (with_reducible show wpAny _ _ (call (Value.builtin "list.append") _) _ _ _)); first | walk1 | (dsimp only; walk1))
  refine list_append_plainL hM (fun h9 l9 s9 => ?_) (by rw [List.size_toArray]; exact Nat.le_trans hv (by decide))
  exact h _ _ ((frm F1 (norm2 m m1 m2).symm).change s9 hML hMn) (SameBut.kp s9 (List.mem_cons_self ..)) (by rw [← List.push_toArray]; exact l9)
theorem in5 {w : World} {mg mb : Str → Option Value} {d : Nat} {fr : Option (List Env)} {gu : Option (List Code)} {un : Nat} {s : Shared} {h₀ : Heap} (G : Gd w mg mb h₀) {L fa c T M : Addr} {m : Str → Option Value} {W : Nat} {hx : UInt64} {tx t3 : Tok} {y z : Value} {tv : List Value} {sg : Bool} {mm : Nat} {e : Int} {N0 : Int} {Q : Flow → Shared → Prop} {E : Value → Shared → Prop} (F : Fr h₀ L s.heap m)
    (m1 : m (Str.ofString "told") = some (.ref T)) (m2 : m (Str.ofString "marks") = some (.ref M)) (m3 : m (Str.ofString "wheel") = some (.int W t3)) (hT : IsTup s.heap T #[.float hx tx, y, z]) (hM : PlainL s.heap M tv.toArray) (hMn : h₀.get? M = none) (hv : tv.length ≤ 100) (hW : 63 ≤ W ∧ W ≤ 65)
    (hd1 : Float64.decode (Float64.add (Float64.mul hx (Float64.ofInt W)) 4602678819172646912) = .fin sg mm e) (hd2 : Float64.truncOf sg mm e = N0)
    (h : ∀ h' tk t, Fr h₀ L h' m → Kp [M] s.heap h' → PlainL h' M (tv ++ [Value.int N0 t]).toArray → Q .next { s with heap := h', toks := tk }) :
    wpAny (model pw w) ⟨none, d, fr, gu, un⟩ (exec (nth wheelB 5) (lawE L fa c)) Q E s := by
  have G0 := G
  obtain ⟨K, TT, GL⟩ := G
  have N : News h₀ L s.heap [] := News.nil
  have F1 := frm F (norm3 m m1 m2 m3)
  have hML := ns_ne F.ns hM.isList
  have p1 : ((W : Nat) : Int).natAbs < 2 ^ 60 := by omega
  conv in nth _ _ => whnf
  w_on
  refine wpAny_Expr_any ?_
  refine wpAny_Call_append (by rfl) (by rfl) (by rfl) (by rfl) (ldN F.ns m2 ⟨M, _, rfl, hM, ?_⟩)
  clear F
  repeat' ((fail_if_success (with_reducible show wpAny _ _ (subscriptTail _ _ _ _) _ _ _)); first | walk1 | (dsimp only; walk1))
  refine item_tupleT (l := [.float hx tx, y, z]) (j := 0) hT (by decide) (by decide) (by show seqIndex? 0 3 = some 0; decide) rfl ?_ (by with_unfolding_all rfl)
  repeat' ((fail_if_success (with_reducible show wpAny _ _ (call (Value.type "int") _) _ _ _)); first | walk1 | (dsimp only; walk1))
  refine call_int_float hd1 ?_
  rw [hd2]
  repeat' ((fail_if_success (with_reducible show wpAny _ _ (call (Value.builtin "list.append") _) _ _ _)); first | walk1 | (dsimp only; walk1))
  refine list_append_plainL hM (fun h9 l9 s9 => ?_) (by rw [List.size_toArray]; exact Nat.le_trans hv (by decide))
  exact h _ _ _ ((frm F1 (norm3 m m1 m2 m3).symm).change s9 hML hMn) (SameBut.kp s9 (List.mem_cons_self ..)) (by rw [← List.push_toArray]; exact l9)
end Mine

/-! I6 -/
namespace Mine
open PySem PySem.W PySem.Calls PyProof.Rows
set_option maxRecDepth 100000
set_option maxHeartbeats 8000000
local macro_rules | `(tactic| walk_at "binaryOp Mult int int") => `(tactic| first | (refine PyProof.Rows.mul_int ?_ (IntMulOk.of_left (by first | decide | exact bits60 (by assumption)))) | (refine PyProof.Rows.mul_int ?_ (IntMulOk.of_right (by first | decide | exact bits60 (by assumption)))))
theorem none_booked {w : World} {mg mb : Str → Option Value} {h : Heap} (G : Gd w mg mb h) : NoneBooked h := by
  have h2 : h.get? cStatics = some (boot_o_2 w.params) := G.K cStatics _ (by kernel_rfl)
  refine ⟨h.nsMap cStatics, Heap.Ns.of_isNs ?_, ?_⟩
  · unfold Heap.isNs
    rw [h2]
    kernel_rfl
  · unfold Heap.nsMap
    rw [h2]
    kernel_rfl
theorem booked_ext {h h' : Heap} (b : NoneBooked h) (x : Ext h h') : NoneBooked h' := let ⟨mc, n, e⟩ := b; ⟨mc, n.keeps x, e⟩
theorem same_flt {M : Model} {A : Around} {E : Value → Shared → Prop} {s : Shared} {y z : UInt64} {u v : Tok} {Q : Bool → Shared → Prop}
    (h1 : u ≠ 0) (h2 : v ≠ 0) (hb : NoneBooked s.heap) (hq : ∀ b, Q b s) : wpAny M A (isSame (.float y u) (.float z v)) Q E s := by
  show wpAny M A (isSame.created (y == z && !Float64.isNaN y) u v) Q E s
  unfold isSame.created
  have h0 : (u == 0 || v == 0) = false := by simp [h1, h2]
  refine wpAny_ite ?_
  split
  · rename_i h; rw [h0] at h; exact absurd h Bool.false_ne_true
  refine wpAny_ite ?_
  split
  · exact wpAny_pure (hq _)
  refine wpAny_ite ?_
  split
  · exact wpAny_pure (hq _)
  refine wpAny_bind (wpAny_sharingNotTold_none hb ?_)
  rw [if_neg Bool.false_ne_true]
  refine wpAny_bind (wpAny_sharingNotTold_none hb ?_)
  rw [if_neg Bool.false_ne_true]
  exact wpAny_bind (wpAny_rule (wpAny_bind (wpAny_askSetting (wpAny_pure (hq _)))))
theorem eqAt_flt {A : Around} {s : Shared} {a : UInt64} {t u : Tok} (ht : t ≠ 0) (hu : u ≠ 0) (hb : NoneBooked s.heap) (hc : (Float64.cmp a a == some Ordering.eq) = true) : SeqAt.EqAt A s (.float a t) (.float a u) true := fun prog w E Q h => by
  unfold eqBool
  refine wpAny_holding ?_
  refine wpAny_ite_split (fun _ => ?_) (fun _ => ?_)
  · exact wpAny_bind (wpAny_rule (wpAny_pure h))
  · refine wpAny_bind (same_flt ht hu hb fun b => ?_)
    cases b
    · show wpAny _ _ (richCompare .Eq (.float a t) (.float a u) >>= fun x => truthOfDropped x) _ _ _
      refine wpAny_bind (AutoFloatOps.eq_0 ?_)
      rw [hc]
      exact wpAny_truthy_bool h
    · exact wpAny_pure h
theorem in6 {w : World} {mg mb : Str → Option Value} {d : Nat} {fr : Option (List Env)} {gu : Option (List Code)} {un : Nat} {s : Shared} {h₀ : Heap} (G : Gd w mg mb h₀) {L fa c T : Addr} {m : Str → Option Value} {W sz : Nat} {sh : Int} {hx : UInt64} {tx ty tz t1 t2 t3 : Tok} {Q : Flow → Shared → Prop} {E : Value → Shared → Prop} (F : Fr h₀ L s.heap m)
    (m1 : m (Str.ofString "told") = some (.ref T)) (m2 : m (Str.ofString "share") = some (.int sh t1)) (m3 : m (Str.ofString "wheel") = some (.int W t2)) (m4 : m (Str.ofString "size") = some (.int sz t3)) (hT : IsTup s.heap T #[.float hx tx, .float (dv sh 2) ty, .int (2 * W * sz) tz]) (hW : 63 ≤ W ∧ W ≤ 65) (hs : sh = 1 ∨ sh = 2) (hu : un + 64 < cLine) (hy : ty ≠ 0) (hz : sz = 1 ∨ sz = 2 ∨ sz = 3)
    (hc1 : (Float64.cmpInt hx 0 == some .gt || Float64.cmpInt hx 0 == some .eq) = true) (hc2 : (Float64.cmpInt hx 1 == some .lt) = true)
    (h : ∀ h' tk, Fr h₀ L h' m → Kp [L] s.heap h' → Q .next { s with heap := h', toks := tk }) :
    wpAny (model pw w) ⟨none, d, fr, gu, un⟩ (exec (nth wheelB 6) (lawE L fa c)) Q E s := by
  have G0 := G
  obtain ⟨K, TT, GL⟩ := G
  have N : News h₀ L s.heap (fullL h₀ s.heap [L]) := full_news (List.mem_cons_self ..)
  have hk0 := F.keep
  have hTL := tup_ne F.ns hT
  generalize hnw : fullL h₀ s.heap [L] = nw at N
  have F1 := frm F (norm4 m m1 m2 m3 m4)
  have p2 : (2 : Int).natAbs < 2 ^ 60 := by decide
  have p3 : (2 * (W : Int)).natAbs < 2 ^ 60 := by omega
  conv in nth _ _ => whnf
  w_on
  clear F
  repeat' ((fail_if_success (with_reducible show wpAny _ _ (subscriptTail _ _ _ _) _ _ _)); first | walk1 | (dsimp only; walk1))
  have F2 : Fr h₀ L ({ s with toks := s.toks + 1 } : Shared).heap _ := F1
  refine slice_tuple_from (s := { s with toks := s.toks + 1 }) (a := 1) F2 N hT (by decide) (by show 1 ≤ 3; decide) (fun h1 F3 N3 => ?_) (by with_unfolding_all rfl) (by intro _; with_unfolding_all rfl) (by show 3 ≤ sizeLine; decide)
  clear F1 F2 N
  repeat' ((fail_if_success (with_reducible show wpAny _ _ (compareOp _ _ _) _ _ _)); first | walk1 | (dsimp only; walk1))
  rename Fr _ _ _ _ => F4
  rename News _ _ _ _ => N4
  have z1 := (N4 _ (List.mem_cons_self ..)).1
  have z2 := (N4 _ (List.mem_cons_of_mem _ (List.mem_cons_self ..))).1
  have nb := booked_ext (none_booked G0) F4.keep
  have hce : (Float64.cmp (dv sh 2) (dv sh 2) == some Ordering.eq) = true := by rcases hs with rfl | rfl <;> decide +kernel
  refine SeqAt.RcNeAt.tuples (e := fun _ => true) ⟨_, z2, rfl, _, rfl⟩ ⟨_, z1, rfl, _, rfl⟩ (Nat.lt_of_le_of_lt (Nat.le_add_right _ _) hu) (fun j h1 h2 => ?_) pw w E _ ?_
  · have : j = 0 ∨ j = 1 := by
      have : j < 2 := h2
      omega
    rcases this with rfl | rfl
    · exact eqAt_flt hy (Nat.succ_ne_zero _) nb hce
    · have q : ((2 * (W : Int) * sz) == (2 * (W : Int) * sz)) = true := beq_self_eq_true _
      have := fun t u s A => SeqAt.EqAt.int_int (A := A) (s := s) (2 * (W : Int) * sz) t (2 * (W : Int) * sz) u
      rw [q] at this
      exact this _ _ _ _
  · show wpAny _ _ (truthy (Value.bool false)) _ _ _
    have hT4 : IsTup _ T _ := (by obtain ⟨o, e1, r⟩ := hT; exact ⟨o, kp_of F4 (fun p hp => N4 p (List.mem_cons_of_mem _ (List.mem_cons_of_mem _ hp))) hk0 (fun p hp => hnw ▸ hp) T o (by simpa using hTL) e1, r⟩ : IsTup _ T #[.float hx tx, .float (dv sh 2) ty, .int (2 * W * sz) tz])
    repeat' ((fail_if_success (with_reducible show wpAny _ _ (subscriptTail _ _ _ _) _ _ _)); first | walk1 | (dsimp only; walk1))
    refine item_tupleT (l := [.float hx tx, .float (dv sh 2) ty, .int (2 * W * sz) tz]) (j := 0) hT4 (by decide) (by decide) (by show seqIndex? 0 3 = some 0; decide) rfl ?_ (by with_unfolding_all rfl)
    repeat' ((fail_if_success (with_reducible show wpAny _ _ (compareOp _ _ _) _ _ _)); first | walk1 | (dsimp only; walk1))
    refine le_if ?_
    rw [hc1]
    repeat' ((fail_if_success (with_reducible show wpAny _ _ (compareOp _ _ _) _ _ _)); first | walk1 | (dsimp only; walk1))
    refine lt_fi ?_
    rw [hc2]
    repeat' ((fail_if_success (with_reducible show wpAny _ _ (Pure.pure _) _ _ _)); first | walk1 | (dsimp only; walk1))
    exact h _ _ (frm F4 (norm4 m m1 m2 m3 m4).symm) (kp_of F4 (fun p hp => N4 p (List.mem_cons_of_mem _ (List.mem_cons_of_mem _ hp))) hk0 (fun p hp => hnw ▸ hp))
end Mine

/-! WHue3 -/
namespace Mine
open PySem PySem.W PySem.Calls PyProof.Rows
set_option maxRecDepth 100000
open PySem.Float64
theorem chk_of {W a p : Nat} (h : chk W a = true) (h1 : a ≤ p) (h2 : p < a + 8) (h3 : p < W) : hueOk W p = true ∧ markOk W p = true ∧ nearOk W p = true := by
  have := List.all_eq_true.mp h (p - a) (List.mem_range.mpr (by omega))
  rw [show a + (p - a) = p by omega, if_pos h3] at this
  simp only [Bool.and_eq_true] at this
  exact ⟨this.1.1, this.1.2, this.2⟩
/-- what the finite checks say of one part of one wheel -/
theorem wheel_ok {W : Nat} (hW : W = 63 ∨ W = 64 ∨ W = 65) {p : Nat} (hp : p < W) : hueOk W p = true ∧ markOk W p = true ∧ nearOk W p = true := by
  have hq : p / 8 = 0 ∨ p / 8 = 1 ∨ p / 8 = 2 ∨ p / 8 = 3 ∨ p / 8 = 4 ∨ p / 8 = 5 ∨ p / 8 = 6 ∨ p / 8 = 7 ∨ p / 8 = 8 := by omega
  rcases hW with rfl | rfl | rfl
  · rcases hq with q | q | q | q | q | q | q | q | q
    · exact chk_of chk63_0 (by omega) (by omega) hp
    · exact chk_of chk63_8 (by omega) (by omega) hp
    · exact chk_of chk63_16 (by omega) (by omega) hp
    · exact chk_of chk63_24 (by omega) (by omega) hp
    · exact chk_of chk63_32 (by omega) (by omega) hp
    · exact chk_of chk63_40 (by omega) (by omega) hp
    · exact chk_of chk63_48 (by omega) (by omega) hp
    · exact chk_of chk63_56 (by omega) (by omega) hp
    · omega
  · rcases hq with q | q | q | q | q | q | q | q | q
    · exact chk_of chk64_0 (by omega) (by omega) hp
    · exact chk_of chk64_8 (by omega) (by omega) hp
    · exact chk_of chk64_16 (by omega) (by omega) hp
    · exact chk_of chk64_24 (by omega) (by omega) hp
    · exact chk_of chk64_32 (by omega) (by omega) hp
    · exact chk_of chk64_40 (by omega) (by omega) hp
    · exact chk_of chk64_48 (by omega) (by omega) hp
    · exact chk_of chk64_56 (by omega) (by omega) hp
    · omega
  · rcases hq with q | q | q | q | q | q | q | q | q
    · exact chk_of chk65_0 (by omega) (by omega) hp
    · exact chk_of chk65_8 (by omega) (by omega) hp
    · exact chk_of chk65_16 (by omega) (by omega) hp
    · exact chk_of chk65_24 (by omega) (by omega) hp
    · exact chk_of chk65_32 (by omega) (by omega) hp
    · exact chk_of chk65_40 (by omega) (by omega) hp
    · exact chk_of chk65_48 (by omega) (by omega) hp
    · exact chk_of chk65_56 (by omega) (by omega) hp
    · exact chk_of chk65_64 (by omega) (by omega) hp
theorem hue_rgb {W : Nat} (hW : W = 63 ∨ W = 64 ∨ W = 65) {p : Nat} (hp : p < W) {share size : Nat} (hs : share = 1 ∨ share = 2) (hz : size = 1 ∨ size = 2 ∨ size = 3) :
    rgbT (dueAt p W share size 0) (dueAt p W share size W) (dueAt p W share size (2 * W)) = (.f (hueF W p), .f (dv share 2), .i (2 * W * size)) := by
  have h := (wheel_ok hW hp).1
  unfold hueOk at h
  have h1 : ([1, 2, 3].all fun size : Nat => nm3B (rgbOf (paintL p W share size)) (.f (hueF W p), .f (dv share 2), .i (2 * W * size))) = true := by
    have := List.all_eq_true.mp h share (by rcases hs with rfl | rfl <;> simp)
    exact this
  have h2 := List.all_eq_true.mp h1 size (by rcases hz with rfl | rfl | rfl <;> simp)
  exact nm3B_eq h2
theorem hue_cmp {W : Nat} (hW : W = 63 ∨ W = 64 ∨ W = 65) {p : Nat} (hp : p < W) : (cmpInt (hueF W p) 0 == some .gt || cmpInt (hueF W p) 0 == some .eq) = true ∧ (cmpInt (hueF W p) 1 == some .lt) = true := by
  have h := (wheel_ok hW hp).2.2
  unfold nearOk at h
  simp only [Bool.and_eq_true] at h
  exact ⟨h.1.1.1, h.1.1.2⟩
theorem hue_near {W : Nat} (hW : W = 63 ∨ W = 64 ∨ W = 65) {p : Nat} (hp : p < W) : Near W p 1 (hueF W p) := by
  obtain ⟨c1, c2⟩ := hue_cmp hW hp
  have h := (wheel_ok hW hp).2.2
  unfold nearOk at h
  simp only [Bool.and_eq_true, decide_eq_true_eq] at h
  have h4 := h.2
  refine ⟨?_, ?_⟩
  · unfold cmpInt at c1 c2
    revert c1 c2
    cases hd : decode (hueF W p) with
    | nan => intro c1 _; exact absurd c1 (by decide)
    | inf a => cases a <;> intro c1 c2 <;> first | exact absurd c1 (by decide) | exact absurd c2 (by decide)
    | fin s m e => intro _ _; exact ⟨s, m, e, rfl⟩
  · refine Nat.le_trans h4 ?_
    rw [Nat.one_mul]
    unfold EE
    exact Nat.pow_le_pow_right (by decide) (by decide)
theorem hue_mark {W : Nat} (hW : W = 63 ∨ W = 64 ∨ W = 65) {p : Nat} (hp : p < W) : ∃ sg m e, decode (Float64.add (Float64.mul (hueF W p) (ofInt W)) 4602678819172646912) = .fin sg m e ∧ truncOf sg m e = p := by
  have h := (wheel_ok hW hp).2.1
  unfold markOk at h
  have h := of_decide_eq_true h
  have a1 := (hue_near hW hp).mul (int_near (i := (W : Int)) (by omega)) (A := 1) (A' := W + 1) (by omega) (by decide) (by simp only [Int.natAbs_natCast]; omega) (by simp only [Int.natAbs_natCast]; omega) (by omega)
  have a2 := (a1.scale 2).add ((near_half.scale W).mono (c' := W) (by omega) |> fun x => (show Near (2 * (W * 1)) (W * 1) W _ from by rw [show 2 * (W * 1) = W * 2 by omega]; exact x)) (A := 1000) (A' := 1) (by omega) (by
    rcases hW with rfl | rfl | rfl <;> simp only [Int.natAbs_natCast] at * <;> omega) (by rcases hW with rfl | rfl | rfl <;> omega) (by decide)
  obtain ⟨sg, m, e, hd⟩ := a2.1
  exact ⟨sg, m, e, hd, by rw [truncF_eq hd] at h; exact h⟩
end Mine

/-! I7 -/
namespace Mine
open PySem PySem.W PySem.Calls PyProof.Rows
set_option maxRecDepth 100000
set_option maxHeartbeats 8000000
theorem lK {h h' : Heap} {L a : Addr} {m : Str → Option Value} {vs : Array Value} (F : h.Ns L m) (x : h.IsList a vs) (k : Kp [L] h h') : h'.IsList a vs := by
  have := ns_ne F x
  obtain ⟨o, e, r⟩ := x
  exact ⟨o, k a o (by simpa using this) e, r⟩
theorem pK {h h' : Heap} {L a : Addr} {m : Str → Option Value} {vs : Array Value} (F : h.Ns L m) (x : PlainL h a vs) (k : Kp [L] h h') : PlainL h' a vs := by
  have := ns_ne F x.isList
  obtain ⟨o, n, e, r⟩ := x
  exact ⟨o, n, k a o (by simpa using this) e, r⟩
theorem tK {h h' : Heap} {L a : Addr} {m : Str → Option Value} {vs : Array Value} (F : h.Ns L m) (x : IsTup h a vs) (k : Kp [L] h h') : IsTup h' a vs := by
  have := tup_ne F x
  obtain ⟨o, e, r⟩ := x
  exact ⟨o, k a o (by simpa using this) e, r⟩
theorem tl_ne {h : Heap} {a b : Addr} {vs ws : Array Value} (x : IsTup h a vs) (y : PlainL h b ws) : a ≠ b := by
  rintro rfl
  obtain ⟨o, e, c, _⟩ := x
  obtain ⟨o', n, e', c', _⟩ := y
  rw [e] at e'; cases e'
  rw [c] at c'
  exact absurd c' (by decide)
theorem pM {h h' : Heap} {a M : Addr} {vs : Array Value} (hne : a ≠ M) (x : PlainL h a vs) (k : Kp [M] h h') : PlainL h' a vs := by
  obtain ⟨o, n, e, r⟩ := x
  exact ⟨o, n, k a o (by simpa using hne) e, r⟩
theorem tM {h h' : Heap} {a M : Addr} {vs : Array Value} (hne : a ≠ M) (x : IsTup h a vs) (k : Kp [M] h h') : IsTup h' a vs := by
  obtain ⟨o, e, r⟩ := x
  exact ⟨o, k a o (by simpa using hne) e, r⟩
theorem hsvT_ints (h s : UInt64) (v : Int) : (∀ k, (hsvT h s v).1 = .i k → k = v) ∧ (∀ k, (hsvT h s v).2.1 = .i k → k = v) ∧ (∀ k, (hsvT h s v).2.2 = .i k → k = v) := by
  unfold hsvT
  dsimp only
  (repeat' split) <;> refine ⟨?_, ?_, ?_⟩ <;> intro k e <;> cases e <;> rfl
/-- one turn of the loop over the wheels -/
theorem turn9 {w : World} {mg mb : Str → Option Value} {d : Nat} {fr : Option (List Env)} {gu : Option (List Code)} {un : Nat} {s : Shared} {h₀ : Heap} (G : Gd w mg mb h₀) (hd : d < 900) (hu : un + 64 < cLine) {L fa c D M T : Addr} {m : Str → Option Value} {W sz i part p' sh : Nat} {V n : Int} {dv' mv tv : List Value} {t1 t2 t3 t4 t5 t6 t7 : Tok} {Q : Flow → Shared → Prop} {E : Value → Shared → Prop} (F : Fr h₀ L s.heap m)
    (m1 : m (Str.ofString "whole") = some (.int V t1)) (m2 : m (Str.ofString "wheel") = some (.int W t2)) (m3 : m (Str.ofString "share") = some (.int sh t3)) (m4 : m (Str.ofString "size") = some (.int sz t4)) (m5 : m (Str.ofString "hue") = some (.float (hueF W part) t5)) (m6 : m (Str.ofString "numbers") = some (.ref D)) (m7 : m (Str.ofString "place") = some (.int i t6)) (m8 : m (Str.ofString "marks") = some (.ref M)) (m9 : m (Str.ofString "turns") = some (.ref T))
    (hl : s.heap.IsList D dv'.toArray) (hv : dv'[i]? = some (.int n t7)) (hi : i < 10) (hM : PlainL s.heap M mv.toArray) (hMn : h₀.get? M = none) (hT : PlainL s.heap T tv.toArray) (hTn : h₀.get? T = none) (hMT : M ≠ T) (hmv : mv.length ≤ 100) (htv : tv.length ≤ 100)
    (hW : W = 63 ∨ W = 64 ∨ W = 65) (hs : sh = 1 ∨ sh = 2) (hz : sz = 1 ∨ sz = 2 ∨ sz = 3) (hp : part < W) (hp' : p' < W) (n0 : 0 ≤ n) (n1 : n < ((64 ^ sz : Nat) : Int)) (hV : V.fmod W = p') (hV' : ((part : Int) * ((64 ^ sz : Nat) : Int) + n).fmod W = p')
    (h : ∀ h' tk m' A (x y u1 u2 u3 : Tok), Fr h₀ L h' m' → (∀ k, k ≠ Str.ofString "due" → k ≠ Str.ofString "paint" → k ≠ Str.ofString "told" → m' k = m k) → m' (Str.ofString "told") = some (.ref A) → IsTup h' A #[.float (hueF W p') u1, .float (dv sh 2) u2, .int (2 * W * sz) u3] → Kp [L, M, T] s.heap h' → PlainL h' M (mv ++ [Value.int p' x]).toArray → PlainL h' T (tv ++ [Value.float (hueF W p') y]).toArray → Q .next { s with heap := h', toks := tk }) :
    wpAny (model pw w) ⟨none, d, fr, gu, un⟩ (execs wheelB (lawE L fa c)) Q E s := by
  have hW2 : 63 ≤ W ∧ W ≤ 65 := by omega
  have hsI : (sh : Int) = 1 ∨ (sh : Int) = 2 := by omega
  have hK : (64 ^ sz = 64 ∨ 64 ^ sz = 4096 ∨ 64 ^ sz = 262144) := by rcases hz with rfl | rfl | rfl <;> decide
  have hn60 : n.natAbs < 2 ^ 60 := by rcases hK with e | e | e <;> rw [e] at n1 <;> omega
  obtain ⟨sg, mm, e, d1, d2, r1, r2, r3⟩ := hsv_due (share := sh) hW2 hK hz hsI (Int.natCast_nonneg part) (by omega) n0 n1 (hue_near hW hp)
  rw [hV'] at r1 r2 r3
  have hrgb := hue_rgb hW hp' hs hz
  have hdue : ∀ cc : Int, 0 ≤ dueAt p' W sh sz cc ∧ dueAt p' W sh sz cc < 2 ^ 60 := by
    intro cc
    rw [due_colr]
    have hc : 0 ≤ colr p' W cc ∧ colr p' W cc ≤ W := by unfold colr mx2 mn2; split <;> split <;> omega
    rcases hs with rfl | rfl <;> rcases hz with rfl | rfl | rfl <;> omega
  have eB : wheelB = [nth wheelB 0, nth wheelB 1, nth wheelB 2, nth wheelB 3, nth wheelB 4, nth wheelB 5, nth wheelB 6] := by kernel_rfl
  rw [eB]
  refine wpAny_execs_cons (in0 G hd F m1 m2 m3 m4 hW2 (by omega) (by omega) (fun h1 tk1 Du du F1 k1 lD iD => ?_))
  rw [hV] at iD
  have lN1 := lK F.ns hl k1
  have pM1 := pK F.ns hM k1
  have pT1 := pK F.ns hT k1
  refine wpAny_execs_cons (in1 G hd (s := { s with heap := h1, toks := tk1 }) F1 (by rw [if_neg (by decide)]; exact m5) (by rw [if_neg (by decide)]; exact m4) (by rw [if_neg (by decide)]; exact m6) (by rw [if_neg (by decide)]; exact m7) (by rw [if_neg (by decide)]; exact m2) (by rw [if_neg (by decide)]; exact m3) lN1 hv hi hn60 hW2 hsI hz d1 d2 (fun h2 tk2 P x y z F2 k2 tP v1 v2 v3 => ?_))
  have lD2 := lK F1.ns lD k2
  have pM2 := pK F1.ns pM1 k2
  have pT2 := pK F1.ns pT1 k2
  refine wpAny_execs_cons (in2 G hd hu (s := { s with heap := h2, toks := tk2 }) F2 (P := P) (D := Du) (by rfl) (by rfl) tP v1 v2 v3 r1 r2 r3 ?_ ?_ ?_ lD2 iD (fun h3 tk3 F3 k3 => ?_))
  · intro k ek; rw [(hsvT_ints _ _ _).1 k ek]; rcases hz with rfl | rfl | rfl <;> omega
  · intro k ek; rw [(hsvT_ints _ _ _).2.1 k ek]; rcases hz with rfl | rfl | rfl <;> omega
  · intro k ek; rw [(hsvT_ints _ _ _).2.2 k ek]; rcases hz with rfl | rfl | rfl <;> omega
  have lD3 := lK F2.ns lD2 k3
  have pM3 := pK F2.ns pM2 k3
  have pT3 := pK F2.ns pT2 k3
  refine wpAny_execs_cons (in3 G hd (s := { s with heap := h3, toks := tk3 }) F3 (by rfl) lD3 iD (hdue _) (hdue _) (hdue _) (fun h4 tk4 A x4 y4 z4 F4 k4 tA w1 w2 w3 => ?_))
  rw [hrgb] at w1 w2 w3
  obtain ⟨u1, rfl, hu1⟩ := w1
  obtain ⟨u2, rfl, hu2⟩ := w2
  obtain ⟨u3, rfl⟩ := w3
  have pM4 := pK F3.ns pM3 k4
  have pT4 := pK F3.ns pT3 k4
  have m' : ∀ k, k ≠ Str.ofString "due" → k ≠ Str.ofString "paint" → k ≠ Str.ofString "told" → (fun k => if k = Str.ofString "told" then some (Value.ref A) else if k = Str.ofString "paint" then some (Value.ref P) else if k = Str.ofString "due" then some (Value.ref Du) else m k) k = m k := fun k e1 e2 e3 => by dsimp only; rw [if_neg e3, if_neg e2, if_neg e1]
  have hAM := tl_ne tA pM4
  have hAT := tl_ne tA pT4
  refine wpAny_execs_cons (in4 G (s := { s with heap := h4, toks := tk4 }) F4 (by rfl) ((m' _ (by decide) (by decide) (by decide)).trans m9) tA pT4 hTn htv (fun h5 tk5 F5 k5 pT5 => ?_))
  have tA5 := tM hAT tA k5
  have pM5 := pM hMT pM4 k5
  obtain ⟨sg', mm', e', hm1, hm2⟩ := hue_mark hW hp'
  refine wpAny_execs_cons (in5 G (s := { s with heap := h5, toks := tk5 }) F5 (by rfl) ((m' _ (by decide) (by decide) (by decide)).trans m8) ((m' _ (by decide) (by decide) (by decide)).trans m2) tA5 pM5 hMn hmv hW2 hm1 hm2 (fun h6 tk6 t6 F6 k6 pM6 => ?_))
  have tA6 := tM hAM tA5 k6
  have pT6 := pM (Ne.symm hMT) pT5 k6
  obtain ⟨c1, c2⟩ := hue_cmp hW hp'
  refine wpAny_execs_cons (in6 G (s := { s with heap := h6, toks := tk6 }) F6 (by rfl) ((m' _ (by decide) (by decide) (by decide)).trans m3) ((m' _ (by decide) (by decide) (by decide)).trans m2) ((m' _ (by decide) (by decide) (by decide)).trans m4) tA6 hW2 hsI hu hu2 hz c1 c2 (fun h7 tk7 F7 k7 => ?_))
  refine wpAny_execs_nil ?_
  have s1 : ∀ q ∈ [L], q ∈ [L, M, T] := fun q hq => by rw [List.mem_singleton.mp hq]; simp
  have s2 : ∀ q ∈ [M], q ∈ [L, M, T] := fun q hq => by rw [List.mem_singleton.mp hq]; simp
  have s3 : ∀ q ∈ [T], q ∈ [L, M, T] := fun q hq => by rw [List.mem_singleton.mp hq]; simp
  exact h _ _ _ A _ _ _ _ _ F7 m' (by rfl) (tK F6.ns tA6 k7) ((k1.mono s1).trans ((k2.mono s1).trans ((k3.mono s1).trans ((k4.mono s1).trans ((k5.mono s3).trans ((k6.mono s2).trans (k7.mono s1))))))) (pK F6.ns pM6 k7) (pK F6.ns pT6 k7)
end Mine

/-! WZip -/
namespace Mine
open PySem PySem.W PySem.Calls PyProof.Rows
set_option maxRecDepth 100000
set_option maxHeartbeats 4000000
section
variable {prog : Program} {w : World} {A : Around} {E : Value → Shared → Prop} {s : Shared}
theorem nextOf_tup {it t : Addr} {i : Nat} {items : Array Value} {x : Value} {Q : Value → Shared → Prop} (hit : s.heap.IsTupleIter it t i) (ht : s.heap.IsTuple t items) (hx : items[i]? = some x)
    (hQ : ∀ h', h'.IsTupleIter it t (i + 1) → Heap.SameBut it s.heap h' → Q x { s with heap := h' }) : wpAny (model prog w) A (Builtin.SmallTypes.nextOf (.ref it)) Q E s := by
  obtain ⟨o, ho, hc, hd⟩ := id hit
  obtain ⟨ol, hol, _, nl, hdl⟩ := ht
  unfold Builtin.SmallTypes.nextOf
  refine wpAny_bind (wpAny_callSpecial?_slot (name := Str.ofString "__next__") hit.typeIs F.slot_tuple_iterator_next (wpAny_call_entry F.slot_tuple_iterator_next hit.typeIs F.entry_tuple_iterator_next ?_ (F.args_tuple_iterator_next_1 _)))
  show wpAny _ _ (field (.ref it) 0 >>= _) _ _ s
  refine wpAny_bind (wpAny_field ho hd (x := .ref t) rfl ?_)
  show wpAny _ _ (if (Value.ref t == Value.none) = true then _ else _) _ _ s
  rw [if_neg (show ¬ ((Value.ref t == Value.none) = true) from Bool.false_ne_true)]
  show wpAny _ _ (field (.ref it) 1 >>= _) _ _ s
  refine wpAny_bind (wpAny_field ho hd (x := .int i 0) rfl ?_)
  show wpAny _ _ (seqItems? (.ref t) >>= _) _ _ s
  refine wpAny_bind (wpAny_seqItems hol hdl ?_)
  simp only [Int.toNat_natCast, hx]
  refine wpAny_bind (wpAny_setField ho hd (by simp) (wpAny_pure ⟨x, rfl, wpAny_pure (hQ _ ?_ (Heap.SameBut.update ..))⟩))
  exact ⟨_, Heap.get?_update_self _ ho (Obj.isFreed_of_fields (Obj.data_mapFields hd _)), (Obj.cls_mapFields ..).trans hc, by rw [Obj.data_mapFields hd]; simp [rawInt]⟩
theorem nextOf_tup_end {it t : Addr} {i : Nat} {items : Array Value} {Q : Value → Shared → Prop} (hh : A.handled = none) (hit : s.heap.IsTupleIter it t i) (ht : s.heap.IsTuple t items) (hx : items[i]? = none)
    (hE : ∀ h' e, Heap.ExtBut it s.heap h' → (∃ o, h'.get? e = some o ∧ o.cls = .type "StopIteration") → E (.ref e) { s with heap := h' }) : wpAny (model prog w) A (Builtin.SmallTypes.nextOf (.ref it)) Q E s := by
  obtain ⟨o, ho, hc, hd⟩ := id hit
  obtain ⟨ol, hol, _, nl, hdl⟩ := ht
  unfold Builtin.SmallTypes.nextOf
  refine wpAny_bind (wpAny_callSpecial?_slot (name := Str.ofString "__next__") hit.typeIs F.slot_tuple_iterator_next (wpAny_call_entry F.slot_tuple_iterator_next hit.typeIs F.entry_tuple_iterator_next ?_ (F.args_tuple_iterator_next_1 _)))
  show wpAny _ _ (field (.ref it) 0 >>= _) _ _ s
  refine wpAny_bind (wpAny_field ho hd (x := .ref t) rfl ?_)
  show wpAny _ _ (if (Value.ref t == Value.none) = true then _ else _) _ _ s
  rw [if_neg (show ¬ ((Value.ref t == Value.none) = true) from Bool.false_ne_true)]
  show wpAny _ _ (field (.ref it) 1 >>= _) _ _ s
  refine wpAny_bind (wpAny_field ho hd (x := .int i 0) rfl ?_)
  show wpAny _ _ (seqItems? (.ref t) >>= _) _ _ s
  refine wpAny_bind (wpAny_seqItems hol hdl ?_)
  simp only [Int.toNat_natCast, hx]
  refine wpAny_bind (wpAny_rule (wpAny_bind (wpAny_setField ho hd (by simp) ?_)))
  show wpAny _ _ (newExc (.type "StopIteration") [] >>= _) _ _ _
  refine wpAny_bind ?_
  simp only [newExc, newTuple]
  refine wpAny_bind (wpAny_newObj_type ?_ (by size_fits))
  refine wpAny_bind (m := firstArgMember _ _) (wpAny_of_eq (a := Value.none) (by first | rfl | (simp only [firstArgMember]; rfl)) ?_)
  refine wpAny_newObj_type ?_ (by size_fits)
  simp only [raiseNew]
  refine wpAny_bind (wpAny_handled ?_)
  first | rw [show A.in1.handled = none from hh] | rw [hh]
  refine wpAny_bind (wpAny_pure (wpAny_throw ?_))
  exact hE _ _ (((Heap.SameBut.update ..).extBut.push _).push _) ⟨_, Heap.get?_push_size _ rfl, rfl⟩
theorem drawsTup (hh : A.handled = none) (it t : Addr) (hne : t ≠ it) (items : Array Value) :
    Draws prog w A it [it, t] items.size (fun i v => items[i]? = some v) (fun i h => h.IsTupleIter it t i ∧ h.IsTuple t items) where
  live := fun _ _ st => let ⟨o, ho, _⟩ := st.1; ⟨o, ho⟩
  frame := fun _ _ _ st hk => ⟨let ⟨o, ho, r⟩ := st.1; ⟨o, hk it (by simp) o ho, r⟩, let ⟨o, ho, r⟩ := st.2; ⟨o, hk t (by simp) o ho, r⟩⟩
  item := fun i s Q E hi st hQ => by
    refine nextOf_tup st.1 st.2 (x := items[i]) (by simp [hi]) fun h' hit' hs' => ?_
    exact hQ _ h' s.toks (by simp [hi]) ⟨hit', st.2.extBut hs'.extBut hne⟩ hs'
  done := fun s Q E st hE => nextOf_tup_end hh st.1 st.2 (by simp) hE
/-- the objects of a zip stand apart -/
structure ZA (z TI TO i1 i2 : Addr) (fp1 fp2 : List Addr) : Prop where
  TIz : TI ≠ z
  TOz : TO ≠ z
  i1z : i1 ≠ z
  i2z : i2 ≠ z
  TITO : TI ≠ TO
  TIi1 : TI ≠ i1
  TIi2 : TI ≠ i2
  TOi1 : TO ≠ i1
  TOi2 : TO ≠ i2
  i12 : i1 ≠ i2
  f1z : z ∉ fp1
  f1O : TO ∉ fp1
  f1i : i2 ∉ fp1
  f2z : z ∉ fp2
  f2O : TO ∉ fp2
  f2i : i1 ∉ fp2
  m1 : i1 ∈ fp1
  m2 : i2 ∈ fp2
theorem drOff {it c : Addr} {fp : List Addr} {n i : Nat} {P : Nat → Value → Prop} {St : Nat → Heap → Prop} (D : Draws prog w A it fp n P St) {h h' : Heap} (st : St i h) (hs : Heap.SameBut c h h') (hc : c ∉ fp) : St i h' :=
  D.frame i h h' st fun b hb o e => hs.extBut b o (fun q => hc (q ▸ hb)) e
variable {z TI TO i1 i2 : Addr} {fp1 fp2 : List Addr} {n : Nat} {P1 P2 : Nat → Value → Prop} {S1 S2 : Nat → Heap → Prop}
theorem zipD_item (D : ZA z TI TO i1 i2 fp1 fp2) (D1 : ∀ A' : Around, A'.handled = none → Draws prog w A' i1 fp1 n P1 S1) (D2 : ∀ A' : Around, A'.handled = none → Draws prog w A' i2 fp2 n P2 S2) (hh : A.handled = none) {k : Nat} {a b : Value} {Q : Value → Shared → Prop} (hk : k < n)
    (hz : IsZip s.heap z TI TO .none) (hTI : IsPair s.heap TI (.ref i1) (.ref i2)) (hTO : IsPair s.heap TO a b) (h1 : S1 k s.heap) (h2 : S2 k s.heap)
    (hQ : ∀ x y h' tk, P1 k x → P2 k y → IsZip h' z TI TO (rawInt s.heap.objs.size) → IsPair h' TO x y → S1 (k + 1) h' → S2 (k + 1) h' → IsPair h' s.heap.objs.size x y →
      (∀ c o, c ≠ z → c ≠ TO → c ≠ i1 → c ≠ i2 → s.heap.get? c = some o → h'.get? c = some o) → Q (.ref s.heap.objs.size) { s with heap := h', toks := tk }) :
    wpAny (model prog w) A (Builtin.«zip.__next__» ⟨[.ref z], []⟩) (fun fin s' => ∃ v, fin = .done (.ret v) ∧ Q v s') E s := by
  show wpAny _ _ (field (.ref z) 2 >>= _) _ _ _
  refine wpAny_bind (wpAny_field hz rfl (x := .bool false) rfl ?_)
  show wpAny _ _ (field (.ref z) 3 >>= _) _ _ _
  refine wpAny_bind (wpAny_field hz rfl (x := .ref TI) rfl ?_)
  refine wpAny_bind (wpAny_seqItems hTI rfl ?_)
  show wpAny _ _ (Builtin.SmallTypes.ownedTupleIsFree (.ref z) >>= _) _ _ _
  refine wpAny_bind ?_
  unfold Builtin.SmallTypes.ownedTupleIsFree
  refine wpAny_bind (wpAny_field hz rfl (x := .none) rfl (wpAny_pure ?_))
  simp only [if_true]
  refine wpAny_bind (wpAny_rule ?_)
  refine wpAny_bind (wpAny_field hz rfl (x := .ref TO) rfl ?_)
  refine wpAny_bind (wpAny_setField_rec hz (by simp) fun g₁ hz₁ s₁ => ?_)
  replace hz₁ : IsZip g₁ z TI TO .ellipsis := hz₁
  refine wpAny_bind ?_
  simp only [List.zipIdx_cons, List.zipIdx_nil, List.forIn_cons, List.forIn_nil]
  refine wpAny_bind (wpAny_bind (wpAny_onRaise ?_))
  show wpAny _ _ (Builtin.SmallTypes.nextOf (.ref i1) >>= _) _ _ _
  refine wpAny_bind ((D1 _ hh).item k _ _ _ hk (drOff (D1 A hh) h1 s₁ D.f1z) fun x g₂ tk₂ px q₂ s₂ => wpAny_pure ?_)
  have hTO₂ : IsPair g₂ TO a b := s₂.extBut _ _ D.TOi1 (s₁.extBut _ _ D.TOz hTO)
  refine wpAny_bind (wpAny_seqItems hTO₂ rfl ?_)
  refine wpAny_bind (wpAny_updateSeq_pair hTO₂ fun g₃ hTO₃ s₃ => ?_)
  replace hTO₃ : IsPair g₃ TO x b := hTO₃
  refine wpAny_bind (wpAny_letGo (wpAny_pure ?_))
  refine wpAny_bind (wpAny_bind (wpAny_onRaise ?_))
  show wpAny _ _ (Builtin.SmallTypes.nextOf (.ref i2) >>= _) _ _ _
  have e2 : S2 k g₃ := drOff (D2 A hh) (drOff (D2 A hh) (drOff (D2 A hh) h2 s₁ D.f2z) s₂ D.f2i) s₃ D.f2O
  refine wpAny_bind ((D2 _ hh).item k _ _ _ hk e2 fun y g₄ tk₄ py q₄ s₄ => wpAny_pure ?_)
  have hTO₄ : IsPair g₄ TO x b := s₄.extBut _ _ D.TOi2 hTO₃
  refine wpAny_bind (wpAny_seqItems hTO₄ rfl ?_)
  refine wpAny_bind (wpAny_updateSeq_pair hTO₄ fun g₅ hTO₅ s₅ => ?_)
  replace hTO₅ : IsPair g₅ TO x y := hTO₅
  refine wpAny_bind (wpAny_letGo (wpAny_pure (wpAny_pure ?_)))
  refine wpAny_bind (wpAny_seqItems hTO₅ rfl ?_)
  refine wpAny_bind (wpAny_newTuple ?_)
  have hsz : g₅.objs.size = s.heap.objs.size := by rw [s₅.1, s₄.1, s₃.1, s₂.1, s₁.1]
  have k5 : ∀ c o, c ≠ z → c ≠ TO → c ≠ i1 → c ≠ i2 → s.heap.get? c = some o → g₅.get? c = some o := fun c o c1 c2 c3 c4 e =>
    s₅.extBut _ _ c2 (s₄.extBut _ _ c4 (s₃.extBut _ _ c2 (s₂.extBut _ _ c3 (s₁.extBut _ _ c1 e))))
  have hz₅ : IsZip g₅ z TI TO .ellipsis := s₅.extBut _ _ D.TOz.symm (s₄.extBut _ _ D.i2z.symm (s₃.extBut _ _ D.TOz.symm (s₂.extBut _ _ D.i1z.symm hz₁)))
  have a5 : S1 (k + 1) g₅ := drOff (D1 A hh) (drOff (D1 A hh) (drOff (D1 A hh) q₂ s₃ D.f1O) s₄ D.f1i) s₅ D.f1O
  have b5 : S2 (k + 1) g₅ := drOff (D2 A hh) q₄ s₅ D.f2O
  have hzlt : z < g₅.objs.size := Heap.lt_size hz₅
  show wpAny _ _ (Builtin.SmallTypes.ownedTupleHandOut (.ref z) (.ref g₅.objs.size) >>= _) _ _ _
  refine wpAny_bind ?_
  unfold Builtin.SmallTypes.ownedTupleHandOut
  have hz₆ : IsZip (g₅.push { cls := .type "tuple", data := .seq #[x, y] }) z TI TO .ellipsis := Heap.get?_push_of_some _ hz₅
  refine wpAny_bind (wpAny_setField_rec hz₆ (by simp) fun g₇ hz₇ s₇ => ?_)
  replace hz₇ : IsZip g₇ z TI TO (rawInt g₅.objs.size) := hz₇
  refine wpAny_setField_rec hz₇ (by simp) fun g₈ hz₈ s₈ => ?_
  replace hz₈ : IsZip g₈ z TI TO (rawInt g₅.objs.size) := hz₈
  have up : ∀ c o, c ≠ z → g₅.get? c = some o → g₈.get? c = some o := fun c o c1 e => s₈.extBut _ _ c1 (s₇.extBut _ _ c1 (Heap.get?_push_of_some _ e))
  have hT₈ : IsPair g₈ g₅.objs.size x y := s₈.extBut _ _ (Nat.ne_of_gt hzlt) (s₇.extBut _ _ (Nat.ne_of_gt hzlt) (Heap.get?_push_size _ rfl))
  rw [hsz] at hz₈ hT₈
  refine wpAny_pure ⟨_, rfl, ?_⟩
  show Q (.ref g₅.objs.size) _
  rw [hsz]
  exact hQ x y g₈ _ px py hz₈ (up _ _ D.TOz hTO₅) ((D1 _ hh).frame _ _ _ a5 fun b hb o e => up b o (fun q => D.f1z (q ▸ hb)) e) ((D2 _ hh).frame _ _ _ b5 fun b hb o e => up b o (fun q => D.f2z (q ▸ hb)) e) hT₈ fun c o c1 c2 c3 c4 e => up c o c1 (k5 c o c1 c2 c3 c4 e)
theorem zipD_end (D : ZA z TI TO i1 i2 fp1 fp2) (D1 : ∀ A' : Around, A'.handled = none → Draws prog w A' i1 fp1 n P1 S1) (hh : A.handled = none) {a b : Value} {Q : Fin → Shared → Prop}
    (hz : IsZip s.heap z TI TO .none) (hTI : IsPair s.heap TI (.ref i1) (.ref i2)) (hTO : IsPair s.heap TO a b) (h1 : S1 n s.heap)
    (hE : ∀ h' e, (∀ c o, c ≠ z → c ≠ TO → c ≠ i1 → c ≠ i2 → s.heap.get? c = some o → h'.get? c = some o) → (∃ o, h'.get? e = some o ∧ o.cls = .type "StopIteration") → E (.ref e) { s with heap := h' }) :
    wpAny (model prog w) A (Builtin.«zip.__next__» ⟨[.ref z], []⟩) Q E s := by
  show wpAny _ _ (field (.ref z) 2 >>= _) _ _ _
  refine wpAny_bind (wpAny_field hz rfl (x := .bool false) rfl ?_)
  show wpAny _ _ (field (.ref z) 3 >>= _) _ _ _
  refine wpAny_bind (wpAny_field hz rfl (x := .ref TI) rfl ?_)
  refine wpAny_bind (wpAny_seqItems hTI rfl ?_)
  show wpAny _ _ (Builtin.SmallTypes.ownedTupleIsFree (.ref z) >>= _) _ _ _
  refine wpAny_bind ?_
  unfold Builtin.SmallTypes.ownedTupleIsFree
  refine wpAny_bind (wpAny_field hz rfl (x := .none) rfl (wpAny_pure ?_))
  simp only [if_true]
  refine wpAny_bind (wpAny_rule ?_)
  refine wpAny_bind (wpAny_field hz rfl (x := .ref TO) rfl ?_)
  refine wpAny_bind (wpAny_setField_rec hz (by simp) fun g₁ hz₁ s₁ => ?_)
  replace hz₁ : IsZip g₁ z TI TO .ellipsis := hz₁
  refine wpAny_bind ?_
  simp only [List.zipIdx_cons, List.zipIdx_nil, List.forIn_cons, List.forIn_nil]
  refine wpAny_bind (wpAny_bind (wpAny_onRaise ?_))
  show wpAny _ _ (Builtin.SmallTypes.nextOf (.ref i1) >>= _) _ _ _
  refine wpAny_bind ((D1 _ hh).done _ _ _ (drOff (D1 A hh) h1 s₁ D.f1z) fun g₂ e s₂ he => ?_)
  obtain ⟨oe, hoe, hce⟩ := he
  have hz₂ : IsZip g₂ z TI TO .ellipsis := s₂ _ _ D.i1z.symm hz₁
  have hez : e ≠ z := fun x => by subst x; rw [hz₂] at hoe; cases hoe; simp at hce
  refine wpAny_setField_rec hz₂ (by simp) fun g₃ _ s₃ => hE g₃ e (fun c o c1 _ c3 _ x => s₃.extBut _ _ c1 (s₂ _ _ c3 (s₁.extBut _ _ c1 x))) ⟨oe, s₃.extBut _ _ hez hoe, hce⟩
theorem walksZip (D : ZA z TI TO i1 i2 fp1 fp2) (D1 : ∀ A' : Around, A'.handled = none → Draws prog w A' i1 fp1 n P1 S1) (D2 : ∀ A' : Around, A'.handled = none → Draws prog w A' i2 fp2 n P2 S2) (hh : A.handled = none) :
    WalksT prog w A z (z :: TI :: TO :: (fp1 ++ fp2)) [z, TO, i1, i2] n (fun i vals => ∃ x y, P1 i x ∧ P2 i y ∧ vals = #[x, y])
      (fun i h => IsZip h z TI TO .none ∧ IsPair h TI (.ref i1) (.ref i2) ∧ (∃ a b, IsPair h TO a b) ∧ S1 i h ∧ S2 i h)
      (fun i T h => IsZip h z TI TO (rawInt T) ∧ IsPair h TI (.ref i1) (.ref i2) ∧ (∃ a b, IsPair h TO a b) ∧ S1 (i + 1) h ∧ S2 (i + 1) h ∧ T ≠ z ∧ T ≠ TO ∧ T ≠ i1 ∧ T ≠ i2) where
  sub := fun c hc => by
    simp only [List.mem_cons, List.not_mem_nil, or_false] at hc
    rcases hc with rfl | rfl | rfl | rfl
    · simp
    · simp
    · simp [D.m1]
    · simp [D.m2]
  frame := fun i h h' hst hk => by
    obtain ⟨hz, hTI, ⟨a, b, hTO⟩, h1, h2⟩ := hst
    exact ⟨hk z (by simp) _ hz, hk TI (by simp) _ hTI, ⟨a, b, hk TO (by simp) _ hTO⟩, (D1 _ hh).frame _ _ _ h1 fun b hb o e => hk b (by simp [hb]) o e, (D2 _ hh).frame _ _ _ h2 fun b hb o e => hk b (by simp [hb]) o e⟩
  item := fun i s Q E hi hst hQ => by
    obtain ⟨hz, hTI, ⟨a, b, hTO⟩, h1, h2⟩ := hst
    have hT : s.TypeIs (.ref z) "zip" := ⟨_, hz, rfl⟩
    unfold pyNext
    refine wpAny_bind (wpAny_attempt (wpAny_callSpecial?_slot (name := Str.ofString "__next__") hT F.slot_zip_next (wpAny_call_entry F.slot_zip_next hT F.entry_zip_next
      (zipD_item D D1 D2 (by exact hh) hi hz hTI hTO h1 h2 fun x y h' tk p1 p2 a1 a2 a3 a4 a5 hk => wpAny_pure ?_) (F.args_zip_next_1 _))))
    have lt : ∀ {c o}, s.heap.get? c = some o → s.heap.objs.size ≠ c := fun e => Nat.ne_of_gt (Heap.lt_size e)
    exact hQ s.heap.objs.size #[x, y] h' tk ⟨_, _, p1, p2, rfl⟩ (Nat.le_refl _) ⟨_, a5, rfl, _, rfl⟩
      ⟨a1, hk _ _ D.TIz D.TITO D.TIi1 D.TIi2 hTI, ⟨_, _, a2⟩, a3, a4, lt hz, lt hTO, (by obtain ⟨_, e⟩ := (D1 _ hh).live _ _ h1; exact lt e), (by obtain ⟨_, e⟩ := (D2 _ hh).live _ _ h2; exact lt e)⟩
      fun c o hc e => hk c o (fun x => hc (by simp [x])) (fun x => hc (by simp [x])) (fun x => hc (by simp [x])) (fun x => hc (by simp [x])) e
  go := fun elts k pos i T s Q E hm hQ => by
    obtain ⟨hz, hTI, ⟨a, b, hTO⟩, h1, h2, _⟩ := hm
    refine wpAny_letOwnedTupleGo_zip hz fun h' hz' hs' => hQ h' ⟨hz', hs'.extBut _ _ D.TIz hTI, ⟨a, b, hs'.extBut _ _ D.TOz hTO⟩, drOff (D1 A hh) h1 hs' D.f1z, drOff (D2 A hh) h2 hs' D.f2z⟩ fun c o hc e => hs'.extBut _ _ (fun x => hc (by simp [x])) e
  apart := fun i T h hm hT => by
    obtain ⟨_, _, _, _, _, t1, t2, t3, t4⟩ := hm
    simp only [List.mem_cons, List.not_mem_nil, or_false] at hT
    rcases hT with rfl | rfl | rfl | rfl
    · exact t1 rfl
    · exact t2 rfl
    · exact t3 rfl
    · exact t4 rfl
  done := fun s Q E hst hQ => by
    obtain ⟨hz, hTI, ⟨a, b, hTO⟩, h1, h2⟩ := hst
    have hT : s.TypeIs (.ref z) "zip" := ⟨_, hz, rfl⟩
    unfold pyNext
    refine wpAny_bind (wpAny_attempt (wpAny_callSpecial?_slot (name := Str.ofString "__next__") hT F.slot_zip_next (wpAny_call_entry F.slot_zip_next hT F.entry_zip_next
      (zipD_end D D1 (by exact hh) hz hTI hTO h1 fun h' e hk he => ?_) (F.args_zip_next_1 _))))
    obtain ⟨o, ho, hc⟩ := he
    refine wpAny_bind (wpAny_isInstance (T := "StopIteration") (b := true) ⟨o, ho, hc⟩ isSubtype_stop ?_)
    exact wpAny_pure (hQ _ s.toks fun c o hc e => hk c o (fun x => hc (by simp [x])) (fun x => hc (by simp [x])) (fun x => hc (by simp [x])) (fun x => hc (by simp [x])) e)
  self := fun i s Q E hst hQ => wpAny_pyIter_zip hst.1 hQ
end
end Mine

/-! WPair -/
namespace Mine
open PySem PySem.W PySem.Calls PyProof.Rows
set_option maxRecDepth 100000
set_option maxHeartbeats 4000000
noncomputable abbrev zH1 (h : Heap) (l1 : Addr) : Heap := h.push { cls := .type "tuple_iterator", data := .fields #[.ref l1, .int 0 0] }
noncomputable abbrev zH2 (h : Heap) (l1 l2 : Addr) : Heap := (zH1 h l1).push { cls := .type "list_iterator", data := .fields #[.ref l2, .int 0 0] }
noncomputable abbrev zH3 (h : Heap) (l1 l2 : Addr) : Heap := (zH2 h l1 l2).push { cls := .type "tuple", data := .seq #[.ref h.objs.size, .ref (zH1 h l1).objs.size] }
noncomputable abbrev zH4 (h : Heap) (l1 l2 : Addr) : Heap := (zH3 h l1 l2).push { cls := .type "tuple", data := .seq #[.none, .none] }
noncomputable abbrev zH5 (h : Heap) (l1 l2 : Addr) : Heap := (zH4 h l1 l2).push { cls := .type "zip", data := .fields #[.none, .bool false, .bool false, .ref (zH2 h l1 l2).objs.size, .ref (zH3 h l1 l2).objs.size] }
theorem meets_zipTL (l1 l2 : Addr) (xs ys : Array Value) :
    Meets (Builtin.«zip.__new__» ⟨[.type "zip", .ref l1, .ref l2], []⟩) (fun _ R s => s.heap.IsTuple l1 xs ∧ s.heap.IsList l2 ys ∧
      R (.ok (.ret (.ref (zH4 s.heap l1 l2).objs.size))) { s with heap := zH5 s.heap l1 l2 }) :=
  .of_wp fun prog w A R s h => by
    obtain ⟨hp, g, d, tk, os⟩ := s; obtain ⟨hl1, hl2, h⟩ := h
    have hsub := sub_zip
    have hL1 : Heap.IsTuple (Shared.heap ⟨hp, g, d, tk, os⟩) l1 xs := hl1
    have hL2 : Heap.IsList (Shared.heap ⟨hp.push { cls := .type "tuple_iterator", data := .fields #[.ref l1, .int 0 0] }, g, d, tk, os⟩) l2 ys := Heap.IsList.push hl2 _
    wp_walk using wpAny_pyIter_tuple hL1, wpAny_pyIter_list hL2
    exact ⟨_, rfl, h⟩
section
variable {prog : Program} {w : World} {A : Around} {E : Value → Shared → Prop} {s : Shared}
theorem call_zipTL {l1 l2 : Addr} {xs ys : Array Value} {Q : Value → Shared → Prop} (hl1 : s.heap.IsTuple l1 xs) (hl2 : s.heap.IsList l2 ys)
    (h : ∀ h', IsZip h' (s.heap.objs.size + 4) (s.heap.objs.size + 2) (s.heap.objs.size + 3) .none → IsPair h' (s.heap.objs.size + 2) (.ref s.heap.objs.size) (.ref (s.heap.objs.size + 1)) →
      IsPair h' (s.heap.objs.size + 3) .none .none → h'.IsTupleIter s.heap.objs.size l1 0 → h'.IsListIter (s.heap.objs.size + 1) l2 0 →
      (∀ c o, s.heap.get? c = some o → h'.get? c = some o) → Q (.ref (s.heap.objs.size + 4)) { s with heap := h' }) :
    wpAny (model prog w) A (call (.type "zip") [.ref l1, .ref l2]) Q E s := by
  refine callType_new F.called_zip (by decide) (F.typeCall_zip_2 _ _) (F.newCall_zip_2 _ _) (fun obj => F.args_object_init_3 obj _ _) F.entry_zip_new
    (meets_zipTL l1 l2 xs ys) ⟨hl1, hl2, ?_⟩
  have z1 : (zH1 s.heap l1).objs.size = s.heap.objs.size + 1 := Heap.size_push ..
  have z2 : (zH2 s.heap l1 l2).objs.size = s.heap.objs.size + 2 := by rw [Heap.size_push, z1]
  have z3 : (zH3 s.heap l1 l2).objs.size = s.heap.objs.size + 3 := by rw [Heap.size_push, z2]
  have z4 : (zH4 s.heap l1 l2).objs.size = s.heap.objs.size + 4 := by rw [Heap.size_push, z3]
  have g5 : (zH5 s.heap l1 l2).get? (zH4 s.heap l1 l2).objs.size = some _ := Heap.get?_push_size _ rfl
  have g4 : (zH5 s.heap l1 l2).get? (zH3 s.heap l1 l2).objs.size = some _ := Heap.get?_push_of_some _ (Heap.get?_push_size _ rfl)
  have g3 : (zH5 s.heap l1 l2).get? (zH2 s.heap l1 l2).objs.size = some _ := Heap.get?_push_of_some _ (Heap.get?_push_of_some _ (Heap.get?_push_size _ rfl))
  have g2 : (zH5 s.heap l1 l2).get? (zH1 s.heap l1).objs.size = some _ := Heap.get?_push_of_some _ (Heap.get?_push_of_some _ (Heap.get?_push_of_some _ (Heap.get?_push_size _ rfl)))
  have g1 : (zH5 s.heap l1 l2).get? s.heap.objs.size = some _ := Heap.get?_push_of_some _ (Heap.get?_push_of_some _ (Heap.get?_push_of_some _ (Heap.get?_push_of_some _ (Heap.get?_push_size _ rfl))))
  show _ ∧ _
  rw [z2, z3, z4] at g5
  rw [z1, z2] at g3
  rw [z3] at g4
  rw [z1] at g2
  rw [z4]
  exact ⟨⟨_, g5, rfl⟩, h _ g5 g3 g4 ⟨_, g1, rfl, rfl⟩ ⟨_, g2, rfl, rfl⟩ fun c o x =>
    Heap.get?_push_of_some _ (Heap.get?_push_of_some _ (Heap.get?_push_of_some _ (Heap.get?_push_of_some _ (Heap.get?_push_of_some _ x))))⟩
/-- for a, b in what walks in pairs: by what is said of the frame and the heap -/
theorem pairs_loop {env : Env} {R : Result → Shared → Prop} {xi xc : Str} {pk pv pt : Pos} {x1 : Nat} {body : List Stmt} {I : Addr} {fp wr : List Addr} {n : Nat} {Pt : Nat → Array Value → Prop} {St : Nat → Heap → Prop} {Mid : Nat → Addr → Heap → Prop}
    {P2 : Nat → Value → Value → Prop} {m : Str → Option Value} (hh : A.handled = none) (W : WalksT prog w A I fp wr n Pt St Mid) (h2 : ∀ i vals, Pt i vals → ∃ v0 v1, vals = #[v0, v1] ∧ P2 i v0 v1)
    (hxi : env.kindOf xi = some .local) (hxc : env.kindOf xc = some .local)
    (hp : (env.scope.kind == .class || (env.scope.kind == .module && env.locals != env.globals)) = false)
    (hLf : env.locals ∉ fp) (J : Nat → (Str → Option Value) → Heap → Prop)
    (hJ : ∀ i m h h', J i m h → (∀ b o, b ∉ wr → b ≠ env.locals → h.get? b = some o → h'.get? b = some o) → J i m h')
    (hst : St 0 s.heap) (hns : s.heap.Ns env.locals m) (h0 : J 0 m s.heap)
    (step : ∀ i v0 v1 m₁ h tk, i < n → P2 i v0 v1 → J i m₁ h → St (i + 1) h → h.Ns env.locals (fun y => if y = xc then some v1 else if y = xi then some v0 else m₁ y) →
      wpAny (model prog w) A (execs body env) (fun f s₃ => match f with
          | .next | .cont => ∃ h' tk' m', s₃ = { s with heap := h', toks := tk' } ∧ St (i + 1) h' ∧ h'.Ns env.locals m' ∧ J (i + 1) m' h'
          | .brk => R (.ok .next) s₃
          | .ret v => R (.ok (.ret v)) s₃) (notedBy (model prog w) A env fun e s' => R (.error e) s') { s with heap := h, toks := tk })
    (fin : ∀ h tk m', h.Ns env.locals m' → J n m' h → R (.ok .next) { s with heap := h, toks := tk }) :
    codeAny (model prog w) A (.forLoop (.Tuple [.Name xi pk, .Name xc pv] x1 pt) (.ref I) body [] env) R s := by
  have hLw : env.locals ∉ wr := fun h => hLf (W.sub _ h)
  refine codeAny_forLoop_any
    (fun k s' => ∃ h' tk m' i, s' = { s with heap := h', toks := tk } ∧ St i h' ∧ h'.Ns env.locals m' ∧ J i m' h' ∧ i ≤ n ∧ k = n + 1 - i) ?_ (n + 1)
    ⟨s.heap, s.toks, m, 0, rfl, hst, hns, h0, Nat.zero_le _, rfl⟩
  rintro k s' ⟨H, tk, m', i, rfl, hst', hn', hj, hi, rfl⟩
  by_cases hlt : i < n
  · refine W.item i _ _ _ hlt hst' fun T vals h₁ tk₁ hPt _ hT hMid hk₁ => ?_
    obtain ⟨v0, v1, rfl, hP2⟩ := h2 i vals hPt
    refine W.go _ x1 pt i T _ _ _ hMid fun h₂ hst₂ hk₂ => ?_
    have ht₂ : h₂.IsTuple T #[v0, v1] := hT.at fun o e => hk₂ T o (W.apart i T h₁ hMid) e
    refine wpAny_assign_Tuple hh ht₂ rfl rfl fun h₃ hx₃ => ?_
    replace hx₃ : Heap.ExtBut h₂.objs.size h₂ h₃ := hx₃
    have up₃ : ∀ b o, h₂.get? b = some o → h₃.get? b = some o := fun b o x => hx₃ b o (Nat.ne_of_lt (Heap.lt_size x)) x
    have all₃ : ∀ b o, b ∉ wr → H.get? b = some o → h₃.get? b = some o := fun b o hb x => up₃ b o (hk₂ b o hb (hk₁ b o hb x))
    have n₃ : h₃.Ns env.locals m' := hn'.at' fun o e => all₃ _ o hLw e
    show wpAny _ A (do holding [v1] (assign (.Name xi pk) env v0); do holding [] (assign (.Name xc pv) env v1); pure ()) _ _ _
    refine wpAny_bind (wpAny_holding (wpAny_assign_Name (wpAny_storeName_local hxi n₃ (fun h₄ hn₄ hs₄ => ?_) hp)))
    replace hs₄ : Heap.SameBut env.locals h₃ h₄ := hs₄
    refine wpAny_bind (wpAny_holding (wpAny_assign_Name (wpAny_storeName_local hxc hn₄ (fun h₅ hn₅ hs₅ => wpAny_pure ?_) hp)))
    replace hs₅ : Heap.SameBut env.locals h₄ h₅ := hs₅
    have hst₅ : St (i + 1) h₅ := W.frame _ _ _ hst₂ fun b hb o e => hs₅.extBut b o (fun q => hLf (q ▸ hb)) (hs₄.extBut b o (fun q => hLf (q ▸ hb)) (up₃ b o e))
    have j₅ : J i m' h₅ := hJ _ _ _ _ hj fun b o hb hL e => hs₅.extBut b o hL (hs₄.extBut b o hL (all₃ b o hb e))
    refine wpAny_mono (step i v0 v1 m' h₅ _ hlt hP2 j₅ hst₅ hn₅) (fun f s₃ h₆ => ?_) fun _ _ e => e
    cases f with
    | ret v => exact h₆
    | brk => exact h₆
    | cont =>
      obtain ⟨h₆', tk₆, m₂, rfl, a, b, c⟩ := h₆
      exact ⟨n + 1 - (i + 1), by omega, h₆', tk₆, m₂, i + 1, rfl, a, b, c, hlt, rfl⟩
    | next =>
      obtain ⟨h₆', tk₆, m₂, rfl, a, b, c⟩ := h₆
      exact ⟨n + 1 - (i + 1), by omega, h₆', tk₆, m₂, i + 1, rfl, a, b, c, hlt, rfl⟩
  · have hin : i = n := by omega
    subst hin
    refine W.done _ _ _ hst' fun h₁ tk₁ hk₁ => wpAny_execs_nil ?_
    exact fin h₁ tk₁ m' (hn'.at' fun o e => hk₁ _ o hLw e) (hJ _ _ _ _ hj fun b o hb _ e => hk₁ b o hb e)
end
end Mine

/-! I8 -/
namespace Mine
open PySem PySem.W PySem.Calls PyProof.Rows
set_option maxRecDepth 100000
set_option maxHeartbeats 8000000
theorem fmod_nat (a b : Nat) : ((a : Nat) : Int).fmod ((b : Nat) : Int) = ((a % b : Nat) : Int) := by
  rw [Int.fmod_eq_emod_of_nonneg _ (Int.natCast_nonneg _), Int.natCast_emod]
/-- what stands after i turns of the loop over the wheels -/
structure Whl (h₀ g : Heap) (L M T : Addr) (wr : List Addr) (m₀ : Str → Option Value) (Vn sz sh : Nat) (i : Nat) (m : Str → Option Value) (h : Heap) : Prop where
  up : ∀ b o, h₀.get? b = some o → h.get? b = some o
  kp : Kp [L, M, T] g h
  nm : ∀ k, k ≠ Str.ofString "wheel" → k ≠ Str.ofString "hue" → k ≠ Str.ofString "due" → k ≠ Str.ofString "paint" → k ≠ Str.ofString "told" → m k = m₀ k
  mrk : ∃ mv : List Value, PlainL h M mv.toArray ∧ mv.length = i ∧ ∀ j, j < i → ∃ u, mv[j]? = some (.int ((Vn % (63 + j) : Nat) : Int) u)
  trn : ∃ tv : List Value, PlainL h T tv.toArray ∧ tv.length = i ∧ ∀ j, j < i → ∃ u, tv[j]? = some (.float (hueF ((63 + j : Nat) : Int) ((Vn % (63 + j) : Nat) : Int)) u)
  tld : ∀ j, i = j + 1 → ∃ A x u1 u2 u3, m (Str.ofString "told") = some (.ref A) ∧ IsTup h A #[.float x u1, .float (dv sh 2) u2, .int (2 * ((63 + j : Nat) : Int) * sz) u3] ∧ A ≠ L ∧ A ∉ wr
theorem snoc_at {vs : List Value} {v : Value} {i : Nat} {P : Nat → Value → Prop} (hl : vs.length = i) (h : ∀ j, j < i → ∃ x, vs[j]? = some x ∧ P j x) (hv : P i v) : ∀ j, j < i + 1 → ∃ x, (vs ++ [v])[j]? = some x ∧ P j x := by
  intro j hj
  by_cases e : j < i
  · obtain ⟨x, hx, hp⟩ := h j e
    exact ⟨x, by rw [List.getElem?_append_left (by omega)]; exact hx, hp⟩
  · have : j = i := by omega
    subst this
    exact ⟨v, by rw [List.getElem?_append_right (by omega)]; simp [hl], hv⟩
theorem off2 {q a b : Addr} (h1 : q ≠ a) (h2 : q ≠ b) : q ∉ [a, b] := fun h => by
  rcases List.mem_cons.mp h with e | h
  · exact h1 e
  · exact h2 (List.mem_singleton.mp h)
theorem za_new (n t H : Nat) (h1 : t < n) (h2 : H < n) : ZA (n + 4) (n + 2) (n + 3) n (n + 1) [n, t] [n + 1, H] where
  TIz := show (n + 2 : Nat) ≠ n + 4 by omega
  TOz := show (n + 3 : Nat) ≠ n + 4 by omega
  i1z := show (n : Nat) ≠ n + 4 by omega
  i2z := show (n + 1 : Nat) ≠ n + 4 by omega
  TITO := show (n + 2 : Nat) ≠ n + 3 by omega
  TIi1 := show (n + 2 : Nat) ≠ n by omega
  TIi2 := show (n + 2 : Nat) ≠ n + 1 by omega
  TOi1 := show (n + 3 : Nat) ≠ n by omega
  TOi2 := show (n + 3 : Nat) ≠ n + 1 by omega
  i12 := show (n : Nat) ≠ n + 1 by omega
  f1z := off2 (show (n + 4 : Nat) ≠ n by omega) (show (n + 4 : Nat) ≠ t by omega)
  f1O := off2 (show (n + 3 : Nat) ≠ n by omega) (show (n + 3 : Nat) ≠ t by omega)
  f1i := off2 (show (n + 1 : Nat) ≠ n by omega) (show (n + 1 : Nat) ≠ t by omega)
  f2z := off2 (show (n + 4 : Nat) ≠ n + 1 by omega) (show (n + 4 : Nat) ≠ H by omega)
  f2O := off2 (show (n + 3 : Nat) ≠ n + 1 by omega) (show (n + 3 : Nat) ≠ H by omega)
  f2i := off2 (show (n : Nat) ≠ n + 1 by omega) (show (n : Nat) ≠ H by omega)
  m1 := List.mem_cons_self ..
  m2 := List.mem_cons_self ..
theorem fresh_off (n q : Nat) (h : q < n) : ∀ b : Nat, b ∈ [n + 4, n + 3, n, n + 1] → q ≠ b := by
  intro b hb
  simp only [List.mem_cons, List.not_mem_nil, or_false] at hb
  omega
noncomputable def zipX : Expr := match nth wordB 5 with | .For _ it _ _ _ => it | _ => .Constant .none 0 ⟨0, 0, 0, 0⟩
theorem wheels {w : World} {mg mb : Str → Option Value} {d : Nat} {fr : Option (List Env)} {gu : Option (List Code)} {un : Nat} {s : Shared} {h₀ : Heap} (G : Gd w mg mb h₀) (hd : d < 900) (hu : un + 64 < cLine) {L fa c D M T H : Addr} {m : Str → Option Value} {sz i sh Vo Vn n : Nat} {dv' : List Value} {t1 t3 t4 t6 t7 u0 u1 u2 : Tok} {Q : Flow → Shared → Prop} {E : Value → Shared → Prop} (F : Fr h₀ L s.heap m)
    (m1 : m (Str.ofString "whole") = some (.int Vn t1)) (m3 : m (Str.ofString "share") = some (.int sh t3)) (m4 : m (Str.ofString "size") = some (.int sz t4)) (m5 : m (Str.ofString "hues") = some (.ref H)) (m6 : m (Str.ofString "numbers") = some (.ref D)) (m7 : m (Str.ofString "place") = some (.int i t6)) (m8 : m (Str.ofString "marks") = some (.ref M)) (m9 : m (Str.ofString "turns") = some (.ref T))
    (hH : s.heap.IsList H ([.float (hueF ((63 + 0 : Nat) : Int) ((Vo % (63 + 0) : Nat) : Int)) u0, .float (hueF ((63 + 1 : Nat) : Int) ((Vo % (63 + 1) : Nat) : Int)) u1, .float (hueF ((63 + 2 : Nat) : Int) ((Vo % (63 + 2) : Nat) : Int)) u2] : List Value).toArray)
    (hl : s.heap.IsList D dv'.toArray) (hv : dv'[i]? = some (.int n t7)) (hi : i < 10) (hM : PlainL s.heap M ([] : List Value).toArray) (hMn : h₀.get? M = none) (hT : PlainL s.heap T ([] : List Value).toArray) (hTn : h₀.get? T = none) (hMT : M ≠ T) (hDM : D ≠ M) (hDT : D ≠ T) (hHM : H ≠ M) (hHT : H ≠ T)
    (hs : sh = 1 ∨ sh = 2) (hz : sz = 1 ∨ sz = 2 ∨ sz = 3) (n1 : n < 64 ^ sz) (hV : Vn = Vo * 64 ^ sz + n)
    (h : ∀ h' tk m' wr, Fr h₀ L h' m' → Whl h₀ s.heap L M T wr m Vn sz sh 3 m' h' → Q .next { s with heap := h', toks := tk }) :
    wpAny (model pw w) ⟨none, d, fr, gu, un⟩ (exec (nth wordB 5) (lawE L fa c)) Q E s := by
  have G0 := G
  obtain ⟨K, TT, GL⟩ := G
  have N : News h₀ L s.heap (fullL h₀ s.heap [L]) := full_news (List.mem_cons_self ..)
  have hk0 := F.keep
  generalize hnw : fullL h₀ s.heap [L] = nw at N
  have F1 := frm F (norm1 m m5)
  have ns0 := F.ns
  have abv := F.above
  have hHL := ns_ne F.ns hH
  have hML := ns_ne F.ns hM.isList
  have hTL := ns_ne F.ns hT.isList
  have hLs := F.ns.lt
  have hMs := hM.lt
  have hTs := hT.lt
  have hHs : H < s.heap.objs.size := by obtain ⟨_, e, _⟩ := hH; exact Heap.lt_size e
  have hLn : h₀.get? L = none := Heap.get?_none_of_le F.above
  have eW : nth wordB 5 = .For (.Tuple [.Name (Str.ofString "wheel") ⟨116, 12, 116, 17⟩, .Name (Str.ofString "hue") ⟨116, 19, 116, 22⟩] 0 ⟨116, 12, 116, 22⟩) zipX wheelB [] ⟨116, 8, 125, 28⟩ := by kernel_rfl
  rw [eW]
  refine wpAny_For ?_
  conv in zipX => whnf
  w_on
  repeat' ((fail_if_success (with_reducible show wpAny _ _ (call (Value.type "zip") _) _ _ _)); first | walk1 | (dsimp only; walk1))
  rename Fr _ _ _ _ => F2
  rename_i Dt h1 _ _
  rename News _ _ _ _ => N2
  have ht := (N2 _ (List.mem_cons_self ..)).1
  have k1 : Kp [L] s.heap h1 := kp_of F2 (fun p hp => N2 p (List.mem_cons_of_mem _ hp)) hk0 (fun p hp => hnw ▸ hp)
  have F2 := frm F2 (norm1 m m5).symm
  have hDt : IsTup h1 Dt #[.int 63 s.toks, .int 64 (s.toks + 1), .int 65 (s.toks + 1 + 1)] := ⟨_, ht, rfl, _, rfl⟩
  clear ht N2
  have pM1 := pK ns0 hM k1
  have pT1 := pK ns0 hT k1
  have lH1 := lK ns0 hH k1
  have lD1 := lK ns0 hl k1
  have tM1 := tl_ne hDt pM1
  have tT1 := tl_ne hDt pT1
  have tL1 := tup_ne F2.ns hDt
  refine call_zipTL (s := { s with heap := h1, toks := s.toks + 1 + 1 + 1 }) hDt lH1 (fun h2 hz2 hTI hTO hit1 hit2 hk2 => ?_)
  refine wpAny_pyIter_zip hz2 ?_
  have hDn : Dt < h1.objs.size := by obtain ⟨_, e, _⟩ := hDt; exact Heap.lt_size e
  have hHn : H < h1.objs.size := by obtain ⟨_, e, _⟩ := lH1; exact Heap.lt_size e
  have hMn1 : M < h1.objs.size := pM1.lt
  have hTn1 : T < h1.objs.size := pT1.lt
  have hLn1 : L < h1.objs.size := F2.ns.lt
  have hsz1 : ∀ b o, s.heap.get? b = some o → b ≠ L → b < h1.objs.size := fun b o e hb => Heap.lt_size (k1 b o (by simpa using hb) e)
  have Z := za_new h1.objs.size Dt H hDn hHn
  have h0lt : ∀ b o, h₀.get? b = some o → b < h1.objs.size := fun b o e => Heap.lt_size (F2.keep b o e)
  dsimp only at hz2 hTI hTO hit1 hit2 hk2 ⊢
  generalize hn : h1.objs.size = N at *
  have D1 := fun (A' : Around) (hA : A'.handled = none) => drawsTup (prog := pw) (w := w) hA N Dt (Nat.ne_of_lt hDn) #[.int 63 s.toks, .int 64 (s.toks + 1), .int 65 (s.toks + 1 + 1)]
  have D2 := fun (A' : Around) (hA : A'.handled = none) => Draws.list (prog := pw) (w := w) hA (N + 1) H (Nat.ne_of_lt (Nat.lt_succ_of_lt hHn)) ([.float (hueF ((63 + 0 : Nat) : Int) ((Vo % (63 + 0) : Nat) : Int)) u0, .float (hueF ((63 + 1 : Nat) : Int) ((Vo % (63 + 1) : Nat) : Int)) u1, .float (hueF ((63 + 2 : Nat) : Int) ((Vo % (63 + 2) : Nat) : Int)) u2] : List Value).toArray
  have W := walksZip (A := (⟨none, d, fr, gu, un⟩ : Around)) (prog := pw) (w := w) (n := 3) Z D1 D2 rfl
  have offw : ∀ q : Nat, q < N → q ∉ ([N + 4, N + 3, N, N + 1] : List Addr) := fun q hq hm => fresh_off N q hq q hm rfl
  have Fr2 : Fr h₀ L h2 m := Fr.ext F2 hk2
  refine pairs_loop (env := lawE L fa c) (m := m) rfl W (P2 := fun i v0 v1 => (#[Value.int 63 s.toks, .int 64 (s.toks + 1), .int 65 (s.toks + 1 + 1)] : Array Value)[i]? = some v0 ∧ ([.float (hueF ((63 + 0 : Nat) : Int) ((Vo % (63 + 0) : Nat) : Int)) u0, .float (hueF ((63 + 1 : Nat) : Int) ((Vo % (63 + 1) : Nat) : Int)) u1, .float (hueF ((63 + 2 : Nat) : Int) ((Vo % (63 + 2) : Nat) : Int)) u2] : List Value).toArray[i]? = some v1) (fun i vals hv => by obtain ⟨x, y, p, q, rfl⟩ := hv; exact ⟨x, y, rfl, p, q⟩) rfl rfl rfl ?_
    (Whl h₀ s.heap L M T [N + 4, N + 3, N, N + 1] m Vn sz sh) ?_ ?_ Fr2.ns ?_ ?_ ?_
  · intro hm
    simp only [List.mem_cons, List.mem_append, List.not_mem_nil, or_false] at hm
    have up : ∀ k : Nat, L ≠ N + k := fun k e => Nat.ne_of_lt (Nat.lt_of_lt_of_le hLn1 (Nat.le_add_right _ k)) e
    rcases hm with e | e | e | (e | e) | e | e
    · exact up 4 e
    · exact up 2 e
    · exact up 3 e
    · exact up 0 e
    · exact tL1 e.symm
    · exact up 1 e
    · exact hHL e.symm
  · rintro j m₁ g g' J hk
    have pl : ∀ a vs, a < N → a ≠ L → PlainL g a vs → PlainL g' a vs := fun a vs h1 h2 ⟨o, n, e, r⟩ => ⟨o, n, hk a o (offw a h1) h2 e, r⟩
    refine ⟨fun b o e => hk b o (offw b (h0lt b o e)) (show b ≠ L from fun q => by rw [q, hLn] at e; cases e) (J.up b o e), fun b o hb e => ?_, J.nm, ?_, ?_, ?_⟩
    · have hbL : b ≠ L := fun q => hb (by rw [q]; simp)
      exact hk b o (offw b (hsz1 b o e hbL)) hbL (J.kp b o hb e)
    · obtain ⟨mv, p, q⟩ := J.mrk
      exact ⟨mv, pl _ _ hMn1 hML p, q⟩
    · obtain ⟨mv, p, q⟩ := J.trn
      exact ⟨mv, pl _ _ hTn1 hTL p, q⟩
    · intro j' e
      obtain ⟨A, x, a1, a2, a3, p, ⟨oA, q1, q2⟩, r1, r2⟩ := J.tld j' e
      exact ⟨A, x, a1, a2, a3, p, ⟨oA, hk A oA r2 r1 q1, q2⟩, r1, r2⟩
  · exact ⟨hz2, hTI, ⟨_, _, hTO⟩, ⟨hit1, let ⟨o, e, r⟩ := hDt; ⟨o, hk2 _ _ e, r⟩⟩, hit2, lH1.at fun o e => hk2 _ _ e⟩
  · refine ⟨Fr2.keep, fun b o hb e => hk2 b o (k1 b o (fun q => hb (by rw [List.mem_singleton.mp q]; simp)) e), fun _ _ _ _ _ _ => rfl, ⟨[], pM1.keeps hk2, rfl, fun j hj => absurd hj (Nat.not_lt_zero _)⟩, ⟨[], pT1.keeps hk2, rfl, fun j hj => absurd hj (Nat.not_lt_zero _)⟩, fun j e => by cases e⟩
  · rintro j v0 v1 m₁ g tk hj ⟨q0, q1⟩ J st ns
    have hj3 : j = 0 ∨ j = 1 ∨ j = 2 := by omega
    obtain ⟨a0, rfl⟩ : ∃ a0, v0 = .int ((63 + j : Nat) : Int) a0 := by
      rcases hj3 with rfl | rfl | rfl <;> exact ⟨_, (Option.some.inj q0).symm⟩
    obtain ⟨b0, rfl⟩ : ∃ b0, v1 = .float (hueF ((63 + j : Nat) : Int) ((Vo % (63 + j) : Nat) : Int)) b0 := by
      rcases hj3 with rfl | rfl | rfl <;> exact ⟨_, (Option.some.inj q1).symm⟩
    clear q0 q1
    obtain ⟨mv, pM2, lm, fm⟩ := J.mrk
    obtain ⟨tv, pT2, lt, ft⟩ := J.trn
    have Fg : Fr h₀ L g (fun y => if y = Str.ofString "hue" then some (.float (hueF ((63 + j : Nat) : Int) ((Vo % (63 + j) : Nat) : Int)) b0) else if y = Str.ofString "wheel" then some (.int ((63 + j : Nat) : Int) a0) else m₁ y) := ⟨ns, J.up, abv⟩
    have nm : ∀ k, k ≠ Str.ofString "wheel" → k ≠ Str.ofString "hue" → k ≠ Str.ofString "due" → k ≠ Str.ofString "paint" → k ≠ Str.ofString "told" → (fun y => if y = Str.ofString "hue" then some (Value.float (hueF ((63 + j : Nat) : Int) ((Vo % (63 + j) : Nat) : Int)) b0) else if y = Str.ofString "wheel" then some (Value.int ((63 + j : Nat) : Int) a0) else m₁ y) k = m k := fun k e1 e2 e3 e4 e5 => by
      dsimp only
      rw [if_neg e2, if_neg e1]
      exact J.nm k e1 e2 e3 e4 e5
    have lDg : g.IsList D dv'.toArray := by
      obtain ⟨o, e, r⟩ := hl
      have hDL := ns_ne ns0 (⟨o, e, r⟩ : s.heap.IsList D dv'.toArray)
      exact ⟨o, J.kp D o (by simp [hDL, hDM, hDT]) e, r⟩
    have em : (Vo % (63 + j) * 64 ^ sz + n) % (63 + j) = Vn % (63 + j) := by
      rw [hV, Nat.add_mod, Nat.mul_mod, Nat.mod_mod, ← Nat.mul_mod, ← Nat.add_mod]
    refine turn9 G0 hd hu (s := { s with heap := g, toks := tk }) (W := 63 + j) (part := Vo % (63 + j)) (p' := Vn % (63 + j)) (sh := sh) (sz := sz) Fg ((nm _ (by decide) (by decide) (by decide) (by decide) (by decide)).trans m1) (by rfl) ((nm _ (by decide) (by decide) (by decide) (by decide) (by decide)).trans m3) ((nm _ (by decide) (by decide) (by decide) (by decide) (by decide)).trans m4) (by rfl) ((nm _ (by decide) (by decide) (by decide) (by decide) (by decide)).trans m6) ((nm _ (by decide) (by decide) (by decide) (by decide) (by decide)).trans m7) ((nm _ (by decide) (by decide) (by decide) (by decide) (by decide)).trans m8) ((nm _ (by decide) (by decide) (by decide) (by decide) (by decide)).trans m9)
      lDg hv hi pM2 hMn pT2 hTn hMT (by omega) (by omega) (by omega) hs hz (Nat.mod_lt _ (by omega)) (Nat.mod_lt _ (by omega)) (Int.natCast_nonneg _) (by omega) (fmod_nat _ _) ?_ ?_
    · rw [← Int.natCast_mul, ← Int.natCast_add, fmod_nat, em]
    · intro g3 tk3 m3' A x y a1 a2 a3 F3 nm3 told tA kp3 pM3 pT3
      have hst3 := W.frame (j + 1) g g3 st (fun b hb o e => kp3 b o (by
        simp only [List.mem_cons, List.mem_append, List.not_mem_nil, or_false] at hb
        have ge : ∀ k : Nat, (N + k : Nat) ∉ ([L, M, T] : List Addr) := fun k hm => by
          simp only [List.mem_cons, List.not_mem_nil, or_false] at hm
          rcases hm with e | e | e
          · exact Nat.ne_of_gt (Nat.lt_of_lt_of_le hLn1 (Nat.le_add_right _ k)) e
          · exact Nat.ne_of_gt (Nat.lt_of_lt_of_le hMn1 (Nat.le_add_right _ k)) e
          · exact Nat.ne_of_gt (Nat.lt_of_lt_of_le hTn1 (Nat.le_add_right _ k)) e
        rcases hb with rfl | rfl | rfl | (rfl | rfl) | rfl | rfl
        · exact ge 4
        · exact ge 2
        · exact ge 3
        · exact ge 0
        · simp [tL1, tM1, tT1]
        · exact ge 1
        · simp [hHL, hHM, hHT]) e)
      refine ⟨g3, tk3, m3', rfl, hst3, F3.ns, ⟨F3.keep, J.kp.trans kp3, fun k e1 e2 e3 e4 e5 => (nm3 k e3 e4 e5).trans (nm k e1 e2 e3 e4 e5), ⟨_, pM3, by simp [lm], ?_⟩, ⟨_, pT3, by simp [lt], ?_⟩, ?_⟩⟩
      · intro j' hj'
        obtain ⟨x', hx', u, rfl⟩ := snoc_at (P := fun j v => ∃ u, v = .int ((Vn % (63 + j) : Nat) : Int) u) lm (fun j hj => by obtain ⟨u, e⟩ := fm j hj; exact ⟨_, e, u, rfl⟩) ⟨x, rfl⟩ j' hj'
        exact ⟨u, hx'⟩
      · intro j' hj'
        obtain ⟨x', hx', u, rfl⟩ := snoc_at (P := fun j v => ∃ u, v = .float (hueF ((63 + j : Nat) : Int) ((Vn % (63 + j) : Nat) : Int)) u) lt (fun j hj => by obtain ⟨u, e⟩ := ft j hj; exact ⟨_, e, u, rfl⟩) ⟨y, rfl⟩ j' hj'
        exact ⟨u, hx'⟩
      · intro j' hj'
        have : j' = j := by omega
        subst this
        refine ⟨A, _, a1, a2, a3, told, tA, tup_ne F3.ns tA, ?_⟩
        obtain ⟨hz3, hTI3, ⟨ta, tb, hTO3⟩, ⟨hi3, _⟩, hl3, _⟩ := hst3
        obtain ⟨oA, eA, cA, nA, dA⟩ := tA
        intro hm
        simp only [List.mem_cons, List.not_mem_nil, or_false] at hm
        rcases hm with rfl | rfl | rfl | rfl
        · have q := Option.some.inj (eA.symm.trans hz3); subst q; exact absurd (show Value.type "zip" = Value.type "tuple" from cA) (by decide)
        · have q := Option.some.inj (eA.symm.trans hTO3); subst q; cases dA
        · obtain ⟨o, e, c', _⟩ := hi3
          rw [eA] at e; cases e; rw [cA] at c'; exact absurd c' (by decide)
        · obtain ⟨o, e, c', _⟩ := hl3
          rw [eA] at e; cases e; rw [cA] at c'; exact absurd c' (by decide)
  · intro g tk m' ns J
    exact h g tk m' _ ⟨ns, J.up, abv⟩ J
end Mine

/-! O0 -/
namespace Mine
open PySem PySem.W PySem.Calls PyProof.Rows
set_option maxRecDepth 100000
set_option maxHeartbeats 8000000
local macro_rules | `(tactic| walk_at "binaryOp FloorDiv int int") => `(tactic| (refine PyProof.Rows.floordiv_int (by decide) ?_ (Or.inl (PyProof.noPylong_of_log2 (by decide +kernel)))))
local macro_rules | `(tactic| walk_at "binaryOp Mod int int") => `(tactic| (refine PyProof.Rows.mod_int (by decide) ?_))
local macro_rules | `(tactic| walk_at "binaryOp Mult int int") => `(tactic| (refine PyProof.Rows.mul_int ?_ (IntMulOk.of_right (by exact bits60 (by assumption)))))
theorem out0 {w : World} {mg mb : Str → Option Value} {d : Nat} {fr : Option (List Env)} {gu : Option (List Code)} {un : Nat} {s : Shared} {h₀ : Heap} (G : Gd w mg mb h₀) {L fa c H : Addr} {m : Str → Option Value} {i : Nat} {n : Int} {vs : List Value} {t1 t2 : Tok} {Q : Flow → Shared → Prop} {E : Value → Shared → Prop} (F : Fr h₀ L s.heap m)
    (m1 : m (Str.ofString "heaps") = some (.ref H)) (m2 : m (Str.ofString "place") = some (.int i t1)) (hl : s.heap.IsList H vs.toArray) (hv : vs[i]? = some (.int n t2)) (hi : i < 10)
    (h : ∀ h' tk t, Fr h₀ L h' (fun k => if k = Str.ofString "share" then some (.int (1 + (n.fdiv 3592512).fmod 2) t) else m k) → Kp [L] s.heap h' → Q .next { s with heap := h', toks := tk }) :
    wpAny (model pw w) ⟨none, d, fr, gu, un⟩ (exec (nth wordB 0) (lawE L fa c)) Q E s := by
  have G0 := G
  obtain ⟨K, TT, GL⟩ := G
  have N : News h₀ L s.heap [] := News.nil
  have F1 := frm F (norm2 m m1 m2)
  conv in nth _ _ => whnf
  w_on
  refine wpAny_Assign_Name ?_
  clear F
  repeat' ((fail_if_success (with_reducible show wpAny _ _ (subscriptTail _ _ _ _) _ _ _)); first | walk1 | (dsimp only; walk1))
  refine subL hl (by omega) (by omega) (by simpa using hv) ?_
  repeat' ((fail_if_success (with_reducible show wpAny _ _ (storeName _ _ _) _ _ _)); first | walk1 | (dsimp only; walk1))
  refine stL (env := lawE L fa c) (frm F1 (norm2 m m1 m2).symm) (fun h3 F3 s3 => ?_)
  exact h _ _ _ F3 (SameBut.kp s3 (List.mem_cons_self ..))
theorem out1 {w : World} {mg mb : Str → Option Value} {d : Nat} {fr : Option (List Env)} {gu : Option (List Code)} {un : Nat} {s : Shared} {h₀ : Heap} (G : Gd w mg mb h₀) {L fa c H : Addr} {m : Str → Option Value} {vs : List Value} {Q : Flow → Shared → Prop} {E : Value → Shared → Prop} (F : Fr h₀ L s.heap m)
    (m1 : m (Str.ofString "word") = some (.ref H)) (hl : s.heap.IsList H vs.toArray) (hv : vs.length ≤ 3)
    (h : ∀ h' tk t, Fr h₀ L h' (fun k => if k = Str.ofString "size" then some (.int vs.length t) else m k) → Kp [L] s.heap h' → Q .next { s with heap := h', toks := tk }) :
    wpAny (model pw w) ⟨none, d, fr, gu, un⟩ (exec (nth wordB 1) (lawE L fa c)) Q E s := by
  have G0 := G
  obtain ⟨K, TT, GL⟩ := G
  have N : News h₀ L s.heap [] := News.nil
  have F1 := frm F (norm1 m m1)
  conv in nth _ _ => whnf
  w_on
  refine wpAny_Assign_Name ?_
  clear F
  repeat' ((fail_if_success (with_reducible show wpAny _ _ (call (Value.builtin "len") _) _ _ _)); (fail_if_success (with_reducible show wpAny _ _ (storeName _ _ _) _ _ _)); first | walk1 | (dsimp only; walk1))
  refine PyProof.Rows.len_list hl (by rw [List.size_toArray]; omega) ?_
  rw [List.size_toArray]
  refine stL (env := lawE L fa c) (frm F1 (norm1 m m1).symm) (fun h3 F3 s3 => ?_)
  exact h _ _ _ F3 (SameBut.kp s3 (List.mem_cons_self ..))
theorem out2 {w : World} {mg mb : Str → Option Value} {d : Nat} {fr : Option (List Env)} {gu : Option (List Code)} {un : Nat} {s : Shared} {h₀ : Heap} (G : Gd w mg mb h₀) (hd : d < 900) {L fa c H : Addr} {m : Str → Option Value} {Vo sz : Nat} {vs : List Value} {ns : List Int} {t1 t2 : Tok} {Q : Flow → Shared → Prop} {E : Value → Shared → Prop} (F : Fr h₀ L s.heap m)
    (m1 : m (Str.ofString "whole") = some (.int Vo t1)) (m2 : m (Str.ofString "size") = some (.int sz t2)) (m3 : m (Str.ofString "word") = some (.ref H)) (hl : s.heap.IsList H vs.toArray) (hi : IntsAre vs ns) (hn : ns.length ≤ 3) (hz : sz = 1 ∨ sz = 2 ∨ sz = 3)
    (h : ∀ h' tk t, Fr h₀ L h' (fun k => if k = Str.ofString "whole" then some (.int (Vo * ((64 ^ sz : Nat) : Int) + numL ns) t) else m k) → Kp [L] s.heap h' → Q .next { s with heap := h', toks := tk }) :
    wpAny (model pw w) ⟨none, d, fr, gu, un⟩ (exec (nth wordB 2) (lawE L fa c)) Q E s := by
  have G0 := G
  obtain ⟨K, TT, GL⟩ := G
  have N : News h₀ L s.heap [] := News.nil
  have F1 := frm F (norm3 m m1 m2 m3)
  have hHL := ns_ne F.ns hl
  have p1 : ((64 : Int) ^ ((sz : Int)).toNat).natAbs < 2 ^ 60 := by
    rcases hz with rfl | rfl | rfl <;> decide
  conv in nth _ _ => whnf
  w_on
  refine wpAny_Assign_Name ?_
  clear F
  repeat' ((fail_if_success (with_reducible show wpAny _ _ (eval (Expr.Call _ _ _ _) _) _ _ _)); first | walk1 | (dsimp only; walk1))
  refine fcall G0 F1.keep (f := 74) (o := ob74 w.params) (by kernel_rfl) (by kernel_rfl) rfl ?_
  refine args_cons (ldN F1.ns (v := .ref H) (by rfl) ?_)
  refine args_nil ⟨F1.keep, ?_⟩
  have F := frm F1 (norm3 m m1 m2 m3).symm
  have cp := fun tk => @c_num w mg mb ⟨none, d, fr, gu, un⟩ { s with toks := tk } (G0.ext F.keep) rfl hd H vs ns hl hi hn
  refine callB (cp _) (fun v h' tk x b => ?_)
  obtain ⟨tt, rfl⟩ := b
  have F2 := Fr.ext F x
  have N2 : News h₀ L h' [] := News.nil
  clear F F1 N
  have ek : (64 : Int) ^ ((sz : Int)).toNat = ((64 ^ sz : Nat) : Int) := by rw [Int.toNat_natCast, Int.natCast_pow]; rfl
  rw [ek]
  repeat' ((fail_if_success (with_reducible show wpAny _ _ (storeName _ _ _) _ _ _)); first | walk1 | (dsimp only; walk1))
  refine stL (env := lawE L fa c) F2 (fun h3 F3 s3 => ?_)
  exact h _ _ _ F3 (x.kp.trans (SameBut.kp s3 (List.mem_cons_self ..)))
/-- x = [] -/
theorem out3 {w : World} {mg mb : Str → Option Value} {d : Nat} {fr : Option (List Env)} {gu : Option (List Code)} {un : Nat} {s : Shared} {h₀ : Heap} (G : Gd w mg mb h₀) {L fa c : Addr} {m : Str → Option Value} {Q : Flow → Shared → Prop} {E : Value → Shared → Prop} (F : Fr h₀ L s.heap m)
    (h : ∀ h' tk, Fr h₀ L h' (fun y => if y = Str.ofString "marks" then some (.ref s.heap.objs.size) else m y) → Kp [L] s.heap h' → PlainL h' s.heap.objs.size ([] : List Value).toArray → Q .next { s with heap := h', toks := tk }) :
    wpAny (model pw w) ⟨none, d, fr, gu, un⟩ (exec (nth wordB 3) (lawE L fa c)) Q E s := by
  obtain ⟨K, TT, GL⟩ := G
  have N : News h₀ L s.heap [] := News.nil
  conv in nth _ _ => whnf
  w_on
  repeat' ((fail_if_success (with_reducible show wpAny _ _ (newList _) _ _ _)); first | walk1 | (dsimp only; walk1))
  refine wpAny_newObj_type ?_ (by size_fits)
  refine stL (env := lawE L fa c) (F.push _) (fun h' F' hs => ?_)
  have k := SameBut.kp hs (off := [L]) (List.mem_cons_self ..)
  refine h _ _  F' ((push_ext _ _).kp.trans k) ⟨_, _, k _ _ (fun e => ?_) (Heap.get?_push_size _ rfl), rfl, rfl, rfl⟩
  exact absurd (List.mem_singleton.mp e) (Nat.ne_of_gt F.ns.lt)
theorem out4 {w : World} {mg mb : Str → Option Value} {d : Nat} {fr : Option (List Env)} {gu : Option (List Code)} {un : Nat} {s : Shared} {h₀ : Heap} (G : Gd w mg mb h₀) {L fa c : Addr} {m : Str → Option Value} {Q : Flow → Shared → Prop} {E : Value → Shared → Prop} (F : Fr h₀ L s.heap m)
    (h : ∀ h' tk, Fr h₀ L h' (fun y => if y = Str.ofString "turns" then some (.ref s.heap.objs.size) else m y) → Kp [L] s.heap h' → PlainL h' s.heap.objs.size ([] : List Value).toArray → Q .next { s with heap := h', toks := tk }) :
    wpAny (model pw w) ⟨none, d, fr, gu, un⟩ (exec (nth wordB 4) (lawE L fa c)) Q E s := by
  obtain ⟨K, TT, GL⟩ := G
  have N : News h₀ L s.heap [] := News.nil
  conv in nth _ _ => whnf
  w_on
  repeat' ((fail_if_success (with_reducible show wpAny _ _ (newList _) _ _ _)); first | walk1 | (dsimp only; walk1))
  refine wpAny_newObj_type ?_ (by size_fits)
  refine stL (env := lawE L fa c) (F.push _) (fun h' F' hs => ?_)
  have k := SameBut.kp hs (off := [L]) (List.mem_cons_self ..)
  refine h _ _  F' ((push_ext _ _).kp.trans k) ⟨_, _, k _ _ (fun e => ?_) (Heap.get?_push_size _ rfl), rfl, rfl, rfl⟩
  exact absurd (List.mem_singleton.mp e) (Nat.ne_of_gt F.ns.lt)
end Mine

/-! WPlain2 -/
namespace Mine
open PySem PySem.W PySem.Calls PyProof.Rows
set_option maxRecDepth 100000
set_option maxHeartbeats 4000000
/-- the shapes of a word -/
noncomputable def WordOk (ns : List Int) : Prop :=
  (∃ c, ns = [c] ∧ 0 ≤ c ∧ c < 64) ∨ (∃ a c, ns = [a, c] ∧ 0 ≤ a ∧ a < 63 ∧ 0 ≤ c ∧ c < 64) ∨ (∃ a b c, ns = [a, b, c] ∧ 0 ≤ a ∧ a < 63 ∧ 0 ≤ b ∧ b < 64 ∧ 0 ≤ c ∧ c < 64)
theorem wordL_ok (heap : Int) : WordOk (wordL heap) := by
  unfold wordL
  rw [fmod_pos heap (show (0 : Int) ≤ 3 by decide), fmod_pos (heap.fdiv 3) (show (0 : Int) ≤ 63 by decide), fmod_pos (heap.fdiv 189) (show (0 : Int) ≤ 64 by decide), fmod_pos (heap.fdiv 12096) (show (0 : Int) ≤ 33 by decide)]
  generalize heap.fdiv 3 = x
  generalize heap.fdiv 189 = y
  generalize heap.fdiv 12096 = z
  have hc : ∀ c : Int, c = (if 32 + z % 33 < 64 then 32 + z % 33 else 1) → 0 ≤ c ∧ c < 64 := by
    intro c e; split at e <;> omega
  have hc := hc _ rfl
  revert hc
  generalize (if 32 + z % 33 < 64 then 32 + z % 33 else 1) = c
  intro hc
  have h3 : (heap % 3).toNat = 0 ∨ (heap % 3).toNat = 1 ∨ (heap % 3).toNat = 2 := by omega
  rcases h3 with e | e | e <;> rw [e]
  · exact .inl ⟨c, rfl, hc.1, hc.2⟩
  · exact .inr (.inl ⟨_, c, rfl, by omega, by omega, hc.1, hc.2⟩)
  · exact .inr (.inr ⟨_, _, c, rfl, by omega, by omega, by omega, by omega, hc.1, hc.2⟩)
theorem WordOk.len {ns : List Int} (h : WordOk ns) : 1 ≤ ns.length ∧ ns.length ≤ 3 := by
  rcases h with ⟨c, rfl, _⟩ | ⟨a, c, rfl, _⟩ | ⟨a, b, c, rfl, _⟩ <;> simp
theorem WordOk.fig {ns : List Int} (h : WordOk ns) : ∀ f ∈ ns, 0 ≤ f ∧ f < 64 := by
  intro f hf
  rcases h with ⟨c, rfl, h⟩ | ⟨a, c, rfl, h⟩ | ⟨a, b, c, rfl, h⟩ <;> simp at hf
  · omega
  · rcases hf with rfl | rfl <;> omega
  · rcases hf with rfl | rfl | rfl <;> omega
/-- a word's number in a high and a low part -/
theorem WordOk.num {ns : List Int} (h : WordOk ns) : ∃ hi lo, numL ns = 64 * hi + lo ∧ 0 ≤ hi ∧ hi < 4095 ∧ 0 ≤ lo ∧ lo < 64 ∧ backL ns.length (numL ns) = ns ∧ numL ns < 64 ^ ns.length := by
  rcases h with ⟨c, rfl, h⟩ | ⟨a, c, rfl, h⟩ | ⟨a, b, c, rfl, h⟩
  · refine ⟨0, c, ?_, by omega, by omega, by omega, by omega, ?_, ?_⟩
    · simp [numL]
    · show [((numL [c]).fdiv (64 ^ 0)).fmod 64] = _
      rw [fmod_pos _ (by decide), Int.fdiv_eq_ediv_of_nonneg _ (by decide)]
      simp [numL]; omega
    · simp [numL]; omega
  · have e : numL [a, c] = 64 * a + c := by simp [numL]; omega
    refine ⟨a, c, e, by omega, by omega, by omega, by omega, ?_, ?_⟩
    · show [((numL [a, c]).fdiv (64 ^ 1)).fmod 64, ((numL [a, c]).fdiv (64 ^ 0)).fmod 64] = _
      rw [e, fmod_pos _ (by decide), fmod_pos _ (by decide), Int.fdiv_eq_ediv_of_nonneg _ (by decide), Int.fdiv_eq_ediv_of_nonneg _ (by decide)]
      simp only [List.cons.injEq, and_true]
      omega
    · rw [e]; simp only [List.length_cons, List.length_nil]; omega
  · have e : numL [a, b, c] = 64 * (64 * a + b) + c := by simp [numL]; omega
    refine ⟨64 * a + b, c, e, by omega, by omega, by omega, by omega, ?_, ?_⟩
    · show [((numL [a, b, c]).fdiv (64 ^ 2)).fmod 64, ((numL [a, b, c]).fdiv (64 ^ 1)).fmod 64, ((numL [a, b, c]).fdiv (64 ^ 0)).fmod 64] = _
      rw [e, fmod_pos _ (by decide), fmod_pos _ (by decide), fmod_pos _ (by decide), Int.fdiv_eq_ediv_of_nonneg _ (by decide), Int.fdiv_eq_ediv_of_nonneg _ (by decide), Int.fdiv_eq_ediv_of_nonneg _ (by decide)]
      simp only [List.cons.injEq, and_true]
      omega
    · rw [e]; simp only [List.length_cons, List.length_nil]; omega
/-- _law_word_back gives the word back -/
theorem back_word {ns : List Int} (h : WordOk ns) (V : Int) :
    backL ns.length (backNum ns.length (V % 63) (V % 65) ((V * 64 ^ ns.length + numL ns) % 63) ((V * 64 ^ ns.length + numL ns) % 64) ((V * 64 ^ ns.length + numL ns) % 65)) = ns := by
  obtain ⟨hi, lo, e, h0, h1, l0, l1, hb, _⟩ := h.num
  have hl := h.len
  have := back_eq ns.length hl.1 hl.2 (V := V) h0 h1 l0 l1
  rw [← e] at this
  rw [this, hb]
end Mine

/-! O6 -/
namespace Mine
open PySem PySem.W PySem.Calls PyProof.Rows
set_option maxRecDepth 100000
set_option maxHeartbeats 8000000
local macro_rules | `(tactic| walk_at "binaryOp FloorDiv int int") => `(tactic| (refine PyProof.Rows.floordiv_int (by decide) ?_ (Or.inl (PyProof.noPylong_of_log2 (by decide +kernel)))))
theorem c_backW {w : World} {mg mb : Str → Option Value} {A : Around} {s : Shared} (G : Gd w mg mb s.heap) (hA : A.handled = none) (hdp : A.depth < 900) {l1 l2 : Addr} {vs1 vs2 : List Value} {a0 a1 a2 b0 b1 b2 : Int} {k : Nat} {t1 : Tok}
   (hl1 : s.heap.IsList l1 vs1.toArray) (hi1 : IntsAre vs1 [a0, a1, a2]) (hl2 : s.heap.IsList l2 vs2.toArray) (hi2 : IntsAre vs2 [b0, b1, b2]) (hk : k = 1 ∨ k = 2 ∨ k = 3)
   (h0 : 0 ≤ a0) (h0' : a0 < 100) (h1 : 0 ≤ a2) (h1' : a2 < 100) (h2 : 0 ≤ b0) (h2' : b0 < 100) (h3 : 0 ≤ b1) (h3' : b1 < 100) (h4 : 0 ≤ b2) (h4' : b2 < 100) :
   wpAny (model pw w) A (call (.ref 91) [.ref l1, .ref l2, .int k t1]) (Back s (IntL (backL k (backNum k a0 a2 b0 b1 b2)))) (fun _ _ => False) s := by
  rcases hk with rfl | rfl | rfl
  · exact c_back1 G hA hdp hl1 hi1 hl2 hi2 h0 h0' h1 h1' h2 h2' h3 h3' h4 h4'
  · exact c_back2 G hA hdp hl1 hi1 hl2 hi2 h0 h0' h1 h1' h2 h2' h3 h3' h4 h4'
  · exact c_back3 G hA hdp hl1 hi1 hl2 hi2 h0 h0' h1 h1' h2 h2' h3 h3' h4 h4'
theorem out6 {w : World} {mg mb : Str → Option Value} {d : Nat} {fr : Option (List Env)} {gu : Option (List Code)} {un : Nat} {s : Shared} {h₀ : Heap} (G : Gd w mg mb h₀) (hd : d < 900) (hu : un + 64 < cLine) {L fa c S M A Wa : Addr} {m : Str → Option Value} {sz Vo Vn : Nat} {sv mv wv : List Value} {ns : List Int} {x y : Value} {t1 : Tok} {Q : Flow → Shared → Prop} {E : Value → Shared → Prop} (F : Fr h₀ L s.heap m)
    (m1 : m (Str.ofString "spots") = some (.ref S)) (m2 : m (Str.ofString "marks") = some (.ref M)) (m3 : m (Str.ofString "told") = some (.ref A)) (m4 : m (Str.ofString "word") = some (.ref Wa))
    (lS : s.heap.IsList S sv.toArray) (iS : IntsAre sv [((Vo % 63 : Nat) : Int), ((Vo % 64 : Nat) : Int), ((Vo % 65 : Nat) : Int)]) (lM : s.heap.IsList M mv.toArray) (iM : IntsAre mv [((Vn % 63 : Nat) : Int), ((Vn % 64 : Nat) : Int), ((Vn % 65 : Nat) : Int)])
    (tA : IsTup s.heap A #[x, y, .int (2 * ((65 : Nat) : Int) * sz) t1]) (lW : s.heap.IsList Wa wv.toArray) (iW : IntsAre wv ns) (hok : WordOk ns) (hsz : ns.length = sz) (hV : (Vn : Int) = (Vo : Int) * 64 ^ sz + numL ns)
    (h : ∀ h' tk, Fr h₀ L h' m → Kp [L] s.heap h' → Q .next { s with heap := h', toks := tk }) :
    wpAny (model pw w) ⟨none, d, fr, gu, un⟩ (exec (nth wordB 6) (lawE L fa c)) Q E s := by
  have G0 := G
  obtain ⟨K, TT, GL⟩ := G
  have N : News h₀ L s.heap [] := News.nil
  have F1 := frm F (norm4 m m1 m2 m3 m4)
  have hz := hok.len
  conv in nth _ _ => whnf
  w_on
  clear F
  repeat' ((fail_if_success (with_reducible show wpAny _ _ (eval (Expr.Call _ _ _ _) _) _ _ _)); first | walk1 | (dsimp only; walk1))
  refine fcall G0 F1.keep (f := 91) (o := ob91 w.params) (by kernel_rfl) (by kernel_rfl) rfl ?_
  refine args_cons (ldN F1.ns (v := .ref S) (by rfl) ?_)
  refine args_cons (ldN F1.ns (v := .ref M) (by rfl) ?_)
  repeat' ((fail_if_success (with_reducible show wpAny _ _ (subscriptTail _ _ _ _) _ _ _)); first | walk1 | (dsimp only; walk1))
  refine item_tupleT (l := [x, y, .int (2 * ((65 : Nat) : Int) * sz) t1]) (j := 2) tA (by decide) (by decide) (by show seqIndex? 2 3 = some 2; decide) rfl ?_ (by with_unfolding_all rfl)
  repeat' ((fail_if_success (with_reducible show wpAny _ _ (call (Value.ref _) _) _ _ _)); first | walk1 | (dsimp only; walk1))
  have F := frm F1 (norm4 m m1 m2 m3 m4).symm
  have e130 : (2 * ((65 : Nat) : Int) * sz).fdiv 130 = sz := by
    rw [Int.fdiv_eq_ediv_of_nonneg _ (by decide)]; omega
  rw [e130]
  have hbk := back_word hok (Vo : Int)
  rw [hsz, ← hV] at hbk
  have cp := fun tk a => @c_backW w mg mb ⟨none, d, fr, gu, un⟩ { s with toks := tk } (G0.ext F.keep) rfl hd S M sv mv _ _ _ _ _ _ sz a lS iS lM iM (by omega) (by omega) (by omega) (by omega) (by omega) (by omega) (by omega) (by omega) (by omega) (by omega) (by omega)
  refine callB (cp _ _) (fun v h' tk x b => ?_)
  obtain ⟨R, rv, rfl, lR, iR⟩ := b
  have eb : backL sz (backNum sz ((Vo % 63 : Nat) : Int) ((Vo % 65 : Nat) : Int) ((Vn % 63 : Nat) : Int) ((Vn % 64 : Nat) : Int) ((Vn % 65 : Nat) : Int)) = ns := by
    rw [Int.natCast_emod, Int.natCast_emod, Int.natCast_emod, Int.natCast_emod, Int.natCast_emod]
    exact hbk
  rw [eb] at iR
  have F2 := Fr.ext F x
  have F3 := frm F2 (norm1 m m4)
  have N2 : News h₀ L h' (fullL h₀ h' [L]) := full_news (List.mem_cons_self ..)
  have hk2 := F2.keep
  have hWL := ns_ne F2.ns (lW.at fun o e => x _ o e)
  generalize hnw : fullL h₀ h' [L] = nw at N2
  clear F F1 N F2
  repeat' ((fail_if_success (with_reducible show wpAny _ _ (compareOp _ _ _) _ _ _)); first | walk1 | (dsimp only; walk1))
  refine ne_intsK lR iR (lW.at fun o e => x _ o e) iW hu ?_
  rw [decide_eq_true rfl]
  repeat' ((fail_if_success (with_reducible show wpAny _ _ (Pure.pure _) _ _ _)); first | walk1 | (dsimp only; walk1))
  rename Fr _ _ _ _ => F4
  rename News _ _ _ _ => N4
  exact h _ _ (frm F4 (norm1 m m4).symm) (x.kp.trans (kp_of F4 N4 hk2 (fun p hp => hnw ▸ hp)))
theorem out7 {w : World} {mg mb : Str → Option Value} {d : Nat} {fr : Option (List Env)} {gu : Option (List Code)} {un : Nat} {s : Shared} {h₀ : Heap} (G : Gd w mg mb h₀) {L fa c M : Addr} {m : Str → Option Value} {Q : Flow → Shared → Prop} {E : Value → Shared → Prop} (F : Fr h₀ L s.heap m)
    (m1 : m (Str.ofString "marks") = some (.ref M))
    (h : ∀ h' tk, Fr h₀ L h' (fun k => if k = Str.ofString "spots" then some (.ref M) else m k) → Kp [L] s.heap h' → Q .next { s with heap := h', toks := tk }) :
    wpAny (model pw w) ⟨none, d, fr, gu, un⟩ (exec (nth wordB 7) (lawE L fa c)) Q E s := by
  conv in nth _ _ => whnf
  refine wpAny_Assign_Name ?_
  refine ldN F.ns m1 ?_
  refine stL (env := lawE L fa c) F (fun h3 F3 s3 => ?_)
  exact h _ _ F3 (SameBut.kp s3 (List.mem_cons_self ..))
theorem out8 {w : World} {mg mb : Str → Option Value} {d : Nat} {fr : Option (List Env)} {gu : Option (List Code)} {un : Nat} {s : Shared} {h₀ : Heap} (G : Gd w mg mb h₀) {L fa c M : Addr} {m : Str → Option Value} {Q : Flow → Shared → Prop} {E : Value → Shared → Prop} (F : Fr h₀ L s.heap m)
    (m1 : m (Str.ofString "turns") = some (.ref M))
    (h : ∀ h' tk, Fr h₀ L h' (fun k => if k = Str.ofString "hues" then some (.ref M) else m k) → Kp [L] s.heap h' → Q .next { s with heap := h', toks := tk }) :
    wpAny (model pw w) ⟨none, d, fr, gu, un⟩ (exec (nth wordB 8) (lawE L fa c)) Q E s := by
  conv in nth _ _ => whnf
  refine wpAny_Assign_Name ?_
  refine ldN F.ns m1 ?_
  refine stL (env := lawE L fa c) F (fun h3 F3 s3 => ?_)
  exact h _ _ F3 (SameBut.kp s3 (List.mem_cons_self ..))
end Mine

/-! O9 -/
namespace Mine
open PySem PySem.W PySem.Calls PyProof.Rows
set_option maxRecDepth 100000
set_option maxHeartbeats 8000000
noncomputable def HueL (h : Heap) (H : Addr) (V : Nat) : Prop := ∃ u0 u1 u2, h.IsList H ([.float (hueF ((63 + 0 : Nat) : Int) ((V % (63 + 0) : Nat) : Int)) u0, .float (hueF ((63 + 1 : Nat) : Int) ((V % (63 + 1) : Nat) : Int)) u1, .float (hueF ((63 + 2 : Nat) : Int) ((V % (63 + 2) : Nat) : Int)) u2] : List Value).toArray
noncomputable def SpotL (h : Heap) (S : Addr) (V : Nat) : Prop := ∃ sv : List Value, h.IsList S sv.toArray ∧ IntsAre sv [((V % 63 : Nat) : Int), ((V % 64 : Nat) : Int), ((V % 65 : Nat) : Int)]
theorem ints3 {mv : List Value} {V : Nat} (hl : mv.length = 3) (h : ∀ j, j < 3 → ∃ u, mv[j]? = some (.int ((V % (63 + j) : Nat) : Int) u)) : IntsAre mv [((V % 63 : Nat) : Int), ((V % 64 : Nat) : Int), ((V % 65 : Nat) : Int)] := by
  match mv, hl with
  | [a, b, c], _ =>
    obtain ⟨u0, e0⟩ := h 0 (by decide)
    obtain ⟨u1, e1⟩ := h 1 (by decide)
    obtain ⟨u2, e2⟩ := h 2 (by decide)
    have f0 := Option.some.inj e0
    have f1 := Option.some.inj e1
    have f2 := Option.some.inj e2
    clear e0 e1 e2
    subst f0 f1 f2
    exact IntsAre.cons _ _ (IntsAre.cons _ _ (IntsAre.cons _ _ IntsAre.nil))
theorem hues3 {h : Heap} {T : Addr} {tv : List Value} {V : Nat} (p : PlainL h T tv.toArray) (hl : tv.length = 3) (q : ∀ j, j < 3 → ∃ u, tv[j]? = some (.float (hueF ((63 + j : Nat) : Int) ((V % (63 + j) : Nat) : Int)) u)) : HueL h T V := by
  match tv, hl with
  | [a, b, c], _ =>
    obtain ⟨u0, e0⟩ := q 0 (by decide)
    obtain ⟨u1, e1⟩ := q 1 (by decide)
    obtain ⟨u2, e2⟩ := q 2 (by decide)
    have f0 := Option.some.inj e0
    have f1 := Option.some.inj e1
    have f2 := Option.some.inj e2
    clear e0 e1 e2
    subst f0 f1 f2
    exact ⟨u0, u1, u2, p.isList⟩
/-- one turn of the loop over the words -/
theorem turnW {w : World} {mg mb : Str → Option Value} {d : Nat} {fr : Option (List Env)} {gu : Option (List Code)} {un : Nat} {s : Shared} {h₀ : Heap} (G : Gd w mg mb h₀) (hd : d < 900) (hu : un + 64 < cLine) {L fa c Hp D S H Wa : Addr} {m : Str → Option Value} {i Vo nm : Nat} {hv dv' wv : List Value} {ns : List Int} {hp : Int} {t1 t2 t3 t4 : Tok} {Q : Flow → Shared → Prop} {E : Value → Shared → Prop} (F : Fr h₀ L s.heap m)
    (m1 : m (Str.ofString "heaps") = some (.ref Hp)) (m2 : m (Str.ofString "place") = some (.int i t1)) (m3 : m (Str.ofString "word") = some (.ref Wa)) (m4 : m (Str.ofString "numbers") = some (.ref D)) (m5 : m (Str.ofString "spots") = some (.ref S)) (m6 : m (Str.ofString "hues") = some (.ref H)) (m7 : m (Str.ofString "whole") = some (.int Vo t2))
    (lH : s.heap.IsList Hp hv.toArray) (vH : hv[i]? = some (.int hp t3)) (hi : i < 10) (lW : s.heap.IsList Wa wv.toArray) (iW : IntsAre wv ns) (hok : WordOk ns) (lD : s.heap.IsList D dv'.toArray) (vD : dv'[i]? = some (.int nm t4)) (en : (nm : Int) = numL ns)
    (lS : SpotL s.heap S Vo) (lU : HueL s.heap H Vo)
    (h : ∀ h' tk m' M T t, Fr h₀ L h' m' → (∀ k, k ≠ Str.ofString "share" → k ≠ Str.ofString "size" → k ≠ Str.ofString "whole" → k ≠ Str.ofString "marks" → k ≠ Str.ofString "turns" → k ≠ Str.ofString "wheel" → k ≠ Str.ofString "hue" → k ≠ Str.ofString "due" → k ≠ Str.ofString "paint" → k ≠ Str.ofString "told" → k ≠ Str.ofString "spots" → k ≠ Str.ofString "hues" → m' k = m k) →
      m' (Str.ofString "whole") = some (.int ((Vo * 64 ^ ns.length + nm : Nat) : Int) t) → m' (Str.ofString "spots") = some (.ref M) → m' (Str.ofString "hues") = some (.ref T) → SpotL h' M (Vo * 64 ^ ns.length + nm) → HueL h' T (Vo * 64 ^ ns.length + nm) → Kp [L] s.heap h' → Q .next { s with heap := h', toks := tk }) :
    wpAny (model pw w) ⟨none, d, fr, gu, un⟩ (execs wordB (lawE L fa c)) Q E s := by
  have hz := hok.len
  have hz3 : ns.length = 1 ∨ ns.length = 2 ∨ ns.length = 3 := by omega
  have hwl : wv.length = ns.length := iW.length
  obtain ⟨sh, hsh, hs⟩ : ∃ sh : Nat, (1 + (hp.fdiv 3592512).fmod 2) = (sh : Int) ∧ (sh = 1 ∨ sh = 2) := by
    have : (hp.fdiv 3592512).fmod 2 = (hp.fdiv 3592512) % 2 := Int.fmod_eq_emod_of_nonneg _ (by decide)
    exact ⟨(1 + (hp.fdiv 3592512).fmod 2).toNat, by omega, by omega⟩
  have n1 : nm < 64 ^ ns.length := by
    obtain ⟨_, _, _, _, _, _, _, _, q⟩ := hok.num
    rw [← en] at q
    have : ((64 : Int) ^ ns.length) = ((64 ^ ns.length : Nat) : Int) := by rw [Int.natCast_pow]; rfl
    omega
  obtain ⟨w0, w1, w2, lU⟩ := lU
  obtain ⟨sv, lS, iS⟩ := lS
  have eB : wordB = [nth wordB 0, nth wordB 1, nth wordB 2, nth wordB 3, nth wordB 4, nth wordB 5, nth wordB 6, nth wordB 7, nth wordB 8] := by kernel_rfl
  rw [eB]
  refine wpAny_execs_cons (out0 G F m1 m2 lH vH hi (fun h1 tk1 x1 F1 k1 => ?_))
  rw [hsh] at F1
  refine wpAny_execs_cons (out1 G (s := { s with heap := h1, toks := tk1 }) F1 (by rw [if_neg (by decide)]; exact m3) (lK F.ns lW k1) (by omega) (fun h2 tk2 x2 F2 k2 => ?_))
  rw [hwl] at F2
  have lW2 := lK F1.ns (lK F.ns lW k1) k2
  refine wpAny_execs_cons (out2 G hd (s := { s with heap := h2, toks := tk2 }) F2 (by rw [if_neg (by decide), if_neg (by decide)]; exact m7) (by rfl) (by rw [if_neg (by decide), if_neg (by decide)]; exact m3) lW2 iW hz.2 hz3 (fun h3 tk3 x3 F3 k3 => ?_))
  rw [← en, show (Vo : Int) * ((64 ^ ns.length : Nat) : Int) + nm = ((Vo * 64 ^ ns.length + nm : Nat) : Int) by rw [← Int.natCast_mul, ← Int.natCast_add]] at F3
  refine wpAny_execs_cons (out3 G (s := { s with heap := h3, toks := tk3 }) F3 (fun h4 tk4 F4 k4 pM4 => ?_))
  have hMlt := pM4.lt
  refine wpAny_execs_cons (out4 G (s := { s with heap := h4, toks := tk4 }) F4 (fun h5 tk5 F5 k5 pT5 => ?_))
  dsimp only at F3 k4 pM4 F4 hMlt F5 k5 pT5
  have pM5 := pK F4.ns pM4 k5
  have k03 : Kp [L] s.heap h3 := k1.trans (k2.trans k3)
  have k05 : Kp [L] s.heap h5 := k03.trans (k4.trans k5)
  generalize hM : h3.objs.size = M at *
  generalize hT : h4.objs.size = T at *
  have new : ∀ a o, s.heap.get? a = some o → a ≠ L → a ≠ M ∧ a ≠ T   := fun a o e hb => by
    have e3 := k03 a o (by simpa using hb) e
    have l3 := Heap.lt_size e3
    rw [hM] at l3
    exact ⟨Nat.ne_of_lt l3, Nat.ne_of_lt (Nat.lt_trans l3 hMlt)⟩
  have hMT : M ≠ T := Nat.ne_of_lt hMlt
  have nw : ∀ a vs, s.heap.IsList a vs → a ≠ M ∧ a ≠ T := fun a vs x => by
    have hb := ns_ne F.ns x
    obtain ⟨o, e, _⟩ := x
    exact new a o e hb
  have hMn : h₀.get? M = none := by rw [← hM]; exact Heap.get?_none_of_le (Nat.le_trans F3.above (Nat.le_of_lt F3.ns.lt))
  have hTn : h₀.get? T = none := by rw [← hT]; exact Heap.get?_none_of_le (Nat.le_trans F4.above (Nat.le_of_lt F4.ns.lt))
  have nm5 : ∀ k, k ≠ Str.ofString "share" → k ≠ Str.ofString "size" → k ≠ Str.ofString "whole" → k ≠ Str.ofString "marks" → k ≠ Str.ofString "turns" → (fun y => if y = Str.ofString "turns" then some (Value.ref T) else if y = Str.ofString "marks" then some (Value.ref M) else if y = Str.ofString "whole" then some (Value.int ((Vo * 64 ^ ns.length + nm : Nat) : Int) x3) else if y = Str.ofString "size" then some (Value.int ns.length x2) else if y = Str.ofString "share" then some (Value.int sh x1) else m y) k = m k := fun k a1 a2 a3 a4 a5 => by
    dsimp only; rw [if_neg a5, if_neg a4, if_neg a3, if_neg a2, if_neg a1]
  refine wpAny_execs_cons (wheels G hd hu (s := { s with heap := h5, toks := tk5 }) (Vo := Vo) (Vn := Vo * 64 ^ ns.length + nm) (n := nm) (sz := ns.length) (sh := sh) (i := i) (D := D) (M := M) (T := T) (H := H) F5 (by rfl) (by rfl) (by rfl) ((nm5 _ (by decide) (by decide) (by decide) (by decide) (by decide)).trans m6) ((nm5 _ (by decide) (by decide) (by decide) (by decide) (by decide)).trans m4) ((nm5 _ (by decide) (by decide) (by decide) (by decide) (by decide)).trans m2) (by rfl) (by rfl)
    (lK F.ns lU k05) (lK F.ns lD k05) vD hi pM5 hMn pT5 hTn hMT (nw _ _ lD).1 (nw _ _ lD).2 (nw _ _ lU).1 (nw _ _ lU).2 hs hz3 n1 rfl (fun h6 tk6 m6' wr F6 J => ?_))
  obtain ⟨mv, pM6, lm, fm⟩ := J.mrk
  obtain ⟨tv, pT6, lt, ft⟩ := J.trn
  obtain ⟨A, ax, a1, a2, a3, told, tA, _, _⟩ := J.tld 2 rfl
  have iM := ints3 lm fm
  have uT := hues3 pT6 lt ft
  have k56 := J.kp
  dsimp only at k56
  have k06 : Kp [L] s.heap h6 := fun b o hb e => by
    have hbL : b ≠ L := fun q => hb (by rw [q]; simp)
    obtain ⟨q1, q2⟩ := new b o e hbL
    exact k56 b o (by simp [hbL, q1, q2]) (k05 b o hb e)
  have nm6 : ∀ k, k ≠ Str.ofString "share" → k ≠ Str.ofString "size" → k ≠ Str.ofString "whole" → k ≠ Str.ofString "marks" → k ≠ Str.ofString "turns" → k ≠ Str.ofString "wheel" → k ≠ Str.ofString "hue" → k ≠ Str.ofString "due" → k ≠ Str.ofString "paint" → k ≠ Str.ofString "told" → m6' k = m k := fun k b1 b2 b3 b4 b5 b6 b7 b8 b9 b10 => (J.nm k b6 b7 b8 b9 b10).trans (nm5 k b1 b2 b3 b4 b5)
  have gM : m6' (Str.ofString "marks") = some (.ref M) := (J.nm _ (by decide) (by decide) (by decide) (by decide) (by decide)).trans rfl
  have gT : m6' (Str.ofString "turns") = some (.ref T) := (J.nm _ (by decide) (by decide) (by decide) (by decide) (by decide)).trans rfl
  have gV : m6' (Str.ofString "whole") = some (.int ((Vo * 64 ^ ns.length + nm : Nat) : Int) x3) := (J.nm _ (by decide) (by decide) (by decide) (by decide) (by decide)).trans rfl
  have hVI : ((Vo * 64 ^ ns.length + nm : Nat) : Int) = (Vo : Int) * 64 ^ ns.length + numL ns := by rw [Int.natCast_add, Int.natCast_mul, Int.natCast_pow, en]; rfl
  refine wpAny_execs_cons (out6 G hd hu (s := { s with heap := h6, toks := tk6 }) (Vo := Vo) (Vn := Vo * 64 ^ ns.length + nm) (S := S) (M := M) (A := A) (Wa := Wa) F6 ((nm6 _ (by decide) (by decide) (by decide) (by decide) (by decide) (by decide) (by decide) (by decide) (by decide) (by decide)).trans m5) gM told ((nm6 _ (by decide) (by decide) (by decide) (by decide) (by decide) (by decide) (by decide) (by decide) (by decide) (by decide)).trans m3)
    (lK F.ns lS k06) iS pM6.isList iM tA (lK F.ns lW k06) iW hok rfl hVI (fun h7 tk7 F7 k7 => ?_))
  refine wpAny_execs_cons (out7 G (s := { s with heap := h7, toks := tk7 }) F7 gM (fun h8 tk8 F8 k8 => ?_))
  refine wpAny_execs_cons (out8 G (s := { s with heap := h8, toks := tk8 }) F8 (M := T) (by rw [if_neg (by decide)]; exact gT) (fun h9 tk9 F9 k9 => ?_))
  refine wpAny_execs_nil ?_
  have k69 : Kp [L] h6 h9 := k7.trans (k8.trans k9)
  obtain ⟨q0, q1, q2, uT⟩ := uT
  refine h h9 tk9 _ M T x3 F9 ?_ ?_ (by rfl) (by rfl) ⟨mv, lK F6.ns pM6.isList k69, iM⟩ ⟨q0, q1, q2, lK F6.ns uT k69⟩ (k06.trans k69)
  · intro k b1 b2 b3 b4 b5 b6 b7 b8 b9 b10 b11 b12
    rw [if_neg b12, if_neg b11]
    exact nm6 k b1 b2 b3 b4 b5 b6 b7 b8 b9 b10
  · rw [if_neg (by decide), if_neg (by decide)]; exact gV
end Mine

/-! O10 -/
namespace Mine
open PySem PySem.W PySem.Calls PyProof.Rows
set_option maxRecDepth 100000
set_option maxHeartbeats 8000000
/-- the number of all figures of the first i words -/
noncomputable def wholeAt (nss : List (List Int)) (nms : List Nat) : Nat → Nat
  | 0 => 0
  | i + 1 => wholeAt nss nms i * 64 ^ (nss.getD i []).length + nms.getD i 0
structure Wrd (h₀ g : Heap) (L : Addr) (wr : List Addr) (m₀ : Str → Option Value) (nss : List (List Int)) (nms : List Nat) (i : Nat) (m : Str → Option Value) (h : Heap) : Prop where
  up : ∀ b o, h₀.get? b = some o → h.get? b = some o
  kp : Kp [L] g h
  nm : ∀ k, k ≠ Str.ofString "place" → k ≠ Str.ofString "word" → k ≠ Str.ofString "share" → k ≠ Str.ofString "size" → k ≠ Str.ofString "whole" → k ≠ Str.ofString "marks" → k ≠ Str.ofString "turns" → k ≠ Str.ofString "wheel" → k ≠ Str.ofString "hue" → k ≠ Str.ofString "due" → k ≠ Str.ofString "paint" → k ≠ Str.ofString "told" → k ≠ Str.ofString "spots" → k ≠ Str.ofString "hues" → m k = m₀ k
  vl : ∃ t, m (Str.ofString "whole") = some (.int (wholeAt nss nms i : Nat) t)
  sp : ∃ S, m (Str.ofString "spots") = some (.ref S) ∧ SpotL h S (wholeAt nss nms i) ∧ S ≠ L ∧ S ∉ wr
  hu : ∃ H, m (Str.ofString "hues") = some (.ref H) ∧ HueL h H (wholeAt nss nms i) ∧ H ≠ L ∧ H ∉ wr
noncomputable def enumX : Expr := match nth lawB 9 with | .For _ it _ _ _ => it | _ => .Constant .none 0 ⟨0, 0, 0, 0⟩
theorem law9 {w : World} {mg mb : Str → Option Value} {d : Nat} {fr : Option (List Env)} {gu : Option (List Code)} {un : Nat} {s : Shared} {h₀ : Heap} (G : Gd w mg mb h₀) (hd : d < 900) (hu : un + 64 < cLine) {L fa c Hp D S H Wa : Addr} {m : Str → Option Value} {ws hv dv' : List Value} {nss : List (List Int)} {nms : List Nat} {hs : List Int} {t2 : Tok} {Q : Flow → Shared → Prop} {E : Value → Shared → Prop} (F : Fr h₀ L s.heap m)
    (m1 : m (Str.ofString "heaps") = some (.ref Hp)) (m3 : m (Str.ofString "words") = some (.ref Wa)) (m4 : m (Str.ofString "numbers") = some (.ref D)) (m5 : m (Str.ofString "spots") = some (.ref S)) (m6 : m (Str.ofString "hues") = some (.ref H)) (m7 : m (Str.ofString "whole") = some (.int 0 t2))
    (lH : s.heap.IsList Hp hv.toArray) (iH : IntsAre hv hs) (lW : s.heap.IsList Wa ws.toArray) (wl : WL s.heap ws nss) (hok : ∀ ns ∈ nss, WordOk ns) (lD : s.heap.IsList D dv'.toArray) (iD : IntsAre dv' (nss.map numL)) (hw : ws.length = 4) (hl4 : hs.length = 4) (hn4 : nss.length = 4) (hnm : ∀ i, i < 4 → ((nms.getD i 0 : Nat) : Int) = numL (nss.getD i []))
    (lS : SpotL s.heap S 0) (lU : HueL s.heap H 0)
    (h : ∀ h' tk m' wr, Fr h₀ L h' m' → Wrd h₀ s.heap L wr m nss nms 4 m' h' → Q .next { s with heap := h', toks := tk }) :
    wpAny (model pw w) ⟨none, d, fr, gu, un⟩ (exec (nth lawB 9) (lawE L fa c)) Q E s := by
  have G0 := G
  obtain ⟨K, TT, GL⟩ := G
  have hLs := F.ns.lt
  have abv := F.above
  have hLn : h₀.get? L = none := Heap.get?_none_of_le F.above
  have hWs : Wa < s.heap.objs.size := by obtain ⟨_, e, _⟩ := lW; exact Heap.lt_size e
  have hWL := ns_ne F.ns lW
  have N : News h₀ L s.heap [] := News.nil
  have F1 := frm F (norm1 m m3)
  have ns0 := F.ns
  have hk0 := F.keep
  have hsL : S ≠ L := by
    obtain ⟨_, x, _⟩ := lS
    exact ns_ne F.ns x
  have huL : H ≠ L := by
    obtain ⟨_, _, _, x⟩ := lU
    exact ns_ne F.ns x
  have eW : nth lawB 9 = .For (.Tuple [.Name (Str.ofString "place") ⟨110, 8, 110, 13⟩, .Name (Str.ofString "word") ⟨110, 15, 110, 19⟩] 0 ⟨110, 8, 110, 19⟩) enumX wordB [] ⟨110, 4, 129, 20⟩ := by kernel_rfl
  rw [eW]
  refine wpAny_For ?_
  conv in enumX => whnf
  w_on
  repeat' ((fail_if_success (with_reducible show wpAny _ _ (call (Value.type "enumerate") _) _ _ _)); first | walk1 | (dsimp only; walk1))
  refine call_enumerate_list lW (fun h2 he2 hit2 hsz2 hk2 => ?_)
  refine wpAny_pyIter_enum he2 ?_
  have hLs' : L < s.heap.objs.size := hLs
  generalize hn : s.heap.objs.size = N at *
  have W := WalksT.enumerate (A := (⟨none, d, fr, gu, un⟩ : Around)) (prog := pw) (w := w) rfl (N + 1) N Wa (Nat.succ_ne_self _) (Nat.ne_of_lt (Nat.lt_succ_of_lt hWs)) (Nat.ne_of_lt hWs) ws.toArray
  have offw : ∀ q : Nat, q < N → q ∉ ([N + 1, N] : List Addr) := fun q hq hm => by
    simp only [List.mem_cons, List.not_mem_nil, or_false] at hm
    rcases hm with e | e
    · exact Nat.ne_of_lt (Nat.lt_succ_of_lt hq) e
    · exact Nat.ne_of_lt hq e
  have hszs : ∀ b o, s.heap.get? b = some o → b < N := fun b o e => by rw [← hn]; exact Heap.lt_size e
  have hws : ws.toArray.size = 4 := by rw [List.size_toArray]; exact hw
  rw [hws] at W
  refine pairs_loop (env := lawE L fa c) (m := m) rfl W (P2 := fun i v0 v1 => (∃ t, v0 = .int i t) ∧ ws[i]? = some v1) (fun i vals hv => by obtain ⟨t, x, p, rfl⟩ := hv; exact ⟨_, x, rfl, ⟨t, rfl⟩, by simpa using p⟩) rfl rfl rfl ?_
    (Wrd h₀ s.heap L [N + 1, N] m nss nms) ?_ ?_ (ns0.keeps hk2) ?_ ?_ ?_
  · intro hm
    simp only [List.mem_cons, List.not_mem_nil, or_false] at hm
    rcases hm with e | e | e
    · exact Nat.ne_of_lt (Nat.lt_succ_of_lt hLs') e
    · exact Nat.ne_of_lt hLs' e
    · exact hWL e.symm
  · rintro j m₁ g g' J hk
    refine ⟨fun b o e => hk b o (offw b (hszs b o (hk0 b o e))) (show b ≠ L from fun q => by rw [q, hLn] at e; cases e) (J.up b o e), fun b o hb e => ?_, J.nm, J.vl, ?_, ?_⟩
    · exact hk b o (offw b (hszs b o e)) (show b ≠ L from fun q => hb (by rw [q]; simp)) (J.kp b o hb e)
    · obtain ⟨S1, q1, ⟨sv, ⟨o, e, r⟩, q2⟩, q3, q4⟩ := J.sp
      exact ⟨S1, q1, ⟨sv, ⟨o, hk S1 o q4 q3 e, r⟩, q2⟩, q3, q4⟩
    · obtain ⟨H1, q1, ⟨u0, u1, u2, ⟨o, e, r⟩⟩, q3, q4⟩ := J.hu
      exact ⟨H1, q1, ⟨u0, u1, u2, ⟨o, hk H1 o q4 q3 e, r⟩⟩, q3, q4⟩
  · exact ⟨⟨_, he2⟩, hit2, lW.at fun o e => hk2 _ _ e⟩
  · have lS' := lS
    have lU' := lU
    obtain ⟨sv, lS1, iS⟩ := lS
    obtain ⟨u0, u1, u2, lU1⟩ := lU
    have hSn : S < N := by obtain ⟨o, e, _⟩ := lS1; exact hszs _ _ e
    have hHn : H < N := by obtain ⟨o, e, _⟩ := lU1; exact hszs _ _ e
    exact ⟨fun b o e => hk2 b o (hk0 b o e), fun b o hb e => hk2 b o e, fun _ _ _ _ _ _ _ _ _ _ _ _ _ _ _ => rfl, ⟨t2, m7⟩, ⟨S, m5, ⟨sv, lS1.at fun o e => hk2 _ _ e, iS⟩, hsL, offw _ hSn⟩, ⟨H, m6, ⟨u0, u1, u2, lU1.at fun o e => hk2 _ _ e⟩, huL, offw _ hHn⟩⟩
  · rintro j v0 v1 m₁ g tk hj ⟨⟨t0, rfl⟩, q1⟩ J st ns
    obtain ⟨⟨wa, wv, rfl, lw, iw⟩, hjl⟩ := wl.get q1
    have hmem : nss.getD j [] ∈ nss := by
      have : nss.getD j [] = nss[j] := by simp [List.getD, hjl]
      rw [this]; exact List.getElem_mem hjl
    have kpl : ∀ a vs, s.heap.IsList a vs → g.IsList a vs := fun a vs x => by
      have := ns_ne ns0 x
      obtain ⟨o, e, r⟩ := x
      exact ⟨o, J.kp a o (by simpa using this) e, r⟩
    obtain ⟨tH, vH⟩ := iH.get j (hs.getD j 0) (getD_some (by omega))
    obtain ⟨tD, vD⟩ := iD.get j (numL (nss.getD j [])) (by simp [List.getD, hjl])
    rw [← hnm j hj] at vD
    obtain ⟨tV, gV⟩ := J.vl
    obtain ⟨S1, gS, lS1, sL1, sw1⟩ := J.sp
    obtain ⟨H1, gH, lU1, uL1, uw1⟩ := J.hu
    have Fg : Fr h₀ L g (fun y => if y = Str.ofString "word" then some (.ref wa) else if y = Str.ofString "place" then some (.int j t0) else m₁ y) := ⟨ns, J.up, abv⟩
    refine turnW G0 hd hu (s := { s with heap := g, toks := tk }) (i := j) (Vo := wholeAt nss nms j) (nm := nms.getD j 0) (ns := nss.getD j []) (Wa := wa) (S := S1) (H := H1) (D := D) (Hp := Hp) Fg
      (by rw [if_neg (by decide), if_neg (by decide), J.nm _ (by decide) (by decide) (by decide) (by decide) (by decide) (by decide) (by decide) (by decide) (by decide) (by decide) (by decide) (by decide) (by decide) (by decide)]; exact m1)
      (by rfl) (by rfl)
      (by rw [if_neg (by decide), if_neg (by decide), J.nm _ (by decide) (by decide) (by decide) (by decide) (by decide) (by decide) (by decide) (by decide) (by decide) (by decide) (by decide) (by decide) (by decide) (by decide)]; exact m4)
      (by rw [if_neg (by decide), if_neg (by decide)]; exact gS) (by rw [if_neg (by decide), if_neg (by decide)]; exact gH) (by rw [if_neg (by decide), if_neg (by decide)]; exact gV)
      (kpl _ _ lH) vH (by omega) (kpl _ _ lw) iw (hok _ hmem) (kpl _ _ lD) vD (hnm j hj) lS1 lU1 ?_
    intro g3 tk3 m3' M T t F3 nm3 e1 e2 e3 e4 e5 k3
    have hst3 := W.frame (j + 1) g g3 st (fun b hb o e => k3 b o (by
      simp only [List.mem_cons, List.not_mem_nil, or_false] at hb ⊢
      rcases hb with rfl | rfl | rfl
      · exact Nat.ne_of_gt (Nat.lt_succ_of_lt hLs')
      · exact Nat.ne_of_gt hLs'
      · exact hWL) e)
    have offl : ∀ a vs, g3.IsList a vs → a ∉ ([N + 1, N] : List Addr) := fun a vs ⟨o, e, cc, _⟩ hm => by
      obtain ⟨⟨old, z1⟩, ⟨oi, z2, z3, _⟩, _⟩ := hst3
      simp only [List.mem_cons, List.not_mem_nil, or_false] at hm
      rcases hm with rfl | rfl
      · have q := Option.some.inj (e.symm.trans z1); subst q; exact absurd (show Value.type "enumerate" = Value.type "list" from cc) (by decide)
      · rw [e] at z2; cases z2; rw [cc] at z3; exact absurd z3 (by decide)
    have xM : ∃ vs, g3.IsList M vs := let ⟨_, x, _⟩ := e4; ⟨_, x⟩
    have xT : ∃ vs, g3.IsList T vs := let ⟨_, _, _, x⟩ := e5; ⟨_, x⟩
    obtain ⟨_, xM⟩ := xM
    obtain ⟨_, xT⟩ := xT
    refine ⟨g3, tk3, m3', rfl, hst3, F3.ns, ⟨F3.keep, J.kp.trans k3, fun k b1 b2 b3 b4 b5 b6 b7 b8 b9 b10 b11 b12 b13 b14 => ?_, ⟨t, e1⟩, ⟨M, e2, e4, ns_ne F3.ns xM, offl _ _ xM⟩, ⟨T, e3, e5, ns_ne F3.ns xT, offl _ _ xT⟩⟩⟩
    rw [nm3 k b3 b4 b5 b6 b7 b8 b9 b10 b11 b12 b13 b14, if_neg b2, if_neg b1]
    exact J.nm k b1 b2 b3 b4 b5 b6 b7 b8 b9 b10 b11 b12 b13 b14
  · intro g tk m' ns J
    exact h g tk m' _ ⟨ns, J.up, abv⟩ J
end Mine

/-! P0 -/
namespace Mine
open PySem PySem.W PySem.Calls PyProof.Rows
set_option maxRecDepth 100000
set_option maxHeartbeats 8000000
noncomputable def levelB : List Stmt := match nth lawB 10 with | .For _ _ b _ _ => b | _ => []
noncomputable def levelX : Expr := match nth lawB 10 with | .For _ it _ _ _ => it | _ => .Constant .none 0 ⟨0, 0, 0, 0⟩
theorem lev0 {w : World} {mg mb : Str → Option Value} {d : Nat} {fr : Option (List Env)} {gu : Option (List Code)} {un : Nat} {s : Shared} {h₀ : Heap} (G : Gd w mg mb h₀) (hd : d < 900) {L fa c H : Addr} {m : Str → Option Value} {V : Nat} {lv : Int} {t1 : Tok} {Q : Flow → Shared → Prop} {E : Value → Shared → Prop} (F : Fr h₀ L s.heap m)
    (m1 : m (Str.ofString "hues") = some (.ref H)) (m2 : m (Str.ofString "level") = some (.int lv t1)) (lU : HueL s.heap H V)
    (h : ∀ h' tk P (a b e : Tok), Fr h₀ L h' (fun k => if k = Str.ofString "grey" then some (.ref P) else m k) → Kp [L] s.heap h' → IsTup h' P #[.int lv a, .int lv b, .int lv e] → Q .next { s with heap := h', toks := tk }) :
    wpAny (model pw w) ⟨none, d, fr, gu, un⟩ (exec (nth levelB 0) (lawE L fa c)) Q E s := by
  have G0 := G
  obtain ⟨K, TT, GL⟩ := G
  have N : News h₀ L s.heap [] := News.nil
  have F1 := frm F (norm2 m m1 m2)
  obtain ⟨u0, u1, u2, lU⟩ := lU
  conv in nth _ _ => whnf
  w_on
  refine wpAny_Assign_Name ?_
  refine fcall G0 F.keep (f := 28) (o := ob28 w.params) (by kernel_rfl) (by kernel_rfl) rfl ?_
  clear F
  repeat' ((fail_if_success (with_reducible show wpAny _ _ (subscriptTail _ _ _ _) _ _ _)); first | walk1 | (dsimp only; walk1))
  refine subL lU (by decide) (by decide) (by rfl) ?_
  repeat' ((fail_if_success (with_reducible show wpAny _ _ (call (Value.ref _) _) _ _ _)); first | walk1 | (dsimp only; walk1))
  have F := frm F1 (norm2 m m1 m2).symm
  have cp := fun tk a b e' hb => @c_hsv0 w mg mb ⟨none, d, fr, gu, un⟩ { s with toks := tk } (G0.ext F.keep) rfl hd hb lv a b e'
  refine callB (cp _ _ _ _ _) (fun v h' tk x b => ?_)
  obtain ⟨P, x1, x2, x3, rfl, hP, ⟨q1, rfl⟩, ⟨q2, rfl⟩, ⟨q3, rfl⟩⟩ := b
  have F2 := Fr.ext F x
  have hPL := tup_ne F2.ns hP
  refine stL (env := lawE L fa c) F2 (fun h3 F3 s3 => ?_)
  exact h _ _ P _ _ _ F3 (x.kp.trans (SameBut.kp s3 (List.mem_cons_self ..))) (by obtain ⟨o, e1, r⟩ := hP; exact ⟨o, s3.extBut _ o hPL e1, r⟩)
theorem lev1 {w : World} {mg mb : Str → Option Value} {d : Nat} {fr : Option (List Env)} {gu : Option (List Code)} {un : Nat} {s : Shared} {h₀ : Heap} (G : Gd w mg mb h₀) (hd : d < 900) (hu : un + 64 < cLine) {L fa c P : Addr} {m : Str → Option Value} {lv : Int} {t1 a b e : Tok} {Q : Flow → Shared → Prop} {E : Value → Shared → Prop} (F : Fr h₀ L s.heap m)
    (m1 : m (Str.ofString "grey") = some (.ref P)) (m2 : m (Str.ofString "level") = some (.int lv t1)) (tP : IsTup s.heap P #[.int lv a, .int lv b, .int lv e]) (hlv : 0 ≤ lv ∧ lv ≤ 100)
    (h : ∀ h' tk, Fr h₀ L h' m → Kp [L] s.heap h' → Q .next { s with heap := h', toks := tk }) :
    wpAny (model pw w) ⟨none, d, fr, gu, un⟩ (exec (nth levelB 1) (lawE L fa c)) Q E s := by
  have G0 := G
  obtain ⟨K, TT, GL⟩ := G
  have N : News h₀ L s.heap (fullL h₀ s.heap [L]) := full_news (List.mem_cons_self ..)
  have hk0 := F.keep
  have hPL := tup_ne F.ns tP
  generalize hnw : fullL h₀ s.heap [L] = nw at N
  have F1 := frm F (norm2 m m1 m2)
  conv in nth _ _ => whnf
  w_on
  clear F
  repeat' ((fail_if_success (with_reducible show wpAny _ _ (compareOp _ _ _) _ _ _)); first | walk1 | (dsimp only; walk1))
  rename Fr _ _ _ _ => F4
  rename News _ _ _ _ => N4
  have z1 := (N4 _ (List.mem_cons_self ..)).1
  have k4 := kp_of F4 (fun p hp => N4 p (List.mem_cons_of_mem _ hp)) hk0 (fun p hp => hnw ▸ hp)
  have tP4 : IsTup _ P _ := (by obtain ⟨o, e1, r⟩ := tP; exact ⟨o, k4 P o (by simpa using hPL) e1, r⟩ : IsTup _ P #[.int lv a, .int lv b, .int lv e])
  have qq : (lv == lv) = true := beq_self_eq_true _
  have ii := fun t u s A => SeqAt.EqAt.int_int (A := A) (s := s) lv t lv u
  rw [qq] at ii
  refine SeqAt.RcNeAt.tuples (e := fun _ => true) (let ⟨o, e1, c1, n1, d1⟩ := tP4; ⟨o, e1, c1, n1, d1⟩) ⟨_, z1, rfl, _, rfl⟩ (Nat.lt_of_le_of_lt (Nat.le_add_right _ _) hu) (fun j h1 h2 => ?_) pw w E _ ?_
  · have : j = 0 ∨ j = 1 ∨ j = 2 := by
      have : j < 3 := h1
      omega
    rcases this with rfl | rfl | rfl <;> exact ii _ _ _ _
  · show wpAny _ _ (truthy (Value.bool false)) _ _ _
    have hk4 := F4.keep
    repeat' ((fail_if_success (with_reducible show wpAny _ _ (eval (Expr.Call _ _ _ _) _) _ _ _)); first | walk1 | (dsimp only; walk1))
    refine fcall G0 hk4 (f := 21) (o := ob21 w.params) (by kernel_rfl) (by kernel_rfl) rfl ?_
    repeat' ((fail_if_success (with_reducible show wpAny _ _ (subscriptTail _ _ _ _) _ _ _)); first | walk1 | (dsimp only; walk1))
    refine item_tupleT (l := [.int lv a, .int lv b, .int lv e]) (j := 0) tP4 (by decide) (by decide) (by show seqIndex? 0 3 = some 0; decide) rfl ?_ (by with_unfolding_all rfl)
    repeat' ((fail_if_success (with_reducible show wpAny _ _ (subscriptTail _ _ _ _) _ _ _)); first | walk1 | (dsimp only; walk1))
    refine item_tupleT (l := [.int lv a, .int lv b, .int lv e]) (j := 1) tP4 (by decide) (by decide) (by show seqIndex? 1 3 = some 1; decide) rfl ?_ (by with_unfolding_all rfl)
    repeat' ((fail_if_success (with_reducible show wpAny _ _ (subscriptTail _ _ _ _) _ _ _)); first | walk1 | (dsimp only; walk1))
    refine item_tupleT (l := [.int lv a, .int lv b, .int lv e]) (j := 2) tP4 (by decide) (by decide) (by show seqIndex? 2 3 = some 2; decide) rfl ?_ (by with_unfolding_all rfl)
    repeat' ((fail_if_success (with_reducible show wpAny _ _ (call (Value.ref _) _) _ _ _)); first | walk1 | (dsimp only; walk1))
    have hrg : rgbT lv lv lv = (.f 0, .f 0, .i lv) := by
      have e1 : mx lv lv lv = lv := by unfold mx; simp
      have e2 : mn lv lv lv = lv := by unfold mn; simp
      unfold rgbT
      rw [e1, e2, if_pos rfl]
    have hlv2 : lv.natAbs < 2 ^ 60 := by omega
    have cp := fun (hh : Heap) (tk : Nat) (hk : ∀ b o, h₀.get? b = some o → hh.get? b = some o) a b e' => @c_rgb w mg mb ⟨none, d, fr, gu, un⟩ { s with heap := hh, toks := tk } (G0.ext hk) rfl hd lv lv lv a b e' hlv.1 hlv.1 hlv.1 hlv2 hlv2 hlv2
    refine callBT (cp _ _ hk4 _ _ _) (fun v h5 tk5 x5 b5 ht5 => ?_)
    rw [hrg] at b5
    obtain ⟨A, y1, y2, y3, rfl, tA, ⟨q1, rfl, hq1⟩, ⟨q2, rfl, hq2⟩, ⟨q3, rfl⟩⟩ := b5
    dsimp only at x5
    have F5 := Fr.ext F4 x5
    have hAL := tup_ne F5.ns tA
    have k5 := k4.trans (x5.kp (off := [L]))
    have N5 : News h₀ L h5 (fullL h₀ h5 [L]) := full_news (List.mem_cons_self ..)
    have hk5 := F5.keep
    generalize hnw5 : fullL h₀ h5 [L] = nw5 at N5
    clear F4 N4
    repeat' ((fail_if_success (with_reducible show wpAny _ _ (compareOp _ _ _) _ _ _)); first | walk1 | (dsimp only; walk1))
    rename Fr _ _ _ _ => F6
    rename News _ _ _ _ => N6
    have z6 := (N6 _ (List.mem_cons_self ..)).1
    have k6 := kp_of F6 (fun p hp => N6 p (List.mem_cons_of_mem _ hp)) hk5 (fun p hp => hnw5 ▸ hp)
    have nb := booked_ext (none_booked G0) F6.keep
    refine SeqAt.RcNeAt.tuples (e := fun _ => true) (let ⟨o, e1, c1, n1, d1⟩ := tA; ⟨o, k6 A o (by simpa using hAL) e1, c1, n1, d1⟩) ⟨_, z6, rfl, _, rfl⟩ (Nat.lt_of_le_of_lt (Nat.le_add_right _ _) hu) (fun j h1 h2 => ?_) pw w E _ ?_
    · have : j = 0 ∨ j = 1 ∨ j = 2 := by
        have : j < 3 := h1
        omega
      have c0 : (Float64.cmp 0 0 == some Ordering.eq) = true := by decide +kernel
      rcases this with rfl | rfl | rfl
      · exact eqAt_flt hq1 ht5 nb c0
      · exact eqAt_flt hq2 (Nat.succ_ne_zero _) nb c0
      · exact ii _ _ _ _
    · show wpAny _ _ (truthy (Value.bool false)) _ _ _
      repeat' ((fail_if_success (with_reducible show wpAny _ _ (Pure.pure _) _ _ _)); first | walk1 | (dsimp only; walk1))
      exact h _ _ (frm F6 (norm2 m m1 m2).symm) (k5.trans k6)
end Mine

/-! WPlain3 -/
namespace Mine
open PySem PySem.W PySem.Calls PyProof.Rows
set_option maxRecDepth 100000
set_option maxHeartbeats 4000000
/-- the kept signs of one word -/
noncomputable def keptW (ns : List Int) : List Int := (ns.take (ns.length - 1)).map (917568 + ·) ++ [917504 + ns.getD (ns.length - 1) 0]
/-- the last figure of a word: 1, or 32 and more -/
noncomputable def LastOk (ns : List Int) : Prop := ns.getD (ns.length - 1) 0 = 1 ∨ (32 ≤ ns.getD (ns.length - 1) 0 ∧ ns.getD (ns.length - 1) 0 < 64)
theorem sgn_not (t : Int) : (sgnL t).filter inTab = [] := by
  have h : ∀ n : Nat, n < 9 → (List.take 1 (List.drop n strangeL)).filter inTab = [] := by decide +kernel
  exact h _ (by omega)
theorem pre_kept : ∀ (l : List Int) (t : Int), (∀ f ∈ l, 0 ≤ f ∧ f < 64) → (preL l t).filter inTab = l.map (917568 + ·)
  | [], _, _ => rfl
  | f :: r, t, h => by
    have a := h f (List.mem_cons_self ..)
    have b : inTab (917568 + f) = true := by unfold inTab; simp; omega
    show (sgnL t ++ [917568 + f] ++ preL r (t + 4)).filter inTab = _
    rw [List.filter_append, List.filter_append, sgn_not, pre_kept r (t + 4) (fun g hg => h g (List.mem_cons_of_mem _ hg))]
    simp [List.filter, b]
theorem word_kept {ns : List Int} (t : Int) (h : ∀ f ∈ ns, 0 ≤ f ∧ f < 64) (hl : LastOk ns) : (hidW ns t).filter inTab = keptW ns := by
  unfold hidW keptW
  rw [List.filter_append, List.filter_append, sgn_not, pre_kept _ _ (fun f hf => h f (List.mem_of_mem_take hf))]
  have b : inTab (917504 + ns.getD (ns.length - 1) 0) = true := by
    unfold LastOk at hl
    unfold inTab; simp only [Bool.or_eq_true, Bool.and_eq_true, decide_eq_true_eq]; omega
  simp only [List.append_nil, List.filter, b]
theorem wordL_last (heap : Int) : LastOk (wordL heap) := by
  unfold wordL LastOk
  rw [fmod_pos heap (show (0 : Int) ≤ 3 by decide), fmod_pos (heap.fdiv 12096) (show (0 : Int) ≤ 33 by decide)]
  generalize (heap.fdiv 3).fmod 63 = x
  generalize (heap.fdiv 189).fmod 64 = y
  generalize heap.fdiv 12096 = z
  have hc : ∀ c : Int, c = (if 32 + z % 33 < 64 then 32 + z % 33 else 1) → c = 1 ∨ (32 ≤ c ∧ c < 64) := by
    intro c e; split at e <;> omega
  have hc := hc _ rfl
  revert hc
  generalize (if 32 + z % 33 < 64 then 32 + z % 33 else 1) = c
  intro hc
  have h3 : (heap % 3).toNat = 0 ∨ (heap % 3).toNat = 1 ∨ (heap % 3).toNat = 2 := by omega
  rcases h3 with e | e | e <;> rw [e] <;> exact hc
/-- the kept signs of the first i words -/
noncomputable def keptAt (nss : List (List Int)) : Nat → List Int
  | 0 => []
  | i + 1 => keptAt nss i ++ keptW (nss.getD i [])
theorem hid_kept {nss : List (List Int)} {hs : List Int} (h : ∀ n ∈ nss, (∀ f ∈ n, 0 ≤ f ∧ f < 64) ∧ LastOk n) : ∀ i, i ≤ nss.length → (hidAt nss hs i).filter inTab = keptAt nss i
  | 0, _ => rfl
  | i + 1, hi => by
    have hm : nss.getD i [] ∈ nss := by
      have : nss.getD i [] = nss[i] := by simp [List.getD, Nat.lt_of_succ_le hi]
      rw [this]; exact List.getElem_mem _
    simp only [hidAt, keptAt, List.filter_append]
    rw [hid_kept h i (Nat.le_of_succ_le hi), word_kept _ (h _ hm).1 (h _ hm).2]
end Mine

/-! L3 -/
namespace Mine
open PySem PySem.W PySem.Calls PyProof.Rows
set_option maxRecDepth 100000
set_option maxHeartbeats 8000000
/-- a for over what walks, by an invariant over the state -/
theorem walks_unr {w : World} {A : Around} {I : Addr} {fp wr : List Addr} {n : Nat} {P : Nat → Value → Prop} {St : Nat → Heap → Prop} {target : Expr} {body : List Stmt} {env : Env} {R : Result → Shared → Prop}
    (Wk : Walks pw w A I fp wr n P St) (J : Nat → Shared → Prop)
    (step : ∀ i v s h' tk, i < n → J i s → P i v → St (i + 1) h' → (∀ b o, b ∉ wr → s.heap.get? b = some o → h'.get? b = some o) →
      wpAny (model pw w) A (assign target env v) (fun _ s₂ => wpAny (model pw w) A (execs body env) (fun f s₃ => match f with
          | .next | .cont => J (i + 1) s₃ ∧ St (i + 1) s₃.heap
          | .brk => R (.ok .next) s₃
          | .ret v => R (.ok (.ret v)) s₃) (notedBy (model pw w) A env fun e s' => R (.error e) s') s₂) (notedBy (model pw w) A env fun e s' => R (.error e) s') { s with heap := h', toks := tk })
    (fin : ∀ s h' tk, J n s → (∀ b o, b ∉ wr → s.heap.get? b = some o → h'.get? b = some o) → R (.ok .next) { s with heap := h', toks := tk }) :
    ∀ k i s, k + i = n → J i s → St i s.heap → FUnr pw w A target (.ref I) body env R (k + 1) s
  | 0, i, s, e, j, st => by
    have e : i = n := by omega
    subst e
    unfold FUnr
    exact Wk.done s _ _ st (fun h' tk hk => fin s h' tk j hk)
  | k + 1, i, s, e, j, st => by
    unfold FUnr
    refine Wk.item i s _ _ (by omega) st (fun v h' tk p st' hk => ?_)
    refine wpAny_mono (step i v s h' tk (by omega) j p st' hk) (fun _ s₂ h₂ => ?_) (fun _ _ z => z)
    refine wpAny_mono h₂ (fun f s₃ h₃ => ?_) (fun _ _ z => z)
    cases f with
    | next => exact walks_unr Wk J step fin k (i + 1) s₃ (by omega) h₃.1 h₃.2
    | cont => exact walks_unr Wk J step fin k (i + 1) s₃ (by omega) h₃.1 h₃.2
    | brk => exact h₃
    | ret v => exact h₃
theorem sgnL_pos (t : Int) : ∀ c ∈ sgnL t, 0 ≤ c := fun c hc => by
  have h := List.mem_of_mem_drop (List.mem_of_mem_take hc)
  have p : ∀ c ∈ strangeL, 0 ≤ c := by decide
  exact p c h
theorem preL_pos : ∀ (l : List Int) (t : Int), (∀ f ∈ l, 0 ≤ f ∧ f < 64) → ∀ c ∈ preL l t, 0 ≤ c
  | [], _, _, c, hc => by simp [preL] at hc
  | f :: r, t, h, c, hc => by
    have hf := h f (List.mem_cons_self ..)
    simp only [preL, List.mem_append, List.mem_singleton] at hc
    rcases hc with (hc | hc) | hc
    · exact sgnL_pos _ c hc
    · omega
    · exact preL_pos r (t + 4) (fun g hg => h g (List.mem_cons_of_mem _ hg)) c hc
theorem hidAt_pos {nss : List (List Int)} {hs : List Int} (h : ∀ n ∈ nss, ∀ f ∈ n, 0 ≤ f ∧ f < 64) : ∀ i, ∀ c ∈ hidAt nss hs i, 0 ≤ c
  | 0, c, hc => by simp [hidAt] at hc
  | i + 1, c, hc => by
    simp only [hidAt, hidW, List.mem_append, List.mem_singleton] at hc
    have hg : ∀ f ∈ nss.getD i [], 0 ≤ f ∧ f < 64 := by
      by_cases e : i < nss.length
      · have : nss.getD i [] = nss[i] := by simp [List.getD, e]
        rw [this]; exact h _ (List.getElem_mem e)
      · have : nss.getD i [] = [] := by simp [List.getD, Nat.le_of_not_lt e]
        rw [this]; simp
    rcases hc with hc | (hc | hc) | hc
    · exact hidAt_pos h i c hc
    · exact preL_pos _ _ (fun f hf => hg f (List.mem_of_mem_take hf)) c hc
    · exact sgnL_pos _ c hc
    · generalize nss.getD i [] = ns at *
      by_cases e : ns.length - 1 < ns.length
      · have : ns.getD (ns.length - 1) 0 = ns[ns.length - 1] := by simp [List.getD, e]
        have := hg _ (this ▸ List.getElem_mem e)
        omega
      · have : ns.getD (ns.length - 1) 0 = 0 := by simp [List.getD, Nat.le_of_not_lt e]
        omega
noncomputable def signB : List Stmt := match nth lawB 3 with | .For _ _ b _ _ => b | _ => []
theorem turn3 {w : World} {mg mb : Str → Option Value} {d : Nat} {fr : Option (List Env)} {gu : Option (List Code)} {un : Nat} {s : Shared} {h₀ h5 : Heap} (G : Gd w mg mb h₀) (hd : d < 900) {L fa cc Kd : Addr} {m : Str → Option Value} {c tk : Nat} {u : Tok} {vs : List Value} {R : Flow → Shared → Prop} {E : Value → Shared → Prop} (F6 : Fr h₀ L h5 m)
    (hm : m (Str.ofString "sign") = some (.str ⟨#[c]⟩ u)) (hm2 : m (Str.ofString "kept") = some (.ref Kd)) (l5 : PlainL h5 Kd vs.toArray) (hKn : h₀.get? Kd = none) (hv : vs.length ≤ 1000)
    (hA : inTab c = false → ∀ h' tk, Fr h₀ L h' (fun y => if y = Str.ofString "held" then some (.bool false) else m y) → Kp [L, Kd] h5 h' → PlainL h' Kd vs.toArray → R .next { s with heap := h', toks := tk })
    (hB : inTab c = true → ∀ h' tk t, Fr h₀ L h' (fun y => if y = Str.ofString "held" then some (.bool true) else m y) → Kp [L, Kd] h5 h' → PlainL h' Kd (vs ++ [Value.int c t]).toArray → R .next { s with heap := h', toks := tk }) :
    wpAny (model pw w) ⟨none, d, fr, gu, un⟩ (execs signB (lawE L fa cc)) R E { s with heap := h5, toks := tk } := by
  have G0 := G
  obtain ⟨K, TT, GL⟩ := G
  have N5 : News h₀ L h5 [] := News.nil
  have hKL : Kd ≠ L := ns_ne F6.ns l5.isList
  conv in signB => whnf
  w_on
  walk1
  walk1
  refine fcall G0 F6.keep (f := 53) (o := ob53 w.params) (by kernel_rfl) (by kernel_rfl) rfl ?_
  refine args_cons (ldN F6.ns (v := .str ⟨#[c]⟩ u) hm ?_)
  refine args_nil ⟨F6.keep, ?_⟩
  refine callB (c_table (G0.ext (h' := h5) F6.keep) rfl (by exact hd)) (fun r h7 tk7 x7 b7 => ?_)
  have F7 := frm (Fr.ext F6 x7) (norm2 m hm hm2)
  have l7 := l5.keeps x7
  have N7 : News h₀ L h7 (fullL h₀ h7 [L]) := full_news (List.mem_cons_self ..)
  have hk7 := F7.keep
  generalize hnw : fullL h₀ h7 [L] = nw at N7
  clear N5
  subst b7
  dsimp only
  have hKLm : Kd ∉ [L] := fun q => hKL (List.mem_singleton.mp q)
  have plk : ∀ h', Kp [L] h7 h' → PlainL h' Kd vs.toArray := fun h' k => by
    obtain ⟨o, n, e, r⟩ := l7
    exact ⟨o, n, k Kd o hKLm e, r⟩
  have mon : ∀ h', Kp [L] h7 h' → Kp [L, Kd] h5 h' := fun h' k => x7.kp.trans (k.mono (by intro q hq; rw [List.mem_singleton.mp hq]; exact List.mem_cons_self ..))
  have fin : ∀ b : Bool, ∀ h', Fr h₀ L h' (fun y => if y = Str.ofString "held" then some (Value.bool b) else if y = Str.ofString "sign" then some (Value.str ⟨#[c]⟩ u) else if y = Str.ofString "kept" then some (Value.ref Kd) else m y) → Fr h₀ L h' (fun y => if y = Str.ofString "held" then some (Value.bool b) else m y) := fun b h' F' =>
    frm F' (funext fun y => by rw [← congrFun (norm2 m hm hm2) y])
  cases hc : inTab c
  · have k1 : (c : Int) ≠ 917505 := by
      intro q; unfold inTab at hc; simp [q] at hc
    have k2 : ¬ (917536 ≤ (c : Int) ∧ (c : Int) ≤ 917631) := by
      intro q; unfold inTab at hc; simp at hc; omega
    replace hA := hA hc
    clear hB
    clear F6
    repeat' ((fail_if_success (with_reducible show wpAny _ _ (Pure.pure _) _ _ _)); first | walk1 | (dsimp only; walk1))
    all_goals first
      | (exfalso; clear hA; simp at *; omega)
      | skip
    all_goals (rename Fr _ _ _ _ => F8; rename News _ _ _ _ => N8)
    all_goals (have k8 := kp_of F8 N8 hk7 (fun p hp => hnw ▸ hp); exact hA _ _ (fin _ _ F8) (mon _ k8) (plk _ k8))
  · have k1 : (c : Int) = 917505 ∨ (917536 ≤ (c : Int) ∧ (c : Int) ≤ 917631) := by
      unfold inTab at hc; simpa using hc
    replace hB := hB hc
    clear hA
    clear F6
    repeat' ((fail_if_success (with_reducible show wpAny _ _ (Pure.pure _) _ _ _)); (fail_if_success (with_reducible show wpAny _ _ (eval (Expr.Call (Expr.Attribute _ _ _) _ _ _) _) _ _ _)); first | walk1 | (dsimp only; walk1))
    all_goals first
      | (exfalso; clear hB; simp at *; omega)
      | skip
    all_goals (rename Fr _ _ _ _ => F8; rename News _ _ _ _ => N8)
    all_goals (have k8 := kp_of F8 N8 hk7 (fun p hp => hnw ▸ hp); have l8 := plk _ k8)
    all_goals (refine wpAny_Call_append (by rfl) (by rfl) (by rfl) (by rfl) (ldN F8.ns (v := .ref Kd) (by rfl) ⟨_, _, rfl, l8, ?_⟩))
    all_goals (repeat' ((fail_if_success (with_reducible show wpAny _ _ (call (Value.builtin "list.append") _) _ _ _)); first | walk1 | (dsimp only; walk1)))
    all_goals (refine list_append_plainL l8 (fun h9 l9 s9 => ?_) (by rw [List.size_toArray]; exact Nat.le_trans hv (by decide)))
    all_goals (refine wpAny_execs_nil (wpAny_execs_nil ?_))
    all_goals exact hB _ _ _ ((fin _ _ F8).change s9 hKL hKn) ((mon _ k8).trans (SameBut.kp s9 (by simp))) (by rw [← List.push_toArray]; exact l9)
theorem law3 {w : World} {mg mb : Str → Option Value} {d : Nat} {fr : Option (List Env)} {gu : Option (List Code)} {un : Nat} {s : Shared} {h₀ : Heap} (G : Gd w mg mb h₀) (hd : d < 900) {L fa c W H Kd : Addr} {m : Str → Option Value} {ws hs : List Value} {ns : List Int} {nss : List (List Int)} {Q : Flow → Shared → Prop} {E : Value → Shared → Prop} (F : Fr h₀ L s.heap m)
    (hm : m (Str.ofString "words") = some (.ref W)) (hm2 : m (Str.ofString "heaps") = some (.ref H)) (hm3 : m (Str.ofString "kept") = some (.ref Kd))
    (hl : s.heap.IsList W ws.toArray) (hW : WL s.heap ws nss) (hf : ∀ n ∈ nss, 1 ≤ n.length ∧ n.length ≤ 3 ∧ ∀ f ∈ n, 0 ≤ f ∧ f < 64) (hl2 : s.heap.IsList H hs.toArray) (hi : IntsAre hs ns) (hn : ns.length = 4) (hw : ws.length = 4) (hp : ∀ n ∈ ns, 0 ≤ n)
    (hk : PlainL s.heap Kd ([] : List Value).toArray) (hKn : h₀.get? Kd = none)
    (h : ∀ h' tk m' vs, Fr h₀ L h' m' → (∀ y, y ≠ Str.ofString "sign" → y ≠ Str.ofString "held" → m' y = m y) → Kp [L, Kd] s.heap h' → PlainL h' Kd vs.toArray → IntsAre vs ((hidAt nss ns 4).filter inTab) → Q .next { s with heap := h', toks := tk }) :
    wpAny (model pw w) ⟨none, d, fr, gu, un⟩ (exec (nth lawB 3) (lawE L fa c)) Q E s := by
  have G0 := G
  have N : News h₀ L s.heap [] := News.nil
  obtain ⟨K, TT, GL⟩ := G
  have F1 := frm F (norm1 m hm)
  conv in nth _ _ => whnf
  refine wpAny_For ?_
  refine fcall G0 F.keep (f := 79) (o := ob79 w.params) (by kernel_rfl) (by kernel_rfl) rfl ?_
  refine args_cons (ldN F.ns hm ?_)
  refine args_cons (ldN F.ns hm2 ?_)
  refine args_nil ⟨F.keep, ?_⟩
  refine callB (c_hid (G0.ext (h' := s.heap) F.keep) rfl (by exact hd) hl hW hf hl2 hi hn hw hp) (fun r h' tk x b => ?_)
  obtain ⟨tt, rfl⟩ := b
  have F2 := Fr.ext F x
  have hKL : Kd ≠ L := ns_ne F.ns hk.isList
  have hKd : Kd < h'.objs.size := (hk.keeps x).lt
  have hLs : L < h'.objs.size := F2.ns.lt
  have hIn : h₀.get? h'.objs.size = none := Heap.get?_none_of_le (Nat.le_trans F.above (Nat.le_of_lt hLs))
  refine wpAny_pyIter_str (fun o St Wk hst => ?_)
  have Wk := Wk ⟨none, d, fr, gu, un⟩ rfl
  have hsz : (txt (hidAt nss ns 4)).cps.size = (hidAt nss ns 4).length := by simp [txt]
  rw [hsz] at Wk
  refine for_code ((hidAt nss ns 4).length + 1) ?_ (by intro _; rfl)
  dsimp only
  have hpos : ∀ c ∈ hidAt nss ns 4, 0 ≤ c := hidAt_pos (fun n hn => (hf n hn).2.2) 4
  have hxl : (hidAt nss ns 4).length ≤ 1000 := Nat.le_trans (hidAt_len (fun n hn => (hf n hn).2.1) 4) (by decide)
  generalize hidAt nss ns 4 = hid at *
  refine walks_unr Wk (fun i s' => ∃ h2 tk2 m' vs, s' = { s with heap := h2, toks := tk2 } ∧ Fr h₀ L h2 m' ∧ (∀ y, y ≠ Str.ofString "sign" → y ≠ Str.ofString "held" → m' y = m y) ∧ Kp [L, Kd, h'.objs.size] h' h2 ∧ PlainL h2 Kd vs.toArray ∧ IntsAre vs ((hid.take i).filter inTab)) ?_ ?_ _ 0 _ rfl ?_ hst
  · rintro i v s' h3 tk3 hi ⟨h2, tk2, m', vs, rfl, F3, hm', k3, l3, i3⟩ ⟨c, u, hc, rfl⟩ st hk3
    replace hk3 : ∀ b o, b ≠ h'.objs.size → h2.get? b = some o → h3.get? b = some o := fun b o hb e => hk3 b o (by simpa using hb) e
    have F4 : Fr h₀ L h3 m' := ⟨F3.ns.at' fun o e => hk3 L o (Nat.ne_of_lt hLs) e, fun b o e => hk3 b o (fun q => by rw [q, hIn] at e; cases e) (F3.keep b o e), F3.above⟩
    have k4 : Kp [L, Kd, h'.objs.size] h' h3 := k3.trans fun b o hb e => hk3 b o (by simp at hb; exact hb.2.2) e
    have l4 : PlainL h3 Kd vs.toArray := by
      obtain ⟨o, n, e, r⟩ := l3
      exact ⟨o, n, hk3 Kd o (Nat.ne_of_lt hKd) e, r⟩
    refine wpAny_assign_Name (stL F4 (fun h5 F5 s5 => ?_))
    have k5 := k4.trans (SameBut.kp (off := [L, Kd, h'.objs.size]) s5 (List.mem_cons_self ..))
    have l5 : PlainL h5 Kd vs.toArray := l4.extBut s5.extBut hKL
    have hlen : vs.length ≤ 1000 := by
      rw [i3.length]
      refine Nat.le_trans (List.length_filter_le ..) ?_
      rw [List.length_take]
      exact Nat.le_trans (Nat.min_le_right ..) hxl
    have hci : (c : Int) = hid.getD i 0 := by
      have hm0 := hpos (hid.getD i 0) (by simp [List.getD, hi])
      have : (hid.getD i 0).toNat = c := by
        have := hc
        simp [txt, hi] at this
        simp [List.getD, hi, this]
      omega
    have htk : (hid.take (i + 1)).filter inTab = (hid.take i).filter inTab ++ (if inTab c then [(c : Int)] else []) := by
      rw [List.take_add_one, List.filter_append, hci]
      simp [List.getD, hi, List.filter]
      split <;> simp_all
    have hI5 : h5.get? h'.objs.size ≠ none → True := fun _ => trivial
    have stk : ∀ h6, Kp [L, Kd] h5 h6 → St (i + 1) h6 := fun h6 k6 => Wk.frame (i + 1) h3 h6 st (fun b hb o e => by
      have hb : b = h'.objs.size := by simpa using hb
      subst hb
      exact k6 _ o (by simp only [List.mem_cons, List.not_mem_nil, or_false, not_or]; exact ⟨Nat.ne_of_gt hLs, Nat.ne_of_gt hKd⟩) (s5.extBut _ o (Nat.ne_of_gt hLs) e))
    have mon : ∀ h6, Kp [L, Kd] h5 h6 → Kp [L, Kd, h'.objs.size] h' h6 := fun h6 k6 => k5.trans (k6.mono (by intro q hq; simp at hq ⊢; rcases hq with e | e <;> simp [e]))
    refine turn3 G0 hd (vs := vs) (c := c) (u := u) F5 (by rfl) (by rw [if_neg (by decide), hm' _ (by decide) (by decide)]; exact hm3) l5 hKn hlen ?_ ?_
    · intro hcf h6 tk6 F6 k6 l6
      refine ⟨⟨h6, tk6, _, vs, rfl, F6, ?_, mon _ k6, l6, ?_⟩, stk _ k6⟩
      · intro y h1 h2
        rw [if_neg h2, if_neg h1, hm' y h1 h2]
      · rw [htk, hcf]; simpa using i3
    · intro hcf h6 tk6 t6 F6 k6 l6
      refine ⟨⟨h6, tk6, _, _, rfl, F6, ?_, mon _ k6, l6, ?_⟩, stk _ k6⟩
      · intro y h1 h2
        rw [if_neg h2, if_neg h1, hm' y h1 h2]
      · rw [htk, hcf]
        exact i3.append (IntsAre.cons _ _ IntsAre.nil)
  · rintro s' h3 tk3 ⟨h2, tk2, m', vs, rfl, F3, hm', k3, l3, i3⟩ hk3
    replace hk3 : ∀ b o, b ≠ h'.objs.size → h2.get? b = some o → h3.get? b = some o := fun b o hb e => hk3 b o (by simpa using hb) e
    have F4 : Fr h₀ L h3 m' := ⟨F3.ns.at' fun o e => hk3 L o (Nat.ne_of_lt hLs) e, fun b o e => hk3 b o (fun q => by rw [q, hIn] at e; cases e) (F3.keep b o e), F3.above⟩
    have l4 : PlainL h3 Kd vs.toArray := by
      obtain ⟨o, n, e, r⟩ := l3
      exact ⟨o, n, hk3 Kd o (Nat.ne_of_lt hKd) e, r⟩
    rw [List.take_length] at i3
    refine h h3 tk3 m' vs F4 hm' (fun b o hb e => ?_) l4 i3
    have e' := x b o e
    have hbI : b ≠ h'.objs.size := Nat.ne_of_lt (Heap.lt_size e')
    exact hk3 b o hbI (k3 b o (by simp at hb ⊢; exact ⟨hb.1, hb.2, hbI⟩) e')
  · exact ⟨_, _, m, [], rfl, F2.push _, fun _ _ _ => rfl, (push_ext _ _).kp, hk.keeps (x.trans (push_ext _ _)), IntsAre.nil⟩
end Mine

/-! L4 -/
namespace Mine
open PySem PySem.W PySem.Calls PyProof.Rows
set_option maxRecDepth 100000
set_option maxHeartbeats 8000000
theorem cell_ne {h : Heap} {a c : Addr} {v : Option Value} {vs : Array Value} (x : h.IsCell c v) (y : h.IsList a vs) : a ≠ c := by
  rintro rfl
  obtain ⟨o, e, hd⟩ := x
  obtain ⟨o', e', _, n, hd'⟩ := y
  rw [e] at e'
  cases e'
  rw [hd] at hd'
  cases hd'
theorem law4 {w : World} {mg mb : Str → Option Value} {d : Nat} {fr : Option (List Env)} {gu : Option (List Code)} {un : Nat} {s : Shared} {h₀ : Heap} (G : Gd w mg mb h₀) {L fa c Kd : Addr} {m : Str → Option Value} {vs : List Value} {v₀ : Option Value} {Q : Flow → Shared → Prop} {E : Value → Shared → Prop} (F : Fr h₀ L s.heap m)
    (hm : m (Str.ofString "kept") = some (.ref Kd)) (hl : s.heap.IsList Kd vs.toArray) (hc : s.heap.IsCell (L + 1) v₀)
    (h : ∀ h' oI, Fr h₀ L h' m → Kp [L, L + 1] s.heap h' → h'.IsCell (L + 1) (some (.ref s.heap.objs.size)) → h'.get? s.heap.objs.size = some oI → ItObj oI Kd 0 → Q .next { s with heap := h' }) :
    wpAny (model pw w) ⟨none, d, fr, gu, un⟩ (exec (nth lawB 4) (lawE L fa c)) Q E s := by
  have G0 := G
  obtain ⟨K, TT, GL⟩ := G
  have N : News h₀ L s.heap [] := News.nil
  have F := frm F (norm1 m hm)
  conv in nth _ _ => whnf
  w_on
  repeat' ((fail_if_success (with_reducible show wpAny _ _ (call (Value.builtin "iter") _) _ _ _)); first | walk1 | (dsimp only; walk1))
  refine call_function_entry (by decide +kernel) (by decide +kernel) kdk_entry_iter (kdk_args_iter _) ?_
  unfold Builtin.«iter»
  refine wpAny_bind (m := someArgs "iter" 1 2 _) (wpAny_of_eq (a := [Value.ref Kd]) (by first | rfl | kernel_rfl!) ?_)
  show wpAny _ _ (pyIter (.ref Kd) >>= _) _ _ _
  refine wpAny_bind (wpAny_pyIter_list hl ?_)
  refine wpAny_pure ⟨_, rfl, ?_⟩
  have hcn : h₀.get? (L + 1) = none := Heap.get?_none_of_le (Nat.le_succ_of_le F.above)
  obtain ⟨oc, hoc, hdc⟩ := hc
  have hlt : (L + 1 : Nat) < s.heap.objs.size := Heap.lt_size hoc
  refine wpAny_storeName_cell rfl rfl (c := L + 1) (v₀ := v₀) rfl ⟨oc, Heap.get?_push_of_some _ hoc, hdc⟩ (fun h' hc' hs' => ?_)
  have F' := (F.push _).change hs' (Nat.succ_ne_self L) hcn
  refine h h' _ (frm F' (norm1 m hm).symm) (fun b o hb e => ?_) hc' ((hs'.2 _ (Nat.ne_of_gt hlt)).trans (Heap.get?_push_size _ rfl)) ⟨rfl, rfl⟩
  exact (hs'.2 b (fun q => hb (by rw [q]; simp))).trans (Heap.get?_push_of_some _ e)
end Mine

/-! L5 -/
namespace Mine
open PySem PySem.W PySem.Calls PyProof.Rows
set_option maxRecDepth 100000
set_option maxHeartbeats 8000000
theorem c_varW {w : World} {mg mb : Str → Option Value} {A : Around} {s : Shared} {hb : Heap} (Gb : Gd w mg mb hb) (hx : Ext hb s.heap) (hA : A.handled = none) (hdp : A.depth < 900) {it l : Addr} {i : Nat} {oI : Obj} {items : Array Value} {ns : List Int} (hn : hb.get? it = none) (ho : s.heap.get? it = some oI) (hI : ItObj oI l i) (hl : s.heap.IsList l items)
    (hok : WordOk ns) (hr : ∀ j, j < ns.length → ∃ u, items[i + j]? = some (.int ((keptW ns).getD j 0) u)) :
   wpAny (model pw w) A (call (.ref 35) [.ref it]) (BackIt s it (VarP it l (i + ns.length) (numL ns))) (fun _ _ => False) s := by
  rcases hok with ⟨a, rfl, h1, h2⟩ | ⟨a, b, rfl, h1, h2, h3, h4⟩ | ⟨a, b, e, rfl, h1, h2, h3, h4, h5, h6⟩
  · obtain ⟨u1, e1⟩ := hr 0 (by simp)
    have := c_var1 Gb hx hA hdp hn ho hI hl e1 h1 h2
    simpa [numL] using this
  · obtain ⟨u1, e1⟩ := hr 0 (by simp)
    obtain ⟨u2, e2⟩ := hr 1 (by simp)
    have := c_var2 Gb hx hA hdp hn ho hI hl e1 h1 (by omega) e2 h3 h4
    simpa [numL] using this
  · obtain ⟨u1, e1⟩ := hr 0 (by simp)
    obtain ⟨u2, e2⟩ := hr 1 (by simp)
    obtain ⟨u3, e3⟩ := hr 2 (by simp)
    have := c_var3 Gb hx hA hdp hn ho hI hl e1 h1 (by omega) e2 h3 h4 e3 h5 h6
    simpa [numL] using this
/-- where the tape stands after the first i words -/
noncomputable def posAt (nss : List (List Int)) : Nat → Nat
  | 0 => 0
  | i + 1 => posAt nss i + (nss.getD i []).length
theorem law5 {w : World} {mg mb : Str → Option Value} {d : Nat} {fr : Option (List Env)} {gu : Option (List Code)} {un : Nat} {s : Shared} {h₀ : Heap} (G : Gd w mg mb h₀) (hd : d < 900) {L fa c W Kd it : Addr} {oI : Obj} {m : Str → Option Value} {ws items : List Value} {nss : List (List Int)} {Q : Flow → Shared → Prop} {E : Value → Shared → Prop} (F : Fr h₀ L s.heap m)
    (hm : m (Str.ofString "words") = some (.ref W)) (hl : s.heap.IsList W ws.toArray) (hw : ws.length = 4) (hns : nss.length = 4) (hk : s.heap.IsList Kd items.toArray) (hc : s.heap.IsCell (L + 1) (some (.ref it))) (ho : s.heap.get? it = some oI) (hI : ItObj oI Kd 0) (hit : h₀.get? it = none)
    (hok : ∀ ns ∈ nss, WordOk ns) (hr : ∀ i, i < 4 → ∀ j, j < (nss.getD i []).length → ∃ u, items[posAt nss i + j]? = some (.int ((keptW (nss.getD i [])).getD j 0) u))
    (h : ∀ h' tk D ys oI', Fr h₀ L h' (fun y => if y = Str.ofString "numbers" then some (.ref D) else m y) → Kp [L, it] s.heap h' → h'.IsList D ys.toArray → IntsAre ys (nss.map numL) → h'.get? it = some oI' → ItObj oI' Kd (posAt nss 4) → D ≠ it → Q .next { s with heap := h', toks := tk }) :
    wpAny (model pw w) ⟨none, d, fr, gu, un⟩ (exec (nth lawB 5) (lawE L fa c)) Q E s := by
  have hitne : ∀ {a : Addr} {vs : Array Value}, s.heap.IsList a vs → a ≠ it := by
    rintro a vs ⟨o, e, c, _⟩ rfl
    rw [ho] at e
    cases e
    rw [hI.1] at c
    exact absurd c (by decide)
  have hitL : it ≠ L := by
    rintro rfl
    obtain ⟨o, es, ep, e, hdd, _⟩ := F.ns
    rw [ho] at e
    cases e
    rw [hI.2] at hdd
    cases hdd
  have hWL : W ≠ L := ns_ne F.ns hl
  have hKL : Kd ≠ L := ns_ne F.ns hk
  have hcn : h₀.get? (L + 1) = none := Heap.get?_none_of_le (Nat.le_succ_of_le F.above)
  have N0 : News h₀ L s.heap (fullL h₀ s.heap [L, it]) := full_news (List.mem_cons_self ..)
  have hk0 := F.keep
  obtain ⟨oc, hoc, hdc⟩ := hc
  have hcit : (L + 1 : Nat) ≠ it := by
    rintro rfl
    rw [ho] at hoc
    cases hoc
    rw [hI.2] at hdc
    cases hdc
  have hcm : (L + 1, oc) ∈ fullL h₀ s.heap [L, it] := full_mem.mpr ⟨hoc, by simp [hcit], hcn⟩
  have hsrc : ∀ p ∈ fullL h₀ s.heap [L, it], p ∈ fullL h₀ s.heap [L, it] := fun p hp => hp
  have hS := src_full (off := [L, it]) hl (by simp [hWL, hitne hl]) hk0 hsrc
  have hSk := src_full (off := [L, it]) hk (by simp [hKL, hitne hk]) hk0 hsrc
  have hnwit : ∀ p ∈ fullL h₀ s.heap [L, it], p.1 ≠ it := fun p hp q => by
    have := (full_mem.mp (show (p.1, p.2) ∈ _ from hp)).2.1
    simp [q] at this
  generalize hnw : fullL h₀ s.heap [L, it] = nw at N0 hcm hS hSk hnwit hsrc
  have N : News h₀ L s.heap ((it, oI) :: nw) := fun p hp => by
    rcases List.mem_cons.mp hp with rfl | hp
    · exact ⟨ho, hitL, hit⟩
    · exact N0 p hp
  conv in nth _ _ => whnf
  refine wpAny_mono (LCg.Assign_ListComp_U (E := fun _ _ => False) (m := m) (h₀ := h₀) (L := L) (cl := [(Str.ofString "tape", L + 1)]) F rfl ?_ ?_ ?_ ?_ ?_ ?_ ?_ ?_ ?_ ?_) (fun f s' x => x) (fun _ _ => False.elim)
  case refine_9 =>
    refine ldN F.ns hm ?_
    refine .inl ⟨W, ws.toArray, (it, oI) :: nw, rfl, rfl, F, N, src_mono hS fun p hp => List.mem_cons_of_mem _ hp, ?_, ?_⟩
    · show ws.toArray.size ≤ sizeLine
      rw [List.size_toArray, hw]; decide
    rintro s₂ ⟨g, rfl⟩
    refine comp_rest (fun i ys nw' => ∃ o, nw' = (it, o) :: nw ∧ ItObj o Kd (posAt nss i) ∧ IntsAre ys ((nss.take i).map numL)) ?_ ?_ _ 0 [] _ rfl ⟨oI, rfl, hI, IntsAre.nil⟩
    · rintro i ys nw' v I oI' C oC D m₂ h1 tk E' ⟨o, rfl, j1, j2⟩ hi1 hv hC hx F1 N1 off ne
      have hi4 : i < 4 := by simpa [hw] using hi1
      have nC := N1 (C, oC) (by simp)
      have nI := N1 (it, o) (by simp)
      have nc := N1 (L + 1, oc) (by simp [hcm])
      have hmem : nss.getD i [] ∈ nss := by
        have : i < nss.length := by omega
        simp [List.getD, this]
      have N1' : News h₀ L h1 nw := fun p hp => N1 p (by simp [hp])
      refine fcall G F1.keep (f := 35) (o := ob35 w.params) (by kernel_rfl) (by kernel_rfl) rfl ?_
      refine args_cons (wpAny_Name (wpAny_loadName_cell rfl rfl (c := L + 1) (v := .ref it) rfl ⟨oc, nc.1, hdc⟩ ?_) (by decide))
      refine args_nil ⟨F1.keep, ?_⟩
      refine wpAny_mono (c_varW (s := { s with heap := h1, toks := tk }) G F1.keep rfl (by exact hd) hit nI.1 j1 (hSk.list F1.keep N1') (hok _ hmem) (by simpa using hr i hi4)) (fun r s' b => ?_) (fun _ _ => False.elim)
      obtain ⟨h', tk', rfl, kp, o', t', ho', hI', rfl⟩ := b
      have hoff := off.mem
      have hIit : I ≠ it := fun q => (hoff (it, o) (List.mem_cons_self ..)).1 q.symm
      have hCit : C ≠ it := fun q => (hoff (it, o) (List.mem_cons_self ..)).2.1 q.symm
      have hDit : D ≠ it := fun q => (hoff (it, o) (List.mem_cons_self ..)).2.2 q.symm
      have F' : Fr h₀ L h' m := ⟨F1.ns.at' fun o e => kp L o (Ne.symm hitL) e, fun b o e => kp b o (fun q => by rw [q, hit] at e; cases e) (F1.keep b o e), F1.above⟩
      refine LCg.CompEnd.intro (all := (I, oI') :: (C, oC) :: (D, LCg.lst ys) :: (it, o') :: nw) F' ?_ ((it, o') :: nw) (fun p hp => hp) ⟨off.1, off.2⟩ (src_mono hS fun p hp => List.mem_cons_of_mem _ hp) ⟨o', rfl, hI', ?_⟩
      · intro p hp
        simp only [List.mem_cons] at hp
        rcases hp with rfl | rfl | rfl | rfl | hp
        · exact ⟨kp _ _ hIit (N1 (I, oI') (by simp)).1, (N1 (I, oI') (by simp)).2⟩
        · exact ⟨kp _ _ hCit (N1 (C, oC) (by simp)).1, (N1 (C, oC) (by simp)).2⟩
        · exact ⟨kp _ _ hDit (N1 (D, LCg.lst ys) (by simp)).1, (N1 (D, LCg.lst ys) (by simp)).2⟩
        · exact ⟨ho', nI.2⟩
        · exact ⟨kp _ _ (hnwit p hp) (N1' p hp).1, (N1' p hp).2⟩
      · have e : (nss.take (i + 1)).map numL = (nss.take i).map numL ++ [numL (nss.getD i [])] := by
          have hil : i < nss.length := by omega
          rw [List.take_add_one, List.map_append]
          simp [List.getD, hil]
        rw [e]
        exact j2.append (IntsAre.cons _ _ IntsAre.nil)
    · rintro ys nw' ⟨o, rfl, j1, j2⟩ D h' tk F' N' off
      have hsz : ws.toArray.size = 4 := by rw [List.size_toArray]; exact hw
      rw [hsz, Nat.add_zero] at j1 j2
      rw [List.take_of_length_le (by omega)] at j2
      have N'' : News h₀ L h' nw := fun p hp => N' p (by simp [hp])
      refine h h' tk D ys o F' (kp_of F' N'' hk0 (fun p hp => hnw ▸ hp)) ⟨_, (N' _ (List.mem_cons_self ..)).1, rfl, _, rfl⟩ j2 (N' (it, o) (by simp)).1 j1 ?_
      exact fun q => off.1 q.symm
  all_goals first | rfl | decide | kernel_rfl | (intro _; rfl)
end Mine

/-! P1 -/
namespace Mine
open PySem PySem.W PySem.Calls PyProof.Rows
set_option maxRecDepth 100000
set_option maxHeartbeats 8000000
local macro_rules | `(tactic| walk_at "binaryOp Mod int int") => `(tactic| (refine PyProof.Rows.mod_int (by decide) ?_))
theorem law10 {w : World} {mg mb : Str → Option Value} {d : Nat} {fr : Option (List Env)} {gu : Option (List Code)} {un : Nat} {s : Shared} {h₀ : Heap} (G : Gd w mg mb h₀) (hd : d < 900) (hu : un + 64 < cLine) {L fa c H : Addr} {m : Str → Option Value} {V : Nat} {t1 : Tok} {Q : Flow → Shared → Prop} {E : Value → Shared → Prop} (F : Fr h₀ L s.heap m)
    (m1 : m (Str.ofString "hues") = some (.ref H)) (m2 : m (Str.ofString "whole") = some (.int V t1)) (lU : HueL s.heap H V)
    (h : ∀ h' tk m', Fr h₀ L h' m' → (∀ y, y ≠ Str.ofString "level" → y ≠ Str.ofString "grey" → m' y = m y) → Kp [L] s.heap h' → Q .next { s with heap := h', toks := tk }) :
    wpAny (model pw w) ⟨none, d, fr, gu, un⟩ (exec (nth lawB 10) (lawE L fa c)) Q E s := by
  have G0 := G
  obtain ⟨K, TT, GL⟩ := G
  have N : News h₀ L s.heap (fullL h₀ s.heap [L]) := full_news (List.mem_cons_self ..)
  have hk0 := F.keep
  have ns0 := F.ns
  generalize hnw : fullL h₀ s.heap [L] = nw at N
  have F1 := frm F (norm1 m m2)
  have eW : nth lawB 10 = .For (.Name (Str.ofString "level") ⟨130, 8, 130, 13⟩) levelX levelB [] ⟨130, 4, 133, 24⟩ := by kernel_rfl
  rw [eW]
  refine wpAny_For ?_
  conv in levelX => whnf
  w_on
  clear F
  repeat' ((fail_if_success (with_reducible show wpAny _ _ (pyIter _) _ _ _)); first | walk1 | (dsimp only; walk1))
  rename Fr _ _ _ _ => F2
  rename News _ _ _ _ => N2
  rename_i Dt h1 _
  have ht := (N2 _ (List.mem_cons_self ..)).1
  have k1 : Kp [L] s.heap h1 := kp_of F2 (fun p hp => N2 p (List.mem_cons_of_mem _ hp)) hk0 (fun p hp => hnw ▸ hp)
  have F2 := frm F2 (norm1 m m2).symm
  have hfm : (V : Int).fmod 64 = ((V % 64 : Nat) : Int) := fmod_nat V 64
  rw [hfm] at ht
  have hDt : IsTup h1 Dt #[.int 0 s.toks, .int (1 + ((V % 64 : Nat) : Int)) (s.toks + 1 + 1 + 1 + 1)] := ⟨_, ht, rfl, _, rfl⟩
  clear ht N2
  have tL1 := tup_ne F2.ns hDt
  have hDn : Dt < h1.objs.size := by obtain ⟨_, e, _⟩ := hDt; exact Heap.lt_size e
  have hLn1 : L < h1.objs.size := F2.ns.lt
  have abv := F2.above
  have hLn : h₀.get? L = none := Heap.get?_none_of_le abv
  have hIn : h₀.get? h1.objs.size = none := Heap.get?_none_of_le (Nat.le_trans abv (Nat.le_of_lt hLn1))
  obtain ⟨u0, u1, u2, lU⟩ := lU
  refine wpAny_pyIter_tuple hDt ?_
  have Wk := walksTup (prog := pw) (w := w) (A := ⟨none, d, fr, gu, un⟩) rfl h1.objs.size Dt (Nat.ne_of_lt hDn) #[.int 0 s.toks, .int (1 + ((V % 64 : Nat) : Int)) (s.toks + 1 + 1 + 1 + 1)]
  have Wk : Walks pw w ⟨none, d, fr, gu, un⟩ h1.objs.size [h1.objs.size, Dt] [h1.objs.size] 2 _ _ := Wk
  refine for_code 3 ?_ (by intro _; rfl)
  dsimp only
  refine walks_unr Wk (fun i s' => ∃ h2 tk2 m', s' = { s with heap := h2, toks := tk2 } ∧ Fr h₀ L h2 m' ∧ (∀ y, y ≠ Str.ofString "level" → y ≠ Str.ofString "grey" → m' y = m y) ∧ Kp [L] s.heap h2) ?_ ?_ 2 0 _ rfl ?_ ?_
  · rintro i v s' h3 tk3 hi ⟨h2, tk2, m', rfl, F3, hm', k3⟩ hv st hk3
    replace hk3 : ∀ b o, b ≠ h1.objs.size → h2.get? b = some o → h3.get? b = some o := fun b o hb e => hk3 b o (by simpa using hb) e
    have hi2 : i = 0 ∨ i = 1 := by omega
    obtain ⟨lv, tt, rfl, hlv⟩ : ∃ (lv : Int) (tt : Tok), v = .int lv tt ∧ (0 ≤ lv ∧ lv ≤ 100) := by
      rcases hi2 with rfl | rfl
      · exact ⟨0, _, (Option.some.inj hv).symm, by decide⟩
      · exact ⟨1 + ((V % 64 : Nat) : Int), _, (Option.some.inj hv).symm, by omega⟩
    have F4 : Fr h₀ L h3 m' := ⟨F3.ns.at' fun o e => hk3 L o (Nat.ne_of_lt hLn1) e, fun b o e => hk3 b o (fun q => by rw [q, hIn] at e; cases e) (F3.keep b o e), abv⟩
    have k4 : Kp [L] s.heap h3 := fun b o hb e => by
      have hbs : b ≠ h1.objs.size := Nat.ne_of_lt (Heap.lt_size (k1 b o hb e))
      exact hk3 b o hbs (k3 b o hb e)
    refine wpAny_assign_Name (stL (env := lawE L fa c) F4 (fun h5 F5 s5 => ?_))
    have k5 := k4.trans (SameBut.kp (off := [L]) s5 (List.mem_cons_self ..))
    have eB : levelB = [nth levelB 0, nth levelB 1] := by kernel_rfl
    rw [eB]
    dsimp only
    refine wpAny_execs_cons (lev0 G0 hd (s := { s with heap := h5, toks := tk3 + 1 }) F5 (by rw [if_neg (by decide), hm' _ (by decide) (by decide)]; exact m1) (by rfl) ⟨u0, u1, u2, lK ns0 lU k5⟩ (fun h6 tk6 P a b e F6 k6 tP => ?_))
    refine wpAny_execs_cons (lev1 G0 hd hu (s := { s with heap := h6, toks := tk6 }) F6 (by rfl) (by rfl) tP hlv (fun h7 tk7 F7 k7 => ?_))
    refine wpAny_execs_nil ?_
    have k57 : Kp [L] h5 h7 := k6.trans k7
    have k37 : Kp [L] h3 h7 := (SameBut.kp (off := [L]) s5 (List.mem_cons_self ..)).trans k57
    refine ⟨⟨h7, tk7, _, rfl, F7, fun y e1 e2 => ?_, k5.trans k57⟩, Wk.frame (i + 1) h3 h7 st (fun b hb o e => k37 b o (fun q => ?_) e)⟩
    · rw [if_neg e2, if_neg e1]; exact hm' y e1 e2
    · have q := List.mem_singleton.mp q
      simp only [List.mem_cons, List.not_mem_nil, or_false] at hb
      rcases hb with rfl | rfl
      · exact Nat.ne_of_gt hLn1 q
      · exact tL1 q
  · rintro s' h3 tk3 ⟨h2, tk2, m', rfl, F3, hm', k3⟩ hk3
    replace hk3 : ∀ b o, b ≠ h1.objs.size → h2.get? b = some o → h3.get? b = some o := fun b o hb e => hk3 b o (by simpa using hb) e
    refine h h3 tk3 m' ⟨F3.ns.at' fun o e => hk3 L o (Nat.ne_of_lt hLn1) e, fun b o e => hk3 b o (fun q => by rw [q, hIn] at e; cases e) (F3.keep b o e), abv⟩ hm' (fun b o hb e => ?_)
    exact hk3 b o (Nat.ne_of_lt (Heap.lt_size (k1 b o hb e))) (k3 b o hb e)
  · exact ⟨_, _, m, rfl, F2.push _, fun _ _ _ => rfl, k1.trans (push_ext _ _).kp⟩
  · exact ⟨⟨_, Heap.get?_push_size _ rfl, rfl, rfl⟩, let ⟨o, e, r⟩ := hDt; ⟨o, Heap.get?_push_of_some _ e, r⟩⟩
end Mine

/-! P2 -/
namespace Mine
open PySem PySem.W PySem.Calls PyProof.Rows
set_option maxRecDepth 100000
set_option maxHeartbeats 8000000
theorem law11 {w : World} {mg mb : Str → Option Value} {d : Nat} {fr : Option (List Env)} {gu : Option (List Code)} {un : Nat} {s : Shared} {h₀ : Heap} (G : Gd w mg mb h₀) (hd : d < 900) (hu : un + 64 < cLine) {L fa c D Wa : Addr} {m : Str → Option Value} {ws dv' : List Value} {nss : List (List Int)} {Q : Flow → Shared → Prop} {E : Value → Shared → Prop} (F : Fr h₀ L s.heap m)
    (m1 : m (Str.ofString "numbers") = some (.ref D)) (m2 : m (Str.ofString "words") = some (.ref Wa)) (lD : s.heap.IsList D dv'.toArray) (iD : IntsAre dv' (nss.map numL)) (lW : s.heap.IsList Wa ws.toArray) (wl : WL s.heap ws nss) (hw : ws.length = 4) (hn4 : nss.length = 4) (hok : ∀ ns ∈ nss, WordOk ns)
    (h : ∀ h' tk, Fr h₀ L h' m → Q (.ret (.bool true)) { s with heap := h', toks := tk }) :
    wpAny (model pw w) ⟨none, d, fr, gu, un⟩ (exec (nth lawB 11) (lawE L fa c)) Q E s := by
  have G0 := G
  obtain ⟨K, TT, GL⟩ := G
  have N : News h₀ L s.heap (fullL h₀ s.heap [L]) := full_news (List.mem_cons_self ..)
  have hk0 := F.keep
  have ns0 := F.ns
  have hDL := ns_ne ns0 lD
  have hWL := ns_ne ns0 lW
  have hS := src_full (off := [L]) lW (by simpa using hWL) F.keep (fun p hp => hp)
  have hS2 := src_full (off := [L]) lD (by simpa using hDL) F.keep (fun p hp => hp)
  generalize hnw : fullL h₀ s.heap [L] = nw at N hS hS2
  have F1 := frm F (norm2 m m1 m2)
  conv in nth _ _ => whnf
  w_on
  repeat' ((fail_if_success (with_reducible show wpAny _ _ (eval (Expr.ListComp _ _ _ _) _) _ _ _)); first | walk1 | (dsimp only; walk1))
  refine LCg.ListComp_U (F₀ := F1) (by rfl) (by decide) (by rfl) (by decide) (by rfl) ?_
  refine ldN F1.ns (v := .ref Wa) (by rfl) ?_
  refine .inl ⟨Wa, ws.toArray, nw, rfl, rfl, F1, N, hS, by rw [List.size_toArray, hw]; decide, ?_⟩
  rintro s₂ ⟨g, rfl⟩
  refine comp_rest (fun i ys nw' => nw' = nw ∧ IntsAre ys ((nss.take i).map numL)) ?_ ?_ _ 0 [] _ rfl ⟨rfl, IntsAre.nil⟩
  · rintro i ys nw' v I oI C oC Dd m₂ h1 tk E' ⟨rfl, j2⟩ hi1 hv hC hx F2 N2 off ne
    have nC := N2 (C, oC) (by simp)
    obtain ⟨⟨wa, wv, rfl, lw, iw⟩, hil⟩ := wl.get (by simpa using hv)
    have hmem : nss.getD i [] ∈ nss := by
      have : nss.getD i [] = nss[i] := by simp [List.getD, hil]
      rw [this]; exact List.getElem_mem hil
    have waL := ns_ne ns0 lw
    have lw2 : h1.IsList wa wv.toArray := by
      have := src_full (off := [L]) lw (by simpa using waL) hk0 (fun p hp => hnw ▸ hp)
      exact this.list F2.keep (fun p hp => N2 p (by simp [hp]))
    refine fcall G0 F2.keep (f := 74) (o := ob74 w.params) (by kernel_rfl) (by kernel_rfl) rfl ?_
    refine args_cons (ldN (hC.ns nC.1) hx ?_)
    refine args_nil ⟨F2.keep, ?_⟩
    have cp := fun tk => @c_num w mg mb ⟨none, d, fr, gu, un⟩ { s with heap := h1, toks := tk } (G0.ext (show Ext h₀ h1 from F2.keep)) rfl hd wa wv _ lw2 iw (hok _ hmem).len.2
    refine callB (cp _) (fun r h' tk' x b => ?_)
    obtain ⟨tt, rfl⟩ := b
    have F' := Fr.ext F2 x
    refine LCg.CompEnd.intro F' (News.ext N2 x) nw' (fun p hp => hp) off hS ⟨rfl, ?_⟩
    have e : (nss.take (i + 1)).map numL = (nss.take i).map numL ++ [numL (nss.getD i [])] := by
      rw [List.take_add_one, List.map_append]
      simp [List.getD, hil]
    rw [e]
    exact j2.append (IntsAre.cons _ _ IntsAre.nil)
  · rintro ys nw' ⟨rfl, j2⟩ Dd h' tk F' N' off
    have hsz : ws.toArray.size = 4 := by rw [List.size_toArray]; exact hw
    rw [hsz, Nat.add_zero, List.take_of_length_le (by omega)] at j2
    have z := (N' _ (List.mem_cons_self ..)).1
    have N'' : News h₀ L h' nw' := fun p hp => N' p (List.mem_cons_of_mem _ hp)
    repeat' ((fail_if_success (with_reducible show wpAny _ _ (compareOp _ _ _) _ _ _)); first | walk1 | (dsimp only; walk1))
    refine eq_intsK (hS2.list F'.keep N'') iD ⟨_, z, rfl, _, rfl⟩ j2 hu ?_
    rw [decide_eq_true rfl]
    exact h _ _ (frm F' (norm2 m m1 m2).symm)
end Mine

/-! L0 -/
namespace Mine
open PySem PySem.W PySem.Calls PyProof.Rows
set_option maxRecDepth 100000
set_option maxHeartbeats 8000000
theorem law0 {w : World} {mg mb : Str → Option Value} {d : Nat} {fr : Option (List Env)} {gu : Option (List Code)} {un : Nat} {s : Shared} {h₀ : Heap} (G : Gd w mg mb h₀) (hd : d < 900) {L fa c l : Addr} {m : Str → Option Value} {vs : List Value} {ns : List Int} {Q : Flow → Shared → Prop} {E : Value → Shared → Prop}
    (hm : m (Str.ofString "script") = some (.ref l)) (hl : h₀.IsList l vs.toArray) (hi : IntsAre vs ns) (hn : ns.length ≤ 63) (F : Fr h₀ L s.heap m)
    (h : ∀ h' tk H vs', Fr h₀ L h' (fun y => if y = Str.ofString "heaps" then some (.ref H) else m y) → Kp [L] s.heap h' → h'.IsList H vs'.toArray → IntsAre vs' (heapsL ns) → Q .next { s with heap := h', toks := tk }) :
    wpAny (model pw w) ⟨none, d, fr, gu, un⟩ (exec (nth lawB 0) (lawE L fa c)) Q E s := by
  have G0 := G
  obtain ⟨K, TT, GL⟩ := G
  have N : News h₀ L s.heap (fullL h₀ s.heap [L]) := full_news (List.mem_cons_self ..)
  have hk0 := F.keep
  generalize hnw : fullL h₀ s.heap [L] = nw at N
  have F := frm F (norm1 m hm)
  conv in nth _ _ => whnf
  w_on
  repeat' ((fail_if_success (with_reducible show wpAny _ _ (eval (Expr.Name (Str.ofString "_law_heaps") _) _) _ _ _)); first | walk1 | (dsimp only; walk1))
  refine fn_name G0 F.keep (v := .ref 60) (by kernel_rfl) ?_
  refine callWith_def (o := ob60 w.params) rfl ?_
  repeat' ((fail_if_success (with_reducible show wpAny _ _ (call (Value.ref _) _) _ _ _)); first | walk1 | (dsimp only; walk1))
  · exact F.keep _ _ (K _ _ (by kernel_rfl))
  refine callB (c_heaps (G0.ext F.keep) rfl (by exact hd) (hl.at fun o e => F.keep _ o e) hi hn) (fun v h' tk x b => ?_)
  obtain ⟨H, vs', rfl, hH, hI⟩ := b
  have F' := Fr.ext F x
  have N' : News h₀ L h' (fullL h₀ h' [L]) := full_news (List.mem_cons_self ..)
  have hk1 := F'.keep
  have hHL : H ≠ L := ns_ne F'.ns hH
  generalize hnw' : fullL h₀ h' [L] = nw' at N'
  clear F N
  repeat' ((fail_if_success (with_reducible show wpAny _ _ (Pure.pure _) _ _ _)); first | walk1 | (dsimp only; walk1))
  rename Fr _ _ _ _ => F2
  rename News _ _ _ _ => N2
  have k := kp_of F2 N2 hk1 (fun p hp => hnw' ▸ hp)
  have l := Lst.kp (vs := vs') ⟨fun e => hHL (List.mem_singleton.mp e), hH⟩ k
  exact h _ _ H vs' (frm F2 (funext fun y => by rw [← congrFun (norm1 m hm) y])) (x.kp.trans k) l.2 hI
end Mine

/-! WWord2 -/
namespace Mine
open PySem PySem.W PySem.Calls PyProof.Rows
set_option maxRecDepth 100000
set_option maxHeartbeats 8000000
theorem c_wordF {w : World} {mg mb : Str → Option Value} {A : Around} {s : Shared} (G : Gd w mg mb s.heap) (hA : A.handled = none) (hdp : A.depth < 900) {heap : Int} {t1 : Tok}
   (h1 : 0 ≤ heap) (h2 : heap < 2 ^ 60) :
   wpAny (model pw w) A (call (.ref 67) [.int heap t1]) (Back s (fun r h' => ∃ a vs, r = .ref a ∧ s.heap.get? a = none ∧ h'.IsList a vs.toArray ∧ IntsAre vs (wordL heap))) (fun _ _ => False) s := by
  refine enter (i := 10) (name := Str.ofString "_law_word") (o := ob67 w.params) (c := 66) (pm := pmOf (ob67 w.params)) (binds := [(Str.ofString "heap", Value.int heap t1)]) G hdp (by kernel_rfl) (by kernel_rfl) (by kernel_rfl) (by kernel_rfl) (locs (by kernel_rfl)) (by kernel_rfl) (by kernel_rfl) (by kernel_rfl) (by decide +kernel) (fun h₁ F => ?_)
  obtain ⟨K, TT, GL⟩ := G
  obtain ⟨hh, d, fr, gu, un⟩ := A
  cases hA
  have N0 : News s.heap s.heap.objs.size h₁ [] := News.nil
  conv in fbod _ => whnf
  w_on
  repeat' (first | walk1 | (dsimp only; walk1))
  · rename_i N I _
    exact ⟨_, _, rfl, Fr.keep (by assumption), _, _, rfl, (N _ (List.mem_cons_self ..)).2.2, ⟨_, (N _ (List.mem_cons_self ..)).1, rfl, _, rfl⟩, by unfold wordL; rw [if_pos (by assumption)]; exact I⟩
  · rename_i N I _
    exact ⟨_, _, rfl, Fr.keep (by assumption), _, _, rfl, (N _ (List.mem_cons_self ..)).2.2, ⟨_, (N _ (List.mem_cons_self ..)).1, rfl, _, rfl⟩, by unfold wordL; rw [if_neg (by assumption)]; exact I⟩
end Mine

/-! L1 -/
namespace Mine
open PySem PySem.W PySem.Calls PyProof.Rows
set_option maxRecDepth 100000
set_option maxHeartbeats 8000000
noncomputable def WN (nw : List (Addr × Obj)) : List Value → List (List Int) → Prop
  | [], [] => True
  | v :: vs, ns :: nss => (∃ a o xs, v = .ref a ∧ (a, o) ∈ nw ∧ o.cls = .type "list" ∧ (∃ n, o.data = .seq (List.toArray xs) n) ∧ IntsAre xs ns) ∧ WN nw vs nss
  | _, _ => False
theorem WN.mono {nw nw' : List (Addr × Obj)} (sub : ∀ p ∈ nw, p ∈ nw') : ∀ {vs : List Value} {nss : List (List Int)}, WN nw vs nss → WN nw' vs nss
  | [], [], _ => trivial
  | [], _ :: _, x => x.elim
  | _ :: _, [], x => x.elim
  | v :: vs, ns :: nss, ⟨⟨a, o, xs, e, m, r⟩, x⟩ => ⟨⟨a, o, xs, e, sub _ m, r⟩, x.mono sub⟩
theorem WN.snoc {nw : List (Addr × Obj)} {v : Value} {ns : List Int} (h : ∃ a o xs, v = .ref a ∧ (a, o) ∈ nw ∧ o.cls = .type "list" ∧ (∃ n, o.data = .seq (List.toArray xs) n) ∧ IntsAre xs ns) : ∀ {vs : List Value} {nss : List (List Int)}, WN nw vs nss → WN nw (vs ++ [v]) (nss ++ [ns])
  | [], [], _ => ⟨h, trivial⟩
  | [], _ :: _, x => x.elim
  | _ :: _, [], x => x.elim
  | _ :: _, _ :: _, ⟨y, x⟩ => ⟨y, x.snoc h⟩
theorem WN.wl {h₀ h : Heap} {L : Addr} {nw : List (Addr × Obj)} (N : News h₀ L h nw) : ∀ {vs : List Value} {nss : List (List Int)}, WN nw vs nss → WL h vs nss
  | [], [], _ => trivial
  | [], _ :: _, x => x.elim
  | _ :: _, [], x => x.elim
  | v :: vs, ns :: nss, ⟨⟨a, o, xs, e, m, c, n, i⟩, x⟩ => ⟨⟨a, xs, e, ⟨o, (N _ m).1, c, n⟩, i⟩, x.wl N⟩
theorem law1 {w : World} {mg mb : Str → Option Value} {d : Nat} {fr : Option (List Env)} {gu : Option (List Code)} {un : Nat} {s : Shared} {h₀ : Heap} (G : Gd w mg mb h₀) (hd : d < 900) {L fa c H : Addr} {m : Str → Option Value} {vs : List Value} {ns : List Int} {Q : Flow → Shared → Prop} {E : Value → Shared → Prop}
    (hm : m (Str.ofString "heaps") = some (.ref H)) (hl : s.heap.IsList H vs.toArray) (hi : IntsAre vs ns) (hn : ns.length = 4) (hb : ∀ n ∈ ns, 0 ≤ n ∧ n < 2 ^ 60) (F : Fr h₀ L s.heap m)
    (h : ∀ h' tk W ws, Fr h₀ L h' (fun y => if y = Str.ofString "words" then some (.ref W) else m y) → Kp [L] s.heap h' → h'.IsList W ws.toArray → WL h' ws (ns.map wordL) → Q .next { s with heap := h', toks := tk }) :
    wpAny (model pw w) ⟨none, d, fr, gu, un⟩ (exec (nth lawB 1) (lawE L fa c)) Q E s := by
  have G0 := G
  obtain ⟨K, TT, GL⟩ := G
  have N : News h₀ L s.heap (fullL h₀ s.heap [L]) := full_news (List.mem_cons_self ..)
  have hk0 := F.keep
  have hHL : H ≠ L := ns_ne F.ns hl
  generalize hnw : fullL h₀ s.heap [L] = nw at N
  conv in nth _ _ => whnf
  w_on
  refine wpAny_mono (LCg.Assign_ListComp_U (E := fun _ _ => False) (m := m) (h₀ := h₀) (L := L) (cl := []) F rfl ?_ ?_ ?_ ?_ ?_ ?_ ?_ ?_ ?_ ?_) (fun f s' x => x) (fun _ _ => False.elim)
  case refine_9 =>
    refine ldN F.ns hm ?_
    have hlen : vs.length = 4 := hi.length.trans hn
    refine .inl ⟨H, vs.toArray, nw, rfl, rfl, F, N, src_full hl (fun e => hHL (List.mem_singleton.mp e)) hk0 (fun p hp => hnw ▸ hp), ?_, ?_⟩
    · show vs.toArray.size ≤ sizeLine
      rw [List.size_toArray, hlen]; decide
    rintro s₂ ⟨g, rfl⟩
    refine comp_rest (fun i ys nw' => (∀ p ∈ nw, p ∈ nw') ∧ LCg.SrcAt h₀ H vs.toArray nw' ∧ WN nw' ys ((ns.take i).map wordL)) ?_ ?_ _ 0 [] nw rfl ⟨fun p hp => hp, src_full hl (fun e => hHL (List.mem_singleton.mp e)) hk0 (fun p hp => hnw ▸ hp), trivial⟩
    · rintro i ys nw' v I oI C oC D m₂ h1 tk E' ⟨j1, j2, j3⟩ hi1 hv hC hx F1 N1 off ne
      have nC := N1 (C, oC) (by simp)
      have hn' : (ns.getD i 0) ∈ ns := by
        have : i < ns.length := by rw [← hi.length]; simpa using hi1
        simp [List.getD, this]
      obtain ⟨t', hv'⟩ := hi.get i (ns.getD i 0) (getD_some (by rw [← hi.length]; simpa using hi1))
      have ev : v = .int (ns.getD i 0) t' := by
        have : vs[i]? = some v := by simpa using hv
        rw [hv'] at this; exact (Option.some.inj this).symm
      subst ev
      refine fcall G0 F1.keep (f := 67) (o := ob67 w.params) (by kernel_rfl) (by kernel_rfl) rfl ?_
      refine args_cons (ldN (hC.ns nC.1) hx ?_)
      refine args_nil ⟨F1.keep, ?_⟩
      refine callB (c_wordF (G0.ext (h' := h1) F1.keep) rfl (by exact hd) (hb _ hn').1 (hb _ hn').2) (fun r h' tk' x b => ?_)
      obtain ⟨a, xs, rfl, hfr, ⟨o, ho, hc, n, hdt⟩, hI⟩ := b
      have F' := Fr.ext F1 x
      have hne : ∀ p ∈ (I, oI) :: (C, oC) :: (D, LCg.lst ys) :: nw', a ≠ p.1 := fun p hp q => by
        have := (N1 p hp).1
        rw [← q, hfr] at this
        cases this
      have h0n : h₀.get? a = none := by
        cases q : h₀.get? a with
        | none => rfl
        | some o' => have := F1.keep _ _ q; rw [hfr] at this; cases this
      have haL : a ≠ L := ns_ne F'.ns (vs := xs.toArray) ⟨o, ho, hc, n, hdt⟩
      refine LCg.CompEnd.intro (all := (I, oI) :: (C, oC) :: (D, LCg.lst ys) :: (a, o) :: nw') F' ?_ ((a, o) :: nw') (fun p hp => hp) ⟨⟨hne (I, oI) (by simp), hne (C, oC) (by simp), hne (D, LCg.lst ys) (by simp)⟩, off⟩ (src_mono j2 fun p hp => List.mem_cons_of_mem _ hp) ⟨fun p hp => List.mem_cons_of_mem _ (j1 p hp), src_mono j2 fun p hp => List.mem_cons_of_mem _ hp, ?_⟩
      · intro p hp
        have N' := News.ext N1 x
        simp only [List.mem_cons] at hp
        rcases hp with rfl | rfl | rfl | rfl | hp
        · exact N' _ (by simp)
        · exact N' _ (by simp)
        · exact N' _ (by simp)
        · exact ⟨ho, haL, h0n⟩
        · exact N' _ (by simp [hp])
      · have e : (ns.take (i + 1)).map wordL = (ns.take i).map wordL ++ [wordL (ns.getD i 0)] := by
          have hil : i < ns.length := by rw [← hi.length]; simpa using hi1
          rw [List.take_add_one, List.map_append]
          simp [List.getD, hil]
        rw [e]
        exact WN.snoc ⟨a, o, xs, rfl, List.mem_cons_self .., hc, ⟨n, hdt⟩, hI⟩ (j3.mono fun p hp => List.mem_cons_of_mem _ hp)
    · rintro ys nw' ⟨j1, j2, j3⟩ D h' tk F' N' off
      have hsz : vs.toArray.size = ns.length := by rw [List.size_toArray]; exact hi.length
      rw [hsz, Nat.add_zero, List.take_length] at j3
      have N'' : News h₀ L h' nw' := fun p hp => N' p (List.mem_cons_of_mem _ hp)
      exact h h' tk D ys F' (kp_of F' N'' hk0 (fun p hp => j1 p (hnw ▸ hp))) ⟨_, (N' _ (List.mem_cons_self ..)).1, rfl, _, rfl⟩ (j3.wl N'')
  all_goals first | rfl | decide | kernel_rfl | (intro _; rfl)
end Mine

/-! L6 -/
namespace Mine
open PySem PySem.W PySem.Calls PyProof.Rows
set_option maxRecDepth 100000
set_option maxHeartbeats 8000000
/-- _parse_varint on a tape that is through: StopIteration flies out -/
theorem c_stop {w : World} {mg mb : Str → Option Value} {d : Nat} {gu : Option (List Code)} {un : Nat} {s : Shared} {h₀ : Heap} (G : Gd w mg mb h₀) (hd : d < 900) {L fa c Kd it : Addr} {oI : Obj} {i : Nat} {m : Str → Option Value} {items : List Value} (F : Fr h₀ L s.heap m)
    (hk : s.heap.IsList Kd items.toArray) (ho : s.heap.get? it = some oI) (hI : ItObj oI Kd i) (hend : items[i]? = none) :
    wpAny (model pw w) ⟨none, d, some [lawE L fa c], gu, un⟩ (call (.ref 35) [.ref it]) (fun _ _ => False)
      (fun e s' => ∃ ea a0 h' tk, e = .ref ea ∧ s' = { s with heap := h', toks := tk } ∧ Heap.FlyingW (hideAll s.heap [L, it]) [lawE L fa c] ea (.type "StopIteration") a0 h' ∧ s.heap.UpToSlots h') s := by
  have G0 := G
  have G1 := G.ext F.keep
  have hitL : it ≠ L := by
    rintro rfl
    obtain ⟨o, es, ep, e, hdd, _⟩ := F.ns
    rw [ho] at e
    cases e
    rw [hI.2] at hdd
    cases hdd
  refine wpAny_call (call_plain (name := Str.ofString "_parse_varint") (params := fpar (stm 4)) (body := fbod (stm 4)) (scope := fsco (stm 4)) (pm := pmOf (ob35 w.params)) (cd := .ref 34) (doc := .none) (o := ob35 w.params) (binds := [(Str.ofString "iterator", Value.ref it)])
    (Nat.lt_trans hd (by decide)) (G1.K _ _ (by kernel_rfl)) (by kernel_rfl) G1.T.nolimit (codeRec_of G1.K (by kernel_rfl)) (by kernel_rfl) (locs (by kernel_rfl)) (fun h₁ F₁ => ?_) (by kernel_rfl) (by kernel_rfl) (by kernel_rfl) (by decide +kernel))
  have N₁ : News s.heap s.heap.objs.size h₁ [] := News.nil
  obtain ⟨K, TT, GL⟩ := G1
  have hlt : it < s.heap.objs.size := Heap.lt_size ho
  conv in fbod _ => whnf
  w_on
  repeat' ((fail_if_success (with_reducible show wpAny _ _ (call (Value.builtin "next") _) _ _ _)); first | walk1 | (dsimp only; walk1))
  refine next_stop rfl ⟨oI, F₁.keep _ _ ho, hI.1, hI.2⟩ (hk.at fun o e => F₁.keep _ _ e) (by simpa using hend) (fun h' e hx ht hs => ?_)
  obtain ⟨oe, vs, a0, he, hcls, hdt, v1, v0⟩ := ht
  have hke : (lawE L fa c).scope.kind ≠ .module := by
    rw [show (lawE L fa c).scope.kind = .function from rfl]; decide
  have hbL : (hideAll s.heap [L, it]).get? L = none := hideAll_none _ (by simp)
  have hbi : (hideAll s.heap [L, it]).get? it = none := hideAll_none _ (by simp)
  have hbs : (hideAll s.heap [L, it]).get? s.heap.objs.size = none := Heap.get?_none_of_le (by rw [hideAll_size]; exact Nat.le_refl _)
  have hLlt := F.ns.lt
  have stay : (hideAll s.heap [L, it]).StaysIn h' := fun b o e => by
    have hb : b ≠ it := fun q => by rw [q, hbi] at e; cases e
    exact hx b o hb (F₁.keep b o (of_hideAll _ e))
  have hNs2 : h'.Ns s.heap.objs.size (fun x => [(Str.ofString "iterator", Value.ref it)].reverse.lookup x) := F₁.ns.at' fun o e => hx _ o (Nat.ne_of_gt hlt) e
  have hNsL : h'.Ns L m := F.ns.at' fun o e => hx _ o (Ne.symm hitL) (F₁.keep _ o e)
  have hen : (hideAll s.heap [L, it]).get? e = none := Heap.get?_none_of_le (by rw [hideAll_size]; exact Nat.le_of_lt (Nat.lt_trans F₁.ns.lt hs))
  refine wpAny_leaving_firstW (base := hideAll s.heap [L, it]) (outer := [lawE L fa c]) (Around.frames_deeper rfl)
    (Heap.FunFrames.cons (by show (fsco (stm 4)).kind ≠ _; decide +kernel) rfl hNs2 hbs (Heap.FunFrames.cons hke rfl hNsL hbL trivial)) rfl he stay hen hdt v1 v0 (fun h2 hL2 => ?_)
  obtain ⟨k1, ⟨_, _, k2⟩, k3, k4⟩ := hL2
  rw [hcls] at k3
  refine ⟨e, a0, h2, _, rfl, rfl, ⟨k1, hen, k2, k3⟩, fun b o hb hnf => ?_⟩
  have hbit : b ≠ it := fun q => by
    rw [q, ho] at hb
    cases hb
    exact hnf _ hI.2
  exact k4 b o (hx b o hbit (F₁.keep b o hb)) hnf
theorem law6 {w : World} {mg mb : Str → Option Value} {d : Nat} {gu : Option (List Code)} {un : Nat} {s : Shared} {h₀ : Heap} (G : Gd w mg mb h₀) (hd : d < 900) {L fa c Kd it : Addr} {oI : Obj} {i : Nat} {m : Str → Option Value} {items : List Value} {Q : Flow → Shared → Prop} {E : Value → Shared → Prop} (F : Fr h₀ L s.heap m)
    (hk : s.heap.IsList Kd items.toArray) (hc : s.heap.IsCell (L + 1) (some (.ref it))) (ho : s.heap.get? it = some oI) (hI : ItObj oI Kd i) (hit : h₀.get? it = none) (hend : items[i]? = none)
    (h : ∀ h' tk t, Fr h₀ L h' (fun y => if y = Str.ofString "whole" then some (.int 0 t) else m y) → Kp [L, it] s.heap h' → Q .next { s with heap := h', toks := tk }) :
    wpAny (model pw w) ⟨none, d, some [lawE L fa c], gu, un⟩ (exec (nth lawB 6) (lawE L fa c)) Q E s := by
  have G0 := G
  have hstop := c_stop G hd (gu := gu) (un := un) (fa := fa) (c := c) F hk ho hI hend
  obtain ⟨K, TT, GL⟩ := G
  have hLn : h₀.get? L = none := Heap.get?_none_of_le F.above
  have hb0 : ∀ b o, h₀.get? b = some o → b ≠ L ∧ b ≠ it := fun b o e => by
    constructor
    · rintro rfl; rw [hLn] at e; cases e
    · rintro rfl; rw [hit] at e; cases e
  conv in nth _ _ => whnf
  refine wpAny_Try_except ?_
  refine wpAny_execs_cons (wpAny_Expr_any ?_)
  refine fcall G0 F.keep (f := 35) (o := ob35 w.params) (by kernel_rfl) (by kernel_rfl) rfl ?_
  refine args_cons (wpAny_Name (wpAny_loadName_cell rfl rfl (c := L + 1) (v := .ref it) rfl hc ?_) (by decide))
  refine args_nil ⟨F.keep, ?_⟩
  refine wpAny_mono hstop (fun _ _ z => z.elim) (fun e s' z => ?_)
  obtain ⟨ea, a0, h', tk, rfl, rfl, hfl, up⟩ := z
  refine wpAny_looks_onW (base := hideAll s.heap [L, it]) (outer := []) rfl rfl hfl (fun h2 hh2 up2 => ?_)
  refine wpAny_landsW hh2 (fun h3 hf3 up3 => ?_)
  have u3 : s.heap.UpToSlots h3 := (up.trans up2).trans up3
  have st3 := hf3.1
  have F3 : Fr h₀ L h3 m := ⟨u3.ns F.ns, fun b o e => st3 b o (hideAll_get _ (F.keep b o e) (by simp [hb0 b o e])), F.above⟩
  obtain ⟨ob, hob, hcls⟩ := hf3.there
  refine wpAny_handleBy_builtin (X := "StopIteration") (T := "StopIteration") (b := true) (isSubtype_of_subB (by decide +kernel)) (isSubtype_of_subB (by decide +kernel)) (isSubtype_of_subB (by decide +kernel)) ?_
  refine nameX_B (K := KF w.params) (p := qv) (loose := looseW qv looseF) (mg := mg) (mb := mb) F3 K TT (by kernel_rfl) (v := .type "StopIteration") (by decide +kernel) (by decide) ?_
  refine ⟨rfl, ⟨ob, hob, hcls⟩, ?_⟩
  rw [if_pos rfl]
  refine wpAny_setFlight_noneW hf3.1 hf3.2.2.1 hf3.2.2.2.at (fun h4 st4 ff4 _ k4 => ?_)
  have u4 : h3.UpToSlots h4 := fun b o e hn => ⟨o.slots, k4 b o e hn⟩
  have F4 : Fr h₀ L h4 m := ⟨u4.ns F3.ns, fun b o e => st4 b o (hideAll_get _ (F.keep b o e) (by simp [hb0 b o e])), F.above⟩
  have kp4 : Kp [L, it] s.heap h4 := fun b o hb e => st4 b o (hideAll_get _ e hb)
  clear hstop
  have N4 : News h₀ L h4 (fullL h₀ h4 [L]) := full_news (List.mem_cons_self ..)
  generalize hnw : fullL h₀ h4 [L] = nw at N4
  generalize (Around.mark _ (some (Value.ref ea))) = A'
  have hs0 := F4.keep
  clear F F3
  dsimp only
  w_on
  repeat' ((fail_if_success (with_reducible show wpAny _ _ (Pure.pure _) _ _ _)); first | walk1 | (dsimp only; walk1))
  rename Fr _ _ _ _ => F5
  rename News _ _ _ _ => N5
  have k5 := kp_of F5 N5 hs0 (fun p hp => hnw ▸ hp)
  exact h _ _ _ F5 (kp4.trans (k5.mono (by intro q hq; rw [List.mem_singleton.mp hq]; exact List.mem_cons_self ..)))
end Mine

/-! P3 -/
namespace Mine
open PySem PySem.W PySem.Calls PyProof.Rows
set_option maxRecDepth 100000
set_option maxHeartbeats 8000000
theorem set_mem {P : Int → Prop} {l : List Int} {k : Nat} {x : Int} (h : ∀ n ∈ l, P n) (hx : P x) : ∀ n ∈ l.set k x, P n := fun n hn => by
  rcases List.mem_or_eq_of_mem_set hn with h1 | h1
  · exact h n h1
  · exact h1 ▸ hx
theorem heapsAt_bound (ns : List Int) : ∀ i : Nat, ∀ n ∈ heapsAt ns i, 0 ≤ n ∧ n ≤ 5178533 + 1000000000000 * (i : Int)
  | 0 => by
    have : ∀ n ∈ heapsAt ns 0, 0 ≤ n ∧ n ≤ 5178533 := by
      show ∀ n ∈ ([774144, 5178533, 2395195, 3350594] : List Int), 0 ≤ n ∧ n ≤ 5178533
      decide
    intro n hn
    have := this n hn
    omega
  | i + 1 => by
    have ih := heapsAt_bound ns i
    have hf : 0 ≤ (ns.getD i 0).fmod (10 ^ 12) ∧ (ns.getD i 0).fmod (10 ^ 12) < 1000000000000 := by
      rw [show ((10 : Int) ^ 12) = 1000000000000 by decide, Int.fmod_eq_emod_of_nonneg _ (by decide)]
      omega
    have hg : 0 ≤ (heapsAt ns i).getD (i % 4) 0 ∧ (heapsAt ns i).getD (i % 4) 0 ≤ 5178533 + 1000000000000 * (i : Int) := by
      have hl := heapsAt_len ns i
      have hlt : i % 4 < (heapsAt ns i).length := by omega
      have : (heapsAt ns i).getD (i % 4) 0 = (heapsAt ns i)[i % 4] := by simp [List.getD, hlt]
      rw [this]
      exact ih _ (List.getElem_mem hlt)
    refine set_mem (fun n hn => ?_) ?_
    · have := ih n hn
      omega
    · omega
theorem heapsL_ok {ns : List Int} (h : ns.length ≤ 63) : (heapsL ns).length = 4 ∧ ∀ n ∈ heapsL ns, 0 ≤ n ∧ n < 2 ^ 60 := by
  refine ⟨heapsAt_len ns _, fun n hn => ?_⟩
  have := heapsAt_bound ns ns.length n hn
  omega
theorem keptW_len {ns : List Int} (h : 1 ≤ ns.length) : (keptW ns).length = ns.length := by
  unfold keptW
  simp only [List.length_append, List.length_map, List.length_take, List.length_cons, List.length_nil]
  omega
theorem keptAt_len {nss : List (List Int)} (h : ∀ n ∈ nss, 1 ≤ n.length) : ∀ i, i ≤ nss.length → (keptAt nss i).length = posAt nss i
  | 0, _ => rfl
  | i + 1, hi => by
    have hm : nss.getD i [] ∈ nss := by
      have : nss.getD i [] = nss[i] := by simp [List.getD, Nat.lt_of_succ_le hi]
      rw [this]; exact List.getElem_mem _
    simp only [keptAt, posAt, List.length_append]
    rw [keptAt_len h i (Nat.le_of_succ_le hi), keptW_len (h _ hm)]
theorem keptAt_get {nss : List (List Int)} (h : ∀ n ∈ nss, 1 ≤ n.length) : ∀ k, k ≤ nss.length → ∀ i, i < k → ∀ j, j < (nss.getD i []).length → (keptAt nss k)[posAt nss i + j]? = some ((keptW (nss.getD i [])).getD j 0)
  | 0, _, i, hi, _, _ => absurd hi (Nat.not_lt_zero _)
  | k + 1, hk, i, hi, j, hj => by
    have hlen := keptAt_len h k (Nat.le_of_succ_le hk)
    have hm : ∀ q, q < nss.length → nss.getD q [] ∈ nss := fun q hq => by
      have : nss.getD q [] = nss[q] := by simp [List.getD, hq]
      rw [this]; exact List.getElem_mem _
    simp only [keptAt]
    by_cases e : i = k
    · subst e
      rw [List.getElem?_append_right (by omega), hlen, Nat.add_sub_cancel_left]
      have : j < (keptW (nss.getD i [])).length := by rw [keptW_len (h _ (hm i (by omega)))]; exact hj
      exact getD_some this
    · have ih := keptAt_get h k (Nat.le_of_succ_le hk) i (by omega) j hj
      have hlt : posAt nss i + j < (keptAt nss k).length := by
        apply Nat.lt_of_not_le
        intro q
        rw [List.getElem?_eq_none q] at ih
        cases ih
      rw [List.getElem?_append_left hlt]
      exact ih
theorem WL.lists {h h' : Heap} (k : ∀ a vs, h.IsList a vs → h'.IsList a vs) : ∀ {ws : List Value} {nss : List (List Int)}, WL h ws nss → WL h' ws nss
  | [], [], _ => trivial
  | [], _ :: _, x => x.elim
  | _ :: _, [], x => x.elim
  | _ :: _, _ :: _, ⟨⟨a, vs, e, l, i⟩, x⟩ => ⟨⟨a, vs, e, k _ _ l, i⟩, WL.lists k x⟩
theorem WL.len {h : Heap} : ∀ {ws : List Value} {nss : List (List Int)}, WL h ws nss → ws.length = nss.length
  | [], [], _ => rfl
  | [], _ :: _, x => x.elim
  | _ :: _, [], x => x.elim
  | _ :: _, _ :: _, ⟨_, x⟩ => by simp [WL.len x]
theorem spots0 {h : Heap} {S : Addr} {t1 t2 t3 : Tok} (x : h.IsList S ([.int 0 t1, .int 0 t2, .int 0 t3] : List Value).toArray) : SpotL h S 0 :=
  ⟨_, x, IntsAre.cons _ _ (IntsAre.cons _ _ (IntsAre.cons _ _ IntsAre.nil))⟩
theorem hues0 {h : Heap} {S : Addr} {t1 t2 t3 : Tok} (x : h.IsList S ([.float 0 t1, .float 0 t2, .float 0 t3] : List Value).toArray) : HueL h S 0 := by
  have e0 : hueF ((63 + 0 : Nat) : Int) ((0 % (63 + 0) : Nat) : Int) = 0 := by decide +kernel
  have e1 : hueF ((63 + 1 : Nat) : Int) ((0 % (63 + 1) : Nat) : Int) = 0 := by decide +kernel
  have e2 : hueF ((63 + 2 : Nat) : Int) ((0 % (63 + 2) : Nat) : Int) = 0 := by decide +kernel
  refine ⟨t1, t2, t3, ?_⟩
  rw [e0, e1, e2]
  exact x
theorem law_run {w : World} {mg mb : Str → Option Value} {d : Nat} {gu : Option (List Code)} {un : Nat} {s : Shared} {h₀ : Heap} (G : Gd w mg mb h₀) (hd : d < 900) (hu : un + 64 < cLine) {L fa c l : Addr} {m : Str → Option Value} {vs : List Value} {ns : List Int} {v₀ : Option Value} {Q : Flow → Shared → Prop} {E : Value → Shared → Prop}
    (hm : m (Str.ofString "script") = some (.ref l)) (hl : h₀.IsList l vs.toArray) (hi : IntsAre vs ns) (hn : ns.length ≤ 63) (F : Fr h₀ L s.heap m) (hc : s.heap.IsCell (L + 1) v₀)
    (h : ∀ h' tk m', Fr h₀ L h' m' → Q (.ret (.bool true)) { s with heap := h', toks := tk }) :
    wpAny (model pw w) ⟨none, d, some [lawE L fa c], gu, un⟩ (execs lawB (lawE L fa c)) Q E s := by
  have eB : lawB = [nth lawB 0, nth lawB 1, nth lawB 2, nth lawB 3, nth lawB 4, nth lawB 5, nth lawB 6, nth lawB 7, nth lawB 8, nth lawB 9, nth lawB 10, nth lawB 11] := by kernel_rfl
  rw [eB]
  obtain ⟨hsL, hsb⟩ := heapsL_ok hn
  -- the heaps
  refine wpAny_execs_cons (law0 G hd hm hl hi hn F (fun h1 tk1 H hv F1 k1 lH1 iH => ?_))
  have c1 : h1.IsCell (L + 1) v₀ := let ⟨o, e, r⟩ := hc; ⟨o, k1 _ o (by rw [List.mem_singleton]; exact Nat.succ_ne_self L) e, r⟩
  generalize heapsL ns = hs at *
  -- the words
  refine wpAny_execs_cons (law1 G hd (s := { s with heap := h1, toks := tk1 }) (by rfl) lH1 iH hsL hsb F1 (fun hA tkA W ws FA kA lWA wlA => ?_))
  have cA : hA.IsCell (L + 1) v₀ := let ⟨o, e, r⟩ := c1; ⟨o, kA _ o (by rw [List.mem_singleton]; exact Nat.succ_ne_self L) e, r⟩
  have lHA := lK F1.ns lH1 kA
  have hn4 : (hs.map wordL).length = 4 := by rw [List.length_map]; exact hsL
  have hok : ∀ n ∈ hs.map wordL, WordOk n := fun n hn => by
    obtain ⟨q, _, rfl⟩ := List.mem_map.mp hn
    exact wordL_ok q
  have hlast : ∀ n ∈ hs.map wordL, LastOk n := fun n hn => by
    obtain ⟨q, _, rfl⟩ := List.mem_map.mp hn
    exact wordL_last q
  generalize hs.map wordL = nss at *
  have hw4 : ws.length = 4 := (WL.len wlA).trans hn4
  -- kept
  refine wpAny_execs_cons (law2 G (s := { s with heap := hA, toks := tkA }) FA (fun hB tkB FB kB pB => ?_))
  dsimp only at FB kB pB
  have abv := F.above
  have hKn : h₀.get? hA.objs.size = none := Heap.get?_none_of_le (Nat.le_trans FA.above (Nat.le_of_lt FA.ns.lt))
  have ltA : ∀ a us, hA.IsList a us → a < hA.objs.size := fun a us ⟨o, e, _⟩ => Heap.lt_size e
  have cLt : (L + 1 : Nat) < hA.objs.size := let ⟨o, e, _⟩ := cA; Heap.lt_size e
  have cB : hB.IsCell (L + 1) v₀ := let ⟨o, e, r⟩ := cA; ⟨o, kB _ o (by rw [List.mem_singleton]; exact Nat.succ_ne_self L) e, r⟩
  generalize hKd : hA.objs.size = Kd at *
  have AB : ∀ a us, hA.IsList a us → hB.IsList a us := fun a us x => lK FA.ns x kB
  -- the loop over the signs
  refine wpAny_execs_cons (law3 G hd (s := { s with heap := hB, toks := tkB }) (W := W) (H := H) (Kd := Kd) FB (by rfl) (by rfl) (by rfl) (AB _ _ lWA) (WL.lists AB wlA) (fun n hn => ⟨(hok n hn).len.1, (hok n hn).len.2, (hok n hn).fig⟩) (AB _ _ lHA) iH hsL hw4 (fun n hn => (hsb n hn).1) pB hKn (fun hC tkC mC kv FC nmC kC pC iC => ?_))
  have eK : (hidAt nss hs 4).filter inTab = keptAt nss 4 := hid_kept (fun n hn => ⟨(hok n hn).fig, hlast n hn⟩) 4 (by omega)
  rw [eK] at iC
  have hKL : Kd ≠ L := ns_ne FB.ns pB.isList
  have BC : ∀ a us, hA.IsList a us → hC.IsList a us := fun a us x => by
    have xB := AB a us x
    have h1 := ns_ne FB.ns xB
    have h2 : a ≠ Kd := Nat.ne_of_lt (ltA a us x)
    obtain ⟨o, e, r⟩ := xB
    exact ⟨o, kC a o (by simp [h1, h2]) e, r⟩
  have cC : hC.IsCell (L + 1) v₀ := by
    obtain ⟨o, e, r⟩ := cB
    have h2 : (L + 1 : Nat) ≠ Kd := Nat.ne_of_lt cLt
    have h3 : (L + 1 : Nat) ≠ L := Nat.succ_ne_self L
    exact ⟨o, kC (L + 1) o (by simp only [List.mem_cons, List.not_mem_nil, or_false, not_or]; exact ⟨h3, h2⟩) e, r⟩
  have gW : mC (Str.ofString "words") = some (.ref W) := (nmC _ (by decide) (by decide)).trans rfl
  have gH : mC (Str.ofString "heaps") = some (.ref H) := (nmC _ (by decide) (by decide)).trans rfl
  have gK : mC (Str.ofString "kept") = some (.ref Kd) := (nmC _ (by decide) (by decide)).trans rfl
  have klen : kv.length = posAt nss 4 := iC.length.trans (keptAt_len (fun n hn => (hok n hn).len.1) 4 (by omega))
  -- the tape
  refine wpAny_execs_cons (law4 G (s := { s with heap := hC, toks := tkC }) FC gK pC.isList cC (fun hD oI FD kD cD oD itD => ?_))
  dsimp only at cD oD kD
  have hKc : Kd ≠ L + 1 := Nat.ne_of_gt cLt
  have CD : ∀ a us, hC.IsList a us → hD.IsList a us := fun a us x => by
    have h1 := ns_ne FC.ns x
    have h2 := cell_ne cC x
    obtain ⟨o, e, r⟩ := x
    exact ⟨o, kD a o (by simp [h1, h2]) e, r⟩
  have hitn : h₀.get? hC.objs.size = none := Heap.get?_none_of_le (Nat.le_trans FC.above (Nat.le_of_lt FC.ns.lt))
  have ltC : ∀ a us, hC.IsList a us → a < hC.objs.size := fun a us ⟨o, e, _⟩ => Heap.lt_size e
  have cLtC : (L + 1 : Nat) < hC.objs.size := let ⟨o, e, _⟩ := cC; Heap.lt_size e
  generalize hit : hC.objs.size = it at *
  -- the numbers
  refine wpAny_execs_cons (law5 G hd (s := { s with heap := hD, toks := tkC }) (W := W) (Kd := Kd) (it := it) FD gW (CD _ _ (BC _ _ lWA)) hw4 hn4 (CD _ _ pC.isList) cD oD itD hitn hok (fun i hi4 j hj => ?_) (fun hE tkE Dn ys oE FE kE lDE iDE oEi itE hDit => ?_))
  · have := keptAt_get (fun n hn => (hok n hn).len.1) 4 (by omega) i hi4 j hj
    exact iC.get _ _ this
  have hitL : it ≠ L := Nat.ne_of_gt (Nat.lt_of_succ_lt cLtC)
  have DE : ∀ a us, a ≠ it → hD.IsList a us → hE.IsList a us := fun a us h2 x => by
    have h1 := ns_ne FD.ns x
    obtain ⟨o, e, r⟩ := x
    exact ⟨o, kE a o (by simp [h1, h2]) e, r⟩
  have ce : (L + 1 : Nat) ∉ ([L, it] : List Addr) := fun hm => by
    simp only [List.mem_cons, List.not_mem_nil, or_false] at hm
    rcases hm with e | e
    · exact Nat.succ_ne_self L e
    · exact Nat.ne_of_lt cLtC e
  have cE : hE.IsCell (L + 1) (some (.ref it)) := let ⟨o, e, r⟩ := cD; ⟨o, kE _ o ce e, r⟩
  have lKE := DE _ _ (Nat.ne_of_lt (ltC _ _ pC.isList)) (CD _ _ pC.isList)
  -- StopIteration
  refine wpAny_execs_cons (law6 G hd (s := { s with heap := hE, toks := tkE }) (Kd := Kd) (it := it) FE lKE cE oEi itE hitn (List.getElem?_eq_none (Nat.le_of_eq klen)) (fun hF tkF t0 FF kF => ?_))
  have EF : ∀ a us, a ≠ it → hE.IsList a us → hF.IsList a us := fun a us h2 x => by
    have h1 := ns_ne FE.ns x
    obtain ⟨o, e, r⟩ := x
    exact ⟨o, kF a o (by simp [h1, h2]) e, r⟩
  have AF : ∀ a us, hA.IsList a us → hF.IsList a us := fun a us x => by
    have xC := BC a us x
    have h2 := Nat.ne_of_lt (ltC a us xC)
    exact EF a us h2 (DE a us h2 (CD a us xC))
  have lDF := EF _ _ hDit lDE
  -- hues, spots
  refine wpAny_execs_cons (law7 G (s := { s with heap := hF, toks := tkF }) FF (fun hG tkG u1 u2 u3 FG kG lG => ?_))
  refine wpAny_execs_cons (law8 G (s := { s with heap := hG, toks := tkG }) FG (fun hH tkH v1 v2 v3 FH kH lSp => ?_))
  dsimp only at lG lSp FG FH kG kH
  have lHu := lK FG.ns lG kH
  have kFH : Kp [L] hF hH := kG.trans kH
  have AH : ∀ a us, hA.IsList a us → hH.IsList a us := fun a us x => lK FF.ns (AF a us x) kFH
  have lDH := lK FF.ns lDF kFH
  generalize hF.objs.size = Hu at *
  generalize hG.objs.size = Sp at *
  have hmm : ∀ i, i < 4 → (((nss.map fun n => (numL n).toNat).getD i 0 : Nat) : Int) = numL (nss.getD i []) := fun i hi4 => by
    have hil : i < nss.length := by omega
    have hmem : nss[i] ∈ nss := List.getElem_mem hil
    obtain ⟨a, b, e, a0, _, b0, _⟩ := (hok _ hmem).num
    have : nss.getD i [] = nss[i] := by simp [List.getD, hil]
    rw [this]
    have e2 : (nss.map fun n => (numL n).toNat).getD i 0 = (numL nss[i]).toNat := by simp [List.getD, hil]
    rw [e2]
    omega
  -- the loop over the words
  refine wpAny_execs_cons (law9 G hd hu (s := { s with heap := hH, toks := tkH }) (Hp := H) (D := Dn) (S := Sp) (H := Hu) (Wa := W) (nms := nss.map fun n => (numL n).toNat) FH gH gW (by rfl) (by rfl) (by rfl) (by rfl) (AH _ _ lHA) iH (AH _ _ lWA) (WL.lists AH wlA) hok lDH iDE hw4 hsL hn4 hmm (spots0 lSp) (hues0 lHu) (fun hI tkI mI wr FI J => ?_))
  have kI := J.kp
  dsimp only at kI
  obtain ⟨tV, gV⟩ := J.vl
  obtain ⟨HI, gHI, lHI, _, _⟩ := J.hu
  have gN : mI (Str.ofString "numbers") = some (.ref Dn) := (J.nm _ (by decide) (by decide) (by decide) (by decide) (by decide) (by decide) (by decide) (by decide) (by decide) (by decide) (by decide) (by decide) (by decide) (by decide)).trans rfl
  have gWI : mI (Str.ofString "words") = some (.ref W) := (J.nm _ (by decide) (by decide) (by decide) (by decide) (by decide) (by decide) (by decide) (by decide) (by decide) (by decide) (by decide) (by decide) (by decide) (by decide)).trans gW
  -- the levels
  refine wpAny_execs_cons (law10 G hd hu (s := { s with heap := hI, toks := tkI }) FI gHI gV lHI (fun hJ tkJ mJ FJ nmJ kJ => ?_))
  have AJ : ∀ a us, hA.IsList a us → hJ.IsList a us := fun a us x => lK FI.ns (lK FH.ns (AH a us x) kI) kJ
  have lDJ := lK FI.ns (lK FH.ns lDH kI) kJ
  -- the end
  refine wpAny_execs_cons (law11 G hd hu (s := { s with heap := hJ, toks := tkJ }) (D := Dn) (Wa := W) FJ ((nmJ _ (by decide) (by decide)).trans gN) ((nmJ _ (by decide) (by decide)).trans gWI) lDJ iDE (AJ _ _ lWA) (WL.lists AJ wlA) hw4 hn4 hok (fun hZ tkZ FZ => ?_))
  exact h hZ tkZ _ FZ
end Mine

/-! PTop -/
namespace Mine
open PySem PySem.W PySem.Calls PyProof.Rows
set_option maxRecDepth 100000
set_option maxHeartbeats 8000000
/-- no twin of the program: the kernel decides as it is -/
local macro_rules | `(tactic| k_qdec) => `(tactic| decide +kernel)
theorem top : rwF.Holds := by
  refine hdF ?_
  show WalkO qv looseF (XL qv []) (kHook KF asF asF_ok).says rwF.row.toRowW dF [] fun f vs => PySem.call f vs
  w_on
  k_go0
  rename Top _ _ _ _ _ _ => T0
  rename Frag.In _ _ => K0
  rename Glob _ _ _ _ _ _ _ _ => GL0
  rename Fr _ _ _ _ => F0
  rename News _ _ _ _ => N0
  rename IntsAre _ _ => I0
  rename Heap.IsList _ _ _ => L0
  rename Shared.gens _ = _ => hg0
  rename ¬ _ => hlen
  rename CellsAre _ _ _ => X0
  have hc0 : Heap.IsCell _ _ _ := ⟨_, (N0 _ (List.mem_cons_self ..)).1, (by assumption)⟩
  show wpAny (model pw _) ⟨none, _, some [lawE _ _ _], _, _⟩ (execs lawB (lawE _ _ _)) _ _ _
  refine law_run ⟨K0, topRead_of T0, GL0⟩ (by decide) (by decide) (by rfl) L0 I0 (by omega) F0 hc0 (fun h' tk m' F' => ?_)
  clear F0 N0 X0 hc0
  show GoodW _ _ _ _ _ (.ok (.ret (.bool true))) _
  close_w
end Mine

theorem PySem.Challenge.cw_rl0010_01_holds : PySem.Challenge.rw_rl0010_01.Holds := by
  exact Mine.top

