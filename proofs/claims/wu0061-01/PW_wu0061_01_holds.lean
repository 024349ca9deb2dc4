import PyProof.Rows.All
import Wide.All
import OpenK.AllK
import Wide.FinOn
import Flt.Reg
import Flt.RightMore
import PySem.Challenge.RW_wu0061_01
set_option Elab.async false
local macro_rules | `(tactic| walk_at $s:str) => `(tactic| k_extra $s)
section
open PySem PySem.W PyProof.Rows
namespace Mine
/-- the text's own defs, read out of the given text -/
noncomputable def topSt (i : Nat) : Stmt := (PySem.Challenge.pw_wu0061_01.main.body[i]?).getD default
noncomputable def clsSt (i j : Nat) : Stmt := match topSt i with | .ClassDef _ _ _ b _ _ _ _ _ _ _ => (b[j]?).getD default | _ => default
noncomputable def fnP : Stmt → Arguments | .FunctionDef _ p _ _ _ _ _ _ _ _ => p | _ => default
noncomputable def fnB : Stmt → List Stmt | .FunctionDef _ _ b _ _ _ _ _ _ _ => b | _ => default
noncomputable def fnS : Stmt → Scope | .FunctionDef _ _ _ _ _ _ s _ _ _ => s | _ => default
/-- the objects that the text's top leaves -/
noncomputable def hd.heap_39 (P : Params) : Frag :=
  (nat_lit 2, ({ cls := Value.none, data := Data.dict #[] } : Obj)) ::
  (nat_lit 3, ({ cls := Value.type "dict", data := Data.dict #[{ hash := PyData.keyHash P (Str.ofString "__name__"), key := Value.str (Str.ofString "__name__") 165, val := Value.str (Str.ofString "law_wu0061_01") 443 }, { hash := PyData.keyHash P (Str.ofString "__doc__"), key := Value.str (Str.ofString "__doc__") 166, val := Value.none }, { hash := PyData.keyHash P (Str.ofString "__package__"), key := Value.str (Str.ofString "__package__") 167, val := Value.none }, { hash := PyData.keyHash P (Str.ofString "__loader__"), key := Value.str (Str.ofString "__loader__") 168, val := Value.builtin "__main__.__loader__#opaque" }, { hash := PyData.keyHash P (Str.ofString "__spec__"), key := Value.str (Str.ofString "__spec__") 169, val := Value.none }, { hash := PyData.keyHash P (Str.ofString "__annotations__"), key := Value.str (Str.ofString "__annotations__") 170, val := Value.ref 6 }, { hash := PyData.keyHash P (Str.ofString "__builtins__"), key := Value.str (Str.ofString "__builtins__") 171, val := Value.ref 4 }, { hash := PyData.keyHash P (Str.ofString "__file__"), key := Value.str (Str.ofString "__file__") 173, val := Value.str (Str.ofString "/claim/cut.py") 172 }, { hash := PyData.keyHash P (Str.ofString "__cached__"), key := Value.str (Str.ofString "__cached__") 174, val := Value.none }, { hash := PyData.keyHash P (Str.ofString "lt"), key := Value.str (Str.ofString "lt") 196, val := Value.ref 21 }, { hash := PyData.keyHash P (Str.ofString "eq"), key := Value.str (Str.ofString "eq") 204, val := Value.ref 28 }, { hash := PyData.keyHash P (Str.ofString "add"), key := Value.str (Str.ofString "add") 212, val := Value.ref 35 }, { hash := PyData.keyHash P (Str.ofString "mod"), key := Value.str (Str.ofString "mod") 220, val := Value.ref 42 }, { hash := PyData.keyHash P (Str.ofString "mul"), key := Value.str (Str.ofString "mul") 228, val := Value.ref 49 }, { hash := PyData.keyHash P (Str.ofString "contains"), key := Value.str (Str.ofString "contains") 236, val := Value.ref 56 }, { hash := PyData.keyHash P (Str.ofString "countOf"), key := Value.str (Str.ofString "countOf") 246, val := Value.ref 63 }, { hash := PyData.keyHash P (Str.ofString "indexOf"), key := Value.str (Str.ofString "indexOf") 256, val := Value.ref 70 }, { hash := PyData.keyHash P (Str.ofString "isub"), key := Value.str (Str.ofString "isub") 264, val := Value.ref 77 }, { hash := PyData.keyHash P (Str.ofString "ONE_THIRD"), key := Value.str (Str.ofString "ONE_THIRD") 270, val := Value.float 4599676419421066581 269 }, { hash := PyData.keyHash P (Str.ofString "ONE_SIXTH"), key := Value.str (Str.ofString "ONE_SIXTH") 274, val := Value.float 4595172819793696085 273 }, { hash := PyData.keyHash P (Str.ofString "TWO_THIRD"), key := Value.str (Str.ofString "TWO_THIRD") 278, val := Value.float 4604180019048437077 277 }, { hash := PyData.keyHash P (Str.ofString "rgb_to_hls"), key := Value.str (Str.ofString "rgb_to_hls") 297, val := Value.ref 84 }, { hash := PyData.keyHash P (Str.ofString "hls_to_rgb"), key := Value.str (Str.ofString "hls_to_rgb") 308, val := Value.ref 91 }, { hash := PyData.keyHash P (Str.ofString "_v"), key := Value.str (Str.ofString "_v") 317, val := Value.ref 98 }, { hash := PyData.keyHash P (Str.ofString "rgb_to_hsv"), key := Value.str (Str.ofString "rgb_to_hsv") 335, val := Value.ref 105 }, { hash := PyData.keyHash P (Str.ofString "hsv_to_rgb"), key := Value.str (Str.ofString "hsv_to_rgb") 349, val := Value.ref 112 }, { hash := PyData.keyHash P (Str.ofString "QName"), key := Value.str (Str.ofString "QName") 442, val := Value.ref 186 }, { hash := PyData.keyHash P (Str.ofString "_law_cells"), key := Value.str (Str.ofString "_law_cells") 453, val := Value.ref 197 }, { hash := PyData.keyHash P (Str.ofString "_law_name"), key := Value.str (Str.ofString "_law_name") 463, val := Value.ref 204 }, { hash := PyData.keyHash P (Str.ofString "_law_next"), key := Value.str (Str.ofString "_law_next") 475, val := Value.ref 211 }, { hash := PyData.keyHash P (Str.ofString "_law_home"), key := Value.str (Str.ofString "_law_home") 481, val := Value.ref 216 }, { hash := PyData.keyHash P (Str.ofString "_law_led"), key := Value.str (Str.ofString "_law_led") 487, val := Value.ref 221 }, { hash := PyData.keyHash P (Str.ofString "_law_whole"), key := Value.str (Str.ofString "_law_whole") 493, val := Value.ref 226 }, { hash := PyData.keyHash P (Str.ofString "law"), key := Value.str (Str.ofString "law") 499, val := Value.ref 231 }] 34 } : Obj)) ::
  (nat_lit 15, ({ cls := Value.type "tuple", data := Data.seq #[] } : Obj)) ::
  (nat_lit 17, ({ cls := Value.type "tuple", data := Data.seq #[Value.str (Str.ofString "a") 192, Value.str (Str.ofString "b") 193] } : Obj)) ::
  (nat_lit 18, ({ cls := Value.type "tuple", data := Data.seq #[] } : Obj)) ::
  (nat_lit 20, ({ cls := Value.type "code", data := Data.fields #[Value.str (Str.ofString "lt") 189, Value.str (Str.ofString "lt") 190, Value.str (Str.ofString "/claim/cut.py") 191, Value.int 2 0, Value.int 2 0, Value.int 0 0, Value.int 0 0, Value.int 3 0, Value.ref 15, Value.bool true, Value.int 181 0, Value.ref 16, Value.none, Value.ref 17, Value.ref 18, Value.ref 19, Value.int 194 0, Value.int 2 0, Value.str (Str.ofString "/claim/cut.py") 195] } : Obj)) ::
  (nat_lit 21, ({ cls := Value.type "function", data := Data.func { name := Str.ofString "lt", qualname := Str.ofString "lt", params := (fnP (topSt 1)), body := FuncBody.stmts (fnB (topSt 1)), scope := (fnS (topSt 9)), globals := 3, closure := [], defaults := Value.none, kwdefaults := Value.none, pyModule := Value.str (Str.ofString "cpy313.operator") 187, code := Value.ref 20 } } : Obj)) ::
  (nat_lit 22, ({ cls := Value.type "tuple", data := Data.seq #[] } : Obj)) ::
  (nat_lit 24, ({ cls := Value.type "tuple", data := Data.seq #[Value.str (Str.ofString "a") 200, Value.str (Str.ofString "b") 201] } : Obj)) ::
  (nat_lit 25, ({ cls := Value.type "tuple", data := Data.seq #[] } : Obj)) ::
  (nat_lit 27, ({ cls := Value.type "code", data := Data.fields #[Value.str (Str.ofString "eq") 197, Value.str (Str.ofString "eq") 198, Value.str (Str.ofString "/claim/cut.py") 199, Value.int 4 0, Value.int 2 0, Value.int 0 0, Value.int 0 0, Value.int 3 0, Value.ref 22, Value.bool true, Value.int 181 0, Value.ref 23, Value.none, Value.ref 24, Value.ref 25, Value.ref 26, Value.int 202 0, Value.int 4 0, Value.str (Str.ofString "/claim/cut.py") 203] } : Obj)) ::
  (nat_lit 28, ({ cls := Value.type "function", data := Data.func { name := Str.ofString "eq", qualname := Str.ofString "eq", params := (fnP (topSt 2)), body := FuncBody.stmts (fnB (topSt 2)), scope := (fnS (topSt 9)), globals := 3, closure := [], defaults := Value.none, kwdefaults := Value.none, pyModule := Value.str (Str.ofString "cpy313.operator") 187, code := Value.ref 27 } } : Obj)) ::
  (nat_lit 29, ({ cls := Value.type "tuple", data := Data.seq #[] } : Obj)) ::
  (nat_lit 31, ({ cls := Value.type "tuple", data := Data.seq #[Value.str (Str.ofString "a") 208, Value.str (Str.ofString "b") 209] } : Obj)) ::
  (nat_lit 32, ({ cls := Value.type "tuple", data := Data.seq #[] } : Obj)) ::
  (nat_lit 34, ({ cls := Value.type "code", data := Data.fields #[Value.str (Str.ofString "add") 205, Value.str (Str.ofString "add") 206, Value.str (Str.ofString "/claim/cut.py") 207, Value.int 6 0, Value.int 2 0, Value.int 0 0, Value.int 0 0, Value.int 3 0, Value.ref 29, Value.bool true, Value.int 181 0, Value.ref 30, Value.none, Value.ref 31, Value.ref 32, Value.ref 33, Value.int 210 0, Value.int 6 0, Value.str (Str.ofString "/claim/cut.py") 211] } : Obj)) ::
  (nat_lit 35, ({ cls := Value.type "function", data := Data.func { name := Str.ofString "add", qualname := Str.ofString "add", params := (fnP (topSt 3)), body := FuncBody.stmts (fnB (topSt 3)), scope := (fnS (topSt 9)), globals := 3, closure := [], defaults := Value.none, kwdefaults := Value.none, pyModule := Value.str (Str.ofString "cpy313.operator") 187, code := Value.ref 34 } } : Obj)) ::
  (nat_lit 36, ({ cls := Value.type "tuple", data := Data.seq #[] } : Obj)) ::
  (nat_lit 38, ({ cls := Value.type "tuple", data := Data.seq #[Value.str (Str.ofString "a") 216, Value.str (Str.ofString "b") 217] } : Obj)) ::
  (nat_lit 39, ({ cls := Value.type "tuple", data := Data.seq #[] } : Obj)) ::
  (nat_lit 41, ({ cls := Value.type "code", data := Data.fields #[Value.str (Str.ofString "mod") 213, Value.str (Str.ofString "mod") 214, Value.str (Str.ofString "/claim/cut.py") 215, Value.int 8 0, Value.int 2 0, Value.int 0 0, Value.int 0 0, Value.int 3 0, Value.ref 36, Value.bool true, Value.int 181 0, Value.ref 37, Value.none, Value.ref 38, Value.ref 39, Value.ref 40, Value.int 218 0, Value.int 8 0, Value.str (Str.ofString "/claim/cut.py") 219] } : Obj)) ::
  (nat_lit 42, ({ cls := Value.type "function", data := Data.func { name := Str.ofString "mod", qualname := Str.ofString "mod", params := (fnP (topSt 4)), body := FuncBody.stmts (fnB (topSt 4)), scope := (fnS (topSt 9)), globals := 3, closure := [], defaults := Value.none, kwdefaults := Value.none, pyModule := Value.str (Str.ofString "cpy313.operator") 187, code := Value.ref 41 } } : Obj)) ::
  (nat_lit 43, ({ cls := Value.type "tuple", data := Data.seq #[] } : Obj)) ::
  (nat_lit 45, ({ cls := Value.type "tuple", data := Data.seq #[Value.str (Str.ofString "a") 224, Value.str (Str.ofString "b") 225] } : Obj)) ::
  (nat_lit 46, ({ cls := Value.type "tuple", data := Data.seq #[] } : Obj)) ::
  (nat_lit 48, ({ cls := Value.type "code", data := Data.fields #[Value.str (Str.ofString "mul") 221, Value.str (Str.ofString "mul") 222, Value.str (Str.ofString "/claim/cut.py") 223, Value.int 10 0, Value.int 2 0, Value.int 0 0, Value.int 0 0, Value.int 3 0, Value.ref 43, Value.bool true, Value.int 181 0, Value.ref 44, Value.none, Value.ref 45, Value.ref 46, Value.ref 47, Value.int 226 0, Value.int 10 0, Value.str (Str.ofString "/claim/cut.py") 227] } : Obj)) ::
  (nat_lit 49, ({ cls := Value.type "function", data := Data.func { name := Str.ofString "mul", qualname := Str.ofString "mul", params := (fnP (topSt 5)), body := FuncBody.stmts (fnB (topSt 5)), scope := (fnS (topSt 9)), globals := 3, closure := [], defaults := Value.none, kwdefaults := Value.none, pyModule := Value.str (Str.ofString "cpy313.operator") 187, code := Value.ref 48 } } : Obj)) ::
  (nat_lit 50, ({ cls := Value.type "tuple", data := Data.seq #[] } : Obj)) ::
  (nat_lit 52, ({ cls := Value.type "tuple", data := Data.seq #[Value.str (Str.ofString "a") 232, Value.str (Str.ofString "b") 233] } : Obj)) ::
  (nat_lit 53, ({ cls := Value.type "tuple", data := Data.seq #[] } : Obj)) ::
  (nat_lit 55, ({ cls := Value.type "code", data := Data.fields #[Value.str (Str.ofString "contains") 229, Value.str (Str.ofString "contains") 230, Value.str (Str.ofString "/claim/cut.py") 231, Value.int 12 0, Value.int 2 0, Value.int 0 0, Value.int 0 0, Value.int 3 0, Value.ref 50, Value.bool true, Value.int 181 0, Value.ref 51, Value.none, Value.ref 52, Value.ref 53, Value.ref 54, Value.int 234 0, Value.int 12 0, Value.str (Str.ofString "/claim/cut.py") 235] } : Obj)) ::
  (nat_lit 56, ({ cls := Value.type "function", data := Data.func { name := Str.ofString "contains", qualname := Str.ofString "contains", params := (fnP (topSt 6)), body := FuncBody.stmts (fnB (topSt 6)), scope := (fnS (topSt 9)), globals := 3, closure := [], defaults := Value.none, kwdefaults := Value.none, pyModule := Value.str (Str.ofString "cpy313.operator") 187, code := Value.ref 55 } } : Obj)) ::
  (nat_lit 57, ({ cls := Value.type "tuple", data := Data.seq #[] } : Obj)) ::
  (nat_lit 59, ({ cls := Value.type "tuple", data := Data.seq #[Value.str (Str.ofString "a") 240, Value.str (Str.ofString "b") 241, Value.str (Str.ofString "count") 242, Value.str (Str.ofString "i") 243] } : Obj)) ::
  (nat_lit 60, ({ cls := Value.type "tuple", data := Data.seq #[] } : Obj)) ::
  (nat_lit 62, ({ cls := Value.type "code", data := Data.fields #[Value.str (Str.ofString "countOf") 237, Value.str (Str.ofString "countOf") 238, Value.str (Str.ofString "/claim/cut.py") 239, Value.int 14 0, Value.int 2 0, Value.int 0 0, Value.int 0 0, Value.int 3 0, Value.ref 57, Value.bool true, Value.int 181 0, Value.ref 58, Value.none, Value.ref 59, Value.ref 60, Value.ref 61, Value.int 244 0, Value.int 14 0, Value.str (Str.ofString "/claim/cut.py") 245] } : Obj)) ::
  (nat_lit 63, ({ cls := Value.type "function", data := Data.func { name := Str.ofString "countOf", qualname := Str.ofString "countOf", params := (fnP (topSt 7)), body := FuncBody.stmts (fnB (topSt 7)), scope := (fnS (topSt 7)), globals := 3, closure := [], defaults := Value.none, kwdefaults := Value.none, pyModule := Value.str (Str.ofString "cpy313.operator") 187, code := Value.ref 62 } } : Obj)) ::
  (nat_lit 64, ({ cls := Value.type "tuple", data := Data.seq #[] } : Obj)) ::
  (nat_lit 66, ({ cls := Value.type "tuple", data := Data.seq #[Value.str (Str.ofString "a") 250, Value.str (Str.ofString "b") 251, Value.str (Str.ofString "i") 252, Value.str (Str.ofString "j") 253] } : Obj)) ::
  (nat_lit 67, ({ cls := Value.type "tuple", data := Data.seq #[] } : Obj)) ::
  (nat_lit 69, ({ cls := Value.type "code", data := Data.fields #[Value.str (Str.ofString "indexOf") 247, Value.str (Str.ofString "indexOf") 248, Value.str (Str.ofString "/claim/cut.py") 249, Value.int 20 0, Value.int 2 0, Value.int 0 0, Value.int 0 0, Value.int 3 0, Value.ref 64, Value.bool true, Value.int 181 0, Value.ref 65, Value.none, Value.ref 66, Value.ref 67, Value.ref 68, Value.int 254 0, Value.int 20 0, Value.str (Str.ofString "/claim/cut.py") 255] } : Obj)) ::
  (nat_lit 70, ({ cls := Value.type "function", data := Data.func { name := Str.ofString "indexOf", qualname := Str.ofString "indexOf", params := (fnP (topSt 8)), body := FuncBody.stmts (fnB (topSt 8)), scope := (fnS (topSt 8)), globals := 3, closure := [], defaults := Value.none, kwdefaults := Value.none, pyModule := Value.str (Str.ofString "cpy313.operator") 187, code := Value.ref 69 } } : Obj)) ::
  (nat_lit 71, ({ cls := Value.type "tuple", data := Data.seq #[] } : Obj)) ::
  (nat_lit 73, ({ cls := Value.type "tuple", data := Data.seq #[Value.str (Str.ofString "a") 260, Value.str (Str.ofString "b") 261] } : Obj)) ::
  (nat_lit 74, ({ cls := Value.type "tuple", data := Data.seq #[] } : Obj)) ::
  (nat_lit 76, ({ cls := Value.type "code", data := Data.fields #[Value.str (Str.ofString "isub") 257, Value.str (Str.ofString "isub") 258, Value.str (Str.ofString "/claim/cut.py") 259, Value.int 26 0, Value.int 2 0, Value.int 0 0, Value.int 0 0, Value.int 3 0, Value.ref 71, Value.bool true, Value.int 181 0, Value.ref 72, Value.none, Value.ref 73, Value.ref 74, Value.ref 75, Value.int 262 0, Value.int 26 0, Value.str (Str.ofString "/claim/cut.py") 263] } : Obj)) ::
  (nat_lit 77, ({ cls := Value.type "function", data := Data.func { name := Str.ofString "isub", qualname := Str.ofString "isub", params := (fnP (topSt 9)), body := FuncBody.stmts (fnB (topSt 9)), scope := (fnS (topSt 9)), globals := 3, closure := [], defaults := Value.none, kwdefaults := Value.none, pyModule := Value.str (Str.ofString "cpy313.operator") 187, code := Value.ref 76 } } : Obj)) ::
  (nat_lit 78, ({ cls := Value.type "tuple", data := Data.seq #[] } : Obj)) ::
  (nat_lit 80, ({ cls := Value.type "tuple", data := Data.seq #[Value.str (Str.ofString "r") 282, Value.str (Str.ofString "g") 283, Value.str (Str.ofString "b") 284, Value.str (Str.ofString "maxc") 285, Value.str (Str.ofString "minc") 286, Value.str (Str.ofString "sumc") 287, Value.str (Str.ofString "rangec") 288, Value.str (Str.ofString "l") 289, Value.str (Str.ofString "s") 290, Value.str (Str.ofString "rc") 291, Value.str (Str.ofString "gc") 292, Value.str (Str.ofString "bc") 293, Value.str (Str.ofString "h") 294] } : Obj)) ::
  (nat_lit 81, ({ cls := Value.type "tuple", data := Data.seq #[] } : Obj)) ::
  (nat_lit 83, ({ cls := Value.type "code", data := Data.fields #[Value.str (Str.ofString "rgb_to_hls") 279, Value.str (Str.ofString "rgb_to_hls") 280, Value.str (Str.ofString "/claim/cut.py") 281, Value.int 33 0, Value.int 3 0, Value.int 0 0, Value.int 0 0, Value.int 3 0, Value.ref 78, Value.bool true, Value.int 181 0, Value.ref 79, Value.none, Value.ref 80, Value.ref 81, Value.ref 82, Value.int 295 0, Value.int 33 0, Value.str (Str.ofString "/claim/cut.py") 296] } : Obj)) ::
  (nat_lit 84, ({ cls := Value.type "function", data := Data.func { name := Str.ofString "rgb_to_hls", qualname := Str.ofString "rgb_to_hls", params := (fnP (topSt 14)), body := FuncBody.stmts (fnB (topSt 14)), scope := (fnS (topSt 14)), globals := 3, closure := [], defaults := Value.none, kwdefaults := Value.none, pyModule := Value.str (Str.ofString "cpy313.colorsys") 265, code := Value.ref 83 } } : Obj)) ::
  (nat_lit 85, ({ cls := Value.type "tuple", data := Data.seq #[] } : Obj)) ::
  (nat_lit 87, ({ cls := Value.type "tuple", data := Data.seq #[Value.str (Str.ofString "h") 301, Value.str (Str.ofString "l") 302, Value.str (Str.ofString "s") 303, Value.str (Str.ofString "m2") 304, Value.str (Str.ofString "m1") 305] } : Obj)) ::
  (nat_lit 88, ({ cls := Value.type "tuple", data := Data.seq #[] } : Obj)) ::
  (nat_lit 90, ({ cls := Value.type "code", data := Data.fields #[Value.str (Str.ofString "hls_to_rgb") 298, Value.str (Str.ofString "hls_to_rgb") 299, Value.str (Str.ofString "/claim/cut.py") 300, Value.int 56 0, Value.int 3 0, Value.int 0 0, Value.int 0 0, Value.int 3 0, Value.ref 85, Value.bool true, Value.int 181 0, Value.ref 86, Value.none, Value.ref 87, Value.ref 88, Value.ref 89, Value.int 306 0, Value.int 56 0, Value.str (Str.ofString "/claim/cut.py") 307] } : Obj)) ::
  (nat_lit 91, ({ cls := Value.type "function", data := Data.func { name := Str.ofString "hls_to_rgb", qualname := Str.ofString "hls_to_rgb", params := (fnP (topSt 15)), body := FuncBody.stmts (fnB (topSt 15)), scope := (fnS (topSt 15)), globals := 3, closure := [], defaults := Value.none, kwdefaults := Value.none, pyModule := Value.str (Str.ofString "cpy313.colorsys") 265, code := Value.ref 90 } } : Obj)) ::
  (nat_lit 92, ({ cls := Value.type "tuple", data := Data.seq #[] } : Obj)) ::
  (nat_lit 94, ({ cls := Value.type "tuple", data := Data.seq #[Value.str (Str.ofString "m1") 312, Value.str (Str.ofString "m2") 313, Value.str (Str.ofString "hue") 314] } : Obj)) ::
  (nat_lit 95, ({ cls := Value.type "tuple", data := Data.seq #[] } : Obj)) ::
  (nat_lit 97, ({ cls := Value.type "code", data := Data.fields #[Value.str (Str.ofString "_v") 309, Value.str (Str.ofString "_v") 310, Value.str (Str.ofString "/claim/cut.py") 311, Value.int 65 0, Value.int 3 0, Value.int 0 0, Value.int 0 0, Value.int 3 0, Value.ref 92, Value.bool true, Value.int 181 0, Value.ref 93, Value.none, Value.ref 94, Value.ref 95, Value.ref 96, Value.int 315 0, Value.int 65 0, Value.str (Str.ofString "/claim/cut.py") 316] } : Obj)) ::
  (nat_lit 98, ({ cls := Value.type "function", data := Data.func { name := Str.ofString "_v", qualname := Str.ofString "_v", params := (fnP (topSt 16)), body := FuncBody.stmts (fnB (topSt 16)), scope := (fnS (topSt 16)), globals := 3, closure := [], defaults := Value.none, kwdefaults := Value.none, pyModule := Value.str (Str.ofString "cpy313.colorsys") 265, code := Value.ref 97 } } : Obj)) ::
  (nat_lit 99, ({ cls := Value.type "tuple", data := Data.seq #[] } : Obj)) ::
  (nat_lit 101, ({ cls := Value.type "tuple", data := Data.seq #[Value.str (Str.ofString "r") 321, Value.str (Str.ofString "g") 322, Value.str (Str.ofString "b") 323, Value.str (Str.ofString "maxc") 324, Value.str (Str.ofString "minc") 325, Value.str (Str.ofString "rangec") 326, Value.str (Str.ofString "v") 327, Value.str (Str.ofString "s") 328, Value.str (Str.ofString "rc") 329, Value.str (Str.ofString "gc") 330, Value.str (Str.ofString "bc") 331, Value.str (Str.ofString "h") 332] } : Obj)) ::
  (nat_lit 102, ({ cls := Value.type "tuple", data := Data.seq #[] } : Obj)) ::
  (nat_lit 104, ({ cls := Value.type "code", data := Data.fields #[Value.str (Str.ofString "rgb_to_hsv") 318, Value.str (Str.ofString "rgb_to_hsv") 319, Value.str (Str.ofString "/claim/cut.py") 320, Value.int 74 0, Value.int 3 0, Value.int 0 0, Value.int 0 0, Value.int 3 0, Value.ref 99, Value.bool true, Value.int 181 0, Value.ref 100, Value.none, Value.ref 101, Value.ref 102, Value.ref 103, Value.int 333 0, Value.int 74 0, Value.str (Str.ofString "/claim/cut.py") 334] } : Obj)) ::
  (nat_lit 105, ({ cls := Value.type "function", data := Data.func { name := Str.ofString "rgb_to_hsv", qualname := Str.ofString "rgb_to_hsv", params := (fnP (topSt 17)), body := FuncBody.stmts (fnB (topSt 17)), scope := (fnS (topSt 17)), globals := 3, closure := [], defaults := Value.none, kwdefaults := Value.none, pyModule := Value.str (Str.ofString "cpy313.colorsys") 265, code := Value.ref 104 } } : Obj)) ::
  (nat_lit 106, ({ cls := Value.type "tuple", data := Data.seq #[] } : Obj)) ::
  (nat_lit 108, ({ cls := Value.type "tuple", data := Data.seq #[Value.str (Str.ofString "h") 339, Value.str (Str.ofString "s") 340, Value.str (Str.ofString "v") 341, Value.str (Str.ofString "i") 342, Value.str (Str.ofString "f") 343, Value.str (Str.ofString "p") 344, Value.str (Str.ofString "q") 345, Value.str (Str.ofString "t") 346] } : Obj)) ::
  (nat_lit 109, ({ cls := Value.type "tuple", data := Data.seq #[] } : Obj)) ::
  (nat_lit 111, ({ cls := Value.type "code", data := Data.fields #[Value.str (Str.ofString "hsv_to_rgb") 336, Value.str (Str.ofString "hsv_to_rgb") 337, Value.str (Str.ofString "/claim/cut.py") 338, Value.int 93 0, Value.int 3 0, Value.int 0 0, Value.int 0 0, Value.int 3 0, Value.ref 106, Value.bool true, Value.int 181 0, Value.ref 107, Value.none, Value.ref 108, Value.ref 109, Value.ref 110, Value.int 347 0, Value.int 93 0, Value.str (Str.ofString "/claim/cut.py") 348] } : Obj)) ::
  (nat_lit 112, ({ cls := Value.type "function", data := Data.func { name := Str.ofString "hsv_to_rgb", qualname := Str.ofString "hsv_to_rgb", params := (fnP (topSt 18)), body := FuncBody.stmts (fnB (topSt 18)), scope := (fnS (topSt 18)), globals := 3, closure := [], defaults := Value.none, kwdefaults := Value.none, pyModule := Value.str (Str.ofString "cpy313.colorsys") 265, code := Value.ref 111 } } : Obj)) ::
  (nat_lit 120, ({ cls := Value.type "tuple", data := Data.seq #[Value.none] } : Obj)) ::
  (nat_lit 121, ({ cls := Value.type "tuple", data := Data.seq #[] } : Obj)) ::
  (nat_lit 123, ({ cls := Value.type "tuple", data := Data.seq #[Value.str (Str.ofString "self") 367, Value.str (Str.ofString "text_or_uri") 368, Value.str (Str.ofString "tag") 369] } : Obj)) ::
  (nat_lit 124, ({ cls := Value.type "tuple", data := Data.seq #[] } : Obj)) ::
  (nat_lit 126, ({ cls := Value.type "code", data := Data.fields #[Value.str (Str.ofString "__init__") 364, Value.str (Str.ofString "QName.__init__") 365, Value.str (Str.ofString "/claim/cut.py") 366, Value.int 117 0, Value.int 3 0, Value.int 0 0, Value.int 0 0, Value.int 3 0, Value.ref 121, Value.bool true, Value.int 181 0, Value.ref 122, Value.none, Value.ref 123, Value.ref 124, Value.ref 125, Value.int 370 0, Value.int 117 0, Value.str (Str.ofString "/claim/cut.py") 371] } : Obj)) ::
  (nat_lit 127, ({ cls := Value.type "function", data := Data.func { name := Str.ofString "__init__", qualname := Str.ofString "QName.__init__", params := (fnP (clsSt 20 0)), body := FuncBody.stmts (fnB (clsSt 20 0)), scope := (fnS (clsSt 20 0)), globals := 3, closure := [], defaults := Value.ref 120, kwdefaults := Value.none, pyModule := Value.str (Str.ofString "cpy313.xml.etree.ElementTree") 350, code := Value.ref 126 } } : Obj)) ::
  (nat_lit 128, ({ cls := Value.type "tuple", data := Data.seq #[] } : Obj)) ::
  (nat_lit 130, ({ cls := Value.type "tuple", data := Data.seq #[Value.str (Str.ofString "self") 376] } : Obj)) ::
  (nat_lit 131, ({ cls := Value.type "tuple", data := Data.seq #[] } : Obj)) ::
  (nat_lit 133, ({ cls := Value.type "code", data := Data.fields #[Value.str (Str.ofString "__str__") 373, Value.str (Str.ofString "QName.__str__") 374, Value.str (Str.ofString "/claim/cut.py") 375, Value.int 122 0, Value.int 1 0, Value.int 0 0, Value.int 0 0, Value.int 3 0, Value.ref 128, Value.bool true, Value.int 181 0, Value.ref 129, Value.none, Value.ref 130, Value.ref 131, Value.ref 132, Value.int 377 0, Value.int 122 0, Value.str (Str.ofString "/claim/cut.py") 378] } : Obj)) ::
  (nat_lit 134, ({ cls := Value.type "function", data := Data.func { name := Str.ofString "__str__", qualname := Str.ofString "QName.__str__", params := (fnP (clsSt 20 1)), body := FuncBody.stmts (fnB (clsSt 20 1)), scope := (fnS (clsSt 20 2)), globals := 3, closure := [], defaults := Value.none, kwdefaults := Value.none, pyModule := Value.str (Str.ofString "cpy313.xml.etree.ElementTree") 350, code := Value.ref 133 } } : Obj)) ::
  (nat_lit 135, ({ cls := Value.type "tuple", data := Data.seq #[] } : Obj)) ::
  (nat_lit 137, ({ cls := Value.type "tuple", data := Data.seq #[Value.str (Str.ofString "self") 383] } : Obj)) ::
  (nat_lit 138, ({ cls := Value.type "tuple", data := Data.seq #[] } : Obj)) ::
  (nat_lit 140, ({ cls := Value.type "code", data := Data.fields #[Value.str (Str.ofString "__repr__") 380, Value.str (Str.ofString "QName.__repr__") 381, Value.str (Str.ofString "/claim/cut.py") 382, Value.int 125 0, Value.int 1 0, Value.int 0 0, Value.int 0 0, Value.int 3 0, Value.ref 135, Value.bool true, Value.int 181 0, Value.ref 136, Value.none, Value.ref 137, Value.ref 138, Value.ref 139, Value.int 384 0, Value.int 125 0, Value.str (Str.ofString "/claim/cut.py") 385] } : Obj)) ::
  (nat_lit 141, ({ cls := Value.type "function", data := Data.func { name := Str.ofString "__repr__", qualname := Str.ofString "QName.__repr__", params := (fnP (clsSt 20 2)), body := FuncBody.stmts (fnB (clsSt 20 2)), scope := (fnS (clsSt 20 2)), globals := 3, closure := [], defaults := Value.none, kwdefaults := Value.none, pyModule := Value.str (Str.ofString "cpy313.xml.etree.ElementTree") 350, code := Value.ref 140 } } : Obj)) ::
  (nat_lit 142, ({ cls := Value.type "tuple", data := Data.seq #[] } : Obj)) ::
  (nat_lit 144, ({ cls := Value.type "tuple", data := Data.seq #[Value.str (Str.ofString "self") 390] } : Obj)) ::
  (nat_lit 145, ({ cls := Value.type "tuple", data := Data.seq #[] } : Obj)) ::
  (nat_lit 147, ({ cls := Value.type "code", data := Data.fields #[Value.str (Str.ofString "__hash__") 387, Value.str (Str.ofString "QName.__hash__") 388, Value.str (Str.ofString "/claim/cut.py") 389, Value.int 128 0, Value.int 1 0, Value.int 0 0, Value.int 0 0, Value.int 3 0, Value.ref 142, Value.bool true, Value.int 181 0, Value.ref 143, Value.none, Value.ref 144, Value.ref 145, Value.ref 146, Value.int 391 0, Value.int 128 0, Value.str (Str.ofString "/claim/cut.py") 392] } : Obj)) ::
  (nat_lit 148, ({ cls := Value.type "function", data := Data.func { name := Str.ofString "__hash__", qualname := Str.ofString "QName.__hash__", params := (fnP (clsSt 20 3)), body := FuncBody.stmts (fnB (clsSt 20 3)), scope := (fnS (clsSt 20 3)), globals := 3, closure := [], defaults := Value.none, kwdefaults := Value.none, pyModule := Value.str (Str.ofString "cpy313.xml.etree.ElementTree") 350, code := Value.ref 147 } } : Obj)) ::
  (nat_lit 149, ({ cls := Value.type "tuple", data := Data.seq #[] } : Obj)) ::
  (nat_lit 151, ({ cls := Value.type "tuple", data := Data.seq #[Value.str (Str.ofString "self") 397, Value.str (Str.ofString "other") 398] } : Obj)) ::
  (nat_lit 152, ({ cls := Value.type "tuple", data := Data.seq #[] } : Obj)) ::
  (nat_lit 154, ({ cls := Value.type "code", data := Data.fields #[Value.str (Str.ofString "__le__") 394, Value.str (Str.ofString "QName.__le__") 395, Value.str (Str.ofString "/claim/cut.py") 396, Value.int 131 0, Value.int 2 0, Value.int 0 0, Value.int 0 0, Value.int 3 0, Value.ref 149, Value.bool true, Value.int 181 0, Value.ref 150, Value.none, Value.ref 151, Value.ref 152, Value.ref 153, Value.int 399 0, Value.int 131 0, Value.str (Str.ofString "/claim/cut.py") 400] } : Obj)) ::
  (nat_lit 155, ({ cls := Value.type "function", data := Data.func { name := Str.ofString "__le__", qualname := Str.ofString "QName.__le__", params := (fnP (clsSt 20 4)), body := FuncBody.stmts (fnB (clsSt 20 4)), scope := (fnS (clsSt 20 8)), globals := 3, closure := [], defaults := Value.none, kwdefaults := Value.none, pyModule := Value.str (Str.ofString "cpy313.xml.etree.ElementTree") 350, code := Value.ref 154 } } : Obj)) ::
  (nat_lit 156, ({ cls := Value.type "tuple", data := Data.seq #[] } : Obj)) ::
  (nat_lit 158, ({ cls := Value.type "tuple", data := Data.seq #[Value.str (Str.ofString "self") 405, Value.str (Str.ofString "other") 406] } : Obj)) ::
  (nat_lit 159, ({ cls := Value.type "tuple", data := Data.seq #[] } : Obj)) ::
  (nat_lit 161, ({ cls := Value.type "code", data := Data.fields #[Value.str (Str.ofString "__lt__") 402, Value.str (Str.ofString "QName.__lt__") 403, Value.str (Str.ofString "/claim/cut.py") 404, Value.int 136 0, Value.int 2 0, Value.int 0 0, Value.int 0 0, Value.int 3 0, Value.ref 156, Value.bool true, Value.int 181 0, Value.ref 157, Value.none, Value.ref 158, Value.ref 159, Value.ref 160, Value.int 407 0, Value.int 136 0, Value.str (Str.ofString "/claim/cut.py") 408] } : Obj)) ::
  (nat_lit 162, ({ cls := Value.type "function", data := Data.func { name := Str.ofString "__lt__", qualname := Str.ofString "QName.__lt__", params := (fnP (clsSt 20 5)), body := FuncBody.stmts (fnB (clsSt 20 5)), scope := (fnS (clsSt 20 8)), globals := 3, closure := [], defaults := Value.none, kwdefaults := Value.none, pyModule := Value.str (Str.ofString "cpy313.xml.etree.ElementTree") 350, code := Value.ref 161 } } : Obj)) ::
  (nat_lit 163, ({ cls := Value.type "tuple", data := Data.seq #[] } : Obj)) ::
  (nat_lit 165, ({ cls := Value.type "tuple", data := Data.seq #[Value.str (Str.ofString "self") 413, Value.str (Str.ofString "other") 414] } : Obj)) ::
  (nat_lit 166, ({ cls := Value.type "tuple", data := Data.seq #[] } : Obj)) ::
  (nat_lit 168, ({ cls := Value.type "code", data := Data.fields #[Value.str (Str.ofString "__ge__") 410, Value.str (Str.ofString "QName.__ge__") 411, Value.str (Str.ofString "/claim/cut.py") 412, Value.int 141 0, Value.int 2 0, Value.int 0 0, Value.int 0 0, Value.int 3 0, Value.ref 163, Value.bool true, Value.int 181 0, Value.ref 164, Value.none, Value.ref 165, Value.ref 166, Value.ref 167, Value.int 415 0, Value.int 141 0, Value.str (Str.ofString "/claim/cut.py") 416] } : Obj)) ::
  (nat_lit 169, ({ cls := Value.type "function", data := Data.func { name := Str.ofString "__ge__", qualname := Str.ofString "QName.__ge__", params := (fnP (clsSt 20 6)), body := FuncBody.stmts (fnB (clsSt 20 6)), scope := (fnS (clsSt 20 8)), globals := 3, closure := [], defaults := Value.none, kwdefaults := Value.none, pyModule := Value.str (Str.ofString "cpy313.xml.etree.ElementTree") 350, code := Value.ref 168 } } : Obj)) ::
  (nat_lit 170, ({ cls := Value.type "tuple", data := Data.seq #[] } : Obj)) ::
  (nat_lit 172, ({ cls := Value.type "tuple", data := Data.seq #[Value.str (Str.ofString "self") 421, Value.str (Str.ofString "other") 422] } : Obj)) ::
  (nat_lit 173, ({ cls := Value.type "tuple", data := Data.seq #[] } : Obj)) ::
  (nat_lit 175, ({ cls := Value.type "code", data := Data.fields #[Value.str (Str.ofString "__gt__") 418, Value.str (Str.ofString "QName.__gt__") 419, Value.str (Str.ofString "/claim/cut.py") 420, Value.int 146 0, Value.int 2 0, Value.int 0 0, Value.int 0 0, Value.int 3 0, Value.ref 170, Value.bool true, Value.int 181 0, Value.ref 171, Value.none, Value.ref 172, Value.ref 173, Value.ref 174, Value.int 423 0, Value.int 146 0, Value.str (Str.ofString "/claim/cut.py") 424] } : Obj)) ::
  (nat_lit 176, ({ cls := Value.type "function", data := Data.func { name := Str.ofString "__gt__", qualname := Str.ofString "QName.__gt__", params := (fnP (clsSt 20 7)), body := FuncBody.stmts (fnB (clsSt 20 7)), scope := (fnS (clsSt 20 8)), globals := 3, closure := [], defaults := Value.none, kwdefaults := Value.none, pyModule := Value.str (Str.ofString "cpy313.xml.etree.ElementTree") 350, code := Value.ref 175 } } : Obj)) ::
  (nat_lit 177, ({ cls := Value.type "tuple", data := Data.seq #[] } : Obj)) ::
  (nat_lit 179, ({ cls := Value.type "tuple", data := Data.seq #[Value.str (Str.ofString "self") 429, Value.str (Str.ofString "other") 430] } : Obj)) ::
  (nat_lit 180, ({ cls := Value.type "tuple", data := Data.seq #[] } : Obj)) ::
  (nat_lit 182, ({ cls := Value.type "code", data := Data.fields #[Value.str (Str.ofString "__eq__") 426, Value.str (Str.ofString "QName.__eq__") 427, Value.str (Str.ofString "/claim/cut.py") 428, Value.int 151 0, Value.int 2 0, Value.int 0 0, Value.int 0 0, Value.int 3 0, Value.ref 177, Value.bool true, Value.int 181 0, Value.ref 178, Value.none, Value.ref 179, Value.ref 180, Value.ref 181, Value.int 431 0, Value.int 151 0, Value.str (Str.ofString "/claim/cut.py") 432] } : Obj)) ::
  (nat_lit 183, ({ cls := Value.type "function", data := Data.func { name := Str.ofString "__eq__", qualname := Str.ofString "QName.__eq__", params := (fnP (clsSt 20 8)), body := FuncBody.stmts (fnB (clsSt 20 8)), scope := (fnS (clsSt 20 8)), globals := 3, closure := [], defaults := Value.none, kwdefaults := Value.none, pyModule := Value.str (Str.ofString "cpy313.xml.etree.ElementTree") 350, code := Value.ref 182 } } : Obj)) ::
  (nat_lit 184, ({ cls := Value.type "tuple", data := Data.seq #[Value.str (Str.ofString "text") 434] } : Obj)) ::
  (nat_lit 185, ({ cls := Value.type "dict", data := Data.dict #[{ hash := PyData.keyHash P (Str.ofString "__module__"), key := Value.str (Str.ofString "__module__") 359, val := Value.str (Str.ofString "cpy313.xml.etree.ElementTree") 350 }, { hash := PyData.keyHash P (Str.ofString "__firstlineno__"), key := Value.str (Str.ofString "__firstlineno__") 363, val := Value.int 115 362 }, { hash := PyData.keyHash P (Str.ofString "__init__"), key := Value.str (Str.ofString "__init__") 372, val := Value.ref 127 }, { hash := PyData.keyHash P (Str.ofString "__str__"), key := Value.str (Str.ofString "__str__") 379, val := Value.ref 134 }, { hash := PyData.keyHash P (Str.ofString "__repr__"), key := Value.str (Str.ofString "__repr__") 386, val := Value.ref 141 }, { hash := PyData.keyHash P (Str.ofString "__hash__"), key := Value.str (Str.ofString "__hash__") 393, val := Value.ref 148 }, { hash := PyData.keyHash P (Str.ofString "__le__"), key := Value.str (Str.ofString "__le__") 401, val := Value.ref 155 }, { hash := PyData.keyHash P (Str.ofString "__lt__"), key := Value.str (Str.ofString "__lt__") 409, val := Value.ref 162 }, { hash := PyData.keyHash P (Str.ofString "__ge__"), key := Value.str (Str.ofString "__ge__") 417, val := Value.ref 169 }, { hash := PyData.keyHash P (Str.ofString "__gt__"), key := Value.str (Str.ofString "__gt__") 425, val := Value.ref 176 }, { hash := PyData.keyHash P (Str.ofString "__eq__"), key := Value.str (Str.ofString "__eq__") 433, val := Value.ref 183 }, { hash := PyData.keyHash P (Str.ofString "__static_attributes__"), key := Value.str (Str.ofString "__static_attributes__") 435, val := Value.ref 184 }, { hash := PyData.keyHash P (Str.ofString "__dict__"), key := Value.str (Str.ofString "__dict__") 437, val := Value.ref 187 }, { hash := PyData.keyHash P (Str.ofString "__weakref__"), key := Value.str (Str.ofString "__weakref__") 439, val := Value.ref 188 }, { hash := PyData.keyHash P (Str.ofString "__doc__"), key := Value.str (Str.ofString "__doc__") 440, val := Value.none }] 4 } : Obj)) ::
  (nat_lit 186, ({ cls := Value.type "type", data := Data.cls { name := Str.ofString "QName", bases := [Value.type "object"], mro := [Value.ref 186, Value.type "object"], ns := 185, qualname := Str.ofString "QName" }, slots := #[none, none, some (Value.str (Str.ofString "QName") 352), some (Value.str (Str.ofString "QName") 360), some (Value.builtin "object.__new__"), some (Value.bool true)] } : Obj)) ::
  (nat_lit 187, ({ cls := Value.type "getset_descriptor", data := Data.fields #[Value.str (Str.ofString "__dict__") 436, Value.ref 186, Value.builtin "function.__dict__", Value.builtin "function.__dict__#set"] } : Obj)) ::
  (nat_lit 188, ({ cls := Value.type "getset_descriptor", data := Data.fields #[Value.str (Str.ofString "__weakref__") 438, Value.ref 186, Value.builtin "ExceptionGroup.__weakref__", Value.none] } : Obj)) ::
  (nat_lit 191, ({ cls := Value.type "tuple", data := Data.seq #[] } : Obj)) ::
  (nat_lit 193, ({ cls := Value.type "tuple", data := Data.seq #[Value.str (Str.ofString "script") 448, Value.str (Str.ofString "cells") 449, Value.str (Str.ofString "k") 450] } : Obj)) ::
  (nat_lit 194, ({ cls := Value.type "tuple", data := Data.seq #[] } : Obj)) ::
  (nat_lit 196, ({ cls := Value.type "code", data := Data.fields #[Value.str (Str.ofString "_law_cells") 445, Value.str (Str.ofString "_law_cells") 446, Value.str (Str.ofString "/claim/cut.py") 447, Value.int 156 0, Value.int 1 0, Value.int 0 0, Value.int 0 0, Value.int 3 0, Value.ref 191, Value.bool true, Value.int 181 0, Value.ref 192, Value.none, Value.ref 193, Value.ref 194, Value.ref 195, Value.int 451 0, Value.int 156 0, Value.str (Str.ofString "/claim/cut.py") 452] } : Obj)) ::
  (nat_lit 197, ({ cls := Value.type "function", data := Data.func { name := Str.ofString "_law_cells", qualname := Str.ofString "_law_cells", params := (fnP (topSt 22)), body := FuncBody.stmts (fnB (topSt 22)), scope := (fnS (topSt 22)), globals := 3, closure := [], defaults := Value.none, kwdefaults := Value.none, pyModule := Value.str (Str.ofString "law_wu0061_01") 443, code := Value.ref 196 } } : Obj)) ::
  (nat_lit 198, ({ cls := Value.type "tuple", data := Data.seq #[] } : Obj)) ::
  (nat_lit 200, ({ cls := Value.type "tuple", data := Data.seq #[Value.str (Str.ofString "deed") 457, Value.str (Str.ofString "form") 458, Value.str (Str.ofString "space") 459, Value.str (Str.ofString "word") 460] } : Obj)) ::
  (nat_lit 201, ({ cls := Value.type "tuple", data := Data.seq #[] } : Obj)) ::
  (nat_lit 203, ({ cls := Value.type "code", data := Data.fields #[Value.str (Str.ofString "_law_name") 454, Value.str (Str.ofString "_law_name") 455, Value.str (Str.ofString "/claim/cut.py") 456, Value.int 161 0, Value.int 2 0, Value.int 0 0, Value.int 0 0, Value.int 3 0, Value.ref 198, Value.bool true, Value.int 181 0, Value.ref 199, Value.none, Value.ref 200, Value.ref 201, Value.ref 202, Value.int 461 0, Value.int 161 0, Value.str (Str.ofString "/claim/cut.py") 462] } : Obj)) ::
  (nat_lit 204, ({ cls := Value.type "function", data := Data.func { name := Str.ofString "_law_name", qualname := Str.ofString "_law_name", params := (fnP (topSt 23)), body := FuncBody.stmts (fnB (topSt 23)), scope := (fnS (topSt 23)), globals := 3, closure := [], defaults := Value.none, kwdefaults := Value.none, pyModule := Value.str (Str.ofString "law_wu0061_01") 443, code := Value.ref 203 } } : Obj)) ::
  (nat_lit 205, ({ cls := Value.type "tuple", data := Data.seq #[] } : Obj)) ::
  (nat_lit 207, ({ cls := Value.type "tuple", data := Data.seq #[Value.str (Str.ofString "place") 467, Value.str (Str.ofString "deed") 468, Value.str (Str.ofString "red") 469, Value.str (Str.ofString "green") 470, Value.str (Str.ofString "blue") 471, Value.str (Str.ofString "both") 472] } : Obj)) ::
  (nat_lit 208, ({ cls := Value.type "tuple", data := Data.seq #[] } : Obj)) ::
  (nat_lit 210, ({ cls := Value.type "code", data := Data.fields #[Value.str (Str.ofString "_law_next") 464, Value.str (Str.ofString "_law_next") 465, Value.str (Str.ofString "/claim/cut.py") 466, Value.int 171 0, Value.int 2 0, Value.int 0 0, Value.int 0 0, Value.int 3 0, Value.ref 205, Value.bool true, Value.int 181 0, Value.ref 206, Value.none, Value.ref 207, Value.ref 208, Value.ref 209, Value.int 473 0, Value.int 171 0, Value.str (Str.ofString "/claim/cut.py") 474] } : Obj)) ::
  (nat_lit 211, ({ cls := Value.type "function", data := Data.func { name := Str.ofString "_law_next", qualname := Str.ofString "_law_next", params := (fnP (topSt 24)), body := FuncBody.stmts (fnB (topSt 24)), scope := (fnS (topSt 24)), globals := 3, closure := [], defaults := Value.none, kwdefaults := Value.none, pyModule := Value.str (Str.ofString "law_wu0061_01") 443, code := Value.ref 210 } } : Obj)) ::
  (nat_lit 212, ({ cls := Value.type "tuple", data := Data.seq #[] } : Obj)) ::
  (nat_lit 215, ({ cls := Value.type "code", data := Data.fields #[Value.str (Str.ofString "_law_home") 476, Value.str (Str.ofString "_law_home") 477, Value.str (Str.ofString "/claim/cut.py") 478, Value.int 179 0, Value.int 1 0, Value.int 0 0, Value.int 0 0, Value.int 3 0, Value.ref 212, Value.bool true, Value.int 181 0, Value.ref 213, Value.none, Value.none, Value.none, Value.ref 214, Value.int 479 0, Value.int 179 0, Value.str (Str.ofString "/claim/cut.py") 480] } : Obj)) ::
  (nat_lit 216, ({ cls := Value.type "function", data := Data.func { name := Str.ofString "_law_home", qualname := Str.ofString "_law_home", params := (fnP (topSt 25)), body := FuncBody.stmts (fnB (topSt 25)), scope := (fnS (topSt 25)), globals := 3, closure := [], defaults := Value.none, kwdefaults := Value.none, pyModule := Value.str (Str.ofString "law_wu0061_01") 443, code := Value.ref 215 } } : Obj)) ::
  (nat_lit 217, ({ cls := Value.type "tuple", data := Data.seq #[] } : Obj)) ::
  (nat_lit 220, ({ cls := Value.type "code", data := Data.fields #[Value.str (Str.ofString "_law_led") 482, Value.str (Str.ofString "_law_led") 483, Value.str (Str.ofString "/claim/cut.py") 484, Value.int 184 0, Value.int 3 0, Value.int 0 0, Value.int 0 0, Value.int 3 0, Value.ref 217, Value.bool true, Value.int 181 0, Value.ref 218, Value.none, Value.none, Value.none, Value.ref 219, Value.int 485 0, Value.int 184 0, Value.str (Str.ofString "/claim/cut.py") 486] } : Obj)) ::
  (nat_lit 221, ({ cls := Value.type "function", data := Data.func { name := Str.ofString "_law_led", qualname := Str.ofString "_law_led", params := (fnP (topSt 26)), body := FuncBody.stmts (fnB (topSt 26)), scope := (fnS (topSt 26)), globals := 3, closure := [], defaults := Value.none, kwdefaults := Value.none, pyModule := Value.str (Str.ofString "law_wu0061_01") 443, code := Value.ref 220 } } : Obj)) ::
  (nat_lit 222, ({ cls := Value.type "tuple", data := Data.seq #[] } : Obj)) ::
  (nat_lit 225, ({ cls := Value.type "code", data := Data.fields #[Value.str (Str.ofString "_law_whole") 488, Value.str (Str.ofString "_law_whole") 489, Value.str (Str.ofString "/claim/cut.py") 490, Value.int 187 0, Value.int 1 0, Value.int 0 0, Value.int 0 0, Value.int 3 0, Value.ref 222, Value.bool true, Value.int 181 0, Value.ref 223, Value.none, Value.none, Value.none, Value.ref 224, Value.int 491 0, Value.int 187 0, Value.str (Str.ofString "/claim/cut.py") 492] } : Obj)) ::
  (nat_lit 226, ({ cls := Value.type "function", data := Data.func { name := Str.ofString "_law_whole", qualname := Str.ofString "_law_whole", params := (fnP (topSt 27)), body := FuncBody.stmts (fnB (topSt 27)), scope := (fnS (topSt 27)), globals := 3, closure := [], defaults := Value.none, kwdefaults := Value.none, pyModule := Value.str (Str.ofString "law_wu0061_01") 443, code := Value.ref 225 } } : Obj)) ::
  (nat_lit 227, ({ cls := Value.type "tuple", data := Data.seq #[] } : Obj)) ::
  (nat_lit 230, ({ cls := Value.type "code", data := Data.fields #[Value.str (Str.ofString "law") 494, Value.str (Str.ofString "law") 495, Value.str (Str.ofString "/claim/cut.py") 496, Value.int 189 0, Value.int 1 0, Value.int 0 0, Value.int 0 0, Value.int 3 0, Value.ref 227, Value.bool true, Value.int 181 0, Value.ref 228, Value.none, Value.none, Value.none, Value.ref 229, Value.int 497 0, Value.int 189 0, Value.str (Str.ofString "/claim/cut.py") 498] } : Obj)) ::
  (nat_lit 231, ({ cls := Value.type "function", data := Data.func { name := Str.ofString "law", qualname := Str.ofString "law", params := (fnP (topSt 28)), body := FuncBody.stmts (fnB (topSt 28)), scope := (fnS (topSt 28)), globals := 3, closure := [], defaults := Value.none, kwdefaults := Value.none, pyModule := Value.str (Str.ofString "law_wu0061_01") 443, code := Value.ref 230 } } : Obj)) ::
  []
/-- the text's top, without what is bound anew -/
noncomputable def hd.view_39 : Program := { PySem.Challenge.pw_wu0061_01 with main := { PySem.Challenge.pw_wu0061_01.main with body := [topSt 1, topSt 2, topSt 3, topSt 4, topSt 5, topSt 6, topSt 7, topSt 8, topSt 9, topSt 11, topSt 12, topSt 13, topSt 14, topSt 15, topSt 16, topSt 17, topSt 18, topSt 20, topSt 22, topSt 23, topSt 24, topSt 25, topSt 26, topSt 27, topSt 28] } }
noncomputable abbrev looseL : List Str := [Str.ofString "ONE_THIRD", Str.ofString "ONE_SIXTH", Str.ofString "TWO_THIRD"]
noncomputable abbrev valsL : List (Str × WData) := [(Str.ofString "ONE_THIRD", WData.float 4599676419421066581), (Str.ofString "ONE_SIXTH", WData.float 4595172819793696085), (Str.ofString "TWO_THIRD", WData.float 4604180019048437077)]
end Mine
end
section
open PySem PySem.W PyProof.Rows
namespace Mine
/-- where the objects lie -/
noncomputable abbrev heapAs : List Addr := 2 :: 3 :: 15 :: 17 :: 18 :: 20 :: 21 :: 22 :: 24 :: 25 :: 27 :: 28 :: 29 :: 31 :: 32 :: 34 :: 35 :: 36 :: 38 :: 39 :: 41 :: 42 :: 43 :: 45 :: 46 :: 48 :: 49 :: 50 :: 52 :: 53 :: 55 :: 56 :: 57 :: 59 :: 60 :: 62 :: 63 :: 64 :: 66 :: 67 :: 69 :: 70 :: 71 :: 73 :: 74 :: 76 :: 77 :: 78 :: 80 :: 81 :: 83 :: 84 :: 85 :: 87 :: 88 :: 90 :: 91 :: 92 :: 94 :: 95 :: 97 :: 98 :: 99 :: 101 :: 102 :: 104 :: 105 :: 106 :: 108 :: 109 :: 111 :: 112 :: 120 :: 121 :: 123 :: 124 :: 126 :: 127 :: 128 :: 130 :: 131 :: 133 :: 134 :: 135 :: 137 :: 138 :: 140 :: 141 :: 142 :: 144 :: 145 :: 147 :: 148 :: 149 :: 151 :: 152 :: 154 :: 155 :: 156 :: 158 :: 159 :: 161 :: 162 :: 163 :: 165 :: 166 :: 168 :: 169 :: 170 :: 172 :: 173 :: 175 :: 176 :: 177 :: 179 :: 180 :: 182 :: 183 :: 184 :: 185 :: 186 :: 187 :: 188 :: 191 :: 193 :: 194 :: 196 :: 197 :: 198 :: 200 :: 201 :: 203 :: 204 :: 205 :: 207 :: 208 :: 210 :: 211 :: 212 :: 215 :: 216 :: 217 :: 220 :: 221 :: 222 :: 225 :: 226 :: 227 :: 230 :: 231 :: []
noncomputable abbrev hookK : Hook := kHook hd.heap_39 heapAs (fun _ => by kernel_rfl)
namespace Tp
noncomputable abbrev pw : Program := PySem.Challenge.pw_wu0061_01
noncomputable def env : Env := { scope := pw.main.scope, locals := mainNs, globals := mainNs, cells := [], code := Value.ref 13, frame := some 14 }
noncomputable def cE : Code := Code.body (behindTheImports pw) env
noncomputable abbrev q0 : Pos := { line := 0, col := 0, endLine := 0, endCol := 0 }
noncomputable def sts1 : List Stmt := [topSt 0, topSt 1, topSt 2, topSt 3, topSt 4, topSt 5, topSt 6, topSt 7, topSt 8, topSt 9]
noncomputable def sts2 : List Stmt := [topSt 10, topSt 11, topSt 12, topSt 13, topSt 14, topSt 15, topSt 16, topSt 17, topSt 18, topSt 19]
noncomputable def sts3 : List Stmt := [topSt 20]
noncomputable def sts4 : List Stmt := [topSt 21, topSt 22, topSt 23, topSt 24, topSt 25, topSt 26, topSt 27, topSt 28]
noncomputable def os1 (P : Params) (r : List Obj) : List Obj :=
  ({ cls := Value.type "tuple", data := Data.seq #[] } : Obj) ::
  ({ cls := Value.none, data := Data.fields #[] } : Obj) ::
  ({ cls := Value.type "tuple", data := Data.seq #[Value.str (Str.ofString "a") 192, Value.str (Str.ofString "b") 193] } : Obj) ::
  ({ cls := Value.type "tuple", data := Data.seq #[] } : Obj) ::
  ({ cls := Value.none, data := Data.func { name := Str.ofString "lt", qualname := Str.ofString "lt", params := (fnP (topSt 1)), body := FuncBody.stmts (fnB (topSt 1)), scope := (fnS (topSt 9)), globals := 0, closure := [], defaults := Value.none, kwdefaults := Value.none } } : Obj) ::
  ({ cls := Value.type "code", data := Data.fields #[Value.str (Str.ofString "lt") 189, Value.str (Str.ofString "lt") 190, Value.str (Str.ofString "/claim/cut.py") 191, Value.int 2 0, Value.int 2 0, Value.int 0 0, Value.int 0 0, Value.int 3 0, Value.ref 15, Value.bool true, Value.int 181 0, Value.ref 16, Value.none, Value.ref 17, Value.ref 18, Value.ref 19, Value.int 194 0, Value.int 2 0, Value.str (Str.ofString "/claim/cut.py") 195] } : Obj) ::
  ({ cls := Value.type "function", data := Data.func { name := Str.ofString "lt", qualname := Str.ofString "lt", params := (fnP (topSt 1)), body := FuncBody.stmts (fnB (topSt 1)), scope := (fnS (topSt 9)), globals := 3, closure := [], defaults := Value.none, kwdefaults := Value.none, pyModule := Value.str (Str.ofString "cpy313.operator") 187, code := Value.ref 20 } } : Obj) ::
  ({ cls := Value.type "tuple", data := Data.seq #[] } : Obj) ::
  ({ cls := Value.none, data := Data.fields #[] } : Obj) ::
  ({ cls := Value.type "tuple", data := Data.seq #[Value.str (Str.ofString "a") 200, Value.str (Str.ofString "b") 201] } : Obj) ::
  ({ cls := Value.type "tuple", data := Data.seq #[] } : Obj) ::
  ({ cls := Value.none, data := Data.func { name := Str.ofString "eq", qualname := Str.ofString "eq", params := (fnP (topSt 2)), body := FuncBody.stmts (fnB (topSt 2)), scope := (fnS (topSt 9)), globals := 0, closure := [], defaults := Value.none, kwdefaults := Value.none } } : Obj) ::
  ({ cls := Value.type "code", data := Data.fields #[Value.str (Str.ofString "eq") 197, Value.str (Str.ofString "eq") 198, Value.str (Str.ofString "/claim/cut.py") 199, Value.int 4 0, Value.int 2 0, Value.int 0 0, Value.int 0 0, Value.int 3 0, Value.ref 22, Value.bool true, Value.int 181 0, Value.ref 23, Value.none, Value.ref 24, Value.ref 25, Value.ref 26, Value.int 202 0, Value.int 4 0, Value.str (Str.ofString "/claim/cut.py") 203] } : Obj) ::
  ({ cls := Value.type "function", data := Data.func { name := Str.ofString "eq", qualname := Str.ofString "eq", params := (fnP (topSt 2)), body := FuncBody.stmts (fnB (topSt 2)), scope := (fnS (topSt 9)), globals := 3, closure := [], defaults := Value.none, kwdefaults := Value.none, pyModule := Value.str (Str.ofString "cpy313.operator") 187, code := Value.ref 27 } } : Obj) ::
  ({ cls := Value.type "tuple", data := Data.seq #[] } : Obj) ::
  ({ cls := Value.none, data := Data.fields #[] } : Obj) ::
  ({ cls := Value.type "tuple", data := Data.seq #[Value.str (Str.ofString "a") 208, Value.str (Str.ofString "b") 209] } : Obj) ::
  ({ cls := Value.type "tuple", data := Data.seq #[] } : Obj) ::
  ({ cls := Value.none, data := Data.func { name := Str.ofString "add", qualname := Str.ofString "add", params := (fnP (topSt 3)), body := FuncBody.stmts (fnB (topSt 3)), scope := (fnS (topSt 9)), globals := 0, closure := [], defaults := Value.none, kwdefaults := Value.none } } : Obj) ::
  ({ cls := Value.type "code", data := Data.fields #[Value.str (Str.ofString "add") 205, Value.str (Str.ofString "add") 206, Value.str (Str.ofString "/claim/cut.py") 207, Value.int 6 0, Value.int 2 0, Value.int 0 0, Value.int 0 0, Value.int 3 0, Value.ref 29, Value.bool true, Value.int 181 0, Value.ref 30, Value.none, Value.ref 31, Value.ref 32, Value.ref 33, Value.int 210 0, Value.int 6 0, Value.str (Str.ofString "/claim/cut.py") 211] } : Obj) ::
  ({ cls := Value.type "function", data := Data.func { name := Str.ofString "add", qualname := Str.ofString "add", params := (fnP (topSt 3)), body := FuncBody.stmts (fnB (topSt 3)), scope := (fnS (topSt 9)), globals := 3, closure := [], defaults := Value.none, kwdefaults := Value.none, pyModule := Value.str (Str.ofString "cpy313.operator") 187, code := Value.ref 34 } } : Obj) ::
  ({ cls := Value.type "tuple", data := Data.seq #[] } : Obj) ::
  ({ cls := Value.none, data := Data.fields #[] } : Obj) ::
  ({ cls := Value.type "tuple", data := Data.seq #[Value.str (Str.ofString "a") 216, Value.str (Str.ofString "b") 217] } : Obj) ::
  ({ cls := Value.type "tuple", data := Data.seq #[] } : Obj) ::
  ({ cls := Value.none, data := Data.func { name := Str.ofString "mod", qualname := Str.ofString "mod", params := (fnP (topSt 4)), body := FuncBody.stmts (fnB (topSt 4)), scope := (fnS (topSt 9)), globals := 0, closure := [], defaults := Value.none, kwdefaults := Value.none } } : Obj) ::
  ({ cls := Value.type "code", data := Data.fields #[Value.str (Str.ofString "mod") 213, Value.str (Str.ofString "mod") 214, Value.str (Str.ofString "/claim/cut.py") 215, Value.int 8 0, Value.int 2 0, Value.int 0 0, Value.int 0 0, Value.int 3 0, Value.ref 36, Value.bool true, Value.int 181 0, Value.ref 37, Value.none, Value.ref 38, Value.ref 39, Value.ref 40, Value.int 218 0, Value.int 8 0, Value.str (Str.ofString "/claim/cut.py") 219] } : Obj) ::
  ({ cls := Value.type "function", data := Data.func { name := Str.ofString "mod", qualname := Str.ofString "mod", params := (fnP (topSt 4)), body := FuncBody.stmts (fnB (topSt 4)), scope := (fnS (topSt 9)), globals := 3, closure := [], defaults := Value.none, kwdefaults := Value.none, pyModule := Value.str (Str.ofString "cpy313.operator") 187, code := Value.ref 41 } } : Obj) ::
  ({ cls := Value.type "tuple", data := Data.seq #[] } : Obj) ::
  ({ cls := Value.none, data := Data.fields #[] } : Obj) ::
  ({ cls := Value.type "tuple", data := Data.seq #[Value.str (Str.ofString "a") 224, Value.str (Str.ofString "b") 225] } : Obj) ::
  ({ cls := Value.type "tuple", data := Data.seq #[] } : Obj) ::
  ({ cls := Value.none, data := Data.func { name := Str.ofString "mul", qualname := Str.ofString "mul", params := (fnP (topSt 5)), body := FuncBody.stmts (fnB (topSt 5)), scope := (fnS (topSt 9)), globals := 0, closure := [], defaults := Value.none, kwdefaults := Value.none } } : Obj) ::
  ({ cls := Value.type "code", data := Data.fields #[Value.str (Str.ofString "mul") 221, Value.str (Str.ofString "mul") 222, Value.str (Str.ofString "/claim/cut.py") 223, Value.int 10 0, Value.int 2 0, Value.int 0 0, Value.int 0 0, Value.int 3 0, Value.ref 43, Value.bool true, Value.int 181 0, Value.ref 44, Value.none, Value.ref 45, Value.ref 46, Value.ref 47, Value.int 226 0, Value.int 10 0, Value.str (Str.ofString "/claim/cut.py") 227] } : Obj) ::
  ({ cls := Value.type "function", data := Data.func { name := Str.ofString "mul", qualname := Str.ofString "mul", params := (fnP (topSt 5)), body := FuncBody.stmts (fnB (topSt 5)), scope := (fnS (topSt 9)), globals := 3, closure := [], defaults := Value.none, kwdefaults := Value.none, pyModule := Value.str (Str.ofString "cpy313.operator") 187, code := Value.ref 48 } } : Obj) ::
  ({ cls := Value.type "tuple", data := Data.seq #[] } : Obj) ::
  ({ cls := Value.none, data := Data.fields #[] } : Obj) ::
  ({ cls := Value.type "tuple", data := Data.seq #[Value.str (Str.ofString "a") 232, Value.str (Str.ofString "b") 233] } : Obj) ::
  ({ cls := Value.type "tuple", data := Data.seq #[] } : Obj) ::
  ({ cls := Value.none, data := Data.func { name := Str.ofString "contains", qualname := Str.ofString "contains", params := (fnP (topSt 6)), body := FuncBody.stmts (fnB (topSt 6)), scope := (fnS (topSt 9)), globals := 0, closure := [], defaults := Value.none, kwdefaults := Value.none } } : Obj) ::
  ({ cls := Value.type "code", data := Data.fields #[Value.str (Str.ofString "contains") 229, Value.str (Str.ofString "contains") 230, Value.str (Str.ofString "/claim/cut.py") 231, Value.int 12 0, Value.int 2 0, Value.int 0 0, Value.int 0 0, Value.int 3 0, Value.ref 50, Value.bool true, Value.int 181 0, Value.ref 51, Value.none, Value.ref 52, Value.ref 53, Value.ref 54, Value.int 234 0, Value.int 12 0, Value.str (Str.ofString "/claim/cut.py") 235] } : Obj) ::
  ({ cls := Value.type "function", data := Data.func { name := Str.ofString "contains", qualname := Str.ofString "contains", params := (fnP (topSt 6)), body := FuncBody.stmts (fnB (topSt 6)), scope := (fnS (topSt 9)), globals := 3, closure := [], defaults := Value.none, kwdefaults := Value.none, pyModule := Value.str (Str.ofString "cpy313.operator") 187, code := Value.ref 55 } } : Obj) ::
  ({ cls := Value.type "tuple", data := Data.seq #[] } : Obj) ::
  ({ cls := Value.none, data := Data.fields #[] } : Obj) ::
  ({ cls := Value.type "tuple", data := Data.seq #[Value.str (Str.ofString "a") 240, Value.str (Str.ofString "b") 241, Value.str (Str.ofString "count") 242, Value.str (Str.ofString "i") 243] } : Obj) ::
  ({ cls := Value.type "tuple", data := Data.seq #[] } : Obj) ::
  ({ cls := Value.none, data := Data.func { name := Str.ofString "countOf", qualname := Str.ofString "countOf", params := (fnP (topSt 7)), body := FuncBody.stmts (fnB (topSt 7)), scope := (fnS (topSt 7)), globals := 0, closure := [], defaults := Value.none, kwdefaults := Value.none } } : Obj) ::
  ({ cls := Value.type "code", data := Data.fields #[Value.str (Str.ofString "countOf") 237, Value.str (Str.ofString "countOf") 238, Value.str (Str.ofString "/claim/cut.py") 239, Value.int 14 0, Value.int 2 0, Value.int 0 0, Value.int 0 0, Value.int 3 0, Value.ref 57, Value.bool true, Value.int 181 0, Value.ref 58, Value.none, Value.ref 59, Value.ref 60, Value.ref 61, Value.int 244 0, Value.int 14 0, Value.str (Str.ofString "/claim/cut.py") 245] } : Obj) ::
  ({ cls := Value.type "function", data := Data.func { name := Str.ofString "countOf", qualname := Str.ofString "countOf", params := (fnP (topSt 7)), body := FuncBody.stmts (fnB (topSt 7)), scope := (fnS (topSt 7)), globals := 3, closure := [], defaults := Value.none, kwdefaults := Value.none, pyModule := Value.str (Str.ofString "cpy313.operator") 187, code := Value.ref 62 } } : Obj) ::
  ({ cls := Value.type "tuple", data := Data.seq #[] } : Obj) ::
  ({ cls := Value.none, data := Data.fields #[] } : Obj) ::
  ({ cls := Value.type "tuple", data := Data.seq #[Value.str (Str.ofString "a") 250, Value.str (Str.ofString "b") 251, Value.str (Str.ofString "i") 252, Value.str (Str.ofString "j") 253] } : Obj) ::
  ({ cls := Value.type "tuple", data := Data.seq #[] } : Obj) ::
  ({ cls := Value.none, data := Data.func { name := Str.ofString "indexOf", qualname := Str.ofString "indexOf", params := (fnP (topSt 8)), body := FuncBody.stmts (fnB (topSt 8)), scope := (fnS (topSt 8)), globals := 0, closure := [], defaults := Value.none, kwdefaults := Value.none } } : Obj) ::
  ({ cls := Value.type "code", data := Data.fields #[Value.str (Str.ofString "indexOf") 247, Value.str (Str.ofString "indexOf") 248, Value.str (Str.ofString "/claim/cut.py") 249, Value.int 20 0, Value.int 2 0, Value.int 0 0, Value.int 0 0, Value.int 3 0, Value.ref 64, Value.bool true, Value.int 181 0, Value.ref 65, Value.none, Value.ref 66, Value.ref 67, Value.ref 68, Value.int 254 0, Value.int 20 0, Value.str (Str.ofString "/claim/cut.py") 255] } : Obj) ::
  ({ cls := Value.type "function", data := Data.func { name := Str.ofString "indexOf", qualname := Str.ofString "indexOf", params := (fnP (topSt 8)), body := FuncBody.stmts (fnB (topSt 8)), scope := (fnS (topSt 8)), globals := 3, closure := [], defaults := Value.none, kwdefaults := Value.none, pyModule := Value.str (Str.ofString "cpy313.operator") 187, code := Value.ref 69 } } : Obj) ::
  ({ cls := Value.type "tuple", data := Data.seq #[] } : Obj) ::
  ({ cls := Value.none, data := Data.fields #[] } : Obj) ::
  ({ cls := Value.type "tuple", data := Data.seq #[Value.str (Str.ofString "a") 260, Value.str (Str.ofString "b") 261] } : Obj) ::
  ({ cls := Value.type "tuple", data := Data.seq #[] } : Obj) ::
  ({ cls := Value.none, data := Data.func { name := Str.ofString "isub", qualname := Str.ofString "isub", params := (fnP (topSt 9)), body := FuncBody.stmts (fnB (topSt 9)), scope := (fnS (topSt 9)), globals := 0, closure := [], defaults := Value.none, kwdefaults := Value.none } } : Obj) ::
  ({ cls := Value.type "code", data := Data.fields #[Value.str (Str.ofString "isub") 257, Value.str (Str.ofString "isub") 258, Value.str (Str.ofString "/claim/cut.py") 259, Value.int 26 0, Value.int 2 0, Value.int 0 0, Value.int 0 0, Value.int 3 0, Value.ref 71, Value.bool true, Value.int 181 0, Value.ref 72, Value.none, Value.ref 73, Value.ref 74, Value.ref 75, Value.int 262 0, Value.int 26 0, Value.str (Str.ofString "/claim/cut.py") 263] } : Obj) ::
  ({ cls := Value.type "function", data := Data.func { name := Str.ofString "isub", qualname := Str.ofString "isub", params := (fnP (topSt 9)), body := FuncBody.stmts (fnB (topSt 9)), scope := (fnS (topSt 9)), globals := 3, closure := [], defaults := Value.none, kwdefaults := Value.none, pyModule := Value.str (Str.ofString "cpy313.operator") 187, code := Value.ref 76 } } : Obj) ::
  r
noncomputable def os2 (P : Params) (r : List Obj) : List Obj :=
  ({ cls := Value.type "tuple", data := Data.seq #[] } : Obj) ::
  ({ cls := Value.none, data := Data.fields #[] } : Obj) ::
  ({ cls := Value.type "tuple", data := Data.seq #[Value.str (Str.ofString "r") 282, Value.str (Str.ofString "g") 283, Value.str (Str.ofString "b") 284, Value.str (Str.ofString "maxc") 285, Value.str (Str.ofString "minc") 286, Value.str (Str.ofString "sumc") 287, Value.str (Str.ofString "rangec") 288, Value.str (Str.ofString "l") 289, Value.str (Str.ofString "s") 290, Value.str (Str.ofString "rc") 291, Value.str (Str.ofString "gc") 292, Value.str (Str.ofString "bc") 293, Value.str (Str.ofString "h") 294] } : Obj) ::
  ({ cls := Value.type "tuple", data := Data.seq #[] } : Obj) ::
  ({ cls := Value.none, data := Data.func { name := Str.ofString "rgb_to_hls", qualname := Str.ofString "rgb_to_hls", params := (fnP (topSt 14)), body := FuncBody.stmts (fnB (topSt 14)), scope := (fnS (topSt 14)), globals := 0, closure := [], defaults := Value.none, kwdefaults := Value.none } } : Obj) ::
  ({ cls := Value.type "code", data := Data.fields #[Value.str (Str.ofString "rgb_to_hls") 279, Value.str (Str.ofString "rgb_to_hls") 280, Value.str (Str.ofString "/claim/cut.py") 281, Value.int 33 0, Value.int 3 0, Value.int 0 0, Value.int 0 0, Value.int 3 0, Value.ref 78, Value.bool true, Value.int 181 0, Value.ref 79, Value.none, Value.ref 80, Value.ref 81, Value.ref 82, Value.int 295 0, Value.int 33 0, Value.str (Str.ofString "/claim/cut.py") 296] } : Obj) ::
  ({ cls := Value.type "function", data := Data.func { name := Str.ofString "rgb_to_hls", qualname := Str.ofString "rgb_to_hls", params := (fnP (topSt 14)), body := FuncBody.stmts (fnB (topSt 14)), scope := (fnS (topSt 14)), globals := 3, closure := [], defaults := Value.none, kwdefaults := Value.none, pyModule := Value.str (Str.ofString "cpy313.colorsys") 265, code := Value.ref 83 } } : Obj) ::
  ({ cls := Value.type "tuple", data := Data.seq #[] } : Obj) ::
  ({ cls := Value.none, data := Data.fields #[] } : Obj) ::
  ({ cls := Value.type "tuple", data := Data.seq #[Value.str (Str.ofString "h") 301, Value.str (Str.ofString "l") 302, Value.str (Str.ofString "s") 303, Value.str (Str.ofString "m2") 304, Value.str (Str.ofString "m1") 305] } : Obj) ::
  ({ cls := Value.type "tuple", data := Data.seq #[] } : Obj) ::
  ({ cls := Value.none, data := Data.func { name := Str.ofString "hls_to_rgb", qualname := Str.ofString "hls_to_rgb", params := (fnP (topSt 15)), body := FuncBody.stmts (fnB (topSt 15)), scope := (fnS (topSt 15)), globals := 0, closure := [], defaults := Value.none, kwdefaults := Value.none } } : Obj) ::
  ({ cls := Value.type "code", data := Data.fields #[Value.str (Str.ofString "hls_to_rgb") 298, Value.str (Str.ofString "hls_to_rgb") 299, Value.str (Str.ofString "/claim/cut.py") 300, Value.int 56 0, Value.int 3 0, Value.int 0 0, Value.int 0 0, Value.int 3 0, Value.ref 85, Value.bool true, Value.int 181 0, Value.ref 86, Value.none, Value.ref 87, Value.ref 88, Value.ref 89, Value.int 306 0, Value.int 56 0, Value.str (Str.ofString "/claim/cut.py") 307] } : Obj) ::
  ({ cls := Value.type "function", data := Data.func { name := Str.ofString "hls_to_rgb", qualname := Str.ofString "hls_to_rgb", params := (fnP (topSt 15)), body := FuncBody.stmts (fnB (topSt 15)), scope := (fnS (topSt 15)), globals := 3, closure := [], defaults := Value.none, kwdefaults := Value.none, pyModule := Value.str (Str.ofString "cpy313.colorsys") 265, code := Value.ref 90 } } : Obj) ::
  ({ cls := Value.type "tuple", data := Data.seq #[] } : Obj) ::
  ({ cls := Value.none, data := Data.fields #[] } : Obj) ::
  ({ cls := Value.type "tuple", data := Data.seq #[Value.str (Str.ofString "m1") 312, Value.str (Str.ofString "m2") 313, Value.str (Str.ofString "hue") 314] } : Obj) ::
  ({ cls := Value.type "tuple", data := Data.seq #[] } : Obj) ::
  ({ cls := Value.none, data := Data.func { name := Str.ofString "_v", qualname := Str.ofString "_v", params := (fnP (topSt 16)), body := FuncBody.stmts (fnB (topSt 16)), scope := (fnS (topSt 16)), globals := 0, closure := [], defaults := Value.none, kwdefaults := Value.none } } : Obj) ::
  ({ cls := Value.type "code", data := Data.fields #[Value.str (Str.ofString "_v") 309, Value.str (Str.ofString "_v") 310, Value.str (Str.ofString "/claim/cut.py") 311, Value.int 65 0, Value.int 3 0, Value.int 0 0, Value.int 0 0, Value.int 3 0, Value.ref 92, Value.bool true, Value.int 181 0, Value.ref 93, Value.none, Value.ref 94, Value.ref 95, Value.ref 96, Value.int 315 0, Value.int 65 0, Value.str (Str.ofString "/claim/cut.py") 316] } : Obj) ::
  ({ cls := Value.type "function", data := Data.func { name := Str.ofString "_v", qualname := Str.ofString "_v", params := (fnP (topSt 16)), body := FuncBody.stmts (fnB (topSt 16)), scope := (fnS (topSt 16)), globals := 3, closure := [], defaults := Value.none, kwdefaults := Value.none, pyModule := Value.str (Str.ofString "cpy313.colorsys") 265, code := Value.ref 97 } } : Obj) ::
  ({ cls := Value.type "tuple", data := Data.seq #[] } : Obj) ::
  ({ cls := Value.none, data := Data.fields #[] } : Obj) ::
  ({ cls := Value.type "tuple", data := Data.seq #[Value.str (Str.ofString "r") 321, Value.str (Str.ofString "g") 322, Value.str (Str.ofString "b") 323, Value.str (Str.ofString "maxc") 324, Value.str (Str.ofString "minc") 325, Value.str (Str.ofString "rangec") 326, Value.str (Str.ofString "v") 327, Value.str (Str.ofString "s") 328, Value.str (Str.ofString "rc") 329, Value.str (Str.ofString "gc") 330, Value.str (Str.ofString "bc") 331, Value.str (Str.ofString "h") 332] } : Obj) ::
  ({ cls := Value.type "tuple", data := Data.seq #[] } : Obj) ::
  ({ cls := Value.none, data := Data.func { name := Str.ofString "rgb_to_hsv", qualname := Str.ofString "rgb_to_hsv", params := (fnP (topSt 17)), body := FuncBody.stmts (fnB (topSt 17)), scope := (fnS (topSt 17)), globals := 0, closure := [], defaults := Value.none, kwdefaults := Value.none } } : Obj) ::
  ({ cls := Value.type "code", data := Data.fields #[Value.str (Str.ofString "rgb_to_hsv") 318, Value.str (Str.ofString "rgb_to_hsv") 319, Value.str (Str.ofString "/claim/cut.py") 320, Value.int 74 0, Value.int 3 0, Value.int 0 0, Value.int 0 0, Value.int 3 0, Value.ref 99, Value.bool true, Value.int 181 0, Value.ref 100, Value.none, Value.ref 101, Value.ref 102, Value.ref 103, Value.int 333 0, Value.int 74 0, Value.str (Str.ofString "/claim/cut.py") 334] } : Obj) ::
  ({ cls := Value.type "function", data := Data.func { name := Str.ofString "rgb_to_hsv", qualname := Str.ofString "rgb_to_hsv", params := (fnP (topSt 17)), body := FuncBody.stmts (fnB (topSt 17)), scope := (fnS (topSt 17)), globals := 3, closure := [], defaults := Value.none, kwdefaults := Value.none, pyModule := Value.str (Str.ofString "cpy313.colorsys") 265, code := Value.ref 104 } } : Obj) ::
  ({ cls := Value.type "tuple", data := Data.seq #[] } : Obj) ::
  ({ cls := Value.none, data := Data.fields #[] } : Obj) ::
  ({ cls := Value.type "tuple", data := Data.seq #[Value.str (Str.ofString "h") 339, Value.str (Str.ofString "s") 340, Value.str (Str.ofString "v") 341, Value.str (Str.ofString "i") 342, Value.str (Str.ofString "f") 343, Value.str (Str.ofString "p") 344, Value.str (Str.ofString "q") 345, Value.str (Str.ofString "t") 346] } : Obj) ::
  ({ cls := Value.type "tuple", data := Data.seq #[] } : Obj) ::
  ({ cls := Value.none, data := Data.func { name := Str.ofString "hsv_to_rgb", qualname := Str.ofString "hsv_to_rgb", params := (fnP (topSt 18)), body := FuncBody.stmts (fnB (topSt 18)), scope := (fnS (topSt 18)), globals := 0, closure := [], defaults := Value.none, kwdefaults := Value.none } } : Obj) ::
  ({ cls := Value.type "code", data := Data.fields #[Value.str (Str.ofString "hsv_to_rgb") 336, Value.str (Str.ofString "hsv_to_rgb") 337, Value.str (Str.ofString "/claim/cut.py") 338, Value.int 93 0, Value.int 3 0, Value.int 0 0, Value.int 0 0, Value.int 3 0, Value.ref 106, Value.bool true, Value.int 181 0, Value.ref 107, Value.none, Value.ref 108, Value.ref 109, Value.ref 110, Value.int 347 0, Value.int 93 0, Value.str (Str.ofString "/claim/cut.py") 348] } : Obj) ::
  ({ cls := Value.type "function", data := Data.func { name := Str.ofString "hsv_to_rgb", qualname := Str.ofString "hsv_to_rgb", params := (fnP (topSt 18)), body := FuncBody.stmts (fnB (topSt 18)), scope := (fnS (topSt 18)), globals := 3, closure := [], defaults := Value.none, kwdefaults := Value.none, pyModule := Value.str (Str.ofString "cpy313.colorsys") 265, code := Value.ref 111 } } : Obj) ::
  r
noncomputable def os3 (P : Params) (r : List Obj) : List Obj :=
  ({ cls := Value.type "tuple", data := Data.seq #[] } : Obj) ::
  ({ cls := Value.type "builtin_function_or_method", data := Data.fields #[Value.builtin "type.__prepare__", Value.type "type"] } : Obj) ::
  ({ cls := Value.type "dict", data := Data.dict #[{ hash := PyData.keyHash P (Str.ofString "__module__"), key := Value.str (Str.ofString "__module__") 359, val := Value.str (Str.ofString "cpy313.xml.etree.ElementTree") 350 }, { hash := PyData.keyHash P (Str.ofString "__qualname__"), key := Value.str (Str.ofString "__qualname__") 361, val := Value.str (Str.ofString "QName") 360 }, { hash := PyData.keyHash P (Str.ofString "__firstlineno__"), key := Value.str (Str.ofString "__firstlineno__") 363, val := Value.int 115 362 }, { hash := PyData.keyHash P (Str.ofString "__init__"), key := Value.str (Str.ofString "__init__") 372, val := Value.ref 127 }, { hash := PyData.keyHash P (Str.ofString "__str__"), key := Value.str (Str.ofString "__str__") 379, val := Value.ref 134 }, { hash := PyData.keyHash P (Str.ofString "__repr__"), key := Value.str (Str.ofString "__repr__") 386, val := Value.ref 141 }, { hash := PyData.keyHash P (Str.ofString "__hash__"), key := Value.str (Str.ofString "__hash__") 393, val := Value.ref 148 }, { hash := PyData.keyHash P (Str.ofString "__le__"), key := Value.str (Str.ofString "__le__") 401, val := Value.ref 155 }, { hash := PyData.keyHash P (Str.ofString "__lt__"), key := Value.str (Str.ofString "__lt__") 409, val := Value.ref 162 }, { hash := PyData.keyHash P (Str.ofString "__ge__"), key := Value.str (Str.ofString "__ge__") 417, val := Value.ref 169 }, { hash := PyData.keyHash P (Str.ofString "__gt__"), key := Value.str (Str.ofString "__gt__") 425, val := Value.ref 176 }, { hash := PyData.keyHash P (Str.ofString "__eq__"), key := Value.str (Str.ofString "__eq__") 433, val := Value.ref 183 }, { hash := PyData.keyHash P (Str.ofString "__static_attributes__"), key := Value.str (Str.ofString "__static_attributes__") 435, val := Value.ref 184 }] 13 } : Obj) ::
  ({ cls := Value.type "tuple", data := Data.seq #[] } : Obj) ::
  ({ cls := Value.none, data := Data.fields #[Value.int 117 0, Value.int 4 0, Value.ref 126, Value.int 122 0, Value.int 4 0, Value.ref 133, Value.int 125 0, Value.int 4 0, Value.ref 140, Value.int 128 0, Value.int 4 0, Value.ref 147, Value.int 131 0, Value.int 4 0, Value.ref 154, Value.int 136 0, Value.int 4 0, Value.ref 161, Value.int 141 0, Value.int 4 0, Value.ref 168, Value.int 146 0, Value.int 4 0, Value.ref 175, Value.int 151 0, Value.int 4 0, Value.ref 182] } : Obj) ::
  ({ cls := Value.type "code", data := Data.fields #[Value.str (Str.ofString "QName") 354, Value.str (Str.ofString "QName") 355, Value.str (Str.ofString "/claim/cut.py") 356, Value.int 115 0, Value.int 0 0, Value.int 0 0, Value.int 0 0, Value.int 0 0, Value.ref 116, Value.bool false, Value.int 181 0, Value.ref 117, Value.none, Value.none, Value.none, Value.none, Value.int 357 0, Value.int 115 0, Value.str (Str.ofString "/claim/cut.py") 358] } : Obj) ::
  ({ cls := Value.type "frame", slots := #[some (Value.ref 118), some (Value.ref 3), some (Value.ref 115), none, some (Value.str (Str.ofString "cpy313.xml.etree.ElementTree") 350), none, some (Value.ref 0)] } : Obj) ::
  ({ cls := Value.type "tuple", data := Data.seq #[Value.none] } : Obj) ::
  ({ cls := Value.type "tuple", data := Data.seq #[] } : Obj) ::
  ({ cls := Value.none, data := Data.fields #[] } : Obj) ::
  ({ cls := Value.type "tuple", data := Data.seq #[Value.str (Str.ofString "self") 367, Value.str (Str.ofString "text_or_uri") 368, Value.str (Str.ofString "tag") 369] } : Obj) ::
  ({ cls := Value.type "tuple", data := Data.seq #[] } : Obj) ::
  ({ cls := Value.none, data := Data.func { name := Str.ofString "__init__", qualname := Str.ofString "QName.__init__", params := (fnP (clsSt 20 0)), body := FuncBody.stmts (fnB (clsSt 20 0)), scope := (fnS (clsSt 20 0)), globals := 0, closure := [], defaults := Value.none, kwdefaults := Value.none } } : Obj) ::
  ({ cls := Value.type "code", data := Data.fields #[Value.str (Str.ofString "__init__") 364, Value.str (Str.ofString "QName.__init__") 365, Value.str (Str.ofString "/claim/cut.py") 366, Value.int 117 0, Value.int 3 0, Value.int 0 0, Value.int 0 0, Value.int 3 0, Value.ref 121, Value.bool true, Value.int 181 0, Value.ref 122, Value.none, Value.ref 123, Value.ref 124, Value.ref 125, Value.int 370 0, Value.int 117 0, Value.str (Str.ofString "/claim/cut.py") 371] } : Obj) ::
  ({ cls := Value.type "function", data := Data.func { name := Str.ofString "__init__", qualname := Str.ofString "QName.__init__", params := (fnP (clsSt 20 0)), body := FuncBody.stmts (fnB (clsSt 20 0)), scope := (fnS (clsSt 20 0)), globals := 3, closure := [], defaults := Value.ref 120, kwdefaults := Value.none, pyModule := Value.str (Str.ofString "cpy313.xml.etree.ElementTree") 350, code := Value.ref 126 } } : Obj) ::
  ({ cls := Value.type "tuple", data := Data.seq #[] } : Obj) ::
  ({ cls := Value.none, data := Data.fields #[] } : Obj) ::
  ({ cls := Value.type "tuple", data := Data.seq #[Value.str (Str.ofString "self") 376] } : Obj) ::
  ({ cls := Value.type "tuple", data := Data.seq #[] } : Obj) ::
  ({ cls := Value.none, data := Data.func { name := Str.ofString "__str__", qualname := Str.ofString "QName.__str__", params := (fnP (clsSt 20 1)), body := FuncBody.stmts (fnB (clsSt 20 1)), scope := (fnS (clsSt 20 2)), globals := 0, closure := [], defaults := Value.none, kwdefaults := Value.none } } : Obj) ::
  ({ cls := Value.type "code", data := Data.fields #[Value.str (Str.ofString "__str__") 373, Value.str (Str.ofString "QName.__str__") 374, Value.str (Str.ofString "/claim/cut.py") 375, Value.int 122 0, Value.int 1 0, Value.int 0 0, Value.int 0 0, Value.int 3 0, Value.ref 128, Value.bool true, Value.int 181 0, Value.ref 129, Value.none, Value.ref 130, Value.ref 131, Value.ref 132, Value.int 377 0, Value.int 122 0, Value.str (Str.ofString "/claim/cut.py") 378] } : Obj) ::
  ({ cls := Value.type "function", data := Data.func { name := Str.ofString "__str__", qualname := Str.ofString "QName.__str__", params := (fnP (clsSt 20 1)), body := FuncBody.stmts (fnB (clsSt 20 1)), scope := (fnS (clsSt 20 2)), globals := 3, closure := [], defaults := Value.none, kwdefaults := Value.none, pyModule := Value.str (Str.ofString "cpy313.xml.etree.ElementTree") 350, code := Value.ref 133 } } : Obj) ::
  ({ cls := Value.type "tuple", data := Data.seq #[] } : Obj) ::
  ({ cls := Value.none, data := Data.fields #[] } : Obj) ::
  ({ cls := Value.type "tuple", data := Data.seq #[Value.str (Str.ofString "self") 383] } : Obj) ::
  ({ cls := Value.type "tuple", data := Data.seq #[] } : Obj) ::
  ({ cls := Value.none, data := Data.func { name := Str.ofString "__repr__", qualname := Str.ofString "QName.__repr__", params := (fnP (clsSt 20 2)), body := FuncBody.stmts (fnB (clsSt 20 2)), scope := (fnS (clsSt 20 2)), globals := 0, closure := [], defaults := Value.none, kwdefaults := Value.none } } : Obj) ::
  ({ cls := Value.type "code", data := Data.fields #[Value.str (Str.ofString "__repr__") 380, Value.str (Str.ofString "QName.__repr__") 381, Value.str (Str.ofString "/claim/cut.py") 382, Value.int 125 0, Value.int 1 0, Value.int 0 0, Value.int 0 0, Value.int 3 0, Value.ref 135, Value.bool true, Value.int 181 0, Value.ref 136, Value.none, Value.ref 137, Value.ref 138, Value.ref 139, Value.int 384 0, Value.int 125 0, Value.str (Str.ofString "/claim/cut.py") 385] } : Obj) ::
  ({ cls := Value.type "function", data := Data.func { name := Str.ofString "__repr__", qualname := Str.ofString "QName.__repr__", params := (fnP (clsSt 20 2)), body := FuncBody.stmts (fnB (clsSt 20 2)), scope := (fnS (clsSt 20 2)), globals := 3, closure := [], defaults := Value.none, kwdefaults := Value.none, pyModule := Value.str (Str.ofString "cpy313.xml.etree.ElementTree") 350, code := Value.ref 140 } } : Obj) ::
  ({ cls := Value.type "tuple", data := Data.seq #[] } : Obj) ::
  ({ cls := Value.none, data := Data.fields #[] } : Obj) ::
  ({ cls := Value.type "tuple", data := Data.seq #[Value.str (Str.ofString "self") 390] } : Obj) ::
  ({ cls := Value.type "tuple", data := Data.seq #[] } : Obj) ::
  ({ cls := Value.none, data := Data.func { name := Str.ofString "__hash__", qualname := Str.ofString "QName.__hash__", params := (fnP (clsSt 20 3)), body := FuncBody.stmts (fnB (clsSt 20 3)), scope := (fnS (clsSt 20 3)), globals := 0, closure := [], defaults := Value.none, kwdefaults := Value.none } } : Obj) ::
  ({ cls := Value.type "code", data := Data.fields #[Value.str (Str.ofString "__hash__") 387, Value.str (Str.ofString "QName.__hash__") 388, Value.str (Str.ofString "/claim/cut.py") 389, Value.int 128 0, Value.int 1 0, Value.int 0 0, Value.int 0 0, Value.int 3 0, Value.ref 142, Value.bool true, Value.int 181 0, Value.ref 143, Value.none, Value.ref 144, Value.ref 145, Value.ref 146, Value.int 391 0, Value.int 128 0, Value.str (Str.ofString "/claim/cut.py") 392] } : Obj) ::
  ({ cls := Value.type "function", data := Data.func { name := Str.ofString "__hash__", qualname := Str.ofString "QName.__hash__", params := (fnP (clsSt 20 3)), body := FuncBody.stmts (fnB (clsSt 20 3)), scope := (fnS (clsSt 20 3)), globals := 3, closure := [], defaults := Value.none, kwdefaults := Value.none, pyModule := Value.str (Str.ofString "cpy313.xml.etree.ElementTree") 350, code := Value.ref 147 } } : Obj) ::
  ({ cls := Value.type "tuple", data := Data.seq #[] } : Obj) ::
  ({ cls := Value.none, data := Data.fields #[] } : Obj) ::
  ({ cls := Value.type "tuple", data := Data.seq #[Value.str (Str.ofString "self") 397, Value.str (Str.ofString "other") 398] } : Obj) ::
  ({ cls := Value.type "tuple", data := Data.seq #[] } : Obj) ::
  ({ cls := Value.none, data := Data.func { name := Str.ofString "__le__", qualname := Str.ofString "QName.__le__", params := (fnP (clsSt 20 4)), body := FuncBody.stmts (fnB (clsSt 20 4)), scope := (fnS (clsSt 20 8)), globals := 0, closure := [], defaults := Value.none, kwdefaults := Value.none } } : Obj) ::
  ({ cls := Value.type "code", data := Data.fields #[Value.str (Str.ofString "__le__") 394, Value.str (Str.ofString "QName.__le__") 395, Value.str (Str.ofString "/claim/cut.py") 396, Value.int 131 0, Value.int 2 0, Value.int 0 0, Value.int 0 0, Value.int 3 0, Value.ref 149, Value.bool true, Value.int 181 0, Value.ref 150, Value.none, Value.ref 151, Value.ref 152, Value.ref 153, Value.int 399 0, Value.int 131 0, Value.str (Str.ofString "/claim/cut.py") 400] } : Obj) ::
  ({ cls := Value.type "function", data := Data.func { name := Str.ofString "__le__", qualname := Str.ofString "QName.__le__", params := (fnP (clsSt 20 4)), body := FuncBody.stmts (fnB (clsSt 20 4)), scope := (fnS (clsSt 20 8)), globals := 3, closure := [], defaults := Value.none, kwdefaults := Value.none, pyModule := Value.str (Str.ofString "cpy313.xml.etree.ElementTree") 350, code := Value.ref 154 } } : Obj) ::
  ({ cls := Value.type "tuple", data := Data.seq #[] } : Obj) ::
  ({ cls := Value.none, data := Data.fields #[] } : Obj) ::
  ({ cls := Value.type "tuple", data := Data.seq #[Value.str (Str.ofString "self") 405, Value.str (Str.ofString "other") 406] } : Obj) ::
  ({ cls := Value.type "tuple", data := Data.seq #[] } : Obj) ::
  ({ cls := Value.none, data := Data.func { name := Str.ofString "__lt__", qualname := Str.ofString "QName.__lt__", params := (fnP (clsSt 20 5)), body := FuncBody.stmts (fnB (clsSt 20 5)), scope := (fnS (clsSt 20 8)), globals := 0, closure := [], defaults := Value.none, kwdefaults := Value.none } } : Obj) ::
  ({ cls := Value.type "code", data := Data.fields #[Value.str (Str.ofString "__lt__") 402, Value.str (Str.ofString "QName.__lt__") 403, Value.str (Str.ofString "/claim/cut.py") 404, Value.int 136 0, Value.int 2 0, Value.int 0 0, Value.int 0 0, Value.int 3 0, Value.ref 156, Value.bool true, Value.int 181 0, Value.ref 157, Value.none, Value.ref 158, Value.ref 159, Value.ref 160, Value.int 407 0, Value.int 136 0, Value.str (Str.ofString "/claim/cut.py") 408] } : Obj) ::
  ({ cls := Value.type "function", data := Data.func { name := Str.ofString "__lt__", qualname := Str.ofString "QName.__lt__", params := (fnP (clsSt 20 5)), body := FuncBody.stmts (fnB (clsSt 20 5)), scope := (fnS (clsSt 20 8)), globals := 3, closure := [], defaults := Value.none, kwdefaults := Value.none, pyModule := Value.str (Str.ofString "cpy313.xml.etree.ElementTree") 350, code := Value.ref 161 } } : Obj) ::
  ({ cls := Value.type "tuple", data := Data.seq #[] } : Obj) ::
  ({ cls := Value.none, data := Data.fields #[] } : Obj) ::
  ({ cls := Value.type "tuple", data := Data.seq #[Value.str (Str.ofString "self") 413, Value.str (Str.ofString "other") 414] } : Obj) ::
  ({ cls := Value.type "tuple", data := Data.seq #[] } : Obj) ::
  ({ cls := Value.none, data := Data.func { name := Str.ofString "__ge__", qualname := Str.ofString "QName.__ge__", params := (fnP (clsSt 20 6)), body := FuncBody.stmts (fnB (clsSt 20 6)), scope := (fnS (clsSt 20 8)), globals := 0, closure := [], defaults := Value.none, kwdefaults := Value.none } } : Obj) ::
  ({ cls := Value.type "code", data := Data.fields #[Value.str (Str.ofString "__ge__") 410, Value.str (Str.ofString "QName.__ge__") 411, Value.str (Str.ofString "/claim/cut.py") 412, Value.int 141 0, Value.int 2 0, Value.int 0 0, Value.int 0 0, Value.int 3 0, Value.ref 163, Value.bool true, Value.int 181 0, Value.ref 164, Value.none, Value.ref 165, Value.ref 166, Value.ref 167, Value.int 415 0, Value.int 141 0, Value.str (Str.ofString "/claim/cut.py") 416] } : Obj) ::
  ({ cls := Value.type "function", data := Data.func { name := Str.ofString "__ge__", qualname := Str.ofString "QName.__ge__", params := (fnP (clsSt 20 6)), body := FuncBody.stmts (fnB (clsSt 20 6)), scope := (fnS (clsSt 20 8)), globals := 3, closure := [], defaults := Value.none, kwdefaults := Value.none, pyModule := Value.str (Str.ofString "cpy313.xml.etree.ElementTree") 350, code := Value.ref 168 } } : Obj) ::
  ({ cls := Value.type "tuple", data := Data.seq #[] } : Obj) ::
  ({ cls := Value.none, data := Data.fields #[] } : Obj) ::
  ({ cls := Value.type "tuple", data := Data.seq #[Value.str (Str.ofString "self") 421, Value.str (Str.ofString "other") 422] } : Obj) ::
  ({ cls := Value.type "tuple", data := Data.seq #[] } : Obj) ::
  ({ cls := Value.none, data := Data.func { name := Str.ofString "__gt__", qualname := Str.ofString "QName.__gt__", params := (fnP (clsSt 20 7)), body := FuncBody.stmts (fnB (clsSt 20 7)), scope := (fnS (clsSt 20 8)), globals := 0, closure := [], defaults := Value.none, kwdefaults := Value.none } } : Obj) ::
  ({ cls := Value.type "code", data := Data.fields #[Value.str (Str.ofString "__gt__") 418, Value.str (Str.ofString "QName.__gt__") 419, Value.str (Str.ofString "/claim/cut.py") 420, Value.int 146 0, Value.int 2 0, Value.int 0 0, Value.int 0 0, Value.int 3 0, Value.ref 170, Value.bool true, Value.int 181 0, Value.ref 171, Value.none, Value.ref 172, Value.ref 173, Value.ref 174, Value.int 423 0, Value.int 146 0, Value.str (Str.ofString "/claim/cut.py") 424] } : Obj) ::
  ({ cls := Value.type "function", data := Data.func { name := Str.ofString "__gt__", qualname := Str.ofString "QName.__gt__", params := (fnP (clsSt 20 7)), body := FuncBody.stmts (fnB (clsSt 20 7)), scope := (fnS (clsSt 20 8)), globals := 3, closure := [], defaults := Value.none, kwdefaults := Value.none, pyModule := Value.str (Str.ofString "cpy313.xml.etree.ElementTree") 350, code := Value.ref 175 } } : Obj) ::
  ({ cls := Value.type "tuple", data := Data.seq #[] } : Obj) ::
  ({ cls := Value.none, data := Data.fields #[] } : Obj) ::
  ({ cls := Value.type "tuple", data := Data.seq #[Value.str (Str.ofString "self") 429, Value.str (Str.ofString "other") 430] } : Obj) ::
  ({ cls := Value.type "tuple", data := Data.seq #[] } : Obj) ::
  ({ cls := Value.none, data := Data.func { name := Str.ofString "__eq__", qualname := Str.ofString "QName.__eq__", params := (fnP (clsSt 20 8)), body := FuncBody.stmts (fnB (clsSt 20 8)), scope := (fnS (clsSt 20 8)), globals := 0, closure := [], defaults := Value.none, kwdefaults := Value.none } } : Obj) ::
  ({ cls := Value.type "code", data := Data.fields #[Value.str (Str.ofString "__eq__") 426, Value.str (Str.ofString "QName.__eq__") 427, Value.str (Str.ofString "/claim/cut.py") 428, Value.int 151 0, Value.int 2 0, Value.int 0 0, Value.int 0 0, Value.int 3 0, Value.ref 177, Value.bool true, Value.int 181 0, Value.ref 178, Value.none, Value.ref 179, Value.ref 180, Value.ref 181, Value.int 431 0, Value.int 151 0, Value.str (Str.ofString "/claim/cut.py") 432] } : Obj) ::
  ({ cls := Value.type "function", data := Data.func { name := Str.ofString "__eq__", qualname := Str.ofString "QName.__eq__", params := (fnP (clsSt 20 8)), body := FuncBody.stmts (fnB (clsSt 20 8)), scope := (fnS (clsSt 20 8)), globals := 3, closure := [], defaults := Value.none, kwdefaults := Value.none, pyModule := Value.str (Str.ofString "cpy313.xml.etree.ElementTree") 350, code := Value.ref 182 } } : Obj) ::
  ({ cls := Value.type "tuple", data := Data.seq #[Value.str (Str.ofString "text") 434] } : Obj) ::
  ({ cls := Value.type "dict", data := Data.dict #[{ hash := PyData.keyHash P (Str.ofString "__module__"), key := Value.str (Str.ofString "__module__") 359, val := Value.str (Str.ofString "cpy313.xml.etree.ElementTree") 350 }, { hash := PyData.keyHash P (Str.ofString "__firstlineno__"), key := Value.str (Str.ofString "__firstlineno__") 363, val := Value.int 115 362 }, { hash := PyData.keyHash P (Str.ofString "__init__"), key := Value.str (Str.ofString "__init__") 372, val := Value.ref 127 }, { hash := PyData.keyHash P (Str.ofString "__str__"), key := Value.str (Str.ofString "__str__") 379, val := Value.ref 134 }, { hash := PyData.keyHash P (Str.ofString "__repr__"), key := Value.str (Str.ofString "__repr__") 386, val := Value.ref 141 }, { hash := PyData.keyHash P (Str.ofString "__hash__"), key := Value.str (Str.ofString "__hash__") 393, val := Value.ref 148 }, { hash := PyData.keyHash P (Str.ofString "__le__"), key := Value.str (Str.ofString "__le__") 401, val := Value.ref 155 }, { hash := PyData.keyHash P (Str.ofString "__lt__"), key := Value.str (Str.ofString "__lt__") 409, val := Value.ref 162 }, { hash := PyData.keyHash P (Str.ofString "__ge__"), key := Value.str (Str.ofString "__ge__") 417, val := Value.ref 169 }, { hash := PyData.keyHash P (Str.ofString "__gt__"), key := Value.str (Str.ofString "__gt__") 425, val := Value.ref 176 }, { hash := PyData.keyHash P (Str.ofString "__eq__"), key := Value.str (Str.ofString "__eq__") 433, val := Value.ref 183 }, { hash := PyData.keyHash P (Str.ofString "__static_attributes__"), key := Value.str (Str.ofString "__static_attributes__") 435, val := Value.ref 184 }, { hash := PyData.keyHash P (Str.ofString "__dict__"), key := Value.str (Str.ofString "__dict__") 437, val := Value.ref 187 }, { hash := PyData.keyHash P (Str.ofString "__weakref__"), key := Value.str (Str.ofString "__weakref__") 439, val := Value.ref 188 }, { hash := PyData.keyHash P (Str.ofString "__doc__"), key := Value.str (Str.ofString "__doc__") 440, val := Value.none }] 4 } : Obj) ::
  ({ cls := Value.type "type", data := Data.cls { name := Str.ofString "QName", bases := [Value.type "object"], mro := [Value.ref 186, Value.type "object"], ns := 185, qualname := Str.ofString "QName" }, slots := #[none, none, some (Value.str (Str.ofString "QName") 352), some (Value.str (Str.ofString "QName") 360), some (Value.builtin "object.__new__"), some (Value.bool true)] } : Obj) ::
  ({ cls := Value.type "getset_descriptor", data := Data.fields #[Value.str (Str.ofString "__dict__") 436, Value.ref 186, Value.builtin "function.__dict__", Value.builtin "function.__dict__#set"] } : Obj) ::
  ({ cls := Value.type "getset_descriptor", data := Data.fields #[Value.str (Str.ofString "__weakref__") 438, Value.ref 186, Value.builtin "ExceptionGroup.__weakref__", Value.none] } : Obj) ::
  ({ cls := Value.type "super", data := Data.fields #[Value.ref 186, Value.ref 186, Value.ref 186] } : Obj) ::
  ({ cls := Value.type "builtin_function_or_method", data := Data.fields #[Value.builtin "object.__init_subclass__", Value.ref 186] } : Obj) ::
  r
noncomputable def os4 (P : Params) (r : List Obj) : List Obj :=
  ({ cls := Value.type "tuple", data := Data.seq #[] } : Obj) ::
  ({ cls := Value.none, data := Data.fields #[] } : Obj) ::
  ({ cls := Value.type "tuple", data := Data.seq #[Value.str (Str.ofString "script") 448, Value.str (Str.ofString "cells") 449, Value.str (Str.ofString "k") 450] } : Obj) ::
  ({ cls := Value.type "tuple", data := Data.seq #[] } : Obj) ::
  ({ cls := Value.none, data := Data.func { name := Str.ofString "_law_cells", qualname := Str.ofString "_law_cells", params := (fnP (topSt 22)), body := FuncBody.stmts (fnB (topSt 22)), scope := (fnS (topSt 22)), globals := 0, closure := [], defaults := Value.none, kwdefaults := Value.none } } : Obj) ::
  ({ cls := Value.type "code", data := Data.fields #[Value.str (Str.ofString "_law_cells") 445, Value.str (Str.ofString "_law_cells") 446, Value.str (Str.ofString "/claim/cut.py") 447, Value.int 156 0, Value.int 1 0, Value.int 0 0, Value.int 0 0, Value.int 3 0, Value.ref 191, Value.bool true, Value.int 181 0, Value.ref 192, Value.none, Value.ref 193, Value.ref 194, Value.ref 195, Value.int 451 0, Value.int 156 0, Value.str (Str.ofString "/claim/cut.py") 452] } : Obj) ::
  ({ cls := Value.type "function", data := Data.func { name := Str.ofString "_law_cells", qualname := Str.ofString "_law_cells", params := (fnP (topSt 22)), body := FuncBody.stmts (fnB (topSt 22)), scope := (fnS (topSt 22)), globals := 3, closure := [], defaults := Value.none, kwdefaults := Value.none, pyModule := Value.str (Str.ofString "law_wu0061_01") 443, code := Value.ref 196 } } : Obj) ::
  ({ cls := Value.type "tuple", data := Data.seq #[] } : Obj) ::
  ({ cls := Value.none, data := Data.fields #[] } : Obj) ::
  ({ cls := Value.type "tuple", data := Data.seq #[Value.str (Str.ofString "deed") 457, Value.str (Str.ofString "form") 458, Value.str (Str.ofString "space") 459, Value.str (Str.ofString "word") 460] } : Obj) ::
  ({ cls := Value.type "tuple", data := Data.seq #[] } : Obj) ::
  ({ cls := Value.none, data := Data.func { name := Str.ofString "_law_name", qualname := Str.ofString "_law_name", params := (fnP (topSt 23)), body := FuncBody.stmts (fnB (topSt 23)), scope := (fnS (topSt 23)), globals := 0, closure := [], defaults := Value.none, kwdefaults := Value.none } } : Obj) ::
  ({ cls := Value.type "code", data := Data.fields #[Value.str (Str.ofString "_law_name") 454, Value.str (Str.ofString "_law_name") 455, Value.str (Str.ofString "/claim/cut.py") 456, Value.int 161 0, Value.int 2 0, Value.int 0 0, Value.int 0 0, Value.int 3 0, Value.ref 198, Value.bool true, Value.int 181 0, Value.ref 199, Value.none, Value.ref 200, Value.ref 201, Value.ref 202, Value.int 461 0, Value.int 161 0, Value.str (Str.ofString "/claim/cut.py") 462] } : Obj) ::
  ({ cls := Value.type "function", data := Data.func { name := Str.ofString "_law_name", qualname := Str.ofString "_law_name", params := (fnP (topSt 23)), body := FuncBody.stmts (fnB (topSt 23)), scope := (fnS (topSt 23)), globals := 3, closure := [], defaults := Value.none, kwdefaults := Value.none, pyModule := Value.str (Str.ofString "law_wu0061_01") 443, code := Value.ref 203 } } : Obj) ::
  ({ cls := Value.type "tuple", data := Data.seq #[] } : Obj) ::
  ({ cls := Value.none, data := Data.fields #[] } : Obj) ::
  ({ cls := Value.type "tuple", data := Data.seq #[Value.str (Str.ofString "place") 467, Value.str (Str.ofString "deed") 468, Value.str (Str.ofString "red") 469, Value.str (Str.ofString "green") 470, Value.str (Str.ofString "blue") 471, Value.str (Str.ofString "both") 472] } : Obj) ::
  ({ cls := Value.type "tuple", data := Data.seq #[] } : Obj) ::
  ({ cls := Value.none, data := Data.func { name := Str.ofString "_law_next", qualname := Str.ofString "_law_next", params := (fnP (topSt 24)), body := FuncBody.stmts (fnB (topSt 24)), scope := (fnS (topSt 24)), globals := 0, closure := [], defaults := Value.none, kwdefaults := Value.none } } : Obj) ::
  ({ cls := Value.type "code", data := Data.fields #[Value.str (Str.ofString "_law_next") 464, Value.str (Str.ofString "_law_next") 465, Value.str (Str.ofString "/claim/cut.py") 466, Value.int 171 0, Value.int 2 0, Value.int 0 0, Value.int 0 0, Value.int 3 0, Value.ref 205, Value.bool true, Value.int 181 0, Value.ref 206, Value.none, Value.ref 207, Value.ref 208, Value.ref 209, Value.int 473 0, Value.int 171 0, Value.str (Str.ofString "/claim/cut.py") 474] } : Obj) ::
  ({ cls := Value.type "function", data := Data.func { name := Str.ofString "_law_next", qualname := Str.ofString "_law_next", params := (fnP (topSt 24)), body := FuncBody.stmts (fnB (topSt 24)), scope := (fnS (topSt 24)), globals := 3, closure := [], defaults := Value.none, kwdefaults := Value.none, pyModule := Value.str (Str.ofString "law_wu0061_01") 443, code := Value.ref 210 } } : Obj) ::
  ({ cls := Value.type "tuple", data := Data.seq #[] } : Obj) ::
  ({ cls := Value.none, data := Data.fields #[] } : Obj) ::
  ({ cls := Value.none, data := Data.func { name := Str.ofString "_law_home", qualname := Str.ofString "_law_home", params := (fnP (topSt 25)), body := FuncBody.stmts (fnB (topSt 25)), scope := (fnS (topSt 25)), globals := 0, closure := [], defaults := Value.none, kwdefaults := Value.none } } : Obj) ::
  ({ cls := Value.type "code", data := Data.fields #[Value.str (Str.ofString "_law_home") 476, Value.str (Str.ofString "_law_home") 477, Value.str (Str.ofString "/claim/cut.py") 478, Value.int 179 0, Value.int 1 0, Value.int 0 0, Value.int 0 0, Value.int 3 0, Value.ref 212, Value.bool true, Value.int 181 0, Value.ref 213, Value.none, Value.none, Value.none, Value.ref 214, Value.int 479 0, Value.int 179 0, Value.str (Str.ofString "/claim/cut.py") 480] } : Obj) ::
  ({ cls := Value.type "function", data := Data.func { name := Str.ofString "_law_home", qualname := Str.ofString "_law_home", params := (fnP (topSt 25)), body := FuncBody.stmts (fnB (topSt 25)), scope := (fnS (topSt 25)), globals := 3, closure := [], defaults := Value.none, kwdefaults := Value.none, pyModule := Value.str (Str.ofString "law_wu0061_01") 443, code := Value.ref 215 } } : Obj) ::
  ({ cls := Value.type "tuple", data := Data.seq #[] } : Obj) ::
  ({ cls := Value.none, data := Data.fields #[] } : Obj) ::
  ({ cls := Value.none, data := Data.func { name := Str.ofString "_law_led", qualname := Str.ofString "_law_led", params := (fnP (topSt 26)), body := FuncBody.stmts (fnB (topSt 26)), scope := (fnS (topSt 26)), globals := 0, closure := [], defaults := Value.none, kwdefaults := Value.none } } : Obj) ::
  ({ cls := Value.type "code", data := Data.fields #[Value.str (Str.ofString "_law_led") 482, Value.str (Str.ofString "_law_led") 483, Value.str (Str.ofString "/claim/cut.py") 484, Value.int 184 0, Value.int 3 0, Value.int 0 0, Value.int 0 0, Value.int 3 0, Value.ref 217, Value.bool true, Value.int 181 0, Value.ref 218, Value.none, Value.none, Value.none, Value.ref 219, Value.int 485 0, Value.int 184 0, Value.str (Str.ofString "/claim/cut.py") 486] } : Obj) ::
  ({ cls := Value.type "function", data := Data.func { name := Str.ofString "_law_led", qualname := Str.ofString "_law_led", params := (fnP (topSt 26)), body := FuncBody.stmts (fnB (topSt 26)), scope := (fnS (topSt 26)), globals := 3, closure := [], defaults := Value.none, kwdefaults := Value.none, pyModule := Value.str (Str.ofString "law_wu0061_01") 443, code := Value.ref 220 } } : Obj) ::
  ({ cls := Value.type "tuple", data := Data.seq #[] } : Obj) ::
  ({ cls := Value.none, data := Data.fields #[] } : Obj) ::
  ({ cls := Value.none, data := Data.func { name := Str.ofString "_law_whole", qualname := Str.ofString "_law_whole", params := (fnP (topSt 27)), body := FuncBody.stmts (fnB (topSt 27)), scope := (fnS (topSt 27)), globals := 0, closure := [], defaults := Value.none, kwdefaults := Value.none } } : Obj) ::
  ({ cls := Value.type "code", data := Data.fields #[Value.str (Str.ofString "_law_whole") 488, Value.str (Str.ofString "_law_whole") 489, Value.str (Str.ofString "/claim/cut.py") 490, Value.int 187 0, Value.int 1 0, Value.int 0 0, Value.int 0 0, Value.int 3 0, Value.ref 222, Value.bool true, Value.int 181 0, Value.ref 223, Value.none, Value.none, Value.none, Value.ref 224, Value.int 491 0, Value.int 187 0, Value.str (Str.ofString "/claim/cut.py") 492] } : Obj) ::
  ({ cls := Value.type "function", data := Data.func { name := Str.ofString "_law_whole", qualname := Str.ofString "_law_whole", params := (fnP (topSt 27)), body := FuncBody.stmts (fnB (topSt 27)), scope := (fnS (topSt 27)), globals := 3, closure := [], defaults := Value.none, kwdefaults := Value.none, pyModule := Value.str (Str.ofString "law_wu0061_01") 443, code := Value.ref 225 } } : Obj) ::
  ({ cls := Value.type "tuple", data := Data.seq #[] } : Obj) ::
  ({ cls := Value.none, data := Data.fields #[] } : Obj) ::
  ({ cls := Value.none, data := Data.func { name := Str.ofString "law", qualname := Str.ofString "law", params := (fnP (topSt 28)), body := FuncBody.stmts (fnB (topSt 28)), scope := (fnS (topSt 28)), globals := 0, closure := [], defaults := Value.none, kwdefaults := Value.none } } : Obj) ::
  ({ cls := Value.type "code", data := Data.fields #[Value.str (Str.ofString "law") 494, Value.str (Str.ofString "law") 495, Value.str (Str.ofString "/claim/cut.py") 496, Value.int 189 0, Value.int 1 0, Value.int 0 0, Value.int 0 0, Value.int 3 0, Value.ref 227, Value.bool true, Value.int 181 0, Value.ref 228, Value.none, Value.none, Value.none, Value.ref 229, Value.int 497 0, Value.int 189 0, Value.str (Str.ofString "/claim/cut.py") 498] } : Obj) ::
  ({ cls := Value.type "function", data := Data.func { name := Str.ofString "law", qualname := Str.ofString "law", params := (fnP (topSt 28)), body := FuncBody.stmts (fnB (topSt 28)), scope := (fnS (topSt 28)), globals := 3, closure := [], defaults := Value.none, kwdefaults := Value.none, pyModule := Value.str (Str.ofString "law_wu0061_01") 443, code := Value.ref 230 } } : Obj) ::
  r
noncomputable def hp (P : Params) (a b : Obj) (r : List Obj) : Heap := ⟨⟨boot_o_0 P :: boot_o_1 P :: boot_o_2 P :: a :: boot_o_4 P :: boot_o_5 P :: boot_o_6 P :: boot_o_7 P :: boot_o_8 P :: boot_o_9 P :: boot_o_10 P :: ({ cls := Value.type "tuple", data := Data.seq #[] } : Obj) :: b :: ({ cls := Value.type "code", data := Data.fields #[Value.str (Str.ofString "<module>") 182, Value.str (Str.ofString "<module>") 183, Value.str (Str.ofString "/claim/cut.py") 184, Value.int 1 0, Value.int 0 0, Value.int 0 0, Value.int 0 0, Value.int 0 0, Value.ref 11, Value.bool false, Value.int 181 0, Value.ref 12, Value.none, Value.none, Value.none, Value.none, Value.int 185 0, Value.int 1 0, Value.str (Str.ofString "/claim/cut.py") 186] } : Obj) :: ({ cls := Value.type "frame", slots := #[some (Value.ref 13), some (Value.ref 3), some (Value.ref 3), none, some (Value.str (Str.ofString "__main__") 164), none, some (Value.ref 0)] } : Obj) :: r⟩, {}⟩
noncomputable def H0 (P : Params) : Heap := hp P
  ({ cls := Value.type "dict", data := Data.dict #[{ hash := PyData.keyHash P (Str.ofString "__name__"), key := Value.str (Str.ofString "__name__") 165, val := Value.str (Str.ofString "__main__") 164 }, { hash := PyData.keyHash P (Str.ofString "__doc__"), key := Value.str (Str.ofString "__doc__") 166, val := Value.none }, { hash := PyData.keyHash P (Str.ofString "__package__"), key := Value.str (Str.ofString "__package__") 167, val := Value.none }, { hash := PyData.keyHash P (Str.ofString "__loader__"), key := Value.str (Str.ofString "__loader__") 168, val := Value.builtin "__main__.__loader__#opaque" }, { hash := PyData.keyHash P (Str.ofString "__spec__"), key := Value.str (Str.ofString "__spec__") 169, val := Value.none }, { hash := PyData.keyHash P (Str.ofString "__annotations__"), key := Value.str (Str.ofString "__annotations__") 170, val := Value.ref 6 }, { hash := PyData.keyHash P (Str.ofString "__builtins__"), key := Value.str (Str.ofString "__builtins__") 171, val := Value.ref 4 }, { hash := PyData.keyHash P (Str.ofString "__file__"), key := Value.str (Str.ofString "__file__") 173, val := Value.str (Str.ofString "/claim/cut.py") 172 }, { hash := PyData.keyHash P (Str.ofString "__cached__"), key := Value.str (Str.ofString "__cached__") 174, val := Value.none }] 9 } : Obj)
  ({ cls := Value.none, data := Data.fields #[] } : Obj)
  ([])
noncomputable def H1 (P : Params) : Heap := hp P
  ({ cls := Value.type "dict", data := Data.dict #[{ hash := PyData.keyHash P (Str.ofString "__name__"), key := Value.str (Str.ofString "__name__") 165, val := Value.str (Str.ofString "cpy313.operator") 187 }, { hash := PyData.keyHash P (Str.ofString "__doc__"), key := Value.str (Str.ofString "__doc__") 166, val := Value.none }, { hash := PyData.keyHash P (Str.ofString "__package__"), key := Value.str (Str.ofString "__package__") 167, val := Value.none }, { hash := PyData.keyHash P (Str.ofString "__loader__"), key := Value.str (Str.ofString "__loader__") 168, val := Value.builtin "__main__.__loader__#opaque" }, { hash := PyData.keyHash P (Str.ofString "__spec__"), key := Value.str (Str.ofString "__spec__") 169, val := Value.none }, { hash := PyData.keyHash P (Str.ofString "__annotations__"), key := Value.str (Str.ofString "__annotations__") 170, val := Value.ref 6 }, { hash := PyData.keyHash P (Str.ofString "__builtins__"), key := Value.str (Str.ofString "__builtins__") 171, val := Value.ref 4 }, { hash := PyData.keyHash P (Str.ofString "__file__"), key := Value.str (Str.ofString "__file__") 173, val := Value.str (Str.ofString "/claim/cut.py") 172 }, { hash := PyData.keyHash P (Str.ofString "__cached__"), key := Value.str (Str.ofString "__cached__") 174, val := Value.none }, { hash := PyData.keyHash P (Str.ofString "lt"), key := Value.str (Str.ofString "lt") 196, val := Value.ref 21 }, { hash := PyData.keyHash P (Str.ofString "eq"), key := Value.str (Str.ofString "eq") 204, val := Value.ref 28 }, { hash := PyData.keyHash P (Str.ofString "add"), key := Value.str (Str.ofString "add") 212, val := Value.ref 35 }, { hash := PyData.keyHash P (Str.ofString "mod"), key := Value.str (Str.ofString "mod") 220, val := Value.ref 42 }, { hash := PyData.keyHash P (Str.ofString "mul"), key := Value.str (Str.ofString "mul") 228, val := Value.ref 49 }, { hash := PyData.keyHash P (Str.ofString "contains"), key := Value.str (Str.ofString "contains") 236, val := Value.ref 56 }, { hash := PyData.keyHash P (Str.ofString "countOf"), key := Value.str (Str.ofString "countOf") 246, val := Value.ref 63 }, { hash := PyData.keyHash P (Str.ofString "indexOf"), key := Value.str (Str.ofString "indexOf") 256, val := Value.ref 70 }, { hash := PyData.keyHash P (Str.ofString "isub"), key := Value.str (Str.ofString "isub") 264, val := Value.ref 77 }] 18 } : Obj)
  ({ cls := Value.none, data := Data.fields #[Value.int 2 0, Value.int 0 0, Value.ref 20, Value.int 4 0, Value.int 0 0, Value.ref 27, Value.int 6 0, Value.int 0 0, Value.ref 34, Value.int 8 0, Value.int 0 0, Value.ref 41, Value.int 10 0, Value.int 0 0, Value.ref 48, Value.int 12 0, Value.int 0 0, Value.ref 55, Value.int 14 0, Value.int 0 0, Value.ref 62, Value.int 20 0, Value.int 0 0, Value.ref 69, Value.int 26 0, Value.int 0 0, Value.ref 76] } : Obj)
  (os1 P [])
noncomputable def H2 (P : Params) : Heap := hp P
  ({ cls := Value.type "dict", data := Data.dict #[{ hash := PyData.keyHash P (Str.ofString "__name__"), key := Value.str (Str.ofString "__name__") 165, val := Value.str (Str.ofString "cpy313.xml.etree.ElementTree") 350 }, { hash := PyData.keyHash P (Str.ofString "__doc__"), key := Value.str (Str.ofString "__doc__") 166, val := Value.none }, { hash := PyData.keyHash P (Str.ofString "__package__"), key := Value.str (Str.ofString "__package__") 167, val := Value.none }, { hash := PyData.keyHash P (Str.ofString "__loader__"), key := Value.str (Str.ofString "__loader__") 168, val := Value.builtin "__main__.__loader__#opaque" }, { hash := PyData.keyHash P (Str.ofString "__spec__"), key := Value.str (Str.ofString "__spec__") 169, val := Value.none }, { hash := PyData.keyHash P (Str.ofString "__annotations__"), key := Value.str (Str.ofString "__annotations__") 170, val := Value.ref 6 }, { hash := PyData.keyHash P (Str.ofString "__builtins__"), key := Value.str (Str.ofString "__builtins__") 171, val := Value.ref 4 }, { hash := PyData.keyHash P (Str.ofString "__file__"), key := Value.str (Str.ofString "__file__") 173, val := Value.str (Str.ofString "/claim/cut.py") 172 }, { hash := PyData.keyHash P (Str.ofString "__cached__"), key := Value.str (Str.ofString "__cached__") 174, val := Value.none }, { hash := PyData.keyHash P (Str.ofString "lt"), key := Value.str (Str.ofString "lt") 196, val := Value.ref 21 }, { hash := PyData.keyHash P (Str.ofString "eq"), key := Value.str (Str.ofString "eq") 204, val := Value.ref 28 }, { hash := PyData.keyHash P (Str.ofString "add"), key := Value.str (Str.ofString "add") 212, val := Value.ref 35 }, { hash := PyData.keyHash P (Str.ofString "mod"), key := Value.str (Str.ofString "mod") 220, val := Value.ref 42 }, { hash := PyData.keyHash P (Str.ofString "mul"), key := Value.str (Str.ofString "mul") 228, val := Value.ref 49 }, { hash := PyData.keyHash P (Str.ofString "contains"), key := Value.str (Str.ofString "contains") 236, val := Value.ref 56 }, { hash := PyData.keyHash P (Str.ofString "countOf"), key := Value.str (Str.ofString "countOf") 246, val := Value.ref 63 }, { hash := PyData.keyHash P (Str.ofString "indexOf"), key := Value.str (Str.ofString "indexOf") 256, val := Value.ref 70 }, { hash := PyData.keyHash P (Str.ofString "isub"), key := Value.str (Str.ofString "isub") 264, val := Value.ref 77 }, { hash := PyData.keyHash P (Str.ofString "ONE_THIRD"), key := Value.str (Str.ofString "ONE_THIRD") 270, val := Value.float 4599676419421066581 269 }, { hash := PyData.keyHash P (Str.ofString "ONE_SIXTH"), key := Value.str (Str.ofString "ONE_SIXTH") 274, val := Value.float 4595172819793696085 273 }, { hash := PyData.keyHash P (Str.ofString "TWO_THIRD"), key := Value.str (Str.ofString "TWO_THIRD") 278, val := Value.float 4604180019048437077 277 }, { hash := PyData.keyHash P (Str.ofString "rgb_to_hls"), key := Value.str (Str.ofString "rgb_to_hls") 297, val := Value.ref 84 }, { hash := PyData.keyHash P (Str.ofString "hls_to_rgb"), key := Value.str (Str.ofString "hls_to_rgb") 308, val := Value.ref 91 }, { hash := PyData.keyHash P (Str.ofString "_v"), key := Value.str (Str.ofString "_v") 317, val := Value.ref 98 }, { hash := PyData.keyHash P (Str.ofString "rgb_to_hsv"), key := Value.str (Str.ofString "rgb_to_hsv") 335, val := Value.ref 105 }, { hash := PyData.keyHash P (Str.ofString "hsv_to_rgb"), key := Value.str (Str.ofString "hsv_to_rgb") 349, val := Value.ref 112 }] 26 } : Obj)
  ({ cls := Value.none, data := Data.fields #[Value.int 2 0, Value.int 0 0, Value.ref 20, Value.int 4 0, Value.int 0 0, Value.ref 27, Value.int 6 0, Value.int 0 0, Value.ref 34, Value.int 8 0, Value.int 0 0, Value.ref 41, Value.int 10 0, Value.int 0 0, Value.ref 48, Value.int 12 0, Value.int 0 0, Value.ref 55, Value.int 14 0, Value.int 0 0, Value.ref 62, Value.int 20 0, Value.int 0 0, Value.ref 69, Value.int 26 0, Value.int 0 0, Value.ref 76, Value.int 33 0, Value.int 0 0, Value.ref 83, Value.int 56 0, Value.int 0 0, Value.ref 90, Value.int 65 0, Value.int 0 0, Value.ref 97, Value.int 74 0, Value.int 0 0, Value.ref 104, Value.int 93 0, Value.int 0 0, Value.ref 111] } : Obj)
  (os1 P (os2 P []))
noncomputable def H3 (P : Params) : Heap := hp P
  ({ cls := Value.type "dict", data := Data.dict #[{ hash := PyData.keyHash P (Str.ofString "__name__"), key := Value.str (Str.ofString "__name__") 165, val := Value.str (Str.ofString "cpy313.xml.etree.ElementTree") 350 }, { hash := PyData.keyHash P (Str.ofString "__doc__"), key := Value.str (Str.ofString "__doc__") 166, val := Value.none }, { hash := PyData.keyHash P (Str.ofString "__package__"), key := Value.str (Str.ofString "__package__") 167, val := Value.none }, { hash := PyData.keyHash P (Str.ofString "__loader__"), key := Value.str (Str.ofString "__loader__") 168, val := Value.builtin "__main__.__loader__#opaque" }, { hash := PyData.keyHash P (Str.ofString "__spec__"), key := Value.str (Str.ofString "__spec__") 169, val := Value.none }, { hash := PyData.keyHash P (Str.ofString "__annotations__"), key := Value.str (Str.ofString "__annotations__") 170, val := Value.ref 6 }, { hash := PyData.keyHash P (Str.ofString "__builtins__"), key := Value.str (Str.ofString "__builtins__") 171, val := Value.ref 4 }, { hash := PyData.keyHash P (Str.ofString "__file__"), key := Value.str (Str.ofString "__file__") 173, val := Value.str (Str.ofString "/claim/cut.py") 172 }, { hash := PyData.keyHash P (Str.ofString "__cached__"), key := Value.str (Str.ofString "__cached__") 174, val := Value.none }, { hash := PyData.keyHash P (Str.ofString "lt"), key := Value.str (Str.ofString "lt") 196, val := Value.ref 21 }, { hash := PyData.keyHash P (Str.ofString "eq"), key := Value.str (Str.ofString "eq") 204, val := Value.ref 28 }, { hash := PyData.keyHash P (Str.ofString "add"), key := Value.str (Str.ofString "add") 212, val := Value.ref 35 }, { hash := PyData.keyHash P (Str.ofString "mod"), key := Value.str (Str.ofString "mod") 220, val := Value.ref 42 }, { hash := PyData.keyHash P (Str.ofString "mul"), key := Value.str (Str.ofString "mul") 228, val := Value.ref 49 }, { hash := PyData.keyHash P (Str.ofString "contains"), key := Value.str (Str.ofString "contains") 236, val := Value.ref 56 }, { hash := PyData.keyHash P (Str.ofString "countOf"), key := Value.str (Str.ofString "countOf") 246, val := Value.ref 63 }, { hash := PyData.keyHash P (Str.ofString "indexOf"), key := Value.str (Str.ofString "indexOf") 256, val := Value.ref 70 }, { hash := PyData.keyHash P (Str.ofString "isub"), key := Value.str (Str.ofString "isub") 264, val := Value.ref 77 }, { hash := PyData.keyHash P (Str.ofString "ONE_THIRD"), key := Value.str (Str.ofString "ONE_THIRD") 270, val := Value.float 4599676419421066581 269 }, { hash := PyData.keyHash P (Str.ofString "ONE_SIXTH"), key := Value.str (Str.ofString "ONE_SIXTH") 274, val := Value.float 4595172819793696085 273 }, { hash := PyData.keyHash P (Str.ofString "TWO_THIRD"), key := Value.str (Str.ofString "TWO_THIRD") 278, val := Value.float 4604180019048437077 277 }, { hash := PyData.keyHash P (Str.ofString "rgb_to_hls"), key := Value.str (Str.ofString "rgb_to_hls") 297, val := Value.ref 84 }, { hash := PyData.keyHash P (Str.ofString "hls_to_rgb"), key := Value.str (Str.ofString "hls_to_rgb") 308, val := Value.ref 91 }, { hash := PyData.keyHash P (Str.ofString "_v"), key := Value.str (Str.ofString "_v") 317, val := Value.ref 98 }, { hash := PyData.keyHash P (Str.ofString "rgb_to_hsv"), key := Value.str (Str.ofString "rgb_to_hsv") 335, val := Value.ref 105 }, { hash := PyData.keyHash P (Str.ofString "hsv_to_rgb"), key := Value.str (Str.ofString "hsv_to_rgb") 349, val := Value.ref 112 }, { hash := PyData.keyHash P (Str.ofString "QName"), key := Value.str (Str.ofString "QName") 442, val := Value.ref 186 }] 27 } : Obj)
  ({ cls := Value.none, data := Data.fields #[Value.int 2 0, Value.int 0 0, Value.ref 20, Value.int 4 0, Value.int 0 0, Value.ref 27, Value.int 6 0, Value.int 0 0, Value.ref 34, Value.int 8 0, Value.int 0 0, Value.ref 41, Value.int 10 0, Value.int 0 0, Value.ref 48, Value.int 12 0, Value.int 0 0, Value.ref 55, Value.int 14 0, Value.int 0 0, Value.ref 62, Value.int 20 0, Value.int 0 0, Value.ref 69, Value.int 26 0, Value.int 0 0, Value.ref 76, Value.int 33 0, Value.int 0 0, Value.ref 83, Value.int 56 0, Value.int 0 0, Value.ref 90, Value.int 65 0, Value.int 0 0, Value.ref 97, Value.int 74 0, Value.int 0 0, Value.ref 104, Value.int 93 0, Value.int 0 0, Value.ref 111, Value.int 115 0, Value.int 0 0, Value.ref 118] } : Obj)
  (os1 P (os2 P (os3 P [])))
noncomputable def H4 (P : Params) : Heap := hp P
  ({ cls := Value.type "dict", data := Data.dict #[{ hash := PyData.keyHash P (Str.ofString "__name__"), key := Value.str (Str.ofString "__name__") 165, val := Value.str (Str.ofString "law_wu0061_01") 443 }, { hash := PyData.keyHash P (Str.ofString "__doc__"), key := Value.str (Str.ofString "__doc__") 166, val := Value.none }, { hash := PyData.keyHash P (Str.ofString "__package__"), key := Value.str (Str.ofString "__package__") 167, val := Value.none }, { hash := PyData.keyHash P (Str.ofString "__loader__"), key := Value.str (Str.ofString "__loader__") 168, val := Value.builtin "__main__.__loader__#opaque" }, { hash := PyData.keyHash P (Str.ofString "__spec__"), key := Value.str (Str.ofString "__spec__") 169, val := Value.none }, { hash := PyData.keyHash P (Str.ofString "__annotations__"), key := Value.str (Str.ofString "__annotations__") 170, val := Value.ref 6 }, { hash := PyData.keyHash P (Str.ofString "__builtins__"), key := Value.str (Str.ofString "__builtins__") 171, val := Value.ref 4 }, { hash := PyData.keyHash P (Str.ofString "__file__"), key := Value.str (Str.ofString "__file__") 173, val := Value.str (Str.ofString "/claim/cut.py") 172 }, { hash := PyData.keyHash P (Str.ofString "__cached__"), key := Value.str (Str.ofString "__cached__") 174, val := Value.none }, { hash := PyData.keyHash P (Str.ofString "lt"), key := Value.str (Str.ofString "lt") 196, val := Value.ref 21 }, { hash := PyData.keyHash P (Str.ofString "eq"), key := Value.str (Str.ofString "eq") 204, val := Value.ref 28 }, { hash := PyData.keyHash P (Str.ofString "add"), key := Value.str (Str.ofString "add") 212, val := Value.ref 35 }, { hash := PyData.keyHash P (Str.ofString "mod"), key := Value.str (Str.ofString "mod") 220, val := Value.ref 42 }, { hash := PyData.keyHash P (Str.ofString "mul"), key := Value.str (Str.ofString "mul") 228, val := Value.ref 49 }, { hash := PyData.keyHash P (Str.ofString "contains"), key := Value.str (Str.ofString "contains") 236, val := Value.ref 56 }, { hash := PyData.keyHash P (Str.ofString "countOf"), key := Value.str (Str.ofString "countOf") 246, val := Value.ref 63 }, { hash := PyData.keyHash P (Str.ofString "indexOf"), key := Value.str (Str.ofString "indexOf") 256, val := Value.ref 70 }, { hash := PyData.keyHash P (Str.ofString "isub"), key := Value.str (Str.ofString "isub") 264, val := Value.ref 77 }, { hash := PyData.keyHash P (Str.ofString "ONE_THIRD"), key := Value.str (Str.ofString "ONE_THIRD") 270, val := Value.float 4599676419421066581 269 }, { hash := PyData.keyHash P (Str.ofString "ONE_SIXTH"), key := Value.str (Str.ofString "ONE_SIXTH") 274, val := Value.float 4595172819793696085 273 }, { hash := PyData.keyHash P (Str.ofString "TWO_THIRD"), key := Value.str (Str.ofString "TWO_THIRD") 278, val := Value.float 4604180019048437077 277 }, { hash := PyData.keyHash P (Str.ofString "rgb_to_hls"), key := Value.str (Str.ofString "rgb_to_hls") 297, val := Value.ref 84 }, { hash := PyData.keyHash P (Str.ofString "hls_to_rgb"), key := Value.str (Str.ofString "hls_to_rgb") 308, val := Value.ref 91 }, { hash := PyData.keyHash P (Str.ofString "_v"), key := Value.str (Str.ofString "_v") 317, val := Value.ref 98 }, { hash := PyData.keyHash P (Str.ofString "rgb_to_hsv"), key := Value.str (Str.ofString "rgb_to_hsv") 335, val := Value.ref 105 }, { hash := PyData.keyHash P (Str.ofString "hsv_to_rgb"), key := Value.str (Str.ofString "hsv_to_rgb") 349, val := Value.ref 112 }, { hash := PyData.keyHash P (Str.ofString "QName"), key := Value.str (Str.ofString "QName") 442, val := Value.ref 186 }, { hash := PyData.keyHash P (Str.ofString "_law_cells"), key := Value.str (Str.ofString "_law_cells") 453, val := Value.ref 197 }, { hash := PyData.keyHash P (Str.ofString "_law_name"), key := Value.str (Str.ofString "_law_name") 463, val := Value.ref 204 }, { hash := PyData.keyHash P (Str.ofString "_law_next"), key := Value.str (Str.ofString "_law_next") 475, val := Value.ref 211 }, { hash := PyData.keyHash P (Str.ofString "_law_home"), key := Value.str (Str.ofString "_law_home") 481, val := Value.ref 216 }, { hash := PyData.keyHash P (Str.ofString "_law_led"), key := Value.str (Str.ofString "_law_led") 487, val := Value.ref 221 }, { hash := PyData.keyHash P (Str.ofString "_law_whole"), key := Value.str (Str.ofString "_law_whole") 493, val := Value.ref 226 }, { hash := PyData.keyHash P (Str.ofString "law"), key := Value.str (Str.ofString "law") 499, val := Value.ref 231 }] 34 } : Obj)
  ({ cls := Value.none, data := Data.fields #[Value.int 2 0, Value.int 0 0, Value.ref 20, Value.int 4 0, Value.int 0 0, Value.ref 27, Value.int 6 0, Value.int 0 0, Value.ref 34, Value.int 8 0, Value.int 0 0, Value.ref 41, Value.int 10 0, Value.int 0 0, Value.ref 48, Value.int 12 0, Value.int 0 0, Value.ref 55, Value.int 14 0, Value.int 0 0, Value.ref 62, Value.int 20 0, Value.int 0 0, Value.ref 69, Value.int 26 0, Value.int 0 0, Value.ref 76, Value.int 33 0, Value.int 0 0, Value.ref 83, Value.int 56 0, Value.int 0 0, Value.ref 90, Value.int 65 0, Value.int 0 0, Value.ref 97, Value.int 74 0, Value.int 0 0, Value.ref 104, Value.int 93 0, Value.int 0 0, Value.ref 111, Value.int 115 0, Value.int 0 0, Value.ref 118, Value.int 156 0, Value.int 0 0, Value.ref 196, Value.int 161 0, Value.int 0 0, Value.ref 203, Value.int 171 0, Value.int 0 0, Value.ref 210, Value.int 179 0, Value.int 0 0, Value.ref 215, Value.int 184 0, Value.int 0 0, Value.ref 220, Value.int 187 0, Value.int 0 0, Value.ref 225, Value.int 189 0, Value.int 0 0, Value.ref 230] } : Obj)
  (os1 P (os2 P (os3 P (os4 P []))))
noncomputable abbrev gs : Array GenState := Array.mk []
noncomputable abbrev S0 (w : World) (os : OsState) : Shared := ⟨H0 w.params, gs, boot_drawn, 187, os⟩
noncomputable abbrev S1 (w : World) (os : OsState) : Shared := ⟨H1 w.params, gs, boot_drawn, 265, os⟩
noncomputable abbrev S2 (w : World) (os : OsState) : Shared := ⟨H2 w.params, gs, boot_drawn, 352, os⟩
noncomputable abbrev S3 (w : World) (os : OsState) : Shared := ⟨H3 w.params, gs, boot_drawn, 443, os⟩
noncomputable abbrev S4 (w : World) (os : OsState) : Shared := ⟨H4 w.params, gs, boot_drawn, 500, os⟩
noncomputable abbrev p1 : Pos := { line := 26, col := 0, endLine := 28, endCol := 12 }
noncomputable abbrev p2 : Pos := { line := 114, col := 0, endLine := 114, endCol := 8 }
noncomputable abbrev p3 : Pos := { line := 115, col := 0, endLine := 154, endCol := 33 }
noncomputable abbrev p4 : Pos := { line := 189, col := 0, endLine := 234, endCol := 29 }
noncomputable abbrev p0 : Pos := q0
set_option maxRecDepth 100000
set_option maxHeartbeats 0
theorem opens : ∀ w : World, (fencedOpening treeTable pw w 2556).map (fun s => (s.heap, s.gens, s.drawn, s.toks)) = some (boot_heap w.params, gs, boot_drawn, boot_toks) := by
  intro w; kernel_rfl
theorem size : ∀ w : World, ((boot_heap w.params).isNs mainGlobals && gs.size == 0, (boot_heap w.params).objs.size, (boot_heap w.params).nsMap mainGlobals "__annotations__") = (true, 11, some (Value.ref 6)) := by
  intro w; kernel_rfl
theorem pre : ∀ (w : World) (os : OsState), topGo treeTable pw w 11 (some (Value.ref 6)) 12 ⟨boot_heap w.params, gs, boot_drawn, boot_toks, os⟩ (topStub pw) = some (S0 w os, ⟨denote treeTable cE, cE, q0, [topFrame q0]⟩) := by
  intro w os; kernel_rfl
theorem block : ∀ (w : World) (os : OsState), segRun treeTable pw w 11 (some (Value.ref 6)) 1 1 (S0 w os) (blockOf (behindTheImports pw) env cE q0 [topFrame q0]) = some (.next, S0 w os, cE, q0) := by
  intro w os; kernel_rfl
theorem body : behindTheImports pw = sts1 ++ (sts2 ++ (sts3 ++ (sts4 ++ []))) := by kernel_rfl
noncomputable def ob2 (k : Nat) (P : Params) : Obj := (H2 P).objs.toList.getD k default
noncomputable def ob3 (k : Nat) (P : Params) : Obj := (H3 P).objs.toList.getD k default
noncomputable def T2 (P : Params) : BT := (.node (ob2 0 P) (.node (ob2 1 P) (.node (ob2 3 P) (.node (ob2 7 P) (.node (ob2 15 P) (.node (ob2 31 P) (.node (ob2 63 P) .nil .nil) (.node (ob2 95 P) .nil .nil)) (.node (ob2 47 P) (.node (ob2 79 P) .nil .nil) (.node (ob2 111 P) .nil .nil))) (.node (ob2 23 P) (.node (ob2 39 P) (.node (ob2 71 P) .nil .nil) (.node (ob2 103 P) .nil .nil)) (.node (ob2 55 P) (.node (ob2 87 P) .nil .nil) .nil))) (.node (ob2 11 P) (.node (ob2 19 P) (.node (ob2 35 P) (.node (ob2 67 P) .nil .nil) (.node (ob2 99 P) .nil .nil)) (.node (ob2 51 P) (.node (ob2 83 P) .nil .nil) .nil)) (.node (ob2 27 P) (.node (ob2 43 P) (.node (ob2 75 P) .nil .nil) (.node (ob2 107 P) .nil .nil)) (.node (ob2 59 P) (.node (ob2 91 P) .nil .nil) .nil)))) (.node (ob2 5 P) (.node (ob2 9 P) (.node (ob2 17 P) (.node (ob2 33 P) (.node (ob2 65 P) .nil .nil) (.node (ob2 97 P) .nil .nil)) (.node (ob2 49 P) (.node (ob2 81 P) .nil .nil) .nil)) (.node (ob2 25 P) (.node (ob2 41 P) (.node (ob2 73 P) .nil .nil) (.node (ob2 105 P) .nil .nil)) (.node (ob2 57 P) (.node (ob2 89 P) .nil .nil) .nil))) (.node (ob2 13 P) (.node (ob2 21 P) (.node (ob2 37 P) (.node (ob2 69 P) .nil .nil) (.node (ob2 101 P) .nil .nil)) (.node (ob2 53 P) (.node (ob2 85 P) .nil .nil) .nil)) (.node (ob2 29 P) (.node (ob2 45 P) (.node (ob2 77 P) .nil .nil) (.node (ob2 109 P) .nil .nil)) (.node (ob2 61 P) (.node (ob2 93 P) .nil .nil) .nil))))) (.node (ob2 2 P) (.node (ob2 4 P) (.node (ob2 8 P) (.node (ob2 16 P) (.node (ob2 32 P) (.node (ob2 64 P) .nil .nil) (.node (ob2 96 P) .nil .nil)) (.node (ob2 48 P) (.node (ob2 80 P) .nil .nil) (.node (ob2 112 P) .nil .nil))) (.node (ob2 24 P) (.node (ob2 40 P) (.node (ob2 72 P) .nil .nil) (.node (ob2 104 P) .nil .nil)) (.node (ob2 56 P) (.node (ob2 88 P) .nil .nil) .nil))) (.node (ob2 12 P) (.node (ob2 20 P) (.node (ob2 36 P) (.node (ob2 68 P) .nil .nil) (.node (ob2 100 P) .nil .nil)) (.node (ob2 52 P) (.node (ob2 84 P) .nil .nil) .nil)) (.node (ob2 28 P) (.node (ob2 44 P) (.node (ob2 76 P) .nil .nil) (.node (ob2 108 P) .nil .nil)) (.node (ob2 60 P) (.node (ob2 92 P) .nil .nil) .nil)))) (.node (ob2 6 P) (.node (ob2 10 P) (.node (ob2 18 P) (.node (ob2 34 P) (.node (ob2 66 P) .nil .nil) (.node (ob2 98 P) .nil .nil)) (.node (ob2 50 P) (.node (ob2 82 P) .nil .nil) .nil)) (.node (ob2 26 P) (.node (ob2 42 P) (.node (ob2 74 P) .nil .nil) (.node (ob2 106 P) .nil .nil)) (.node (ob2 58 P) (.node (ob2 90 P) .nil .nil) .nil))) (.node (ob2 14 P) (.node (ob2 22 P) (.node (ob2 38 P) (.node (ob2 70 P) .nil .nil) (.node (ob2 102 P) .nil .nil)) (.node (ob2 54 P) (.node (ob2 86 P) .nil .nil) .nil)) (.node (ob2 30 P) (.node (ob2 46 P) (.node (ob2 78 P) .nil .nil) (.node (ob2 110 P) .nil .nil)) (.node (ob2 62 P) (.node (ob2 94 P) .nil .nil) .nil))))))
noncomputable def T3 (P : Params) : BT := (.node (ob3 0 P) (.node (ob3 1 P) (.node (ob3 3 P) (.node (ob3 7 P) (.node (ob3 15 P) (.node (ob3 31 P) (.node (ob3 63 P) (.node (ob3 127 P) .nil .nil) .nil) (.node (ob3 95 P) (.node (ob3 159 P) .nil .nil) .nil)) (.node (ob3 47 P) (.node (ob3 79 P) (.node (ob3 143 P) .nil .nil) .nil) (.node (ob3 111 P) (.node (ob3 175 P) .nil .nil) .nil))) (.node (ob3 23 P) (.node (ob3 39 P) (.node (ob3 71 P) (.node (ob3 135 P) .nil .nil) .nil) (.node (ob3 103 P) (.node (ob3 167 P) .nil .nil) .nil)) (.node (ob3 55 P) (.node (ob3 87 P) (.node (ob3 151 P) .nil .nil) .nil) (.node (ob3 119 P) (.node (ob3 183 P) .nil .nil) .nil)))) (.node (ob3 11 P) (.node (ob3 19 P) (.node (ob3 35 P) (.node (ob3 67 P) (.node (ob3 131 P) .nil .nil) .nil) (.node (ob3 99 P) (.node (ob3 163 P) .nil .nil) .nil)) (.node (ob3 51 P) (.node (ob3 83 P) (.node (ob3 147 P) .nil .nil) .nil) (.node (ob3 115 P) (.node (ob3 179 P) .nil .nil) .nil))) (.node (ob3 27 P) (.node (ob3 43 P) (.node (ob3 75 P) (.node (ob3 139 P) .nil .nil) .nil) (.node (ob3 107 P) (.node (ob3 171 P) .nil .nil) .nil)) (.node (ob3 59 P) (.node (ob3 91 P) (.node (ob3 155 P) .nil .nil) .nil) (.node (ob3 123 P) (.node (ob3 187 P) .nil .nil) .nil))))) (.node (ob3 5 P) (.node (ob3 9 P) (.node (ob3 17 P) (.node (ob3 33 P) (.node (ob3 65 P) (.node (ob3 129 P) .nil .nil) .nil) (.node (ob3 97 P) (.node (ob3 161 P) .nil .nil) .nil)) (.node (ob3 49 P) (.node (ob3 81 P) (.node (ob3 145 P) .nil .nil) .nil) (.node (ob3 113 P) (.node (ob3 177 P) .nil .nil) .nil))) (.node (ob3 25 P) (.node (ob3 41 P) (.node (ob3 73 P) (.node (ob3 137 P) .nil .nil) .nil) (.node (ob3 105 P) (.node (ob3 169 P) .nil .nil) .nil)) (.node (ob3 57 P) (.node (ob3 89 P) (.node (ob3 153 P) .nil .nil) .nil) (.node (ob3 121 P) (.node (ob3 185 P) .nil .nil) .nil)))) (.node (ob3 13 P) (.node (ob3 21 P) (.node (ob3 37 P) (.node (ob3 69 P) (.node (ob3 133 P) .nil .nil) .nil) (.node (ob3 101 P) (.node (ob3 165 P) .nil .nil) .nil)) (.node (ob3 53 P) (.node (ob3 85 P) (.node (ob3 149 P) .nil .nil) .nil) (.node (ob3 117 P) (.node (ob3 181 P) .nil .nil) .nil))) (.node (ob3 29 P) (.node (ob3 45 P) (.node (ob3 77 P) (.node (ob3 141 P) .nil .nil) .nil) (.node (ob3 109 P) (.node (ob3 173 P) .nil .nil) .nil)) (.node (ob3 61 P) (.node (ob3 93 P) (.node (ob3 157 P) .nil .nil) .nil) (.node (ob3 125 P) (.node (ob3 189 P) .nil .nil) .nil)))))) (.node (ob3 2 P) (.node (ob3 4 P) (.node (ob3 8 P) (.node (ob3 16 P) (.node (ob3 32 P) (.node (ob3 64 P) (.node (ob3 128 P) .nil .nil) .nil) (.node (ob3 96 P) (.node (ob3 160 P) .nil .nil) .nil)) (.node (ob3 48 P) (.node (ob3 80 P) (.node (ob3 144 P) .nil .nil) .nil) (.node (ob3 112 P) (.node (ob3 176 P) .nil .nil) .nil))) (.node (ob3 24 P) (.node (ob3 40 P) (.node (ob3 72 P) (.node (ob3 136 P) .nil .nil) .nil) (.node (ob3 104 P) (.node (ob3 168 P) .nil .nil) .nil)) (.node (ob3 56 P) (.node (ob3 88 P) (.node (ob3 152 P) .nil .nil) .nil) (.node (ob3 120 P) (.node (ob3 184 P) .nil .nil) .nil)))) (.node (ob3 12 P) (.node (ob3 20 P) (.node (ob3 36 P) (.node (ob3 68 P) (.node (ob3 132 P) .nil .nil) .nil) (.node (ob3 100 P) (.node (ob3 164 P) .nil .nil) .nil)) (.node (ob3 52 P) (.node (ob3 84 P) (.node (ob3 148 P) .nil .nil) .nil) (.node (ob3 116 P) (.node (ob3 180 P) .nil .nil) .nil))) (.node (ob3 28 P) (.node (ob3 44 P) (.node (ob3 76 P) (.node (ob3 140 P) .nil .nil) .nil) (.node (ob3 108 P) (.node (ob3 172 P) .nil .nil) .nil)) (.node (ob3 60 P) (.node (ob3 92 P) (.node (ob3 156 P) .nil .nil) .nil) (.node (ob3 124 P) (.node (ob3 188 P) .nil .nil) .nil))))) (.node (ob3 6 P) (.node (ob3 10 P) (.node (ob3 18 P) (.node (ob3 34 P) (.node (ob3 66 P) (.node (ob3 130 P) .nil .nil) .nil) (.node (ob3 98 P) (.node (ob3 162 P) .nil .nil) .nil)) (.node (ob3 50 P) (.node (ob3 82 P) (.node (ob3 146 P) .nil .nil) .nil) (.node (ob3 114 P) (.node (ob3 178 P) .nil .nil) .nil))) (.node (ob3 26 P) (.node (ob3 42 P) (.node (ob3 74 P) (.node (ob3 138 P) .nil .nil) .nil) (.node (ob3 106 P) (.node (ob3 170 P) .nil .nil) .nil)) (.node (ob3 58 P) (.node (ob3 90 P) (.node (ob3 154 P) .nil .nil) .nil) (.node (ob3 122 P) (.node (ob3 186 P) .nil .nil) .nil)))) (.node (ob3 14 P) (.node (ob3 22 P) (.node (ob3 38 P) (.node (ob3 70 P) (.node (ob3 134 P) .nil .nil) .nil) (.node (ob3 102 P) (.node (ob3 166 P) .nil .nil) .nil)) (.node (ob3 54 P) (.node (ob3 86 P) (.node (ob3 150 P) .nil .nil) .nil) (.node (ob3 118 P) (.node (ob3 182 P) .nil .nil) .nil))) (.node (ob3 30 P) (.node (ob3 46 P) (.node (ob3 78 P) (.node (ob3 142 P) .nil .nil) .nil) (.node (ob3 110 P) (.node (ob3 174 P) .nil .nil) .nil)) (.node (ob3 62 P) (.node (ob3 94 P) (.node (ob3 158 P) .nil .nil) .nil) (.node (ob3 126 P) (.node (ob3 190 P) .nil .nil) .nil)))))))
noncomputable def R2 (w : World) (os : OsState) : SharedT := ⟨T2 w.params, 113, {}, gs, boot_drawn, 352, os⟩
noncomputable def R3 (w : World) (os : OsState) : SharedT := ⟨T3 w.params, 191, {}, gs, boot_drawn, 443, os⟩
theorem e2 : ∀ (w : World) (os : OsState), (R2 w os).abs = S2 w os := by intro w os; kernel_rfl
theorem e3 : ∀ (w : World) (os : OsState), (R3 w os).abs = S3 w os := by intro w os; kernel_rfl
theorem run3T : ∀ (w : World) (os : OsState), segRunT treeTable pw w 11 (some (Value.ref 6)) 1 500 (R2 w os) (piecesOf sts3 env cE p2 [topFrame q0]) = some (.next, R3 w os, cE, p3) := by
  intro w os; kernel_rfl
theorem run3 : ∀ (w : World) (os : OsState), segRun treeTable pw w 11 (some (Value.ref 6)) 1 500 (S2 w os) (piecesOf sts3 env cE p2 [topFrame q0]) = some (.next, S3 w os, cE, p3) := fun w os => by
  have h := segRun_of (run3T w os)
  rw [e2, e3] at h
  exact h
theorem run1 : ∀ (w : World) (os : OsState), segRun treeTable pw w 11 (some (Value.ref 6)) 1 300 (S0 w os) (piecesOf sts1 env cE p0 [topFrame q0]) = some (.next, S1 w os, cE, p1) := by
  intro w os; kernel_rfl
theorem run2 : ∀ (w : World) (os : OsState), segRun treeTable pw w 11 (some (Value.ref 6)) 1 300 (S1 w os) (piecesOf sts2 env cE p1 [topFrame q0]) = some (.next, S2 w os, cE, p2) := by
  intro w os; kernel_rfl
theorem run4 : ∀ (w : World) (os : OsState), segRun treeTable pw w 11 (some (Value.ref 6)) 1 230 (S3 w os) (piecesOf sts4 env cE p3 [topFrame q0]) = some (.next, S4 w os, cE, p4) := by
  intro w os; kernel_rfl
theorem fin : ∀ (w : World) (os : OsState), topRun treeTable pw w 11 (some (Value.ref 6)) 2 (S4 w os) ⟨doneF .next, cE, p4, [topFrame q0]⟩ = some (S4 w os) := by
  intro w os; kernel_rfl
theorem run : ∀ (w : World) (os : OsState), topRun treeTable pw w 11 (some (Value.ref 6)) (12 + (1 + (300 + (300 + (500 + (230 + 2)))))) ⟨boot_heap w.params, gs, boot_drawn, boot_toks, os⟩ (topStub pw) = some (S4 w os) := by
  intro w os
  refine go_top (pre w os) (piece_block (block w os) ?_)
  rw [body]
  exact piece_app (run1 w os) (piece_app (run2 w os) (piece_app (run3 w os) (piece_app (run4 w os) (piece_nil (fin w os)))))
theorem looks : ∀ w : World, (fun os => ((staticsOk (importedModules pw.main.body) (boot_heap w.params) (H4 w.params) && namesBound pw (H4 w.params) && gensDone (S4 w os) && laidKept (boot_heap w.params) (H4 w.params)),
        openSeen hd.view_39 looseL (importedModules pw.main.body) (fun s => xlAt hd.view_39 valsL s && recOk (RowW.records PySem.Challenge.rw_wu0061_01.row.toRowW) s) true (S4 w os), (Hook.obs hookK) (S4 w os))) = fun _ => (true, openGood hd.view_39 looseL, (Hook.val hookK) w) := by
  intro w; kernel_rfl
theorem namesWell : namesResolve (OpenLaw.row PySem.Challenge.rw_wu0061_01).prog = true := by kernel_rfl
theorem meetWell : (namesMeet (OpenLaw.row PySem.Challenge.rw_wu0061_01).prog (OpenLaw.row PySem.Challenge.rw_wu0061_01).prog.main.body fun _ n => attrL n) = true := by kernel_rfl
theorem looksWell : looksOpen (OpenLaw.row PySem.Challenge.rw_wu0061_01).prog = true := by
  unfold looksOpen
  repeat (with_reducible refine look_both ?_ ?_)
  all_goals first | with_reducible exact namesWell | with_reducible exact meetWell | kernel_rfl
theorem partWell : OpenRow.partSaid (OpenLaw.row PySem.Challenge.rw_wu0061_01) = true := by
  unfold OpenRow.partSaid
  repeat (with_reducible refine look_both ?_ ?_)
  · exact looksWell
  all_goals kernel_rfl
theorem rowWell : OpenRow.wellSaid (OpenLaw.row PySem.Challenge.rw_wu0061_01) = true := by
  unfold OpenRow.wellSaid
  repeat (with_reducible refine look_both ?_ ?_)
  · exact partWell
  all_goals kernel_rfl
end Tp
theorem said_ok : PySem.Challenge.rw_wu0061_01.wellSaid = true := by
  unfold OpenLaw.wellSaid
  repeat (with_reducible refine look_both ?_ ?_)
  · exact Tp.rowWell
  all_goals kernel_rfl
theorem left_ok : LeftO PySem.Challenge.rw_wu0061_01.row.prog hd.view_39 looseL (fun s => xlAt hd.view_39 valsL s && recOk (RowW.records PySem.Challenge.rw_wu0061_01.row.toRowW) s) (Hook.obs hookK) (Hook.val hookK) 2556 :=
  LeftO.of_pieces (p := PySem.Challenge.pw_wu0061_01) Tp.opens Tp.size Tp.run (by decide) Tp.looks
end Mine
end
section
open PySem PySem.W PyProof.Rows PySem.Calls
namespace Mine
noncomputable abbrev HK (w : World) : Frag := hd.heap_39 w.params
noncomputable abbrev LS : List Str := looseW hd.view_39 [Str.ofString "ONE_THIRD", Str.ofString "ONE_SIXTH", Str.ofString "TWO_THIRD"]
noncomputable abbrev TopM (mean : ExcName → Option Value) (mg mb : Str → Option Value) (h : Heap) : Prop := Top hd.view_39 LS mean mg mb h
noncomputable abbrev PG : Program := PySem.Challenge.rw_wu0061_01.row.prog

/-- a call's contract: whatever stands, the call hands back a value, its new objects put ahead of the ledger -/
noncomputable def Ct (w : World) (D : Nat) (f : Addr) (news : List (Addr × Obj)) (vs : List Value) (Post : Value → List (Addr × Obj) → Prop) : Prop :=
  ∀ (mean : ExcName → Option Value) (mg mb : Str → Option Value) (dp un : Nat) (gd : Option (List Code)) (cn : Str) (cs : Scope) (a : Addr) (ccd : Value) (cl : List (Str × Addr)) (outer : List Env) (A₀ : Around) (base h₀ : Heap) (L : Addr) (m : Str → Option Value) (s : Shared) (Q E : Value → Shared → Prop),
    Below A₀ base outer h₀ → Fr h₀ L s.heap m → (hd.heap_39 w.params).In h₀ → News h₀ L s.heap news → TopM mean mg mb h₀ → cs.kind = .function → dp + D < recursionLimit → un + 8 * D < cLine →
    (∀ r tl h' tk', Fr h₀ L h' m → News h₀ L h' (tl ++ news) → (∀ q ∈ news, ∀ p ∈ tl, @Ne Nat q.1 p.1) → Post r tl → Q r { s with heap := h', toks := tk' }) →
    wpAny (model PG w) (ktrTop dp un gd cn cs L a ccd cl outer) (call (.ref f) vs) Q E s
theorem ct_use {w : World} {D : Nat} {f : Addr} {news : List (Addr × Obj)} {vs : List Value} {Post : Value → List (Addr × Obj) → Prop}
    {mean : ExcName → Option Value} {mg mb : Str → Option Value} {dp un : Nat} {gd : Option (List Code)} {cn : Str} {cs : Scope} {a : Addr} {ccd : Value} {cl : List (Str × Addr)} {outer : List Env} {A₀ : Around} {base h₀ : Heap} {L : Addr} {m : Str → Option Value} {s : Shared} {Q E : Value → Shared → Prop}
    (C : Ct w D f news vs Post) (B : Below A₀ base outer h₀) (F : Fr h₀ L s.heap m) (X : (hd.heap_39 w.params).In h₀) (N : News h₀ L s.heap news) (T : TopM mean mg mb h₀) (hk : cs.kind = .function) (hdp : dp + D < recursionLimit) (hun : un + 8 * D < cLine)
    (ret : ∀ r tl h' tk', Fr h₀ L h' m → News h₀ L h' (tl ++ news) → (∀ q ∈ news, ∀ p ∈ tl, @Ne Nat q.1 p.1) → Post r tl → Q r { s with heap := h', toks := tk' }) :
    wpAny (model PG w) (ktrTop dp un gd cn cs L a ccd cl outer) (call (.ref f) vs) Q E s := C mean mg mb dp un gd cn cs a ccd cl outer A₀ base h₀ L m s Q E B F X N T hk hdp hun ret
end Mine
end
section
open PySem PySem.W PyProof.Rows PySem.Calls
namespace Mine
/-- the count of marks, forgotten -/
theorem gen_tk {α : Type} {M : Model} {A : Around} {c : Sem α} {Q : α → Shared → Prop} {E : Value → Shared → Prop} {s : Shared} (h : ∀ tk, wpAny M A c Q E { s with toks := tk }) : wpAny M A c Q E s := h s.toks
/-- a mark at which a walk stops -/
noncomputable def StopC (p : Prop) : Prop := p
theorem stopC {p : Prop} (h : StopC p) : p := h
theorem StopC.of {p : Prop} (h : p) : StopC p := h
/-- what a statement leaves that only sets one name to a float -/
noncomputable def CutF (h₀ : Heap) (L : Addr) (m : Str → Option Value) (news : List (Addr × Obj)) (x : Str) (d : UInt64) (s : Shared) (f : Flow) (s' : Shared) : Prop :=
  f = .next ∧ ∃ h' tk t, s' = { s with heap := h', toks := tk } ∧ Fr h₀ L h' (fun y => if y = x then some (.float d t) else m y) ∧ News h₀ L h' news
theorem cutF {M : Model} {A : Around} {E : Value → Shared → Prop} {s : Shared} {st : Stmt} {rest : List Stmt} {env : Env} {Q : Flow → Shared → Prop} {h₀ : Heap} {L : Addr} {m : Str → Option Value} {news : List (Addr × Obj)} (x : Str) (d : UInt64) (_F : Fr h₀ L s.heap m) (_N : News h₀ L s.heap news)
    (h1 : wpAny M A (exec st env) (CutF h₀ L m news x d s) E s)
    (h2 : ∀ h' tk t, Fr h₀ L h' (fun y => if y = x then some (.float d t) else m y) → News h₀ L h' news → wpAny M A (execs rest env) Q E { s with heap := h', toks := tk }) : wpAny M A (execs (st :: rest) env) Q E s :=
  wpAny_execs_cons (wpAny_mono h1 (fun f s' h => by
    obtain ⟨rfl, h', tk, t, rfl, F, N⟩ := h
    exact h2 h' tk t F N) fun _ _ x => x)
theorem cutF_mk {h₀ : Heap} {L : Addr} {m : Str → Option Value} {news : List (Addr × Obj)} {x : Str} {d d' : UInt64} {s : Shared} {h' : Heap} {tk : Nat} {t : Tok} (e : d' = d) (F : Fr h₀ L h' (fun y => if y = x then some (.float d' t) else m y)) (N : News h₀ L h' news) : CutF h₀ L m news x d s .next { s with heap := h', toks := tk } := by
  subst e
  exact ⟨rfl, h', tk, t, rfl, F, N⟩
end Mine
end
section
open PySem PySem.W PyProof.Rows PySem.Calls PySem.Flt
namespace Mine
noncomputable abbrev c6 : UInt64 := 4618441417868443648
noncomputable abbrev c1 : UInt64 := 4607182418800017408
noncomputable abbrev c2 : UInt64 := 4611686018427387904
noncomputable abbrev c4 : UInt64 := 4616189618054758400
noncomputable def feq (a b : UInt64) : Bool := Float64.cmp a b == some .eq
/-- the model's max of three floats, min of three floats -/
noncomputable def fmax3 (a b c : UInt64) : UInt64 :=
  if (Float64.cmp a b == some .lt) = true then (if (Float64.cmp b c == some .lt) = true then c else b) else (if (Float64.cmp a c == some .lt) = true then c else a)
noncomputable def fmin3 (a b c : UInt64) : UInt64 :=
  if (Float64.cmp b a == some .lt) = true then (if (Float64.cmp c b == some .lt) = true then c else b) else (if (Float64.cmp c a == some .lt) = true then c else a)

theorem aux3 (x y z : UInt64) (t u v : Tok) (k1 k2 k3 : Bool) : ∃ v', (if k1 then (if k2 then Value.float z v else .float y u) else (if k3 then .float z v else .float x t)) = .float (if k1 = true then (if k2 = true then z else y) else (if k3 = true then z else x)) v' := by
  cases k1 <;> cases k2 <;> cases k3 <;> exact ⟨_, rfl⟩
section
variable {prog : Program} {w : World} {A : Around} {E : Value → Shared → Prop} {s : Shared} {Q : Value → Shared → Prop}
theorem max_three_num {a b c : Value} (hh : A.handled = none) (ha : NumV a) (hb : NumV b) (hc : NumV c)
    (h : ∀ h' tk, (∀ d o, s.heap.get? d = some o → h'.get? d = some o) → Q (if ltV a b then (if ltV b c then c else b) else (if ltV a c then c else a)) { s with heap := h', toks := tk }) :
    wpAny (model prog w) A (call (.builtin "max") [a, b, c]) Q E s := by
  have hT : (s.heap.push { cls := .type "tuple", data := .seq #[a, b, c] }).IsTuple s.heap.objs.size #[a, b, c] := ⟨_, Heap.get?_push_size _ rfl, rfl, 0, rfl⟩
  refine call_max_three (wpAny_pyIter_tuple hT ?_)
  have hsz : (s.heap.push { cls := .type "tuple", data := .seq #[a, b, c] }).objs.size = s.heap.objs.size + 1 := Heap.size_push ..
  refine ⟨_, [_, s.heap.objs.size], [_], _, _, _, _, rfl, Walks.tuple (A := A.in1) hh _ s.heap.objs.size (by rw [hsz]; exact Nat.ne_of_lt (Nat.lt_succ_self _)) #[a, b, c],
    ⟨⟨_, Heap.get?_push_size _ rfl, rfl, rfl⟩, hT.push _⟩, fun c hc => ?_, by simp, cmpOf_gt #[a, b, c] (by simp [ha, hb, hc]), fun v h' tk hP hk => ?_⟩
  · show c < ((s.heap.push _).push _).objs.size
    rw [Heap.size_push, hsz]
    rcases List.mem_cons.mp hc with rfl | hc
    · rw [hsz]; exact Nat.lt_succ_self _
    · rcases List.mem_cons.mp hc with rfl | hc
      · exact Nat.lt_succ_of_lt (Nat.lt_succ_self _)
      · cases hc
  · have hold : ∀ c o, s.heap.get? c = some o → h'.get? c = some o := fun c o e => by
      refine hk c o (fun hm => ?_) (Heap.get?_push_of_some _ (Heap.get?_push_of_some _ e))
      rcases List.mem_cons.mp hm with e1 | hm
      · have := Heap.lt_size e; rw [e1, hsz] at this; exact Nat.lt_irrefl _ (Nat.lt_of_succ_lt this)
      · cases hm
    have := h h' tk hold
    have hv : v = if ltV a b then (if ltV b c then c else b) else (if ltV a c then c else a) := by
      cases h1 : ltV a b <;> cases h2 : ltV b c <;> cases h3 : ltV a c <;> simp [argBest, h1, h2, h3] at hP <;> simp [hP]
    rw [hv]; exact this
theorem min_three_num {a b c : Value} (hh : A.handled = none) (ha : NumV a) (hb : NumV b) (hc : NumV c)
    (h : ∀ h' tk, (∀ d o, s.heap.get? d = some o → h'.get? d = some o) → Q (if ltV b a then (if ltV c b then c else b) else (if ltV c a then c else a)) { s with heap := h', toks := tk }) :
    wpAny (model prog w) A (call (.builtin "min") [a, b, c]) Q E s := by
  have hT : (s.heap.push { cls := .type "tuple", data := .seq #[a, b, c] }).IsTuple s.heap.objs.size #[a, b, c] := ⟨_, Heap.get?_push_size _ rfl, rfl, 0, rfl⟩
  refine call_min_three (wpAny_pyIter_tuple hT ?_)
  have hsz : (s.heap.push { cls := .type "tuple", data := .seq #[a, b, c] }).objs.size = s.heap.objs.size + 1 := Heap.size_push ..
  refine ⟨_, [_, s.heap.objs.size], [_], _, _, _, _, rfl, Walks.tuple (A := A.in1) hh _ s.heap.objs.size (by rw [hsz]; exact Nat.ne_of_lt (Nat.lt_succ_self _)) #[a, b, c],
    ⟨⟨_, Heap.get?_push_size _ rfl, rfl, rfl⟩, hT.push _⟩, fun c hc => ?_, by simp, cmpOf_lt #[a, b, c] (by simp [ha, hb, hc]), fun v h' tk hP hk => ?_⟩
  · show c < ((s.heap.push _).push _).objs.size
    rw [Heap.size_push, hsz]
    rcases List.mem_cons.mp hc with rfl | hc
    · rw [hsz]; exact Nat.lt_succ_self _
    · rcases List.mem_cons.mp hc with rfl | hc
      · exact Nat.lt_succ_of_lt (Nat.lt_succ_self _)
      · cases hc
  · have hold : ∀ c o, s.heap.get? c = some o → h'.get? c = some o := fun c o e => by
      refine hk c o (fun hm => ?_) (Heap.get?_push_of_some _ (Heap.get?_push_of_some _ e))
      rcases List.mem_cons.mp hm with e1 | hm
      · have := Heap.lt_size e; rw [e1, hsz] at this; exact Nat.lt_irrefl _ (Nat.lt_of_succ_lt this)
      · cases hm
    have := h h' tk hold
    have hv : v = if ltV b a then (if ltV c b then c else b) else (if ltV c a then c else a) := by
      cases h1 : ltV b a <;> cases h2 : ltV c b <;> cases h3 : ltV c a <;> simp [argBest, h1, h2, h3] at hP <;> simp [hP]
    rw [hv]; exact this
theorem max_three_ff {x y z : UInt64} {t u v : Tok} {h₀ : Heap} {L : Addr} {m : Str → Option Value} {news : List (Addr × Obj)}
    (hh : A.handled = none) (F : Fr h₀ L s.heap m) (N : News h₀ L s.heap news)
    (h : ∀ h' tk v, Fr h₀ L h' m → News h₀ L h' news → Q (.float (fmax3 x y z) v) { s with heap := h', toks := tk }) :
    wpAny (model prog w) A (call (.builtin "max") [.float x t, .float y u, .float z v]) Q E s := by
  refine max_three_num hh (.float x t) (.float y u) (.float z v) fun h' tk kp => ?_
  obtain ⟨v', e⟩ := aux3 x y z t u v (ltV (.float x t) (.float y u)) (ltV (.float y u) (.float z v)) (ltV (.float x t) (.float z v))
  rw [e]
  exact h h' tk v' (F.grownK kp) (N.grown kp)
theorem min_three_ff {x y z : UInt64} {t u v : Tok} {h₀ : Heap} {L : Addr} {m : Str → Option Value} {news : List (Addr × Obj)}
    (hh : A.handled = none) (F : Fr h₀ L s.heap m) (N : News h₀ L s.heap news)
    (h : ∀ h' tk v, Fr h₀ L h' m → News h₀ L h' news → Q (.float (fmin3 x y z) v) { s with heap := h', toks := tk }) :
    wpAny (model prog w) A (call (.builtin "min") [.float x t, .float y u, .float z v]) Q E s := by
  refine min_three_num hh (.float x t) (.float y u) (.float z v) fun h' tk kp => ?_
  obtain ⟨v', e⟩ := aux3 x y z t u v (ltV (.float y u) (.float x t)) (ltV (.float z v) (.float y u)) (ltV (.float z v) (.float x t))
  rw [e]
  exact h h' tk v' (F.grownK kp) (N.grown kp)
theorem div_nz {a b : UInt64} {t u : Tok} (hA : A.handled = none) (hz : Float64.isZero b = false) (h : Q (.float (Float64.div a b) s.toks) { s with toks := s.toks + 1 }) :
    wpAny (model prog w) A (binaryOp .Div (.float a t) (.float b u)) Q E s :=
  truediv_float_or hA (fun hF => by rw [hz] at hF; cases hF) (fun _ => h)
end
end Mine
namespace Mine
open PySem PySem.W PyProof.Rows
/-- a new tuple of three floats -/
noncomputable def Flts3 (a b c : UInt64) (v : Value) (tl : List (Addr × Obj)) : Prop :=
  ∃ l t1 t2 t3, v = .ref l ∧ tl = [(l, { cls := .type "tuple", data := .seq #[.float a t1, .float b t2, .float c t3] })]
theorem flts3 {a b c x y z : UInt64} {l : Addr} {t1 t2 t3 : Tok} (ha : x = a) (hb : y = b) (hc : z = c) :
    Flts3 a b c (.ref l) [(l, { cls := .type "tuple", data := .seq #[.float x t1, .float y t2, .float z t3] })] := by
  subst ha hb hc; exact ⟨_, _, _, _, rfl, rfl⟩
theorem below1 {news : List (Addr × Obj)} {l : Addr} {o : Obj} (h : ∀ p ∈ news, p.1 < l) : ∀ q ∈ news, ∀ p ∈ [(l, o)], @Ne Nat q.1 p.1 := by
  intro q hq p hp
  rw [List.mem_singleton.mp hp]
  exact Nat.ne_of_lt (h q hq)
theorem off1 {news : List (Addr × Obj)} {l : Addr} {o : Obj} (h : LCg.Off1 l news) : ∀ q ∈ news, ∀ p ∈ [(l, o)], @Ne Nat q.1 p.1 := by
  intro q hq p hp
  rw [List.mem_singleton.mp hp]
  induction news with
  | nil => cases hq
  | cons x r ih =>
    rcases List.mem_cons.mp hq with e | hq
    · rw [e]; exact h.1
    · exact ih h.2 hq
theorem feq_of {a b : UInt64} {k : Bool} (h : (Float64.cmp a b == some .eq) = k) : feq a b = k := h
end Mine
end
section
open PySem PySem.W PyProof.Rows PySem.Calls PySem.Flt
namespace Mine
/-- the hue that both functions reckon -/
noncomputable def hueOf (r g b : UInt64) : UInt64 :=
  let maxc := fmax3 r g b
  let rangec := Float64.sub (fmax3 r g b) (fmin3 r g b)
  let rc := Float64.div (Float64.sub maxc r) rangec
  let gc := Float64.div (Float64.sub maxc g) rangec
  let bc := Float64.div (Float64.sub maxc b) rangec
  let h := if feq r maxc = true then Float64.sub bc gc else if feq g maxc = true then Float64.sub (Float64.add c2 rc) bc else Float64.sub (Float64.add c4 gc) rc
  (Float64.divmod (Float64.div h c6) c1).2
noncomputable def satOf (r g b : UInt64) : UInt64 := Float64.div (Float64.sub (fmax3 r g b) (fmin3 r g b)) (fmax3 r g b)
noncomputable abbrev chalf : UInt64 := 4602678819172646912
noncomputable abbrev cthird : UInt64 := 4599676419421066581
noncomputable abbrev csixth : UInt64 := 4595172819793696085
noncomputable abbrev c2third : UInt64 := 4604180019048437077
noncomputable def lightOf (r g b : UInt64) : UInt64 := Float64.div (Float64.add (fmax3 r g b) (fmin3 r g b)) c2
noncomputable def fle (a b : UInt64) : Bool := Float64.cmp a b == some .lt || Float64.cmp a b == some .eq
noncomputable def depthOf (r g b : UInt64) : UInt64 :=
  if fle (lightOf r g b) chalf = true then Float64.div (Float64.sub (fmax3 r g b) (fmin3 r g b)) (Float64.add (fmax3 r g b) (fmin3 r g b))
  else Float64.div (Float64.sub (fmax3 r g b) (fmin3 r g b)) (Float64.sub (Float64.sub c2 (fmax3 r g b)) (fmin3 r g b))


/-- the raw hue, ahead of the sixths -/
noncomputable def rawHue (r g b : UInt64) : UInt64 :=
  let maxc := fmax3 r g b
  let rangec := Float64.sub (fmax3 r g b) (fmin3 r g b)
  let rc := Float64.div (Float64.sub maxc r) rangec
  let gc := Float64.div (Float64.sub maxc g) rangec
  let bc := Float64.div (Float64.sub maxc b) rangec
  if feq r maxc = true then Float64.sub bc gc else if feq g maxc = true then Float64.sub (Float64.add c2 rc) bc else Float64.sub (Float64.add c4 gc) rc
set_option maxRecDepth 100000 in
set_option maxHeartbeats 8000000 in
theorem hsv_ct (w : World) (news : List (Addr × Obj)) (r g b : UInt64) (tr tg tb : Tok)
    (h1 : ¬ (Float64.cmp (fmin3 r g b) (fmax3 r g b) == some .eq) = true) (h2 : Float64.isZero (fmax3 r g b) = false) (h3 : Float64.isZero (Float64.sub (fmax3 r g b) (fmin3 r g b)) = false) :
    Ct w 1 105 news [.float r tr, .float g tg, .float b tb] (Flts3 (hueOf r g b) (satOf r g b) (fmax3 r g b)) := by
  k_with_none
  k_with "eval BinOp" => (k_here; dsimp only; (try k_fold))
  k_with "eval Call" => (k_here; dsimp only; (try k_fold))
  k_with "eval Subscript" => (k_here; dsimp only; (try k_fold))
  k_with "execs cons" => (k_here; (with_reducible show wpAny _ _ _ _ _ (Shared.mk _ _ _ (_ + 1) _)); refine gen_tk ?_; intro tk9; (try dsimp only); (try k_fold))
  k_with "eval BinOp" => (k_here; (with_reducible show wpAny _ _ _ _ _ (Shared.mk _ _ _ (_ + 1) _)); refine gen_tk ?_; intro tk9; (try dsimp only); (try k_fold))
  k_with "call builtin:max" => (k_here; (with_reducible show wpAny _ _ (call _ [Value.float _ _, Value.float _ _, Value.float _ _]) _ _ _); k_dflt (refine' max_three_ff ?k0 ?k1 ?k2 ?_; (case k0 => rfl); (case k1 => k_asm); (case k2 => k_asm); k_whole); intro h' tk' v' F' N'; (try k_sweep))
  k_with "call builtin:min" => (k_here; (with_reducible show wpAny _ _ (call _ [Value.float _ _, Value.float _ _, Value.float _ _]) _ _ _); k_dflt (refine' min_three_ff ?k0 ?k1 ?k2 ?_; (case k0 => rfl); (case k1 => k_asm); (case k2 => k_asm); k_whole); intro h' tk' v' F' N'; (try k_sweep))
  k_with "binaryOp Div float float" => (k_here; k_dflt (refine' div_nz ?k0 ?k1 ?_; (case k0 => rfl); (case k1 => first | with_reducible assumption | decide +kernel); k_whole))
  k_with "execs cons" => (k_here; (with_reducible show wpAny _ _ (execs (Stmt.If _ _ (_ :: _) _ :: _ :: _) _) _ _ _); with_reducible refine stopC ?_)
  unfold Ct PG
  k_fill
  intro mean mg mb dp un gd cn cs a ccd cl outer A₀ base h₀ L m s Q E B F X N T hk hd hu hret
  refine wpAny_call ?_
  k_dflt cell_enter
  conv in (execs _ _) => arg 1; whnf
  k_steps
  refine StopC.of ?_
  (rename Fr _ _ _ _ => lF); (rename News _ _ _ _ => lN)
  refine cutF (Str.ofString "h") (rawHue r g b) lF lN ?_ ?_
  · k_steps
    all_goals (
      (rename Fr _ _ _ _ => lF2); (rename News _ _ _ _ => lN2)
      refine cutF_mk ?_ lF2 lN2)
    all_goals (simp only [rawHue, feq, *, if_true, if_false, Bool.false_eq_true])
  intro h6 tk6 t6 F6 N6
  clear lF lN
  try dsimp only
  k_steps
  all_goals (refine hret _ [(_, _)] _ _ (by assumption) (by assumption) (below1 (by assumption)) (flts3 rfl rfl rfl))

set_option maxRecDepth 100000 in
set_option maxHeartbeats 8000000 in
theorem hsv_grey_ct (w : World) (news : List (Addr × Obj)) (r g b : UInt64) (tr tg tb : Tok)
    (h1 : (Float64.cmp (fmin3 r g b) (fmax3 r g b) == some .eq) = true) :
    Ct w 1 105 news [.float r tr, .float g tg, .float b tb] (Flts3 0 0 (fmax3 r g b)) := by
  k_with_none
  k_with "eval BinOp" => (k_here; dsimp only; (try k_fold))
  k_with "eval Call" => (k_here; dsimp only; (try k_fold))
  k_with "eval Subscript" => (k_here; dsimp only; (try k_fold))
  k_with "execs cons" => (k_here; (with_reducible show wpAny _ _ _ _ _ (Shared.mk _ _ _ (_ + 1) _)); refine gen_tk ?_; intro tk9; (try dsimp only); (try k_fold))
  k_with "eval BinOp" => (k_here; (with_reducible show wpAny _ _ _ _ _ (Shared.mk _ _ _ (_ + 1) _)); refine gen_tk ?_; intro tk9; (try dsimp only); (try k_fold))
  k_with "call builtin:max" => (k_here; (with_reducible show wpAny _ _ (call _ [Value.float _ _, Value.float _ _, Value.float _ _]) _ _ _); k_dflt (refine' max_three_ff ?k0 ?k1 ?k2 ?_; (case k0 => rfl); (case k1 => k_asm); (case k2 => k_asm); k_whole); intro h' tk' v' F' N'; (try k_sweep))
  k_with "call builtin:min" => (k_here; (with_reducible show wpAny _ _ (call _ [Value.float _ _, Value.float _ _, Value.float _ _]) _ _ _); k_dflt (refine' min_three_ff ?k0 ?k1 ?k2 ?_; (case k0 => rfl); (case k1 => k_asm); (case k2 => k_asm); k_whole); intro h' tk' v' F' N'; (try k_sweep))
  k_with "binaryOp Div float float" => (k_here; k_dflt (refine' div_nz ?k0 ?k1 ?_; (case k0 => rfl); (case k1 => first | with_reducible assumption | decide +kernel); k_whole))
  unfold Ct PG
  k_fill
  intro mean mg mb dp un gd cn cs a ccd cl outer A₀ base h₀ L m s Q E B F X N T hk hd hu hret
  refine wpAny_call ?_
  k_dflt cell_enter
  conv in (execs _ _) => arg 1; whnf
  k_steps
  all_goals (refine hret _ [(_, _)] _ _ (by assumption) (by assumption) (below1 (by assumption)) (flts3 rfl rfl rfl))

set_option maxRecDepth 100000 in
set_option maxHeartbeats 8000000 in
theorem hls_ct (w : World) (news : List (Addr × Obj)) (r g b : UInt64) (tr tg tb : Tok)
    (h1 : ¬ (Float64.cmp (fmin3 r g b) (fmax3 r g b) == some .eq) = true) (h2 : Float64.isZero (Float64.add (fmax3 r g b) (fmin3 r g b)) = false) (h4 : Float64.isZero (Float64.sub (Float64.sub c2 (fmax3 r g b)) (fmin3 r g b)) = false)
    (h3 : Float64.isZero (Float64.sub (fmax3 r g b) (fmin3 r g b)) = false) :
    Ct w 1 84 news [.float r tr, .float g tg, .float b tb] (Flts3 (hueOf r g b) (lightOf r g b) (depthOf r g b)) := by
  k_with_none
  k_with "eval BinOp" => (k_here; dsimp only; (try k_fold))
  k_with "eval Call" => (k_here; dsimp only; (try k_fold))
  k_with "eval Subscript" => (k_here; dsimp only; (try k_fold))
  k_with "execs cons" => (k_here; (with_reducible show wpAny _ _ _ _ _ (Shared.mk _ _ _ (_ + 1) _)); refine gen_tk ?_; intro tk9; (try dsimp only); (try k_fold))
  k_with "eval BinOp" => (k_here; (with_reducible show wpAny _ _ _ _ _ (Shared.mk _ _ _ (_ + 1) _)); refine gen_tk ?_; intro tk9; (try dsimp only); (try k_fold))
  k_with "call builtin:max" => (k_here; (with_reducible show wpAny _ _ (call _ [Value.float _ _, Value.float _ _, Value.float _ _]) _ _ _); k_dflt (refine' max_three_ff ?k0 ?k1 ?k2 ?_; (case k0 => rfl); (case k1 => k_asm); (case k2 => k_asm); k_whole); intro h' tk' v' F' N'; (try k_sweep))
  k_with "call builtin:min" => (k_here; (with_reducible show wpAny _ _ (call _ [Value.float _ _, Value.float _ _, Value.float _ _]) _ _ _); k_dflt (refine' min_three_ff ?k0 ?k1 ?k2 ?_; (case k0 => rfl); (case k1 => k_asm); (case k2 => k_asm); k_whole); intro h' tk' v' F' N'; (try k_sweep))
  k_with "binaryOp Div float float" => (k_here; k_dflt (refine' div_nz ?k0 ?k1 ?_; (case k0 => rfl); (case k1 => first | with_reducible assumption | decide +kernel); k_whole))
  k_with "execs cons" => (k_here; (with_reducible show wpAny _ _ (execs (Stmt.If _ _ (_ :: _) _ :: _ :: _) _) _ _ _); with_reducible refine stopC ?_)
  unfold Ct PG
  k_fill
  intro mean mg mb dp un gd cn cs a ccd cl outer A₀ base h₀ L m s Q E B F X N T hk hd hu hret
  refine wpAny_call ?_
  k_dflt cell_enter
  conv in (execs _ _) => arg 1; whnf
  k_steps
  refine StopC.of ?_
  (rename Fr _ _ _ _ => lF); (rename News _ _ _ _ => lN)
  refine cutF (Str.ofString "s") (depthOf r g b) lF lN ?_ ?_
  · k_steps
    all_goals (
      (rename Fr _ _ _ _ => lF2); (rename News _ _ _ _ => lN2)
      refine cutF_mk ?_ lF2 lN2)
    all_goals (simp only [depthOf, fle, lightOf, *, if_true, if_false, Bool.false_eq_true])
  intro h5 tk5 t5 F5 N5
  clear lF lN
  try dsimp only
  k_steps
  refine StopC.of ?_
  (rename Fr _ _ _ _ => lF); (rename News _ _ _ _ => lN)
  refine cutF (Str.ofString "h") (rawHue r g b) lF lN ?_ ?_
  · k_steps
    all_goals (
      (rename Fr _ _ _ _ => lF2); (rename News _ _ _ _ => lN2)
      refine cutF_mk ?_ lF2 lN2)
    all_goals (simp only [rawHue, feq, *, if_true, if_false, Bool.false_eq_true])
  intro h6 tk6 t6 F6 N6
  clear lF lN
  try dsimp only
  k_steps
  all_goals (refine hret _ [(_, _)] _ _ (by assumption) (by assumption) (below1 (by assumption)) (flts3 rfl rfl rfl))

set_option maxRecDepth 100000 in
set_option maxHeartbeats 8000000 in
theorem hls_grey_ct (w : World) (news : List (Addr × Obj)) (r g b : UInt64) (tr tg tb : Tok)
    (h1 : (Float64.cmp (fmin3 r g b) (fmax3 r g b) == some .eq) = true) :
    Ct w 1 84 news [.float r tr, .float g tg, .float b tb] (Flts3 0 (lightOf r g b) 0) := by
  k_with_none
  k_with "eval BinOp" => (k_here; dsimp only; (try k_fold))
  k_with "eval Call" => (k_here; dsimp only; (try k_fold))
  k_with "eval Subscript" => (k_here; dsimp only; (try k_fold))
  k_with "execs cons" => (k_here; (with_reducible show wpAny _ _ _ _ _ (Shared.mk _ _ _ (_ + 1) _)); refine gen_tk ?_; intro tk9; (try dsimp only); (try k_fold))
  k_with "eval BinOp" => (k_here; (with_reducible show wpAny _ _ _ _ _ (Shared.mk _ _ _ (_ + 1) _)); refine gen_tk ?_; intro tk9; (try dsimp only); (try k_fold))
  k_with "call builtin:max" => (k_here; (with_reducible show wpAny _ _ (call _ [Value.float _ _, Value.float _ _, Value.float _ _]) _ _ _); k_dflt (refine' max_three_ff ?k0 ?k1 ?k2 ?_; (case k0 => rfl); (case k1 => k_asm); (case k2 => k_asm); k_whole); intro h' tk' v' F' N'; (try k_sweep))
  k_with "call builtin:min" => (k_here; (with_reducible show wpAny _ _ (call _ [Value.float _ _, Value.float _ _, Value.float _ _]) _ _ _); k_dflt (refine' min_three_ff ?k0 ?k1 ?k2 ?_; (case k0 => rfl); (case k1 => k_asm); (case k2 => k_asm); k_whole); intro h' tk' v' F' N'; (try k_sweep))
  k_with "binaryOp Div float float" => (k_here; k_dflt (refine' div_nz ?k0 ?k1 ?_; (case k0 => rfl); (case k1 => first | with_reducible assumption | decide +kernel); k_whole))
  unfold Ct PG
  k_fill
  intro mean mg mb dp un gd cn cs a ccd cl outer A₀ base h₀ L m s Q E B F X N T hk hd hu hret
  refine wpAny_call ?_
  k_dflt cell_enter
  conv in (execs _ _) => arg 1; whnf
  k_steps
  all_goals (refine hret _ [(_, _)] _ _ (by assumption) (by assumption) (below1 (by assumption)) (flts3 rfl rfl rfl))
end Mine
end
section
open PySem PySem.W PyProof.Rows PySem.Calls PySem.Flt
namespace Mine
noncomputable def hsvI (h : UInt64) : Int := toInt Float64.truncOf (Float64.mul h c6)
noncomputable def hsvF (h : UInt64) : UInt64 := Float64.sub (Float64.mul h c6) (Float64.ofInt (hsvI h))
noncomputable def hsvP (s v : UInt64) : UInt64 := Float64.mul v (Float64.sub c1 s)
noncomputable def hsvQ (h s v : UInt64) : UInt64 := Float64.mul v (Float64.sub c1 (Float64.mul s (hsvF h)))
noncomputable def hsvT (h s v : UInt64) : UInt64 := Float64.mul v (Float64.sub c1 (Float64.mul s (Float64.sub c1 (hsvF h))))
theorem fm6 (x : Int) : 0 ≤ x.fmod 6 ∧ x.fmod 6 < 6 := by
  rw [Int.fmod_eq_emod_of_nonneg _ (by decide)]
  omega
/-- one of six -/
noncomputable def pick6 (i : Int) (a b c d e f : UInt64) : UInt64 :=
  if i.fmod 6 = 0 then a else if i.fmod 6 = 1 then b else if i.fmod 6 = 2 then c else if i.fmod 6 = 3 then d else if i.fmod 6 = 4 then e else f
section
variable {i : Int} {a b c d e f : UInt64}
theorem p6_0 (h : i.fmod 6 = 0) : pick6 i a b c d e f = a := by simp [pick6, h]
theorem p6_1 (h : i.fmod 6 = 1) : pick6 i a b c d e f = b := by simp [pick6, h]
theorem p6_2 (h : i.fmod 6 = 2) : pick6 i a b c d e f = c := by simp [pick6, h]
theorem p6_3 (h : i.fmod 6 = 3) : pick6 i a b c d e f = d := by simp [pick6, h]
theorem p6_4 (h : i.fmod 6 = 4) : pick6 i a b c d e f = e := by simp [pick6, h]
theorem p6_5 (h : i.fmod 6 = 5) : pick6 i a b c d e f = f := by simp [pick6, h]
end
noncomputable def rgbR (h s v : UInt64) : UInt64 := pick6 (hsvI h) v (hsvQ h s v) (hsvP s v) (hsvP s v) (hsvT h s v) v
noncomputable def rgbG (h s v : UInt64) : UInt64 := pick6 (hsvI h) (hsvT h s v) v v (hsvQ h s v) (hsvP s v) (hsvP s v)
noncomputable def rgbB (h s v : UInt64) : UInt64 := pick6 (hsvI h) (hsvP s v) (hsvP s v) (hsvT h s v) v v (hsvQ h s v)

set_option maxRecDepth 100000 in
set_option maxHeartbeats 8000000 in
theorem rgb_ct (w : World) (news : List (Addr × Obj)) (h s v : UInt64) (tr tg tb : Tok)
    (h1 : ¬ (Float64.cmp s 0 == some .eq) = true) (h2 : Float64.isFinite (Float64.mul h c6) = true) (h3 : 0 ≤ toInt Float64.truncOf (Float64.mul h c6)) (h4 : toInt Float64.truncOf (Float64.mul h c6) < 100) :
    Ct w 1 112 news [.float h tr, .float s tg, .float v tb] (Flts3 (rgbR h s v) (rgbG h s v) (rgbB h s v)) := by
  k_with_none
  k_with "binaryOp Div float float" => (k_here; k_dflt (refine' div_nz ?k0 ?k1 ?_; (case k0 => rfl); (case k1 => first | with_reducible assumption | decide +kernel); k_whole))
  unfold Ct PG
  k_fill
  intro mean mg mb dp un gd cn cs a ccd cl outer A₀ base h₀ L m s Q E B F X N T hk hd hu hret
  refine wpAny_call ?_
  k_dflt cell_enter
  conv in (execs _ _) => arg 1; whnf
  k_steps
  all_goals first | (exfalso; have fm := fm6 (toInt Float64.truncOf (Float64.mul h 4618441417868443648)); clear hu hd; omega) | (refine hret _ [(_, _)] _ _ (by assumption) (by assumption) (below1 (by assumption)) (flts3 ?_ ?_ ?_))
  all_goals first | exact (p6_0 (by assumption)).symm | exact (p6_1 (by assumption)).symm | exact (p6_2 (by assumption)).symm | exact (p6_3 (by assumption)).symm | exact (p6_4 (by assumption)).symm | exact (p6_5 (by assumption)).symm

set_option maxRecDepth 100000 in
set_option maxHeartbeats 8000000 in
theorem rgb_grey_ct (w : World) (news : List (Addr × Obj)) (h s v : UInt64) (tr tg tb : Tok)
    (h1 : (Float64.cmp s 0 == some .eq) = true) :
    Ct w 1 112 news [.float h tr, .float s tg, .float v tb] (Flts3 v v v) := by
  k_with_none
  k_with "binaryOp Div float float" => (k_here; k_dflt (refine' div_nz ?k0 ?k1 ?_; (case k0 => rfl); (case k1 => first | with_reducible assumption | decide +kernel); k_whole))
  unfold Ct PG
  k_fill
  intro mean mg mb dp un gd cn cs a ccd cl outer A₀ base h₀ L m s Q E B F X N T hk hd hu hret
  refine wpAny_call ?_
  k_dflt cell_enter
  conv in (execs _ _) => arg 1; whnf
  k_steps
  all_goals (refine hret _ [(_, _)] _ _ (by assumption) (by assumption) (below1 (by assumption)) (flts3 ?_ ?_ ?_))
  all_goals rfl

/-- one float, nothing new -/
noncomputable def Flt1 (a : UInt64) (v : Value) (tl : List (Addr × Obj)) : Prop := tl = [] ∧ ∃ t, v = .float a t
theorem flt1 {a x : UInt64} {t : Tok} (h : x = a) : Flt1 a (.float x t) [] := by subst h; exact ⟨rfl, _, rfl⟩
theorem below0 {news : List (Addr × Obj)} : ∀ q ∈ news, ∀ p ∈ ([] : List (Addr × Obj)), @Ne Nat q.1 p.1 := fun _ _ _ hp => nomatch hp
noncomputable def fmod1 (x : UInt64) : UInt64 := (Float64.divmod x c1).2
noncomputable def vOf (m1 m2 hue : UInt64) : UInt64 :=
  if (Float64.cmp (fmod1 hue) csixth == some .lt) = true then Float64.add m1 (Float64.mul (Float64.mul (Float64.sub m2 m1) (fmod1 hue)) c6)
  else if (Float64.cmp (fmod1 hue) chalf == some .lt) = true then m2
  else if (Float64.cmp (fmod1 hue) c2third == some .lt) = true then Float64.add m1 (Float64.mul (Float64.mul (Float64.sub m2 m1) (Float64.sub c2third (fmod1 hue))) c6)
  else m1

set_option maxRecDepth 100000 in
set_option maxHeartbeats 8000000 in
theorem v_ct (w : World) (news : List (Addr × Obj)) (h s v : UInt64) (tr tg tb : Tok) :
    Ct w 1 98 news [.float h tr, .float s tg, .float v tb] (Flt1 (vOf h s v)) := by
  k_with_none
  k_with "binaryOp Div float float" => (k_here; k_dflt (refine' div_nz ?k0 ?k1 ?_; (case k0 => rfl); (case k1 => first | with_reducible assumption | decide +kernel); k_whole))
  unfold Ct PG
  k_fill
  intro mean mg mb dp un gd cn cs a ccd cl outer A₀ base h₀ L m s Q E B F X N T hk hd hu hret
  refine wpAny_call ?_
  k_dflt cell_enter
  conv in (execs _ _) => arg 1; whnf
  k_steps
  all_goals (refine hret _ [] _ _ (by assumption) (by assumption) below0 (flt1 ?_))
  all_goals (simp only [vOf, fmod1, *, if_true, if_false, Bool.false_eq_true])
end Mine
end
section
open PySem PySem.W PyProof.Rows PySem.Calls PySem.Flt
namespace Mine
noncomputable def m2Of (l s : UInt64) : UInt64 :=
  if fle l chalf = true then Float64.mul l (Float64.add c1 s) else Float64.sub (Float64.add l s) (Float64.mul l s)
noncomputable def m1Of (l s : UInt64) : UInt64 := Float64.sub (Float64.mul c2 l) (m2Of l s)
noncomputable def hlsR (h l s : UInt64) : UInt64 := vOf (m1Of l s) (m2Of l s) (Float64.add h cthird)
noncomputable def hlsG (h l s : UInt64) : UInt64 := vOf (m1Of l s) (m2Of l s) h
noncomputable def hlsB (h l s : UInt64) : UInt64 := vOf (m1Of l s) (m2Of l s) (Float64.sub h cthird)

set_option maxRecDepth 100000 in
set_option maxHeartbeats 8000000 in
theorem hls_rgb_ct (w : World) (news : List (Addr × Obj)) (h l s : UInt64) (tr tg tb : Tok) (h1 : ¬ (Float64.cmp s 0 == some .eq) = true) :
    Ct w 2 91 news [.float h tr, .float l tg, .float s tb] (Flts3 (hlsR h l s) (hlsG h l s) (hlsB h l s)) := by
  k_with_none
  k_with "call ref" => (k_here; k_dflt (refine' ct_use (v_ct _ _ _ _ _ _ _ _) ?k1 ?k2 ?k3 ?k4 ?k5 ?k6 ?k7 ?k8 ?_; (case k1 => k_asm); (case k2 => k_asm); (case k3 => k_asm); (case k4 => k_asm); (case k5 => k_asm); (case k6 => first | exact rfl | assumption); (case k7 => ktr_room); (case k8 => ktr_units); intro r9 tl9 h9 tk9 F9 N9 hl9 hp9; obtain ⟨e9, t9, e9'⟩ := hp9; subst e9; subst e9'; (try simp only [List.nil_append] at N9); clear hl9; (try dsimp only); (try k_sweep); (try k_fold)))
  unfold Ct PG
  k_fill
  intro mean mg mb dp un gd cn cs a ccd cl outer A₀ base h₀ L m s Q E B F X N T hk hd hu hret
  refine wpAny_call ?_
  k_dflt cell_enter
  conv in (execs _ _) => arg 1; whnf
  k_steps
  all_goals (refine hret _ [(_, _)] _ _ (by assumption) (by assumption) (below1 (by assumption)) (flts3 ?_ ?_ ?_))
  all_goals (simp only [hlsR, hlsG, hlsB, m1Of, m2Of, fle, *, if_true, if_false, Bool.false_eq_true])

set_option maxRecDepth 100000 in
set_option maxHeartbeats 8000000 in
theorem hls_rgb_grey_ct (w : World) (news : List (Addr × Obj)) (h l s : UInt64) (tr tg tb : Tok) (h1 : (Float64.cmp s 0 == some .eq) = true) :
    Ct w 2 91 news [.float h tr, .float l tg, .float s tb] (Flts3 l l l) := by
  k_with_none
  k_with "call ref" => (k_here; k_dflt (refine' ct_use (v_ct _ _ _ _ _ _ _ _) ?k1 ?k2 ?k3 ?k4 ?k5 ?k6 ?k7 ?k8 ?_; (case k1 => k_asm); (case k2 => k_asm); (case k3 => k_asm); (case k4 => k_asm); (case k5 => k_asm); (case k6 => first | exact rfl | assumption); (case k7 => ktr_room); (case k8 => ktr_units); intro r9 tl9 h9 tk9 F9 N9 hl9 hp9; obtain ⟨e9, t9, e9'⟩ := hp9; subst e9; subst e9'; (try simp only [List.nil_append] at N9); clear hl9; (try dsimp only); (try k_sweep); (try k_fold)))
  unfold Ct PG
  k_fill
  intro mean mg mb dp un gd cn cs a ccd cl outer A₀ base h₀ L m s Q E B F X N T hk hd hu hret
  refine wpAny_call ?_
  k_dflt cell_enter
  conv in (execs _ _) => arg 1; whnf
  k_steps
  all_goals (refine hret _ [(_, _)] _ _ (by assumption) (by assumption) (below1 (by assumption)) (flts3 ?_ ?_ ?_))
  all_goals rfl
end Mine
end
section
open PySem PySem.W PyProof.Rows PySem.Calls PySem.Flt PyProof.Rows.LCg
namespace Mine
section
variable {prog : Program} {w : World} {A : Around} {E : Value → Shared → Prop} {s : Shared} {h₀ : Heap} {L : Addr} {m : Str → Option Value} {env : Env}
noncomputable def TupIn (ax : Addr) (its : Array Value) (news : List (Addr × Obj)) : Prop := ∃ o, (ax, o) ∈ news ∧ o.cls = .type "tuple" ∧ ∃ n, o.data = .seq its n
theorem TupIn.tup {h : Heap} {ax : Addr} {its : Array Value} {news : List (Addr × Obj)} (x : TupIn ax its news) (N : News h₀ L h news) : h.IsTuple ax its := by
  obtain ⟨o, hm, hc, n, hd⟩ := x
  exact ⟨o, (N _ hm).1, hc, n, hd⟩
theorem tup_st {ax I : Addr} {its : Array Value} : ∀ i (h h' : Heap) (o : Obj) (nw : List (Addr × Obj)), (h.IsTupleIter I ax i ∧ h.IsTuple ax its) → h.get? I = some o → h'.get? I = some o → (∀ b o, h₀.get? b = some o → h'.get? b = some o) → News h₀ L h' nw → TupIn ax its nw → (h'.IsTupleIter I ax i ∧ h'.IsTuple ax its) :=
  fun i h h' o nw st e e' k N S => ⟨by obtain ⟨o', q, r⟩ := st.1; rw [e] at q; cases q; exact ⟨o, e', r⟩, S.tup N⟩
noncomputable def TupSrc (prog : Program) (w : World) (A : Around) (h₀ : Heap) (L : Addr) (m : Str → Option Value) (env : Env) (elt : Expr) (x : Str) (scope : Scope) (cl : List (Str × Addr)) (Fin : Shared → List Value → List (Addr × Obj) → Prop) (xv : Value) (s₁ : Shared) : Prop :=
  ∃ ax its news, xv = .ref ax ∧ A.handled = none ∧ Fr h₀ L s₁.heap m ∧ News h₀ L s₁.heap news ∧ TupIn ax its news ∧ its.size ≤ sizeLine ∧
    ∀ s₂ : Shared, (∃ h, s₂ = { s₁ with heap := h }) → CompRest prog w A h₀ L m env elt x scope cl s₂ (TupIn ax its) (fun i v => its[i]? = some v) (Fin s₂) its.size 0 [] news
theorem TupSrc.intro {elt : Expr} {x : Str} {scope : Scope} {cl : List (Str × Addr)} {Fin : Shared → List Value → List (Addr × Obj) → Prop} {ax : Addr} {its : Array Value} {k : Nat} {news : List (Addr × Obj)} {s₁ : Shared}
    (hh : A.handled = none) (F : Fr h₀ L s₁.heap m) (N : News h₀ L s₁.heap news) (hm : (ax, ({ cls := .type "tuple", data := .seq its k } : Obj)) ∈ news) (hsz : its.size ≤ sizeLine)
    (h : ∀ g, CompRest prog w A h₀ L m env elt x scope cl { s₁ with heap := g } (TupIn ax its) (fun i v => its[i]? = some v) (Fin { s₁ with heap := g }) its.size 0 [] news) :
    TupSrc prog w A h₀ L m env elt x scope cl Fin (.ref ax) s₁ := ⟨ax, its, news, rfl, hh, F, N, ⟨_, hm, rfl, _, rfl⟩, hsz, fun _ ⟨g, e⟩ => e ▸ h g⟩
theorem ListComp_tup {elt iter : Expr} {x : Str} {px : Pos} {scope : Scope} {cl : List (Str × Addr)} {pos : Pos} {Q : Value → Shared → Prop} (F₀ : Fr h₀ L s.heap m)
    (hclos : closureFor scope env = pure cl) (hcell : ∀ y ∈ scope.names, y.2 ≠ .cell) (hkind : scope.kind = .function)
    (hnames : ∀ y ∈ scope.names, y.2 = .local → scope.names.lookup y.1 = some .local) (hx : scope.names.lookup x = some .local)
    (h : wpAny (model prog w) A (eval iter env) (TupSrc prog w A h₀ L m env elt x scope cl (fun s₂ => FinE h₀ L m s₂ Q)) E s)
    (hs : ∀ x, foldedSetIterable iter env x = pure x := by intro _; rfl) :
    wpAny (model prog w) A (eval (.ListComp elt [⟨.Name x px, iter, [], 0⟩] scope pos) env) Q E s := by
  rw [eval_ListComp]
  refine wpAny_comprehension_free (use := none) rfl hs hclos hkind hnames (wpAny_mono h (fun xv s₁ h₁ => ?_) fun _ _ e => e)
  obtain ⟨ax, its, news, rfl, hh, F, N, S, hsz, R⟩ := h₁
  have hl := S.tup N
  have hlt : ax < s₁.heap.objs.size := by obtain ⟨_, e, _⟩ := hl; exact Heap.lt_size e
  refine wpAny_pyIter_tuple hl ?_
  have up : ∀ b o, s₁.heap.get? b = some o → (s₁.heap.push { cls := .type "tuple_iterator", data := .fields #[.ref ax, .int 0 0] }).get? b = some o := fun b o e => Heap.get?_push_of_some _ e
  refine block_U (Walks.tuple hh s₁.heap.objs.size ax (Nat.ne_of_lt hlt) its) hsz (fun i h st => by obtain ⟨o, e, _⟩ := st.1; exact ⟨o, e⟩) tup_st hcell hkind hx ⟨⟨_, Heap.get?_push_size _ rfl, rfl, rfl⟩, hl.push _⟩ (fun b hb => ?_)
    (F.keeps up) (N.grown up) (Nat.ne_of_lt F.ns.lt) (next_is_new F) (fun p hp => Nat.ne_of_lt (Heap.lt_size (N p hp).1)) S (R _ ⟨_, rfl⟩) ?_
  · show b < (s₁.heap.push _).objs.size
    rw [Heap.size_push]
    rcases List.mem_cons.mp hb with rfl | hb
    · exact Nat.lt_succ_self _
    · rw [List.mem_singleton.mp hb]; exact Nat.lt_succ_of_lt hlt
  · intro D C h tk m' ys news' F' N' o1 hn hC₀ hD₀ hCL hDL hCD offC fin
    refine ⟨m', hn, fun h'' hs'' => fin D h'' tk (F'.change hs'' hCL hC₀) (fun p hp => ?_) o1⟩
    refine ⟨hs''.extBut _ _ ?_ (N' p hp).1, (N' p hp).2⟩
    rcases List.mem_cons.mp hp with rfl | hp
    · exact Ne.symm hCD
    · exact offC p hp
end
end Mine
end
section
open PySem PySem.W PyProof.Rows PySem.Calls PySem.Flt
namespace Mine
theorem compEnd_tail {h₀ : Heap} {L : Addr} {m : Str → Option Value} {s₁ : Shared} {I C D : Addr} {oI oC oD : Obj} {S : List (Addr × Obj) → Prop} {rest : Value → List (Addr × Obj) → Prop} {y : Value} {h : Heap} {tk : Nat} {nw : List (Addr × Obj)}
    (F : Fr h₀ L h m) (N : News h₀ L h ((I, oI) :: (C, oC) :: (D, oD) :: nw)) (off : LCg.Off3 I C D nw) (hS : S nw) (hr : rest y nw) :
    LCg.CompEnd h₀ L m s₁ I oI C oC D oD S rest y { s₁ with heap := h, toks := tk } :=
  LCg.CompEnd.intro F N nw (fun p hp => hp) off hS hr
/-- a new list of three ints -/
noncomputable def Ints3 (a b c : Int) (v : Value) (tl : List (Addr × Obj)) : Prop :=
  ∃ l t1 t2 t3 n, v = .ref l ∧ tl = [(l, listOf #[.int a t1, .int b t2, .int c t3] n)]
theorem ints3 {a b c x y z : Int} {l : Addr} {t1 t2 t3 : Tok} {n : Nat} (ha : x = a) (hb : y = b) (hc : z = c) :
    Ints3 a b c (.ref l) [(l, { cls := .type "list", data := .seq #[.int x t1, .int y t2, .int z t3] n })] := by
  subst ha hb hc; exact ⟨_, _, _, _, _, rfl, rfl⟩
noncomputable def wholeOf (x : UInt64) : Int := toInt Float64.truncOf (Float64.add (Float64.mul x (Float64.ofInt 64)) chalf)

local macro_rules | `(tactic| lcg_src) => `(tactic| exact ⟨_, by k_mem, rfl, _, rfl⟩)

set_option maxRecDepth 100000 in
set_option maxHeartbeats 8000000 in
theorem whole_ct (w : World) (news : List (Addr × Obj)) (x y z : UInt64) (l : Addr) (t1 t2 t3 : Tok)
    (h1 : Float64.isFinite (Float64.add (Float64.mul x (Float64.ofInt 64)) chalf) = true) (h2 : Float64.isFinite (Float64.add (Float64.mul y (Float64.ofInt 64)) chalf) = true) (h3 : Float64.isFinite (Float64.add (Float64.mul z (Float64.ofInt 64)) chalf) = true) :
    Ct w 2 226 ((l, { cls := .type "tuple", data := .seq #[.float x t1, .float y t2, .float z t3] }) :: news) [.ref l] (Ints3 (wholeOf x) (wholeOf y) (wholeOf z)) := by
  k_with_none
  k_with "eval BinOp" => (k_here; dsimp only; (try k_fold))
  k_with "eval Call" => (k_here; dsimp only; (try k_fold))
  k_with "eval Subscript" => (k_here; dsimp only; (try k_fold))
  k_with "eval ListComp" => (k_here; lcg_look; lcg_calm; k_dflt (refine ListComp_tup (F₀ := by k_asm) (by rfl) (by decide) (by rfl) (by decide) (by rfl) ?_); walk1)
  k_with "TupSrc" => (k_here; k_dflt (refine TupSrc.intro (by rfl) (by k_asm) (by k_asm) (by k_mem) (by first | size_fits | exact Nat.le_of_ble_eq_true rfl) ?_; intro g'; lcg_lit))
  k_with "CompEnd" => ((rename News _ _ _ _ => lN'); k_dflt (refine compEnd_tail (by assumption) lN' (by assumption) (by lcg_src) ?_))
  unfold Ct PG
  k_fill
  intro mean mg mb dp un gd cn cs a ccd cl outer A₀ base h₀ L m s Q E B F X N T hk hd hu hret
  refine wpAny_call ?_
  k_dflt cell_enter
  conv in (execs _ _) => arg 1; whnf
  k_steps
  all_goals (refine hret _ [(_, _)] _ _ (by assumption) (by assumption) (off1 (by assumption)) (ints3 rfl rfl rfl))
end Mine
end
section
open PySem PySem.W PyProof.Rows PySem.Calls PySem.Flt
namespace Mine
theorem allNe {news : List (Addr × Obj)} {l : Addr} {o : Obj} (h : AllLt l news) : ∀ q ∈ news, ∀ p ∈ [(l, o)], @Ne Nat q.1 p.1 := by
  intro q hq p hp
  rw [List.mem_singleton.mp hp]
  exact Nat.ne_of_lt (kst_ltOf h q hq)
theorem drop3 {h₀ h : Heap} {L : Addr} {a b c e : Addr × Obj} {news : List (Addr × Obj)} (N : News h₀ L h (a :: b :: c :: e :: news)) : News h₀ L h (a :: news) := fun p hp => N p (by
  rcases List.mem_cons.mp hp with rfl | hp
  · exact .head _
  · exact .tail _ (.tail _ (.tail _ (.tail _ hp))))
noncomputable def mx3 (x y z : Int) : Int := max (max x y) z
noncomputable def mn3 (x y z : Int) : Int := min (min x y) z
noncomputable def in3 (d a b c : Int) : Int := if d = a ∨ d = b ∨ d = c then 1 else 0
noncomputable def nextR (x y z d : Int) : Int := if d = 6 then mx3 x y z + mn3 x y z - y else if d = 7 then mx3 x y z + mn3 x y z - z else x + in3 d 5 0 1
noncomputable def nextG (x y z d : Int) : Int := if d = 6 then mx3 x y z + mn3 x y z - z else if d = 7 then mx3 x y z + mn3 x y z - x else y + in3 d 1 2 3
noncomputable def nextB (x y z d : Int) : Int := if d = 6 then mx3 x y z + mn3 x y z - x else if d = 7 then mx3 x y z + mn3 x y z - y else z + in3 d 3 4 5
theorem mm_ge {x y z : Int} : x ≤ mx3 x y z ∧ y ≤ mx3 x y z ∧ z ≤ mx3 x y z ∧ mn3 x y z ≤ x ∧ mn3 x y z ≤ y ∧ mn3 x y z ≤ z :=
  ⟨Int.le_trans (Int.le_max_left x y) (Int.le_max_left _ z), Int.le_trans (Int.le_max_right x y) (Int.le_max_left _ z), Int.le_max_right _ z, Int.le_trans (Int.min_le_left _ z) (Int.min_le_left x y), Int.le_trans (Int.min_le_left _ z) (Int.min_le_right x y), Int.min_le_right _ z⟩
theorem in3_any {d a b c : Int} : (if ([a, b, c].any fun x => x == d) = true then (1 : Int) else 0) = in3 d a b c := by
  unfold in3
  simp only [List.any_cons, List.any_nil, Bool.or_false, Bool.or_eq_true, beq_iff_eq]
  congr 1
  simp only [eq_iff_iff]
  omega
theorem mx3_is {M x y z : Int} (a : M = x ∨ M = y ∨ M = z) (b : x ≤ M ∧ y ≤ M ∧ z ≤ M) : M = mx3 x y z := by unfold mx3; omega
theorem mn3_is {M x y z : Int} (a : M = x ∨ M = y ∨ M = z) (b : M ≤ x ∧ M ≤ y ∧ M ≤ z) : M = mn3 x y z := by unfold mn3; omega
section
variable {M N x y z d : Int}
theorem n6R (h : d = 6) (hm : M = mx3 x y z) (hn : N = mn3 x y z) : M + N - y = nextR x y z d := by subst h hm hn; rfl
theorem n6G (h : d = 6) (hm : M = mx3 x y z) (hn : N = mn3 x y z) : M + N - z = nextG x y z d := by subst h hm hn; rfl
theorem n6B (h : d = 6) (hm : M = mx3 x y z) (hn : N = mn3 x y z) : M + N - x = nextB x y z d := by subst h hm hn; rfl
theorem n7R (h : d = 7) (hm : M = mx3 x y z) (hn : N = mn3 x y z) : M + N - z = nextR x y z d := by subst h hm hn; rfl
theorem n7G (h : d = 7) (hm : M = mx3 x y z) (hn : N = mn3 x y z) : M + N - x = nextG x y z d := by subst h hm hn; rfl
theorem n7B (h : d = 7) (hm : M = mx3 x y z) (hn : N = mn3 x y z) : M + N - y = nextB x y z d := by subst h hm hn; rfl
theorem n8R (h6 : ¬ d = 6) (h7 : ¬ d = 7) : (x + if ([5, 0, 1].any fun x => x == d) = true then (1 : Int) else 0) = nextR x y z d := by rw [in3_any, nextR, if_neg h6, if_neg h7]
theorem n8G (h6 : ¬ d = 6) (h7 : ¬ d = 7) : (y + if ([1, 2, 3].any fun x => x == d) = true then (1 : Int) else 0) = nextG x y z d := by rw [in3_any, nextG, if_neg h6, if_neg h7]
theorem n8B (h6 : ¬ d = 6) (h7 : ¬ d = 7) : (z + if ([3, 4, 5].any fun x => x == d) = true then (1 : Int) else 0) = nextB x y z d := by rw [in3_any, nextB, if_neg h6, if_neg h7]
end
set_option maxRecDepth 100000 in
set_option maxHeartbeats 8000000 in
theorem next_ct (w : World) (news : List (Addr × Obj)) (x y z d : Int) (l : Addr) (t1 t2 t3 t4 : Tok) (n : Nat) (hx : 0 ≤ x ∧ x ≤ 100) (hy : 0 ≤ y ∧ y ≤ 100) (hz : 0 ≤ z ∧ z ≤ 100) (hd0 : 0 ≤ d ∧ d < 8) :
    Ct w 2 211 ((l, { cls := .type "list", data := .seq #[.int x t1, .int y t2, .int z t3] n }) :: news) [.ref l, .int d t4] (Ints3 (nextR x y z d) (nextG x y z d) (nextB x y z d)) := by
  k_with_none
  unfold Ct PG
  k_fill
  intro mean mg mb dp un gd cn cs a ccd cl outer A₀ base h₀ L m s Q E B F X N T hk hd hu hret
  refine wpAny_call ?_
  k_dflt cell_enter
  conv in (execs _ _) => arg 1; whnf
  k_steps
  all_goals (
    first
    | (rename _ ∧ _ ∧ _ ∧ _ ∧ AllLt _ _ => hl; replace hl := hl.2.2.2)
    | (rename _ ∧ AllLt _ _ => hl)
    refine hret _ [(_, _)] _ _ (by assumption) (by first | assumption | exact drop3 (by assumption)) (allNe hl) (ints3 ?_ ?_ ?_))
  all_goals (first
    | with_reducible exact n6R (by assumption) (mx3_is (by assumption) (by assumption)) (mn3_is (by assumption) (by assumption))
    | with_reducible exact n6G (by assumption) (mx3_is (by assumption) (by assumption)) (mn3_is (by assumption) (by assumption))
    | with_reducible exact n6B (by assumption) (mx3_is (by assumption) (by assumption)) (mn3_is (by assumption) (by assumption))
    | with_reducible exact n7R (by assumption) (mx3_is (by assumption) (by assumption)) (mn3_is (by assumption) (by assumption))
    | with_reducible exact n7G (by assumption) (mx3_is (by assumption) (by assumption)) (mn3_is (by assumption) (by assumption))
    | with_reducible exact n7B (by assumption) (mx3_is (by assumption) (by assumption)) (mn3_is (by assumption) (by assumption))
    | with_reducible exact n8R (by assumption) (by assumption)
    | with_reducible exact n8G (by assumption) (by assumption)
    | with_reducible exact n8B (by assumption) (by assumption)
    )
end Mine
end
section
open PySem PySem.W PyProof.Rows PySem.Calls PySem.Flt
namespace Mine
theorem drop2 {h₀ h : Heap} {L : Addr} {a b c : Addr × Obj} {news : List (Addr × Obj)} (N : News h₀ L h (a :: b :: c :: news)) : News h₀ L h (a :: news) := fun p hp => N p (by
  rcases List.mem_cons.mp hp with rfl | hp
  · exact .head _
  · exact .tail _ (.tail _ (.tail _ hp)))
noncomputable def home (v : Int) : Int := max 0 v
noncomputable def Ints6 (a b c d e f : Int) (v : Value) (tl : List (Addr × Obj)) : Prop :=
  ∃ l t1 t2 t3 t4 t5 t6 n, v = .ref l ∧ tl = [(l, listOf #[.int a t1, .int b t2, .int c t3, .int d t4, .int e t5, .int f t6] n)]
theorem ints6 {a b c d e f a' b' c' d' e' f' : Int} {l : Addr} {t1 t2 t3 t4 t5 t6 : Tok} {n : Nat} (ha : a' = a) (hb : b' = b) (hc : c' = c) (hd : d' = d) (he : e' = e) (hf : f' = f) :
    Ints6 a b c d e f (.ref l) [(l, { cls := .type "list", data := .seq #[.int a' t1, .int b' t2, .int c' t3, .int d' t4, .int e' t5, .int f' t6] n })] := by
  subst ha hb hc hd he hf; exact ⟨_, _, _, _, _, _, _, _, rfl, rfl⟩
theorem home_if {v : Int} : (if v > 0 then v else 0) = home v := by unfold home; omega
theorem max_if {y z : Int} : (if z > y then z else y) = max y z := by omega
theorem min_if {x y : Int} : (if y < x then y else x) = min x y := by omega
theorem home_mx {x y z : Int} : (if (x - if z > y then z else y) > 0 then x - if z > y then z else y else 0) = home (x - max y z) := by rw [max_if (y := y) (z := z)]; exact home_if
theorem home_mn {x y z : Int} : (if (if y < x then y else x) - z > 0 then (if y < x then y else x) - z else 0) = home (min x y - z) := by rw [min_if (x := x) (y := y)]; exact home_if
set_option maxRecDepth 100000 in
set_option maxHeartbeats 8000000 in
theorem home_ct (w : World) (news : List (Addr × Obj)) (x y z : Int) (l : Addr) (t1 t2 t3 : Tok) (n : Nat) (hx : 0 ≤ x ∧ x ≤ 100) (hy : 0 ≤ y ∧ y ≤ 100) (hz : 0 ≤ z ∧ z ≤ 100) :
    Ct w 2 216 ((l, { cls := .type "list", data := .seq #[.int x t1, .int y t2, .int z t3] n }) :: news) [.ref l] (Ints6 (home (x - max y z)) (home (min x y - z)) (home (y - max x z)) (home (min y z - x)) (home (z - max x y)) (home (min x z - y))) := by
  k_with_none
  k_with "CompEnd" => ((rename News _ _ _ _ => lN'); k_dflt (refine compEnd_tail (by assumption) lN' (by assumption) (by lcg_src) ?_))
  unfold Ct PG
  k_fill
  intro mean mg mb dp un gd cn cs a ccd cl outer A₀ base h₀ L m s Q E B F X N T hk hd hu hret
  refine wpAny_call ?_
  k_dflt cell_enter
  conv in (execs _ _) => arg 1; whnf
  k_steps
  all_goals (
    (rename _ ∧ _ ∧ _ ∧ LCg.Off1 _ _ => hl; replace hl := hl.2.2)
    refine hret _ [(_, _)] _ _ (by assumption) (by exact drop2 (by assumption)) (off1 hl) (ints6 ?_ ?_ ?_ ?_ ?_ ?_))
  all_goals first | with_reducible exact home_mx | with_reducible exact home_mn
end Mine
end
section
open PySem PySem.W PyProof.Rows PySem.Calls PySem.Flt
namespace Mine
/-- one int, nothing new -/
noncomputable def Int1 (a : Int) (v : Value) (tl : List (Addr × Obj)) : Prop := tl = [] ∧ ∃ t, v = .int a t
theorem int1 {a x : Int} {t : Tok} (h : x = a) : Int1 a (.int x t) [] := by subst h; exact ⟨rfl, _, rfl⟩
set_option maxRecDepth 100000 in
set_option maxHeartbeats 8000000 in
theorem add_ct (w : World) (news : List (Addr × Obj)) (x y : Int) (t1 t2 : Tok) : Ct w 1 35 news [.int x t1, .int y t2] (Int1 (x + y)) := by
  k_with_none
  unfold Ct PG
  k_fill
  intro mean mg mb dp un gd cn cs a ccd cl outer A₀ base h₀ L m s Q E B F X N T hk hd hu hret
  refine wpAny_call ?_
  k_dflt cell_enter
  conv in (execs _ _) => arg 1; whnf
  k_steps
  all_goals (refine hret _ [] _ _ (by assumption) (by assumption) below0 (int1 rfl))
set_option maxRecDepth 100000 in
set_option maxHeartbeats 8000000 in
theorem isub_ct (w : World) (news : List (Addr × Obj)) (x y : Int) (t1 t2 : Tok) : Ct w 1 77 news [.int x t1, .int y t2] (Int1 (x - y)) := by
  k_with_none
  unfold Ct PG
  k_fill
  intro mean mg mb dp un gd cn cs a ccd cl outer A₀ base h₀ L m s Q E B F X N T hk hd hu hret
  refine wpAny_call ?_
  k_dflt cell_enter
  conv in (execs _ _) => arg 1; whnf
  k_steps
  all_goals (refine hret _ [] _ _ (by assumption) (by assumption) below0 (int1 rfl))
set_option maxRecDepth 100000 in
set_option maxHeartbeats 8000000 in
theorem isub_f_ct (w : World) (news : List (Addr × Obj)) (x y : UInt64) (t1 t2 : Tok) : Ct w 1 77 news [.float x t1, .float y t2] (Flt1 (Float64.sub x y)) := by
  k_with_none
  unfold Ct PG
  k_fill
  intro mean mg mb dp un gd cn cs a ccd cl outer A₀ base h₀ L m s Q E B F X N T hk hd hu hret
  refine wpAny_call ?_
  k_dflt cell_enter
  conv in (execs _ _) => arg 1; whnf
  k_steps
  all_goals (refine hret _ [] _ _ (by assumption) (by assumption) below0 (flt1 rfl))
set_option maxRecDepth 100000 in
set_option maxHeartbeats 8000000 in
theorem mul_ct (w : World) (news : List (Addr × Obj)) (x y : Int) (t1 t2 : Tok) (hx : -1000 ≤ x ∧ x ≤ 1000) (hy : -1000 ≤ y ∧ y ≤ 1000) : Ct w 1 49 news [.int x t1, .int y t2] (Int1 (x * y)) := by
  k_with_none
  unfold Ct PG
  k_fill
  intro mean mg mb dp un gd cn cs a ccd cl outer A₀ base h₀ L m s Q E B F X N T hk hd hu hret
  refine wpAny_call ?_
  k_dflt cell_enter
  conv in (execs _ _) => arg 1; whnf
  k_steps
  all_goals (refine hret _ [] _ _ (by assumption) (by assumption) below0 (int1 rfl))
set_option maxRecDepth 100000 in
set_option maxHeartbeats 8000000 in
theorem mod_ct (w : World) (news : List (Addr × Obj)) (x : Int) (t1 t2 : Tok) : Ct w 1 42 news [.int x t1, .int 7 t2] (Int1 (x % 7)) := by
  k_with_none
  unfold Ct PG
  k_fill
  intro mean mg mb dp un gd cn cs a ccd cl outer A₀ base h₀ L m s Q E B F X N T hk hd hu hret
  refine wpAny_call ?_
  k_dflt cell_enter
  conv in (execs _ _) => arg 1; whnf
  k_steps
  all_goals (refine hret _ [] _ _ (by assumption) (by assumption) below0 (int1 (by rw [Int.fmod_eq_emod_of_nonneg _ (by decide)])))
end Mine
end
section
open PySem PySem.W PyProof.Rows PySem.Calls PySem.Flt
namespace Mine
theorem dropMid {h₀ h : Heap} {L : Addr} {a : Addr × Obj} (mid : List (Addr × Obj)) {news : List (Addr × Obj)} (N : News h₀ L h (a :: (mid ++ news))) : News h₀ L h (a :: news) := fun p hp => N p (by
  rcases List.mem_cons.mp hp with rfl | hp
  · exact .head _
  · exact .tail _ (List.mem_append.mpr (.inr hp)))
theorem allLt_up {a b : Addr} (h : @LT.lt Nat _ a b) : ∀ {l : List (Addr × Obj)}, AllLt a l → AllLt b l
  | [], _ => trivial
  | _ :: _, x => ⟨Nat.lt_trans x.1 h, allLt_up h x.2⟩
noncomputable def NeOf (l : Addr) : List (Addr × Obj) → Prop
  | [] => True
  | q :: r => (@Ne Nat q.1 l) ∧ NeOf l r
theorem neOf {l : Addr} {o : Obj} : ∀ {news : List (Addr × Obj)}, (∀ q ∈ news, ∀ p ∈ [(l, o)], @Ne Nat q.1 p.1) → NeOf l news
  | [], _ => trivial
  | _ :: _, h => ⟨h _ (.head _) _ (.head _), neOf fun q hq => h q (.tail _ hq)⟩
noncomputable def litOf (x : UInt64) : Int := toInt Float64.truncOf (Float64.add x chalf)
noncomputable def atOf (k : Int) : UInt64 := Float64.div (Float64.ofInt k) c6
theorem rgb_ct_eq (w : World) (news : List (Addr × Obj)) (h s v : UInt64) (tr tg tb : Tok) {p q r : UInt64}
    (h1 : ¬ (Float64.cmp s 0 == some .eq) = true) (h2 : Float64.isFinite (Float64.mul h c6) = true) (h3 : 0 ≤ toInt Float64.truncOf (Float64.mul h c6)) (h4 : toInt Float64.truncOf (Float64.mul h c6) < 100)
    (e1 : rgbR h s v = p) (e2 : rgbG h s v = q) (e3 : rgbB h s v = r) :
    Ct w 1 112 news [.float h tr, .float s tg, .float v tb] (Flts3 p q r) := by
  subst e1 e2 e3
  exact rgb_ct w news h s v tr tg tb h1 h2 h3 h4

set_option maxRecDepth 100000 in
set_option maxHeartbeats 2000000 in
theorem led_ct (w : World) (dd : Addr) (op : Int → Int → Int) (hop : ∀ news a b t u, Ct w 1 dd news [.int a t, .int b u] (Int1 (op a b))) (hkp : keepIn (hd.heap_39 w.params) (.ref dd) = true) (news : List (Addr × Obj)) (x y z k : Int) (l : Addr) (t1 t2 t3 t4 : Tok) (n : Nat) (hk0 : 0 ≤ k) (hk6 : k < 6)
    (h2 : Float64.isFinite (Float64.mul (atOf k) c6) = true) (h3 : 0 ≤ toInt Float64.truncOf (Float64.mul (atOf k) c6)) (h4 : toInt Float64.truncOf (Float64.mul (atOf k) c6) < 100)
    (p q r : UInt64) (e1 : rgbR (atOf k) c1 c1 = p) (e2 : rgbG (atOf k) c1 c1 = q) (e3 : rgbB (atOf k) c1 c1 = r)
    (g1 : Float64.isFinite (Float64.add p chalf) = true) (g2 : Float64.isFinite (Float64.add q chalf) = true) (g3 : Float64.isFinite (Float64.add r chalf) = true) :
    Ct w 3 221 ((l, { cls := .type "list", data := .seq #[.int x t1, .int y t2, .int z t3] n }) :: news) [.ref l, .int k t4, .ref dd]
      (Ints3 (op x (litOf p)) (op y (litOf q)) (op z (litOf r))) := by
  k_with_none
  k_with "callWith ref" => (k_here; k_dflt (refine' callWith_K ?k1 hkp ?_; (case k1 => k_asm); k_whole))
  k_with "eval BinOp" => (k_here; dsimp only; (try k_fold))
  k_with "eval Call" => (k_here; dsimp only; (try k_fold))
  k_with "eval Subscript" => (k_here; dsimp only; (try k_fold))
  k_with "eval ListComp" => (k_here; lcf_look; lcg_calm; k_dflt (refine LCg.ListComp_U (F₀ := by k_asm) (by with_unfolding_all rfl) (by decide) (by rfl) (by decide) (by rfl) ?_); k_dflt lcg_toSrc)
  k_with "CompSrc" => (k_here; k_dflt (refine LCg.CompSrc.range (by rfl) (by k_asm) (by k_asm) (by assumption) (by first | decide | rfl) (by first | rfl | decide) (by first | size_fits | exact Nat.le_of_ble_eq_true rfl) ?_; intro g'; lcg_lit))
  k_with "CompEnd" => ((rename News _ _ _ _ => lN'); k_dflt (refine compEnd_tail (by assumption) lN' (by assumption) (by lcg_src) ?_))
  k_with "call ref" => (k_here; k_dflt (refine' ct_use (hop _ _ _ _ _) ?k1 ?k2 ?k3 ?k4 ?k5 ?k6 ?k7 ?k8 ?_; (case k1 => k_asm); (case k2 => k_asm); (case k3 => k_asm); (case k4 => k_asm); (case k5 => k_asm); (case k6 => first | exact rfl | assumption); (case k7 => ktr_room); (case k8 => ktr_units); intro r9 tl9 h9 tk9 F9 N9 hl9 hp9; obtain ⟨e9, t9, e9'⟩ := hp9; subst e9; subst e9'; (try simp only [List.nil_append] at N9); clear hl9; (try dsimp only); (try k_sweep); (try k_fold)))
  k_with "call ref" => (k_here; k_dflt (refine' ct_use (rgb_ct_eq _ _ _ _ _ _ _ _ ?q1 ?q2 ?q3 ?q4 ?y1 ?y2 ?y3) ?k1 ?k2 ?k3 ?k4 ?k5 ?k6 ?k7 ?k8 ?_; (case k1 => k_asm); (case k2 => k_asm); (case k3 => k_asm); (case k4 => k_asm); (case k5 => k_asm); (case k6 => first | exact rfl | assumption); (case k7 => ktr_room); (case k8 => ktr_units); (case q1 => decide +kernel); (case q2 => assumption); (case q3 => assumption); (case q4 => assumption); (case y1 => assumption); (case y2 => assumption); (case y3 => assumption); intro r9 tl9 h9 tk9 F9 N9 hl9 hp9; obtain ⟨l9, ta9, tb9, tc9, e9, e9'⟩ := hp9; subst e9; subst e9'; (try simp only [List.singleton_append] at N9); replace hl9 := neOf hl9; simp only [NeOf] at hl9; (try dsimp only); (try k_sweep); (try k_fold)))
  unfold Ct PG
  k_fill
  intro mean mg mb dp un gd cn cs a ccd cl outer A₀ base h₀ L m s Q E B F X N T hk hd hu hret
  unfold atOf at *
  refine wpAny_call ?_
  k_dflt (refine' code_defC ?k1 ?k2 ?k3 ?k4 ?k5 ?kA ?kF ?kK ?k6 ?k7 ?k8 ?k9 ?kB ?kD ?_ ?c2 ?c3 ?c4; (case kA => exact rfl); (case kF => exact rfl); (case kK => assumption); (case k1 => k_asm); (case k2 => k_asm); (case k3 => k_asm); (case k4 => k_asm); (case k5 => k_asm); (case k6 => k_is); (case k7 => k_is); (case k8 => ktr_room); (case k9 => exact BindsTo.of_eq rfl); (case kB => exact rfl); (case kD => decide +kernel); (case c2 => exact rfl); (case c3 => exact rfl); (case c4 => exact rfl); k_whole; intro g' L' h' tk' cells' FG' F' N' Y' B' X' T' l1; (try k_lt l1); k_cells Y'; (try simp only [List.cons_append, List.nil_append] at N'); (try dsimp only); (try k_lift B'); (try k_fold))
  conv in (execs _ _) => arg 1; whnf
  have kM := kstMark
  have a1 := allLt_up (b := L' + 1) (by omega) l1.2
  have a2 := allLt_up (b := L' + 1 + 1) (by omega) l1.2
  have a3 := allLt_up (b := L' + 1 + 1 + 1) (by omega) l1.2
  k_steps
  all_goals (
    (rename _ ∧ _ ∧ _ ∧ _ ∧ _ ∧ LCg.Off1 _ _ => hl; replace hl := hl.2.2.2.2)
    refine hret _ [(_, _)] _ _ (by assumption) (by exact dropMid [_, _, _, _] (by assumption)) (off1 hl) (ints3 rfl rfl rfl))
theorem keep_both (P : Params) : keepIn (hd.heap_39 P) (.ref 35) = true ∧ keepIn (hd.heap_39 P) (.ref 77) = true := by
  k_with_none
  k_fill
  refine ⟨?_, ?_⟩ <;> k_dflt k_is
theorem led_add_ct (w : World) (news : List (Addr × Obj)) (x y z k : Int) (l : Addr) (t1 t2 t3 t4 : Tok) (n : Nat) (hk0 : 0 ≤ k) (hk6 : k < 6)
    (h2 : Float64.isFinite (Float64.mul (atOf k) c6) = true) (h3 : 0 ≤ toInt Float64.truncOf (Float64.mul (atOf k) c6)) (h4 : toInt Float64.truncOf (Float64.mul (atOf k) c6) < 100)
    (p q r : UInt64) (e1 : rgbR (atOf k) c1 c1 = p) (e2 : rgbG (atOf k) c1 c1 = q) (e3 : rgbB (atOf k) c1 c1 = r)
    (g1 : Float64.isFinite (Float64.add p chalf) = true) (g2 : Float64.isFinite (Float64.add q chalf) = true) (g3 : Float64.isFinite (Float64.add r chalf) = true) :
    Ct w 3 221 ((l, { cls := .type "list", data := .seq #[.int x t1, .int y t2, .int z t3] n }) :: news) [.ref l, .int k t4, .ref 35]
      (Ints3 (x + litOf p) (y + litOf q) (z + litOf r)) :=
  led_ct w 35 (fun a b => a + b) (fun news a b t u => add_ct w news a b t u) (keep_both w.params).1 news x y z k l t1 t2 t3 t4 n hk0 hk6 h2 h3 h4 p q r e1 e2 e3 g1 g2 g3
theorem led_sub_ct (w : World) (news : List (Addr × Obj)) (x y z k : Int) (l : Addr) (t1 t2 t3 t4 : Tok) (n : Nat) (hk0 : 0 ≤ k) (hk6 : k < 6)
    (h2 : Float64.isFinite (Float64.mul (atOf k) c6) = true) (h3 : 0 ≤ toInt Float64.truncOf (Float64.mul (atOf k) c6)) (h4 : toInt Float64.truncOf (Float64.mul (atOf k) c6) < 100)
    (p q r : UInt64) (e1 : rgbR (atOf k) c1 c1 = p) (e2 : rgbG (atOf k) c1 c1 = q) (e3 : rgbB (atOf k) c1 c1 = r)
    (g1 : Float64.isFinite (Float64.add p chalf) = true) (g2 : Float64.isFinite (Float64.add q chalf) = true) (g3 : Float64.isFinite (Float64.add r chalf) = true) :
    Ct w 3 221 ((l, { cls := .type "list", data := .seq #[.int x t1, .int y t2, .int z t3] n }) :: news) [.ref l, .int k t4, .ref 77]
      (Ints3 (x - litOf p) (y - litOf q) (z - litOf r)) :=
  led_ct w 77 (fun a b => a - b) (fun news a b t u => isub_ct w news a b t u) (keep_both w.params).2 news x y z k l t1 t2 t3 t4 n hk0 hk6 h2 h3 h4 p q r e1 e2 e3 g1 g2 g3
end Mine
end
section
open PySem PySem.Flt
namespace Mine
open PySem.Float64 (val V sgn Right decode pack infMag dist)
/-- finite -/
noncomputable def FinV (x : UInt64) : Prop := ∃ a m e, Float64.decode x = .fin a m e
/-- the unit: 2 ^ 1074 -/
noncomputable def KK : Nat := 2 ^ 1074
theorem KK_pos : 0 < KK := by unfold KK; exact Nat.two_pow_pos _
theorem KKr_pos : (0 : Rat) < (KK : Rat) := by have := KK_pos; exact_mod_cast this
noncomputable def rv (x : UInt64) : Rat := (val x : Rat) / (KK : Rat)
theorem rv_mul (x : UInt64) : rv x * (KK : Rat) = (val x : Rat) := by have := KKr_pos; unfold rv; grind
theorem every_V (q : Nat) (h : q < 2 ^ 53) : ∀ k, ∃ t, V t = q * 2 ^ k := by
  intro k
  induction k generalizing q with
  | zero => exact ⟨0 * 2 ^ 52 + q, Float64.V_at (by omega) (.inr rfl)⟩
  | succ k ih =>
    by_cases h2 : 2 ^ 52 ≤ q
    · exact ⟨_, Float64.V_at (k := k + 1) (q := q) (by omega) (.inl h2)⟩
    · obtain ⟨t, ht⟩ := ih (2 * q) (by omega)
      exact ⟨t, by rw [ht, Nat.pow_succ]; ac_rfl⟩
theorem rv_lt {x y : UInt64} : rv x < rv y ↔ val x < val y := by
  have h := KKr_pos
  have hx := rv_mul x
  have hy := rv_mul y
  constructor
  · intro hl
    have : (val x : Rat) < (val y : Rat) := by
      rw [← hx, ← hy]
      exact Rat.mul_lt_mul_of_pos_right hl h
    exact_mod_cast this
  · intro hl
    have : (val x : Rat) < (val y : Rat) := by exact_mod_cast hl
    rw [← hx, ← hy] at this
    exact Rat.lt_of_mul_lt_mul_right this (Rat.le_of_lt h)
theorem rv_eq {x y : UInt64} : rv x = rv y ↔ val x = val y := by
  have h := KKr_pos
  have hx := rv_mul x
  have hy := rv_mul y
  constructor
  · intro hl
    have : (val x : Rat) = (val y : Rat) := by rw [← hx, ← hy, hl]
    exact_mod_cast this
  · intro hl
    unfold rv
    rw [hl]
theorem cmp_lt {x y : UInt64} (hx : FinV x) (hy : FinV y) : (Float64.cmp x y == some .lt) = true ↔ rv x < rv y := by
  obtain ⟨a, m, e, hx⟩ := hx
  obtain ⟨b, k, f, hy⟩ := hy
  rw [Float64.cmp_right hx hy, rv_lt]
  constructor
  · intro h
    have : compare (val x) (val y) = .lt := by simpa using h
    exact Int.compare_eq_lt.mp this
  · intro h
    rw [Int.compare_eq_lt.mpr h]; rfl
theorem cmp_eq {x y : UInt64} (hx : FinV x) (hy : FinV y) : (Float64.cmp x y == some .eq) = true ↔ rv x = rv y := by
  obtain ⟨a, m, e, hx⟩ := hx
  obtain ⟨b, k, f, hy⟩ := hy
  rw [Float64.cmp_right hx hy, rv_eq]
  constructor
  · intro h
    have : compare (val x) (val y) = .eq := by simpa using h
    exact Int.compare_eq_eq.mp this
  · intro h
    rw [Int.compare_eq_eq.mpr h]; rfl
/-- the unit of error -/
noncomputable def uu : Rat := 1 / 35184372088832
theorem uu_pos : 0 < uu := by unfold uu; decide +kernel
noncomputable def grid : Nat := 2 ^ 1029
theorem grid_KK : KK = 35184372088832 * grid := by unfold KK grid; rw [show (35184372088832 : Nat) = 2 ^ 45 from rfl, ← Nat.pow_add]
theorem grid_pos : 0 < grid := by unfold grid; exact Nat.two_pow_pos _
theorem fin_pack (neg : Bool) {t : Nat} (h : t < infMag) : FinV (pack neg t) := by
  obtain ⟨m, e, hd, _⟩ := Float64.decode_pack neg h
  exact ⟨_, _, _, hd⟩
theorem e_a (D P G : Nat) : D * (P * G) = D * G * P := by ac_rfl
theorem dist_le {W G a m : Nat} (h2 : G * a + m = W) (h3 : m < G) : dist W (G * a) ≤ G := by unfold dist; omega
theorem dist_zero {W x : Nat} (h : dist W x ≤ dist W W) : W = x := by unfold dist at h; omega
/-- what Right says, for a number below 256 -/
theorem right_V {r : UInt64} {neg : Bool} {W D : Nat} (h : Right r neg W D) (hD : 0 < D) (hW : W < D * (2 ^ 53 * grid)) :
    FinV r ∧ ∃ n : Nat, val r = sgn neg n ∧ dist W (D * n) ≤ D * grid ∧ ∀ q, q < 2 ^ 53 → W = D * (q * grid) → n = q * grid := by
  obtain ⟨t, rfl, hle, hov, hn⟩ := h
  have ht : t < infMag := by
    refine Nat.lt_of_le_of_ne hle fun he => ?_
    have h1 := hov.mp he
    have h2 : 2 * W < D * ((2 ^ 54 - 1) * 2 ^ 2045) := by
      have : 2 * W < D * (2 * (2 ^ 53 * grid)) := by
        calc 2 * W < 2 * (D * (2 ^ 53 * grid)) := (Nat.mul_lt_mul_left (by decide)).mpr hW
          _ = D * (2 * (2 ^ 53 * grid)) := Nat.mul_left_comm ..
      refine Nat.lt_of_lt_of_le this (Nat.mul_le_mul_left D ?_)
      unfold grid
      rw [← Nat.pow_add]
      have e1 : 2 * 2 ^ (53 + 1029) = 2 ^ (53 + 1029 + 1) := by rw [Nat.mul_comm, ← Nat.pow_succ]
      rw [e1]
      have : (2 : Nat) ^ (53 + 1029 + 1) ≤ 2 ^ 2045 := Nat.pow_le_pow_right (by decide) (by decide)
      refine Nat.le_trans this ?_
      exact Nat.le_mul_of_pos_left _ (by decide)
    exact Nat.lt_irrefl _ (Nat.lt_of_le_of_lt h1 h2)
  refine ⟨fin_pack neg ht, V t, Float64.val_pack neg ht, ?_, ?_⟩
  · have hq : W / (D * grid) < 2 ^ 53 := by
      refine Nat.div_lt_of_lt_mul ?_
      calc W < D * (2 ^ 53 * grid) := hW
        _ = D * grid * 2 ^ 53 := e_a ..
    obtain ⟨t', ht'⟩ := every_V _ hq 1029
    have h1 := (hn ht t').1
    rw [ht'] at h1
    refine Nat.le_trans h1 ?_
    have e1 : D * (W / (D * grid) * grid) = D * grid * (W / (D * grid)) := e_a ..
    refine Nat.le_trans (Nat.le_of_eq (congrArg (dist W) e1)) ?_
    have h2 := Nat.div_add_mod W (D * grid)
    have h3 := Nat.mod_lt W (Nat.mul_pos hD grid_pos)
    exact dist_le h2 h3
  · intro q hq e
    obtain ⟨t', ht'⟩ := every_V _ hq 1029
    have h1 := (hn ht t').1
    have e1 : D * V t' = W := by rw [ht', e]; rfl
    rw [e1] at h1
    have h2 : W = D * V t := dist_zero h1
    rw [e] at h2
    exact (Nat.eq_of_mul_eq_mul_left hD h2).symm
end Mine
end
section
open PySem PySem.Flt
namespace Mine
open PySem.Float64 (val V sgn Right decode pack infMag dist)
theorem sgn_rat (neg : Bool) (n : Nat) : ((sgn neg n : Int) : Rat) = if neg then -(n : Rat) else (n : Rat) := by
  unfold sgn; cases neg <;> simp <;> rfl
theorem cast_le {a b : Nat} (h : a ≤ b) : (a : Rat) ≤ (b : Rat) := by exact_mod_cast h
/-- near: finite, and no farther than e from q -/
noncomputable def Near (e : Rat) (x : UInt64) (q : Rat) : Prop := FinV x ∧ rv x - q ≤ e ∧ q - rv x ≤ e
theorem Near.mono {e f x q} (h : Near e x q) (hl : e ≤ f) : Near f x q := ⟨h.1, by have := h.2.1; grind, by have := h.2.2; grind⟩
theorem Near.self {x} (h : FinV x) : Near 0 x (rv x) := ⟨h, by grind, by grind⟩
theorem Near.cast {e x q p} (h : Near e x q) (e1 : q = p) : Near e x p := e1 ▸ h
noncomputable def sg (neg : Bool) : Rat := if neg then -1 else 1
theorem natcast_mul (a b : Nat) : ((a * b : Nat) : Rat) = (a : Rat) * (b : Rat) := by simp
/-- a rounded number: r stands for z = ± W / (D * KK) -/
theorem right_near {r : UInt64} {neg : Bool} {W D : Nat} {z : Rat} (h : Right r neg W D) (hD : 0 < D) (hz : z * ((D : Rat) * (KK : Rat)) = sg neg * (W : Rat)) (hb : z < 256) (hb2 : -256 < z) :
    Near uu r z := by
  have hDr : (0 : Rat) < (D : Rat) := by exact_mod_cast hD
  have hK := KKr_pos
  have hG : (0 : Rat) < (grid : Rat) := by have := grid_pos; exact_mod_cast this
  have hKG : (KK : Rat) = 35184372088832 * (grid : Rat) := by have := congrArg (fun n : Nat => (n : Rat)) grid_KK; simpa using this
  have hDK : (0 : Rat) < (D : Rat) * (KK : Rat) := Rat.mul_pos hDr hK
  have hWr : (W : Rat) < 256 * ((D : Rat) * (KK : Rat)) := by
    have h1 : z * ((D : Rat) * (KK : Rat)) < 256 * ((D : Rat) * (KK : Rat)) := Rat.mul_lt_mul_of_pos_right hb hDK
    have h2 : -256 * ((D : Rat) * (KK : Rat)) < z * ((D : Rat) * (KK : Rat)) := Rat.mul_lt_mul_of_pos_right hb2 hDK
    unfold sg at hz
    cases neg <;> simp at hz <;> grind
  have hW : W < D * (2 ^ 53 * grid) := by
    have : (W : Rat) < ((D * (2 ^ 53 * grid) : Nat) : Rat) := by
      rw [natcast_mul, natcast_mul, hKG] at *
      have e : ((2 ^ 53 : Nat) : Rat) = 256 * 35184372088832 := by decide +kernel
      rw [e]
      grind
    exact_mod_cast this
  obtain ⟨hf, n, hv, hd, -⟩ := right_V h hD hW
  have h1 : (W : Rat) ≤ (D : Rat) * (n : Rat) + (D : Rat) * (grid : Rat) := by
    have : W ≤ D * n + D * grid := by unfold dist at hd; generalize D * n = a at *; generalize D * grid = b at *; omega
    have := cast_le this
    simpa using this
  have h2 : (D : Rat) * (n : Rat) ≤ (W : Rat) + (D : Rat) * (grid : Rat) := by
    have : D * n ≤ W + D * grid := by unfold dist at hd; generalize D * n = a at *; generalize D * grid = b at *; omega
    have := cast_le this
    simpa using this
  have hr : rv r * (KK : Rat) = sg neg * (n : Rat) := by rw [rv_mul, hv, sgn_rat]; unfold sg; cases neg <;> simp <;> grind
  have e1 : (rv r - z) * ((D : Rat) * (KK : Rat)) = sg neg * ((D : Rat) * (n : Rat)) - sg neg * (W : Rat) := by
    calc (rv r - z) * ((D : Rat) * (KK : Rat)) = (D : Rat) * (rv r * (KK : Rat)) - z * ((D : Rat) * (KK : Rat)) := by grind
      _ = _ := by rw [hr, hz]; grind
  have e2 : uu * ((D : Rat) * (KK : Rat)) = (D : Rat) * (grid : Rat) := by rw [hKG]; unfold uu; grind
  refine ⟨hf, ?_, ?_⟩
  · refine Rat.le_of_mul_le_mul_right (c := (D : Rat) * (KK : Rat)) ?_ hDK
    rw [e1, e2]
    unfold sg
    cases neg <;> simp <;> grind
  · refine Rat.le_of_mul_le_mul_right (c := (D : Rat) * (KK : Rat)) ?_ hDK
    have e3 : (z - rv r) * ((D : Rat) * (KK : Rat)) = -((rv r - z) * ((D : Rat) * (KK : Rat))) := by grind
    rw [e3, e1, e2]
    unfold sg
    cases neg <;> simp <;> grind
end Mine
end
section
open PySem PySem.Flt
namespace Mine
open PySem.Float64 (val V sgn Right decode pack infMag dist)
theorem natAbs_rat (i : Int) : ((i.natAbs : Nat) : Rat) = if i < 0 then -(i : Rat) else (i : Rat) := by
  split
  · have : ((i.natAbs : Int)) = -i := by omega
    have := congrArg (fun k : Int => (k : Rat)) this
    simp only [Rat.intCast_neg] at this
    exact this
  · have : ((i.natAbs : Int)) = i := by omega
    exact congrArg (fun k : Int => (k : Rat)) this
theorem sg_natAbs (i : Int) : sg (decide (i < 0)) * ((i.natAbs : Nat) : Rat) = (i : Rat) := by
  rw [natAbs_rat]; unfold sg
  by_cases h : i < 0 <;> simp [h] <;> grind
theorem near_zero (a : Bool) : Near 0 (Float64.zero a) 0 := by
  have h : (0 : Nat) < infMag := by decide
  have hv : val (Float64.zero a) = 0 := by
    have := Float64.val_pack a h
    have h0 : V 0 = 0 := by decide
    rw [h0] at this
    unfold Float64.zero
    rw [this]
    cases a <;> rfl
  have : rv (Float64.zero a) = 0 := by unfold rv; rw [hv]; grind
  exact ⟨fin_pack a h, by rw [this]; grind, by rw [this]; grind⟩
theorem add_near {x y : UInt64} (hx : FinV x) (hy : FinV y) (hb : rv x + rv y < 256) (hb2 : -256 < rv x + rv y) : Near uu (Float64.add x y) (rv x + rv y) := by
  have hu := uu_pos
  have ex := rv_mul x
  have ey := rv_mul y
  obtain ⟨a, m, e, hx⟩ := hx
  obtain ⟨b, k, f, hy⟩ := hy
  have hr := Float64.add_right hx hy
  by_cases h0 : val x + val y = 0
  · rw [hr.1 h0]
    have : rv x + rv y = 0 := by
      have hc := congrArg (fun k : Int => (k : Rat)) h0
      have hK := KKr_pos
      simp at hc
      rw [← ex, ← ey] at hc
      have h2 : (rv x + rv y) * (KK : Rat) = 0 := by grind
      rcases Rat.mul_eq_zero.mp h2 with h | h
      · exact h
      · grind
    rw [this]
    exact (near_zero _).mono (Rat.le_of_lt hu)
  · refine right_near (hr.2 h0) (by decide) ?_ hb hb2
    rw [sg_natAbs]
    simp
    rw [← ex, ← ey]
    grind
theorem neg_fin {y : UInt64} (hy : FinV y) : FinV (Float64.neg y) ∧ rv (Float64.neg y) = -rv y := by
  obtain ⟨b, k, f, hy⟩ := hy
  refine ⟨⟨_, _, _, Float64.neg_decode hy⟩, ?_⟩
  unfold rv
  rw [Float64.neg_val hy]
  simp
  grind
theorem sub_near {x y : UInt64} (hx : FinV x) (hy : FinV y) (hb : rv x - rv y < 256) (hb2 : -256 < rv x - rv y) : Near uu (Float64.sub x y) (rv x - rv y) := by
  have hn := neg_fin hy
  have h := add_near hx hn.1 (by rw [hn.2]; grind) (by rw [hn.2]; grind)
  rw [hn.2] at h
  have e : rv x + -rv y = rv x - rv y := by grind
  rw [e] at h
  have e2 : Float64.sub x y = Float64.add x (Float64.neg y) := by unfold Float64.sub; rfl
  rw [e2]
  exact h
theorem sg_sgn {x : UInt64} {a : Bool} {m : Nat} {e : Int} (hx : decode x = .fin a m e) : (val x : Rat) = sg a * (((val x).natAbs : Nat) : Rat) := by
  have h1 := Float64.val_natAbs hx
  rw [h1, Float64.val_eq hx, sgn_rat]
  unfold sg
  cases a <;> simp <;> grind
theorem sg_bne (a b : Bool) : sg (a != b) = sg a * sg b := by
  unfold sg; cases a <;> cases b <;> decide +kernel
theorem mul_near {x y : UInt64} (hx : FinV x) (hy : FinV y) (hb : rv x * rv y < 256) (hb2 : -256 < rv x * rv y) : Near uu (Float64.mul x y) (rv x * rv y) := by
  have ex := rv_mul x
  have ey := rv_mul y
  obtain ⟨a, m, e, hx⟩ := hx
  obtain ⟨b, k, f, hy⟩ := hy
  have hr := Float64.mul_right hx hy
  refine right_near hr (Nat.two_pow_pos _) ?_ hb hb2
  have hx' := sg_sgn hx
  have hy' := sg_sgn hy
  change rv x * rv y * ((KK : Rat) * (KK : Rat)) = _
  rw [sg_bne, natcast_mul]
  calc rv x * rv y * ((KK : Rat) * (KK : Rat)) = (rv x * (KK : Rat)) * (rv y * (KK : Rat)) := by grind
    _ = _ := by rw [ex, ey, hx', hy']; generalize (((val x).natAbs : Nat) : Rat) = p; generalize (((val y).natAbs : Nat) : Rat) = q; grind
theorem div_near {x y : UInt64} (hx : FinV x) (hy : FinV y) (h0 : rv y ≠ 0) (hb : rv x / rv y < 256) (hb2 : -256 < rv x / rv y) : Near uu (Float64.div x y) (rv x / rv y) := by
  have ex := rv_mul x
  have ey := rv_mul y
  obtain ⟨a, m, e, hx⟩ := hx
  obtain ⟨b, k, f, hy⟩ := hy
  have hv0 : val y ≠ 0 := by
    intro h
    apply h0
    unfold rv
    rw [h]
    grind
  have hk : k ≠ 0 := by
    intro h
    apply hv0
    rw [Float64.val_eq hy, h]
    cases b <;> simp [sgn]
  have hr := Float64.div_right hx hy hk
  have hp : 0 < (val y).natAbs := by omega
  refine right_near hr hp ?_ hb hb2
  have hx' := sg_sgn hx
  have hy' := sg_sgn hy
  rw [sg_bne, natcast_mul]
  change _ = sg a * sg b * ((((val x).natAbs : Nat) : Rat) * (KK : Rat))
  have hb' : sg b * sg b = 1 := by unfold sg; cases b <;> decide +kernel
  generalize (((val x).natAbs : Nat) : Rat) = p at *
  generalize (((val y).natAbs : Nat) : Rat) = q at *
  have e1 : q = sg b * (rv y * (KK : Rat)) := by rw [ey, hy']; grind
  have e2 : sg a * p = rv x * (KK : Rat) := by rw [ex, hx']
  calc rv x / rv y * (q * (KK : Rat)) = rv x / rv y * rv y * (KK : Rat) * sg b * (KK : Rat) := by rw [e1]; grind
    _ = rv x * (KK : Rat) * sg b * (KK : Rat) := by rw [Rat.div_mul_cancel h0]
    _ = _ := by rw [← e2]; grind
theorem ofInt_near {i : Int} (hb : i < 256) (hb2 : -256 < i) : Near uu (Float64.ofInt i) (i : Rat) := by
  have hb' : (i : Rat) < 256 := Rat.intCast_lt_intCast.mpr hb
  have hb2' : -256 < (i : Rat) := Rat.intCast_lt_intCast.mpr hb2
  refine right_near (Float64.ofInt_right i) (by decide) ?_ hb' hb2'
  rw [natcast_mul]
  change _ = sg (decide (i < 0)) * (((i.natAbs : Nat) : Rat) * (KK : Rat))
  have := sg_natAbs i
  generalize ((i.natAbs : Nat) : Rat) = p at *
  rw [← this]
  simp
  grind
end Mine
end
section
open PySem PySem.Flt
namespace Mine
open PySem.Float64 (val V sgn Right decode pack infMag dist)
theorem right_dy {r : UInt64} {neg : Bool} {W D : Nat} {z : Rat} {j : Int} (h : Right r neg W D) (hD : 0 < D) (hz : z * ((D : Rat) * (KK : Rat)) = sg neg * (W : Rat)) (hj : z * 35184372088832 = (j : Rat)) (hb : j.natAbs < 2 ^ 53) :
    FinV r ∧ rv r = z := by
  have hDr : (0 : Rat) < (D : Rat) := by exact_mod_cast hD
  have hK := KKr_pos
  have hG : (0 : Rat) < (grid : Rat) := by have := grid_pos; exact_mod_cast this
  have hKG : (KK : Rat) = 35184372088832 * (grid : Rat) := by have := congrArg (fun n : Nat => (n : Rat)) grid_KK; simpa using this
  have hDG : (0 : Rat) < (D : Rat) * (grid : Rat) := Rat.mul_pos hDr hG
  have e1 : sg neg * (W : Rat) = (j : Rat) * ((D : Rat) * (grid : Rat)) := by rw [← hz, hKG, ← hj]; grind
  have e2 : (W : Rat) = ((j.natAbs : Nat) : Rat) * ((D : Rat) * (grid : Rat)) ∧ sg neg * ((j.natAbs : Nat) : Rat) = (j : Rat) := by
    have hW0 : (0 : Rat) ≤ (W : Rat) := by exact_mod_cast Nat.zero_le W
    rw [natAbs_rat]
    have hjs : (j < 0 → (j : Rat) < 0) ∧ (¬ j < 0 → (0 : Rat) ≤ (j : Rat)) := ⟨fun h => Rat.intCast_lt_intCast.mpr h, fun h => show ((0 : Int) : Rat) ≤ (j : Rat) from Rat.intCast_le_intCast.mpr (by omega)⟩
    generalize (j : Rat) = J at *
    unfold sg at e1 ⊢
    cases neg
    · simp at e1 ⊢
      by_cases hj0 : j < 0
      · have : J * ((D : Rat) * (grid : Rat)) < 0 := by
          have := Rat.mul_lt_mul_of_pos_right (hjs.1 hj0) hDG
          grind
        grind
      · simp [hj0]; grind
    · simp at e1 ⊢
      by_cases hj0 : j < 0
      · simp [hj0]; grind
      · have h1 : 0 ≤ J * ((D : Rat) * (grid : Rat)) := Rat.mul_nonneg (hjs.2 hj0) (Rat.le_of_lt hDG)
        have h2 : J * ((D : Rat) * (grid : Rat)) = 0 := by grind
        have h3 : J = 0 := by
          rcases Rat.mul_eq_zero.mp h2 with h | h
          · exact h
          · grind
        simp [hj0]; grind
  have e3 : W = D * (j.natAbs * grid) := by
    have : (W : Rat) = ((D * (j.natAbs * grid) : Nat) : Rat) := by
      rw [natcast_mul, natcast_mul, e2.1]
      grind
    exact_mod_cast this
  have hW : W < D * (2 ^ 53 * grid) := by
    rw [e3]
    exact (Nat.mul_lt_mul_left hD).mpr ((Nat.mul_lt_mul_right grid_pos).mpr hb)
  obtain ⟨hf, n, hv, _, hx⟩ := right_V h hD hW
  have hn := hx _ hb e3
  refine ⟨hf, ?_⟩
  have hr : rv r * (KK : Rat) = z * (KK : Rat) := by
    rw [rv_mul, hv, sgn_rat, hn, natcast_mul, hKG]
    have := e2.2
    unfold sg at this
    cases neg <;> simp at this ⊢ <;> grind
  have hK0 : (KK : Rat) ≠ 0 := by grind
  have := congrArg (fun x => x / (KK : Rat)) hr
  simpa [Rat.mul_div_cancel hK0] using this
theorem zero_rv (a : Bool) : FinV (Float64.zero a) ∧ rv (Float64.zero a) = 0 := by
  have := near_zero a
  refine ⟨this.1, ?_⟩
  have h1 := this.2.1
  have h2 := this.2.2
  grind
theorem add_dy {x y : UInt64} {j : Int} (hx : FinV x) (hy : FinV y) (hj : (rv x + rv y) * 35184372088832 = (j : Rat)) (hb : j.natAbs < 2 ^ 53) : FinV (Float64.add x y) ∧ rv (Float64.add x y) = rv x + rv y := by
  have ex := rv_mul x
  have ey := rv_mul y
  obtain ⟨a, m, e, hx⟩ := hx
  obtain ⟨b, k, f, hy⟩ := hy
  have hr := Float64.add_right hx hy
  by_cases h0 : val x + val y = 0
  · rw [hr.1 h0]
    have : rv x + rv y = 0 := by
      have hc := congrArg (fun k : Int => (k : Rat)) h0
      have hK := KKr_pos
      simp at hc
      rw [← ex, ← ey] at hc
      have h2 : (rv x + rv y) * (KK : Rat) = 0 := by grind
      rcases Rat.mul_eq_zero.mp h2 with h | h
      · exact h
      · grind
    rw [this]
    exact zero_rv _
  · refine right_dy (hr.2 h0) (by decide) ?_ hj hb
    rw [sg_natAbs]
    simp
    rw [← ex, ← ey]
    grind
theorem sub_dy {x y : UInt64} {j : Int} (hx : FinV x) (hy : FinV y) (hj : (rv x - rv y) * 35184372088832 = (j : Rat)) (hb : j.natAbs < 2 ^ 53) : FinV (Float64.sub x y) ∧ rv (Float64.sub x y) = rv x - rv y := by
  have hn := neg_fin hy
  have h := add_dy (j := j) hx hn.1 (by rw [hn.2]; grind) hb
  rw [hn.2] at h
  have e2 : Float64.sub x y = Float64.add x (Float64.neg y) := by unfold Float64.sub; rfl
  rw [e2]
  exact ⟨h.1, by rw [h.2]; grind⟩
theorem mul_dy {x y : UInt64} {j : Int} (hx : FinV x) (hy : FinV y) (hj : (rv x * rv y) * 35184372088832 = (j : Rat)) (hb : j.natAbs < 2 ^ 53) : FinV (Float64.mul x y) ∧ rv (Float64.mul x y) = rv x * rv y := by
  have ex := rv_mul x
  have ey := rv_mul y
  obtain ⟨a, m, e, hx⟩ := hx
  obtain ⟨b, k, f, hy⟩ := hy
  have hr := Float64.mul_right hx hy
  refine right_dy hr (Nat.two_pow_pos _) ?_ hj hb
  have hx' := sg_sgn hx
  have hy' := sg_sgn hy
  change rv x * rv y * ((KK : Rat) * (KK : Rat)) = _
  rw [sg_bne, natcast_mul]
  calc rv x * rv y * ((KK : Rat) * (KK : Rat)) = (rv x * (KK : Rat)) * (rv y * (KK : Rat)) := by grind
    _ = _ := by rw [ex, ey, hx', hy']; generalize (((val x).natAbs : Nat) : Rat) = p; generalize (((val y).natAbs : Nat) : Rat) = q; grind
theorem div_dy {x y : UInt64} {j : Int} (hx : FinV x) (hy : FinV y) (h0 : rv y ≠ 0) (hj : (rv x / rv y) * 35184372088832 = (j : Rat)) (hb : j.natAbs < 2 ^ 53) : FinV (Float64.div x y) ∧ rv (Float64.div x y) = rv x / rv y := by
  have ex := rv_mul x
  have ey := rv_mul y
  obtain ⟨a, m, e, hx⟩ := hx
  obtain ⟨b, k, f, hy⟩ := hy
  have hv0 : val y ≠ 0 := by
    intro h
    apply h0
    unfold rv
    rw [h]
    grind
  have hk : k ≠ 0 := by
    intro h
    apply hv0
    rw [Float64.val_eq hy, h]
    cases b <;> simp [sgn]
  have hr := Float64.div_right hx hy hk
  have hp : 0 < (val y).natAbs := by omega
  refine right_dy hr hp ?_ hj hb
  have hx' := sg_sgn hx
  have hy' := sg_sgn hy
  rw [sg_bne, natcast_mul]
  change _ = sg a * sg b * ((((val x).natAbs : Nat) : Rat) * (KK : Rat))
  have hb' : sg b * sg b = 1 := by unfold sg; cases b <;> decide +kernel
  generalize (((val x).natAbs : Nat) : Rat) = p at *
  generalize (((val y).natAbs : Nat) : Rat) = q at *
  have e1 : q = sg b * (rv y * (KK : Rat)) := by rw [ey, hy']; grind
  have e2 : sg a * p = rv x * (KK : Rat) := by rw [ex, hx']
  calc rv x / rv y * (q * (KK : Rat)) = rv x / rv y * rv y * (KK : Rat) * sg b * (KK : Rat) := by rw [e1]; grind
    _ = rv x * (KK : Rat) * sg b * (KK : Rat) := by rw [Rat.div_mul_cancel h0]
    _ = _ := by rw [← e2]; grind
theorem ofInt_dy {i : Int} (hb : i.natAbs < 256) : FinV (Float64.ofInt i) ∧ rv (Float64.ofInt i) = (i : Rat) := by
  refine right_dy (j := i * 35184372088832) (Float64.ofInt_right i) (by decide) ?_ (by simp) (by omega)
  rw [natcast_mul]
  change _ = sg (decide (i < 0)) * (((i.natAbs : Nat) : Rat) * (KK : Rat))
  have := sg_natAbs i
  generalize ((i.natAbs : Nat) : Rat) = p at *
  rw [← this]
  simp
  grind
/-- a whole number of 128ths -/
noncomputable def Grd (x : UInt64) (n : Int) : Prop := FinV x ∧ rv x = (n : Rat) / 128
theorem Grd.near {x n} (h : Grd x n) : Near 0 x ((n : Rat) / 128) := ⟨h.1, by rw [h.2]; grind, by rw [h.2]; grind⟩
theorem grd_add {x y n m} (hx : Grd x n) (hy : Grd y m) (hb : (n + m).natAbs ≤ 16384) : Grd (Float64.add x y) (n + m) := by
  have h := add_dy (j := (n + m) * 274877906944) hx.1 hy.1 (by rw [hx.2, hy.2]; simp; grind) (by omega)
  exact ⟨h.1, by rw [h.2, hx.2, hy.2]; simp; grind⟩
theorem grd_sub {x y n m} (hx : Grd x n) (hy : Grd y m) (hb : (n - m).natAbs ≤ 16384) : Grd (Float64.sub x y) (n - m) := by
  have h := sub_dy (j := (n - m) * 274877906944) hx.1 hy.1 (by rw [hx.2, hy.2]; simp; grind) (by omega)
  exact ⟨h.1, by rw [h.2, hx.2, hy.2]; simp; grind⟩
theorem grd_ofInt {i : Int} (hb : i.natAbs < 256) : Grd (Float64.ofInt i) (i * 128) := by
  have h := ofInt_dy hb
  exact ⟨h.1, by rw [h.2]; simp; grind⟩
theorem grd_of {x : UInt64} {n : Int} (h1 : Float64.isFinite x = true) (h2 : val x * 128 = n * 2 ^ 1074) : Grd x n := by
  have hf : FinV x := by
    unfold Float64.isFinite at h1
    cases hd : decode x with
    | fin a m e => exact ⟨_, _, _, hd⟩
    | inf a => rw [hd] at h1; cases h1
    | nan => rw [hd] at h1; cases h1
  refine ⟨hf, ?_⟩
  have hK := KKr_pos
  have h3 : (val x : Rat) * 128 = (n : Rat) * (KK : Rat) := by
    have := congrArg (fun k : Int => (k : Rat)) h2
    simp only [Rat.intCast_mul] at this
    exact this
  unfold rv
  have hK0 : (KK : Rat) ≠ 0 := by grind
  have h4 : (val x : Rat) = (n : Rat) / 128 * (KK : Rat) := by grind
  rw [h4, Rat.mul_div_cancel hK0]
theorem FinV.is {x : UInt64} (h : FinV x) : Float64.isFinite x = true := by
  obtain ⟨a, m, e, hd⟩ := h
  unfold Float64.isFinite
  rw [hd]
theorem isZero_false {x : UInt64} (h : FinV x) (h0 : rv x ≠ 0) : Float64.isZero x = false := by
  obtain ⟨a, m, e, hd⟩ := h
  unfold Float64.isZero
  rw [hd]
  cases m with
  | succ m => rfl
  | zero =>
    exfalso
    apply h0
    unfold rv
    rw [Float64.val_eq hd]
    cases a <;> simp [sgn] <;> grind
end Mine
end
section
open PySem PySem.Flt
namespace Mine
open PySem.Float64 (val V sgn Right decode pack infMag dist)
theorem dec_c1 : decode 4607182418800017408 = .fin false 4503599627370496 (-52) := by with_unfolding_all rfl
theorem grd_c1 : Grd 4607182418800017408 128 := grd_of (by decide +kernel) (by decide +kernel)
theorem ofBin_right (a : Bool) (M : Nat) (g : Int) (hg : -1074 ≤ g) : Right (Float64.ofBin a M g) a (M * 2 ^ (g + ((1074 : Nat) : Int)).toNat) 1 := by
  have e : Float64.ofBin a M g = Float64.ofFrac a (Float64.shift M 1 g).1 (Float64.shift M 1 g).2 := by unfold Float64.ofBin; rfl
  rw [e]
  refine Float64.ofFrac_right (Float64.shift_pos _ _ _ (by decide)) ?_ (by decide)
  rw [Nat.mul_one]
  exact Float64.shift_one M g 1074 (by omega)
theorem fmod_right {x : UInt64} {a : Bool} {m : Nat} {e : Int} (hx : decode x = .fin a m e) : Right (Float64.fmod x 4607182418800017408) a ((val x).natAbs % KK) 1 := by
  have he := Float64.decode_ge hx
  have hm : Float64.fmod x 4607182418800017408 = Float64.ofBin a ((m * 2 ^ (e - min e (-52)).toNat) % (4503599627370496 * 2 ^ (-52 - min e (-52)).toNat)) (min e (-52)) := by
    unfold Float64.fmod
    rw [hx, dec_c1]
    rfl
  rw [hm]
  have hb := ofBin_right a ((m * 2 ^ (e - min e (-52)).toNat) % (4503599627370496 * 2 ^ (-52 - min e (-52)).toNat)) (min e (-52)) (by omega)
  refine Eq.mp (congrArg (fun W => Right _ a W 1) ?_) hb
  rw [← Nat.mul_mod_mul_right, Float64.val_natAbs hx]
  have e1 : m * 2 ^ (e - min e (-52)).toNat * 2 ^ (min e (-52) + ((1074 : Nat) : Int)).toNat = m * 2 ^ (e + 1074).toNat := by
    rw [Nat.mul_assoc, ← Nat.pow_add]
    congr 2
    omega
  have e2 : 4503599627370496 * 2 ^ (-52 - min e (-52)).toNat * 2 ^ (min e (-52) + ((1074 : Nat) : Int)).toNat = KK := by
    unfold KK
    rw [Nat.mul_assoc, ← Nat.pow_add, show (4503599627370496 : Nat) = 2 ^ 52 from rfl, ← Nat.pow_add]
    congr 1
    omega
  rw [e1, e2]
theorem fmod_sign {x : UInt64} {a : Bool} {W : Nat} (h : Right x a W 1) (hW : W < 1 * (2 ^ 53 * grid)) : (a = false → 0 ≤ rv x) ∧ (a = true → rv x ≤ 0) := by
  obtain ⟨-, n, hv, -, -⟩ := right_V h (by decide) hW
  have hK := KKr_pos
  have hn : (0 : Rat) ≤ (n : Rat) := by exact_mod_cast Nat.zero_le n
  have hr := rv_mul x
  rw [hv, sgn_rat] at hr
  constructor
  · rintro rfl
    simp at hr
    refine Rat.le_of_mul_le_mul_right (c := (KK : Rat)) ?_ hK
    rw [hr]; grind
  · rintro rfl
    simp at hr
    refine Rat.le_of_mul_le_mul_right (c := (KK : Rat)) ?_ hK
    rw [hr]; grind
theorem isZero_iff {x : UInt64} (h : FinV x) : Float64.isZero x = true ↔ rv x = 0 := by
  constructor
  · intro hz
    obtain ⟨a, m, e, hd⟩ := h
    unfold Float64.isZero at hz
    rw [hd] at hz
    cases m with
    | succ m => cases hz
    | zero =>
      unfold rv
      rw [Float64.val_eq hd]
      cases a <;> simp [sgn] <;> grind
  · intro h0
    cases hz : Float64.isZero x with
    | true => rfl
    | false =>
      exfalso
      obtain ⟨a, m, e, hd⟩ := h
      unfold Float64.isZero at hz
      rw [hd] at hz
      cases m with
      | zero => cases hz
      | succ m =>
        have hr := rv_mul x
        rw [h0, Float64.val_eq hd] at hr
        have h2 : sgn a ((m + 1) * 2 ^ (e + 1074).toNat) = 0 := by
          have : ((sgn a ((m + 1) * 2 ^ (e + 1074).toNat) : Int) : Rat) = ((0 : Int) : Rat) := by rw [← hr]; simp
          exact Rat.intCast_inj.mp this
        have h3 : 0 < (m + 1) * 2 ^ (e + 1074).toNat := Nat.mul_pos (Nat.succ_pos _) (Nat.two_pow_pos _)
        have h4 := Float64.sgn_natAbs a ((m + 1) * 2 ^ (e + 1074).toNat)
        rw [h2] at h4
        exact absurd h4.symm (Nat.ne_of_gt h3)
noncomputable def fmodW (x : UInt64) : UInt64 := (Float64.divmod x 4607182418800017408).2
theorem fmod1_eq {x : UInt64} (hf : FinV (Float64.fmod x 4607182418800017408)) :
    (rv (Float64.fmod x 4607182418800017408) = 0 → fmodW x = Float64.zero false) ∧ (0 < rv (Float64.fmod x 4607182418800017408) → fmodW x = Float64.fmod x 4607182418800017408) ∧
      (rv (Float64.fmod x 4607182418800017408) < 0 → fmodW x = Float64.add (Float64.fmod x 4607182418800017408) 4607182418800017408) := by
  have hz := zero_rv false
  have hd : fmodW x = if Float64.isZero (Float64.fmod x 4607182418800017408) = true then Float64.zero false else if Float64.lt (Float64.fmod x 4607182418800017408) (Float64.zero false) = true then Float64.add (Float64.fmod x 4607182418800017408) 4607182418800017408 else Float64.fmod x 4607182418800017408 := by
    unfold fmodW Float64.divmod
    dsimp only
    have h1 : Float64.lt 4607182418800017408 (Float64.zero false) = false := by decide +kernel
    have h2 : Float64.copysign (Float64.zero false) 4607182418800017408 = Float64.zero false := by decide +kernel
    rw [h1, h2]
    generalize Float64.fmod x 4607182418800017408 = m
    cases Float64.isZero m <;> cases Float64.lt m (Float64.zero false) <;> rfl
  rw [hd]
  have hl : Float64.lt (Float64.fmod x 4607182418800017408) (Float64.zero false) = true ↔ rv (Float64.fmod x 4607182418800017408) < 0 := by
    unfold Float64.lt
    rw [cmp_lt hf hz.1, hz.2]
  have hzz := isZero_iff hf
  generalize Float64.fmod x 4607182418800017408 = m at *
  refine ⟨fun h => ?_, fun h => ?_, fun h => ?_⟩
  · rw [if_pos (hzz.mpr h)]
  · rw [if_neg (fun h2 => by have := hzz.mp h2; grind), if_neg (fun h2 => by have := hl.mp h2; grind)]
  · rw [if_neg (fun h2 => by have := hzz.mp h2; grind), if_pos (hl.mpr h)]
theorem sgn_of_pos {x : UInt64} {a : Bool} {m : Nat} {e : Int} (hx : decode x = .fin a m e) : (0 < rv x → a = false) ∧ (rv x < 0 → a = true) := by
  have hr := rv_mul x
  have hK := KKr_pos
  rw [sg_sgn hx] at hr
  have hn : (0 : Rat) ≤ (((val x).natAbs : Nat) : Rat) := by exact_mod_cast Nat.zero_le _
  generalize (((val x).natAbs : Nat) : Rat) = p at *
  constructor
  · intro h
    cases a with
    | false => rfl
    | true =>
      have h1 := Rat.mul_pos h hK
      rw [hr] at h1
      simp [sg] at h1
      grind
  · intro h
    cases a with
    | true => rfl
    | false =>
      have h1 := Rat.mul_pos (show 0 < -rv x by grind) hK
      simp [sg] at hr
      grind
theorem KK_lt {W : Nat} (h : W < KK) : W < 1 * (2 ^ 53 * grid) := by
  rw [grid_KK] at h
  omega
theorem natAbs_rv (x : UInt64) : (((val x).natAbs : Nat) : Rat) = (if rv x < 0 then -rv x else rv x) * (KK : Rat) := by
  have hr := rv_mul x
  have hK := KKr_pos
  rw [natAbs_rat, ← hr]
  have h1 : val x < 0 ↔ rv x < 0 := by
    constructor
    · intro h
      have h2 : (val x : Rat) < 0 := by exact_mod_cast h
      rw [← hr] at h2
      refine Rat.lt_of_mul_lt_mul_right (c := (KK : Rat)) ?_ (Rat.le_of_lt hK)
      grind
    · intro h
      have h2 := Rat.mul_lt_mul_of_pos_right h hK
      rw [hr] at h2
      have h3 : (val x : Rat) < ((0 : Int) : Rat) := by grind
      exact_mod_cast h3
  by_cases h : rv x < 0
  · rw [if_pos h, if_pos (h1.mpr h)]; grind
  · rw [if_neg h, if_neg (fun h2 => h (h1.mp h2))]
theorem natAbs_lt {x : UInt64} {k : Nat} : (if rv x < 0 then -rv x else rv x) < (k : Rat) ↔ (val x).natAbs < k * KK := by
  have hK := KKr_pos
  have h := natAbs_rv x
  constructor
  · intro hl
    have h2 := Rat.mul_lt_mul_of_pos_right hl hK
    rw [← h, ← natcast_mul] at h2
    exact_mod_cast h2
  · intro hl
    have h2 : (((val x).natAbs : Nat) : Rat) < ((k * KK : Nat) : Rat) := by exact_mod_cast hl
    rw [h, natcast_mul] at h2
    exact Rat.lt_of_mul_lt_mul_right h2 (Rat.le_of_lt hK)
theorem fmod1_A {x : UInt64} (hx : FinV x) (h0 : 0 ≤ rv x) (h1 : rv x < 1) : Near uu (fmodW x) (rv x) := by
  have hu := uu_pos
  have hlt : (val x).natAbs < 1 * KK := natAbs_lt.mp (by simp; split <;> grind)
  rw [Nat.one_mul] at hlt
  have hn := natAbs_rv x
  obtain ⟨a, m, e, hd⟩ := hx
  have hr := fmod_right hd
  rw [Nat.mod_eq_of_lt hlt] at hr
  by_cases hz : rv x = 0
  · have h2 : (val x).natAbs = 0 := by
      rw [hz] at hn
      simp at hn
      exact Int.natAbs_eq_zero.mpr hn
    rw [h2] at hr
    have := right_dy (z := 0) (j := 0) hr (by decide) (by simp) (by simp) (by decide)
    rw [(fmod1_eq this.1).1 this.2, hz]
    exact (near_zero _).mono (Rat.le_of_lt hu)
  · have hp : 0 < rv x := by grind
    have ha := (sgn_of_pos hd).1 hp
    subst ha
    rw [if_neg (by grind)] at hn
    have hN := right_near (z := rv x) hr (by decide) (by rw [hn]; simp [sg]) (by grind) (by grind)
    have hs := (fmod_sign hr (KK_lt hlt)).1 rfl
    have he := fmod1_eq hN.1
    by_cases h3 : rv (Float64.fmod x 4607182418800017408) = 0
    · rw [he.1 h3]
      have hz2 := zero_rv false
      have := hN.2.2
      exact ⟨hz2.1, by rw [hz2.2]; grind, by rw [hz2.2]; grind⟩
    · rw [he.2.1 (by grind)]
      exact hN
theorem fmod1_B {x : UInt64} (hx : FinV x) (h0 : 1 ≤ rv x) (h1 : rv x < 2) : Near uu (fmodW x) (rv x - 1) := by
  have hu := uu_pos
  have hlt : (val x).natAbs < 2 * KK := natAbs_lt.mp (by simp; split <;> grind)
  have hge : ¬ (val x).natAbs < 1 * KK := fun h => by
    have := natAbs_lt.mpr h
    simp at this
    split at this <;> grind
  rw [Nat.one_mul] at hge
  have hn := natAbs_rv x
  have hp : 0 < rv x := by grind
  obtain ⟨a, m, e, hd⟩ := hx
  have hr := fmod_right hd
  have ha := (sgn_of_pos hd).1 hp
  subst ha
  rw [if_neg (by grind)] at hn
  have hmod : (val x).natAbs % KK = (val x).natAbs - KK := by
    rw [Nat.mod_eq_sub_mod (by omega), Nat.mod_eq_of_lt (by omega)]
  rw [hmod] at hr
  have hsub : (((val x).natAbs - KK : Nat) : Rat) = (rv x - 1) * (KK : Rat) := by
    have h2 : (((val x).natAbs - KK : Nat) : Rat) + (KK : Rat) = (((val x).natAbs : Nat) : Rat) := by
      have : (val x).natAbs - KK + KK = (val x).natAbs := by omega
      have := congrArg (fun n : Nat => (n : Rat)) this
      simpa using this
    rw [hn] at h2
    grind
  have hN := right_near (z := rv x - 1) hr (by decide) (by rw [hsub]; simp [sg]) (by grind) (by grind)
  have hs := (fmod_sign hr (KK_lt (by omega))).1 rfl
  have he := fmod1_eq hN.1
  by_cases h3 : rv (Float64.fmod x 4607182418800017408) = 0
  · rw [he.1 h3]
    have hz2 := zero_rv false
    have h4 := hN.2.2
    exact ⟨hz2.1, by rw [hz2.2]; grind, by rw [hz2.2]; grind⟩
  · rw [he.2.1 (by grind)]
    exact hN
theorem fmod1_C {x : UInt64} (hx : FinV x) (h0 : -1 < rv x) (h1 : rv x < 0) : Near (2 * uu) (fmodW x) (rv x + 1) ∨ (Near 0 (fmodW x) 0 ∧ -uu ≤ rv x) := by
  have hu := uu_pos
  have hlt : (val x).natAbs < 1 * KK := natAbs_lt.mp (by simp; split <;> grind)
  rw [Nat.one_mul] at hlt
  have hn := natAbs_rv x
  obtain ⟨a, m, e, hd⟩ := hx
  have hr := fmod_right hd
  rw [Nat.mod_eq_of_lt hlt] at hr
  have ha := (sgn_of_pos hd).2 h1
  subst ha
  rw [if_pos h1] at hn
  have hN := right_near (z := rv x) hr (by decide) (by rw [hn]; simp [sg]; grind) (by grind) (by grind)
  have hs := (fmod_sign hr (KK_lt hlt)).2 rfl
  have he := fmod1_eq hN.1
  have h4 := hN.2.2
  have h5 := hN.2.1
  by_cases h3 : rv (Float64.fmod x 4607182418800017408) = 0
  · right
    rw [he.1 h3]
    exact ⟨near_zero _, by grind⟩
  · left
    rw [he.2.2 (by grind)]
    have hc := grd_c1
    have hc2 : rv 4607182418800017408 = 1 := by rw [hc.2]; decide +kernel
    have hA := add_near hN.1 hc.1 (by rw [hc2]; grind) (by rw [hc2]; unfold uu at *; grind)
    rw [hc2] at hA
    exact ⟨hA.1, by have := hA.2.1; grind, by have := hA.2.2; grind⟩
end Mine
end
section
open PySem PySem.Flt
namespace Mine
open PySem.Float64 (val V sgn Right decode pack infMag dist)
theorem floor_pos {m : Nat} {e : Int} (he : -1074 ≤ e) : ∃ Q : Nat, Float64.floorOf false m e = (Q : Int) ∧ Q * KK ≤ m * 2 ^ (e + 1074).toNat ∧ m * 2 ^ (e + 1074).toNat < (Q + 1) * KK := by
  unfold Float64.floorOf
  by_cases h : e ≥ 0
  · rw [if_pos h]
    refine ⟨m * 2 ^ e.toNat, ?_, ?_, ?_⟩
    · simp [sgn]
    all_goals (
      have e1 : m * 2 ^ (e + 1074).toNat = m * 2 ^ e.toNat * KK := by
        unfold KK
        rw [Nat.mul_assoc, ← Nat.pow_add]
        congr 2
        omega
      rw [e1])
    · exact Nat.le_refl _
    · exact (Nat.mul_lt_mul_right KK_pos).mpr (Nat.lt_succ_self _)
  · rw [if_neg h]
    have e2 : KK = 2 ^ (-e).toNat * 2 ^ (e + 1074).toNat := by
      unfold KK
      rw [← Nat.pow_add]
      congr 1
      omega
    have hp : 0 < 2 ^ (-e).toNat := Nat.two_pow_pos _
    have hq : 0 < 2 ^ (e + 1074).toNat := Nat.two_pow_pos _
    refine ⟨m / 2 ^ (-e).toNat, ?_, ?_, ?_⟩
    · have e3 : (sgn false m) = (m : Int) := rfl
      have e4 : ((2 : Int) ^ (-e).toNat) = ((2 ^ (-e).toNat : Nat) : Int) := by simp
      rw [e3, e4, Int.fdiv_eq_ediv_of_nonneg _ (by omega)]
      exact (Int.natCast_ediv _ _).symm
    · rw [e2, ← Nat.mul_assoc]
      exact Nat.mul_le_mul_right _ (Nat.div_mul_le_self _ _)
    · rw [e2, ← Nat.mul_assoc]
      refine (Nat.mul_lt_mul_right hq).mpr ?_
      have h1 := Nat.div_add_mod m (2 ^ (-e).toNat)
      have h2 := Nat.mod_lt m hp
      rw [Nat.add_mul, Nat.one_mul, Nat.mul_comm (m / _)]
      omega
theorem trunc_is {x : UInt64} (hx : FinV x) {n : Int} (h0 : 0 ≤ n) (h1 : (n : Rat) ≤ rv x) (h2 : rv x < (n : Rat) + 1) : toInt Float64.truncOf x = n := by
  have hn := natAbs_rv x
  have hn0 : (0 : Rat) ≤ (n : Rat) := show ((0 : Int) : Rat) ≤ (n : Rat) from Rat.intCast_le_intCast.mpr h0
  have hs : ¬ rv x < 0 := by grind
  rw [if_neg hs] at hn
  have hK := KKr_pos
  obtain ⟨a, m, e, hd⟩ := hx
  have he := Float64.decode_ge hd
  have hv := Float64.val_natAbs hd
  obtain ⟨Q, hf, hq1, hq2⟩ := floor_pos (m := m) he
  have hQ : (Q : Int) = n := by
    have g1 : ((Q * KK : Nat) : Rat) ≤ rv x * (KK : Rat) := by rw [← hn, hv]; exact cast_le hq1
    have g2 : rv x * (KK : Rat) < (((Q + 1) * KK : Nat) : Rat) := by rw [← hn, hv]; exact Rat.natCast_lt_natCast.mpr hq2
    rw [natcast_mul] at g1 g2
    have g3 := Rat.le_of_mul_le_mul_right g1 hK
    have g4 := Rat.lt_of_mul_lt_mul_right g2 (Rat.le_of_lt hK)
    have g5 : ((Q : Int) : Rat) < ((n + 1 : Int) : Rat) := by
      have : ((Q : Int) : Rat) = (Q : Rat) := rfl
      rw [this, Rat.intCast_add]
      have : ((1 : Int) : Rat) = 1 := rfl
      grind
    have g6 : ((n : Int) : Rat) < (((Q : Int) + 1 : Int) : Rat) := by
      rw [Rat.intCast_add]
      have : ((Q : Int) : Rat) = (Q : Rat) := rfl
      rw [this]
      have h3 : ((Q + 1 : Nat) : Rat) = (Q : Rat) + 1 := by simp
      rw [h3] at g4
      have : ((1 : Int) : Rat) = 1 := rfl
      grind
    have := Rat.intCast_lt_intCast.mp g5
    have := Rat.intCast_lt_intCast.mp g6
    omega
  unfold toInt
  rw [hd]
  cases a with
  | false => exact hf.trans hQ
  | true =>
    have hz : rv x = 0 := by
      rcases Classical.em (0 < rv x) with h | h
      · exact absurd ((sgn_of_pos hd).1 h) (by decide)
      · grind
    rw [hz] at hn
    have hm : m = 0 := by
      rw [hv] at hn
      have h5 : ((m * 2 ^ (e + 1074).toNat : Nat) : Rat) = ((0 : Nat) : Rat) := by rw [hn]; simp
      have h6 : m * 2 ^ (e + 1074).toNat = 0 := Rat.natCast_inj.mp h5
      rcases Nat.mul_eq_zero.mp h6 with h | h
      · exact h
      · exact absurd h (Nat.ne_of_gt (Nat.two_pow_pos _))
    subst hm
    rw [← hQ, ← hf]
    show -(Float64.floorOf false 0 e) = Float64.floorOf false 0 e
    have : (Q : Int) = 0 := by
      rw [hQ]
      rw [hz] at h1
      have : ((n : Int) : Rat) ≤ ((0 : Int) : Rat) := h1
      have := Rat.intCast_le_intCast.mp this
      omega
    rw [hf, this]
    rfl
theorem prod_le {u v U W : Rat} (h1 : -U ≤ u) (h2 : u ≤ U) (h3 : -W ≤ v) (h4 : v ≤ W) : u * v ≤ U * W ∧ -(U * W) ≤ u * v := by
  have a1 : 0 ≤ (U - u) * (W + v) := Rat.mul_nonneg (by grind) (by grind)
  have a2 : 0 ≤ (U + u) * (W - v) := Rat.mul_nonneg (by grind) (by grind)
  have a3 : 0 ≤ (U - u) * (W - v) := Rat.mul_nonneg (by grind) (by grind)
  have a4 : 0 ≤ (U + u) * (W + v) := Rat.mul_nonneg (by grind) (by grind)
  constructor <;> grind
theorem nadd {e f p q : Rat} {x y : UInt64} (hx : Near e x p) (hy : Near f y q) (h1 : -100 ≤ p + q) (h2 : p + q ≤ 100) (h3 : e + f ≤ 1) : Near (e + f + uu) (Float64.add x y) (p + q) := by
  have ⟨a, b, c⟩ := hx
  have ⟨a', b', c'⟩ := hy
  have h := add_near a a' (by grind) (by grind)
  exact ⟨h.1, by have := h.2.1; grind, by have := h.2.2; grind⟩
theorem nsub {e f p q : Rat} {x y : UInt64} (hx : Near e x p) (hy : Near f y q) (h1 : -100 ≤ p - q) (h2 : p - q ≤ 100) (h3 : e + f ≤ 1) : Near (e + f + uu) (Float64.sub x y) (p - q) := by
  have ⟨a, b, c⟩ := hx
  have ⟨a', b', c'⟩ := hy
  have h := sub_near a a' (by grind) (by grind)
  exact ⟨h.1, by have := h.2.1; grind, by have := h.2.2; grind⟩
theorem nmul (A B : Rat) {e f p q : Rat} {x y : UInt64} (hx : Near e x p) (hy : Near f y q) (h1 : -A ≤ p) (h2 : p ≤ A) (h3 : -B ≤ q) (h4 : q ≤ B) (h5 : e ≤ 1) (h6 : f ≤ 1) (h7 : (A + 1) * (B + 1) ≤ 200) :
    Near ((A + 1) * f + e * B + uu) (Float64.mul x y) (p * q) := by
  have ⟨a, b, c⟩ := hx
  have ⟨a', b', c'⟩ := hy
  have g0 := prod_le (u := rv x) (v := rv y) (U := A + 1) (W := B + 1) (by grind) (by grind) (by grind) (by grind)
  have h := mul_near a a' (by grind) (by grind)
  have g1 := prod_le (u := rv x) (v := rv y - q) (U := A + 1) (W := f) (by grind) (by grind) (by grind) (by grind)
  have g2 := prod_le (u := rv x - p) (v := q) (U := e) (W := B) (by grind) (by grind) (by grind) (by grind)
  have e1 : rv x * rv y - p * q = rv x * (rv y - q) + (rv x - p) * q := by grind
  exact ⟨h.1, by have := h.2.1; grind, by have := h.2.2; grind⟩
theorem ndivc (c : Rat) {e p : Rat} {x y : UInt64} (hx : Near e x p) (hy : FinV y) (hc : rv y = c) (h0 : 1 ≤ c) (h1 : -100 ≤ p) (h2 : p ≤ 100) (h3 : e ≤ 1) : Near (e + uu) (Float64.div x y) (p / c) := by
  have ⟨a, b, c'⟩ := hx
  have hcp : 0 < c := by grind
  have hb : ∀ z : Rat, -101 ≤ z → z ≤ 101 → z / c ≤ 101 ∧ -101 ≤ z / c := fun z g1 g2 => by
    have e1 : z / c * c = z := Rat.div_mul_cancel (by grind)
    constructor
    · refine Rat.le_of_mul_le_mul_right (c := c) ?_ hcp
      rw [e1]; grind
    · refine Rat.le_of_mul_le_mul_right (c := c) ?_ hcp
      rw [e1]; grind
  have hbb := hb (rv x) (by grind) (by grind)
  have h := div_near a hy (by rw [hc]; grind) (by rw [hc]; grind) (by rw [hc]; grind)
  rw [hc] at h
  have he : 0 ≤ e := by grind
  have hd : rv x / c - p / c ≤ e ∧ p / c - rv x / c ≤ e := by
    have e1 : rv x / c * c = rv x := Rat.div_mul_cancel (by grind)
    have e2 : p / c * c = p := Rat.div_mul_cancel (by grind)
    have e3 : 0 ≤ e * (c - 1) := Rat.mul_nonneg he (by grind)
    constructor
    · refine Rat.le_of_mul_le_mul_right (c := c) ?_ hcp
      grind
    · refine Rat.le_of_mul_le_mul_right (c := c) ?_ hcp
      grind
  exact ⟨h.1, by have := h.2.1; grind, by have := h.2.2; grind⟩
theorem ndivg {n m : Int} {x y : UInt64} (hx : Grd x n) (hy : Grd y m) (h0 : 0 < m) (h1 : -m ≤ n) (h2 : n ≤ m) : Near uu (Float64.div x y) ((n : Rat) / (m : Rat)) := by
  have hm : (0 : Rat) < (m : Rat) := Rat.intCast_lt_intCast.mpr h0
  have e1 : rv x / rv y = (n : Rat) / (m : Rat) := by rw [hx.2, hy.2]; grind
  have g1 : -(m : Rat) ≤ (n : Rat) := by
    have := Rat.intCast_le_intCast.mpr h1
    rw [Rat.intCast_neg] at this
    exact this
  have g2 : (n : Rat) ≤ (m : Rat) := Rat.intCast_le_intCast.mpr h2
  have e2 : (n : Rat) / (m : Rat) * (m : Rat) = (n : Rat) := Rat.div_mul_cancel (by grind)
  have hb : (n : Rat) / (m : Rat) ≤ 1 ∧ -1 ≤ (n : Rat) / (m : Rat) := by
    constructor
    · refine Rat.le_of_mul_le_mul_right (c := (m : Rat)) ?_ hm
      rw [e2]; grind
    · refine Rat.le_of_mul_le_mul_right (c := (m : Rat)) ?_ hm
      rw [e2]; grind
  have h := div_near hx.1 hy.1 (by rw [hy.2]; grind) (by rw [e1]; grind) (by rw [e1]; grind)
  rw [e1] at h
  exact h
theorem Near.of_rv {x : UInt64} {q : Rat} (h : FinV x ∧ rv x = q) : Near 0 x q := ⟨h.1, by rw [h.2]; grind, by rw [h.2]; grind⟩
end Mine
end
section
open PySem PySem.Flt
namespace Mine
open PySem.Float64 (val V sgn Right decode pack infMag dist)
theorem grd_c2 : Grd c2 256 := grd_of (by decide +kernel) (by decide +kernel)
theorem grd_c4 : Grd c4 512 := grd_of (by decide +kernel) (by decide +kernel)
theorem grd_c6 : Grd c6 768 := grd_of (by decide +kernel) (by decide +kernel)
theorem grd_chalf : Grd chalf 64 := grd_of (by decide +kernel) (by decide +kernel)
theorem grd_c64 : Grd 4634204016564240384 8192 := grd_of (by decide +kernel) (by decide +kernel)
theorem grd_0 : Grd 0 0 := grd_of (by decide +kernel) (by decide +kernel)
theorem rv_c1 : rv c1 = 1 := by rw [grd_c1.2]; decide +kernel
theorem rv_c2 : rv c2 = 2 := by rw [grd_c2.2]; decide +kernel
theorem rv_c4 : rv c4 = 4 := by rw [grd_c4.2]; decide +kernel
theorem rv_c6 : rv c6 = 6 := by rw [grd_c6.2]; decide +kernel
theorem rv_chalf : rv chalf = 1 / 2 := by rw [grd_chalf.2]; decide +kernel
theorem nc1 : Near 0 c1 1 := .of_rv ⟨grd_c1.1, rv_c1⟩
theorem nc2 : Near 0 c2 2 := .of_rv ⟨grd_c2.1, rv_c2⟩
theorem nc4 : Near 0 c4 4 := .of_rv ⟨grd_c4.1, rv_c4⟩
theorem nc6 : Near 0 c6 6 := .of_rv ⟨grd_c6.1, rv_c6⟩
theorem nchalf : Near 0 chalf (1 / 2) := .of_rv ⟨grd_chalf.1, rv_chalf⟩
theorem ncsixth : Near uu csixth (1 / 6) := by
  have e : csixth = Float64.div c1 c6 := by decide +kernel
  rw [e]
  have h := div_near grd_c1.1 grd_c6.1 (by rw [rv_c6]; decide +kernel) (by rw [rv_c6, rv_c1]; decide +kernel) (by rw [rv_c6, rv_c1]; decide +kernel)
  rwa [rv_c6, rv_c1] at h
noncomputable def c3 : UInt64 := 4613937818241073152
theorem grd_c3 : Grd c3 384 := grd_of (by decide +kernel) (by decide +kernel)
theorem rv_c3 : rv c3 = 3 := by rw [grd_c3.2]; decide +kernel
theorem ncthird : Near uu cthird (1 / 3) := by
  have e : cthird = Float64.div c1 c3 := by decide +kernel
  rw [e]
  have h := div_near grd_c1.1 grd_c3.1 (by rw [rv_c3]; decide +kernel) (by rw [rv_c3, rv_c1]; decide +kernel) (by rw [rv_c3, rv_c1]; decide +kernel)
  rwa [rv_c3, rv_c1] at h
theorem nc2third : Near uu c2third (2 / 3) := by
  have e : c2third = Float64.div c2 c3 := by decide +kernel
  rw [e]
  have h := div_near grd_c2.1 grd_c3.1 (by rw [rv_c3]; decide +kernel) (by rw [rv_c3, rv_c2]; decide +kernel) (by rw [rv_c3, rv_c2]; decide +kernel)
  rwa [rv_c3, rv_c2] at h
noncomputable def pt (n : Int) : UInt64 := Float64.div (Float64.ofInt n) 4634204016564240384
theorem grd_pt {n : Int} (h : 0 ≤ n ∧ n ≤ 64) : Grd (pt n) (2 * n) := by
  have h1 := ofInt_dy (i := n) (by omega)
  have h64 : rv 4634204016564240384 = 64 := by rw [grd_c64.2]; decide +kernel
  have h2 := div_dy (j := n * 549755813888) h1.1 grd_c64.1 (by rw [h64]; decide +kernel) (by rw [h1.2, h64]; simp; grind) (by omega)
  refine ⟨h2.1, ?_⟩
  have h3 := h2.2
  unfold pt
  rw [h3, h1.2, h64]
  simp
  grind
theorem grd_lt {x y : UInt64} {n m : Int} (hx : Grd x n) (hy : Grd y m) : (Float64.cmp x y == some .lt) = true ↔ n < m := by
  rw [cmp_lt hx.1 hy.1, hx.2, hy.2]
  constructor
  · intro h
    refine Rat.intCast_lt_intCast.mp ?_
    grind
  · intro h
    have := Rat.intCast_lt_intCast.mpr h
    grind
theorem grd_eq {x y : UInt64} {n m : Int} (hx : Grd x n) (hy : Grd y m) : (Float64.cmp x y == some .eq) = true ↔ n = m := by
  rw [cmp_eq hx.1 hy.1, hx.2, hy.2]
  constructor
  · intro h
    refine Rat.intCast_inj.mp ?_
    grind
  · rintro rfl; rfl
theorem grd_max {a b c : UInt64} {n m k : Int} (ha : Grd a n) (hb : Grd b m) (hc : Grd c k) : Grd (fmax3 a b c) (mx3 n m k) := by
  unfold fmax3 mx3
  by_cases h1 : n < m
  · rw [if_pos ((grd_lt ha hb).mpr h1)]
    by_cases h2 : m < k
    · rw [if_pos ((grd_lt hb hc).mpr h2)]
      rwa [show max (max n m) k = k by omega]
    · rw [if_neg (fun h => h2 ((grd_lt hb hc).mp h))]
      rwa [show max (max n m) k = m by omega]
  · rw [if_neg (fun h => h1 ((grd_lt ha hb).mp h))]
    by_cases h2 : n < k
    · rw [if_pos ((grd_lt ha hc).mpr h2)]
      rwa [show max (max n m) k = k by omega]
    · rw [if_neg (fun h => h2 ((grd_lt ha hc).mp h))]
      rwa [show max (max n m) k = n by omega]
theorem grd_min {a b c : UInt64} {n m k : Int} (ha : Grd a n) (hb : Grd b m) (hc : Grd c k) : Grd (fmin3 a b c) (mn3 n m k) := by
  unfold fmin3 mn3
  by_cases h1 : m < n
  · rw [if_pos ((grd_lt hb ha).mpr h1)]
    by_cases h2 : k < m
    · rw [if_pos ((grd_lt hc hb).mpr h2)]
      rwa [show min (min n m) k = k by omega]
    · rw [if_neg (fun h => h2 ((grd_lt hc hb).mp h))]
      rwa [show min (min n m) k = m by omega]
  · rw [if_neg (fun h => h1 ((grd_lt hb ha).mp h))]
    by_cases h2 : k < n
    · rw [if_pos ((grd_lt hc ha).mpr h2)]
      rwa [show min (min n m) k = k by omega]
    · rw [if_neg (fun h => h2 ((grd_lt hc ha).mp h))]
      rwa [show min (min n m) k = n by omega]
/-- the hue, in sixths, of three whole parts -/
noncomputable def hueR (x y z : Int) : Rat :=
  let M := mx3 x y z
  let d : Rat := ((mx3 x y z - mn3 x y z : Int) : Rat)
  if x = M then (if z ≤ y then ((y - z : Int) : Rat) / d else ((y - z : Int) : Rat) / d + 6) else if y = M then 2 + ((z - x : Int) : Rat) / d else 4 + ((x - y : Int) : Rat) / d
theorem frac_bounds {a d : Int} (hd : 0 < d) (h1 : -d ≤ a) (h2 : a ≤ d) : -1 ≤ (a : Rat) / (d : Rat) ∧ (a : Rat) / (d : Rat) ≤ 1 := by
  have hm : (0 : Rat) < (d : Rat) := Rat.intCast_lt_intCast.mpr hd
  have e2 : (a : Rat) / (d : Rat) * (d : Rat) = (a : Rat) := Rat.div_mul_cancel (by grind)
  have g1 : -(d : Rat) ≤ (a : Rat) := by
    have := Rat.intCast_le_intCast.mpr h1
    rw [Rat.intCast_neg] at this
    exact this
  have g2 : (a : Rat) ≤ (d : Rat) := Rat.intCast_le_intCast.mpr h2
  constructor
  · refine Rat.le_of_mul_le_mul_right (c := (d : Rat)) ?_ hm
    rw [e2]; grind
  · refine Rat.le_of_mul_le_mul_right (c := (d : Rat)) ?_ hm
    rw [e2]; grind
theorem frac_pos {a d : Int} (hd : 0 < d) (hd2 : d ≤ 64) (h1 : 0 < a) : 1 / 64 ≤ (a : Rat) / (d : Rat) := by
  have hm : (0 : Rat) < (d : Rat) := Rat.intCast_lt_intCast.mpr hd
  have hm2 : (d : Rat) ≤ ((64 : Int) : Rat) := Rat.intCast_le_intCast.mpr hd2
  have e2 : (a : Rat) / (d : Rat) * (d : Rat) = (a : Rat) := Rat.div_mul_cancel (by grind)
  have g2 : ((1 : Int) : Rat) ≤ (a : Rat) := Rat.intCast_le_intCast.mpr h1
  refine Rat.le_of_mul_le_mul_right (c := (d : Rat)) ?_ hm
  rw [e2]
  have : ((64 : Int) : Rat) = 64 := rfl
  have : ((1 : Int) : Rat) = 1 := rfl
  grind
end Mine
end
section
open PySem PySem.Flt
namespace Mine
open PySem.Float64 (val V sgn Right decode pack infMag dist)
theorem gmax {x y z : Int} (hx : 0 ≤ x ∧ x ≤ 64) (hy : 0 ≤ y ∧ y ≤ 64) (hz : 0 ≤ z ∧ z ≤ 64) : Grd (fmax3 (pt x) (pt y) (pt z)) (2 * mx3 x y z) := by
  have h := grd_max (grd_pt hx) (grd_pt hy) (grd_pt hz)
  rwa [show mx3 (2 * x) (2 * y) (2 * z) = 2 * mx3 x y z by unfold mx3; omega] at h
theorem gmin {x y z : Int} (hx : 0 ≤ x ∧ x ≤ 64) (hy : 0 ≤ y ∧ y ≤ 64) (hz : 0 ≤ z ∧ z ≤ 64) : Grd (fmin3 (pt x) (pt y) (pt z)) (2 * mn3 x y z) := by
  have h := grd_min (grd_pt hx) (grd_pt hy) (grd_pt hz)
  rwa [show mn3 (2 * x) (2 * y) (2 * z) = 2 * mn3 x y z by unfold mn3; omega] at h
theorem two_cancel {a d : Int} (hd : 0 < d) : ((2 * a : Int) : Rat) / ((2 * d : Int) : Rat) = (a : Rat) / (d : Rat) := by
  have hm : (0 : Rat) < (d : Rat) := Rat.intCast_lt_intCast.mpr hd
  rw [Rat.intCast_mul, Rat.intCast_mul]
  have : ((2 : Int) : Rat) = 2 := rfl
  rw [this]
  grind
/-- a part's share: how far below the greatest -/
theorem share {m r g : UInt64} {M q d : Int} (hM : Grd m (2 * M)) (hr : Grd r (2 * q)) (hg : Grd g (2 * d)) (h0 : 0 ≤ M - q) (h1 : M - q ≤ d) (h2 : 0 < d) (h3 : d ≤ 64) : Near uu (Float64.div (Float64.sub m r) g) (((M - q : Int) : Rat) / (d : Rat)) := by
  have h := ndivg (grd_sub hM hr (by omega)) hg (by omega) (by omega) (by omega)
  rw [show 2 * M - 2 * q = 2 * (M - q) by omega, two_cancel h2] at h
  exact h
theorem hue_mod {h : UInt64} {p e : Rat} (hn : Near e h p) (h0 : 0 ≤ rv h) (h1 : p ≤ 5) (he : e ≤ 10 * uu) : Near (e + 2 * uu) (fmod1 (Float64.div h c6)) (p / 6) := by
  have hu := uu_pos
  have hu2 : uu < 1 / 1000000 := by unfold uu; decide +kernel
  have ⟨a, b, c⟩ := hn
  have hd := ndivc 6 hn grd_c6.1 rv_c6 (by decide +kernel) (by grind) (by grind) (by grind)
  have ⟨a', b', c'⟩ := hd
  have hd0 : 0 ≤ rv (Float64.div h c6) := by
    rcases Classical.em (rv h = 0) with hz | hz
    · have := div_dy (j := 0) a grd_c6.1 (by rw [rv_c6]; decide +kernel) (by rw [hz, rv_c6]; decide +kernel) (by decide)
      rw [this.2, hz, rv_c6]
      decide +kernel
    · have ha : 0 < rv h := by grind
      obtain ⟨s, m, k, hd'⟩ := id a
      have := (sgn_of_pos hd').1 ha
      subst this
      obtain ⟨s6, m6, k6, hd6⟩ := id grd_c6.1
      have hs6 := (sgn_of_pos hd6).1 (by rw [rv_c6]; decide +kernel)
      subst hs6
      have hk : m6 ≠ 0 := by
        intro hk
        subst hk
        have := rv_c6
        unfold rv at this
        rw [Float64.val_eq hd6] at this
        simp [sgn] at this
        grind
      have hr := Float64.div_right hd' hd6 hk
      obtain ⟨t, ht, -⟩ := id hr
      have hdec := a'
      obtain ⟨s', m', k', hd''⟩ := id a'
      cases s' with
      | false =>
        have hr' := rv_mul (Float64.div h c6)
        rw [sg_sgn hd''] at hr'
        have hK := KKr_pos
        refine Rat.le_of_mul_le_mul_right (c := (KK : Rat)) ?_ hK
        rw [hr']
        have : (0 : Rat) ≤ (((val (Float64.div h c6)).natAbs : Nat) : Rat) := by exact_mod_cast Nat.zero_le _
        simp [sg]
        exact this
      | true =>
        exfalso
        obtain ⟨t, ht, hle, hov, -⟩ := hr
        have htl : t < infMag := by
          refine Nat.lt_of_le_of_ne hle fun he => ?_
          rw [ht, he] at hd''
          have : decode (pack (false != false) infMag) = .inf false := by with_unfolding_all rfl
          rw [this] at hd''
          cases hd''
        obtain ⟨m2, e2, hd2, -⟩ := Float64.decode_pack (false != false) htl
        rw [← ht, hd''] at hd2
        cases hd2
  have hf := fmod1_A a' hd0 (by grind)
  exact ⟨hf.1, by have := hf.2.1; unfold fmod1; unfold fmodW at this; grind, by have := hf.2.2; unfold fmod1; unfold fmodW at this; grind⟩
end Mine
end
section
open PySem PySem.Flt
namespace Mine
open PySem.Float64 (val V sgn Right decode pack infMag dist)
theorem sub_frac (p q : Int) (d : Rat) : ((p : Int) : Rat) / d - ((q : Int) : Rat) / d = ((p - q : Int) : Rat) / d := by
  rw [Rat.intCast_sub]; grind
theorem pos_of_gt {h : UInt64} {p e : Rat} (hn : Near e h p) (h1 : e ≤ p) : 0 ≤ rv h := by have := hn.2.2; grind
theorem uu_small : uu < 1 / 1000000000 := by unfold uu; decide +kernel
theorem hue_near {x y z : Int} (hx : 0 ≤ x ∧ x ≤ 60) (hy : 0 ≤ y ∧ y ≤ 60) (hz : 0 ≤ z ∧ z ≤ 60) (hd : mn3 x y z < mx3 x y z) : Near (8 * uu) (hueOf (pt x) (pt y) (pt z)) (hueR x y z / 6) := by
  have hu := uu_pos
  have hu2 := uu_small
  have gM := gmax (x := x) (y := y) (z := z) (by omega) (by omega) (by omega)
  have gm := gmin (x := x) (y := y) (z := z) (by omega) (by omega) (by omega)
  have gx := grd_pt (n := x) (by omega)
  have gy := grd_pt (n := y) (by omega)
  have gz := grd_pt (n := z) (by omega)
  have hM : x ≤ mx3 x y z ∧ y ≤ mx3 x y z ∧ z ≤ mx3 x y z ∧ (x = mx3 x y z ∨ y = mx3 x y z ∨ z = mx3 x y z) ∧ mx3 x y z ≤ 60 := by unfold mx3; omega
  have hm : mn3 x y z ≤ x ∧ mn3 x y z ≤ y ∧ mn3 x y z ≤ z ∧ 0 ≤ mn3 x y z := by unfold mn3; omega
  unfold hueOf hueR
  generalize hMM : mx3 x y z = M at *
  generalize hmm : mn3 x y z = m at *
  generalize fmax3 (pt x) (pt y) (pt z) = fM at *
  generalize fmin3 (pt x) (pt y) (pt z) = fm at *
  have gd : Grd (Float64.sub fM fm) (2 * (M - m)) := by
    have h := grd_sub gM gm (by omega)
    rwa [show 2 * M - 2 * m = 2 * (M - m) by omega] at h
  have sx := share gM gx gd (by omega) (by omega) (by omega) (by omega)
  have sy := share gM gy gd (by omega) (by omega) (by omega) (by omega)
  have sz := share gM gz gd (by omega) (by omega) (by omega) (by omega)
  have hdp : 0 < M - m := by omega
  dsimp only
  have e1 : feq (pt x) fM = true ↔ x = M := by unfold feq; rw [grd_eq gx gM]; omega
  have e2 : feq (pt y) fM = true ↔ y = M := by unfold feq; rw [grd_eq gy gM]; omega
  by_cases c1 : x = M
  · rw [if_pos (e1.mpr c1), if_pos c1]
    by_cases c2 : z ≤ y
    · rw [if_pos c2]
      by_cases c3 : y = z
      · subst c3
        have h0 := sub_dy (j := 0) sz.1 sz.1 (by grind) (by decide)
        have h00 : rv (Float64.sub (Float64.div (Float64.sub fM (pt y)) (Float64.sub fM fm)) (Float64.div (Float64.sub fM (pt y)) (Float64.sub fM fm))) = 0 := by rw [h0.2]; grind
        have := hue_mod (.of_rv ⟨h0.1, h00⟩) (by rw [h00]; decide +kernel) (by decide +kernel) (by grind)
        refine (this.mono (by grind)).cast ?_
        simp
        grind
      · have hn := nsub sz sy (by have := frac_bounds (a := M - z) hdp (by omega) (by omega); have := frac_bounds (a := M - y) hdp (by omega) (by omega); grind) (by have := frac_bounds (a := M - z) hdp (by omega) (by omega); have := frac_bounds (a := M - y) hdp (by omega) (by omega); grind) (by grind)
        rw [sub_frac, show M - z - (M - y) = y - z by omega] at hn
        have hp := frac_pos (a := y - z) hdp (by omega) (by omega)
        have hb := frac_bounds (a := y - z) hdp (by omega) (by omega)
        exact (hue_mod hn (pos_of_gt hn (by grind)) (by grind) (by grind)).mono (by grind)
    · rw [if_neg c2]
      have hn := nsub sz sy (by have := frac_bounds (a := M - z) hdp (by omega) (by omega); have := frac_bounds (a := M - y) hdp (by omega) (by omega); grind) (by have := frac_bounds (a := M - z) hdp (by omega) (by omega); have := frac_bounds (a := M - y) hdp (by omega) (by omega); grind) (by grind)
      rw [sub_frac, show M - z - (M - y) = y - z by omega] at hn
      have hp := frac_pos (a := z - y) hdp (by omega) (by omega)
      have hb := frac_bounds (a := z - y) hdp (by omega) (by omega)
      have hneg : ((y - z : Int) : Rat) / ((M - m : Int) : Rat) = -(((z - y : Int) : Rat) / ((M - m : Int) : Rat)) := by
        rw [Rat.intCast_sub, Rat.intCast_sub]; grind
      rw [hneg] at hn ⊢
      generalize ((z - y : Int) : Rat) / ((M - m : Int) : Rat) = w at *
      have hdv := ndivc 6 hn grd_c6.1 rv_c6 (by decide +kernel) (by grind) (by grind) (by grind)
      have ⟨a', b', c'⟩ := hdv
      rcases fmod1_C a' (by grind) (by grind) with h | h
      · exact ⟨h.1, by have := h.2.1; unfold fmodW at this; grind, by have := h.2.2; unfold fmodW at this; grind⟩
      · exfalso
        have := h.2
        grind
  · rw [if_neg (fun h => c1 (e1.mp h)), if_neg c1]
    by_cases c2 : y = M
    · rw [if_pos (e2.mpr c2), if_pos c2]
      have b1 := frac_bounds (a := M - x) hdp (by omega) (by omega)
      have b2 := frac_bounds (a := M - z) hdp (by omega) (by omega)
      have h1 := nadd nc2 sx (by grind) (by grind) (by grind)
      have h2 := nsub h1 sz (by grind) (by grind) (by grind)
      have ee : 2 + ((M - x : Int) : Rat) / ((M - m : Int) : Rat) - ((M - z : Int) : Rat) / ((M - m : Int) : Rat) = 2 + ((z - x : Int) : Rat) / ((M - m : Int) : Rat) := by
        have := sub_frac (M - x) (M - z) ((M - m : Int) : Rat)
        rw [show M - x - (M - z) = z - x by omega] at this
        grind
      rw [ee] at h2
      have hb := frac_bounds (a := z - x) hdp (by omega) (by omega)
      exact (hue_mod h2 (pos_of_gt h2 (by grind)) (by grind) (by grind)).mono (by grind)
    · rw [if_neg (fun h => c2 (e2.mp h)), if_neg c2]
      have b1 := frac_bounds (a := M - x) hdp (by omega) (by omega)
      have b2 := frac_bounds (a := M - y) hdp (by omega) (by omega)
      have h1 := nadd nc4 sy (by grind) (by grind) (by grind)
      have h2 := nsub h1 sx (by grind) (by grind) (by grind)
      have ee : 4 + ((M - y : Int) : Rat) / ((M - m : Int) : Rat) - ((M - x : Int) : Rat) / ((M - m : Int) : Rat) = 4 + ((x - y : Int) : Rat) / ((M - m : Int) : Rat) := by
        have := sub_frac (M - y) (M - x) ((M - m : Int) : Rat)
        rw [show M - y - (M - x) = x - y by omega] at this
        grind
      rw [ee] at h2
      have hb := frac_bounds (a := x - y) hdp (by omega) (by omega)
      exact (hue_mod h2 (pos_of_gt h2 (by grind)) (by grind) (by grind)).mono (by grind)
end Mine
end
section
open PySem PySem.Flt
namespace Mine
open PySem.Float64 (val V sgn Right decode pack infMag dist)
noncomputable def wR (P : Rat) : Rat := if P ≤ 1 then 1 else if P ≤ 2 then 2 - P else if P ≤ 4 then 0 else if P ≤ 5 then P - 4 else 1
noncomputable def wG (P : Rat) : Rat := if P ≤ 1 then P else if P ≤ 3 then 1 else if P ≤ 4 then 4 - P else 0
noncomputable def wB (P : Rat) : Rat := if P ≤ 2 then 0 else if P ≤ 3 then P - 2 else if P ≤ 5 then 1 else 6 - P
/-- a part's height over the least, in terms of the range -/
noncomputable def ht (a m d : Int) : Rat := ((a - m : Int) : Rat) / (d : Rat)
theorem ht_one {d : Int} (h : 0 < d) (a m : Int) (e : a - m = d) : ht a m d = 1 := by
  have hm : (0 : Rat) < (d : Rat) := Rat.intCast_lt_intCast.mpr h
  unfold ht; rw [e]; grind
theorem ht_zero (a m d : Int) (e : a - m = 0) : ht a m d = 0 := by
  unfold ht; rw [e]; simp; grind
theorem weights {x y z : Int} (hx : 0 ≤ x ∧ x ≤ 60) (hy : 0 ≤ y ∧ y ≤ 60) (hz : 0 ≤ z ∧ z ≤ 60) (hd : mn3 x y z < mx3 x y z) :
    0 ≤ hueR x y z ∧ hueR x y z ≤ 6 - 1 / 64 ∧ ht x (mn3 x y z) (mx3 x y z - mn3 x y z) = wR (hueR x y z) ∧ ht y (mn3 x y z) (mx3 x y z - mn3 x y z) = wG (hueR x y z) ∧ ht z (mn3 x y z) (mx3 x y z - mn3 x y z) = wB (hueR x y z) := by
  have hM : x ≤ mx3 x y z ∧ y ≤ mx3 x y z ∧ z ≤ mx3 x y z ∧ (x = mx3 x y z ∨ y = mx3 x y z ∨ z = mx3 x y z) ∧ mx3 x y z ≤ 60 := by unfold mx3; omega
  have hm : mn3 x y z ≤ x ∧ mn3 x y z ≤ y ∧ mn3 x y z ≤ z ∧ (x = mn3 x y z ∨ y = mn3 x y z ∨ z = mn3 x y z) ∧ 0 ≤ mn3 x y z := by unfold mn3; omega
  unfold hueR
  generalize mx3 x y z = M at *
  generalize mn3 x y z = m at *
  have hdp : 0 < M - m := by omega
  have hm0 : (0 : Rat) < ((M - m : Int) : Rat) := Rat.intCast_lt_intCast.mpr hdp
  have key : ∀ a b : Int, ((a - b : Int) : Rat) / ((M - m : Int) : Rat) = ht a m (M - m) - ht b m (M - m) := fun a b => by
    unfold ht; rw [sub_frac]; congr 2; omega
  have hb : ∀ a : Int, m ≤ a → a ≤ M → 0 ≤ ht a m (M - m) ∧ ht a m (M - m) ≤ 1 := fun a h1 h2 => by
    have hh := frac_bounds (a := a - m) hdp (by omega) (by omega)
    refine ⟨?_, hh.2⟩
    rcases Classical.em (a = m) with h | h
    · rw [ht_zero a m _ (by omega)]; grind
    · have := frac_pos (a := a - m) hdp (by omega) (by omega)
      unfold ht; grind
  have hpos : ∀ a b : Int, b < a → a ≤ 60 → 1 / 64 ≤ ht a m (M - m) - ht b m (M - m) := fun a b h1 h2 => by
    rw [← key]
    exact frac_pos hdp (by omega) (by omega)
  have bx := hb x (by omega) (by omega)
  have by' := hb y (by omega) (by omega)
  have bz := hb z (by omega) (by omega)
  dsimp only
  simp only [key]
  have o1 : ∀ a : Int, a = M → ht a m (M - m) = 1 := fun a h => ht_one hdp a m (by omega)
  have o0 : ∀ a : Int, a = m → ht a m (M - m) = 0 := fun a h => ht_zero a m _ (by omega)
  by_cases c1 : x = M
  · rw [if_pos c1]
    have h1 := o1 x c1
    by_cases c2 : z ≤ y
    · rw [if_pos c2]
      have h2 := o0 z (by omega)
      generalize ht x m (M - m) = p at *
      generalize ht y m (M - m) = q at *
      generalize ht z m (M - m) = r at *
      unfold wR wG wB
      subst h1 h2
      refine ⟨by grind, by grind, by grind, by grind, by grind⟩
    · rw [if_neg c2]
      have h2 := o0 y (by omega)
      have h3 := hpos z y (by omega) (by omega)
      generalize ht x m (M - m) = p at *
      generalize ht y m (M - m) = q at *
      generalize ht z m (M - m) = r at *
      unfold wR wG wB
      subst h1 h2
      refine ⟨by grind, by grind, by grind, by grind, by grind⟩
  · rw [if_neg c1]
    by_cases c2 : y = M
    · rw [if_pos c2]
      have h1 := o1 y c2
      have h2 : ht x m (M - m) = 0 ∨ ht z m (M - m) = 0 := by
        by_cases h : x = m
        · exact .inl (o0 x h)
        · exact .inr (o0 z (by omega))
      generalize ht x m (M - m) = p at *
      generalize ht y m (M - m) = q at *
      generalize ht z m (M - m) = r at *
      unfold wR wG wB
      subst h1
      rcases h2 with h2 | h2 <;> subst h2 <;> refine ⟨by grind, by grind, by grind, by grind, by grind⟩
    · rw [if_neg c2]
      have h1 := o1 z (by omega)
      have h2 : ht x m (M - m) = 0 ∨ ht y m (M - m) = 0 := by
        by_cases h : x = m
        · exact .inl (o0 x h)
        · exact .inr (o0 y (by omega))
      have h3 := hpos z y (by omega) (by omega)
      have h4 := hpos z x (by omega) (by omega)
      generalize ht x m (M - m) = p at *
      generalize ht y m (M - m) = q at *
      generalize ht z m (M - m) = r at *
      unfold wR wG wB
      subst h1
      rcases h2 with h2 | h2 <;> subst h2 <;> refine ⟨by grind, by grind, by grind, by grind, by grind⟩
theorem whole_near {x : UInt64} {e : Rat} {N : Int} (h : Near e x ((N : Rat) / 64)) (h0 : 0 ≤ N) (h1 : N ≤ 64) (he : e ≤ 1 / 1000) :
    wholeOf x = N ∧ Float64.isFinite (Float64.add (Float64.mul x (Float64.ofInt 64)) chalf) = true := by
  have hu := uu_pos
  have hu2 := uu_small
  have ⟨a, b, c⟩ := h
  have g := ofInt_dy (i := 64) (by decide)
  have e64 : ((64 : Int) : Rat) = 64 := rfl
  have hN0 : (0 : Rat) ≤ (N : Rat) := show ((0 : Int) : Rat) ≤ (N : Rat) from Rat.intCast_le_intCast.mpr h0
  have hN1 : (N : Rat) ≤ 64 := show (N : Rat) ≤ ((64 : Int) : Rat) from Rat.intCast_le_intCast.mpr h1
  rw [e64] at g
  have hm := nmul 1 64 h (.of_rv g) (by grind) (by grind) (by decide +kernel) (by decide +kernel) (by grind) (by grind) (by decide +kernel)
  have ha := nadd hm nchalf (by grind) (by grind) (by grind)
  refine ⟨?_, ha.1.is⟩
  unfold wholeOf
  refine trunc_is ha.1 h0 ?_ ?_
  · have := ha.2.2; grind
  · have := ha.2.1; grind
end Mine
end
section
open PySem PySem.Flt
namespace Mine
open PySem.Float64 (val V sgn Right decode pack infMag dist)
noncomputable def cR (i : Int) (f : Rat) : Rat := if i = 1 then f else if i = 2 then 1 else if i = 3 then 1 else if i = 4 then 1 - f else 0
noncomputable def cG (i : Int) (f : Rat) : Rat := if i = 0 ∨ i = 6 then 1 - f else if i = 3 then f else if i = 4 then 1 else if i = 5 then 1 else 0
noncomputable def cB (i : Int) (f : Rat) : Rat := if i = 0 ∨ i = 6 then 1 else if i = 1 then 1 else if i = 2 then 1 - f else if i = 5 then f else 0
theorem floor7 {X : Rat} (h0 : 0 ≤ X) (h1 : X < 7) : ∃ i : Int, 0 ≤ i ∧ i ≤ 6 ∧ (i : Rat) ≤ X ∧ X < (i : Rat) + 1 := by
  have k : ∀ i : Int, ∀ q : Rat, (i : Rat) = q → q ≤ X → X < q + 1 → 0 ≤ i → i ≤ 6 → ∃ i : Int, 0 ≤ i ∧ i ≤ 6 ∧ (i : Rat) ≤ X ∧ X < (i : Rat) + 1 := fun i q e a b c d => ⟨i, c, d, by rw [e]; exact a, by rw [e]; exact b⟩
  by_cases h : X < 1
  · exact k 0 0 rfl h0 (by grind) (by decide) (by decide)
  by_cases h : X < 2
  · exact k 1 1 rfl (by grind) (by grind) (by decide) (by decide)
  by_cases h : X < 3
  · exact k 2 2 rfl (by grind) (by grind) (by decide) (by decide)
  by_cases h : X < 4
  · exact k 3 3 rfl (by grind) (by grind) (by decide) (by decide)
  by_cases h : X < 5
  · exact k 4 4 rfl (by grind) (by grind) (by decide) (by decide)
  by_cases h : X < 6
  · exact k 5 5 rfl (by grind) (by grind) (by decide) (by decide)
  · exact k 6 6 rfl (by grind) (by grind) (by decide) (by decide)
/-- what hsv_to_rgb reckons, near enough: h by six is P, s is d of M, v is M 64ths -/
theorem rgb_near {h s v : UInt64} {P e : Rat} {M d : Int} (hh : Near e h (P / 6)) (h0 : 1 / 2 ≤ P) (h1 : P ≤ 7 - 1 / 64) (he : e ≤ 100 * uu) (hs : Near uu s ((d : Rat) / (M : Rat))) (hv : Grd v (2 * M)) (hd : 0 < d) (hdM : d ≤ M) (hM : M ≤ 64) :
    ∃ (i : Int) (f : Rat), 0 ≤ i ∧ i ≤ 6 ∧ 0 ≤ f ∧ f < 1 ∧ (i : Rat) + f - P ≤ 6 * e + uu ∧ P - ((i : Rat) + f) ≤ 6 * e + uu ∧ Float64.isFinite (Float64.mul h c6) = true ∧ toInt Float64.truncOf (Float64.mul h c6) = i ∧
      Near (100 * uu) (rgbR h s v) (((M : Rat) - (d : Rat) * cR i f) / 64) ∧ Near (100 * uu) (rgbG h s v) (((M : Rat) - (d : Rat) * cG i f) / 64) ∧ Near (100 * uu) (rgbB h s v) (((M : Rat) - (d : Rat) * cB i f) / 64) := by
  have hu := uu_pos
  have hu2 := uu_small
  have he0 : 0 ≤ e := by have := hh.2.1; have := hh.2.2; grind
  have hm := nmul 2 6 hh nc6 (by grind) (by grind) (by decide +kernel) (by decide +kernel) (by grind) (by grind) (by decide +kernel)
  have hP : P / 6 * 6 = P := by grind
  rw [hP] at hm
  have hX0 : 0 ≤ rv (Float64.mul h c6) := by have := hm.2.2; grind
  have hX7 : rv (Float64.mul h c6) < 7 := by have := hm.2.1; grind
  obtain ⟨i, hi0, hi6, hi1, hi2⟩ := floor7 hX0 hX7
  have ht := trunc_is hm.1 hi0 hi1 hi2
  refine ⟨i, rv (Float64.mul h c6) - (i : Rat), hi0, hi6, by grind, by grind, by have := hm.2.1; grind, by have := hm.2.2; grind, hm.1.is, ht, ?_⟩
  have gi := ofInt_dy (i := i) (by omega)
  have hF : Near uu (hsvF h) (rv (Float64.mul h c6) - (i : Rat)) := by
    unfold hsvF hsvI
    rw [ht]
    have := sub_near hm.1 gi.1 (by rw [gi.2]; grind) (by rw [gi.2]; grind)
    rwa [gi.2] at this
  have hiI : hsvI h = i := ht
  have hf0 : 0 ≤ rv (Float64.mul h c6) - (i : Rat) := by grind
  have hf1 : rv (Float64.mul h c6) - (i : Rat) < 1 := by grind
  generalize rv (Float64.mul h c6) - (i : Rat) = f at *
  have hM0 : (0 : Rat) < (M : Rat) := Rat.intCast_lt_intCast.mpr (by omega : (0 : Int) < M)
  have hM64 : (M : Rat) ≤ 64 := show (M : Rat) ≤ ((64 : Int) : Rat) from Rat.intCast_le_intCast.mpr hM
  have hq := frac_bounds (a := d) (d := M) (by omega) (by omega) (by omega)
  have hq0 : 0 ≤ (d : Rat) / (M : Rat) := by have := frac_pos (a := d) (d := M) (by omega) (by omega) (by omega); grind
  have hvn : Near 0 v ((M : Rat) / 64) := by
    refine .of_rv ⟨hv.1, ?_⟩
    rw [hv.2, Rat.intCast_mul]
    have : ((2 : Int) : Rat) = 2 := rfl
    rw [this]; grind
  have vs : (M : Rat) / 64 * ((d : Rat) / (M : Rat)) = (d : Rat) / 64 := by grind
  generalize (d : Rat) / (M : Rat) = S at *
  have hsf := nmul 1 1 hs hF (by grind) (by grind) (by grind) (by grind) (by grind) (by grind) (by decide +kernel)
  have hF1 := nsub nc1 hF (by grind) (by grind) (by grind)
  have hsf1 := nmul 1 1 hs hF1 (by grind) (by grind) (by grind) (by grind) (by grind) (by grind) (by decide +kernel)
  have p1 := prod_le (u := S) (v := f) (U := 1) (W := 1) (by grind) (by grind) (by grind) (by grind)
  have p2 := prod_le (u := S) (v := 1 - f) (U := 1) (W := 1) (by grind) (by grind) (by grind) (by grind)
  have a1 := nsub nc1 hs (by grind) (by grind) (by grind)
  have a2 := nsub nc1 hsf (by grind) (by grind) (by grind)
  have a3 := nsub nc1 hsf1 (by grind) (by grind) (by grind)
  have nP : Near (100 * uu) (hsvP s v) (((M : Rat) - (d : Rat) * 1) / 64) := by
    have := nmul 1 2 hvn a1 (by grind) (by grind) (by grind) (by grind) (by grind) (by grind) (by decide +kernel)
    exact (this.mono (by grind)).cast (by grind)
  have nQ : Near (100 * uu) (hsvQ h s v) (((M : Rat) - (d : Rat) * f) / 64) := by
    have := nmul 1 2 hvn a2 (by grind) (by grind) (by grind) (by grind) (by grind) (by grind) (by decide +kernel)
    exact (this.mono (by grind)).cast (by grind)
  have nT : Near (100 * uu) (hsvT h s v) (((M : Rat) - (d : Rat) * (1 - f)) / 64) := by
    have := nmul 1 2 hvn a3 (by grind) (by grind) (by grind) (by grind) (by grind) (by grind) (by decide +kernel)
    exact (this.mono (by grind)).cast (by grind)
  have nV : Near (100 * uu) v (((M : Rat) - (d : Rat) * 0) / 64) := (hvn.mono (by grind)).cast (by grind)
  unfold rgbR rgbG rgbB
  rw [hiI]
  have hc : i = 0 ∨ i = 1 ∨ i = 2 ∨ i = 3 ∨ i = 4 ∨ i = 5 ∨ i = 6 := by omega
  rcases hc with rfl | rfl | rfl | rfl | rfl | rfl | rfl <;> exact ⟨by assumption, by assumption, by assumption⟩
theorem lip_on {i : Int} {f H k : Rat} (hi0 : 0 ≤ i) (hi6 : i ≤ 6) (f0 : 0 ≤ f) (f1 : f < 1) (h0 : 0 ≤ H) (h1 : H ≤ 6) (a : (i : Rat) + f - (H + 1) ≤ k) (b : H + 1 - ((i : Rat) + f) ≤ k) (hk : k ≤ 1 / 1000) :
    (cR i f - wG H ≤ k ∧ wG H - cR i f ≤ k) ∧ (cG i f - wB H ≤ k ∧ wB H - cG i f ≤ k) ∧ (cB i f - wR H ≤ k ∧ wR H - cB i f ≤ k) := by
  have k0 : (((0 : Int)) : Rat) = 0 := rfl
  have k1 : (((1 : Int)) : Rat) = 1 := rfl
  have k2 : (((2 : Int)) : Rat) = 2 := rfl
  have k3 : (((3 : Int)) : Rat) = 3 := rfl
  have k4 : (((4 : Int)) : Rat) = 4 := rfl
  have k5 : (((5 : Int)) : Rat) = 5 := rfl
  have k6 : (((6 : Int)) : Rat) = 6 := rfl
  have hc : i = 0 ∨ i = 1 ∨ i = 2 ∨ i = 3 ∨ i = 4 ∨ i = 5 ∨ i = 6 := by omega
  unfold wR wG wB
  rcases hc with rfl | rfl | rfl | rfl | rfl | rfl | rfl <;> simp [cR, cG, cB] <;> refine ⟨⟨?_, ?_⟩, ⟨?_, ?_⟩, ⟨?_, ?_⟩⟩ <;> grind
end Mine
end
section
open PySem PySem.Flt
namespace Mine
open PySem.Float64 (val V sgn Right decode pack infMag dist)
section
variable {x y z : Int} (hx : 0 ≤ x ∧ x ≤ 60) (hy : 0 ≤ y ∧ y ≤ 60) (hz : 0 ≤ z ∧ z ≤ 60) (hd : mn3 x y z < mx3 x y z)
include hx hy hz
theorem mm_facts : x ≤ mx3 x y z ∧ y ≤ mx3 x y z ∧ z ≤ mx3 x y z ∧ mx3 x y z ≤ 60 ∧ mn3 x y z ≤ x ∧ mn3 x y z ≤ y ∧ mn3 x y z ≤ z ∧ 0 ≤ mn3 x y z :=
  have g := mm_ge (x := x) (y := y) (z := z)
  ⟨g.1, g.2.1, g.2.2.1, Int.max_le.mpr ⟨Int.max_le.mpr ⟨hx.2, hy.2⟩, hz.2⟩, g.2.2.2.1, g.2.2.2.2.1, g.2.2.2.2.2, Int.le_min.mpr ⟨Int.le_min.mpr ⟨hx.1, hy.1⟩, hz.1⟩⟩
theorem gM' : Grd (fmax3 (pt x) (pt y) (pt z)) (2 * mx3 x y z) := gmax (by omega) (by omega) (by omega)
theorem gm' : Grd (fmin3 (pt x) (pt y) (pt z)) (2 * mn3 x y z) := gmin (by omega) (by omega) (by omega)
theorem gd' : Grd (Float64.sub (fmax3 (pt x) (pt y) (pt z)) (fmin3 (pt x) (pt y) (pt z))) (2 * (mx3 x y z - mn3 x y z)) := by
  have := mm_facts hx hy hz
  have h := grd_sub (gM' hx hy hz) (gm' hx hy hz) (by omega)
  rwa [show 2 * mx3 x y z - 2 * mn3 x y z = 2 * (mx3 x y z - mn3 x y z) by omega] at h
theorem gs' : Grd (Float64.add (fmax3 (pt x) (pt y) (pt z)) (fmin3 (pt x) (pt y) (pt z))) (2 * (mx3 x y z + mn3 x y z)) := by
  have := mm_facts hx hy hz
  have h := grd_add (gM' hx hy hz) (gm' hx hy hz) (by omega)
  rwa [show 2 * mx3 x y z + 2 * mn3 x y z = 2 * (mx3 x y z + mn3 x y z) by omega] at h
theorem g2' : Grd (Float64.sub (Float64.sub c2 (fmax3 (pt x) (pt y) (pt z))) (fmin3 (pt x) (pt y) (pt z))) (2 * (128 - mx3 x y z - mn3 x y z)) := by
  have := mm_facts hx hy hz
  have h := grd_sub (grd_sub grd_c2 (gM' hx hy hz) (by omega)) (gm' hx hy hz) (by omega)
  rwa [show 256 - 2 * mx3 x y z - 2 * mn3 x y z = 2 * (128 - mx3 x y z - mn3 x y z) by omega] at h
omit hx hy hz in
theorem nz_of {a : UInt64} {n : Int} (h : Grd a n) (h0 : n ≠ 0) : Float64.isZero a = false := by
  refine isZero_false h.1 ?_
  rw [h.2]
  intro h2
  apply h0
  have : (n : Rat) = ((0 : Int) : Rat) := by
    have : ((0 : Int) : Rat) = 0 := rfl
    grind
  exact Rat.intCast_inj.mp this
theorem pre_ne (hd : mn3 x y z < mx3 x y z) : ¬ (Float64.cmp (fmin3 (pt x) (pt y) (pt z)) (fmax3 (pt x) (pt y) (pt z)) == some .eq) = true := by
  rw [grd_eq (gm' hx hy hz) (gM' hx hy hz)]; omega
theorem pre_eq (hd : ¬ mn3 x y z < mx3 x y z) : (Float64.cmp (fmin3 (pt x) (pt y) (pt z)) (fmax3 (pt x) (pt y) (pt z)) == some .eq) = true := by
  have := mm_facts hx hy hz
  rw [grd_eq (gm' hx hy hz) (gM' hx hy hz)]; omega
theorem pre_max (hd : mn3 x y z < mx3 x y z) : Float64.isZero (fmax3 (pt x) (pt y) (pt z)) = false := by
  have := mm_facts hx hy hz
  exact nz_of (gM' hx hy hz) (by omega)
theorem pre_sub (hd : mn3 x y z < mx3 x y z) : Float64.isZero (Float64.sub (fmax3 (pt x) (pt y) (pt z)) (fmin3 (pt x) (pt y) (pt z))) = false := nz_of (gd' hx hy hz) (by omega)
theorem pre_add (hd : mn3 x y z < mx3 x y z) : Float64.isZero (Float64.add (fmax3 (pt x) (pt y) (pt z)) (fmin3 (pt x) (pt y) (pt z))) = false := by
  have := mm_facts hx hy hz
  exact nz_of (gs' hx hy hz) (by omega)
theorem pre_2 : Float64.isZero (Float64.sub (Float64.sub c2 (fmax3 (pt x) (pt y) (pt z))) (fmin3 (pt x) (pt y) (pt z))) = false := by
  have := mm_facts hx hy hz
  exact nz_of (g2' hx hy hz) (by omega)
theorem sat_near (hd : mn3 x y z < mx3 x y z) : Near uu (satOf (pt x) (pt y) (pt z)) (((mx3 x y z - mn3 x y z : Int) : Rat) / (mx3 x y z : Rat)) := by
  have := mm_facts hx hy hz
  have h := ndivg (gd' hx hy hz) (gM' hx hy hz) (by omega) (by omega) (by omega)
  rw [two_cancel (by omega)] at h
  exact h
theorem sat_ne (hd : mn3 x y z < mx3 x y z) : ¬ (Float64.cmp (satOf (pt x) (pt y) (pt z)) 0 == some .eq) = true := by
  have := mm_facts hx hy hz
  have hu2 := uu_small
  have h := sat_near hx hy hz hd
  have hp := frac_pos (a := mx3 x y z - mn3 x y z) (d := mx3 x y z) (by omega) (by omega) (by omega)
  rw [cmp_eq h.1 grd_0.1]
  have : rv 0 = 0 := by rw [grd_0.2]; decide +kernel
  rw [this]
  have := h.2.2
  grind
omit hx hy hz in
theorem chan_is {a m M : Int} {c k : Rat} {X : UInt64} (hn : Near (100 * uu) X (((M : Rat) - ((M - m : Int) : Rat) * c) / 64)) (hc : c - ht a m (M - m) ≤ k) (hc2 : ht a m (M - m) - c ≤ k) (hk : k ≤ 1000 * uu) (hm : m < M) (h0 : 0 ≤ m) (h1 : M ≤ 60) (ha : m ≤ a) (ha2 : a ≤ M) :
    wholeOf X = M + m - a ∧ Float64.isFinite (Float64.add (Float64.mul X (Float64.ofInt 64)) chalf) = true := by
  have hu := uu_pos
  have hu2 := uu_small
  have hdp : 0 < M - m := by omega
  have hm0 : (0 : Rat) < ((M - m : Int) : Rat) := Rat.intCast_lt_intCast.mpr hdp
  have hm64 : ((M - m : Int) : Rat) ≤ 64 := show ((M - m : Int) : Rat) ≤ ((64 : Int) : Rat) from Rat.intCast_le_intCast.mpr (by omega)
  have e1 : ((M - m : Int) : Rat) * ht a m (M - m) = ((a - m : Int) : Rat) := by unfold ht; grind
  have hp := prod_le (u := ((M - m : Int) : Rat)) (v := c - ht a m (M - m)) (U := 64) (W := k) (by grind) (by grind) (by grind) (by grind)
  have e2 : ((M - m : Int) : Rat) * (c - ht a m (M - m)) = ((M - m : Int) : Rat) * c - ((a - m : Int) : Rat) := by rw [← e1]; grind
  rw [e2] at hp
  have e3 : ((M + m - a : Int) : Rat) = (M : Rat) - ((a - m : Int) : Rat) := by simp; grind
  have hn2 : Near (2000 * uu) X (((M + m - a : Int) : Rat) / 64) := by
    rw [e3]
    exact ⟨hn.1, by have := hn.2.1; grind, by have := hn.2.2; grind⟩
  exact whole_near hn2 (by omega) (by omega) (by grind)
omit hx hy hz in
theorem chan_is2 {a m M : Int} {c k : Rat} {X : UInt64} (hn : Near (300 * uu) X (((M : Rat) - ((M - m : Int) : Rat) * c) / 64)) (hc : c - ht a m (M - m) ≤ k) (hc2 : ht a m (M - m) - c ≤ k) (hk : k ≤ 3000 * uu) (hm : m < M) (h0 : 0 ≤ m) (h1 : M ≤ 60) (ha : m ≤ a) (ha2 : a ≤ M) :
    wholeOf X = M + m - a ∧ Float64.isFinite (Float64.add (Float64.mul X (Float64.ofInt 64)) chalf) = true := by
  have hu := uu_pos
  have hu2 := uu_small
  have hdp : 0 < M - m := by omega
  have hm0 : (0 : Rat) < ((M - m : Int) : Rat) := Rat.intCast_lt_intCast.mpr hdp
  have hm64 : ((M - m : Int) : Rat) ≤ 64 := show ((M - m : Int) : Rat) ≤ ((64 : Int) : Rat) from Rat.intCast_le_intCast.mpr (by omega)
  have e1 : ((M - m : Int) : Rat) * ht a m (M - m) = ((a - m : Int) : Rat) := by unfold ht; grind
  have hp := prod_le (u := ((M - m : Int) : Rat)) (v := c - ht a m (M - m)) (U := 64) (W := k) (by grind) (by grind) (by grind) (by grind)
  have e2 : ((M - m : Int) : Rat) * (c - ht a m (M - m)) = ((M - m : Int) : Rat) * c - ((a - m : Int) : Rat) := by rw [← e1]; grind
  rw [e2] at hp
  have e3 : ((M + m - a : Int) : Rat) = (M : Rat) - ((a - m : Int) : Rat) := by simp; grind
  have hn2 : Near (20000 * uu) X (((M + m - a : Int) : Rat) / 64) := by
    rw [e3]
    exact ⟨hn.1, by have := hn.2.1; grind, by have := hn.2.2; grind⟩
  exact whole_near hn2 (by omega) (by omega) (by grind)
theorem on_full (hd : mn3 x y z < mx3 x y z) : ∃ h s v, h = Float64.add (hueOf (pt x) (pt y) (pt z)) csixth ∧ s = satOf (pt x) (pt y) (pt z) ∧ v = fmax3 (pt x) (pt y) (pt z) ∧
    Float64.isFinite (Float64.mul h c6) = true ∧ 0 ≤ toInt Float64.truncOf (Float64.mul h c6) ∧ toInt Float64.truncOf (Float64.mul h c6) < 100 ∧
    (wholeOf (rgbR h s v) = mx3 x y z + mn3 x y z - y ∧ Float64.isFinite (Float64.add (Float64.mul (rgbR h s v) (Float64.ofInt 64)) chalf) = true) ∧
    (wholeOf (rgbG h s v) = mx3 x y z + mn3 x y z - z ∧ Float64.isFinite (Float64.add (Float64.mul (rgbG h s v) (Float64.ofInt 64)) chalf) = true) ∧
    (wholeOf (rgbB h s v) = mx3 x y z + mn3 x y z - x ∧ Float64.isFinite (Float64.add (Float64.mul (rgbB h s v) (Float64.ofInt 64)) chalf) = true) := by
  have hu := uu_pos
  have hu2 := uu_small
  refine ⟨_, _, _, rfl, rfl, rfl, ?_⟩
  have hf := mm_facts hx hy hz
  have hH := hue_near hx hy hz hd
  obtain ⟨w0, w6, wr, wg, wb⟩ := weights hx hy hz hd
  have h1 := nadd hH ncsixth (by grind) (by grind) (by grind)
  have e1 : hueR x y z / 6 + 1 / 6 = (hueR x y z + 1) / 6 := by grind
  rw [e1] at h1
  obtain ⟨i, f, hi0, hi6, f0, f1, ha, hb, hfin, htr, nR, nG, nB⟩ := rgb_near h1 (by grind) (by grind) (by grind) (sat_near hx hy hz hd) (gM' hx hy hz) (by omega) (by omega) (by omega)
  have hl := lip_on hi0 hi6 f0 f1 w0 (by grind) ha hb (by grind)
  rw [← wr, ← wg, ← wb] at hl
  refine ⟨hfin, by rw [htr]; omega, by rw [htr]; omega, ?_, ?_, ?_⟩
  · exact chan_is nR hl.1.1 hl.1.2 (by grind) hd (by omega) (by omega) (by omega) (by omega)
  · exact chan_is nG hl.2.1.1 hl.2.1.2 (by grind) hd (by omega) (by omega) (by omega) (by omega)
  · exact chan_is nB hl.2.2.1 hl.2.2.2 (by grind) hd (by omega) (by omega) (by omega) (by omega)
theorem grey_whole (hd : ¬ mn3 x y z < mx3 x y z) : wholeOf (fmax3 (pt x) (pt y) (pt z)) = mx3 x y z ∧ Float64.isFinite (Float64.add (Float64.mul (fmax3 (pt x) (pt y) (pt z)) (Float64.ofInt 64)) chalf) = true := by
  have hf := mm_facts hx hy hz
  have g := gM' hx hy hz
  refine whole_near (e := 0) ?_ (by omega) (by omega) (by decide +kernel)
  refine .of_rv ⟨g.1, ?_⟩
  rw [g.2, Rat.intCast_mul]
  have : ((2 : Int) : Rat) = 2 := rfl
  rw [this]; grind
end
end Mine
end
section
open PySem PySem.Flt
namespace Mine
open PySem.Float64 (val V sgn Right decode pack infMag dist)
noncomputable def wGc (P : Rat) : Rat := if P < 0 then wG (P + 6) else if P < 6 then wG P else wG (P - 6)
theorem wG_lo {x : Rat} (h : x ≤ 1) : wG x = x := if_pos h
theorem wG_mid {x : Rat} (h : 1 ≤ x) (h' : x ≤ 3) : wG x = 1 := by
  by_cases e : x ≤ 1
  · rw [wG_lo e]; grind
  · unfold wG; rw [if_neg e, if_pos h']
theorem wG_dn {x : Rat} (h : 3 ≤ x) (h' : x ≤ 4) : wG x = 4 - x := by
  have e1 : ¬ x ≤ 1 := by grind
  by_cases e : x ≤ 3
  · rw [wG_mid (by grind) e]; grind
  · unfold wG; rw [if_neg e1, if_neg e, if_pos h']
theorem wG_hi {x : Rat} (h : 4 ≤ x) : wG x = 0 := by
  by_cases e : x ≤ 4
  · rw [wG_dn (by grind) e]; grind
  · unfold wG; rw [if_neg (by grind), if_neg (by grind), if_neg e]
theorem wGc_0 {P : Rat} (h : P < 0) : wGc P = wG (P + 6) := if_pos h
theorem wGc_1 {P : Rat} (h : ¬ P < 0) (h' : P < 6) : wGc P = wG P := by unfold wGc; rw [if_neg h, if_pos h']
theorem wGc_2 {P : Rat} (h' : ¬ P < 6) : wGc P = wG (P - 6) := by unfold wGc; rw [if_neg (by grind), if_neg h']
theorem wGc_facts {H : Rat} (h0 : 0 ≤ H) (h1 : H < 6) : wGc (H + 1) = 1 - wB H ∧ wGc (H - 1) = 1 - wR H ∧ wGc (H - 3) = 1 - wG H := by
  unfold wGc wR wG wB
  refine ⟨by grind, by grind, by grind⟩
theorem wG_up {a b k : Rat} (h : a - b ≤ k) (h' : b - a ≤ k) (hk : 0 ≤ k) : wG a - wG b ≤ k := by
  unfold wG
  grind
theorem wG_lip {a b k : Rat} (h : a - b ≤ k) (h' : b - a ≤ k) (hk : 0 ≤ k) : wG a - wG b ≤ k ∧ wG b - wG a ≤ k := ⟨wG_up h h' hk, wG_up h' h hk⟩
section
variable {P x k d : Rat}
theorem wGc_near0 (hk : 0 ≤ k) (hk1 : k ≤ 1 / 100) (hd : 0 ≤ d) (hd1 : d ≤ 1 / 100) (h1 : x - P ≤ k) (h2 : P - x ≤ k) (x0 : -d ≤ x) (x1 : x ≤ 6 + d) : wG x - wGc P ≤ k + d ∧ wGc P - wG x ≤ k + d := by
  by_cases p0 : P < 0
  · rw [wGc_0 p0, wG_lo (x := x) (by grind), wG_hi (x := P + 6) (by grind)]
    constructor <;> grind
  · by_cases p6 : P < 6
    · rw [wGc_1 p0 p6]
      have := wG_lip h1 h2 hk
      constructor <;> grind
    · rw [wGc_2 p6, wG_hi (x := x) (by grind), wG_lo (x := P - 6) (by grind)]
      constructor <;> grind
theorem wGc_near6 (hk : 0 ≤ k) (hk1 : k ≤ 1 / 100) (hd : 0 ≤ d) (hd1 : d ≤ 1 / 100) (h1 : x - (P + 6) ≤ k) (h2 : P + 6 - x ≤ k) (x0 : -d ≤ x) (x1 : x ≤ 6 + d) : wG x - wGc P ≤ k + d ∧ wGc P - wG x ≤ k + d := by
  by_cases p0 : P < 0
  · rw [wGc_0 p0]
    have := wG_lip h1 h2 hk
    constructor <;> grind
  · rw [wGc_1 p0 (by grind), wG_hi (x := x) (by grind), wG_lo (x := P) (by grind)]
    constructor <;> grind
theorem wGc_near7 (hk : 0 ≤ k) (hk1 : k ≤ 1 / 100) (hd : 0 ≤ d) (hd1 : d ≤ 1 / 100) (h1 : x - (P - 6) ≤ k) (h2 : P - 6 - x ≤ k) (x0 : -d ≤ x) (x1 : x ≤ 6 + d) : wG x - wGc P ≤ k + d ∧ wGc P - wG x ≤ k + d := by
  by_cases p6 : P < 6
  · rw [wGc_1 (by grind) p6, wG_lo (x := x) (by grind), wG_hi (x := P) (by grind)]
    constructor <;> grind
  · rw [wGc_2 p6]
    have := wG_lip h1 h2 hk
    constructor <;> grind
end
theorem fin_k {X Y P e : Rat} (h1 : X - Y ≤ 2 * uu) (h2 : Y - X ≤ 2 * uu) (h3 : Y - P ≤ e) (h4 : P - Y ≤ e) (he : e ≤ 100 * uu) : 6 * X - 6 * P ≤ 650 * uu ∧ 6 * P - 6 * X ≤ 650 * uu := by
  have hu := uu_pos
  constructor <;> grind
theorem k_small : 0 ≤ 650 * uu ∧ 650 * uu ≤ 1 / 100 ∧ 0 ≤ 12 * uu ∧ 12 * uu ≤ 1 / 100 ∧ 650 * uu + 12 * uu ≤ 1000 * uu := by
  have hu := uu_pos
  have hu2 := uu_small
  refine ⟨by grind, by grind, by grind, by grind, by grind⟩
theorem six_bd {X : Rat} (h0 : -uu ≤ X) (h1 : X ≤ 1 + 2 * uu) : -(12 * uu) ≤ 6 * X ∧ 6 * X ≤ 6 + 12 * uu := by
  have hu := uu_pos
  constructor <;> grind
theorem to_k {a b : Rat} (h : a - b ≤ 650 * uu + 12 * uu ∧ b - a ≤ 650 * uu + 12 * uu) : a - b ≤ 1000 * uu ∧ b - a ≤ 1000 * uu := ⟨Rat.le_trans h.1 k_small.2.2.2.2, Rat.le_trans h.2 k_small.2.2.2.2⟩
theorem mod_0 {X Y P e : Rat} (h1 : X - Y ≤ 2 * uu) (h2 : Y - X ≤ 2 * uu) (h3 : Y - P / 6 ≤ e) (h4 : P / 6 - Y ≤ e) (he : e ≤ 100 * uu) (x0 : -uu ≤ X) (x1 : X ≤ 1 + 2 * uu) : wG (6 * X) - wGc P ≤ 1000 * uu ∧ wGc P - wG (6 * X) ≤ 1000 * uu := by
  have q := fin_k h1 h2 h3 h4 he
  rw [show 6 * (P / 6) = P by grind] at q
  have s := six_bd x0 x1
  exact to_k (wGc_near0 k_small.1 k_small.2.1 k_small.2.2.1 k_small.2.2.2.1 q.1 q.2 s.1 s.2)
theorem mod_6 {X Y P e : Rat} (h1 : X - (Y + 1) ≤ 2 * uu) (h2 : Y + 1 - X ≤ 2 * uu) (h3 : Y - P / 6 ≤ e) (h4 : P / 6 - Y ≤ e) (he : e ≤ 100 * uu) (x0 : -uu ≤ X) (x1 : X ≤ 1 + 2 * uu) : wG (6 * X) - wGc P ≤ 1000 * uu ∧ wGc P - wG (6 * X) ≤ 1000 * uu := by
  have q := fin_k (P := P / 6 + 1) h1 h2 (by grind) (by grind) he
  rw [show 6 * (P / 6 + 1) = P + 6 by grind] at q
  have s := six_bd x0 x1
  exact to_k (wGc_near6 k_small.1 k_small.2.1 k_small.2.2.1 k_small.2.2.2.1 q.1 q.2 s.1 s.2)
theorem mod_7 {X Y P e : Rat} (h1 : X - (Y - 1) ≤ 2 * uu) (h2 : Y - 1 - X ≤ 2 * uu) (h3 : Y - P / 6 ≤ e) (h4 : P / 6 - Y ≤ e) (he : e ≤ 100 * uu) (x0 : -uu ≤ X) (x1 : X ≤ 1 + 2 * uu) : wG (6 * X) - wGc P ≤ 1000 * uu ∧ wGc P - wG (6 * X) ≤ 1000 * uu := by
  have q := fin_k (P := P / 6 - 1) h1 h2 (by grind) (by grind) he
  rw [show 6 * (P / 6 - 1) = P - 6 by grind] at q
  have s := six_bd x0 x1
  exact to_k (wGc_near7 k_small.1 k_small.2.1 k_small.2.2.1 k_small.2.2.2.1 q.1 q.2 s.1 s.2)
theorem le2u {a : Rat} (h : a ≤ uu) : a ≤ 2 * uu := by have hu := uu_pos; grind
theorem x_bd {X Y : Rat} (h1 : X - Y ≤ 2 * uu) (h2 : Y - X ≤ uu) (y0 : 0 ≤ Y) (y1 : Y ≤ 1) : -uu ≤ X ∧ X ≤ 1 + 2 * uu := by constructor <;> grind
theorem mod_near {h : UInt64} {P e : Rat} (hh : Near e h (P / 6)) (h0 : -6 + 1 / 100 ≤ P) (h1 : P ≤ 12 - 1 / 100) (he : e ≤ 100 * uu) :
    FinV (fmod1 h) ∧ -uu ≤ rv (fmod1 h) ∧ rv (fmod1 h) ≤ 1 + 2 * uu ∧ wG (6 * rv (fmod1 h)) - wGc P ≤ 1000 * uu ∧ wGc P - wG (6 * rv (fmod1 h)) ≤ 1000 * uu := by
  have hu := uu_pos
  have hu2 := uu_small
  have ⟨a, b, c⟩ := hh
  rcases Classical.em (rv h < 0) with hn | hn
  · rcases fmod1_C a (by grind) hn with ⟨a', b', c'⟩ | ⟨⟨a', b', c'⟩, d'⟩
    · change FinV (fmod1 h) at a'
      change rv (fmod1 h) - _ ≤ _ at b'
      change _ - rv (fmod1 h) ≤ _ at c'
      have x0 : -uu ≤ rv (fmod1 h) := by grind
      have x1 : rv (fmod1 h) ≤ 1 + 2 * uu := by grind
      exact ⟨a', x0, x1, mod_6 b' c' b c he x0 x1⟩
    · change FinV (fmod1 h) at a'
      change rv (fmod1 h) - _ ≤ _ at b'
      change _ - rv (fmod1 h) ≤ _ at c'
      have x0 : -uu ≤ rv (fmod1 h) := by grind
      have x1 : rv (fmod1 h) ≤ 1 + 2 * uu := by grind
      exact ⟨a', x0, x1, mod_0 (by grind) (by grind) b c he x0 x1⟩
  · rcases Classical.em (rv h < 1) with hn1 | hn1
    · have ⟨a', b', c'⟩ := fmod1_A a (Rat.not_lt.mp hn) hn1
      change FinV (fmod1 h) at a'
      change rv (fmod1 h) - _ ≤ _ at b'
      change _ - rv (fmod1 h) ≤ _ at c'
      have x := x_bd (le2u b') c' (Rat.not_lt.mp hn) (Rat.le_of_lt hn1)
      exact ⟨a', x.1, x.2, mod_0 (le2u b') (le2u c') b c he x.1 x.2⟩
    · have ⟨a', b', c'⟩ := fmod1_B a (Rat.not_lt.mp hn1) (by grind)
      change FinV (fmod1 h) at a'
      change rv (fmod1 h) - _ ≤ _ at b'
      change _ - rv (fmod1 h) ≤ _ at c'
      have x := x_bd (le2u b') c' (by grind) (by grind)
      exact ⟨a', x.1, x.2, mod_7 (le2u b') (le2u c') b c he x.1 x.2⟩
theorem v_near {m1 m2 h : UInt64} {p1 p2 P e : Rat} (hh : Near e h (P / 6)) (h0 : -6 + 1 / 100 ≤ P) (h1 : P ≤ 12 - 1 / 100) (he : e ≤ 100 * uu) (n1 : Near (8 * uu) m1 p1) (n2 : Near (8 * uu) m2 p2) (g0 : 0 ≤ p1) (g1 : p1 ≤ p2) (g2 : p2 ≤ 1) :
    ∃ t, Near (300 * uu) (vOf m1 m2 h) (p1 + (p2 - p1) * t) ∧ t - wGc P ≤ 2000 * uu ∧ wGc P - t ≤ 2000 * uu := by
  have hu := uu_pos
  have hu2 := uu_small
  obtain ⟨a, b1, b2, k1, k2⟩ := mod_near hh h0 h1 he
  have s6 := ncsixth
  have s3 := nc2third
  have sh := nchalf
  have hsub := nsub n2 n1 (by grind) (by grind) (by grind)
  unfold vOf
  have hX := Near.self a
  by_cases q1 : (Float64.cmp (fmod1 h) csixth == some .lt) = true
  · rw [if_pos q1]
    have r1 := (cmp_lt a s6.1).mp q1
    have := s6.2.1
    have x1 := nmul 1 2 hsub hX (by grind) (by grind) (by grind) (by grind) (by grind) (by grind) (by decide +kernel)
    have pp := prod_le (u := p2 - p1) (v := rv (fmod1 h)) (U := 1) (W := 2) (by grind) (by grind) (by grind) (by grind)
    have x2 := nmul 2 6 x1 nc6 (by grind) (by grind) (by grind) (by grind) (by grind) (by grind) (by decide +kernel)
    have x3 := nadd n1 x2 (by grind) (by grind) (by grind)
    refine ⟨6 * rv (fmod1 h), (x3.mono (by grind)).cast (by grind), ?_⟩
    generalize rv (fmod1 h) = X at *
    unfold wG at k1 k2
    constructor <;> grind
  · rw [if_neg q1]
    have r1 : ¬ _ := fun hc => q1 ((cmp_lt a s6.1).mpr hc)
    have := s6.2.2
    by_cases q2 : (Float64.cmp (fmod1 h) chalf == some .lt) = true
    · rw [if_pos q2]
      have r2 := (cmp_lt a sh.1).mp q2
      rw [rv_chalf] at r2
      refine ⟨1, (n2.mono (by grind)).cast (by grind), ?_⟩
      generalize rv (fmod1 h) = X at *
      unfold wG at k1 k2
      constructor <;> grind
    · rw [if_neg q2]
      have r2 : ¬ _ := fun hc => q2 ((cmp_lt a sh.1).mpr hc)
      rw [rv_chalf] at r2
      by_cases q3 : (Float64.cmp (fmod1 h) c2third == some .lt) = true
      · rw [if_pos q3]
        have r3 := (cmp_lt a s3.1).mp q3
        have := s3.2.1
        have x0 := nsub s3 hX (by grind) (by grind) (by grind)
        have x1 := nmul 1 1 hsub x0 (by grind) (by grind) (by grind) (by grind) (by grind) (by grind) (by decide +kernel)
        have pp := prod_le (u := p2 - p1) (v := 2 / 3 - rv (fmod1 h)) (U := 1) (W := 1) (by grind) (by grind) (by grind) (by grind)
        have x2 := nmul 2 6 x1 nc6 (by grind) (by grind) (by grind) (by grind) (by grind) (by grind) (by decide +kernel)
        have x3 := nadd n1 x2 (by grind) (by grind) (by grind)
        refine ⟨6 * (2 / 3 - rv (fmod1 h)), (x3.mono (by grind)).cast (by grind), ?_⟩
        generalize rv (fmod1 h) = X at *
        unfold wG at k1 k2
        constructor <;> grind
      · rw [if_neg q3]
        have r3 : ¬ _ := fun hc => q3 ((cmp_lt a s3.1).mpr hc)
        have := s3.2.2
        refine ⟨0, (n1.mono (by grind)).cast (by grind), ?_⟩
        generalize rv (fmod1 h) = X at *
        unfold wG at k1 k2
        constructor <;> grind
end Mine
end
section
open PySem PySem.Flt
namespace Mine
open PySem.Float64 (val V sgn Right decode pack infMag dist)
theorem fle_iff {a b : UInt64} {n m : Int} (ha : Grd a n) (hb : Grd b m) : fle a b = true ↔ n ≤ m := by
  unfold fle
  rw [Bool.or_eq_true, grd_lt ha hb, grd_eq ha hb]
  omega
theorem two_c (n : Int) : ((2 * n : Int) : Rat) / 128 = (n : Rat) / 64 := by
  rw [Rat.intCast_mul]
  have : ((2 : Int) : Rat) = 2 := rfl
  rw [this]; grind
section
variable {x y z : Int} (hx : 0 ≤ x ∧ x ≤ 60) (hy : 0 ≤ y ∧ y ≤ 60) (hz : 0 ≤ z ∧ z ≤ 60)
include hx hy hz
theorem light_grd : Grd (lightOf (pt x) (pt y) (pt z)) (mx3 x y z + mn3 x y z) := by
  have hf := mm_facts hx hy hz
  have g := gs' hx hy hz
  have e1 : rv (Float64.add (fmax3 (pt x) (pt y) (pt z)) (fmin3 (pt x) (pt y) (pt z))) / 2 = ((mx3 x y z + mn3 x y z : Int) : Rat) / 128 := by
    rw [g.2, two_c]; grind
  have h := div_dy (j := (mx3 x y z + mn3 x y z) * 274877906944) g.1 grd_c2.1 (by rw [rv_c2]; decide +kernel) (by rw [rv_c2, e1, Rat.intCast_mul]; have : ((274877906944 : Int) : Rat) = 274877906944 := rfl; rw [this]; grind) (by omega)
  rw [rv_c2, e1] at h
  exact h
theorem m_near (hd : mn3 x y z < mx3 x y z) :
    Near (8 * uu) (m2Of (lightOf (pt x) (pt y) (pt z)) (depthOf (pt x) (pt y) (pt z))) ((mx3 x y z : Rat) / 64) ∧ Near (8 * uu) (m1Of (lightOf (pt x) (pt y) (pt z)) (depthOf (pt x) (pt y) (pt z))) ((mn3 x y z : Rat) / 64) ∧
      ¬ (Float64.cmp (depthOf (pt x) (pt y) (pt z)) 0 == some .eq) = true := by
  have hu := uu_pos
  have hu2 := uu_small
  have hf := mm_facts hx hy hz
  have gl := light_grd hx hy hz
  have gd := gd' hx hy hz
  have gs := gs' hx hy hz
  have g2 := g2' hx hy hz
  have hfl := fle_iff gl grd_chalf
  unfold m1Of
  have gln : Near 0 (lightOf (pt x) (pt y) (pt z)) ((mx3 x y z + mn3 x y z : Int) / 128 : Rat) := gl.near
  have hM : ((mx3 x y z + mn3 x y z : Int) : Rat) = (mx3 x y z : Rat) + (mn3 x y z : Rat) := Rat.intCast_add ..
  have hD : ((mx3 x y z - mn3 x y z : Int) : Rat) = (mx3 x y z : Rat) - (mn3 x y z : Rat) := Rat.intCast_sub ..
  have hE : ((128 - mx3 x y z - mn3 x y z : Int) : Rat) = 128 - (mx3 x y z : Rat) - (mn3 x y z : Rat) := by rw [Rat.intCast_sub, Rat.intCast_sub]; rfl
  have m0 : (0 : Rat) ≤ (mn3 x y z : Rat) := show ((0 : Int) : Rat) ≤ _ from Rat.intCast_le_intCast.mpr (by omega)
  have mM : (mn3 x y z : Rat) + 1 ≤ (mx3 x y z : Rat) := by
    have : ((mn3 x y z + 1 : Int) : Rat) ≤ (mx3 x y z : Rat) := Rat.intCast_le_intCast.mpr (by omega)
    rw [Rat.intCast_add] at this
    exact this
  have M60 : (mx3 x y z : Rat) ≤ 60 := show _ ≤ ((60 : Int) : Rat) from Rat.intCast_le_intCast.mpr (by omega)
  have h2l := nmul 2 1 nc2 gln (by grind) (by grind) (by rw [hM]; grind) (by rw [hM]; grind) (by grind) (by grind) (by decide +kernel)
  have main : Near (6 * uu) (m2Of (lightOf (pt x) (pt y) (pt z)) (depthOf (pt x) (pt y) (pt z))) ((mx3 x y z : Rat) / 64) ∧ ¬ (Float64.cmp (depthOf (pt x) (pt y) (pt z)) 0 == some .eq) = true := by
    have hz0 : rv 0 = 0 := by rw [grd_0.2]; decide +kernel
    unfold m2Of depthOf
    by_cases c : fle (lightOf (pt x) (pt y) (pt z)) chalf = true
    · simp only [if_pos c]
      have hc := hfl.mp c
      have hs := ndivg gd gs (by omega) (by omega) (by omega)
      rw [two_cancel (by omega)] at hs
      have hb := frac_bounds (a := mx3 x y z - mn3 x y z) (d := mx3 x y z + mn3 x y z) (by omega) (by omega) (by omega)
      have hS : (0 : Rat) < ((mx3 x y z + mn3 x y z : Int) : Rat) := by rw [hM]; grind
      have hp := frac_pos (a := mx3 x y z - mn3 x y z) (d := mx3 x y z + mn3 x y z) (by omega) (by omega) (by omega)
      have prod : ((mx3 x y z + mn3 x y z : Int) : Rat) * (((mx3 x y z - mn3 x y z : Int) : Rat) / ((mx3 x y z + mn3 x y z : Int) : Rat)) = ((mx3 x y z - mn3 x y z : Int) : Rat) := by grind
      generalize ((mx3 x y z - mn3 x y z : Int) : Rat) / ((mx3 x y z + mn3 x y z : Int) : Rat) = S at *
      have a1 := nadd nc1 hs (by grind) (by grind) (by grind)
      have a2 := nmul 1 2 gln a1 (by grind) (by grind) (by grind) (by grind) (by grind) (by grind) (by decide +kernel)
      refine ⟨(a2.mono (by grind)).cast (by grind), ?_⟩
      rw [cmp_eq hs.1 grd_0.1, hz0]
      have := hs.2.2
      grind
    · simp only [if_neg c]
      have hc : ¬ _ := fun h => c (hfl.mpr h)
      have hs := ndivg gd g2 (by omega) (by omega) (by omega)
      rw [two_cancel (by omega)] at hs
      have hb := frac_bounds (a := mx3 x y z - mn3 x y z) (d := 128 - mx3 x y z - mn3 x y z) (by omega) (by omega) (by omega)
      have hS : (0 : Rat) < ((128 - mx3 x y z - mn3 x y z : Int) : Rat) := by rw [hE]; grind
      have hp := frac_pos (a := mx3 x y z - mn3 x y z) (d := 128 - mx3 x y z - mn3 x y z) (by omega) (by omega) (by omega)
      have prod : ((128 - mx3 x y z - mn3 x y z : Int) : Rat) * (((mx3 x y z - mn3 x y z : Int) : Rat) / ((128 - mx3 x y z - mn3 x y z : Int) : Rat)) = ((mx3 x y z - mn3 x y z : Int) : Rat) := by grind
      generalize ((mx3 x y z - mn3 x y z : Int) : Rat) / ((128 - mx3 x y z - mn3 x y z : Int) : Rat) = S at *
      have a1 := nadd gln hs (by grind) (by grind) (by grind)
      have a2 := nmul 1 1 gln hs (by grind) (by grind) (by grind) (by grind) (by grind) (by grind) (by decide +kernel)
      have pp := prod_le (u := ((mx3 x y z + mn3 x y z : Int) : Rat) / 128) (v := S) (U := 1) (W := 1) (by grind) (by grind) (by grind) (by grind)
      have a3 := nsub a1 a2 (by grind) (by grind) (by grind)
      refine ⟨(a3.mono (by grind)).cast (by grind), ?_⟩
      rw [cmp_eq hs.1 grd_0.1, hz0]
      have := hs.2.2
      grind
  refine ⟨main.1.mono (by grind), ?_, main.2⟩
  have := nsub h2l main.1 (by rw [hM]; grind) (by rw [hM]; grind) (by grind)
  exact (this.mono (by grind)).cast (by rw [hM]; grind)
theorem back_full (hd : mn3 x y z < mx3 x y z) : ∃ h l s, h = Float64.sub (hueOf (pt x) (pt y) (pt z)) csixth ∧ l = lightOf (pt x) (pt y) (pt z) ∧ s = depthOf (pt x) (pt y) (pt z) ∧
    ¬ (Float64.cmp s 0 == some .eq) = true ∧
    (wholeOf (hlsR h l s) = mx3 x y z + mn3 x y z - z ∧ Float64.isFinite (Float64.add (Float64.mul (hlsR h l s) (Float64.ofInt 64)) chalf) = true) ∧
    (wholeOf (hlsG h l s) = mx3 x y z + mn3 x y z - x ∧ Float64.isFinite (Float64.add (Float64.mul (hlsG h l s) (Float64.ofInt 64)) chalf) = true) ∧
    (wholeOf (hlsB h l s) = mx3 x y z + mn3 x y z - y ∧ Float64.isFinite (Float64.add (Float64.mul (hlsB h l s) (Float64.ofInt 64)) chalf) = true) := by
  have hu := uu_pos
  have hu2 := uu_small
  refine ⟨_, _, _, rfl, rfl, rfl, ?_⟩
  have hf := mm_facts hx hy hz
  have hH := hue_near hx hy hz hd
  obtain ⟨w0, w6, wr, wg, wb⟩ := weights hx hy hz hd
  obtain ⟨n2, n1, hne⟩ := m_near hx hy hz hd
  refine ⟨hne, ?_⟩
  have wc := wGc_facts w0 (by grind)
  rw [← wr, ← wg, ← wb] at wc
  have m0 : (0 : Rat) ≤ (mn3 x y z : Rat) := show ((0 : Int) : Rat) ≤ _ from Rat.intCast_le_intCast.mpr (by omega)
  have mM : (mn3 x y z : Rat) ≤ (mx3 x y z : Rat) := Rat.intCast_le_intCast.mpr (by omega)
  have M60 : (mx3 x y z : Rat) ≤ 60 := show _ ≤ ((60 : Int) : Rat) from Rat.intCast_le_intCast.mpr (by omega)
  have hD : ((mx3 x y z - mn3 x y z : Int) : Rat) = (mx3 x y z : Rat) - (mn3 x y z : Rat) := Rat.intCast_sub ..
  have h1 := nsub hH ncsixth (by grind) (by grind) (by grind)
  have hG := h1.cast (show hueR x y z / 6 - 1 / 6 = (hueR x y z - 1) / 6 by grind)
  have hR := (nadd hG ncthird (by grind) (by grind) (by grind)).cast (show (hueR x y z - 1) / 6 + 1 / 3 = (hueR x y z + 1) / 6 by grind)
  have hB := (nsub hG ncthird (by grind) (by grind) (by grind)).cast (show (hueR x y z - 1) / 6 - 1 / 3 = (hueR x y z - 3) / 6 by grind)
  have fin : ∀ (X : UInt64) (a : Int) (t : Rat) (P : Rat), mn3 x y z ≤ a → a ≤ mx3 x y z → Near (300 * uu) X ((mn3 x y z : Rat) / 64 + ((mx3 x y z : Rat) / 64 - (mn3 x y z : Rat) / 64) * t) → t - wGc P ≤ 2000 * uu → wGc P - t ≤ 2000 * uu → wGc P = 1 - ht a (mn3 x y z) (mx3 x y z - mn3 x y z) →
      wholeOf X = mx3 x y z + mn3 x y z - a ∧ Float64.isFinite (Float64.add (Float64.mul X (Float64.ofInt 64)) chalf) = true := by
    intro X a t P ha ha2 hn k1 k2 e
    rw [e] at k1 k2
    refine chan_is2 (c := 1 - t) (k := 2000 * uu) (hn.cast ?_) (by grind) (by grind) (by grind) hd (by omega) (by omega) ha ha2
    rw [hD]; grind
  obtain ⟨tR, vR, kR, kR'⟩ := v_near hR (by grind) (by grind) (by grind) n1 n2 (by grind) (by grind) (by grind)
  obtain ⟨tG, vG, kG, kG'⟩ := v_near hG (by grind) (by grind) (by grind) n1 n2 (by grind) (by grind) (by grind)
  obtain ⟨tB, vB, kB, kB'⟩ := v_near hB (by grind) (by grind) (by grind) n1 n2 (by grind) (by grind) (by grind)
  exact ⟨fin _ z _ _ (by omega) (by omega) vR kR kR' wc.1, fin _ x _ _ (by omega) (by omega) vG kG kG' wc.2.1, fin _ y _ _ (by omega) (by omega) vB kB kB' wc.2.2⟩
end
end Mine
end
section
open PySem PySem.Flt
namespace Mine
open PySem.Float64 (val V sgn Right decode pack infMag dist)
section
variable {x y z : Int} (hx : 0 ≤ x ∧ x ≤ 60) (hy : 0 ≤ y ∧ y ≤ 60) (hz : 0 ≤ z ∧ z ≤ 60)
include hx hy hz
theorem gap_full : toInt Float64.truncOf (Float64.mul (Float64.sub (fmax3 (pt x) (pt y) (pt z)) (lightOf (pt x) (pt y) (pt z))) (Float64.ofInt 128)) = mx3 x y z - mn3 x y z ∧
    Float64.isFinite (Float64.mul (Float64.sub (fmax3 (pt x) (pt y) (pt z)) (lightOf (pt x) (pt y) (pt z))) (Float64.ofInt 128)) = true := by
  have hf := mm_facts hx hy hz
  have hg := grd_sub (gM' hx hy hz) (light_grd hx hy hz) (by omega)
  rw [show 2 * mx3 x y z - (mx3 x y z + mn3 x y z) = mx3 x y z - mn3 x y z by omega] at hg
  have h128 := ofInt_dy (i := 128) (by decide)
  have hn : 0 ≤ mx3 x y z - mn3 x y z ∧ mx3 x y z - mn3 x y z ≤ 60 := by omega
  generalize mx3 x y z - mn3 x y z = n at *
  have e1 : rv (Float64.sub (fmax3 (pt x) (pt y) (pt z)) (lightOf (pt x) (pt y) (pt z))) * rv (Float64.ofInt 128) = (n : Rat) := by
    rw [hg.2, h128.2]
    have : ((128 : Int) : Rat) = 128 := rfl
    rw [this]; grind
  have h := mul_dy (j := n * 35184372088832) hg.1 h128.1 (by rw [e1, Rat.intCast_mul]; rfl) (by omega)
  rw [e1] at h
  refine ⟨trunc_is h.1 (by omega) (by rw [h.2]; grind) (by rw [h.2]; grind), h.1.is⟩
/-- the step k leads home -/
noncomputable def Leads (k x y z : Int) : Prop :=
  (k = 0 ∧ y < x ∧ z < x) ∨ (k = 1 ∧ z < x ∧ z < y) ∨ (k = 2 ∧ x < y ∧ z < y) ∨ (k = 3 ∧ x < y ∧ x < z) ∨ (k = 4 ∧ x < z ∧ y < z) ∨ (k = 5 ∧ y < x ∧ y < z)
theorem lead_full (hd : mn3 x y z < mx3 x y z) : ∃ j : Int, toInt Float64.truncOf (Float64.add (Float64.mul (hueOf (pt x) (pt y) (pt z)) c6) chalf) = j ∧
    Float64.isFinite (Float64.add (Float64.mul (hueOf (pt x) (pt y) (pt z)) c6) chalf) = true ∧ 0 ≤ j ∧ j ≤ 6 ∧ Leads (j.fmod 6) x y z := by
  have hu := uu_pos
  have hu2 := uu_small
  have hf := mm_facts hx hy hz
  have hH := hue_near hx hy hz hd
  obtain ⟨w0, w6, wr, wg, wb⟩ := weights hx hy hz hd
  have hm := (nmul 2 6 hH nc6 (by grind) (by grind) (by decide +kernel) (by decide +kernel) (by grind) (by grind) (by decide +kernel)).cast (show hueR x y z / 6 * 6 = hueR x y z by grind)
  have ha := nadd hm nchalf (by grind) (by grind) (by grind)
  obtain ⟨i, hi0, hi6, hi1, hi2⟩ := floor7 (X := rv (Float64.add (Float64.mul (hueOf (pt x) (pt y) (pt z)) c6) chalf)) (by have := ha.2.2; grind) (by have := ha.2.1; grind)
  have htr := trunc_is ha.1 hi0 hi1 hi2
  refine ⟨i, htr, ha.1.is, hi0, hi6, ?_⟩
  have b1 := ha.2.1
  have b2 := ha.2.2
  generalize rv (Float64.add (Float64.mul (hueOf (pt x) (pt y) (pt z)) c6) chalf) = X at *
  have lt_of : ∀ a b : Int, ht a (mn3 x y z) (mx3 x y z - mn3 x y z) < ht b (mn3 x y z) (mx3 x y z - mn3 x y z) → a < b := fun a b h => by
    rcases Classical.em (a < b) with hl | hl
    · exact hl
    · exfalso
      have hm0 : (0 : Rat) < ((mx3 x y z - mn3 x y z : Int) : Rat) := Rat.intCast_lt_intCast.mpr (by omega : (0 : Int) < _)
      have e : ((b - mn3 x y z : Int) : Rat) ≤ ((a - mn3 x y z : Int) : Rat) := Rat.intCast_le_intCast.mpr (by omega)
      unfold ht at h
      have h2 := Rat.mul_lt_mul_of_pos_right h hm0
      rw [Rat.div_mul_cancel (by grind), Rat.div_mul_cancel (by grind)] at h2
      grind
  have hxy := lt_of x y
  have hxz := lt_of x z
  have hyx := lt_of y x
  have hyz := lt_of y z
  have hzx := lt_of z x
  have hzy := lt_of z y
  rw [wr, wg] at hxy
  rw [wr, wb] at hxz
  rw [wr, wg] at hyx
  rw [wb, wg] at hyz
  rw [wr, wb] at hzx
  rw [wb, wg] at hzy
  have k0 : (((0 : Int)) : Rat) = 0 := rfl
  have k1 : (((1 : Int)) : Rat) = 1 := rfl
  have k2 : (((2 : Int)) : Rat) = 2 := rfl
  have k3 : (((3 : Int)) : Rat) = 3 := rfl
  have k4 : (((4 : Int)) : Rat) = 4 := rfl
  have k5 : (((5 : Int)) : Rat) = 5 := rfl
  have k6 : (((6 : Int)) : Rat) = 6 := rfl
  clear lt_of wr wg wb
  generalize hueR x y z = H at *
  unfold Leads
  have hc : i = 0 ∨ i = 1 ∨ i = 2 ∨ i = 3 ∨ i = 4 ∨ i = 5 ∨ i = 6 := by omega
  rcases hc with rfl | rfl | rfl | rfl | rfl | rfl | rfl
  · exact .inl ⟨rfl, hyx (by unfold wR wG; grind), hzx (by unfold wR wB; grind)⟩
  · exact .inr (.inl ⟨rfl, hzx (by unfold wR wB; grind), hzy (by unfold wG wB; grind)⟩)
  · exact .inr (.inr (.inl ⟨rfl, hxy (by unfold wR wG; grind), hzy (by unfold wG wB; grind)⟩))
  · exact .inr (.inr (.inr (.inl ⟨rfl, hxy (by unfold wR wG; grind), hxz (by unfold wR wB; grind)⟩)))
  · exact .inr (.inr (.inr (.inr (.inl ⟨rfl, hxz (by unfold wR wB; grind), hyz (by unfold wG wB; grind)⟩))))
  · exact .inr (.inr (.inr (.inr (.inr ⟨rfl, hyx (by unfold wR wG; grind), hyz (by unfold wG wB; grind)⟩))))
  · exact .inl ⟨rfl, hyx (by unfold wR wG; grind), hzx (by unfold wR wB; grind)⟩
end
/-- the six corners -/
theorem corner_full (k : Int) (h0 : 0 ≤ k) (h6 : k < 6) :
    Float64.isFinite (Float64.mul (atOf k) c6) = true ∧ 0 ≤ toInt Float64.truncOf (Float64.mul (atOf k) c6) ∧ toInt Float64.truncOf (Float64.mul (atOf k) c6) < 100 ∧
    (litOf (rgbR (atOf k) c1 c1) = in3 k 5 0 1 ∧ Float64.isFinite (Float64.add (rgbR (atOf k) c1 c1) chalf) = true) ∧
    (litOf (rgbG (atOf k) c1 c1) = in3 k 1 2 3 ∧ Float64.isFinite (Float64.add (rgbG (atOf k) c1 c1) chalf) = true) ∧
    (litOf (rgbB (atOf k) c1 c1) = in3 k 3 4 5 ∧ Float64.isFinite (Float64.add (rgbB (atOf k) c1 c1) chalf) = true) := by
  have hc : k = 0 ∨ k = 1 ∨ k = 2 ∨ k = 3 ∨ k = 4 ∨ k = 5 := by omega
  rcases hc with rfl | rfl | rfl | rfl | rfl | rfl <;> decide +kernel
end Mine
end
section
open PySem PySem.W PyProof.Rows PySem.Calls PySem.Flt
namespace Mine
/-- a call's contract that names few objects: all that stood is kept, what is new is told -/
noncomputable def Cs (w : World) (D : Nat) (f : Addr) (small : List (Addr × Obj)) (vs : List Value) (Post : Value → List (Addr × Obj) → Prop) : Prop :=
  ∀ (mean : ExcName → Option Value) (mg mb : Str → Option Value) (dp un : Nat) (gd : Option (List Code)) (cn : Str) (cs : Scope) (a : Addr) (ccd : Value) (cl : List (Str × Addr)) (outer : List Env) (A₀ : Around) (base h₀ : Heap) (L : Addr) (m : Str → Option Value) (s : Shared) (Q E : Value → Shared → Prop),
    Below A₀ base outer h₀ → Fr h₀ L s.heap m → (hd.heap_39 w.params).In h₀ → News h₀ L s.heap small → TopM mean mg mb h₀ → cs.kind = .function → dp + D < recursionLimit → un + 8 * D < cLine →
    (∀ r tl h' tk', (∀ b o, s.heap.get? b = some o → h'.get? b = some o) → (∀ p ∈ tl, h'.get? p.1 = some p.2 ∧ s.heap.get? p.1 = none) → Post r tl → Q r { s with heap := h', toks := tk' }) →
    wpAny (model PG w) (ktrTop dp un gd cn cs L a ccd cl outer) (call (.ref f) vs) Q E s
theorem Cs.ct {w : World} {D : Nat} {f : Addr} {small news : List (Addr × Obj)} {vs : List Value} {Post : Value → List (Addr × Obj) → Prop} (C : Cs w D f small vs Post) (hs : ∀ p ∈ small, p ∈ news) : Ct w D f news vs Post := by
  intro mean mg mb dp un gd cn cs a ccd cl outer A₀ base h₀ L m s Q E B F X N T hk hd hu hret
  refine C mean mg mb dp un gd cn cs a ccd cl outer A₀ base h₀ L m s Q E B F X (fun p hp => N p (hs p hp)) T hk hd hu fun r tl h' tk' kp ht hp => ?_
  refine hret r tl h' tk' (F.keeps kp) (fun p hp => ?_) (fun q hq p hp e => ?_) hp
  · rcases List.mem_append.mp hp with hp | hp
    · obtain ⟨e1, e2⟩ := ht p hp
      obtain ⟨oL, _, _, hL, _⟩ := F.ns
      refine ⟨e1, fun e => ?_, ?_⟩
      · rw [e, hL] at e2; cases e2
      · cases q : h₀.get? p.1 with
        | none => rfl
        | some o => rw [F.keep _ _ q] at e2; cases e2
    · exact ⟨kp _ _ (N p hp).1, (N p hp).2⟩
  · have h1 := (N q hq).1
    have h2 := (ht p hp).2
    have h3 : s.heap.get? q.1 = s.heap.get? p.1 := by rw [show q.1 = p.1 from e]
    rw [h3, h2] at h1
    cases h1
end Mine
namespace Mine
section
variable {prog : Program} {w : World} {A A₀ : Around} {s : Shared} {K : Frag} {L : Addr} {h₀ base : Heap} {m mg mb : Str → Option Value} {news : List (Addr × Obj)} {p : Program} {loose : List Str} {mean : ExcName → Option Value}
/-- a def's call, with what is kept of the caller's heap said -/
theorem code_defS {env : Env} {outer : List Env} {R : Result → Shared → Prop} {name qual : Str} {params : Arguments} {body : List Stmt} {scope : Scope} {dV kV doc pm cdv ct oc : Value} {an od : Option Addr} {osl : Array (Option Value)} {f : Addr} {args : Args} {binds : List (Str × Value)}
    (B : Below A₀ base outer h₀) (F : Fr h₀ L s.heap m) (X₀ : K.In h₀) (N : News h₀ L s.heap news) (T : Top p loose mean mg mb h₀) (hA : A.frames = some (env :: outer)) (hf : env.frame = some L) (hke : env.scope.kind = .function)
    (ho : K.lookup f = some ⟨oc, od, .func (fnOf name qual params body scope dV kV doc pm an cdv ct), osl⟩) (hcd : codeIn K cdv qual = true) (hroom : A.depth < recursionLimit)
    (hbind : BindsTo s (fnOf name qual params body scope dV kV doc pm an cdv ct) args binds) (hloc : ∀ y ∈ binds, scope.names.lookup y.1 = some .local)
    (h : ∀ g L' h₁, (∀ b o, s.heap.get? b = some o → b ∉ news.map (·.1) → g.get? b = some o) → Fr h₀ L g m → Fr g L' h₁ (fun y => binds.reverse.lookup y) → News g L' h₁ news → Below A base (env :: outer) g → K.In g → Top p loose mean mg mb g →
      wpAny (model prog w) (A.deeper (envOf qual scope L' f cdv)) (execs body (envOf qual scope L' f cdv))
        (fun fl s' => LeaveK h₀ L m g R (match fl with | .ret v => v | _ => .none) s')
        (fun e s' => wpAny (model prog w) (A.deeper (envOf qual scope L' f cdv)) (leaving (envOf qual scope L' f cdv) e) (fun _ s'' => R (.error e) s'') (fun e' s'' => R (.error e') s'') s')
        { s with heap := h₁, toks := s.toks + binds.length })
    (hco : scope.isCoroutine = false) (hgen : scope.isGenerator = false) (hk : scope.kind = .function)
    (hcell : ∀ x ∈ scope.names, x.2 ≠ .cell) : codeAny (model prog w) A (.call (.ref f) args) R s := by
  have X := X₀.keeps F.keep
  obtain ⟨FG, BG, st, lv⟩ := groundX (R := R) B F N hA hf hke
  refine codeAny_call_def (fd := fnOf name qual params body scope dV kV doc pm an cdv ct) (body := body) (binds := binds) hroom (X _ _ ho) rfl (T.nolimit.keeps F.keep) (codeRec_of X hcd) rfl hbind hcell hloc (fun h₁ hns hk₁ => ?_) hco hgen hk
  exact wpAny_mono (h _ s.heap.objs.size h₁ (fun b o e n => hideAll_get _ e n) FG ⟨hns, fun b o e => hk₁ b o (of_hideAll _ e), Nat.le_of_eq (hideAll_size _ _)⟩
    (fun p hp => ⟨hk₁ _ _ (N p hp).1, Nat.ne_of_lt (Heap.lt_size (N p hp).1), hideAll_none _ (List.mem_map_of_mem hp)⟩) BG (X₀.keeps st) (T.keeps st)) (fun fl s' hl => lv _ _ hl) fun _ _ y => y
end
/-- the end of a call that began with nothing named -/
theorem cs_end {s : Shared} {g h' : Heap} {L' : Addr} {m' : Str → Option Value} {nw tl : List (Addr × Obj)} (hg : ∀ b o, s.heap.get? b = some o → b ∉ (([] : List (Addr × Obj)).map (·.1)) → g.get? b = some o) (F : Fr g L' h' m') (N : News g L' h' nw) (ht : ∀ p ∈ tl, p ∈ nw) :
    (∀ b o, s.heap.get? b = some o → h'.get? b = some o) ∧ (∀ p ∈ tl, h'.get? p.1 = some p.2 ∧ s.heap.get? p.1 = none) := by
  refine ⟨fun b o e => F.keep _ _ (hg b o e (by simp)), fun p hp => ⟨(N p (ht p hp)).1, ?_⟩⟩
  cases q : s.heap.get? p.1 with
  | none => rfl
  | some o =>
    have h2 := (N p (ht p hp)).2.2
    rw [hg _ _ q (by simp)] at h2
    cases h2
end Mine
end
section
open PySem PySem.W PyProof.Rows PySem.Calls PySem.Flt
namespace Mine
/-- a name: a text, or a QName of it -/
noncomputable def NameIn (w : World) (led : List (Addr × Obj)) (v : Value) (t : Str) : Prop :=
  (∃ tk, v = .str t tk) ∨ (∃ x dx t1 t2, v = .ref x ∧ (x, instObj 186 dx) ∈ led ∧ (dx, dictOf [⟨PyData.keyHash w.params (Str.ofString "text"), .str (Str.ofString "text") t1, .str t t2⟩] 1) ∈ led)
noncomputable def NamePost (w : World) (t : Str) (v : Value) (tl : List (Addr × Obj)) : Prop :=
  (tl = [] ∧ ∃ tk, v = .str t tk) ∨ (∃ x dx t1 t2, v = .ref x ∧ tl = [(x, instObj 186 dx), (dx, dictOf [⟨PyData.keyHash w.params (Str.ofString "text"), .str (Str.ofString "text") t1, .str t t2⟩] 1)])
noncomputable def textOf (k : Nat) : Str := Str.ofString (["{1}red", "{3}yellow", "{2}green", "{6}cyan", "{4}blue", "{5}magenta", "{turn}on", "{turn}back"].getD k "")
theorem namePost_q {w : World} {x dx : Addr} {t1 t2 : Tok} {t t' : Str} (e : t' = t) : NamePost w t (.ref x) [(x, instObj 186 dx), (dx, dictOf [⟨PyData.keyHash w.params (Str.ofString "text"), .str (Str.ofString "text") t1, .str t' t2⟩] 1)] := by
  subst e; exact .inr ⟨_, _, _, _, rfl, rfl⟩
theorem namePost_s {w : World} {tk : Tok} {t t' : Str} (e : t' = t) : NamePost w t (.str t' tk) [] := by
  subst e; exact .inl ⟨rfl, _, rfl⟩
local macro_rules | `(tactic| size_fits) => `(tactic| decide +kernel)
end Mine
end
section
open PySem PySem.W PyProof.Rows PySem.Calls PySem.Flt
namespace Mine
noncomputable def Bool1 (b : Bool) (v : Value) (tl : List (Addr × Obj)) : Prop := tl = [] ∧ v = .bool b
theorem bool1 {b c : Bool} (e : c = b) : Bool1 b (.bool c) [] := by subst e; exact ⟨rfl, rfl⟩
/-- the dict of a QName -/
noncomputable abbrev qd (w : World) (t : Str) (t1 t2 : Tok) : Obj := dictOf [⟨PyData.keyHash w.params (Str.ofString "text"), .str (Str.ofString "text") t1, .str t t2⟩] 1
set_option maxRecDepth 100000 in
set_option maxHeartbeats 2000000 in
theorem qeq_qq (w : World) (news : List (Addr × Obj)) (x dx y dy : Addr) (tx ty : Str) (t1 t2 t3 t4 : Tok) : Ct w 1 183 ((x, instObj 186 dx) :: (dx, qd w tx t1 t2) :: (y, instObj 186 dy) :: (dy, qd w ty t3 t4) :: news) [.ref x, .ref y] (Bool1 (tx == ty)) := by
  k_with_none
  unfold Ct PG
  k_fill
  intro mean mg mb dp un gd cn cs a ccd cl outer A₀ base h₀ L m s Q E B F X N T hk hd hu hret
  refine wpAny_call ?_
  k_dflt cell_enter
  conv in (execs _ _) => arg 1; whnf
  k_steps
  all_goals first | (refine hret _ [] _ _ (by assumption) (by assumption) below0 (bool1 rfl)) 
set_option maxRecDepth 100000 in
set_option maxHeartbeats 2000000 in
theorem qeq_qs (w : World) (news : List (Addr × Obj)) (x dx : Addr) (tx ty : Str) (t1 t2 t3 : Tok) : Ct w 1 183 ((x, instObj 186 dx) :: (dx, qd w tx t1 t2) :: news) [.ref x, .str ty t3] (Bool1 (tx == ty)) := by
  k_with_none
  unfold Ct PG
  k_fill
  intro mean mg mb dp un gd cn cs a ccd cl outer A₀ base h₀ L m s Q E B F X N T hk hd hu hret
  refine wpAny_call ?_
  k_dflt cell_enter
  conv in (execs _ _) => arg 1; whnf
  k_steps
  all_goals first | (refine hret _ [] _ _ (by assumption) (by assumption) below0 (bool1 rfl)) 
end Mine
end
section
open PySem PySem.W PyProof.Rows PySem.Calls PySem.Flt
namespace Mine
noncomputable def ltS (a b : Str) : Bool := decide (a.cps.toList < b.cps.toList)
set_option maxRecDepth 100000 in
set_option maxHeartbeats 2000000 in
theorem qlt_qq (w : World) (news : List (Addr × Obj)) (x dx y dy : Addr) (tx ty : Str) (t1 t2 t3 t4 : Tok) : Ct w 1 162 ((x, instObj 186 dx) :: (dx, qd w tx t1 t2) :: (y, instObj 186 dy) :: (dy, qd w ty t3 t4) :: news) [.ref x, .ref y] (Bool1 (ltS tx ty)) := by
  k_with_none
  unfold Ct PG
  k_fill
  intro mean mg mb dp un gd cn cs a ccd cl outer A₀ base h₀ L m s Q E B F X N T hk hd hu hret
  refine wpAny_call ?_
  k_dflt cell_enter
  conv in (execs _ _) => arg 1; whnf
  k_steps
  all_goals first | (refine hret _ [] _ _ (by assumption) (by assumption) below0 (bool1 rfl)) 
set_option maxRecDepth 100000 in
set_option maxHeartbeats 2000000 in
theorem qlt_qs (w : World) (news : List (Addr × Obj)) (x dx : Addr) (tx ty : Str) (t1 t2 t3 : Tok) : Ct w 1 162 ((x, instObj 186 dx) :: (dx, qd w tx t1 t2) :: news) [.ref x, .str ty t3] (Bool1 (ltS tx ty)) := by
  k_with_none
  unfold Ct PG
  k_fill
  intro mean mg mb dp un gd cn cs a ccd cl outer A₀ base h₀ L m s Q E B F X N T hk hd hu hret
  refine wpAny_call ?_
  k_dflt cell_enter
  conv in (execs _ _) => arg 1; whnf
  k_steps
  all_goals first | (refine hret _ [] _ _ (by assumption) (by assumption) below0 (bool1 rfl)) 
set_option maxRecDepth 100000 in
set_option maxHeartbeats 2000000 in
theorem qgt_qs (w : World) (news : List (Addr × Obj)) (x dx : Addr) (tx ty : Str) (t1 t2 t3 : Tok) : Ct w 1 176 ((x, instObj 186 dx) :: (dx, qd w tx t1 t2) :: news) [.ref x, .str ty t3] (Bool1 (ltS ty tx)) := by
  k_with_none
  unfold Ct PG
  k_fill
  intro mean mg mb dp un gd cn cs a ccd cl outer A₀ base h₀ L m s Q E B F X N T hk hd hu hret
  refine wpAny_call ?_
  k_dflt cell_enter
  conv in (execs _ _) => arg 1; whnf
  k_steps
  all_goals first | (refine hret _ [] _ _ (by assumption) (by assumption) below0 (bool1 rfl)) 
end Mine
end
section
open PySem PySem.W PyProof.Rows PySem.Calls PySem.Flt
namespace Mine
section
variable {prog : Program} {w : World} {A : Around} {E : Value → Shared → Prop} {s : Shared} {K : Frag} {x C L f : Addr} {h₀ : Heap} {m : Str → Option Value} {ox : Obj} {od : Option Obj}
/-- a text compared with an object of a class: the text does not know it, the object is asked -/
theorem cmp_back {op : CmpOp} {id : String} {t : Str} {tk : Tok} {Q : Value → Shared → Prop} (hu : A.units < cLine) (F : Fr h₀ L s.heap m) (X₀ : K.In h₀) (I : InstAt s.heap x ox C od)
    (hone : oneThing? op (.str t tk) (.ref x) = none) (hsub : subIn K (.ref C) (.type "str") = some false)
    (hsl : Slot "str" (cmpInfo op).2.1 id) (hcall : ∀ Q : Value → Shared → Prop, Q .notImplemented s → wpAny (model prog w) A (call (.builtin id) [.str t tk, .ref x]) Q E s)
    (hs : findIn K (.ref C) (cmpInfo op).2.2 = some (some (.ref f))) (hf : isFn K (.ref f) = true)
    (h : wpAny (model prog w) A (call (.ref f) [.ref x, .str t tk]) (W.CmpBack Q) E s) : wpAny (model prog w) A (richCompare op (.str t tk) (.ref x)) Q E s := by
  have X := X₀.keeps F.keep
  have two : wpAny (model prog w) A (tryCompare (.ref x) (cmpInfo op).2.2 (.str t tk)) (fun r s' => ∃ v, r = some v ∧ Q v s') E s := by
    unfold tryCompare
    refine wpAny_bind (ifBound_K X I hs hf (wpAny_mono h (fun v s' hv => ?_) fun _ _ e => e))
    cases v <;> first | exact hv.elim | exact wpAny_pure ⟨_, rfl, hv⟩
  have one : wpAny (model prog w) A (tryCompare (.str t tk) (cmpInfo op).2.1 (.ref x)) (fun r s' => r = none ∧ s' = s) E s := by
    unfold tryCompare
    refine wpAny_bind (wpAny_callSpecialIfBound?_slot (typeIs_str s t tk) hsl (hcall _ ?_))
    exact wpAny_pure ⟨rfl, rfl⟩
  unfold richCompare
  simp only [hone]
  refine wpAny_holding (wpAny_bind (wpAny_cRoomFor hu ?_))
  refine wpAny_bind (wpAny_typeOf (typeIs_str s t tk) (wpAny_bind (I.type.here ?_)))
  have hne : ((Value.type "str" != Value.ref C) = true) := rfl
  rw [if_pos hne]
  refine wpAny_bind ((looks_subIn X hsub).here ?_)
  simp only [Bool.false_eq_true, if_false]
  refine wpAny_bind (wpAny_mono one (fun r s' z => ?_) fun _ _ e => e)
  obtain ⟨rfl, rfl⟩ := z
  refine wpAny_bind (wpAny_mono two (fun r s' z => ?_) fun _ _ e => e)
  obtain ⟨v, rfl, hq⟩ := z
  exact wpAny_pure hq
theorem str_not_inst {t : Str} {tk : Tok} {o : Obj} {id : String} {mm : String} {g : List Nat → List Nat → Bool} (hsl : Slot "str" (Str.ofString mm) id) (hen : entryFor table id = some (Builtin.Str.strCompare mm g)) (ha : argsOk id ⟨[.str t tk, .ref x], []⟩)
    (ho : s.heap.get? x = some o) (hd : o.data = .plain) (Q : Value → Shared → Prop) (h : Q .notImplemented s) : wpAny (model prog w) A (call (.builtin id) [.str t tk, .ref x]) Q E s := by
  refine wpAny_call_entry hsl (typeIs_str s t tk) hen ?_ ha
  show wpAny _ _ (asStr? (.ref x) >>= _) _ _ s
  refine wpAny_bind ?_
  simp only [asStr?]
  refine wpAny_bind (wpAny_load ho ?_)
  rw [hd]
  refine wpAny_pure ?_
  exact wpAny_bind (wpAny_rule (wpAny_pure ⟨_, rfl, h⟩))
end
end Mine
end
section
open PySem PySem.W PyProof.Rows PySem.Calls PySem.Flt
namespace Mine
/-- two values compare to b, nothing changed that is named -/
noncomputable def CmpOk (w : World) (op : CmpOp) (news : List (Addr × Obj)) (v₁ v₂ : Value) (b : Bool) : Prop :=
  ∀ (mean : ExcName → Option Value) (mg mb : Str → Option Value) (dp un : Nat) (gd : Option (List Code)) (cn : Str) (cs : Scope) (a : Addr) (ccd : Value) (cl : List (Str × Addr)) (outer : List Env) (A₀ : Around) (base h₀ : Heap) (L : Addr) (m : Str → Option Value) (s : Shared) (Q E : Value → Shared → Prop),
    Below A₀ base outer h₀ → Fr h₀ L s.heap m → (hd.heap_39 w.params).In h₀ → News h₀ L s.heap news → TopM mean mg mb h₀ → cs.kind = .function → dp + 1 < recursionLimit → un + 8 < cLine →
    (∀ h' tk', Fr h₀ L h' m → News h₀ L h' news → Q (.bool b) { s with heap := h', toks := tk' }) →
    wpAny (model PG w) (ktrTop dp un gd cn cs L a ccd cl outer) (richCompare op v₁ v₂) Q E s
/-- the name's objects -/
structure QAt (w : World) (news : List (Addr × Obj)) (x dx : Addr) (t : Str) (t1 t2 : Tok) : Prop where
  i : (x, instObj 186 dx) ∈ news
  d : (dx, qd w t t1 t2) ∈ news
theorem QAt.inst {w : World} {h₀ h : Heap} {L : Addr} {news : List (Addr × Obj)} {x dx : Addr} {t : Str} {t1 t2 : Tok} (q : QAt w news x dx t t1 t2) (N : News h₀ L h news) : InstAt h x (instObj 186 dx) 186 (some (qd w t t1 t2)) := InstAt.of_news N q.i q.d
theorem cons2 {news : List (Addr × Obj)} {a b : Addr × Obj} (ha : a ∈ news) (hb : b ∈ news) : ∀ p ∈ a :: b :: news, p ∈ news := by
  intro p hp
  rcases List.mem_cons.mp hp with rfl | hp
  · exact ha
  · rcases List.mem_cons.mp hp with rfl | hp
    · exact hb
    · exact hp
theorem cons4 {news : List (Addr × Obj)} {a b c d : Addr × Obj} (ha : a ∈ news) (hb : b ∈ news) (hc : c ∈ news) (hd : d ∈ news) : ∀ p ∈ a :: b :: c :: d :: news, p ∈ news := by
  intro p hp
  rcases List.mem_cons.mp hp with rfl | hp
  · exact ha
  · rcases List.mem_cons.mp hp with rfl | hp
    · exact hb
    · exact cons2 hc hd p hp
set_option maxRecDepth 100000 in
set_option maxHeartbeats 2000000 in
theorem q_facts (P : Params) : PySem.Challenge.rw_wu0061_01 = PySem.Challenge.rw_wu0061_01 ∧ notFirst (hd.heap_39 P) 186 (.type "str") = true ∧ notFirst (hd.heap_39 P) 186 (.ref 186) = true ∧
    findIn (hd.heap_39 P) (.ref 186) (cmpInfo .Eq).2.1 = some (some (.ref 183)) ∧ isFn (hd.heap_39 P) (.ref 183) = true ∧
    findIn (hd.heap_39 P) (.ref 186) (cmpInfo .Lt).2.1 = some (some (.ref 162)) ∧ isFn (hd.heap_39 P) (.ref 162) = true ∧
    findIn (hd.heap_39 P) (.ref 186) (cmpInfo .Lt).2.2 = some (some (.ref 176)) ∧ isFn (hd.heap_39 P) (.ref 176) = true ∧
    subIn (hd.heap_39 P) (.ref 186) (.type "str") = some false := by
  k_with_none
  k_fill
  refine ⟨rfl, ?_, ?_, ?_, ?_, ?_, ?_, ?_, ?_, ?_⟩ <;> k_dflt k_is

theorem name_eq (w : World) {news : List (Addr × Obj)} {v₁ v₂ : Value} {t₁ t₂ : Str} (h₁ : NameIn w news v₁ t₁) (h₂ : NameIn w news v₂ t₂) : CmpOk w .Eq news v₁ v₂ (t₁ == t₂) := by
  obtain ⟨_, f1, f2, f3, f4, _, _, _, _, f9⟩ := q_facts w.params
  intro mean mg mb dp un gd cn cs a ccd cl outer A₀ base h₀ L m s Q E B F X N T hk hdp hu hret
  have hun : (ktrTop dp un gd cn cs L a ccd cl outer).units < cLine := by show un < cLine; omega
  rcases h₁ with ⟨ta, rfl⟩ | ⟨x, dx, a1, a2, rfl, i1, d1⟩ <;> rcases h₂ with ⟨tb, rfl⟩ | ⟨y, dy, b1, b2, rfl, i2, d2⟩
  · exact eq_str (hret _ _ F N)
  · have q : QAt w news y dy t₂ b1 b2 := ⟨i2, d2⟩
    refine cmp_back (op := .Eq) (K := hd.heap_39 w.params) hun F X (q.inst N) rfl f9 slot_str_eq (str_not_inst slot_str_eq entry_str_eq (args_str_eq _ _) (N _ i2).1 rfl) f3 f4 ?_
    refine ct_use (qeq_qs w news y dy t₂ t₁ b1 b2 ta) B F X (fun p hp => N p (cons2 i2 d2 p hp)) T hk hdp hu fun r tl h' tk' F' N' _ hp => ?_
    obtain ⟨rfl, rfl⟩ := hp
    show Q _ _
    rw [show (t₂ == t₁) = (t₁ == t₂) from Bool.beq_comm]
    exact hret _ _ F' fun p hp => N' p (.tail _ (.tail _ hp))
  · have q : QAt w news x dx t₁ a1 a2 := ⟨i1, d1⟩
    refine cmp_K (op := .Eq) (K := hd.heap_39 w.params) (tb := .type "str") hun F X (q.inst N) (Looks.of_pure rfl) f1 f3 f4 ?_
    refine ct_use (qeq_qs w news x dx t₁ t₂ a1 a2 tb) B F X (fun p hp => N p (cons2 i1 d1 p hp)) T hk hdp hu fun r tl h' tk' F' N' _ hp => ?_
    obtain ⟨rfl, rfl⟩ := hp
    show Q _ _
    exact hret _ _ F' fun p hp => N' p (.tail _ (.tail _ hp))
  · have q : QAt w news x dx t₁ a1 a2 := ⟨i1, d1⟩
    have q2 : QAt w news y dy t₂ b1 b2 := ⟨i2, d2⟩
    refine cmp_K (op := .Eq) (K := hd.heap_39 w.params) (tb := .ref 186) hun F X (q.inst N) (q2.inst N).type f2 f3 f4 ?_
    refine ct_use (qeq_qq w news x dx y dy t₁ t₂ a1 a2 b1 b2) B F X (fun p hp => N p (cons4 i1 d1 i2 d2 p hp)) T hk hdp hu fun r tl h' tk' F' N' _ hp => ?_
    obtain ⟨rfl, rfl⟩ := hp
    show Q _ _
    exact hret _ _ F' fun p hp => N' p (.tail _ (.tail _ (.tail _ (.tail _ hp))))
theorem name_lt (w : World) {news : List (Addr × Obj)} {v₁ v₂ : Value} {t₁ t₂ : Str} (h₁ : NameIn w news v₁ t₁) (h₂ : NameIn w news v₂ t₂) : CmpOk w .Lt news v₁ v₂ (ltS t₁ t₂) := by
  obtain ⟨_, f1, f2, _, _, f5, f6, f7, f8, f9⟩ := q_facts w.params
  intro mean mg mb dp un gd cn cs a ccd cl outer A₀ base h₀ L m s Q E B F X N T hk hdp hu hret
  have hun : (ktrTop dp un gd cn cs L a ccd cl outer).units < cLine := by show un < cLine; omega
  rcases h₁ with ⟨ta, rfl⟩ | ⟨x, dx, a1, a2, rfl, i1, d1⟩ <;> rcases h₂ with ⟨tb, rfl⟩ | ⟨y, dy, b1, b2, rfl, i2, d2⟩
  · exact lt_str (hret _ _ F N)
  · have q : QAt w news y dy t₂ b1 b2 := ⟨i2, d2⟩
    refine cmp_back (op := .Lt) (K := hd.heap_39 w.params) hun F X (q.inst N) rfl f9 slot_str_lt (str_not_inst slot_str_lt entry_str_lt (args_str_lt _ _) (N _ i2).1 rfl) f7 f8 ?_
    refine ct_use (qgt_qs w news y dy t₂ t₁ b1 b2 ta) B F X (fun p hp => N p (cons2 i2 d2 p hp)) T hk hdp hu fun r tl h' tk' F' N' _ hp => ?_
    obtain ⟨rfl, rfl⟩ := hp
    show Q _ _
    exact hret _ _ F' fun p hp => N' p (.tail _ (.tail _ hp))
  · have q : QAt w news x dx t₁ a1 a2 := ⟨i1, d1⟩
    refine cmp_K (op := .Lt) (K := hd.heap_39 w.params) (tb := .type "str") hun F X (q.inst N) (Looks.of_pure rfl) f1 f5 f6 ?_
    refine ct_use (qlt_qs w news x dx t₁ t₂ a1 a2 tb) B F X (fun p hp => N p (cons2 i1 d1 p hp)) T hk hdp hu fun r tl h' tk' F' N' _ hp => ?_
    obtain ⟨rfl, rfl⟩ := hp
    show Q _ _
    exact hret _ _ F' fun p hp => N' p (.tail _ (.tail _ hp))
  · have q : QAt w news x dx t₁ a1 a2 := ⟨i1, d1⟩
    have q2 : QAt w news y dy t₂ b1 b2 := ⟨i2, d2⟩
    refine cmp_K (op := .Lt) (K := hd.heap_39 w.params) (tb := .ref 186) hun F X (q.inst N) (q2.inst N).type f2 f5 f6 ?_
    refine ct_use (qlt_qq w news x dx y dy t₁ t₂ a1 a2 b1 b2) B F X (fun p hp => N p (cons4 i1 d1 i2 d2 p hp)) T hk hdp hu fun r tl h' tk' F' N' _ hp => ?_
    obtain ⟨rfl, rfl⟩ := hp
    show Q _ _
    exact hret _ _ F' fun p hp => N' p (.tail _ (.tail _ (.tail _ (.tail _ hp))))
end Mine
end
section
open PySem PySem.W PyProof.Rows PySem.Calls PySem.Flt
open PySem.AutoSeq1 (wpAny_loadPart')
open PySem.MeetsSeq
namespace Mine
section
variable {prog : Program} {w : World}
theorem contains_loopI (l : Addr) (items : Array Value) (n : Nat) (dd : Option Addr) (sl : Array (Option Value)) (x : Value) (e : Value → Bool) (A : Around) (R : Result → Shared → Prop) (I : Shared → Prop)
    (hI : ∀ s, I s → s.heap.get? l = some { cls := .type "list", dict := dd, data := .seq items n, slots := sl })
    (he : ∀ y, y ∈ items → ∀ s, I s → ∀ (E : Value → Shared → Prop) (Q : Bool → Shared → Prop), (∀ s', I s' → Q (e y) s') → wpAny (model prog w) A.in1 (eqBool y x) Q E s) (k : Nat) :
    ∀ i : Nat, items.size - i = k → ∀ s, I s → (∀ s', I s' → R (.ok (.ret (.bool ((items.toList.drop i).any e)))) s') →
      wpAny (model prog w) A.in1 (Builtin.«list.__contains__.loop» ⟨[.ref l, x, rawInt i], []⟩) (fun fin s' => match fin with | .done f => R (.ok f) s' | .again c' => c'.quiet = true ∧ codeAny (model prog w) A c' R s') (fun e s' => R (.error e) s') s := by
  induction k with
  | zero =>
    intro i hk s hs h
    have hl := hI s hs
    have h' := h s hs
    obtain ⟨hp, g, d, tk, os⟩ := s
    wp_walk using wpAny_loadPart' hl
    have hi : items[((i : Nat) : Int).toNat]? = none := by simp; omega
    have hd : items.toList.drop i = [] := by simp; omega
    rw [hd] at h'
    rw [hi]
    wp_walk
    exact h'
  | succ k ih =>
    intro i hk s hs h
    have hl := hI s hs
    obtain ⟨hp, g, d, tk, os⟩ := s
    wp_walk using wpAny_loadPart' hl
    have hlt : i < items.size := by omega
    have hi : items[((i : Nat) : Int).toNat]? = some items[i] := by simp [hlt]
    have hd : items.toList.drop i = items[i] :: items.toList.drop (i + 1) := by simp [List.drop_eq_getElem_cons, hlt]
    rw [hd, List.any_cons] at h
    rw [hi]
    refine wpAny_bind (he _ (Array.getElem_mem hlt) _ hs _ _ fun s' hs' => ?_)
    have h' := h s' hs'
    cases hb : e items[i] with
    | true =>
      rw [hb] at h'
      wp_walk
      exact h'
    | false =>
      rw [hb] at h
      have hc : ((i : Int) + 1) = ((i + 1 : Nat) : Int) := by push_cast; rfl
      wp_walk
      rw [hc]
      exact ⟨plainId_quiet plain_contains_loop _, codeAny_builtin entry_contains_loop (by
        rw [Around.under_plainId plain_contains_loop _]
        exact ih (i + 1) (by omega) _ hs' fun s'' hs'' => by simpa using h s'' hs'')⟩
theorem in_listI {l : Addr} {items : Array Value} {n : Nat} {x : Value} {A : Around} {E : Value → Shared → Prop} {s : Shared} {Q : Value → Shared → Prop} (e : Value → Bool) (I : Shared → Prop)
    (hI : ∀ s, I s → s.heap.get? l = some { cls := .type "list", data := .seq items n })
    (he : ∀ y, y ∈ items → ∀ s, I s → ∀ (E : Value → Shared → Prop) (Q : Bool → Shared → Prop), (∀ s', I s' → Q (e y) s') → wpAny (model prog w) A.in1 (eqBool y x) Q E s)
    (hs : I s) (h : ∀ s', I s' → Q (.bool (items.any e)) s') : wpAny (model prog w) A (compareOp .In x (.ref l)) Q E s := by
  have hl := hI s hs
  show wpAny _ A (do return .bool (← contains (.ref l) x)) Q E s
  refine wpAny_bind (wpAny_contains_slot (T := "list") ⟨_, hl, rfl⟩ PySem.F.slot_list_contains (wpAny_mono (Q := fun v s' => ∃ b, v = .bool b ∧ Q (.bool b) s') ?_ (fun v s' hv => ?_) fun _ _ e => e))
  · refine wpAny_call (codeAny_call_builtin PySem.F.slot_list_contains.plain PySem.F.entry_list_contains (PySem.F.slot_list_contains.check _ _ _ _ _ _ _ _ (show s.TypeIs (.ref l) "list" from ⟨_, hl, rfl⟩) (PySem.F.args_list_contains_2 _ _) ?_))
    obtain ⟨hp, g, d, tk, os⟩ := s
    wp_walk using wpAny_loadPart' hl
    refine ⟨plainId_quiet plain_contains_loop _, codeAny_builtin entry_contains_loop ?_⟩
    rw [Around.under_plainId plain_contains_loop _]
    exact contains_loopI l items n none #[] x e A (wants (fun v s' => ∃ b, v = .bool b ∧ Q (.bool b) s') E) I hI he _ 0 rfl _ hs fun s' hs' => ⟨_, rfl, by simpa using h s' hs'⟩
  · obtain ⟨b, rfl, hq⟩ := hv
    exact wpAny_truthy_bool (wpAny_pure hq)
end
end Mine
end
section
open PySem PySem.W PyProof.Rows PySem.Calls PySem.Flt
namespace Mine
theorem NameIn.mono {w : World} {a b : List (Addr × Obj)} {v : Value} {t : Str} (h : NameIn w a v t) (hs : ∀ p ∈ a, p ∈ b) : NameIn w b v t := by
  rcases h with h | ⟨x, dx, t1, t2, e, i, d⟩
  · exact .inl h
  · exact .inr ⟨x, dx, t1, t2, e, hs _ i, hs _ d⟩
theorem name_same {w : World} {h₀ h : Heap} {L : Addr} {news : List (Addr × Obj)} {v : Value} {t₁ t₂ : Str} (N : News h₀ L h news) (h₁ : NameIn w news v t₁) (h₂ : NameIn w news v t₂) : t₁ = t₂ := by
  rcases h₁ with ⟨ta, rfl⟩ | ⟨x, dx, a1, a2, rfl, i1, d1⟩ <;> rcases h₂ with ⟨tb, e⟩ | ⟨y, dy, b1, b2, e, i2, d2⟩
  · injection e
  · cases e
  · cases e
  · injection e with e
    subst e
    have q := (N _ i1).1.symm.trans (N _ i2).1
    have q2 : dx = dy := by injection q with q; injection q with _ q; injection q
    subst q2
    have q3 := (N _ d1).1.symm.trans (N _ d2).1
    injection q3 with q3
    injection q3 with _ _ q3
    injection q3 with q3 _
    have q4 := congrArg Array.toList q3
    injection q4 with q4 _
    injection q4 with _ _ q4
    injection q4
/-- the states that a run of comparisons goes through -/
noncomputable def Kp (h₀ : Heap) (L : Addr) (m : Str → Option Value) (news : List (Addr × Obj)) (s₀ s : Shared) : Prop :=
  ∃ h tk, s = { s₀ with heap := h, toks := tk } ∧ Fr h₀ L h m ∧ News h₀ L h news
theorem name_eqBool (w : World) {news : List (Addr × Obj)} {v₁ v₂ : Value} {t₁ t₂ : Str} (h₁ : NameIn w news v₁ t₁) (h₂ : NameIn w news v₂ t₂)
    {mean : ExcName → Option Value} {mg mb : Str → Option Value} {dp un : Nat} {gd : Option (List Code)} {cn : Str} {cs : Scope} {a : Addr} {ccd : Value} {cl : List (Str × Addr)} {outer : List Env} {A₀ : Around} {base h₀ : Heap} {L : Addr} {m : Str → Option Value} {s₀ : Shared}
    (B : Below A₀ base outer h₀) (X : (hd.heap_39 w.params).In h₀) (T : TopM mean mg mb h₀) (hk : cs.kind = .function) (hdp : dp + 1 < recursionLimit) (hu : un + 8 < cLine)
    (s : Shared) (hs : Kp h₀ L m news s₀ s) (E : Value → Shared → Prop) (Q : Bool → Shared → Prop) (h : ∀ s', Kp h₀ L m news s₀ s' → Q (t₁ == t₂) s') :
    wpAny (model PG w) (ktrTop dp un gd cn cs L a ccd cl outer) (eqBool v₁ v₂) Q E s := by
  obtain ⟨hp, tk, rfl, F, N⟩ := id hs
  unfold eqBool
  refine wpAny_holding ?_
  refine wpAny_ite_split (fun hab => ?_) (fun hab => ?_)
  · have e : v₁ = v₂ := eq_of_beq hab
    subst e
    have e2 := name_same N h₁ h₂
    subst e2
    have := h _ hs
    rw [show (t₁ == t₁) = true from beq_self_eq_true _] at this
    exact wpAny_bind (wpAny_rule (wpAny_pure this))
  · have hcmp : wpAny (model PG w) (ktrTop dp un gd cn cs L a ccd cl outer) (truthOfDropped =<< richCompare .Eq v₁ v₂) Q E { s₀ with heap := hp, toks := tk } := by
      refine wpAny_bind (name_eq w h₁ h₂ mean mg mb dp un gd cn cs a ccd cl outer A₀ base h₀ L m _ _ E B F X N T hk hdp hu fun h' tk' F' N' => ?_)
      exact wpAny_truthy_bool (h _ ⟨h', tk', rfl, F', N'⟩)
    rcases h₁ with ⟨ta, rfl⟩ | ⟨x, dx, a1, a2, rfl, i1, d1⟩ <;> exact hcmp
end Mine
end
section
open PySem PySem.W PyProof.Rows PySem.Calls PySem.Flt
namespace Mine
noncomputable def NamesIn (w : World) (news : List (Addr × Obj)) : List Value → List Str → Prop
  | [], [] => True
  | v :: vs, t :: ts => NameIn w news v t ∧ NamesIn w news vs ts
  | _, _ => False
theorem NamesIn.mono {w : World} {a b : List (Addr × Obj)} (hs : ∀ p ∈ a, p ∈ b) : ∀ {vs : List Value} {ts : List Str}, NamesIn w a vs ts → NamesIn w b vs ts
  | [], [], _ => trivial
  | _ :: _, _ :: _, h => ⟨h.1.mono hs, h.2.mono hs⟩
  | [], _ :: _, h => h.elim
  | _ :: _, [], h => h.elim
theorem NamesIn.of_mem {w : World} {news : List (Addr × Obj)} {y : Value} : ∀ {vs : List Value} {ts : List Str}, NamesIn w news vs ts → y ∈ vs → ∃ t, NameIn w news y t
  | [], _, _, hm => nomatch hm
  | v :: vs, t :: ts, h, hm => by
    rcases List.mem_cons.mp hm with rfl | hm
    · exact ⟨t, h.1⟩
    · exact h.2.of_mem hm
  | _ :: _, [], h, _ => h.elim
open Classical in
theorem NamesIn.any {w : World} {h₀ h : Heap} {L : Addr} {news : List (Addr × Obj)} {t : Str} (N : News h₀ L h news) : ∀ {vs : List Value} {ts : List Str}, NamesIn w news vs ts → (vs.any fun y => decide (NameIn w news y t)) = ts.any fun x => x == t
  | [], [], _ => rfl
  | v :: vs, x :: ts, hh => by
    rw [List.any_cons, List.any_cons, hh.2.any N]
    congr 1
    by_cases e : x = t
    · subst e
      rw [beq_self_eq_true, decide_eq_true_eq]
      exact hh.1
    · rw [show (x == t) = false from beq_eq_false_iff_ne.mpr e, decide_eq_false_iff_not]
      exact fun q => e (name_same N hh.1 q)
  | [], _ :: _, hh => hh.elim
  | _ :: _, [], hh => hh.elim
section
variable {w : World} {news : List (Addr × Obj)} {mean : ExcName → Option Value} {mg mb : Str → Option Value} {dp un : Nat} {gd : Option (List Code)} {cn : Str} {cs : Scope} {a : Addr} {ccd : Value} {cl : List (Str × Addr)} {outer : List Env} {A₀ : Around} {base h₀ : Heap} {L : Addr} {m : Str → Option Value} {s : Shared} {Q E : Value → Shared → Prop}
open Classical in
theorem in_names {l : Addr} {n : Nat} {vs : List Value} {ts : List Str} {v : Value} {t : Str} (hn : NamesIn w news vs ts) (hm : (l, ({ cls := .type "list", data := .seq vs.toArray n } : Obj)) ∈ news) (hv : NameIn w news v t)
    (B : Below A₀ base outer h₀) (F : Fr h₀ L s.heap m) (X : (hd.heap_39 w.params).In h₀) (N : News h₀ L s.heap news) (T : TopM mean mg mb h₀) (hk : cs.kind = .function) (hdp : dp + 1 < recursionLimit) (hu : un + 9 < cLine)
    (ret : ∀ h' tk', Fr h₀ L h' m → News h₀ L h' news → Q (.bool (ts.any fun x => x == t)) { s with heap := h', toks := tk' }) :
    wpAny (model PG w) (ktrTop dp un gd cn cs L a ccd cl outer) (compareOp .In v (.ref l)) Q E s := by
  refine in_listI (fun y => decide (NameIn w news y t)) (Kp h₀ L m news s) (n := n) (items := vs.toArray) (fun s' hs' => ?_) (fun y hy s' hs' E' Q' hq => ?_) ⟨_, _, rfl, F, N⟩ (fun s' hs' => ?_)
  · obtain ⟨hp, tk, rfl, F', N'⟩ := hs'
    exact (N' _ hm).1
  · obtain ⟨t', ht'⟩ := hn.of_mem (y := y) (by simpa using hy)
    refine name_eqBool (a := a) (ccd := ccd) (cl := cl) (un := un + 1) (gd := gd) w ht' hv B X T hk hdp (by omega) s' hs' E' Q' fun s'' hs'' => ?_
    have := hq s'' hs''
    have e : decide (NameIn w news y t) = (t' == t) := by
      by_cases e : t' = t
      · subst e; rw [beq_self_eq_true, decide_eq_true_eq]; exact ht'
      · rw [show (t' == t) = false from beq_eq_false_iff_ne.mpr e, decide_eq_false_iff_not]
        exact fun q => e (name_same N ht' q)
    rw [e] at this
    exact this
  · obtain ⟨hp, tk, rfl, F', N'⟩ := hs'
    have := ret hp tk F' N'
    rw [← hn.any N] at this
    simpa using this
theorem cmp_use {op : CmpOp} {v₁ v₂ : Value} {b : Bool} (C : CmpOk w op news v₁ v₂ b)
    (B : Below A₀ base outer h₀) (F : Fr h₀ L s.heap m) (X : (hd.heap_39 w.params).In h₀) (N : News h₀ L s.heap news) (T : TopM mean mg mb h₀) (hk : cs.kind = .function) (hdp : dp + 1 < recursionLimit) (hu : un + 8 < cLine)
    (ret : ∀ h' tk', Fr h₀ L h' m → News h₀ L h' news → Q (.bool b) { s with heap := h', toks := tk' }) :
    wpAny (model PG w) (ktrTop dp un gd cn cs L a ccd cl outer) (richCompare op v₁ v₂) Q E s := C mean mg mb dp un gd cn cs a ccd cl outer A₀ base h₀ L m s Q E B F X N T hk hdp hu ret
end
set_option maxRecDepth 100000 in
set_option maxHeartbeats 2000000 in
theorem lt_ct (w : World) (news : List (Addr × Obj)) (v₁ v₂ : Value) (t₁ t₂ : Str) (n1 : NameIn w news v₁ t₁) (n2 : NameIn w news v₂ t₂) : Ct w 2 21 news [v₁, v₂] (Bool1 (ltS t₁ t₂)) := by
  k_with_none
  k_with "compareOp Eq" => (k_here; (refine cmp_ofEq ?_); k_dflt (refine' cmp_use (name_eq _ ?n1 ?n2) ?k1 ?k2 ?k3 ?k4 ?k5 ?k6 ?k7 ?k8 ?_; (case n1 => assumption); (case n2 => assumption); (case k1 => k_asm); (case k2 => k_asm); (case k3 => k_asm); (case k4 => k_asm); (case k5 => k_asm); (case k6 => first | exact rfl | assumption); (case k7 => ktr_room); (case k8 => ktr_units); intro h9 tk9 F9 N9; (try dsimp only); (try k_sweep); (try k_fold)))
  k_with "compareOp Lt" => (k_here; (refine cmp_ofLt ?_); k_dflt (refine' cmp_use (name_lt _ ?n1 ?n2) ?k1 ?k2 ?k3 ?k4 ?k5 ?k6 ?k7 ?k8 ?_; (case n1 => assumption); (case n2 => assumption); (case k1 => k_asm); (case k2 => k_asm); (case k3 => k_asm); (case k4 => k_asm); (case k5 => k_asm); (case k6 => first | exact rfl | assumption); (case k7 => ktr_room); (case k8 => ktr_units); intro h9 tk9 F9 N9; (try dsimp only); (try k_sweep); (try k_fold)))
  k_with "compareOp In" => (k_here; k_dflt (refine' in_names ?n1 ?n2 ?n3 ?k1 ?k2 ?k3 ?k4 ?k5 ?k6 ?k7 ?k8 ?_; (case n1 => assumption); (case n2 => assumption); (case n3 => assumption); (case k1 => k_asm); (case k2 => k_asm); (case k3 => k_asm); (case k4 => k_asm); (case k5 => k_asm); (case k6 => first | exact rfl | assumption); (case k7 => ktr_room); (case k8 => ktr_units); intro h9 tk9 F9 N9; (try dsimp only); (try k_sweep); (try k_fold)))
  unfold Ct PG
  k_fill
  intro mean mg mb dp un gd cn cs a ccd cl outer A₀ base h₀ L m s Q E B F X N T hk hd hu hret
  refine wpAny_call ?_
  k_dflt cell_enter
  conv in (execs _ _) => arg 1; whnf
  k_steps
  all_goals first | (refine hret _ [] _ _ (by assumption) (by assumption) below0 (bool1 rfl)) 
set_option maxRecDepth 100000 in
set_option maxHeartbeats 2000000 in
theorem eq_ct (w : World) (news : List (Addr × Obj)) (v₁ v₂ : Value) (t₁ t₂ : Str) (n1 : NameIn w news v₁ t₁) (n2 : NameIn w news v₂ t₂) : Ct w 2 28 news [v₁, v₂] (Bool1 (t₁ == t₂)) := by
  k_with_none
  k_with "compareOp Eq" => (k_here; (refine cmp_ofEq ?_); k_dflt (refine' cmp_use (name_eq _ ?n1 ?n2) ?k1 ?k2 ?k3 ?k4 ?k5 ?k6 ?k7 ?k8 ?_; (case n1 => assumption); (case n2 => assumption); (case k1 => k_asm); (case k2 => k_asm); (case k3 => k_asm); (case k4 => k_asm); (case k5 => k_asm); (case k6 => first | exact rfl | assumption); (case k7 => ktr_room); (case k8 => ktr_units); intro h9 tk9 F9 N9; (try dsimp only); (try k_sweep); (try k_fold)))
  k_with "compareOp Lt" => (k_here; (refine cmp_ofLt ?_); k_dflt (refine' cmp_use (name_lt _ ?n1 ?n2) ?k1 ?k2 ?k3 ?k4 ?k5 ?k6 ?k7 ?k8 ?_; (case n1 => assumption); (case n2 => assumption); (case k1 => k_asm); (case k2 => k_asm); (case k3 => k_asm); (case k4 => k_asm); (case k5 => k_asm); (case k6 => first | exact rfl | assumption); (case k7 => ktr_room); (case k8 => ktr_units); intro h9 tk9 F9 N9; (try dsimp only); (try k_sweep); (try k_fold)))
  k_with "compareOp In" => (k_here; k_dflt (refine' in_names ?n1 ?n2 ?n3 ?k1 ?k2 ?k3 ?k4 ?k5 ?k6 ?k7 ?k8 ?_; (case n1 => assumption); (case n2 => assumption); (case n3 => assumption); (case k1 => k_asm); (case k2 => k_asm); (case k3 => k_asm); (case k4 => k_asm); (case k5 => k_asm); (case k6 => first | exact rfl | assumption); (case k7 => ktr_room); (case k8 => ktr_units); intro h9 tk9 F9 N9; (try dsimp only); (try k_sweep); (try k_fold)))
  unfold Ct PG
  k_fill
  intro mean mg mb dp un gd cn cs a ccd cl outer A₀ base h₀ L m s Q E B F X N T hk hd hu hret
  refine wpAny_call ?_
  k_dflt cell_enter
  conv in (execs _ _) => arg 1; whnf
  k_steps
  all_goals first | (refine hret _ [] _ _ (by assumption) (by assumption) below0 (bool1 rfl)) 
set_option maxRecDepth 100000 in
set_option maxHeartbeats 2000000 in
theorem contains_ct (w : World) (news : List (Addr × Obj)) (l : Addr) (vs : List Value) (ts : List Str) (n : Nat) (v : Value) (t : Str) (n1 : NamesIn w news vs ts) (hm : (l, ({ cls := .type "list", data := .seq vs.toArray n } : Obj)) ∈ news) (n2 : NameIn w news v t) :
    Ct w 2 56 news [.ref l, v] (Bool1 (ts.any fun x => x == t)) := by
  k_with_none
  k_with "compareOp Eq" => (k_here; (refine cmp_ofEq ?_); k_dflt (refine' cmp_use (name_eq _ ?n1 ?n2) ?k1 ?k2 ?k3 ?k4 ?k5 ?k6 ?k7 ?k8 ?_; (case n1 => assumption); (case n2 => assumption); (case k1 => k_asm); (case k2 => k_asm); (case k3 => k_asm); (case k4 => k_asm); (case k5 => k_asm); (case k6 => first | exact rfl | assumption); (case k7 => ktr_room); (case k8 => ktr_units); intro h9 tk9 F9 N9; (try dsimp only); (try k_sweep); (try k_fold)))
  k_with "compareOp Lt" => (k_here; (refine cmp_ofLt ?_); k_dflt (refine' cmp_use (name_lt _ ?n1 ?n2) ?k1 ?k2 ?k3 ?k4 ?k5 ?k6 ?k7 ?k8 ?_; (case n1 => assumption); (case n2 => assumption); (case k1 => k_asm); (case k2 => k_asm); (case k3 => k_asm); (case k4 => k_asm); (case k5 => k_asm); (case k6 => first | exact rfl | assumption); (case k7 => ktr_room); (case k8 => ktr_units); intro h9 tk9 F9 N9; (try dsimp only); (try k_sweep); (try k_fold)))
  k_with "compareOp In" => (k_here; k_dflt (refine' in_names ?n1 ?n2 ?n3 ?k1 ?k2 ?k3 ?k4 ?k5 ?k6 ?k7 ?k8 ?_; (case n1 => assumption); (case n2 => assumption); (case n3 => assumption); (case k1 => k_asm); (case k2 => k_asm); (case k3 => k_asm); (case k4 => k_asm); (case k5 => k_asm); (case k6 => first | exact rfl | assumption); (case k7 => ktr_room); (case k8 => ktr_units); intro h9 tk9 F9 N9; (try dsimp only); (try k_sweep); (try k_fold)))
  unfold Ct PG
  k_fill
  intro mean mg mb dp un gd cn cs a ccd cl outer A₀ base h₀ L m s Q E B F X N T hk hd hu hret
  refine wpAny_call ?_
  k_dflt cell_enter
  conv in (execs _ _) => arg 1; whnf
  k_steps
  all_goals first | (refine hret _ [] _ _ (by assumption) (by assumption) below0 (bool1 rfl)) 
end Mine
end
section
open PySem PySem.W PyProof.Rows PySem.Calls PySem.Flt
namespace Mine
/-- a text's token lies from lo on, below hi -/
noncomputable def TokAt (lo hi : Nat) (v : Value) : Prop := ∀ t tk, v = .str t tk → lo ≤ tk ∧ tk < hi
theorem booked_of {w : World} {h : Heap} (X : (hd.heap_39 w.params).In h) : NoneBooked h := by
  have e : (hd.heap_39 w.params).lookup 2 = some { cls := .none, data := .dict #[] 0 } := rfl
  refine ⟨fun _ => none, ⟨_, #[], 0, X _ _ e, rfl, ?_, fun _ => rfl⟩, rfl⟩
  intro x hx
  simp at hx
theorem is_names {w : World} {h₀ : Heap} {L : Addr} {m : Str → Option Value} {news : List (Addr × Obj)} {v₁ v₂ : Value} {t₁ t₂ : Str} {T T' : Nat} {A : Around} {E : Value → Shared → Prop} {s : Shared} {Q : Value → Shared → Prop}
    (h₁ : NameIn w news v₁ t₁) (h₂ : NameIn w news v₂ t₂) (k₁ : TokAt 1 T v₁) (k₂ : TokAt T T' v₂) (X : (hd.heap_39 w.params).In h₀) (F : Fr h₀ L s.heap m) (N : News h₀ L s.heap news)
    (h : ∀ c : Bool, (c = true → t₁ = t₂) → Q (.bool c) s) : wpAny (model PG w) A (compareOp .Is v₁ v₂) Q E s := by
  show wpAny _ A (do return .bool (← isSame v₁ v₂)) Q E s
  refine wpAny_bind ?_
  rcases h₁ with ⟨ta, rfl⟩ | ⟨x, dx, a1, a2, rfl, i1, d1⟩ <;> rcases h₂ with ⟨tb, rfl⟩ | ⟨y, dy, b1, b2, rfl, i2, d2⟩
  · obtain ⟨q1, q2⟩ := k₁ _ _ rfl
    obtain ⟨q3, _⟩ := k₂ _ _ rfl
    have q4 : @LT.lt Nat _ ta tb := Nat.lt_of_lt_of_le q2 q3
    have h0 : (ta == 0 || tb == 0) = false := by
      have e1 : (ta == 0) = false := beq_eq_false_iff_ne.mpr (Nat.ne_of_gt q1)
      have e2 : (tb == 0) = false := beq_eq_false_iff_ne.mpr (Nat.ne_of_gt (Nat.lt_of_le_of_lt (Nat.zero_le _) q4))
      rw [e1, e2]; rfl
    have h1 : (ta == tb) = false := beq_eq_false_iff_ne.mpr (Nat.ne_of_lt q4)
    show wpAny _ A (isSame.created (t₁ == t₂) ta tb) _ E s
    have hb : NoneBooked s.heap := booked_of (Frag.In.keeps X F.keep)
    by_cases e : t₁ = t₂
    · exact wpAny_isSame_str (y := t₁) (z := t₂) h0 hb fun b => wpAny_pure (h b fun _ => e)
    · unfold isSame.created
      rw [if_neg (by rw [h0]; exact Bool.false_ne_true), if_neg (by rw [h1]; exact Bool.false_ne_true), if_pos (by rw [show (t₁ == t₂) = false from beq_eq_false_iff_ne.mpr e]; rfl)]
      exact wpAny_pure (wpAny_pure (h false fun q => by cases q))
  · exact wpAny_pure (wpAny_pure (h false fun q => by cases q))
  · exact wpAny_pure (wpAny_pure (h false fun q => by cases q))
  · by_cases e : x = y
    · subst e
      exact wpAny_isSame_ref_self (wpAny_pure (h true fun _ => name_same N (.inr ⟨x, dx, a1, a2, rfl, i1, d1⟩) (.inr ⟨x, dy, b1, b2, rfl, i2, d2⟩)))
    · exact wpAny_isSame_ref_other e (N _ i1).1 (N _ i2).1 (by intro q; cases q) (wpAny_pure (h false fun q => by cases q))
end Mine
end
section
open PySem PySem.W PyProof.Rows PySem.Calls PySem.Flt
namespace Mine
/-- n tokens at least have been given out -/
noncomputable def TokLo (n tk : Nat) : Prop := n ≤ tk
theorem TokLo.refl (n : Nat) : TokLo n n := Nat.le_refl n
theorem TokLo.step {n tk k : Nat} (h : TokLo n tk) : TokLo n (tk + k) := Nat.le_trans h (Nat.le_add_right _ _)
theorem TokLo.any {n a b : Nat} (h : TokLo n a) (le : a ≤ b) : TokLo n b := Nat.le_trans h le
theorem execs_cons_T {M : Model} {A : Around} {E : Value → Shared → Prop} {s : Shared} {env : Env} {n : Nat} {st : Stmt} {rest : List Stmt} {Q : Flow → Shared → Prop} (hn : TokLo n s.toks)
    (h : wpAny M A (exec st env) (fun f s' => ∀ tk, s'.toks = tk → TokLo n tk → match f with | .next => wpAny M A (execs rest env) Q E { s' with toks := tk } | f => Q f s') E s) : wpAny M A (execs (st :: rest) env) Q E s :=
  wpAny_execs_cons (wpAny_with_toks hn (wpAny_mono h (fun _ _ x hn => x _ rfl hn) fun _ _ x _ => x))
/-- Cs, with what is known of a text's token -/
noncomputable def CsT (w : World) (D : Nat) (f : Addr) (small : List (Addr × Obj)) (vs : List Value) (Post : Value → List (Addr × Obj) → Prop) : Prop :=
  ∀ (mean : ExcName → Option Value) (mg mb : Str → Option Value) (dp un : Nat) (gd : Option (List Code)) (cn : Str) (cs : Scope) (a : Addr) (ccd : Value) (cl : List (Str × Addr)) (outer : List Env) (A₀ : Around) (base h₀ : Heap) (L : Addr) (m : Str → Option Value) (s : Shared) (Q E : Value → Shared → Prop),
    Below A₀ base outer h₀ → Fr h₀ L s.heap m → (hd.heap_39 w.params).In h₀ → News h₀ L s.heap small → TopM mean mg mb h₀ → cs.kind = .function → dp + D < recursionLimit → un + 8 * D < cLine →
    (∀ r tl h' tk', (∀ b o, s.heap.get? b = some o → h'.get? b = some o) → (∀ p ∈ tl, h'.get? p.1 = some p.2 ∧ s.heap.get? p.1 = none) → Post r tl → TokAt s.toks tk' r → Q r { s with heap := h', toks := tk' }) →
    wpAny (model PG w) (ktrTop dp un gd cn cs L a ccd cl outer) (call (.ref f) vs) Q E s
theorem tokAt_ref {lo hi : Nat} {x : Addr} : TokAt lo hi (.ref x) := fun _ _ e => by cases e
theorem tokAt_str {lo hi : Nat} {t : Str} {tk : Tok} (h : TokLo lo tk) (h2 : TokLo (tk + 1) hi) : TokAt lo hi (.str t tk) := fun _ _ e => by
  injection e with _ e
  subst e
  exact ⟨h, h2⟩
end Mine
end
section
open PySem PySem.W PyProof.Rows PySem.Calls PySem.Flt
namespace Mine
/-- what holds ahead of the i-th test of a loop -/
inductive LopT (s : Shared) (h₀ : Heap) (L : Addr) (ws : List Addr) (n T : Nat) (St : Nat → Heap → Prop) (J : Nat → (Str → Option Value) → List (Addr × Obj) → Prop) (k : Nat) (s' : Shared) : Prop
  | mk (i : Nat) (h : Heap) (tk : Nat) (m : Str → Option Value) (nw : List (Addr × Obj)) (hi : i ≤ n) (hk : k = n + 1 - i) (hs : s' = { s with heap := h, toks := tk }) (ht : T ≤ tk) (st : St i h) (F : Fr h₀ L h m) (N : News h₀ L h nw) (off : ∀ p ∈ nw, p.1 ∉ ws) (j : J i m nw)
section
variable {prog : Program} {w : World} {A : Around} {E : Value → Shared → Prop} {s : Shared} {env : Env} {h₀ : Heap} {target : Expr} {body orelse : List Stmt}
/-- how a turn ends: what the iterator owns still stands, the rest is told by J, T tokens and more are out -/
noncomputable def TurnT (h₀ : Heap) (L : Addr) (T : Nat) (s : Shared) (fix : List (Addr × Obj)) (J : (Str → Option Value) → List (Addr × Obj) → Prop) (s₃ : Shared) : Prop :=
  ∃ h' tk m' news', s₃ = { s with heap := h', toks := tk } ∧ Fr h₀ L h' m' ∧ News h₀ L h' (fix ++ news') ∧ (∀ p ∈ news', ∀ q ∈ fix, @Ne Nat p.1 q.1) ∧ J m' news'
theorem addr_off {fix news : List (Addr × Obj)} {ws : List Addr} (e : fix.map (·.1) = ws) (h : ∀ p ∈ news, ∀ q ∈ fix, @Ne Nat p.1 q.1) : ∀ p ∈ news, p.1 ∉ ws := fun p hp hm => by
  rw [← e] at hm
  obtain ⟨q, hq, he⟩ := List.mem_map.mp hm
  exact h p hp q hq he.symm
theorem forT {R : Result → Shared → Prop} {I : Addr} {fp wr : List Addr} {n : Nat} {P Md : Nat → Value → Heap → Prop} {St : Nat → Heap → Prop} {m : Str → Option Value} {news : List (Addr × Obj)} (W : KTurns prog w A target I fp wr n P Md St)
    (ws : List Addr) (keep : List (Addr × Obj)) (T : Nat) (J : Nat → (Str → Option Value) → List (Addr × Obj) → Prop)
    (hobj : ∀ i h, St i h → ∃ fix : List (Addr × Obj), fix.map (·.1) = ws ∧ ∀ p ∈ fix, h.get? p.1 = some p.2)
    (hfp : ∀ b ∈ fp, b ∈ ws ∨ ∃ o, (b, o) ∈ keep) (hwr : ∀ b ∈ wr, b ∈ ws) (hws : ∀ b ∈ ws, b ≠ env.locals ∧ h₀.get? b = none)
    (hkeep : ∀ i m news, J i m news → ∀ p ∈ keep, p ∈ news) (hT : T ≤ s.toks) (hst : St 0 s.heap) (F : Fr h₀ env.locals s.heap m) (N : News h₀ env.locals s.heap news) (off : ∀ p ∈ news, p.1 ∉ ws) (h0 : J 0 m news)
    (turn : ∀ i v m₁ news₁ h₁ tk₁ fix, i < n → P i v h₁ → TokLo T tk₁ → J i m₁ news₁ → fix.map (·.1) = ws → (∀ p ∈ news₁, ∀ q ∈ fix, @Ne Nat p.1 q.1) → Fr h₀ env.locals h₁ m₁ → News h₀ env.locals h₁ (fix ++ news₁) →
      wpAny (model prog w) A (assign target env v) (fun _ s₂ => wpAny (model prog w) A (execs body env) (fun f s₃ => match f with
        | .ret v => R (.ok (.ret v)) s₃
        | .brk => R (.ok .next) s₃
        | _ => TurnT h₀ env.locals T s fix (J (i + 1)) s₃) (notedBy (model prog w) A env fun e s' => R (.error e) s') s₂) (notedBy (model prog w) A env fun e s' => R (.error e) s') { s with heap := h₁, toks := tk₁ })
    (fin : ∀ m₁ news₁ h₁ tk₁, TokLo T tk₁ → J n m₁ news₁ → Fr h₀ env.locals h₁ m₁ → News h₀ env.locals h₁ news₁ →
      wpAny (model prog w) A (execs orelse env) (fun f s' => R (.ok f) s') (notedBy (model prog w) A env fun e s' => R (.error e) s') { s with heap := h₁, toks := tk₁ }) :
    codeAny (model prog w) A (.forLoop target (.ref I) body orelse env) R s := by
  have hL : env.locals ∉ wr := fun h => (hws _ (hwr _ h)).1 rfl
  have old : ∀ b o, h₀.get? b = some o → b ∉ wr := fun b o e hb => by rw [(hws b (hwr b hb)).2] at e; cases e
  refine codeAny_forLoop_any (LopT s h₀ env.locals ws n T St J) ?_ (n + 1)
    ⟨0, s.heap, s.toks, m, news, Nat.zero_le _, rfl, rfl, hT, hst, F, N, off, h0⟩
  rintro k s' ⟨i, h₁, tk₁, m₁, news₁, hi, rfl, rfl, ht, st, F₁, N₁, o₁, j₁⟩
  have next : ∀ g : Heap, (∀ b o, b ∉ wr → h₁.get? b = some o → g.get? b = some o) → Fr h₀ env.locals g m₁ ∧ News h₀ env.locals g news₁ := fun g hk =>
    ⟨⟨F₁.ns.at' fun o e => hk _ o hL e, fun b o e => hk b o (old b o e) (F₁.keep b o e), F₁.above⟩, fun p hp => ⟨hk _ _ (fun hw => o₁ p hp (hwr _ hw)) (N₁ p hp).1, (N₁ p hp).2⟩⟩
  refine wpAny_with_toks (n := T) ht ?_
  by_cases hlt : i < n
  · refine W.item i _ _ _ hlt st fun v h₂ tk₂ hMd hk₂ ht₂ => ?_
    refine W.go i v _ _ _ hMd fun h₃ hP st₃ hk₃ => ?_
    obtain ⟨F₃, N₃⟩ := next h₃ fun b o hb x => hk₃ b o hb (hk₂ b o hb x)
    obtain ⟨fix, hfa, hfg⟩ := hobj _ _ st₃
    have offx : ∀ p ∈ news₁, ∀ q ∈ fix, @Ne Nat p.1 q.1 := fun p hp q hq e => o₁ p hp (by rw [← hfa, e]; exact List.mem_map_of_mem hq)
    have Nx : News h₀ env.locals h₃ (fix ++ news₁) := fun p hp => by
      rcases List.mem_append.mp hp with hp | hp
      · exact ⟨hfg p hp, hws p.1 (by rw [← hfa]; exact List.mem_map_of_mem hp)⟩
      · exact N₃ p hp
    refine wpAny_with_toks (n := T) ht₂ ?_
    refine wpAny_mono (turn i v m₁ news₁ h₃ tk₂ fix hlt hP ht₂ j₁ hfa offx F₃ Nx) (fun _ s₂ q₂ t₂ => wpAny_with_toks t₂ (wpAny_mono q₂ (fun f s₃ q₃ t₃ => ?_) fun _ _ e _ => e)) fun _ _ e _ => e
    have go : TurnT h₀ env.locals T s fix (J (i + 1)) s₃ → ∃ k', k' < n + 1 - i ∧ LopT s h₀ env.locals ws n T St J k' s₃ := by
      rintro ⟨h', tk', m', news', rfl, F', N', o', j'⟩
      refine ⟨n + 1 - (i + 1), by omega, i + 1, h', tk', m', news', hlt, rfl, rfl, t₃, ?_, F', fun p hp => N' p (List.mem_append_right _ hp), addr_off hfa o', j'⟩
      refine W.frame _ _ _ st₃ fun b hb o e => ?_
      rcases hfp b hb with hw | ⟨o', hw⟩
      · rw [← hfa] at hw
        obtain ⟨q, hq, rfl⟩ := List.mem_map.mp hw
        have h1 := hfg q hq
        rw [e] at h1
        rw [Option.some.inj h1]
        exact (N' q (List.mem_append_left _ hq)).1
      · have h1 := (N₃ _ (hkeep _ _ _ j₁ _ hw)).1
        have h2 := (N' _ (List.mem_append_right _ (hkeep _ _ _ j' _ hw))).1
        have h1' : h₃.get? b = some o' := h1
        rw [e] at h1'
        rw [Option.some.inj h1']
        exact h2
    cases f with
    | ret v => exact q₃
    | brk => exact q₃
    | next => exact go q₃
    | cont => exact go q₃
  · obtain rfl : i = n := Nat.le_antisymm hi (Nat.not_lt.mp hlt)
    refine W.done _ _ _ st fun h₂ tk₂ hk₂ ht₂ => ?_
    obtain ⟨F₂, N₂⟩ := next h₂ hk₂
    exact fin m₁ news₁ h₂ tk₂ ht₂ j₁ F₂ N₂
end
end Mine
end
section
open PySem PySem.W PyProof.Rows PySem.Calls PySem.Flt
namespace Mine
section
variable {prog : Program} {w : World} {A : Around} {E : Value → Shared → Prop} {s : Shared} {env : Env} {h₀ : Heap} {target : Expr} {body orelse : List Stmt} {Q : Flow → Shared → Prop}
/-- a loop over what has been reckoned -/
noncomputable def LoopIn (prog : Program) (w : World) (A : Around) (env : Env) (target : Expr) (body orelse : List Stmt) (Q : Flow → Shared → Prop) (E : Value → Shared → Prop) (xv : Value) (s₁ : Shared) : Prop :=
  wpAny (model prog w) A (pyIter xv) (fun it s₂ => codeAny (model prog w) A (.forLoop target it body orelse env) (fun r s' => match r with | .ok f => Q f s' | .error e => cameBackBy (model prog w) A env E e s') s₂) E s₁
theorem For_start {iter : Expr} {pos : Pos} (h : wpAny (model prog w) A (eval iter env) (fun xv s₁ => LoopIn prog w A env target body orelse Q E xv s₁) E s)
    (hs : ∀ x, foldedSetIterable iter env x = pure x := by intro _; rfl) : wpAny (model prog w) A (exec (.For target iter body orelse pos) env) Q E s := wpAny_For h hs
noncomputable def TurnQ (h₀ : Heap) (L : Addr) (T : Nat) (s : Shared) (fix : List (Addr × Obj)) (J : (Str → Option Value) → List (Addr × Obj) → Prop) (Q : Flow → Shared → Prop) (f : Flow) (s₃ : Shared) : Prop :=
  match f with
  | .ret v => Q (.ret v) s₃
  | .brk => Q .next s₃
  | _ => TurnT h₀ L T s fix J s₃
theorem next_new {L : Addr} {h : Heap} {m : Str → Option Value} (F : Fr h₀ L h m) {b : Addr} (hb : h.objs.size ≤ b) : b ≠ L ∧ h₀.get? b = none := by
  constructor
  · intro e
    exact Nat.lt_irrefl _ (Nat.lt_of_lt_of_le F.ns.lt (e ▸ hb))
  · cases e : h₀.get? b with
    | none => rfl
    | some o => exact absurd (Heap.lt_size (F.keep _ _ e)) (Nat.not_lt.mpr hb)
theorem news_below {L : Addr} {h : Heap} {news : List (Addr × Obj)} (N : News h₀ L h news) : ∀ p ∈ news, @LT.lt Nat _ p.1 h.objs.size := fun p hp => Heap.lt_size (N p hp).1
theorem LoopIn.gen {I : Addr} {fp wr : List Addr} {n : Nat} {P Md : Nat → Value → Heap → Prop} {St : Nat → Heap → Prop} {m : Str → Option Value} {news : List (Addr × Obj)} (W : KTurns prog w A target I fp wr n P Md St)
    (ws : List Addr) (keep : List (Addr × Obj)) (T : Nat) (J : Nat → (Str → Option Value) → List (Addr × Obj) → Prop)
    (hobj : ∀ i h, St i h → ∃ fix : List (Addr × Obj), fix.map (·.1) = ws ∧ ∀ p ∈ fix, h.get? p.1 = some p.2)
    (hfp : ∀ b ∈ fp, b ∈ ws ∨ ∃ o, (b, o) ∈ keep) (hwr : ∀ b ∈ wr, b ∈ ws) (hws : ∀ b ∈ ws, b ≠ env.locals ∧ h₀.get? b = none)
    (hkeep : ∀ i m news, J i m news → ∀ p ∈ keep, p ∈ news) (hT : TokLo T s.toks) (hst : St 0 s.heap) (F : Fr h₀ env.locals s.heap m) (N : News h₀ env.locals s.heap news) (off : ∀ p ∈ news, p.1 ∉ ws) (h0 : J 0 m news)
    (hE : PassesOwn (model prog w) A env E)
    (turn : ∀ i v m₁ news₁ h₁ tk₁ fix, i < n → P i v h₁ → TokLo T tk₁ → J i m₁ news₁ → fix.map (·.1) = ws → (∀ p ∈ news₁, ∀ q ∈ fix, @Ne Nat p.1 q.1) → Fr h₀ env.locals h₁ m₁ → News h₀ env.locals h₁ (fix ++ news₁) →
      wpAny (model prog w) A (assign target env v) (fun _ s₂ => wpAny (model prog w) A (execs body env) (TurnQ h₀ env.locals T s fix (J (i + 1)) Q) E s₂) E { s with heap := h₁, toks := tk₁ })
    (fin : ∀ m₁ news₁ h₁ tk₁, TokLo T tk₁ → J n m₁ news₁ → Fr h₀ env.locals h₁ m₁ → News h₀ env.locals h₁ news₁ →
      wpAny (model prog w) A (execs orelse env) Q E { s with heap := h₁, toks := tk₁ }) :
    codeAny (model prog w) A (.forLoop target (.ref I) body orelse env) (fun r s' => match r with | .ok f => Q f s' | .error e => cameBackBy (model prog w) A env E e s') s := by
  refine forT W ws keep T J hobj hfp hwr hws hkeep hT hst F N off h0 (fun i v m₁ news₁ h₁ tk₁ fix a b c d e f g h => ?_) (fun m₁ news₁ h₁ tk₁ a b c d => wpAny_passesOwn hE (fin m₁ news₁ h₁ tk₁ a b c d))
  refine wpAny_mono (turn i v m₁ news₁ h₁ tk₁ fix a b c d e f g h) (fun _ s₂ q => wpAny_passesOwn hE (wpAny_mono q (fun f s₃ q₃ => ?_) fun _ _ e => e)) hE
  cases f with
  | ret v => exact q₃
  | brk => exact q₃
  | next => exact q₃
  | cont => exact q₃
theorem one_of_map {I : Addr} : ∀ {fix : List (Addr × Obj)}, fix.map (·.1) = [I] → ∃ oI, fix = [(I, oI)]
  | [(a, o)], h => ⟨o, by injection h with h _; rw [show a = I from h]⟩
  | [], h => by cases h
  | _ :: _ :: _, h => by injection h with _ h; cases h
theorem LoopIn.list {l : Addr} {lo : Obj} {its : Array Value} {n : Nat} {m : Str → Option Value} {news : List (Addr × Obj)} (T : Nat) (J : Nat → (Str → Option Value) → List (Addr × Obj) → Prop)
    (hh : A.handled = none) (F : Fr h₀ env.locals s.heap m) (N : News h₀ env.locals s.heap news) (hm : (l, lo) ∈ news) (hc : lo.cls = .type "list") (hd : lo.data = .seq its n) (hT : TokLo T s.toks) (h0 : J 0 m news)
    (hkeep : ∀ i m news, J i m news → (l, lo) ∈ news) (hE : PassesOwn (model prog w) A env E)
    (turn : ∀ i v m₁ news₁ h₁ tk₁ I oI, its[i]? = some v → TokLo T tk₁ → J i m₁ news₁ → (∀ p ∈ news₁, @Ne Nat p.1 I) → Fr h₀ env.locals h₁ m₁ → News h₀ env.locals h₁ ((I, oI) :: news₁) →
      wpAny (model prog w) A (assign target env v) (fun _ s₂ => wpAny (model prog w) A (execs body env) (TurnQ h₀ env.locals T s [(I, oI)] (J (i + 1)) Q) E s₂) E { s with heap := h₁, toks := tk₁ })
    (fin : ∀ m₁ news₁ h₁ tk₁, TokLo T tk₁ → J its.size m₁ news₁ → Fr h₀ env.locals h₁ m₁ → News h₀ env.locals h₁ news₁ → wpAny (model prog w) A (execs orelse env) Q E { s with heap := h₁, toks := tk₁ }) :
    LoopIn prog w A env target body orelse Q E (.ref l) s := by
  have hls : s.heap.IsList l its := ⟨lo, (N _ hm).1, hc, n, hd⟩
  have hlt : @LT.lt Nat _ l s.heap.objs.size := Heap.lt_size (N _ hm).1
  refine wpAny_pyIter_list hls ?_
  have up : ∀ b o, s.heap.get? b = some o → (s.heap.push { cls := .type "list_iterator", data := .fields #[.ref l, .int 0 0] }).get? b = some o := fun b o e => Heap.get?_push_of_some _ e
  refine LoopIn.gen (s := { s with heap := s.heap.push _ }) (KTurns.ofWalks (Walks.list hh s.heap.objs.size l (Nat.ne_of_lt hlt) its) fun i v s Q E st q => letGo_listiter st.1 q) [s.heap.objs.size] [(l, lo)] T J
    (fun i h st => ?_) (fun b hb => ?_) (fun b hb => hb) (fun b hb => ?_) (fun i m nw j p hp => by rw [List.mem_singleton.mp hp]; exact hkeep i m nw j) hT ⟨⟨_, Heap.get?_push_size _ rfl, rfl, rfl⟩, hls.at fun o e => Heap.get?_push_of_some _ e⟩
    (F.keeps up) (N.grown up) (fun p hp hm => Nat.ne_of_lt (news_below N p hp) (List.mem_singleton.mp hm)) h0 hE (fun i v m₁ news₁ h₁ tk₁ fix a b c d e f g hN => ?_) (fun m₁ news₁ h₁ tk₁ a b c d => fin m₁ news₁ h₁ tk₁ a b c d)
  · obtain ⟨o, e, _⟩ := st.1
    exact ⟨[(_, o)], rfl, fun p hp => by rw [List.mem_singleton.mp hp]; exact e⟩
  · rcases List.mem_cons.mp hb with rfl | hb
    · exact .inl (.head _)
    · rw [List.mem_singleton.mp hb]; exact .inr ⟨lo, .head _⟩
  · rw [List.mem_singleton.mp hb]; exact next_new F (Nat.le_refl _)
  · obtain ⟨oI, rfl⟩ := one_of_map e
    exact turn i v m₁ news₁ h₁ tk₁ _ oI b c d (fun p hp => f p hp _ (.head _)) g hN
theorem LoopIn.range {r : Addr} {a b : Int} {t u v : Tok} {n : Nat} {x : Str} {px : Pos} {m : Str → Option Value} {news : List (Addr × Obj)} (T : Nat) (J : Nat → (Str → Option Value) → List (Addr × Obj) → Prop)
    (hh : A.handled = none) (F : Fr h₀ env.locals s.heap m) (N : News h₀ env.locals s.heap news) (hr : IsRange s.heap r a b 1 t u v) (hsm : Builtin.Range.small a b 1 = true) (hn : Builtin.Range.rangeSize a b 1 = ((n : Nat) : Int)) (hT : TokLo T s.toks) (h0 : J 0 m news)
    (hE : PassesOwn (model prog w) A env E)
    (turn : ∀ i t m₁ news₁ h₁ tk₁ I oI, i < n → TokLo T tk₁ → J i m₁ news₁ → (∀ p ∈ news₁, @Ne Nat p.1 I) → Fr h₀ env.locals h₁ m₁ → News h₀ env.locals h₁ ((I, oI) :: news₁) →
      wpAny (model prog w) A (assign (.Name x px) env (.int (a + (i : Nat)) t)) (fun _ s₂ => wpAny (model prog w) A (execs body env) (TurnQ h₀ env.locals T s [(I, oI)] (J (i + 1)) Q) E s₂) E { s with heap := h₁, toks := tk₁ })
    (fin : ∀ m₁ news₁ h₁ tk₁, TokLo T tk₁ → J n m₁ news₁ → Fr h₀ env.locals h₁ m₁ → News h₀ env.locals h₁ news₁ → wpAny (model prog w) A (execs orelse env) Q E { s with heap := h₁, toks := tk₁ }) :
    LoopIn prog w A env (.Name x px) body orelse Q E (.ref r) s := by
  refine wpAny_pyIter_range hr hsm ?_
  have up : ∀ o' b o, s.heap.get? b = some o → (s.heap.push o').get? b = some o := fun _ b o e => Heap.get?_push_of_some _ e
  refine LoopIn.gen (s := { s with heap := s.heap.push _ }) (KTurns.ofWalks (LCg.range_walks (I := s.heap.objs.size) hh a n) fun i v s Q E st q => wpAny_pure q) [s.heap.objs.size] [] T J
    (fun i h st => ⟨[(_, _)], rfl, fun p hp => by rw [List.mem_singleton.mp hp]; exact st⟩) (fun b hb => .inl hb) (fun b hb => hb) (fun b hb => ?_) (fun i m nw j p hp => nomatch hp) hT (by show IsRangeIter _ _ _ _ _; rw [hn]; simpa using Heap.get?_push_size _ rfl)
    (F.keeps (up _)) (N.grown (up _)) (fun p hp hm => Nat.ne_of_lt (news_below N p hp) (List.mem_singleton.mp hm)) h0 hE (fun i v m₁ news₁ h₁ tk₁ fix hi b c d e f g hN => ?_) (fun m₁ news₁ h₁ tk₁ a b c d => fin m₁ news₁ h₁ tk₁ a b c d)
  · rw [List.mem_singleton.mp hb]; exact next_new F (Nat.le_refl _)
  · obtain ⟨t, rfl⟩ := b
    obtain ⟨oI, rfl⟩ := one_of_map e
    exact turn i t m₁ news₁ h₁ tk₁ _ oI hi c d (fun p hp => f p hp _ (.head _)) g hN
end
end Mine
end
section
open PySem PySem.W PyProof.Rows PySem.Calls PySem.Flt
namespace Mine
theorem fr_say {h₀ h : Heap} {L : Addr} {m : Str → Option Value} {k : Str} {v : Value} (F : Fr h₀ L h m) (e : m k = some v) : Fr h₀ L h (fun z => if z = k then some v else m z) := by
  have : (fun z => if z = k then some v else m z) = m := by
    funext z
    by_cases hz : z = k
    · rw [if_pos hz, hz, e]
    · rw [if_neg hz]
  rw [this]
  exact F
theorem NamesIn.get {w : World} {news : List (Addr × Obj)} : ∀ {vs : List Value} {ts : List Str} {i : Nat} {v : Value}, NamesIn w news vs ts → vs[i]? = some v → ∃ t, ts[i]? = some t ∧ NameIn w news v t
  | v :: vs, t :: ts, 0, x, h, e => ⟨t, rfl, by injection e with e; rw [← e]; exact h.1⟩
  | v :: vs, t :: ts, i + 1, x, h, e => NamesIn.get (i := i) h.2 (by simpa using e)
  | [], _, _, _, _, e => by simp at e
  | _ :: _, [], _, _, h, _ => h.elim
theorem NamesIn.length {w : World} {news : List (Addr × Obj)} : ∀ {vs : List Value} {ts : List Str}, NamesIn w news vs ts → vs.length = ts.length
  | [], [], _ => rfl
  | _ :: _, _ :: _, h => congrArg (· + 1) h.2.length
  | [], _ :: _, h => h.elim
  | _ :: _, [], h => h.elim
theorem turn_next {h₀ h' : Heap} {L : Addr} {T tk : Nat} {s : Shared} {fix news' : List (Addr × Obj)} {J : (Str → Option Value) → List (Addr × Obj) → Prop} {Q : Flow → Shared → Prop} {m' : Str → Option Value} (F : Fr h₀ L h' m') (N : News h₀ L h' (fix ++ news')) (o : ∀ p ∈ news', ∀ q ∈ fix, @Ne Nat p.1 q.1) (j : J m' news') :
    TurnQ h₀ L T s fix J Q .next { s with heap := h', toks := tk } := ⟨h', tk, m', news', rfl, F, N, o, j⟩
theorem count_step {ts : List Str} {i : Nat} {x t : Str} (h : ts[i]? = some x) : (ts.take (i + 1)).count t = (ts.take i).count t + if x = t then 1 else 0 := by
  rw [List.take_add_one, h]
  simp [List.count_append, List.count_singleton]
set_option maxRecDepth 100000 in
set_option maxHeartbeats 2000000 in
theorem count_ct (w : World) (news : List (Addr × Obj)) (l : Addr) (vs : List Value) (ts : List Str) (n : Nat) (v : Value) (t : Str) (T T' : Nat) (n1 : NamesIn w news vs ts) (hm : (l, ({ cls := .type "list", data := .seq vs.toArray n } : Obj)) ∈ news) (n2 : NameIn w news v t)
   (k1 : ∀ x ∈ vs, TokAt 1 T x) (k2 : TokAt T T' v) :
    Ct w 2 63 news [.ref l, v] (Int1 (ts.count t)) := by
  k_with_none
  k_with "compareOp Eq" => (k_here; (refine cmp_ofEq ?_); k_dflt (refine' cmp_use (name_eq _ ?n1 ?n2) ?k1 ?k2 ?k3 ?k4 ?k5 ?k6 ?k7 ?k8 ?_; (case n1 => assumption); (case n2 => assumption); (case k1 => k_asm); (case k2 => k_asm); (case k3 => k_asm); (case k4 => k_asm); (case k5 => k_asm); (case k6 => first | exact rfl | assumption); (case k7 => ktr_room); (case k8 => ktr_units); intro h9 tk9 F9 N9; (try dsimp only); (try k_sweep); (try k_fold)))
  k_with "compareOp Is" => (k_here; k_dflt (refine' is_names ?n1 ?n2 ?n3 ?n4 ?k1 ?k2 ?k3 ?_; (case n1 => assumption); (case n2 => assumption); (case n3 => assumption); (case n4 => assumption); (case k1 => k_asm); (case k2 => k_asm); (case k3 => k_asm); intro c9 hc9; (try dsimp only); (try k_fold)))
  k_with "exec For" => (k_here; refine For_start ?_)
  unfold Ct PG
  k_fill
  intro mean mg mb dp un gd cn cs a ccd cl outer A₀ base h₀ L m s Q E B F X N T₀ hk hd hu hret
  refine wpAny_call ?_
  k_dflt cell_enter
  conv in (execs _ _) => arg 1; whnf
  k_steps
  (rename Fr _ _ _ _ => lF); (rename News _ _ _ _ => lN)
  refine LoopIn.list (T := 0) (fun i m₁ nw => nw = news ∧ m₁ (Str.ofString "b") = some v ∧ ∃ u, m₁ (Str.ofString "count") = some (.int ((ts.take i).count t) u)) (by rfl) lF lN hm rfl rfl (Nat.zero_le _) ⟨rfl, by rfl, _, by rfl⟩ (fun i m nw j => j.1 ▸ hm) (by passes_own) ?_ ?_
  · rintro i x m₁ nw h₁ tk₁ I oI hx hT ⟨rfl, hb, u, hc⟩ off F₁ N₁
    have F₂ := fr_say (fr_say F₁ hb) ((if_neg (by decide)).trans hc)
    clear F₁ lF lN
    dsimp only [envOf] at F₂ N₁
    obtain ⟨y, hy, hn⟩ := n1.get (by simpa using hx)
    have kx := k1 x (List.mem_of_getElem? (by simpa using hx))
    have hn' := hn.mono (b := (I, oI) :: nw) fun p hp => .tail _ hp
    have n2' := n2.mono (b := (I, oI) :: nw) fun p hp => .tail _ hp
    have cs := count_step (t := t) hy
    k_steps
    all_goals (
      (rename Fr _ _ _ _ => lF); (rename News _ _ _ _ => lN)
      refine turn_next (news' := nw) lF lN (fun p hp q hq => by rw [List.mem_singleton.mp hq]; exact off p hp) ⟨rfl, by rfl, _, (congrArg (fun c => some (Value.int c _)) ?_)⟩)
    · have e9 : y = t := by
        rename _ = true → y = t => hc9
        exact hc9 (by assumption)
      rw [cs, if_pos e9]; rfl
    · have hy9 : (y == t) = true := by assumption
      rw [cs, if_pos (eq_of_beq hy9)]; rfl
    · have hy9 : (y == t) = false := by assumption
      rw [cs, if_neg (fun e => by rw [e, beq_self_eq_true] at hy9; cases hy9)]; rfl
  · rintro m₁ nw h₁ tk₁ hT ⟨rfl, hb, u, hc⟩ F₁ N₁
    have F₂ := fr_say (fr_say F₁ hb) ((if_neg (by decide)).trans hc)
    clear F₁ lF lN
    dsimp only [envOf] at F₂ N₁
    k_steps
    refine hret _ [] _ _ (by assumption) (by assumption) below0 ⟨rfl, u, ?_⟩
    rw [show vs.toArray.size = ts.length by simpa using n1.length, List.take_length]
end Mine
end
section
open PySem PySem.W PyProof.Rows PySem.Calls PySem.Flt
namespace Mine
section
variable {prog : Program} {w : World} {A : Around} {E : Value → Shared → Prop} {s : Shared} {env : Env} {h₀ : Heap} {body orelse : List Stmt} {Q : Flow → Shared → Prop}
theorem two_of_map {I K : Addr} : ∀ {fix : List (Addr × Obj)}, fix.map (·.1) = [I, K] → ∃ oI oK, fix = [(I, oI), (K, oK)]
  | [(a, o), (b, p)], h => ⟨o, p, by injection h with h h2; injection h2 with h2 _; rw [show a = I from h, show b = K from h2]⟩
  | [], h => by cases h
  | [_], h => by injection h with _ h; cases h
  | _ :: _ :: _ :: _, h => by injection h with _ h; injection h with _ h; cases h
theorem call_enum_T {l : Addr} {lo : Obj} {its : Array Value} {n : Nat} {elts : List Expr} {k : Nat} {pos : Pos} {m : Str → Option Value} {news : List (Addr × Obj)} (T : Nat) (J : Nat → (Str → Option Value) → List (Addr × Obj) → Prop)
    (hh : A.handled = none) (F : Fr h₀ env.locals s.heap m) (N : News h₀ env.locals s.heap news) (hm : (l, lo) ∈ news) (hc : lo.cls = .type "list") (hd : lo.data = .seq its n) (hT : TokLo T s.toks) (h0 : J 0 m news)
    (hkeep : ∀ i m news, J i m news → (l, lo) ∈ news) (hE : PassesOwn (model prog w) A env E)
    (turn : ∀ i v t D m₁ news₁ h₁ tk₁ I oI K oK, its[i]? = some v → TokLo T tk₁ → J i m₁ news₁ → IsTup h₁ D #[.int i t, v] → (∀ p ∈ news₁, @Ne Nat p.1 I ∧ @Ne Nat p.1 K) → Fr h₀ env.locals h₁ m₁ → News h₀ env.locals h₁ ((I, oI) :: (K, oK) :: news₁) →
      wpAny (model prog w) A (assign (.Tuple elts k pos) env (.ref D)) (fun _ s₂ => wpAny (model prog w) A (execs body env) (TurnQ h₀ env.locals T s [(I, oI), (K, oK)] (J (i + 1)) Q) E s₂) E { s with heap := h₁, toks := tk₁ })
    (fin : ∀ m₁ news₁ h₁ tk₁, TokLo T tk₁ → J its.size m₁ news₁ → Fr h₀ env.locals h₁ m₁ → News h₀ env.locals h₁ news₁ → wpAny (model prog w) A (execs orelse env) Q E { s with heap := h₁, toks := tk₁ }) :
    wpAny (model prog w) A (call (.type "enumerate") [.ref l]) (fun xv s₁ => LoopIn prog w A env (.Tuple elts k pos) body orelse Q E xv s₁) E s := by
  have hl : s.heap.IsList l its := ⟨lo, (N _ hm).1, hc, n, hd⟩
  have hlt : @LT.lt Nat _ l s.heap.objs.size := Heap.lt_size (N _ hm).1
  refine call_enumerate_list hl fun h' hE' hI' hsz hk => ?_
  refine wpAny_pyIter_enum hE' ?_
  refine LoopIn.gen (s := { s with heap := h' }) (KTurns.ofWalksU (WalksT.enumerate hh (s.heap.objs.size + 1) s.heap.objs.size l (Nat.succ_ne_self _) (ktu_ne 1 hlt) (Nat.ne_of_lt hlt) its).toU) [s.heap.objs.size + 1, s.heap.objs.size] [(l, lo)] T J
    (fun i h st => ?_) (fun b hb => ?_) (fun b hb => hb) (fun b hb => ?_) (fun i m nw j p hp => by rw [List.mem_singleton.mp hp]; exact hkeep i m nw j) hT ⟨⟨.none, hE'⟩, hI', hl.at fun o e => hk l o e⟩
    (F.keeps hk) (N.grown hk) (fun p hp hm => ?_) h0 hE (fun i v m₁ news₁ h₁ tk₁ fix a b c d e f g hN => ?_) (fun m₁ news₁ h₁ tk₁ a b c d => fin m₁ news₁ h₁ tk₁ a b c d)
  · obtain ⟨⟨old, he⟩, ⟨oi, hoi, hic, _⟩, _⟩ := st
    have he' : ∃ oe : Obj, h.get? (s.heap.objs.size + 1) = some oe ∧ oe.cls = .type "enumerate" := ⟨_, he, rfl⟩
    obtain ⟨oe, h1, h2⟩ := he'
    refine ⟨[(s.heap.objs.size + 1, oe), (s.heap.objs.size, oi)], rfl, fun p hp => ?_⟩
    rcases List.mem_cons.mp hp with rfl | hp
    · exact h1
    · rw [List.mem_singleton.mp hp]; exact hoi
  · rcases List.mem_cons.mp hb with rfl | hb
    · exact .inl (.head _)
    · rcases List.mem_cons.mp hb with rfl | hb
      · exact .inl (.tail _ (.head _))
      · rw [List.mem_singleton.mp hb]; exact .inr ⟨lo, .head _⟩
  · rcases List.mem_cons.mp hb with rfl | hb
    · exact next_new F (Nat.le_succ _)
    · rw [List.mem_singleton.mp hb]; exact next_new F (Nat.le_refl _)
  · have hlp := news_below N p hp
    rcases List.mem_cons.mp hm with e | hm
    · exact ktu_ne 1 hlp e
    · exact Nat.ne_of_lt hlp (List.mem_singleton.mp hm)
  · obtain ⟨D, vals, rfl, ⟨t, x, hx, rfl⟩, hT⟩ := b
    obtain ⟨oI, oK, rfl⟩ := two_of_map e
    exact turn i x t D m₁ news₁ h₁ tk₁ _ oI _ oK hx c d hT (fun p hp => ⟨f p hp _ (.head _), f p hp _ (.tail _ (.head _))⟩) g hN
end
/-- an int's token lies from lo on, below hi -/
noncomputable def TokI (lo hi : Nat) (v : Value) : Prop := ∀ a tk, v = .int a tk → lo ≤ tk ∧ tk < hi
theorem is_ints {prog : Program} {w : World} {a b : Int} {t u : Tok} {T T' : Nat} {A : Around} {E : Value → Shared → Prop} {s : Shared} {Q : Value → Shared → Prop} (k₁ : TokI 1 T (.int a t)) (k₂ : TokI T T' (.int b u)) (ha : smallInt a = true)
    (h : Q (.bool (a == b)) s) : wpAny (model prog w) A (compareOp .Is (.int a t) (.int b u)) Q E s := by
  obtain ⟨q1, q2⟩ := k₁ _ _ rfl
  obtain ⟨q3, _⟩ := k₂ _ _ rfl
  have q4 : @LT.lt Nat _ t u := Nat.lt_of_lt_of_le q2 q3
  have h0 : (t == 0 || u == 0) = false := by
    have e1 : (t == 0) = false := beq_eq_false_iff_ne.mpr (Nat.ne_of_gt q1)
    have e2 : (u == 0) = false := beq_eq_false_iff_ne.mpr (Nat.ne_of_gt (Nat.lt_of_le_of_lt (Nat.zero_le _) q4))
    rw [e1, e2]; rfl
  have h1 : (t == u) = false := beq_eq_false_iff_ne.mpr (Nat.ne_of_lt q4)
  show wpAny _ A (do return .bool (← isSame (.int a t) (.int b u))) Q E s
  refine wpAny_bind ?_
  unfold isSame
  dsimp only
  by_cases e : a = b
  · subst e
    rw [if_pos (by rw [beq_self_eq_true, ha]; rfl)]
    unfold isSame.cachedInt
    rw [if_neg (by rw [h0]; exact Bool.false_ne_true)]
    rw [beq_self_eq_true] at h
    exact wpAny_bind (wpAny_rule (wpAny_pure (wpAny_pure h)))
  · have e' : (a == b) = false := beq_eq_false_iff_ne.mpr e
    rw [if_neg (by rw [e']; exact Bool.false_ne_true)]
    unfold isSame.created
    rw [if_neg (by rw [h0]; exact Bool.false_ne_true), if_neg (by rw [h1]; exact Bool.false_ne_true), if_pos (by rw [e']; rfl)]
    rw [e'] at h
    exact wpAny_pure (wpAny_pure h)
end Mine
end
section
open PySem PySem.W PyProof.Rows PySem.Calls PySem.Flt
namespace Mine
theorem turn_ret {h₀ : Heap} {L : Addr} {T : Nat} {s s₃ : Shared} {fix : List (Addr × Obj)} {J : (Str → Option Value) → List (Addr × Obj) → Prop} {Q : Flow → Shared → Prop} {v : Value} (h : Q (.ret v) s₃) : TurnQ h₀ L T s fix J Q (.ret v) s₃ := h
theorem turn_next2 {h₀ h' : Heap} {L I K : Addr} {oI oK : Obj} {T tk : Nat} {s : Shared} {news' : List (Addr × Obj)} {J : (Str → Option Value) → List (Addr × Obj) → Prop} {Q : Flow → Shared → Prop} {m' : Str → Option Value} (F : Fr h₀ L h' m') (N : News h₀ L h' ((I, oI) :: (K, oK) :: news')) (o : ∀ p ∈ news', @Ne Nat p.1 I ∧ @Ne Nat p.1 K) (j : J m' news') :
    TurnQ h₀ L T s [(I, oI), (K, oK)] J Q .next { s with heap := h', toks := tk } := ⟨h', tk, m', news', rfl, F, N, fun p hp q hq => by
      rcases List.mem_cons.mp hq with rfl | hq
      · exact (o p hp).1
      · rw [List.mem_singleton.mp hq]; exact (o p hp).2, j⟩
theorem at_step {α : Type} {ts : List α} {i : Nat} {t y : α} (j : ∀ k, k < i → ts[k]? ≠ some t) (hy : ts[i]? = some y) (ne : y ≠ t) : ∀ k, k < i + 1 → ts[k]? ≠ some t := fun k hk => by
  by_cases h : k = i
  · subst h; rw [hy]; exact fun e => ne (by injection e)
  · exact j k (by omega)
set_option maxRecDepth 100000 in
set_option maxHeartbeats 2000000 in
theorem idx_ct (w : World) (news : List (Addr × Obj)) (l : Addr) (vs : List Value) (ts : List Str) (n : Nat) (v : Value) (t : Str) (T T' : Nat) (n1 : NamesIn w news vs ts) (hm : (l, ({ cls := .type "list", data := .seq vs.toArray n } : Obj)) ∈ news) (n2 : NameIn w news v t)
   (k1 : ∀ x ∈ vs, TokAt 1 T x) (k2 : TokAt T T' v) (hmem : t ∈ ts) :
    Ct w 2 70 news [.ref l, v] (fun r tl => tl = [] ∧ ∃ (i : Nat) (u : Tok), r = .int i u ∧ ts[i]? = some t) := by
  k_with_none
  k_with "compareOp Eq" => (k_here; (refine cmp_ofEq ?_); k_dflt (refine' cmp_use (name_eq _ ?n1 ?n2) ?k1 ?k2 ?k3 ?k4 ?k5 ?k6 ?k7 ?k8 ?_; (case n1 => assumption); (case n2 => assumption); (case k1 => k_asm); (case k2 => k_asm); (case k3 => k_asm); (case k4 => k_asm); (case k5 => k_asm); (case k6 => first | exact rfl | assumption); (case k7 => ktr_room); (case k8 => ktr_units); intro h9 tk9 F9 N9; (try dsimp only); (try k_sweep); (try k_fold)))
  k_with "compareOp Is" => (k_here; k_dflt (refine' is_names ?n1 ?n2 ?n3 ?n4 ?k1 ?k2 ?k3 ?_; (case n1 => assumption); (case n2 => assumption); (case n3 => assumption); (case n4 => assumption); (case k1 => k_asm); (case k2 => k_asm); (case k3 => k_asm); intro c9 hc9; (try dsimp only); (try k_fold)))
  k_with "compareOp Is int int" => (k_here; k_dflt (refine' is_ints ?n1 ?n2 ?n3 ?_; (case n1 => assumption); (case n2 => assumption); (case n3 => assumption); (try dsimp only); (try k_fold)))
  k_with "exec For" => (k_here; refine For_start ?_)
  k_with "call type:enumerate" => fail "here"
  unfold Ct PG
  k_fill
  intro mean mg mb dp un gd cn cs a ccd cl outer A₀ base h₀ L m s Q E B F X N T₀ hk hd hu hret
  refine wpAny_call ?_
  k_dflt cell_enter
  conv in (execs _ _) => arg 1; whnf
  k_steps
  (rename Fr _ _ _ _ => lF); (rename News _ _ _ _ => lN)
  refine call_enum_T (T := 0) (fun i m₁ nw => nw = news ∧ m₁ (Str.ofString "b") = some v ∧ ∀ k, k < i → ts[k]? ≠ some t) (by rfl) lF lN hm rfl rfl (Nat.zero_le _) ⟨rfl, by rfl, fun k hk => absurd hk (Nat.not_lt_zero _)⟩ (fun i m nw j => j.1 ▸ hm) (by passes_own) ?_ ?_
  · rintro i x ti D m₁ nw h₁ tk₁ I oI K oK hx hT ⟨rfl, hb, hj⟩ hD off F₁ N₁
    have F₂ := fr_say F₁ hb
    clear F₁ lF lN
    dsimp only [envOf] at F₂ N₁
    obtain ⟨y, hy, hn⟩ := n1.get (by simpa using hx)
    have kx := k1 x (List.mem_of_getElem? (by simpa using hx))
    have hn' := hn.mono (b := (I, oI) :: (K, oK) :: nw) fun p hp => .tail _ (.tail _ hp)
    have n2' := n2.mono (b := (I, oI) :: (K, oK) :: nw) fun p hp => .tail _ (.tail _ hp)
    have hT' := hD
    k_steps
    · have e9 : y = t := by
        rename _ = true → y = t => hc9
        exact hc9 (by assumption)
      refine turn_ret ?_
      dsimp (config := { zetaDelta := true }) only
      k_steps
      (rename News _ _ _ _ => lN)
      refine hret _ [] _ _ (by assumption) (fun p hp => lN p (.tail _ (.tail _ hp))) below0 ⟨rfl, i, _, rfl, e9 ▸ hy⟩
    · have hy9 : (y == t) = true := by assumption
      refine turn_ret ?_
      dsimp (config := { zetaDelta := true }) only
      k_steps
      (rename News _ _ _ _ => lN)
      refine hret _ [] _ _ (by assumption) (fun p hp => lN p (.tail _ (.tail _ hp))) below0 ⟨rfl, i, _, rfl, eq_of_beq hy9 ▸ hy⟩
    · have hy9 : (y == t) = false := by assumption
      (rename Fr _ _ _ _ => lF); (rename News _ _ _ _ => lN)
      exact turn_next2 (news' := nw) lF lN off ⟨rfl, by rfl, at_step hj hy fun e => by rw [e, beq_self_eq_true] at hy9; cases hy9⟩
  · rintro m₁ nw h₁ tk₁ hT ⟨rfl, hb, hj⟩ F₁ N₁
    exfalso
    obtain ⟨i, hi⟩ := List.mem_iff_getElem?.mp hmem
    refine hj i ?_ hi
    have : vs.toArray.size = ts.length := by simpa using n1.length
    rw [this]
    exact (List.getElem?_eq_some_iff.mp hi).1
set_option maxRecDepth 100000 in
set_option maxHeartbeats 2000000 in
theorem idx_int_ct (w : World) (news : List (Addr × Obj)) (l : Addr) (vs : List Value) (ts : List Int) (n : Nat) (b : Int) (u : Tok) (T T' : Nat) (n1 : IntsAre vs ts) (hm : (l, ({ cls := .type "list", data := .seq vs.toArray n } : Obj)) ∈ news)
   (hs : ∀ x ∈ ts, smallInt x = true) (k1 : ∀ x ∈ vs, TokI 1 T x) (k2 : TokI T T' (.int b u)) (hmem : b ∈ ts) :
    Ct w 2 70 news [.ref l, .int b u] (fun r tl => tl = [] ∧ ∃ (i : Nat) (u : Tok), r = .int i u ∧ ts[i]? = some b) := by
  k_with_none
  k_with "compareOp Eq" => (k_here; (refine cmp_ofEq ?_); k_dflt (refine' cmp_use (name_eq _ ?n1 ?n2) ?k1 ?k2 ?k3 ?k4 ?k5 ?k6 ?k7 ?k8 ?_; (case n1 => assumption); (case n2 => assumption); (case k1 => k_asm); (case k2 => k_asm); (case k3 => k_asm); (case k4 => k_asm); (case k5 => k_asm); (case k6 => first | exact rfl | assumption); (case k7 => ktr_room); (case k8 => ktr_units); intro h9 tk9 F9 N9; (try dsimp only); (try k_sweep); (try k_fold)))
  k_with "compareOp Is" => (k_here; k_dflt (refine' is_names ?n1 ?n2 ?n3 ?n4 ?k1 ?k2 ?k3 ?_; (case n1 => assumption); (case n2 => assumption); (case n3 => assumption); (case n4 => assumption); (case k1 => k_asm); (case k2 => k_asm); (case k3 => k_asm); intro c9 hc9; (try dsimp only); (try k_fold)))
  k_with "compareOp Is int int" => (k_here; k_dflt (refine' is_ints ?n1 ?n2 ?n3 ?_; (case n1 => assumption); (case n2 => assumption); (case n3 => assumption); (try dsimp only); (try k_fold)))
  k_with "exec For" => (k_here; refine For_start ?_)
  k_with "call type:enumerate" => fail "here"
  unfold Ct PG
  k_fill
  intro mean mg mb dp un gd cn cs a ccd cl outer A₀ base h₀ L m s Q E B F X N T₀ hk hd hu hret
  refine wpAny_call ?_
  k_dflt cell_enter
  conv in (execs _ _) => arg 1; whnf
  k_steps
  (rename Fr _ _ _ _ => lF); (rename News _ _ _ _ => lN)
  refine call_enum_T (T := 0) (fun i m₁ nw => nw = news ∧ m₁ (Str.ofString "b") = some (.int b u) ∧ ∀ k, k < i → ts[k]? ≠ some b) (by rfl) lF lN hm rfl rfl (Nat.zero_le _) ⟨rfl, by rfl, fun k hk => absurd hk (Nat.not_lt_zero _)⟩ (fun i m nw j => j.1 ▸ hm) (by passes_own) ?_ ?_
  · rintro i x ti D m₁ nw h₁ tk₁ I oI K oK hx hT ⟨rfl, hb, hj⟩ hD off F₁ N₁
    have F₂ := fr_say F₁ hb
    clear F₁ lF lN
    dsimp only [envOf] at F₂ N₁
    have hx' : vs[i]? = some x := by simpa using hx
    have hil : i < ts.length := by rw [← n1.length]; exact (List.getElem?_eq_some_iff.mp hx').1
    obtain ⟨tx, hxx⟩ := n1.get i ts[i] (by simp [hil])
    have ex : x = .int ts[i] tx := by rw [hx'] at hxx; injection hxx
    have hy : ts[i]? = some ts[i] := by simp [hil]
    have kx := k1 x (List.mem_of_getElem? hx')
    have ks := hs _ (List.getElem_mem hil)
    generalize ts[i] = y at *
    subst ex
    have hT' := hD
    k_steps
    · have hy9 : (y == b) = true := by first | assumption | (rw [show y = b by assumption]; exact beq_self_eq_true _)
      refine turn_ret ?_
      dsimp (config := { zetaDelta := true }) only
      k_steps
      (rename News _ _ _ _ => lN)
      refine hret _ [] _ _ (by assumption) (fun p hp => lN p (.tail _ (.tail _ hp))) below0 ⟨rfl, i, _, rfl, eq_of_beq hy9 ▸ hy⟩
    · exact absurd (show y = b by assumption) (show y ≠ b by assumption)
    · have hy9 : (y == b) = false := beq_eq_false_iff_ne.mpr (by assumption)
      (rename Fr _ _ _ _ => lF); (rename News _ _ _ _ => lN)
      exact turn_next2 (news' := nw) lF lN off ⟨rfl, by rfl, at_step hj hy fun e => by rw [e, beq_self_eq_true] at hy9; cases hy9⟩
  · rintro m₁ nw h₁ tk₁ hT ⟨rfl, hb, hj⟩ F₁ N₁
    exfalso
    obtain ⟨i, hi⟩ := List.mem_iff_getElem?.mp hmem
    refine hj i ?_ hi
    have : vs.toArray.size = ts.length := by simpa using n1.length
    rw [this]
    exact (List.getElem?_eq_some_iff.mp hi).1
end Mine
end
section
open PySem PySem.W PyProof.Rows PySem.Calls PySem.Flt
namespace Mine
open LCg (lst lst_snoc NsObj ns_obj)
/-- what holds ahead of the i-th test of a comprehension -/
inductive BlkT (s : Shared) (h₀ : Heap) (L I C D : Addr) (m : Str → Option Value) (n T : Nat) (St : Nat → Heap → Prop) (J : Nat → List Value → List (Addr × Obj) → Nat → Prop) (k : Nat) (s' : Shared) : Prop
  | mk (i : Nat) (h : Heap) (tk : Nat) (ys : List Value) (m' : Str → Option Value) (nw : List (Addr × Obj)) (hi : i ≤ n) (hk : k = n + 1 - i) (hs : s' = { s with heap := h, toks := tk }) (ht : T ≤ tk) (st : St i h) (F : Fr h₀ L h m) (hn : h.Ns C m')
    (hD : h.get? D = some (lst ys)) (hyl : ys.length = i) (N : News h₀ L h nw) (off : ∀ p ∈ nw, @Ne Nat p.1 I ∧ @Ne Nat p.1 C ∧ @Ne Nat p.1 D) (j : J i ys nw tk)
theorem if_tt {p q : Prop} (h : p) : (if true = true then p else q) := h
section
variable {prog : Program} {w : World} {A : Around} {E : Value → Shared → Prop} {env : Env} {h₀ : Heap} {L : Addr} {m : Str → Option Value}
/-- how an element of a comprehension ends -/
noncomputable def EltT (h₀ : Heap) (L : Addr) (m : Str → Option Value) (s : Shared) (lo : Nat) (own : List (Addr × Obj)) (J : Value → List (Addr × Obj) → Nat → Prop) (y : Value) (s₃ : Shared) : Prop :=
  ∃ h' tk news', s₃ = { s with heap := h', toks := tk } ∧ Fr h₀ L h' m ∧ News h₀ L h' (own ++ news') ∧ (∀ p ∈ news', ∀ q ∈ own, @Ne Nat p.1 q.1) ∧ (lo ≤ tk → J y news' tk)
theorem block_T {elt iter : Expr} {x : Str} {px : Pos} {scope : Scope} {cl : List (Str × Addr)} {pos : Pos} {s : Shared} {I : Addr} {fp : List Addr} {n : Nat} {P : Nat → Value → Prop} {St : Nat → Heap → Prop} {news : List (Addr × Obj)} {RR : Value → Addr → Result → Shared → Prop}
    (W : Walks prog w A I fp [I] n P St) (hsz : n ≤ sizeLine) (keep : List (Addr × Obj)) (T : Nat) (J : Nat → List Value → List (Addr × Obj) → Nat → Prop)
    (hobj : ∀ i h, St i h → ∃ o, h.get? I = some o) (hfp : ∀ b ∈ fp, b = I ∨ ∃ o, (b, o) ∈ keep) (hlt : ∀ b ∈ fp, b < s.heap.objs.size) (hI : I ≠ L ∧ h₀.get? I = none)
    (hkeep : ∀ i ys nw tk, J i ys nw tk → ∀ p ∈ keep, p ∈ nw) (hmono : ∀ i ys nw tk tk', J i ys nw tk → tk ≤ tk' → J i ys nw tk')
    (hcell : ∀ y ∈ scope.names, y.2 ≠ .cell) (hkind : scope.kind = .function) (hx : scope.names.lookup x = some .local)
    (hT : TokLo T s.toks) (hst : St 0 s.heap) (F : Fr h₀ L s.heap m) (N : News h₀ L s.heap news) (off : ∀ p ∈ news, p.1 ≠ I) (h0 : J 0 [] news s.toks)
    (turn : ∀ i v ys m₂ news₁ h₁ tk₁ oI C oC D (E' : Value → Shared → Prop), i < n → P i v → TokLo T tk₁ → J i ys news₁ tk₁ → ys.length = i → NsObj oC m₂ → m₂ x = some v → (∀ p ∈ news₁, @Ne Nat p.1 I ∧ @Ne Nat p.1 C ∧ @Ne Nat p.1 D) → @Ne Nat I C → @Ne Nat I D → @Ne Nat C D →
      Fr h₀ L h₁ m → News h₀ L h₁ ((I, oI) :: (C, oC) :: (D, lst ys) :: news₁) →
      wpAny (model prog w) A (eval elt (compEnvC scope cl C env)) (EltT h₀ L m s tk₁ [(I, oI), (C, oC), (D, lst ys)] (fun y nw tk => J (i + 1) (ys ++ [y]) nw tk)) E' { s with heap := h₁, toks := tk₁ })
    (hend : ∀ D C h tk m' ys nw, TokLo T tk → J n ys nw tk → ys.length = n → (∀ p ∈ nw, @Ne Nat p.1 D ∧ @Ne Nat p.1 C) → @Ne Nat C D → C ≠ L → h₀.get? C = none → h.Ns C m' → Fr h₀ L h m → News h₀ L h ((D, lst ys) :: nw) → RR (.ref D) C (.ok .next) { s with heap := h, toks := tk }) :
    wpAny (model prog w) A (newList []) (fun acc s₃ => wpAny (model prog w) A (newFunctionEnv scope env.globals cl [] env.qual none .none (some env)) (fun cenv s₄ =>
      codeAny (model prog w) A (.compStart (.ListComp elt [⟨.Name x px, iter, [], 0⟩] scope pos) 0 (.ref I) acc { cenv with scope := relabel scope env }) (RR acc cenv.locals) s₄) E s₃) E s := by
  refine wpAny_newObj_type (wpAny_newFunctionEnv hcell (by intro y hy; simp at hy) (fun h₁ hns₁ hsb₁ => ?_) hkind)
  dsimp only at hns₁ hsb₁ ⊢
  generalize hH2 : s.heap.push { cls := .type "list", dict := none, data := .seq ([] : List Value).toArray } = H2 at hns₁ hsb₁ ⊢
  generalize hDd : s.heap.objs.size = D at *
  generalize hCd : H2.objs.size = C at *
  have hC : C = D + 1 := by rw [← hCd, ← hH2, Heap.size_push, hDd]
  have old : ∀ b o, s.heap.get? b = some o → h₁.get? b = some o := fun b o e => hsb₁.extBut b o (by
    have := Heap.lt_size e
    rw [hDd] at this
    intro q
    have q' : b = C := q
    rw [q', hC] at this
    exact Nat.lt_irrefl _ (Nat.lt_of_succ_lt this)) (Heap.get?_push_of_some _ (hH2 ▸ Heap.get?_push_of_some _ e))
  have hDC : @Ne Nat D C := by rw [hC]; exact Nat.ne_of_lt (Nat.lt_succ_self _)
  have hacc : h₁.get? D = some (lst []) := hsb₁.extBut _ _ hDC (Heap.get?_push_of_some _ (hH2 ▸ hDd ▸ Heap.get?_push_size _ rfl))
  have hIf : I ∈ fp := W.sub I (List.mem_singleton.mpr rfl)
  have fD : D ≠ L ∧ h₀.get? D = none := next_new F (Nat.le_of_eq hDd)
  have fC : C ≠ L ∧ h₀.get? C = none := next_new F (by rw [hDd, hC]; exact Nat.le_succ _)
  have below : ∀ b, @LT.lt Nat _ b D → @Ne Nat b C ∧ @Ne Nat b D := fun b hb => ⟨by rw [hC]; exact Nat.ne_of_lt (Nat.lt_succ_of_lt hb), Nat.ne_of_lt hb⟩
  have hIC := (below I (hlt I hIf)).1
  have hID := (below I (hlt I hIf)).2
  have hcenv : (compEnvC scope cl C env).locals = C := rfl
  have loop : ∀ s₃ : Shared, s₃ = { s with heap := h₁, toks := s.toks + ([] : List (Str × Value)).length } →
      codeAny (model prog w) A (.compLoop (.ListComp elt [⟨.Name x px, iter, [], 0⟩] scope pos) 0 (.ref I) (.ref D) (compEnvC scope cl C env)) (RR (.ref D) C) s₃ := by
    rintro s₃ rfl
    refine codeAny_compLoop_tests (BlkT s h₀ L I C D m n T St J) ?_ (n + 1)
      ⟨0, h₁, _, [], _, news, Nat.zero_le _, rfl, rfl, hT, W.frame _ _ _ hst fun b _ o e => old b o e, F.keeps old, hns₁, hacc, rfl, N.grown old, fun p hp => ⟨off p hp, below _ (hDd ▸ news_below N p hp)⟩, h0⟩
    rintro k s' ⟨i, h, tk, ys, m', nw, hi, rfl, rfl, ht, st, F', hn, hD, hyl, N', off', j⟩
    have offF : ∀ {h' : Heap}, (∀ b o, b ∉ [I] → h.get? b = some o → h'.get? b = some o) → Fr h₀ L h' m := fun hk => LCg.fr_but F' hk (Ne.symm hI.1) hI.2
    have offN : ∀ {h' : Heap}, (∀ b o, b ∉ [I] → h.get? b = some o → h'.get? b = some o) → News h₀ L h' nw := fun hk => LCg.news_but N' hk fun p hp => (off' p hp).1
    have offG : ∀ {h' : Heap} {b : Addr} {o : Obj}, (∀ b o, b ∉ [I] → h.get? b = some o → h'.get? b = some o) → @Ne Nat I b → h.get? b = some o → h'.get? b = some o := fun hk ne e => hk _ _ (fun hm => ne (List.mem_singleton.mp hm).symm) e
    refine wpAny_with_toks (n := tk) (Nat.le_refl tk) ?_
    by_cases hlt' : i < n
    · refine W.item i _ _ _ hlt' st fun v h₂ tk₂ hPv st₂ hk₂ ht₂ => ?_
      have hn₂ := hn.at' fun o e => offG hk₂ hIC e
      refine wpAny_assign_Name (wpAny_storeName_local (lookup_relabel_local hx) hn₂ (fun h₃ hn₃ hs₃ => ?_) (by simp [compEnvC, relabel, hkind]))
      refine wpAny_tests_nil ?_
      refine if_tt ?_
      have notC : ∀ b o, @Ne Nat b C → h₂.get? b = some o → h₃.get? b = some o := fun b o ne e => hs₃.extBut b o ne e
      have st₃ : St (i + 1) h₃ := W.frame _ _ _ st₂ fun b hb o e => notC b o (below b (hlt b hb)).1 e
      obtain ⟨oI, heI⟩ := hobj _ _ st₃
      obtain ⟨oC, heC, hoC⟩ := ns_obj hn₃
      have F₃ : Fr h₀ L h₃ m := (offF hk₂).change hs₃ fC.1 fC.2
      have N₃ : News h₀ L h₃ nw := fun p hp => ⟨notC _ _ (off' p hp).2.1 (offN hk₂ p hp).1, (offN hk₂ p hp).2⟩
      have Nx : News h₀ L h₃ ((I, oI) :: (C, oC) :: (D, lst ys) :: nw) := fun p hp => by
        rcases List.mem_cons.mp hp with rfl | hp
        · exact ⟨heI, hI⟩
        rcases List.mem_cons.mp hp with rfl | hp
        · exact ⟨heC, fC⟩
        rcases List.mem_cons.mp hp with rfl | hp
        · exact ⟨notC _ _ hDC (offG hk₂ hID hD), fD⟩
        · exact N₃ p hp
      replace ht₂ : tk ≤ tk₂ + 1 := Nat.le_succ_of_le ht₂
      refine wpAny_with_toks (n := tk₂ + 1) (Nat.le_refl (tk₂ + 1)) ?_
      refine wpAny_mono (turn i v ys _ nw h₃ (tk₂ + 1) oI C oC D _ hlt' hPv (Nat.le_trans ht ht₂) (hmono _ _ _ _ _ j ht₂) hyl hoC (by simp) off' hIC hID (Ne.symm hDC) F₃ Nx) (fun y s₄ h₄ t₄ => ?_) fun _ _ e _ => e
      obtain ⟨h₄, tk₄, nw₄, rfl, F₄, N₄, o₄, j₄⟩ := h₄
      replace j₄ := j₄ t₄
      have gI := (N₄ (I, oI) (.head _)).1
      have gC := (N₄ (C, oC) (.tail _ (.head _))).1
      have gD := (N₄ (D, lst ys) (.tail _ (.tail _ (.head _)))).1
      have Nn : News h₀ L h₄ nw₄ := fun p hp => N₄ p (.tail _ (.tail _ (.tail _ hp)))
      have st₄ : St (i + 1) h₄ := W.frame _ _ _ st₃ fun b hb o e => by
        rcases hfp b hb with rfl | ⟨o', hk'⟩
        · rw [heI] at e
          rw [← Option.some.inj e]; exact gI
        · have h1 := (N₃ _ (hkeep _ _ _ _ j _ hk')).1
          have h1' : h₃.get? b = some o' := h1
          rw [h1'] at e
          rw [← Option.some.inj e]
          exact (Nn _ (hkeep _ _ _ _ j₄ _ hk')).1
      refine append_at (hsz := by show ys.toArray.size ≤ sizeLine; rw [List.size_toArray, hyl]; exact Nat.le_trans hi hsz) gD fun h₅ hs₅ hD₅ => ?_
      have notD : ∀ b o, @Ne Nat b D → h₄.get? b = some o → h₅.get? b = some o := fun b o ne e => hs₅.extBut b o ne e
      refine ⟨n + 1 - (i + 1), by omega, i + 1, h₅, tk₄, ys ++ [y], _, nw₄, hlt', rfl, rfl, Nat.le_trans (Nat.le_trans ht ht₂) t₄, W.frame _ _ _ st₄ fun b hb o e => notD b o (below b (hlt b hb)).2 e, F₄.change hs₅ fD.1 fD.2,
        (hoC.ns gC).sameBut hs₅ (Ne.symm hDC), hD₅.trans (congrArg some (lst_snoc ys y)), by rw [List.length_append, List.length_singleton, hyl], fun p hp => ⟨notD _ _ (o₄ p hp _ (.tail _ (.tail _ (.head _)))) (Nn p hp).1, (Nn p hp).2⟩,
        fun p hp => ⟨o₄ p hp _ (.head _), o₄ p hp _ (.tail _ (.head _)), o₄ p hp _ (.tail _ (.tail _ (.head _)))⟩, j₄⟩
    · obtain rfl : i = n := Nat.le_antisymm hi (Nat.not_lt.mp hlt')
      refine W.done _ _ _ st fun h₂ tk₂ hk₂ ht₂ => ?_
      refine hend D C h₂ tk₂ m' ys nw (Nat.le_trans ht ht₂) (hmono _ _ _ _ _ j ht₂) hyl (fun p hp => ⟨(off' p hp).2.2, (off' p hp).2.1⟩) (Ne.symm hDC) fC.1 fC.2 (hn.at' fun o e => offG hk₂ hIC e) (offF hk₂) fun p hp => ?_
      rcases List.mem_cons.mp hp with rfl | hp
      · exact ⟨offG hk₂ hID hD, fD⟩
      · exact offN hk₂ p hp
  refine codeAny_compStart_list (loop _ rfl) (W.self 0 _ _ _ (W.frame _ _ _ hst fun b _ o e => old b o e) (loop _ rfl))
end
end Mine
end
section
open PySem PySem.W PyProof.Rows PySem.Calls PySem.Flt
namespace Mine
open LCg (lst lst_snoc NsObj ns_obj)
/-- what holds ahead of the i-th test of a comprehension whose target is a cell -/
inductive BlkC (s : Shared) (h₀ : Heap) (L I C K D : Addr) (m : Str → Option Value) (n T : Nat) (St : Nat → Heap → Prop) (J : Nat → List Value → List (Addr × Obj) → Nat → Prop) (k : Nat) (s' : Shared) : Prop
  | mk (i : Nat) (h : Heap) (tk : Nat) (ys : List Value) (m' : Str → Option Value) (v₀ : Option Value) (nw : List (Addr × Obj)) (hi : i ≤ n) (hk : k = n + 1 - i) (hs : s' = { s with heap := h, toks := tk }) (ht : T ≤ tk) (st : St i h) (F : Fr h₀ L h m) (hn : h.Ns C m') (hK : h.IsCell K v₀)
    (hD : h.get? D = some (lst ys)) (hyl : ys.length = i) (N : News h₀ L h nw) (off : ∀ p ∈ nw, @Ne Nat p.1 I ∧ @Ne Nat p.1 C ∧ @Ne Nat p.1 K ∧ @Ne Nat p.1 D) (j : J i ys nw tk)
section
variable {prog : Program} {w : World} {A : Around} {E : Value → Shared → Prop} {env : Env} {h₀ : Heap} {L : Addr} {m : Str → Option Value}
theorem isCell_at {h h' : Heap} {c : Addr} {v : Option Value} (H : h.IsCell c v) (k : ∀ o, h.get? c = some o → h'.get? c = some o) : h'.IsCell c v := by
  obtain ⟨o, e, d⟩ := H
  exact ⟨o, k _ e, d⟩
theorem block_TC {elt iter : Expr} {x : Str} {px : Pos} {scope : Scope} {cl : List (Str × Addr)} {pos : Pos} {s : Shared} {I : Addr} {fp : List Addr} {n : Nat} {P : Nat → Value → Prop} {St : Nat → Heap → Prop} {news : List (Addr × Obj)} {RR : Value → Addr → Result → Shared → Prop}
    (W : Walks prog w A I fp [I] n P St) (hsz : n ≤ sizeLine) (keep : List (Addr × Obj)) (T : Nat) (J : Nat → List Value → List (Addr × Obj) → Nat → Prop)
    (hobj : ∀ i h, St i h → ∃ o, h.get? I = some o) (hfp : ∀ b ∈ fp, b = I ∨ ∃ o, (b, o) ∈ keep) (hlt : ∀ b ∈ fp, b < s.heap.objs.size) (hI : I ≠ L ∧ h₀.get? I = none)
    (hkeep : ∀ i ys nw tk, J i ys nw tk → ∀ p ∈ keep, p ∈ nw) (hmono : ∀ i ys nw tk tk', J i ys nw tk → tk ≤ tk' → J i ys nw tk')
    (hcf : ∀ n acc, cellsFrom n scope.names acc = (x, n) :: acc) (hpc : ∀ h, pushCells h scope.names = h.push { cls := .type "cell", data := .cell none }) (hkind : scope.kind = .function) (hx : ∀ K C, (compEnvC scope ((x, K) :: cl) C env).kindOf x = some .cell)
    (hT : TokLo T s.toks) (hst : St 0 s.heap) (F : Fr h₀ L s.heap m) (N : News h₀ L s.heap news) (off : ∀ p ∈ news, p.1 ≠ I) (h0 : J 0 [] news s.toks)
    (turn : ∀ i v ys news₁ h₁ tk₁ oI C oC K oK D (E' : Value → Shared → Prop), i < n → P i v → TokLo T tk₁ → J i ys news₁ tk₁ → ys.length = i → oK.data = .cell (some v) → (∀ p ∈ news₁, @Ne Nat p.1 I ∧ @Ne Nat p.1 C ∧ @Ne Nat p.1 K ∧ @Ne Nat p.1 D) → (@Ne Nat I C ∧ @Ne Nat I K ∧ @Ne Nat I D ∧ @Ne Nat C K ∧ @Ne Nat C D ∧ @Ne Nat K D) →
      Fr h₀ L h₁ m → News h₀ L h₁ ((I, oI) :: (C, oC) :: (K, oK) :: (D, lst ys) :: news₁) →
      wpAny (model prog w) A (eval elt (compEnvC scope ((x, K) :: cl) C env)) (EltT h₀ L m s tk₁ [(I, oI), (C, oC), (K, oK), (D, lst ys)] (fun y nw tk => J (i + 1) (ys ++ [y]) nw tk)) E' { s with heap := h₁, toks := tk₁ })
    (hend : ∀ D C h tk m' ys nw, TokLo T tk → J n ys nw tk → ys.length = n → (∀ p ∈ nw, @Ne Nat p.1 D ∧ @Ne Nat p.1 C) → @Ne Nat C D → C ≠ L → h₀.get? C = none → h.Ns C m' → Fr h₀ L h m → News h₀ L h ((D, lst ys) :: nw) → RR (.ref D) C (.ok .next) { s with heap := h, toks := tk }) :
    wpAny (model prog w) A (newList []) (fun acc s₃ => wpAny (model prog w) A (newFunctionEnv scope env.globals cl [] env.qual none .none (some env)) (fun cenv s₄ =>
      codeAny (model prog w) A (.compStart (.ListComp elt [⟨.Name x px, iter, [], 0⟩] scope pos) 0 (.ref I) acc { cenv with scope := relabel scope env }) (RR acc cenv.locals) s₄) E s₃) E s := by
  refine wpAny_newObj_type ?_
  simp only [newFunctionEnv, Option.isSome_some, if_true]
  generalize hH2 : s.heap.push { cls := .type "list", dict := none, data := .seq ([] : List Value).toArray } = H2
  refine wpAny_bind (wpAny_alloc ?_)
  refine wpAny_bind (wpAny_layCells _ (fun name kind cells => by cases hkc : kind == NameKind.cell <;> simp [hkc]) _ _ _ _ ?_)
  refine wpAny_bind (wpAny_pure (wpAny_pure ?_))
  dsimp only
  rw [hcf, hpc, Heap.size_push]
  generalize hDd : s.heap.objs.size = D at *
  generalize hCd : H2.objs.size = C at *
  have hC : C = D + 1 := by rw [← hCd, ← hH2, Heap.size_push, hDd]
  generalize hh₁ : (H2.push { cls := .type "dict", data := .dict #[] }).push { cls := .type "cell", data := .cell none } = h₁ at *
  have hold2 : ∀ b o, H2.get? b = some o → h₁.get? b = some o := fun b o e => hh₁ ▸ Heap.get?_push_of_some _ (Heap.get?_push_of_some _ e)
  have old : ∀ b o, s.heap.get? b = some o → h₁.get? b = some o := fun b o e => hold2 b o (hH2 ▸ Heap.get?_push_of_some _ e)
  have hns₁ : h₁.Ns C (fun _ => none) := by
    rw [← hh₁, ← hCd]
    exact (Heap.Ns.new H2 (.type "dict")).keeps (fun b o e => Heap.get?_push_of_some _ e)
  have hsz1 : (H2.push { cls := .type "dict", data := .dict #[] }).objs.size = C + 1 := by rw [Heap.size_push, hCd]
  have hcl₁ : h₁.IsCell (C + 1) none := by
    refine ⟨{ cls := .type "cell", data := .cell none }, ?_, rfl⟩
    rw [← hh₁, ← hsz1]
    exact Heap.get?_push_size _ rfl
  generalize hKd : C + 1 = K at *
  have hDC : @Ne Nat D C := by rw [hC]; exact Nat.ne_of_lt (Nat.lt_succ_self _)
  have hDK : @Ne Nat D K := by rw [← hKd, hC]; exact Nat.ne_of_lt (Nat.lt_succ_of_lt (Nat.lt_succ_self _))
  have hCK : @Ne Nat C K := by rw [← hKd]; exact Nat.ne_of_lt (Nat.lt_succ_self _)
  have hacc : h₁.get? D = some (lst []) := hold2 _ _ (hH2 ▸ hDd ▸ Heap.get?_push_size _ rfl)
  have hIf : I ∈ fp := W.sub I (List.mem_singleton.mpr rfl)
  have fD : D ≠ L ∧ h₀.get? D = none := next_new F (Nat.le_of_eq hDd)
  have fC : C ≠ L ∧ h₀.get? C = none := next_new F (by rw [hDd, hC]; exact Nat.le_succ _)
  have fK : K ≠ L ∧ h₀.get? K = none := next_new F (by rw [hDd, ← hKd, hC]; exact Nat.le_succ_of_le (Nat.le_succ _))
  have below : ∀ b, @LT.lt Nat _ b D → @Ne Nat b C ∧ @Ne Nat b K ∧ @Ne Nat b D := fun b hb => ⟨by rw [hC]; exact Nat.ne_of_lt (Nat.lt_succ_of_lt hb), by rw [← hKd, hC]; exact Nat.ne_of_lt (Nat.lt_succ_of_lt (Nat.lt_succ_of_lt hb)), Nat.ne_of_lt hb⟩
  have hIC := (below I (hlt I hIf)).1
  have hIK := (below I (hlt I hIf)).2.1
  have hID := (below I (hlt I hIf)).2.2
  have loop : ∀ s₃ : Shared, s₃ = { s with heap := h₁ } →
      codeAny (model prog w) A (.compLoop (.ListComp elt [⟨.Name x px, iter, [], 0⟩] scope pos) 0 (.ref I) (.ref D) (compEnvC scope ((x, K) :: cl) C env)) (RR (.ref D) C) s₃ := by
    rintro s₃ rfl
    refine codeAny_compLoop_tests (BlkC s h₀ L I C K D m n T St J) ?_ (n + 1)
      ⟨0, h₁, s.toks, [], _, none, news, Nat.zero_le _, rfl, rfl, hT, W.frame _ _ _ hst fun b _ o e => old b o e, F.keeps old, hns₁, hcl₁, hacc, rfl, N.grown old, fun p hp => ⟨off p hp, below _ (hDd ▸ news_below N p hp)⟩, h0⟩
    rintro k s' ⟨i, h, tk, ys, m', v₀, nw, hi, rfl, rfl, ht, st, F', hn, hK, hD, hyl, N', off', j⟩
    have offF : ∀ {h' : Heap}, (∀ b o, b ∉ [I] → h.get? b = some o → h'.get? b = some o) → Fr h₀ L h' m := fun hk => LCg.fr_but F' hk (Ne.symm hI.1) hI.2
    have offN : ∀ {h' : Heap}, (∀ b o, b ∉ [I] → h.get? b = some o → h'.get? b = some o) → News h₀ L h' nw := fun hk => LCg.news_but N' hk fun p hp => (off' p hp).1
    have offG : ∀ {h' : Heap} {b : Addr} {o : Obj}, (∀ b o, b ∉ [I] → h.get? b = some o → h'.get? b = some o) → @Ne Nat I b → h.get? b = some o → h'.get? b = some o := fun hk ne e => hk _ _ (fun hm => ne (List.mem_singleton.mp hm).symm) e
    refine wpAny_with_toks (n := tk) (Nat.le_refl tk) ?_
    by_cases hlt' : i < n
    · refine W.item i _ _ _ hlt' st fun v h₂ tk₂ hPv st₂ hk₂ ht₂ => ?_
      have hn₂ := hn.at' fun o e => offG hk₂ hIC e
      have hK₂ := isCell_at hK fun o e => offG hk₂ hIK e
      refine wpAny_assign_Name (wpAny_storeName_cell (c := K) (by simp [compEnvC, relabel, hkind]) (hx K C) (by simp [compEnvC]) hK₂ (fun h₃ hK₃ hs₃ => ?_))
      refine wpAny_tests_nil ?_
      refine if_tt ?_
      have notK : ∀ b o, @Ne Nat b K → h₂.get? b = some o → h₃.get? b = some o := fun b o ne e => hs₃.extBut b o ne e
      have st₃ : St (i + 1) h₃ := W.frame _ _ _ st₂ fun b hb o e => notK b o (below b (hlt b hb)).2.1 e
      obtain ⟨oI, heI⟩ := hobj _ _ st₃
      have hn₃ := hn₂.at' fun o e => notK _ o hCK e
      obtain ⟨oC, heC, hoC⟩ := ns_obj hn₃
      obtain ⟨oK, heK, hoK⟩ := hK₃
      have F₃ : Fr h₀ L h₃ m := (offF hk₂).change hs₃ fK.1 fK.2
      have N₃ : News h₀ L h₃ nw := fun p hp => ⟨notK _ _ (off' p hp).2.2.1 (offN hk₂ p hp).1, (offN hk₂ p hp).2⟩
      have Nx : News h₀ L h₃ ((I, oI) :: (C, oC) :: (K, oK) :: (D, lst ys) :: nw) := fun p hp => by
        rcases List.mem_cons.mp hp with rfl | hp
        · exact ⟨heI, hI⟩
        rcases List.mem_cons.mp hp with rfl | hp
        · exact ⟨heC, fC⟩
        rcases List.mem_cons.mp hp with rfl | hp
        · exact ⟨heK, fK⟩
        rcases List.mem_cons.mp hp with rfl | hp
        · exact ⟨notK _ _ hDK (offG hk₂ hID hD), fD⟩
        · exact N₃ p hp
      refine wpAny_with_toks (n := tk₂) (Nat.le_refl tk₂) ?_
      refine wpAny_mono (turn i v ys nw h₃ tk₂ oI C oC K oK D _ hlt' hPv (Nat.le_trans ht ht₂) (hmono _ _ _ _ _ j ht₂) hyl hoK off' ⟨hIC, hIK, hID, hCK, Ne.symm hDC, Ne.symm hDK⟩ F₃ Nx) (fun y s₄ h₄ t₄ => ?_) fun _ _ e _ => e
      obtain ⟨h₄, tk₄, nw₄, rfl, F₄, N₄, o₄, j₄⟩ := h₄
      replace j₄ := j₄ t₄
      have gI := (N₄ (I, oI) (.head _)).1
      have gC := (N₄ (C, oC) (.tail _ (.head _))).1
      have gK := (N₄ (K, oK) (.tail _ (.tail _ (.head _)))).1
      have gD := (N₄ (D, lst ys) (.tail _ (.tail _ (.tail _ (.head _))))).1
      have Nn : News h₀ L h₄ nw₄ := fun p hp => N₄ p (.tail _ (.tail _ (.tail _ (.tail _ hp))))
      have st₄ : St (i + 1) h₄ := W.frame _ _ _ st₃ fun b hb o e => by
        rcases hfp b hb with rfl | ⟨o', hk'⟩
        · rw [heI] at e
          rw [← Option.some.inj e]; exact gI
        · have h1 := (N₃ _ (hkeep _ _ _ _ j _ hk')).1
          have h1' : h₃.get? b = some o' := h1
          rw [h1'] at e
          rw [← Option.some.inj e]
          exact (Nn _ (hkeep _ _ _ _ j₄ _ hk')).1
      refine append_at (hsz := by show ys.toArray.size ≤ sizeLine; rw [List.size_toArray, hyl]; exact Nat.le_trans hi hsz) gD fun h₅ hs₅ hD₅ => ?_
      have notD : ∀ b o, @Ne Nat b D → h₄.get? b = some o → h₅.get? b = some o := fun b o ne e => hs₅.extBut b o ne e
      refine ⟨n + 1 - (i + 1), by omega, i + 1, h₅, tk₄, ys ++ [y], _, some v, nw₄, hlt', rfl, rfl, Nat.le_trans (Nat.le_trans ht ht₂) t₄, W.frame _ _ _ st₄ fun b hb o e => notD b o (below b (hlt b hb)).2.2 e, F₄.change hs₅ fD.1 fD.2,
        (hoC.ns gC).sameBut hs₅ (Ne.symm hDC), ⟨oK, notD _ _ (Ne.symm hDK) gK, hoK⟩, hD₅.trans (congrArg some (lst_snoc ys y)), by rw [List.length_append, List.length_singleton, hyl], fun p hp => ⟨notD _ _ (o₄ p hp _ (.tail _ (.tail _ (.tail _ (.head _))))) (Nn p hp).1, (Nn p hp).2⟩,
        fun p hp => ⟨o₄ p hp _ (.head _), o₄ p hp _ (.tail _ (.head _)), o₄ p hp _ (.tail _ (.tail _ (.head _))), o₄ p hp _ (.tail _ (.tail _ (.tail _ (.head _))))⟩, j₄⟩
    · obtain rfl : i = n := Nat.le_antisymm hi (Nat.not_lt.mp hlt')
      refine W.done _ _ _ st fun h₂ tk₂ hk₂ ht₂ => ?_
      refine hend D C h₂ tk₂ m' ys nw (Nat.le_trans ht ht₂) (hmono _ _ _ _ _ j ht₂) hyl (fun p hp => ⟨(off' p hp).2.2.2, (off' p hp).2.1⟩) (Ne.symm hDC) fC.1 fC.2 (hn.at' fun o e => offG hk₂ hIC e) (offF hk₂) fun p hp => ?_
      rcases List.mem_cons.mp hp with rfl | hp
      · exact ⟨offG hk₂ hID hD, fD⟩
      · exact offN hk₂ p hp
  refine codeAny_compStart_list (loop _ rfl) (W.self 0 _ _ _ (W.frame _ _ _ hst fun b _ o e => old b o e) (loop _ rfl))
end
end Mine
end
section
open PySem PySem.W PyProof.Rows PySem.Calls PySem.Flt
namespace Mine
open LCg (lst lst_snoc NsObj ns_obj)
section
variable {prog : Program} {w : World} {A : Around} {E : Value → Shared → Prop} {env : Env} {h₀ : Heap} {L : Addr} {m : Str → Option Value} {s : Shared}
/-- how a comprehension ends -/
noncomputable def EndT (h₀ : Heap) (L : Addr) (m : Str → Option Value) (s : Shared) (T : Nat) (J : List Value → List (Addr × Obj) → Nat → Prop) (n : Nat) (RR : Value → Addr → Result → Shared → Prop) : Prop :=
  ∀ D C h tk m' ys nw, TokLo T tk → J ys nw tk → ys.length = n → (∀ p ∈ nw, @Ne Nat p.1 D ∧ @Ne Nat p.1 C) → @Ne Nat C D → C ≠ L → h₀.get? C = none → h.Ns C m' → Fr h₀ L h m → News h₀ L h ((D, lst ys) :: nw) → RR (.ref D) C (.ok .next) { s with heap := h, toks := tk }
theorem EndT.value {T n : Nat} {J : List Value → List (Addr × Obj) → Nat → Prop} {Q : Value → Shared → Prop}
    (fin : ∀ D ys nw h tk, TokLo T tk → J ys nw tk → ys.length = n → (∀ p ∈ nw, @Ne Nat p.1 D) → Fr h₀ L h m → News h₀ L h ((D, lst ys) :: nw) → Q (.ref D) { s with heap := h, toks := tk }) :
    ∀ s' : Shared, (∃ h, s' = { s with heap := h }) → EndT h₀ L m s' T J n (compPost (model prog w) A E none Q) := by
  rintro s' ⟨hh, rfl⟩ D C h tk m' ys nw hT j hl off hCD fC1 fC2 hn F N
  refine ⟨m', hn, fun h'' hs'' => ?_⟩
  have notC : ∀ b o, @Ne Nat b C → h.get? b = some o → h''.get? b = some o := fun b o ne e => hs''.extBut b o ne e
  refine fin D ys nw h'' tk hT j hl (fun p hp => (off p hp).1) (F.change hs'' fC1 fC2) fun p hp => ?_
  rcases List.mem_cons.mp hp with rfl | hp
  · exact ⟨notC _ _ (Ne.symm hCD) (N _ (.head _)).1, (N _ (.head _)).2⟩
  · have := N p (.tail _ hp)
    exact ⟨notC _ _ (off p hp).2 this.1, this.2⟩
theorem EndT.assign {T n : Nat} {J : List Value → List (Addr × Obj) → Nat → Prop} {Qn : Shared → Prop} {y : Str} {py : Pos} (hLe : env.locals = L) (hmono : ∀ ys nw tk tk', J ys nw tk → tk ≤ tk' → J ys nw tk')
    (hy : env.kindOf y = some .local) (hp : (env.scope.kind == .class || (env.scope.kind == .module && env.locals != env.globals)) = false)
    (fin : ∀ D ys nw h tk, TokLo T tk → J ys nw tk → ys.length = n → (∀ p ∈ nw, @Ne Nat p.1 D) → Fr h₀ L h (fun z => if z = y then some (.ref D) else m z) → News h₀ L h ((D, lst ys) :: nw) → Qn { s with heap := h, toks := tk }) :
    ∀ s' : Shared, (∃ h, s' = { s with heap := h }) → EndT h₀ L m s' T J n (compPost (model prog w) A E (some (assign (.Name y py) env)) (fun _ s'' => Qn s'')) := by
  subst hLe
  rintro s' ⟨hh, rfl⟩ D C h tk m' ys nw hT j hl off hCD fC1 fC2 hn F N
  show wpAny _ A (assign (.Name y py) env (.ref D)) _ _ _
  refine wpAny_assign_Name (wpAny_storeName_local hy F.ns (fun h₂ hn₂ hs₂ => ?_) hp)
  have F₂ : Fr h₀ env.locals h₂ (fun z => if z = y then some (.ref D) else m z) := F.set hn₂ hs₂
  refine ⟨m', hn.sameBut hs₂ fC1, fun h'' hs'' => ?_⟩
  have notC : ∀ b o, @Ne Nat b C → h₂.get? b = some o → h''.get? b = some o := fun b o ne e => hs''.extBut b o ne e
  have notL : ∀ b o, @Ne Nat b env.locals → h.get? b = some o → h₂.get? b = some o := fun b o ne e => hs₂.extBut b o ne e
  refine fin D ys nw h'' (tk + 1) (TokLo.step hT) (hmono _ _ _ _ j (Nat.le_succ _)) hl (fun p hp => (off p hp).1) (F₂.change hs'' fC1 fC2) fun p hp => ?_
  rcases List.mem_cons.mp hp with rfl | hp
  · have := N _ (.head _)
    exact ⟨notC _ _ (Ne.symm hCD) (notL _ _ this.2.1 this.1), this.2⟩
  · have := N p (.tail _ hp)
    exact ⟨notC _ _ (off p hp).2 (notL _ _ this.2.1 this.1), this.2⟩
noncomputable def CompIn (prog : Program) (w : World) (A : Around) (env : Env) (elt : Expr) (x : Str) (px : Pos) (iter : Expr) (scope : Scope) (cl : List (Str × Addr)) (pos : Pos) (RR : Value → Addr → Result → Shared → Prop) (E : Value → Shared → Prop) (xv : Value) (s₁ : Shared) : Prop :=
  wpAny (model prog w) A (pyIter xv) (fun it s₂ => wpAny (model prog w) A (newList []) (fun acc s₃ => wpAny (model prog w) A (newFunctionEnv scope env.globals cl [] env.qual none .none (some env)) (fun cenv s₄ =>
      codeAny (model prog w) A (.compStart (.ListComp elt [⟨.Name x px, iter, [], 0⟩] scope pos) 0 it acc { cenv with scope := relabel scope env }) (RR acc cenv.locals) s₄) E s₃) E s₂) E s₁
theorem Comp_start {elt iter : Expr} {x : Str} {px : Pos} {scope : Scope} (cl : List (Str × Addr)) {pos : Pos} {Q : Value → Shared → Prop}
    (hclos : closureFor scope env = pure cl) (hkind : scope.kind = .function) (hnames : ∀ y ∈ scope.names, y.2 = .local → scope.names.lookup y.1 = some .local)
    (h : wpAny (model prog w) A (eval iter env) (fun xv s₁ => CompIn prog w A env elt x px iter scope cl pos (compPost (model prog w) A E none Q) E xv s₁) E s)
    (hs : ∀ x, foldedSetIterable iter env x = pure x := by intro _; rfl) :
    wpAny (model prog w) A (eval (.ListComp elt [⟨.Name x px, iter, [], 0⟩] scope pos) env) Q E s := by
  rw [eval_ListComp]
  exact wpAny_comprehension_free (use := none) rfl hs hclos hkind hnames h
theorem Comp_assign {elt iter : Expr} {x y : Str} {px py : Pos} {scope : Scope} (cl : List (Str × Addr)) {pos spos : Pos} {Q : Flow → Shared → Prop}
    (hsw : swapsWith (.ListComp elt [⟨.Name x px, iter, [], 0⟩] scope pos) (some (.Name y py)) spos.line env = pure true)
    (hclos : closureFor scope env = pure cl) (hkind : scope.kind = .function) (hnames : ∀ y ∈ scope.names, y.2 = .local → scope.names.lookup y.1 = some .local)
    (h : wpAny (model prog w) A (eval iter env) (fun xv s₁ => CompIn prog w A env elt x px iter scope cl pos (compPost (model prog w) A E (some (assign (.Name y py) env)) (fun _ s' => Q .next s')) E xv s₁) E s)
    (hs : ∀ x, foldedSetIterable iter env x = pure x := by intro _; rfl) :
    wpAny (model prog w) A (exec (.Assign [.Name y py] (.ListComp elt [⟨.Name x px, iter, [], 0⟩] scope pos) spos) env) Q E s := by
  rw [exec_Assign_Name_used _ _ _ _ hsw]
  refine wpAny_bind (wpAny_standAt (wpAny_bind ?_))
  show wpAny _ A (do let _ ← comprehension (.ListComp elt [⟨.Name x px, iter, [], 0⟩] scope pos) scope env _ (newList []) false (eval iter env) (some (assign (.Name y py) env))) _ _ s
  exact wpAny_bind (wpAny_mono (wpAny_comprehension_free (use := some (assign (.Name y py) env)) (Q := fun _ s' => Q .next s') rfl hs hclos hkind hnames h) (fun _ s' hq => wpAny_pure (wpAny_pure hq)) fun _ _ e => e)
theorem CompIn.range {elt iter : Expr} {x : Str} {px : Pos} {scope : Scope} {cl : List (Str × Addr)} {pos : Pos} {RR : Value → Addr → Result → Shared → Prop} {r : Addr} {a b : Int} {t u v : Tok} {n : Nat} {news : List (Addr × Obj)} (T : Nat) (J : Nat → List Value → List (Addr × Obj) → Nat → Prop)
    (hh : A.handled = none) (F : Fr h₀ L s.heap m) (N : News h₀ L s.heap news) (hr : IsRange s.heap r a b 1 t u v) (hsm : Builtin.Range.small a b 1 = true) (hn : Builtin.Range.rangeSize a b 1 = ((n : Nat) : Int)) (hsz : n ≤ sizeLine)
    (hmono : ∀ i ys nw tk tk', J i ys nw tk → tk ≤ tk' → J i ys nw tk') (hcell : ∀ y ∈ scope.names, y.2 ≠ .cell) (hkind : scope.kind = .function) (hx : scope.names.lookup x = some .local)
    (hT : TokLo T s.toks) (h0 : J 0 [] news s.toks)
    (turn : ∀ (i : Nat) t ys m₂ news₁ h₁ tk₁ I oI C oC D (E' : Value → Shared → Prop), i < n → TokLo T tk₁ → J i ys news₁ tk₁ → ys.length = i → NsObj oC m₂ → m₂ x = some (.int (a + (i : Int)) t) → (∀ p ∈ news₁, @Ne Nat p.1 I ∧ @Ne Nat p.1 C ∧ @Ne Nat p.1 D) → @Ne Nat I C → @Ne Nat I D → @Ne Nat C D →
      Fr h₀ L h₁ m → News h₀ L h₁ ((I, oI) :: (C, oC) :: (D, lst ys) :: news₁) →
      wpAny (model prog w) A (eval elt (compEnvC scope cl C env)) (EltT h₀ L m s tk₁ [(I, oI), (C, oC), (D, lst ys)] (fun y nw tk => J (i + 1) (ys ++ [y]) nw tk)) E' { s with heap := h₁, toks := tk₁ })
    (hend : ∀ (s' : Shared), (∃ h, s' = { s with heap := h }) → EndT h₀ L m s' T (fun ys nw tk => J n ys nw tk) n RR) :
    CompIn prog w A env elt x px iter scope cl pos RR E (.ref r) s := by
  refine wpAny_pyIter_range hr hsm ?_
  have up : ∀ o' b o, s.heap.get? b = some o → (s.heap.push o').get? b = some o := fun _ b o e => Heap.get?_push_of_some _ e
  refine block_T (s := { s with heap := s.heap.push _ }) (LCg.range_walks hh a n) hsz [] T J (fun i h st => ⟨_, st⟩) (fun b hb => .inl (List.mem_singleton.mp hb)) (fun b hb => ?_) (next_new F (Nat.le_refl _)) (fun i ys nw tk j p hp => nomatch hp) hmono hcell hkind hx hT
    (by show IsRangeIter _ _ _ _ _; rw [hn]; simpa using Heap.get?_push_size _ rfl) (F.keeps (up _)) (N.grown (up _)) (fun p hp => Nat.ne_of_lt (news_below N p hp)) h0 (fun i v ys m₂ news₁ h₁ tk₁ oI C oC D E' hi hP hT' j hl hN hv o1 o2 o3 o4 F₁ N₁ => ?_) (hend _ ⟨_, rfl⟩)
  · rw [List.mem_singleton.mp hb]
    show s.heap.objs.size < (s.heap.push _).objs.size
    rw [Heap.size_push]; exact Nat.lt_succ_self _
  · obtain ⟨t, rfl⟩ := hP
    exact turn i t ys m₂ news₁ h₁ tk₁ _ oI C oC D E' hi hT' j hl hN hv o1 o2 o3 o4 F₁ N₁
theorem CompIn.list {elt iter : Expr} {x : Str} {px : Pos} {scope : Scope} {cl : List (Str × Addr)} {pos : Pos} {RR : Value → Addr → Result → Shared → Prop} {l : Addr} {lo : Obj} {its : Array Value} {k : Nat} {news : List (Addr × Obj)} (T : Nat) (J : Nat → List Value → List (Addr × Obj) → Nat → Prop)
    (hh : A.handled = none) (F : Fr h₀ L s.heap m) (N : News h₀ L s.heap news) (hm : (l, lo) ∈ news) (hc : lo.cls = .type "list") (hd : lo.data = .seq its k) (hsz : its.size ≤ sizeLine)
    (hkeep : ∀ i ys nw tk, J i ys nw tk → (l, lo) ∈ nw)
    (hmono : ∀ i ys nw tk tk', J i ys nw tk → tk ≤ tk' → J i ys nw tk') (hcell : ∀ y ∈ scope.names, y.2 ≠ .cell) (hkind : scope.kind = .function) (hx : scope.names.lookup x = some .local)
    (hT : TokLo T s.toks) (h0 : J 0 [] news s.toks)
    (turn : ∀ (i : Nat) v ys m₂ news₁ h₁ tk₁ I oI C oC D (E' : Value → Shared → Prop), its[i]? = some v → TokLo T tk₁ → J i ys news₁ tk₁ → ys.length = i → NsObj oC m₂ → m₂ x = some v → (∀ p ∈ news₁, @Ne Nat p.1 I ∧ @Ne Nat p.1 C ∧ @Ne Nat p.1 D) → @Ne Nat I C → @Ne Nat I D → @Ne Nat C D →
      Fr h₀ L h₁ m → News h₀ L h₁ ((I, oI) :: (C, oC) :: (D, lst ys) :: news₁) →
      wpAny (model prog w) A (eval elt (compEnvC scope cl C env)) (EltT h₀ L m s tk₁ [(I, oI), (C, oC), (D, lst ys)] (fun y nw tk => J (i + 1) (ys ++ [y]) nw tk)) E' { s with heap := h₁, toks := tk₁ })
    (hend : ∀ (s' : Shared), (∃ h, s' = { s with heap := h }) → EndT h₀ L m s' T (fun ys nw tk => J its.size ys nw tk) its.size RR) :
    CompIn prog w A env elt x px iter scope cl pos RR E (.ref l) s := by
  have hls : s.heap.IsList l its := ⟨lo, (N _ hm).1, hc, k, hd⟩
  have hlt : @LT.lt Nat _ l s.heap.objs.size := Heap.lt_size (N _ hm).1
  refine wpAny_pyIter_list hls ?_
  have up : ∀ o' b o, s.heap.get? b = some o → (s.heap.push o').get? b = some o := fun _ b o e => Heap.get?_push_of_some _ e
  refine block_T (s := { s with heap := s.heap.push _ }) (Walks.list hh s.heap.objs.size l (Nat.ne_of_lt hlt) its) hsz [(l, lo)] T J (fun i h st => by obtain ⟨o, e, _⟩ := st.1; exact ⟨o, e⟩) (fun b hb => ?_) (fun b hb => ?_) (next_new F (Nat.le_refl _)) (fun i ys nw tk j p hp => by rw [List.mem_singleton.mp hp]; exact hkeep i ys nw tk j) hmono hcell hkind hx hT
    ⟨⟨_, Heap.get?_push_size _ rfl, rfl, rfl⟩, hls.at fun o e => Heap.get?_push_of_some _ e⟩ (F.keeps (up _)) (N.grown (up _)) (fun p hp => Nat.ne_of_lt (news_below N p hp)) h0 (fun i v ys m₂ news₁ h₁ tk₁ oI C oC D E' hi hP hT' j hl hN hv o1 o2 o3 o4 F₁ N₁ => turn i v ys m₂ news₁ h₁ tk₁ _ oI C oC D E' hP hT' j hl hN hv o1 o2 o3 o4 F₁ N₁) (hend _ ⟨_, rfl⟩)
  · rcases List.mem_cons.mp hb with rfl | hb
    · exact .inl rfl
    · rw [List.mem_singleton.mp hb]; exact .inr ⟨lo, .head _⟩
  · show b < (s.heap.push _).objs.size
    rw [Heap.size_push]
    rcases List.mem_cons.mp hb with rfl | hb
    · exact Nat.lt_succ_self _
    · rw [List.mem_singleton.mp hb]; exact Nat.lt_succ_of_lt hlt
theorem CompInC.list {elt iter : Expr} {x : Str} {px : Pos} {scope : Scope} {cl : List (Str × Addr)} {pos : Pos} {RR : Value → Addr → Result → Shared → Prop} {l : Addr} {lo : Obj} {its : Array Value} {k : Nat} {news : List (Addr × Obj)} (T : Nat) (J : Nat → List Value → List (Addr × Obj) → Nat → Prop)
    (hh : A.handled = none) (F : Fr h₀ L s.heap m) (N : News h₀ L s.heap news) (hm : (l, lo) ∈ news) (hc : lo.cls = .type "list") (hd : lo.data = .seq its k) (hsz : its.size ≤ sizeLine)
    (hkeep : ∀ i ys nw tk, J i ys nw tk → (l, lo) ∈ nw)
    (hmono : ∀ i ys nw tk tk', J i ys nw tk → tk ≤ tk' → J i ys nw tk') (hcf : ∀ n acc, cellsFrom n scope.names acc = (x, n) :: acc) (hpc : ∀ h, pushCells h scope.names = h.push { cls := .type "cell", data := .cell none }) (hkind : scope.kind = .function) (hx : ∀ K C, (compEnvC scope ((x, K) :: cl) C env).kindOf x = some .cell)
    (hT : TokLo T s.toks) (h0 : J 0 [] news s.toks)
    (turn : ∀ (i : Nat) v ys news₁ h₁ tk₁ I oI C oC K oK D (E' : Value → Shared → Prop), its[i]? = some v → TokLo T tk₁ → J i ys news₁ tk₁ → ys.length = i → oK.data = .cell (some v) → (∀ p ∈ news₁, @Ne Nat p.1 I ∧ @Ne Nat p.1 C ∧ @Ne Nat p.1 K ∧ @Ne Nat p.1 D) → (@Ne Nat I C ∧ @Ne Nat I K ∧ @Ne Nat I D ∧ @Ne Nat C K ∧ @Ne Nat C D ∧ @Ne Nat K D) →
      Fr h₀ L h₁ m → News h₀ L h₁ ((I, oI) :: (C, oC) :: (K, oK) :: (D, lst ys) :: news₁) →
      wpAny (model prog w) A (eval elt (compEnvC scope ((x, K) :: cl) C env)) (EltT h₀ L m s tk₁ [(I, oI), (C, oC), (K, oK), (D, lst ys)] (fun y nw tk => J (i + 1) (ys ++ [y]) nw tk)) E' { s with heap := h₁, toks := tk₁ })
    (hend : ∀ (s' : Shared), (∃ h, s' = { s with heap := h }) → EndT h₀ L m s' T (fun ys nw tk => J its.size ys nw tk) its.size RR) :
    CompIn prog w A env elt x px iter scope cl pos RR E (.ref l) s := by
  have hls : s.heap.IsList l its := ⟨lo, (N _ hm).1, hc, k, hd⟩
  have hlt : @LT.lt Nat _ l s.heap.objs.size := Heap.lt_size (N _ hm).1
  refine wpAny_pyIter_list hls ?_
  have up : ∀ o' b o, s.heap.get? b = some o → (s.heap.push o').get? b = some o := fun _ b o e => Heap.get?_push_of_some _ e
  refine block_TC (s := { s with heap := s.heap.push _ }) (Walks.list hh s.heap.objs.size l (Nat.ne_of_lt hlt) its) hsz [(l, lo)] T J (fun i h st => by obtain ⟨o, e, _⟩ := st.1; exact ⟨o, e⟩) (fun b hb => ?_) (fun b hb => ?_) (next_new F (Nat.le_refl _)) (fun i ys nw tk j p hp => by rw [List.mem_singleton.mp hp]; exact hkeep i ys nw tk j) hmono hcf hpc hkind hx hT
    ⟨⟨_, Heap.get?_push_size _ rfl, rfl, rfl⟩, hls.at fun o e => Heap.get?_push_of_some _ e⟩ (F.keeps (up _)) (N.grown (up _)) (fun p hp => Nat.ne_of_lt (news_below N p hp)) h0 (fun i v ys news₁ h₁ tk₁ oI C oC K oK D E' hi hP hT' j hl hK o1 o2 F₁ N₁ => turn i v ys news₁ h₁ tk₁ _ oI C oC K oK D E' hP hT' j hl hK o1 o2 F₁ N₁) (hend _ ⟨_, rfl⟩)
  · rcases List.mem_cons.mp hb with rfl | hb
    · exact .inl rfl
    · rw [List.mem_singleton.mp hb]; exact .inr ⟨lo, .head _⟩
  · show b < (s.heap.push _).objs.size
    rw [Heap.size_push]
    rcases List.mem_cons.mp hb with rfl | hb
    · exact Nat.lt_succ_self _
    · rw [List.mem_singleton.mp hb]; exact Nat.lt_succ_of_lt hlt
end
/-- the token-told contract, used where a ledger stands -/
theorem cst_use {w : World} {D : Nat} {f : Addr} {news : List (Addr × Obj)} {vs : List Value} {Post : Value → List (Addr × Obj) → Prop}
    {mean : ExcName → Option Value} {mg mb : Str → Option Value} {dp un : Nat} {gd : Option (List Code)} {cn : Str} {cs : Scope} {a : Addr} {ccd : Value} {cl : List (Str × Addr)} {outer : List Env} {A₀ : Around} {base h₀ : Heap} {L : Addr} {m : Str → Option Value} {s : Shared} {Q E : Value → Shared → Prop}
    (C : CsT w D f [] vs Post) (B : Below A₀ base outer h₀) (F : Fr h₀ L s.heap m) (X : (hd.heap_39 w.params).In h₀) (N : News h₀ L s.heap news) (T : TopM mean mg mb h₀) (hk : cs.kind = .function) (hdp : dp + D < recursionLimit) (hun : un + 8 * D < cLine)
    (ret : ∀ r tl h' tk', Fr h₀ L h' m → News h₀ L h' (tl ++ news) → (∀ q ∈ news, ∀ p ∈ tl, @Ne Nat q.1 p.1) → Post r tl → TokAt s.toks tk' r → Q r { s with heap := h', toks := tk' }) :
    wpAny (model PG w) (ktrTop dp un gd cn cs L a ccd cl outer) (call (.ref f) vs) Q E s := by
  refine C mean mg mb dp un gd cn cs a ccd cl outer A₀ base h₀ L m s Q E B F X News.nil T hk hdp hun fun r tl h' tk' kp ht hp tok => ?_
  refine ret r tl h' tk' (F.keeps kp) (fun p hp => ?_) (fun q hq p hp e => ?_) hp tok
  · rcases List.mem_append.mp hp with hp | hp
    · obtain ⟨e1, e2⟩ := ht p hp
      obtain ⟨oL, _, _, hL, _⟩ := F.ns
      refine ⟨e1, fun e => ?_, ?_⟩
      · rw [e, hL] at e2; cases e2
      · cases q : h₀.get? p.1 with
        | none => rfl
        | some o => rw [F.keep _ _ q] at e2; cases e2
    · exact ⟨kp _ _ (N p hp).1, (N p hp).2⟩
  · have h1 := (N q hq).1
    have h2 := (ht p hp).2
    have h3 : s.heap.get? q.1 = s.heap.get? p.1 := by rw [show q.1 = p.1 from e]
    rw [h3, h2] at h1
    cases h1
end Mine
end
section
open PySem PySem.W PyProof.Rows PySem.Calls PySem.Flt
namespace Mine
/-- the twelve cells -/
noncomputable def Cells12 (r : Value) (tl : List (Addr × Obj)) : Prop :=
  ∃ C lo its n cs, r = .ref C ∧ tl = [(C, lo)] ∧ lo.cls = .type "list" ∧ lo.data = .seq its n ∧ IntsAre its.toList cs ∧ cs.length = 12 ∧ ∀ c ∈ cs, 0 ≤ c ∧ c < 120
/-- Ct, for a call that reads what stood before -/
noncomputable def CtX (w : World) (D : Nat) (f : Addr) (news : List (Addr × Obj)) (Pre : Heap → Prop) (vs : List Value) (Post : Value → List (Addr × Obj) → Prop) : Prop :=
  ∀ (mean : ExcName → Option Value) (mg mb : Str → Option Value) (dp un : Nat) (gd : Option (List Code)) (cn : Str) (cs : Scope) (a : Addr) (ccd : Value) (cl : List (Str × Addr)) (outer : List Env) (A₀ : Around) (base h₀ : Heap) (L : Addr) (m : Str → Option Value) (s : Shared) (Q E : Value → Shared → Prop),
    Pre h₀ → Below A₀ base outer h₀ → Fr h₀ L s.heap m → (hd.heap_39 w.params).In h₀ → News h₀ L s.heap news → TopM mean mg mb h₀ → cs.kind = .function → dp + D < recursionLimit → un + 8 * D < cLine →
    (∀ r tl h' tk', Fr h₀ L h' m → News h₀ L h' (tl ++ news) → (∀ q ∈ news, ∀ p ∈ tl, @Ne Nat q.1 p.1) → Post r tl → Q r { s with heap := h', toks := tk' }) →
    wpAny (model PG w) (ktrTop dp un gd cn cs L a ccd cl outer) (call (.ref f) vs) Q E s
theorem fm120 (x : Int) : 0 ≤ x.fmod 120 ∧ x.fmod 120 < 120 := by rw [Int.fmod_eq_emod_of_nonneg _ (by decide)]; omega
theorem intsAre_listSet : ∀ {vs : List Value} {cs : List Int} {k : Nat} {v : Int} {t : Tok}, IntsAre vs cs → IntsAre (vs.set k (.int v t)) (cs.set k v)
  | _, _, 0, v, t, .nil => .nil
  | _, _, k + 1, v, t, .nil => .nil
  | _, _, 0, v, t, .cons n u h => .cons v t h
  | _, _, k + 1, v, t, .cons n u h => .cons n u (intsAre_listSet h)
theorem intsAre_set {its : Array Value} {cs : List Int} {k : Nat} {v : Int} {t : Tok} (h : IntsAre its.toList cs) : IntsAre (its.setIfInBounds k (.int v t)).toList (cs.set k v) := by
  rw [Array.toList_setIfInBounds]
  exact intsAre_listSet h
theorem set_bd {cs : List Int} {k : Nat} {v : Int} (h : ∀ c ∈ cs, 0 ≤ c ∧ c < 120) (hv : 0 ≤ v ∧ v < 120) : ∀ c ∈ cs.set k v, 0 ≤ c ∧ c < 120 := fun c hc => by
  rcases List.mem_or_eq_of_mem_set hc with h' | rfl
  · exact h c h'
  · exact hv
theorem fm12 (x : Int) : 0 ≤ x.fmod 12 ∧ x.fmod 12 < 12 := by rw [Int.fmod_eq_emod_of_nonneg _ (by decide)]; omega
theorem range64 : ∀ n : Fin 65, Builtin.Range.small 0 ((n.val : Nat) : Int) 1 = true ∧ Builtin.Range.rangeSize 0 ((n.val : Nat) : Int) 1 = ((n.val : Nat) : Int) := by decide +kernel
section
variable {prog : Program} {w : World} {A : Around} {E : Value → Shared → Prop} {s : Shared} {h₀ : Heap} {L : Addr} {m : Str → Option Value} {news : List (Addr × Obj)}
theorem len_base {sc : Addr} {vs : List Value} {ns : List Int} {Q : Value → Shared → Prop} (hl : h₀.IsList sc vs.toArray) (hi : IntsAre vs ns) (hn : ns.length ≤ 63) (F : Fr h₀ L s.heap m)
    (h : ∀ t tk, Q (.int ns.length t) { s with toks := tk }) : wpAny (model prog w) A (call (.builtin "len") [.ref sc]) Q E s := by
  refine call_len_list (hl.at fun o e => F.keep _ o e) ?_ ?_
  · have := hi.length; simp; omega
  · have := h (s.toks + 1) (s.toks + 1 + 1)
    rw [← hi.length] at this
    simpa using this
theorem item_base {value slice : Expr} {sc : Addr} {vs : List Value} {ns : List Int} {k : Int} {u : Tok} {Q : Value → Shared → Prop} (hl : h₀.IsList sc vs.toArray) (hi : IntsAre vs ns) (hn : ns.length ≤ 63) (F : Fr h₀ L s.heap m)
    (h0 : 0 ≤ k) (h1 : k < ns.length) (h : ∀ t, Q (.int (ns.getD k.toNat 0) t) s)
    (hs : subscripted slice false (.ref sc) (.int k u) = operate [.ref sc, .int k u] (getItem (.ref sc) (.int k u)) := by with_unfolding_all rfl) (hg : ∀ r, letTemporaryGo value (.ref sc) r = pure () := by intro _; with_unfolding_all rfl) :
    wpAny (model prog w) A (subscriptTail value slice (.ref sc) (.int k u)) Q E s :=
  item_list_ints (hl.at fun o e => F.keep _ o e) hi h0 h1 (by omega) h hs hg
theorem item_led {value slice : Expr} {C : Addr} {lo : Obj} {its : Array Value} {n : Nat} {cs : List Int} {k : Int} {u : Tok} {Q : Value → Shared → Prop} (N : News h₀ L s.heap news) (hm : (C, lo) ∈ news) (hc : lo.cls = .type "list") (hd : lo.data = .seq its n) (hi : IntsAre its.toList cs) (hn : cs.length = 12)
    (h0 : 0 ≤ k) (h1 : k < 12) (h : ∀ t, Q (.int (cs.getD k.toNat 0) t) s)
    (hs : subscripted slice false (.ref C) (.int k u) = operate [.ref C, .int k u] (getItem (.ref C) (.int k u)) := by with_unfolding_all rfl) (hg : ∀ r, letTemporaryGo value (.ref C) r = pure () := by intro _; with_unfolding_all rfl) :
    wpAny (model prog w) A (subscriptTail value slice (.ref C) (.int k u)) Q E s :=
  item_list_ints (vs := its.toList) (show s.heap.IsList C its.toList.toArray from ⟨lo, (N _ hm).1, hc, n, by simpa using hd⟩) hi h0 (by omega) (by omega) h hs hg
theorem set_led {C I : Addr} {lo oI : Obj} {its : Array Value} {n : Nat} {k : Int} {t : Tok} {v : Value} {Q : Unit → Shared → Prop} (F : Fr h₀ L s.heap m) (N : News h₀ L s.heap ((I, oI) :: (C, lo) :: news)) (hc : lo.cls = .type "list") (hd : lo.data = .seq its n) (hI : @Ne Nat I C) (off : ∀ p ∈ news, @Ne Nat p.1 C)
    (h0 : 0 ≤ k) (h1 : k < its.size) (hs : its.size = 12)
    (h : ∀ h' lo' n', lo'.cls = .type "list" → lo'.data = .seq (its.setIfInBounds k.toNat v) n' → Fr h₀ L h' m → News h₀ L h' ((I, oI) :: (C, lo') :: news) → Q () { s with heap := h' }) : wpAny (model prog w) A (setItem (.ref C) (.int k t) v) Q E s := by
  have hC := N (C, lo) (.tail _ (.head _))
  refine wpAny_setItem_list (show s.heap.IsList C its from ⟨lo, hC.1, hc, n, hd⟩) h0 (by omega) h1 fun h' hl' hs' => ?_
  obtain ⟨lo', e', c', n', d'⟩ := hl'
  have keep : ∀ b o, @Ne Nat b C → s.heap.get? b = some o → h'.get? b = some o := fun b o ne e => hs'.extBut b o ne e
  refine h h' lo' n' c' d' (F.change hs' hC.2.1 hC.2.2) fun p hp => ?_
  rcases List.mem_cons.mp hp with rfl | hp
  · exact ⟨keep _ _ hI (N _ (.head _)).1, (N _ (.head _)).2⟩
  rcases List.mem_cons.mp hp with rfl | hp
  · exact ⟨e', hC.2⟩
  · have := N p (.tail _ (.tail _ hp))
    exact ⟨keep _ _ (off p hp) this.1, this.2⟩
end
set_option maxRecDepth 100000 in
set_option maxHeartbeats 2000000 in
theorem cells_ct (w : World) (news : List (Addr × Obj)) (sc : Addr) (vs : List Value) (ns : List Int) (hi : IntsAre vs ns) (hn : ns.length ≤ 63) :
    CtX w 2 197 news (fun h₀ => h₀.IsList sc vs.toArray) [.ref sc] Cells12 := by
  k_with_none
  k_with "eval BinOp" => (k_here; dsimp only; (try k_fold))
  k_with "eval Call" => (k_here; dsimp only; (try k_fold))
  k_with "eval Subscript" => (k_here; dsimp only; (try k_fold))
  k_with "exec For Name Call cons nil" => (k_here; k_dflt (refine For_start ?_))
  k_with "exec For" => (k_here; k_dflt (refine For_start ?_))
  k_with "call builtin:len" => (k_here; k_dflt (refine' len_base ?k1 ?k2 ?k3 ?k4 ?_; (case k1 => assumption); (case k2 => assumption); (case k3 => assumption); (case k4 => k_asm); intro t9 tk9; (try dsimp only); (try k_fold)))
  k_with "subscriptTail" => (k_here; k_dflt (first
  | (refine' item_base ?k1 ?k2 ?k3 ?k4 ?k5 ?k6 ?_; (case k1 => assumption); (case k2 => assumption); (case k3 => assumption); (case k4 => k_asm); (case k5 => omega); (case k6 => omega); intro t9; (try k_fold))
  | (refine' item_led ?k1 ?k2 ?k3 ?k4 ?k5 ?k6 ?k7 ?k8 ?_; (case k1 => k_asm); (case k2 => exact .tail _ (.head _)); (case k3 => assumption); (case k4 => assumption); (case k5 => assumption); (case k6 => assumption); (case k7 => omega); (case k8 => omega); intro t9; (try k_fold))))
  k_with "setItem ref int" => (k_here; k_dflt (refine' set_led ?k1 ?k2 ?k3 ?k4 ?k5 ?k6 ?k7 ?k8 ?k9 ?_; (case k1 => k_asm); (case k2 => k_asm); (case k3 => assumption); (case k4 => assumption); (case k5 => assumption); (case k6 => assumption); (case k7 => omega); (case k8 => omega); (case k9 => assumption); intro h9 lo9 n9 c9 d9 F9 N9; (try dsimp only); (try k_sweep); (try k_fold)))
  unfold CtX PG
  k_fill
  intro mean mg mb dp un gd cn cs a ccd cl outer A₀ base h₀ L m s Q E hl B F X N T hk hd hu hret
  have hls : s.heap.IsList sc vs.toArray := hl.at fun o e => F.keep _ o e
  refine wpAny_call ?_
  k_dflt cell_enter
  conv in (execs _ _) => arg 1; whnf
  (rename Fr h₀ L _ m => FG9)
  have hl9 := hl.at fun o e => FG9.keep _ o e
  k_steps
  (rename IsRange _ _ _ _ _ _ _ _ => rgX); (rename Fr _ _ _ _ => lF); (rename News _ _ _ _ => lN)
  have hr9 := range64 ⟨ns.length, by omega⟩
  have rgY := rgX
  rw [if_neg (by omega)] at rgY
  (rename ∀ p ∈ news, _ => l9)
  refine LoopIn.range (T := 0) (n := ns.length) (fun i m₁ nw => ∃ C lo its n cs, nw = (C, lo) :: news ∧ (∀ p ∈ news, @Ne Nat p.1 C) ∧ lo.cls = .type "list" ∧ lo.data = .seq its n ∧ IntsAre its.toList cs ∧ cs.length = 12 ∧ (∀ c ∈ cs, 0 ≤ c ∧ c < 120) ∧ m₁ (Str.ofString "cells") = some (.ref C) ∧ m₁ (Str.ofString "script") = some (.ref sc)) (by rfl) lF lN rgX (by rw [if_neg (by omega)]; exact hr9.1) (by rw [if_neg (by omega)]; exact hr9.2) (Nat.zero_le _)
    ⟨_, _, _, _, [0, 14, 17, 7, 11, 20, 15, 10, 27, 5, 2, 0], rfl, fun p hp => Nat.ne_of_lt (l9 p hp), rfl, rfl, ?_, rfl, by decide, by rfl, by rfl⟩ (by passes_own) ?_ ?_
  · repeat' (first | exact IntsAre.nil | apply IntsAre.cons)
  · rintro i t m₁ nw h₁ tk₁ I oI hin hT ⟨C, lo, its, n, cs', rfl, off9, hc, hdd, hia, hlen, hbd, hmc, hms⟩ off F₁ N₁
    have F₂ := fr_say (fr_say F₁ hmc) ((if_neg (by decide)).trans hms)
    clear F₁ lF lN
    dsimp only [envOf] at F₂ N₁
    have hz := fm12 (0 + (i : Int))
    have hsz : its.size = 12 := by have := hia.length; simp at this; omega
    have hIC : @Ne Nat I C := fun e => off (C, lo) (.head _) e.symm
    k_steps
    (rename Fr _ _ _ _ => lF); (rename News _ _ _ _ => lN)
    exact turn_next (news' := (C, _) :: news) lF lN (fun p hp q hq => by
      rw [List.mem_singleton.mp hq]
      rcases List.mem_cons.mp hp with rfl | hp
      · exact Ne.symm hIC
      · exact off p (.tail _ hp)) ⟨C, _, _, _, _, rfl, off9, by assumption, by assumption, intsAre_set hia, by rw [List.length_set]; exact hlen, set_bd hbd (fm120 _), by rfl, by rfl⟩
  · rintro m₁ nw h₁ tk₁ hT ⟨C, lo, its, n, cs', rfl, off9, hc, hdd, hia, hlen, hbd, hmc, hms⟩ F₁ N₁
    have F₂ := fr_say F₁ hmc
    clear F₁ lF lN
    dsimp only [envOf] at F₂ N₁
    k_steps
    refine hret _ [(C, lo)] _ _ (by assumption) (by assumption) (fun q hq p hp => by rw [List.mem_singleton.mp hp]; exact off9 q hq) ⟨C, lo, its, n, cs', rfl, rfl, hc, hdd, hia, hlen, hbd⟩
end Mine
end
section
open PySem PySem.W PyProof.Rows PySem.Calls PySem.Flt
namespace Mine
theorem add_str_tok {prog : Program} {w : World} {A : Around} {E : Value → Shared → Prop} {s : Shared} {x y : Str} {t u : Tok} {Q : Value → Shared → Prop} (hx : (x.length == 0) = false) (hy : (y.length == 0) = false) (h : (Made.str (x ++ y)).post Q s) :
    wpAny (model prog w) A (binaryOp .Add (.str x t) (.str y u)) Q E s := by
  refine P.add_str ?_
  rw [hx, hy]
  exact h
local macro_rules | `(tactic| size_fits) => `(tactic| first | assumption | decide +kernel)
noncomputable def Stopped7 (p : Prop) : Prop := p
theorem stopped7 {p : Prop} (h : Stopped7 p) : p := h
theorem Stopped7.of {p : Prop} (h : p) : Stopped7 p := h
theorem br_empty {sp wd : Str} : Str.empty ++ Str.ofString "{" ++ sp ++ Str.ofString "}" ++ wd = Str.ofString "{" ++ sp ++ Str.ofString "}" ++ wd := by rw [show Str.empty ++ Str.ofString "{" = Str.ofString "{" by decide +kernel]
theorem ne0_app {x y : Str} (h : (x.length == 0) = false) : ((x ++ y).length == 0) = false := by
  rw [PySem.Str.length_append]
  simp only [beq_eq_false_iff_ne] at *
  omega
set_option maxRecDepth 100000 in
set_option maxHeartbeats 2000000 in
theorem nt_tail (w : World) {sp wd : Str} {st : List Stmt} {f : Int} {t2 u1 u2 : Tok} {mean : ExcName → Option Value} {mg mb : Str → Option Value} {dp un : Nat} {gd : Option (List Code)} {cn : Str} {cs : Scope} {a : Addr} {ccd : Value} {cl : List (Str × Addr)} {outer : List Env} {base : Heap} {m : Str → Option Value} {s : Shared} {Q : Flow → Shared → Prop} {E : Value → Shared → Prop} {g9 h1 : Heap} {L9 : Addr} {tk : Nat}
    (hst : st = (fnB (topSt 23)).drop 3) (hf : 0 ≤ f ∧ f < 3) (hs : (sp.length == 0) = false) (hw : (wd.length == 0) = false) (hwf : ¬ (wd.length : Int) ≥ 2 ^ 63) (hwt : ((wd.length : Int) != 0) = true)
    (zs : sp.length ≤ sizeLine) (zw : wd.length ≤ sizeLine) (z0 : (Str.empty ++ Str.ofString "{" ++ sp ++ Str.ofString "}" ++ wd).length ≤ sizeLine) (z1 : (Str.ofString "{" ++ sp).length ≤ sizeLine) (z2 : (Str.ofString "{" ++ sp ++ Str.ofString "}").length ≤ sizeLine) (z3 : (Str.ofString "{" ++ sp ++ Str.ofString "}" ++ wd).length ≤ sizeLine)
    (B' : Below (ktrTop dp un gd cn cs L a ccd cl outer) base (envX cn cs L a ccd cl :: outer) g9) (X : (hd.heap_39 w.params).In g9) (T' : TopM mean mg mb g9) (hk : cs.kind = .function) (hd : dp + 3 < recursionLimit) (hu : un + 8 * 3 < cLine)
    (m1 : m (Str.ofString "space") = some (.str sp u1)) (m2 : m (Str.ofString "word") = some (.str wd u2)) (m3 : m (Str.ofString "form") = some (.int f t2))
    (F : Fr g9 L9 h1 m) (N : News g9 L9 h1 []) (hT : TokLo s.toks tk)
    (k : ∀ r tl h' tk' m', Fr g9 L9 h' m' → News g9 L9 h' tl → NamePost w (Str.ofString "{" ++ sp ++ Str.ofString "}" ++ wd) r tl → TokAt s.toks tk' r → Q (.ret r) { s with heap := h', toks := tk' }) :
    wpAny (model PG w) ((ktrTop dp un gd cn cs L a ccd cl outer).deeper (envOf (Str.ofString "_law_name") (fnS (topSt 23)) L9 204 (.ref 203))) (execs st (envOf (Str.ofString "_law_name") (fnS (topSt 23)) L9 204 (.ref 203))) Q E { s with heap := h1, toks := tk } := by
  k_with_none
  k_with "ite" => (k_here; first | (with_reducible refine' ite_pos ?c ?_; (case c => first | assumption | decide)) | (with_reducible refine' ite_neg ?c ?_; (case c => first | assumption | decide)))
  k_with "execs cons" => (k_here; (rename TokLo _ _ => hT9); (refine' execs_cons_T (TokLo.any hT9 ?kt) ?_); (case kt => ((try dsimp only); k_dflt (repeat (first | exact Nat.le_refl _ | exact Nat.le_add_right _ _ | refine Nat.le_succ_of_le ?_)))); (try dsimp only))
  k_with "forall" => (intro tk9 e9 hT9; clear e9; (try dsimp only); (try k_fold))
  k_with "binaryOp Add str str" => (k_here; k_dflt (refine add_str_tok (by repeat (first | assumption | decide +kernel | refine ne0_app ?_)) (by repeat (first | assumption | decide +kernel | refine ne0_app ?_)) ?_; refine' ⟨?_, ?_⟩))
  k_with "call ref" => (k_here; k_dflt (refine' call_cls ?k1 ?k2 ?k3 ?k4 ?k5 ?k6 ?_; (case k1 => k_asm); (case k2 => k_asm); (case k3 => k_asm); (case k4 => k_is); (case k5 => k_is); (case k6 => k_is); k_whole; intro x' d' h' F' N' l1 l2; (try k_lt l1); (try k_lt2 l2); (try k_sweep); (refine' code_def ?k1 ?k2 ?k3 ?k4 ?k5 ?kA ?kF ?kK ?k6 ?k7 ?k8 ?k9 ?kB ?_ ?c2 ?c3 ?c4 ?c5; (case kA => exact rfl); (case kF => exact rfl); (case kK => exact rfl); (case k1 => k_asm); (case k2 => k_asm); (case k3 => k_asm); (case k4 => k_asm); (case k5 => k_asm); (case k6 => k_is); (case k7 => k_is); (case k8 => ktr_room); (case k9 => first | exact BindsTo.of_eq rfl | exact binds_K (by k_in) rfl (by k_is) rfl rfl rfl | fail "k_enter: no rule for these arguments"); (case c5 => decide); (case kB => exact locs rfl); (case c2 => exact rfl); (case c3 => exact rfl); (case c4 => exact rfl); k_whole; intro g' L' h' FG' F' N' B' X' T'; (try dsimp only); (try k_lift B'); (try k_fold); (conv in (execs _ _) => arg 1; whnf))))
  k_with "truthy str" => (k_here; refine P.truthy_str hwf ?_; rw [hwt]; (try dsimp only))
  conv at hst => rhs; whnf
  subst hst
  unfold PG at *
  revert X
  k_fill
  intro X
  have F₁ := fr_say (fr_say (fr_say F m1) ((if_neg (by decide)).trans m2)) ((if_neg (by decide)).trans ((if_neg (by decide)).trans m3))
  clear F m1 m2 m3
  have hTs := hT
  clear hT
  (with_reducible show wpAny _ _ _ _ _ _)
  k_steps
  all_goals (
    (rename Fr g9 L9 _ _ => lF); (rename News g9 L9 _ _ => lN)
    first
    | refine k _ [(_, _), (_, _)] _ _ _ lF lN (namePost_q ?_) tokAt_ref
    | refine k _ [(_, _), (_, _)] _ _ _ lF (fun p hp => lN p (List.mem_append_left _ hp)) (namePost_q ?_) tokAt_ref
    | refine k _ [] _ _ _ lF (fun p hp => nomatch hp) (namePost_s ?_) (tokAt_str ?_ ?_))
  all_goals first | rfl | exact br_empty | ((repeat (refine TokLo.step ?_)); assumption) | exact Nat.le_refl _
set_option maxRecDepth 100000 in
set_option maxHeartbeats 2000000 in
theorem nt_0 (w : World) (t1 t2 : Tok) (f : Int) (hf : 0 ≤ f ∧ f < 3) : CsT w 3 204 [] [.int 0 t1, .int f t2] (NamePost w (textOf 0)) := by
  k_with_none
  k_with "ite" => (k_closed; first | (with_reducible refine' ite_pos ?c ?_; (case c => decide)) | (with_reducible refine' ite_neg ?c ?_; (case c => decide)))
  k_with "execs cons" => (k_here; (rename TokLo _ _ => hT9); (refine' execs_cons_T (TokLo.any hT9 ?kt) ?_); (case kt => ((try dsimp only); k_dflt (repeat (first | exact Nat.le_refl _ | exact Nat.le_add_right _ _ | refine Nat.le_succ_of_le ?_)))); (try dsimp only))
  k_with "forall" => (intro tk9 e9 hT9; clear e9; (try dsimp only); (try k_fold))
  k_with "execs cons" => (k_here; (with_reducible show wpAny _ _ (execs [Stmt.If _ _ _ _, Stmt.If _ _ _ _, Stmt.Return _ _] _) _ _ _); with_reducible refine stopped7 ?_)
  unfold CsT PG
  k_fill
  intro mean mg mb dp un gd cn cs a ccd cl outer A₀ base h₀ L m s Q E B F X N T hk hd hu hret
  have hT0 := TokLo.refl s.toks
  refine wpAny_call ?_
  k_dflt (refine' code_defS ?k1 ?k2 ?k3 ?k4 ?k5 ?kA ?kF ?kK ?k6 ?k7 ?k8 ?k9 ?kB ?_ ?c2 ?c3 ?c4 ?c5; (case kA => exact rfl); (case kF => exact rfl); (case kK => assumption); (case k1 => k_asm); (case k2 => k_asm); (case k3 => k_asm); (case k4 => k_asm); (case k5 => k_asm); (case k6 => k_is); (case k7 => k_is); (case k8 => ktr_room); (case k9 => exact BindsTo.of_eq rfl); (case c5 => decide); (case kB => exact locs rfl); (case c2 => exact rfl); (case c3 => exact rfl); (case c4 => exact rfl); k_whole; intro g9 L9 h' hkp FG' F' N' B' X' T'; (try dsimp only); (try k_lift B'); (try k_fold))
  conv in (execs _ _) => arg 1; whnf
  k_steps
  refine Stopped7.of ?_
  (rename Fr g9 L9 _ _ => lF); (rename News g9 L9 _ _ => lN); (rename TokLo _ _ => hT8)
  refine' nt_tail w rfl hf ?z1 ?z2 ?z3 ?z4 ?z5 ?z6 ?z7 ?z8 ?z9 ?z10 B' X' T' hk hd hu ?m1 ?m2 ?m3 lF (fun p hp => nomatch hp) hT8 ?k
  case m1 => rfl
  case m2 => rfl
  case m3 => rfl
  case k =>
    intro r tl h8 tk8 m8 lF lN hp ht
    (try dsimp only)
    k_steps
    exact hret _ tl _ _ (cs_end (tl := tl) hkp lF lN (fun p hp => hp)).1 (cs_end (tl := tl) hkp lF lN (fun p hp => hp)).2 hp ht
  case z1 => decide +kernel
  case z2 => decide +kernel
  case z3 => decide +kernel
  case z4 => decide +kernel
  case z5 => decide +kernel
  case z6 => decide +kernel
  case z7 => decide +kernel
  case z8 => decide +kernel
  case z9 => decide +kernel
  case z10 => decide +kernel
set_option maxRecDepth 100000 in
set_option maxHeartbeats 2000000 in
theorem nt_1 (w : World) (t1 t2 : Tok) (f : Int) (hf : 0 ≤ f ∧ f < 3) : CsT w 3 204 [] [.int 1 t1, .int f t2] (NamePost w (textOf 1)) := by
  k_with_none
  k_with "ite" => (k_closed; first | (with_reducible refine' ite_pos ?c ?_; (case c => decide)) | (with_reducible refine' ite_neg ?c ?_; (case c => decide)))
  k_with "execs cons" => (k_here; (rename TokLo _ _ => hT9); (refine' execs_cons_T (TokLo.any hT9 ?kt) ?_); (case kt => ((try dsimp only); k_dflt (repeat (first | exact Nat.le_refl _ | exact Nat.le_add_right _ _ | refine Nat.le_succ_of_le ?_)))); (try dsimp only))
  k_with "forall" => (intro tk9 e9 hT9; clear e9; (try dsimp only); (try k_fold))
  k_with "execs cons" => (k_here; (with_reducible show wpAny _ _ (execs [Stmt.If _ _ _ _, Stmt.If _ _ _ _, Stmt.Return _ _] _) _ _ _); with_reducible refine stopped7 ?_)
  unfold CsT PG
  k_fill
  intro mean mg mb dp un gd cn cs a ccd cl outer A₀ base h₀ L m s Q E B F X N T hk hd hu hret
  have hT0 := TokLo.refl s.toks
  refine wpAny_call ?_
  k_dflt (refine' code_defS ?k1 ?k2 ?k3 ?k4 ?k5 ?kA ?kF ?kK ?k6 ?k7 ?k8 ?k9 ?kB ?_ ?c2 ?c3 ?c4 ?c5; (case kA => exact rfl); (case kF => exact rfl); (case kK => assumption); (case k1 => k_asm); (case k2 => k_asm); (case k3 => k_asm); (case k4 => k_asm); (case k5 => k_asm); (case k6 => k_is); (case k7 => k_is); (case k8 => ktr_room); (case k9 => exact BindsTo.of_eq rfl); (case c5 => decide); (case kB => exact locs rfl); (case c2 => exact rfl); (case c3 => exact rfl); (case c4 => exact rfl); k_whole; intro g9 L9 h' hkp FG' F' N' B' X' T'; (try dsimp only); (try k_lift B'); (try k_fold))
  conv in (execs _ _) => arg 1; whnf
  k_steps
  refine Stopped7.of ?_
  (rename Fr g9 L9 _ _ => lF); (rename News g9 L9 _ _ => lN); (rename TokLo _ _ => hT8)
  refine' nt_tail w rfl hf ?z1 ?z2 ?z3 ?z4 ?z5 ?z6 ?z7 ?z8 ?z9 ?z10 B' X' T' hk hd hu ?m1 ?m2 ?m3 lF (fun p hp => nomatch hp) hT8 ?k
  case m1 => rfl
  case m2 => rfl
  case m3 => rfl
  case k =>
    intro r tl h8 tk8 m8 lF lN hp ht
    (try dsimp only)
    k_steps
    exact hret _ tl _ _ (cs_end (tl := tl) hkp lF lN (fun p hp => hp)).1 (cs_end (tl := tl) hkp lF lN (fun p hp => hp)).2 hp ht
  case z1 => decide +kernel
  case z2 => decide +kernel
  case z3 => decide +kernel
  case z4 => decide +kernel
  case z5 => decide +kernel
  case z6 => decide +kernel
  case z7 => decide +kernel
  case z8 => decide +kernel
  case z9 => decide +kernel
  case z10 => decide +kernel
set_option maxRecDepth 100000 in
set_option maxHeartbeats 2000000 in
theorem nt_2 (w : World) (t1 t2 : Tok) (f : Int) (hf : 0 ≤ f ∧ f < 3) : CsT w 3 204 [] [.int 2 t1, .int f t2] (NamePost w (textOf 2)) := by
  k_with_none
  k_with "ite" => (k_closed; first | (with_reducible refine' ite_pos ?c ?_; (case c => decide)) | (with_reducible refine' ite_neg ?c ?_; (case c => decide)))
  k_with "execs cons" => (k_here; (rename TokLo _ _ => hT9); (refine' execs_cons_T (TokLo.any hT9 ?kt) ?_); (case kt => ((try dsimp only); k_dflt (repeat (first | exact Nat.le_refl _ | exact Nat.le_add_right _ _ | refine Nat.le_succ_of_le ?_)))); (try dsimp only))
  k_with "forall" => (intro tk9 e9 hT9; clear e9; (try dsimp only); (try k_fold))
  k_with "execs cons" => (k_here; (with_reducible show wpAny _ _ (execs [Stmt.If _ _ _ _, Stmt.If _ _ _ _, Stmt.Return _ _] _) _ _ _); with_reducible refine stopped7 ?_)
  unfold CsT PG
  k_fill
  intro mean mg mb dp un gd cn cs a ccd cl outer A₀ base h₀ L m s Q E B F X N T hk hd hu hret
  have hT0 := TokLo.refl s.toks
  refine wpAny_call ?_
  k_dflt (refine' code_defS ?k1 ?k2 ?k3 ?k4 ?k5 ?kA ?kF ?kK ?k6 ?k7 ?k8 ?k9 ?kB ?_ ?c2 ?c3 ?c4 ?c5; (case kA => exact rfl); (case kF => exact rfl); (case kK => assumption); (case k1 => k_asm); (case k2 => k_asm); (case k3 => k_asm); (case k4 => k_asm); (case k5 => k_asm); (case k6 => k_is); (case k7 => k_is); (case k8 => ktr_room); (case k9 => exact BindsTo.of_eq rfl); (case c5 => decide); (case kB => exact locs rfl); (case c2 => exact rfl); (case c3 => exact rfl); (case c4 => exact rfl); k_whole; intro g9 L9 h' hkp FG' F' N' B' X' T'; (try dsimp only); (try k_lift B'); (try k_fold))
  conv in (execs _ _) => arg 1; whnf
  k_steps
  refine Stopped7.of ?_
  (rename Fr g9 L9 _ _ => lF); (rename News g9 L9 _ _ => lN); (rename TokLo _ _ => hT8)
  refine' nt_tail w rfl hf ?z1 ?z2 ?z3 ?z4 ?z5 ?z6 ?z7 ?z8 ?z9 ?z10 B' X' T' hk hd hu ?m1 ?m2 ?m3 lF (fun p hp => nomatch hp) hT8 ?k
  case m1 => rfl
  case m2 => rfl
  case m3 => rfl
  case k =>
    intro r tl h8 tk8 m8 lF lN hp ht
    (try dsimp only)
    k_steps
    exact hret _ tl _ _ (cs_end (tl := tl) hkp lF lN (fun p hp => hp)).1 (cs_end (tl := tl) hkp lF lN (fun p hp => hp)).2 hp ht
  case z1 => decide +kernel
  case z2 => decide +kernel
  case z3 => decide +kernel
  case z4 => decide +kernel
  case z5 => decide +kernel
  case z6 => decide +kernel
  case z7 => decide +kernel
  case z8 => decide +kernel
  case z9 => decide +kernel
  case z10 => decide +kernel
set_option maxRecDepth 100000 in
set_option maxHeartbeats 2000000 in
theorem nt_3 (w : World) (t1 t2 : Tok) (f : Int) (hf : 0 ≤ f ∧ f < 3) : CsT w 3 204 [] [.int 3 t1, .int f t2] (NamePost w (textOf 3)) := by
  k_with_none
  k_with "ite" => (k_closed; first | (with_reducible refine' ite_pos ?c ?_; (case c => decide)) | (with_reducible refine' ite_neg ?c ?_; (case c => decide)))
  k_with "execs cons" => (k_here; (rename TokLo _ _ => hT9); (refine' execs_cons_T (TokLo.any hT9 ?kt) ?_); (case kt => ((try dsimp only); k_dflt (repeat (first | exact Nat.le_refl _ | exact Nat.le_add_right _ _ | refine Nat.le_succ_of_le ?_)))); (try dsimp only))
  k_with "forall" => (intro tk9 e9 hT9; clear e9; (try dsimp only); (try k_fold))
  k_with "execs cons" => (k_here; (with_reducible show wpAny _ _ (execs [Stmt.If _ _ _ _, Stmt.If _ _ _ _, Stmt.Return _ _] _) _ _ _); with_reducible refine stopped7 ?_)
  unfold CsT PG
  k_fill
  intro mean mg mb dp un gd cn cs a ccd cl outer A₀ base h₀ L m s Q E B F X N T hk hd hu hret
  have hT0 := TokLo.refl s.toks
  refine wpAny_call ?_
  k_dflt (refine' code_defS ?k1 ?k2 ?k3 ?k4 ?k5 ?kA ?kF ?kK ?k6 ?k7 ?k8 ?k9 ?kB ?_ ?c2 ?c3 ?c4 ?c5; (case kA => exact rfl); (case kF => exact rfl); (case kK => assumption); (case k1 => k_asm); (case k2 => k_asm); (case k3 => k_asm); (case k4 => k_asm); (case k5 => k_asm); (case k6 => k_is); (case k7 => k_is); (case k8 => ktr_room); (case k9 => exact BindsTo.of_eq rfl); (case c5 => decide); (case kB => exact locs rfl); (case c2 => exact rfl); (case c3 => exact rfl); (case c4 => exact rfl); k_whole; intro g9 L9 h' hkp FG' F' N' B' X' T'; (try dsimp only); (try k_lift B'); (try k_fold))
  conv in (execs _ _) => arg 1; whnf
  k_steps
  refine Stopped7.of ?_
  (rename Fr g9 L9 _ _ => lF); (rename News g9 L9 _ _ => lN); (rename TokLo _ _ => hT8)
  refine' nt_tail w rfl hf ?z1 ?z2 ?z3 ?z4 ?z5 ?z6 ?z7 ?z8 ?z9 ?z10 B' X' T' hk hd hu ?m1 ?m2 ?m3 lF (fun p hp => nomatch hp) hT8 ?k
  case m1 => rfl
  case m2 => rfl
  case m3 => rfl
  case k =>
    intro r tl h8 tk8 m8 lF lN hp ht
    (try dsimp only)
    k_steps
    exact hret _ tl _ _ (cs_end (tl := tl) hkp lF lN (fun p hp => hp)).1 (cs_end (tl := tl) hkp lF lN (fun p hp => hp)).2 hp ht
  case z1 => decide +kernel
  case z2 => decide +kernel
  case z3 => decide +kernel
  case z4 => decide +kernel
  case z5 => decide +kernel
  case z6 => decide +kernel
  case z7 => decide +kernel
  case z8 => decide +kernel
  case z9 => decide +kernel
  case z10 => decide +kernel
set_option maxRecDepth 100000 in
set_option maxHeartbeats 2000000 in
theorem nt_4 (w : World) (t1 t2 : Tok) (f : Int) (hf : 0 ≤ f ∧ f < 3) : CsT w 3 204 [] [.int 4 t1, .int f t2] (NamePost w (textOf 4)) := by
  k_with_none
  k_with "ite" => (k_closed; first | (with_reducible refine' ite_pos ?c ?_; (case c => decide)) | (with_reducible refine' ite_neg ?c ?_; (case c => decide)))
  k_with "execs cons" => (k_here; (rename TokLo _ _ => hT9); (refine' execs_cons_T (TokLo.any hT9 ?kt) ?_); (case kt => ((try dsimp only); k_dflt (repeat (first | exact Nat.le_refl _ | exact Nat.le_add_right _ _ | refine Nat.le_succ_of_le ?_)))); (try dsimp only))
  k_with "forall" => (intro tk9 e9 hT9; clear e9; (try dsimp only); (try k_fold))
  k_with "execs cons" => (k_here; (with_reducible show wpAny _ _ (execs [Stmt.If _ _ _ _, Stmt.If _ _ _ _, Stmt.Return _ _] _) _ _ _); with_reducible refine stopped7 ?_)
  unfold CsT PG
  k_fill
  intro mean mg mb dp un gd cn cs a ccd cl outer A₀ base h₀ L m s Q E B F X N T hk hd hu hret
  have hT0 := TokLo.refl s.toks
  refine wpAny_call ?_
  k_dflt (refine' code_defS ?k1 ?k2 ?k3 ?k4 ?k5 ?kA ?kF ?kK ?k6 ?k7 ?k8 ?k9 ?kB ?_ ?c2 ?c3 ?c4 ?c5; (case kA => exact rfl); (case kF => exact rfl); (case kK => assumption); (case k1 => k_asm); (case k2 => k_asm); (case k3 => k_asm); (case k4 => k_asm); (case k5 => k_asm); (case k6 => k_is); (case k7 => k_is); (case k8 => ktr_room); (case k9 => exact BindsTo.of_eq rfl); (case c5 => decide); (case kB => exact locs rfl); (case c2 => exact rfl); (case c3 => exact rfl); (case c4 => exact rfl); k_whole; intro g9 L9 h' hkp FG' F' N' B' X' T'; (try dsimp only); (try k_lift B'); (try k_fold))
  conv in (execs _ _) => arg 1; whnf
  k_steps
  refine Stopped7.of ?_
  (rename Fr g9 L9 _ _ => lF); (rename News g9 L9 _ _ => lN); (rename TokLo _ _ => hT8)
  refine' nt_tail w rfl hf ?z1 ?z2 ?z3 ?z4 ?z5 ?z6 ?z7 ?z8 ?z9 ?z10 B' X' T' hk hd hu ?m1 ?m2 ?m3 lF (fun p hp => nomatch hp) hT8 ?k
  case m1 => rfl
  case m2 => rfl
  case m3 => rfl
  case k =>
    intro r tl h8 tk8 m8 lF lN hp ht
    (try dsimp only)
    k_steps
    exact hret _ tl _ _ (cs_end (tl := tl) hkp lF lN (fun p hp => hp)).1 (cs_end (tl := tl) hkp lF lN (fun p hp => hp)).2 hp ht
  case z1 => decide +kernel
  case z2 => decide +kernel
  case z3 => decide +kernel
  case z4 => decide +kernel
  case z5 => decide +kernel
  case z6 => decide +kernel
  case z7 => decide +kernel
  case z8 => decide +kernel
  case z9 => decide +kernel
  case z10 => decide +kernel
set_option maxRecDepth 100000 in
set_option maxHeartbeats 2000000 in
theorem nt_5 (w : World) (t1 t2 : Tok) (f : Int) (hf : 0 ≤ f ∧ f < 3) : CsT w 3 204 [] [.int 5 t1, .int f t2] (NamePost w (textOf 5)) := by
  k_with_none
  k_with "ite" => (k_closed; first | (with_reducible refine' ite_pos ?c ?_; (case c => decide)) | (with_reducible refine' ite_neg ?c ?_; (case c => decide)))
  k_with "execs cons" => (k_here; (rename TokLo _ _ => hT9); (refine' execs_cons_T (TokLo.any hT9 ?kt) ?_); (case kt => ((try dsimp only); k_dflt (repeat (first | exact Nat.le_refl _ | exact Nat.le_add_right _ _ | refine Nat.le_succ_of_le ?_)))); (try dsimp only))
  k_with "forall" => (intro tk9 e9 hT9; clear e9; (try dsimp only); (try k_fold))
  k_with "execs cons" => (k_here; (with_reducible show wpAny _ _ (execs [Stmt.If _ _ _ _, Stmt.If _ _ _ _, Stmt.Return _ _] _) _ _ _); with_reducible refine stopped7 ?_)
  unfold CsT PG
  k_fill
  intro mean mg mb dp un gd cn cs a ccd cl outer A₀ base h₀ L m s Q E B F X N T hk hd hu hret
  have hT0 := TokLo.refl s.toks
  refine wpAny_call ?_
  k_dflt (refine' code_defS ?k1 ?k2 ?k3 ?k4 ?k5 ?kA ?kF ?kK ?k6 ?k7 ?k8 ?k9 ?kB ?_ ?c2 ?c3 ?c4 ?c5; (case kA => exact rfl); (case kF => exact rfl); (case kK => assumption); (case k1 => k_asm); (case k2 => k_asm); (case k3 => k_asm); (case k4 => k_asm); (case k5 => k_asm); (case k6 => k_is); (case k7 => k_is); (case k8 => ktr_room); (case k9 => exact BindsTo.of_eq rfl); (case c5 => decide); (case kB => exact locs rfl); (case c2 => exact rfl); (case c3 => exact rfl); (case c4 => exact rfl); k_whole; intro g9 L9 h' hkp FG' F' N' B' X' T'; (try dsimp only); (try k_lift B'); (try k_fold))
  conv in (execs _ _) => arg 1; whnf
  k_steps
  refine Stopped7.of ?_
  (rename Fr g9 L9 _ _ => lF); (rename News g9 L9 _ _ => lN); (rename TokLo _ _ => hT8)
  refine' nt_tail w rfl hf ?z1 ?z2 ?z3 ?z4 ?z5 ?z6 ?z7 ?z8 ?z9 ?z10 B' X' T' hk hd hu ?m1 ?m2 ?m3 lF (fun p hp => nomatch hp) hT8 ?k
  case m1 => rfl
  case m2 => rfl
  case m3 => rfl
  case k =>
    intro r tl h8 tk8 m8 lF lN hp ht
    (try dsimp only)
    k_steps
    exact hret _ tl _ _ (cs_end (tl := tl) hkp lF lN (fun p hp => hp)).1 (cs_end (tl := tl) hkp lF lN (fun p hp => hp)).2 hp ht
  case z1 => decide +kernel
  case z2 => decide +kernel
  case z3 => decide +kernel
  case z4 => decide +kernel
  case z5 => decide +kernel
  case z6 => decide +kernel
  case z7 => decide +kernel
  case z8 => decide +kernel
  case z9 => decide +kernel
  case z10 => decide +kernel
set_option maxRecDepth 100000 in
set_option maxHeartbeats 2000000 in
theorem nt_6 (w : World) (t1 t2 : Tok) (f : Int) (hf : 0 ≤ f ∧ f < 3) : CsT w 3 204 [] [.int 6 t1, .int f t2] (NamePost w (textOf 6)) := by
  k_with_none
  k_with "ite" => (k_closed; first | (with_reducible refine' ite_pos ?c ?_; (case c => decide)) | (with_reducible refine' ite_neg ?c ?_; (case c => decide)))
  k_with "execs cons" => (k_here; (rename TokLo _ _ => hT9); (refine' execs_cons_T (TokLo.any hT9 ?kt) ?_); (case kt => ((try dsimp only); k_dflt (repeat (first | exact Nat.le_refl _ | exact Nat.le_add_right _ _ | refine Nat.le_succ_of_le ?_)))); (try dsimp only))
  k_with "forall" => (intro tk9 e9 hT9; clear e9; (try dsimp only); (try k_fold))
  k_with "execs cons" => (k_here; (with_reducible show wpAny _ _ (execs [Stmt.If _ _ _ _, Stmt.If _ _ _ _, Stmt.Return _ _] _) _ _ _); with_reducible refine stopped7 ?_)
  unfold CsT PG
  k_fill
  intro mean mg mb dp un gd cn cs a ccd cl outer A₀ base h₀ L m s Q E B F X N T hk hd hu hret
  have hT0 := TokLo.refl s.toks
  refine wpAny_call ?_
  k_dflt (refine' code_defS ?k1 ?k2 ?k3 ?k4 ?k5 ?kA ?kF ?kK ?k6 ?k7 ?k8 ?k9 ?kB ?_ ?c2 ?c3 ?c4 ?c5; (case kA => exact rfl); (case kF => exact rfl); (case kK => assumption); (case k1 => k_asm); (case k2 => k_asm); (case k3 => k_asm); (case k4 => k_asm); (case k5 => k_asm); (case k6 => k_is); (case k7 => k_is); (case k8 => ktr_room); (case k9 => exact BindsTo.of_eq rfl); (case c5 => decide); (case kB => exact locs rfl); (case c2 => exact rfl); (case c3 => exact rfl); (case c4 => exact rfl); k_whole; intro g9 L9 h' hkp FG' F' N' B' X' T'; (try dsimp only); (try k_lift B'); (try k_fold))
  conv in (execs _ _) => arg 1; whnf
  k_steps
  refine Stopped7.of ?_
  (rename Fr g9 L9 _ _ => lF); (rename News g9 L9 _ _ => lN); (rename TokLo _ _ => hT8)
  refine' nt_tail w rfl hf ?z1 ?z2 ?z3 ?z4 ?z5 ?z6 ?z7 ?z8 ?z9 ?z10 B' X' T' hk hd hu ?m1 ?m2 ?m3 lF (fun p hp => nomatch hp) hT8 ?k
  case m1 => rfl
  case m2 => rfl
  case m3 => rfl
  case k =>
    intro r tl h8 tk8 m8 lF lN hp ht
    (try dsimp only)
    k_steps
    exact hret _ tl _ _ (cs_end (tl := tl) hkp lF lN (fun p hp => hp)).1 (cs_end (tl := tl) hkp lF lN (fun p hp => hp)).2 hp ht
  case z1 => decide +kernel
  case z2 => decide +kernel
  case z3 => decide +kernel
  case z4 => decide +kernel
  case z5 => decide +kernel
  case z6 => decide +kernel
  case z7 => decide +kernel
  case z8 => decide +kernel
  case z9 => decide +kernel
  case z10 => decide +kernel
set_option maxRecDepth 100000 in
set_option maxHeartbeats 2000000 in
theorem nt_7 (w : World) (t1 t2 : Tok) (f : Int) (hf : 0 ≤ f ∧ f < 3) : CsT w 3 204 [] [.int 7 t1, .int f t2] (NamePost w (textOf 7)) := by
  k_with_none
  k_with "ite" => (k_closed; first | (with_reducible refine' ite_pos ?c ?_; (case c => decide)) | (with_reducible refine' ite_neg ?c ?_; (case c => decide)))
  k_with "execs cons" => (k_here; (rename TokLo _ _ => hT9); (refine' execs_cons_T (TokLo.any hT9 ?kt) ?_); (case kt => ((try dsimp only); k_dflt (repeat (first | exact Nat.le_refl _ | exact Nat.le_add_right _ _ | refine Nat.le_succ_of_le ?_)))); (try dsimp only))
  k_with "forall" => (intro tk9 e9 hT9; clear e9; (try dsimp only); (try k_fold))
  k_with "execs cons" => (k_here; (with_reducible show wpAny _ _ (execs [Stmt.If _ _ _ _, Stmt.If _ _ _ _, Stmt.Return _ _] _) _ _ _); with_reducible refine stopped7 ?_)
  unfold CsT PG
  k_fill
  intro mean mg mb dp un gd cn cs a ccd cl outer A₀ base h₀ L m s Q E B F X N T hk hd hu hret
  have hT0 := TokLo.refl s.toks
  refine wpAny_call ?_
  k_dflt (refine' code_defS ?k1 ?k2 ?k3 ?k4 ?k5 ?kA ?kF ?kK ?k6 ?k7 ?k8 ?k9 ?kB ?_ ?c2 ?c3 ?c4 ?c5; (case kA => exact rfl); (case kF => exact rfl); (case kK => assumption); (case k1 => k_asm); (case k2 => k_asm); (case k3 => k_asm); (case k4 => k_asm); (case k5 => k_asm); (case k6 => k_is); (case k7 => k_is); (case k8 => ktr_room); (case k9 => exact BindsTo.of_eq rfl); (case c5 => decide); (case kB => exact locs rfl); (case c2 => exact rfl); (case c3 => exact rfl); (case c4 => exact rfl); k_whole; intro g9 L9 h' hkp FG' F' N' B' X' T'; (try dsimp only); (try k_lift B'); (try k_fold))
  conv in (execs _ _) => arg 1; whnf
  k_steps
  refine Stopped7.of ?_
  (rename Fr g9 L9 _ _ => lF); (rename News g9 L9 _ _ => lN); (rename TokLo _ _ => hT8)
  refine' nt_tail w rfl hf ?z1 ?z2 ?z3 ?z4 ?z5 ?z6 ?z7 ?z8 ?z9 ?z10 B' X' T' hk hd hu ?m1 ?m2 ?m3 lF (fun p hp => nomatch hp) hT8 ?k
  case m1 => rfl
  case m2 => rfl
  case m3 => rfl
  case k =>
    intro r tl h8 tk8 m8 lF lN hp ht
    (try dsimp only)
    k_steps
    exact hret _ tl _ _ (cs_end (tl := tl) hkp lF lN (fun p hp => hp)).1 (cs_end (tl := tl) hkp lF lN (fun p hp => hp)).2 hp ht
  case z1 => decide +kernel
  case z2 => decide +kernel
  case z3 => decide +kernel
  case z4 => decide +kernel
  case z5 => decide +kernel
  case z6 => decide +kernel
  case z7 => decide +kernel
  case z8 => decide +kernel
  case z9 => decide +kernel
  case z10 => decide +kernel
theorem nt (w : World) (t1 t2 : Tok) (d f : Int) (hd : 0 ≤ d ∧ d < 8) (hf : 0 ≤ f ∧ f < 3) : CsT w 3 204 [] [.int d t1, .int f t2] (NamePost w (textOf d.toNat)) := by
  have h : d = 0 ∨ d = 1 ∨ d = 2 ∨ d = 3 ∨ d = 4 ∨ d = 5 ∨ d = 6 ∨ d = 7 := by omega
  rcases h with rfl | rfl | rfl | rfl | rfl | rfl | rfl | rfl
  · exact nt_0 w t1 t2 f hf
  · exact nt_1 w t1 t2 f hf
  · exact nt_2 w t1 t2 f hf
  · exact nt_3 w t1 t2 f hf
  · exact nt_4 w t1 t2 f hf
  · exact nt_5 w t1 t2 f hf
  · exact nt_6 w t1 t2 f hf
  · exact nt_7 w t1 t2 f hf
end Mine
end
section
open PySem PySem.W PyProof.Rows PySem.Calls PySem.Flt
namespace Mine
theorem namePost_in {w : World} {t : Str} {v : Value} {tl : List (Addr × Obj)} (h : NamePost w t v tl) : NameIn w tl v t := by
  rcases h with ⟨_, tk, rfl⟩ | ⟨x, dx, t1, t2, rfl, rfl⟩
  · exact .inl ⟨tk, rfl⟩
  · exact .inr ⟨x, dx, t1, t2, rfl, .head _, .tail _ (.head _)⟩
theorem NamesIn.snoc {w : World} {led : List (Addr × Obj)} {v : Value} {t : Str} : ∀ {vs : List Value} {ts : List Str}, NamesIn w led vs ts → NameIn w led v t → NamesIn w led (vs ++ [v]) (ts ++ [t])
  | [], [], _, h => ⟨h, trivial⟩
  | _ :: _, _ :: _, hs, h => ⟨hs.1, NamesIn.snoc hs.2 h⟩
  | [], _ :: _, hs, _ => hs.elim
  | _ :: _, [], hs, _ => hs.elim
theorem fm3 (x : Int) : 0 ≤ x.fmod 3 ∧ x.fmod 3 < 3 := by rw [Int.fmod_eq_emod_of_nonneg _ (by decide)]; omega
theorem TokAt.widen {a b c d : Nat} {v : Value} (h : TokAt b c v) (h1 : a ≤ b) (h2 : c ≤ d) : TokAt a d v := fun t k e => ⟨Nat.le_trans h1 (h t k e).1, Nat.lt_of_lt_of_le (h t k e).2 h2⟩
theorem snoc_tok {a b : Nat} {ys : List Value} {y : Value} (h : ∀ x ∈ ys, TokAt a b x) (hy : TokAt a b y) : ∀ x ∈ ys ++ [y], TokAt a b x := fun x hx => by
  rcases List.mem_append.mp hx with h' | h'
  · exact h x h'
  · rw [List.mem_singleton.mp h']; exact hy
/-- an element that is a name: the turn of the wheel's comprehension -/
theorem elt_name {w : World} {h₀ h' : Heap} {L : Addr} {m : Str → Option Value} {s : Shared} {tk₁ tc tk lo : Nat} {I C D : Addr} {oI oC oD : Obj} {pre base tl : List (Addr × Obj)} {ys : List Value} {ts : List Str} {y : Value} {t : Str}
    (F : Fr h₀ L h' m) (N : News h₀ L h' (tl ++ (I, oI) :: (C, oC) :: (D, oD) :: (pre ++ base))) (hl : ∀ q ∈ (I, oI) :: (C, oC) :: (D, oD) :: (pre ++ base), ∀ p ∈ tl, @Ne Nat q.1 p.1) (off : ∀ p ∈ pre ++ base, @Ne Nat p.1 I ∧ @Ne Nat p.1 C ∧ @Ne Nat p.1 D)
    (ho : ∀ p ∈ pre, ∀ q ∈ base, @Ne Nat p.1 q.1) (hn : NamesIn w pre ys ts) (ht : ∀ x ∈ ys, TokAt lo tk₁ x) (hp : NamePost w t y tl) (hy : TokAt tc tk y) (hc : lo ≤ tc) :
    EltT h₀ L m s tk₁ [(I, oI), (C, oC), (D, oD)] (fun y nw tk => ∃ pre, nw = pre ++ base ∧ (∀ p ∈ pre, ∀ q ∈ base, @Ne Nat p.1 q.1) ∧ NamesIn w pre (ys ++ [y]) (ts ++ [t]) ∧ ∀ x ∈ ys ++ [y], TokAt lo tk x) y { s with heap := h', toks := tk } := by
  refine ⟨h', tk, tl ++ (pre ++ base), rfl, F, fun p hp => ?_, fun p hp q hq => ?_, fun hle => ⟨tl ++ pre, (List.append_assoc ..).symm, (fun p hp q hq => (List.mem_append.mp hp).elim (fun h => Ne.symm (hl q (.tail _ (.tail _ (.tail _ (List.mem_append_right _ hq)))) p h)) fun h => ho p h q hq), NamesIn.snoc (hn.mono fun p hp => List.mem_append_right _ hp) ((namePost_in hp).mono fun p hp => List.mem_append_left _ hp), snoc_tok (fun x hx => (ht x hx).widen (Nat.le_refl _) hle) (hy.widen hc (Nat.le_refl _))⟩⟩
  · refine N p ?_
    rcases List.mem_append.mp hp with h | h
    · exact List.mem_append_right _ (by
        rcases List.mem_cons.mp h with rfl | h
        · exact .head _
        rcases List.mem_cons.mp h with rfl | h
        · exact .tail _ (.head _)
        · rw [List.mem_singleton.mp h]; exact .tail _ (.tail _ (.head _)))
    · rcases List.mem_append.mp h with h | h
      · exact List.mem_append_left _ h
      · exact List.mem_append_right _ (.tail _ (.tail _ (.tail _ h)))
  · rcases List.mem_append.mp hp with h | h
    · refine Ne.symm (hl q ?_ p h)
      rcases List.mem_cons.mp hq with rfl | hq
      · exact .head _
      rcases List.mem_cons.mp hq with rfl | hq
      · exact .tail _ (.head _)
      · rw [List.mem_singleton.mp hq]; exact .tail _ (.tail _ (.head _))
    · have o := off p h
      rcases List.mem_cons.mp hq with rfl | hq
      · exact o.1
      rcases List.mem_cons.mp hq with rfl | hq
      · exact o.2.1
      · rw [List.mem_singleton.mp hq]; exact o.2.2
end Mine
end
section
open PySem PySem.W PyProof.Rows PySem.Calls PySem.Flt
namespace Mine
section
variable {M : Model} {A : Around} {E : Value → Shared → Prop} {s : Shared} {h₀ : Heap} {L a : Addr} {m : Str → Option Value} {cn : Str} {cs : Scope} {ccd : Value} {cl : List (Str × Addr)}
  {x : Str} {v : Value} {Q : Unit → Shared → Prop} {nw : List (Addr × Obj)} {c : Addr} {o : Obj} {v₀ : Option Value}
/-- a cell of the frame is given a value; the rest of the ledger that is named stands -/
theorem storeC (nw' : List (Addr × Obj)) (F : Fr h₀ L s.heap m) (N : News h₀ L s.heap nw) (hc : cl.lookup x = some c) (hm : (c, o) ∈ nw) (hd : o.data = .cell v₀) (hsub : ∀ p ∈ nw', p ∈ nw ∧ @Ne Nat p.1 c)
    (h : ∀ h' o', Fr h₀ L h' m → o'.data = .cell (some v) → News h₀ L h' ((c, o') :: nw') → Q () { s with heap := h' })
    (hk : cs.kind = .function := by rfl) (hx : (envX cn cs L a ccd cl).kindOf x = some .cell := by rfl) : wpAny M A (storeName (envX cn cs L a ccd cl) x v) Q E s := by
  have hmem := N (c, o) hm
  refine wpAny_storeName_cell hk hx hc ⟨o, hmem.1, hd⟩ fun h' hv hs => ?_
  obtain ⟨o', ho', hd'⟩ := hv
  refine h h' o' ⟨F.ns.sameBut hs (Ne.symm hmem.2.1), fun b ob e => (hs.2 b (fun q => ?_)).trans (F.keep b ob e), F.above⟩ hd' fun p hp => ?_
  · rw [q, hmem.2.2] at e; cases e
  · rcases List.mem_cons.mp hp with rfl | hp
    · exact ⟨ho', hmem.2⟩
    · have := N p (hsub p hp).1
      exact ⟨hs.extBut _ _ (hsub p hp).2 this.1, this.2⟩
end
/-- two entries of a ledger whose objects differ lie apart -/
theorem apart_of {h₀ h : Heap} {L : Addr} {nw : List (Addr × Obj)} {p q : Addr × Obj} (N : News h₀ L h nw) (hp : p ∈ nw) (hq : q ∈ nw) (ne : p.2 ≠ q.2) : @Ne Nat p.1 q.1 := fun e => by
  have h1 := (N p hp).1
  have h2 := (N q hq).1
  have h3 : h.get? p.1 = h.get? q.1 := by rw [show p.1 = q.1 from e]
  rw [h1, h2] at h3
  exact ne (Option.some.inj h3)
end Mine
namespace Mine
theorem elt_keep {h₀ h' : Heap} {L : Addr} {m : Str → Option Value} {s : Shared} {lo tk : Nat} {own nw : List (Addr × Obj)} {J : Value → List (Addr × Obj) → Nat → Prop} {y : Value}
    (F : Fr h₀ L h' m) (N : News h₀ L h' (own ++ nw)) (off : ∀ p ∈ nw, ∀ q ∈ own, @Ne Nat p.1 q.1) (j : lo ≤ tk → J y nw tk) : EltT h₀ L m s lo own J y { s with heap := h', toks := tk } := ⟨h', tk, nw, rfl, F, N, off, j⟩
theorem off3 {nw : List (Addr × Obj)} {I C D : Addr} {oI oC oD : Obj} (h : ∀ p ∈ nw, @Ne Nat p.1 I ∧ @Ne Nat p.1 C ∧ @Ne Nat p.1 D) : ∀ p ∈ nw, ∀ q ∈ [(I, oI), (C, oC), (D, oD)], @Ne Nat p.1 q.1 := fun p hp q hq => by
  rcases List.mem_cons.mp hq with rfl | hq
  · exact (h p hp).1
  rcases List.mem_cons.mp hq with rfl | hq
  · exact (h p hp).2.1
  · rw [List.mem_singleton.mp hq]; exact (h p hp).2.2
theorem off4l {nw : List (Addr × Obj)} {I C K D : Addr} {oI oC oK oD : Obj} (h : ∀ p ∈ nw, @Ne Nat p.1 I ∧ @Ne Nat p.1 C ∧ @Ne Nat p.1 K ∧ @Ne Nat p.1 D) : ∀ p ∈ nw, ∀ q ∈ [(I, oI), (C, oC), (K, oK), (D, oD)], @Ne Nat p.1 q.1 := fun p hp q hq => by
  rcases List.mem_cons.mp hq with rfl | hq
  · exact (h p hp).1
  rcases List.mem_cons.mp hq with rfl | hq
  · exact (h p hp).2.1
  rcases List.mem_cons.mp hq with rfl | hq
  · exact (h p hp).2.2.1
  · rw [List.mem_singleton.mp hq]; exact (h p hp).2.2.2
theorem ints_snoc {α : Type} {zs : List Value} {ts : List α} {j : Nat} {t : α} {f : α → Int} {x : Int} {u : Tok} (hi : IntsAre zs ((ts.take j).map f)) (ht : ts[j]? = some t) (e : x = f t) : IntsAre (zs ++ [.int x u]) ((ts.take (j + 1)).map f) := by
  rw [List.take_add_one, ht, List.map_append, e]
  exact PyProof.Rows.IntsAre.append hi (.cons _ _ .nil)
end Mine
namespace Mine
theorem sum_T {prog : Program} {w : World} {A : Around} {E : Value → Shared → Prop} {s : Shared} {h₀ : Heap} {L l : Addr} {m : Str → Option Value} {news : List (Addr × Obj)} {vs : List Value} {ns : List Int} {Q : Value → Shared → Prop} (n : Nat) (hT : TokLo n s.toks)
    (F : Fr h₀ L s.heap m) (N : News h₀ L s.heap ((l, LCg.lst vs) :: news)) (hh : A.handled = none) (hi : IntsAre vs ns)
    (h : ∀ h' tk t', TokLo n tk → Fr h₀ L h' m → News h₀ L h' news → Q (.int ns.sum t') { s with heap := h', toks := tk }) : wpAny (model prog w) A (call (.builtin "sum") [.ref l]) Q E s :=
  wpAny_with_toks hT (LSm.sum_ints F N hh ⟨_, (N _ (.head _)).1, rfl, _, rfl⟩ hi fun h' tk t' F' N' hle => h h' tk t' hle F' fun p hp => N' p (.tail _ hp))
theorem tokI_made {a : Int} {n tk : Nat} (h : TokLo n tk) : TokI n (tk + 1) (.int a tk) := fun b t e => by
  injection e with _ e
  subst e
  exact ⟨h, Nat.lt_succ_self _⟩
theorem snoc_tokI {a b : Nat} {ys : List Value} {y : Value} (h : ∀ x ∈ ys, TokI a b x) (hy : TokI a b y) : ∀ x ∈ ys ++ [y], TokI a b x := fun x hx => by
  rcases List.mem_append.mp hx with h' | h'
  · exact h x h'
  · rw [List.mem_singleton.mp h']; exact hy
theorem TokI.widen {a b c d : Nat} {v : Value} (h : TokI b c v) (h1 : a ≤ b) (h2 : c ≤ d) : TokI a d v := fun t k e => ⟨Nat.le_trans h1 (h t k e).1, Nat.lt_of_lt_of_le (h t k e).2 h2⟩
end Mine
namespace Mine
theorem six_ints {vs : List Value} {a b c d e f : Int} (h : IntsAre vs [a, b, c, d, e, f]) : ∃ t1 t2 t3 t4 t5 t6, vs = [.int a t1, .int b t2, .int c t3, .int d t4, .int e t5, .int f t6] := by
  obtain ⟨t1, v1, e1, q1⟩ := h.cons_inv
  obtain ⟨t2, v2, e2, q2⟩ := q1.cons_inv
  obtain ⟨t3, v3, e3, q3⟩ := q2.cons_inv
  obtain ⟨t4, v4, e4, q4⟩ := q3.cons_inv
  obtain ⟨t5, v5, e5, q5⟩ := q4.cons_inv
  obtain ⟨t6, v6, e6, q6⟩ := q5.cons_inv
  have e7 := q6.nil_inv
  exact ⟨t1, t2, t3, t4, t5, t6, by rw [e1, e2, e3, e4, e5, e6, e7]⟩
theorem three_ints {vs : List Value} {a b c : Int} (h : IntsAre vs [a, b, c]) : ∃ t1 t2 t3, vs = [.int a t1, .int b t2, .int c t3] := by
  obtain ⟨t1, v1, e1, q1⟩ := h.cons_inv
  obtain ⟨t2, v2, e2, q2⟩ := q1.cons_inv
  obtain ⟨t3, v3, e3, q3⟩ := q2.cons_inv
  have e7 := q3.nil_inv
  exact ⟨t1, t2, t3, by rw [e1, e2, e3, e7]⟩
end Mine
namespace Mine
/-- the first eight cells -/
theorem slice8 {prog : Program} {w : World} {A : Around} {E : Value → Shared → Prop} {s : Shared} {h₀ : Heap} {L : Addr} {m : Str → Option Value} {news : List (Addr × Obj)} {value slice : Expr} {C : Addr} {lo : Obj} {its : Array Value} {n : Nat} {cs : List Int} {t : Tok} {Q : Value → Shared → Prop}
    (F : Fr h₀ L s.heap m) (N : News h₀ L s.heap news) (hm : (C, lo) ∈ news) (hc : lo.cls = .type "list") (hd : lo.data = .seq its n) (hi : IntsAre its.toList cs) (hn : cs.length = 12) (hb : ∀ c ∈ cs, 0 ≤ c ∧ c < 120)
    (h : ∀ h' l vs ns, IntsAre vs ns → ns.length = 8 → (∀ c ∈ ns, 0 ≤ c ∧ c < 120) → (∀ p ∈ news, @Ne Nat p.1 l) → Fr h₀ L h' m → News h₀ L h' ((l, { cls := .type "list", data := .seq vs.toArray }) :: news) → Q (.ref l) { s with heap := h' })
    (hs : subscripted slice false (.ref C) (.ref s.heap.objs.size) = operate [.ref s.heap.objs.size, .ref C] (getItem (.ref C) (.ref s.heap.objs.size)) := by with_unfolding_all rfl)
    (ht : ∀ r, letTemporaryGo value (.ref C) r = pure () := by intro _; with_unfolding_all rfl) :
    wpAny (model prog w) A (subscriptTail value slice (.ref C) (.ref s.heap.objs.size)) Q E { s with heap := s.heap.push { cls := .type "slice", data := .fields #[.none, .int 8 t, .none] } } := by
  have hsz : its.size = 12 := by have := hi.length; simp at this; omega
  refine slice_list F N ⟨lo, (N _ hm).1, hc, n, hd⟩ .none (.int 8 t) (fun h' F' N' => ?_) hs ht (by rw [hsz]; decide)
  have hp := hi.pick none (some 8) none
  have e : pickNums cs none (some 8) none = [0, 1, 2, 3, 4, 5, 6, 7].filterMap (cs[·]?) := by
    unfold pickNums
    rw [hn]
    rfl
  rw [Array.toArray_toList] at hp
  refine h h' _ (slicePick its none (some 8) none).toList (pickNums cs none (some 8) none) hp ?_ ?_ (fun p hp => ktu_ne 1 (Heap.lt_size (N p hp).1)) F' (by simpa using N')
  · rw [e]
    match cs, hn with
    | [a, b, c, d, e, f, g, h, i, j, k, l], _ => rfl
  · intro c hc
    rw [e] at hc
    obtain ⟨i, _, hi'⟩ := List.mem_filterMap.mp hc
    exact hb c (List.mem_of_getElem? hi')
end Mine
end
section
open PySem PySem.W PyProof.Rows PySem.Calls PySem.Flt
namespace Mine
/-- a contract that wants an object at the ledger's head holds wherever it stands -/
theorem Ct.mem {w : World} {D : Nat} {f : Addr} {vs : List Value} {Post : Value → List (Addr × Obj) → Prop} {l : Addr} {o : Obj} {news : List (Addr × Obj)} (C : ∀ news, Ct w D f ((l, o) :: news) vs Post) (hm : (l, o) ∈ news) : Ct w D f news vs Post := by
  intro mean mg mb dp un gd cn cs a ccd cl outer A₀ base h₀ L m s Q E B F X N T hk hd hu hret
  refine C news mean mg mb dp un gd cn cs a ccd cl outer A₀ base h₀ L m s Q E B F X (fun p hp => ?_) T hk hd hu fun r tl h' tk' F' N' off' hp => hret r tl h' tk' F' (fun p hp => N' p ?_) (fun q hq => off' q (.tail _ hq)) hp
  · rcases List.mem_cons.mp hp with rfl | hp
    · exact N _ hm
    · exact N _ hp
  · rcases List.mem_append.mp hp with hp | hp
    · exact List.mem_append_left _ hp
    · exact List.mem_append_right _ (.tail _ hp)
theorem Ct.post {w : World} {D : Nat} {f : Addr} {vs : List Value} {P Q : Value → List (Addr × Obj) → Prop} {news : List (Addr × Obj)} (C : Ct w D f news vs P) (h : ∀ r tl, P r tl → Q r tl) : Ct w D f news vs Q := by
  intro mean mg mb dp un gd cn cs a ccd cl outer A₀ base h₀ L m s Q E B F X N T hk hd hu hret
  exact C mean mg mb dp un gd cn cs a ccd cl outer A₀ base h₀ L m s Q E B F X N T hk hd hu fun r tl h' tk' F' N' off' hp => hret r tl h' tk' F' N' off' (h r tl hp)
noncomputable abbrev lst3 (x y z : Int) (t1 t2 t3 : Tok) (n : Nat) : Obj := { cls := .type "list", data := .seq #[.int x t1, .int y t2, .int z t3] n }
noncomputable abbrev tup3 (x y z : UInt64) (t1 t2 t3 : Tok) : Obj := { cls := .type "tuple", data := .seq #[.float x t1, .float y t2, .float z t3] }
noncomputable def hueX (x y z : Int) : UInt64 := if mn3 x y z < mx3 x y z then hueOf (pt x) (pt y) (pt z) else 0
noncomputable def satX (x y z : Int) : UInt64 := if mn3 x y z < mx3 x y z then satOf (pt x) (pt y) (pt z) else 0
noncomputable def depX (x y z : Int) : UInt64 := if mn3 x y z < mx3 x y z then depthOf (pt x) (pt y) (pt z) else 0
/-- the whole parts of a float -/
noncomputable def WholeIs (p : UInt64) (n : Int) : Prop := wholeOf p = n ∧ Float64.isFinite (Float64.add (Float64.mul p (Float64.ofInt 64)) chalf) = true
noncomputable def Parts (a b c : Int) (v : Value) (tl : List (Addr × Obj)) : Prop := ∃ p q r, Flts3 p q r v tl ∧ WholeIs p a ∧ WholeIs q b ∧ WholeIs r c
section
variable {x y z : Int} (hx : 0 ≤ x ∧ x ≤ 60) (hy : 0 ≤ y ∧ y ≤ 60) (hz : 0 ≤ z ∧ z ≤ 60) (w : World) (news : List (Addr × Obj)) (t1 t2 t3 : Tok)
include hx hy hz
theorem hsvX_ct : Ct w 1 105 news [.float (pt x) t1, .float (pt y) t2, .float (pt z) t3] (Flts3 (hueX x y z) (satX x y z) (fmax3 (pt x) (pt y) (pt z))) := by
  unfold hueX satX
  by_cases hd : mn3 x y z < mx3 x y z
  · simp only [if_pos hd]
    exact hsv_ct w news _ _ _ t1 t2 t3 (pre_ne hx hy hz hd) (pre_max hx hy hz hd) (pre_sub hx hy hz hd)
  · simp only [if_neg hd]
    exact hsv_grey_ct w news _ _ _ t1 t2 t3 (pre_eq hx hy hz hd)
theorem hlsX_ct : Ct w 1 84 news [.float (pt x) t1, .float (pt y) t2, .float (pt z) t3] (Flts3 (hueX x y z) (lightOf (pt x) (pt y) (pt z)) (depX x y z)) := by
  unfold hueX depX
  by_cases hd : mn3 x y z < mx3 x y z
  · simp only [if_pos hd]
    exact hls_ct w news _ _ _ t1 t2 t3 (pre_ne hx hy hz hd) (pre_add hx hy hz hd) (pre_2 hx hy hz) (pre_sub hx hy hz hd)
  · simp only [if_neg hd]
    exact hls_grey_ct w news _ _ _ t1 t2 t3 (pre_eq hx hy hz hd)
theorem grey_parts (hd : ¬ mn3 x y z < mx3 x y z) : mx3 x y z = x ∧ mx3 x y z = y ∧ mx3 x y z = z ∧ mn3 x y z = mx3 x y z := by unfold mn3 mx3 at *; omega
theorem light_whole (hd : ¬ mn3 x y z < mx3 x y z) : WholeIs (lightOf (pt x) (pt y) (pt z)) (mx3 x y z) := by
  have hf := mm_facts hx hy hz
  have hg := grey_parts hx hy hz hd
  have g := light_grd hx hy hz
  refine whole_near (e := 0) ?_ (by omega) (by omega) (by decide +kernel)
  refine .of_rv ⟨g.1, ?_⟩
  rw [g.2, hg.2.2.2, show mx3 x y z + mx3 x y z = 2 * mx3 x y z by omega, Rat.intCast_mul]
  have : ((2 : Int) : Rat) = 2 := rfl
  rw [this]; grind
theorem onX_ct : Ct w 1 112 news [.float (Float64.add (hueX x y z) csixth) t1, .float (satX x y z) t2, .float (fmax3 (pt x) (pt y) (pt z)) t3] (Parts (nextR x y z 6) (nextG x y z 6) (nextB x y z 6)) := by
  unfold hueX satX nextR nextG nextB
  simp only [if_true]
  by_cases hd : mn3 x y z < mx3 x y z
  · simp only [if_pos hd]
    obtain ⟨h, s, v, rfl, rfl, rfl, f1, f2, f3, a, b, c⟩ := on_full hx hy hz hd
    exact (rgb_ct w news _ _ _ t1 t2 t3 (sat_ne hx hy hz hd) f1 f2 f3).post fun r tl h => ⟨_, _, _, h, a, b, c⟩
  · simp only [if_neg hd]
    have hg := grey_parts hx hy hz hd
    have k : WholeIs (fmax3 (pt x) (pt y) (pt z)) (mx3 x y z) := grey_whole hx hy hz hd
    refine (rgb_grey_ct w news _ 0 _ t1 t2 t3 (by decide +kernel)).post fun r tl h => ⟨_, _, _, h, ?_, ?_, ?_⟩
    · rwa [show mx3 x y z + mn3 x y z - y = mx3 x y z by omega]
    · rwa [show mx3 x y z + mn3 x y z - z = mx3 x y z by omega]
    · rwa [show mx3 x y z + mn3 x y z - x = mx3 x y z by omega]
theorem backX_ct : Ct w 2 91 news [.float (Float64.sub (hueX x y z) csixth) t1, .float (lightOf (pt x) (pt y) (pt z)) t2, .float (depX x y z) t3] (Parts (nextR x y z 7) (nextG x y z 7) (nextB x y z 7)) := by
  unfold hueX depX nextR nextG nextB
  simp only [if_true, show ¬ (7 : Int) = 6 by decide, if_false]
  by_cases hd : mn3 x y z < mx3 x y z
  · simp only [if_pos hd]
    obtain ⟨h, s, v, rfl, rfl, rfl, ne, a, b, c⟩ := back_full hx hy hz hd
    exact (hls_rgb_ct w news _ _ _ t1 t2 t3 ne).post fun r tl h => ⟨_, _, _, h, a, b, c⟩
  · simp only [if_neg hd]
    have hg := grey_parts hx hy hz hd
    have k := light_whole hx hy hz hd
    refine (hls_rgb_grey_ct w news _ _ 0 t1 t2 t3 (by decide +kernel)).post fun r tl h => ⟨_, _, _, h, ?_, ?_, ?_⟩
    · rwa [show mx3 x y z + mn3 x y z - z = mx3 x y z by omega]
    · rwa [show mx3 x y z + mn3 x y z - x = mx3 x y z by omega]
    · rwa [show mx3 x y z + mn3 x y z - y = mx3 x y z by omega]
end
theorem wholeX_ct (w : World) (news : List (Addr × Obj)) {a b c : Int} {p q r : UInt64} {l : Addr} {t1 t2 t3 : Tok} (hm : (l, tup3 p q r t1 t2 t3) ∈ news) (h1 : WholeIs p a) (h2 : WholeIs q b) (h3 : WholeIs r c) : Ct w 2 226 news [.ref l] (Ints3 a b c) := by
  obtain ⟨rfl, h1⟩ := h1
  obtain ⟨rfl, h2⟩ := h2
  obtain ⟨rfl, h3⟩ := h3
  exact Ct.mem (fun news => whole_ct w news p q r l t1 t2 t3 h1 h2 h3) hm
theorem nextX_ct (w : World) (news : List (Addr × Obj)) {x y z d : Int} {l : Addr} {t1 t2 t3 t4 : Tok} {n : Nat} (hm : (l, lst3 x y z t1 t2 t3 n) ∈ news) (hx : 0 ≤ x ∧ x ≤ 60) (hy : 0 ≤ y ∧ y ≤ 60) (hz : 0 ≤ z ∧ z ≤ 60) (hd0 : 0 ≤ d ∧ d < 8) :
    Ct w 2 211 news [.ref l, .int d t4] (Ints3 (nextR x y z d) (nextG x y z d) (nextB x y z d)) := Ct.mem (fun news => next_ct w news x y z d l t1 t2 t3 t4 n (by omega) (by omega) (by omega) hd0) hm
theorem homeX_ct (w : World) (news : List (Addr × Obj)) {x y z : Int} {l : Addr} {t1 t2 t3 : Tok} {n : Nat} (hm : (l, lst3 x y z t1 t2 t3 n) ∈ news) (hx : 0 ≤ x ∧ x ≤ 60) (hy : 0 ≤ y ∧ y ≤ 60) (hz : 0 ≤ z ∧ z ≤ 60) :
    Ct w 2 216 news [.ref l] (Ints6 (home (x - max y z)) (home (min x y - z)) (home (y - max x z)) (home (min y z - x)) (home (z - max x y)) (home (min x z - y))) := Ct.mem (fun news => home_ct w news x y z l t1 t2 t3 n (by omega) (by omega) (by omega)) hm
theorem ledAdd_ct (w : World) (news : List (Addr × Obj)) {x y z k : Int} {l : Addr} {t1 t2 t3 t4 : Tok} {n : Nat} (hm : (l, lst3 x y z t1 t2 t3 n) ∈ news) (hk : 0 ≤ k ∧ k < 6) :
    Ct w 3 221 news [.ref l, .int k t4, .ref 35] (Ints3 (x + in3 k 5 0 1) (y + in3 k 1 2 3) (z + in3 k 3 4 5)) := by
  obtain ⟨f1, f2, f3, ⟨a, a'⟩, ⟨b, b'⟩, ⟨c, c'⟩⟩ := corner_full k hk.1 hk.2
  rw [← a, ← b, ← c]
  exact Ct.mem (fun news => led_add_ct w news x y z k l t1 t2 t3 t4 n hk.1 hk.2 f1 f2 f3 _ _ _ rfl rfl rfl a' b' c') hm
theorem ledSub_ct (w : World) (news : List (Addr × Obj)) {x y z k : Int} {l : Addr} {t1 t2 t3 t4 : Tok} {n : Nat} (hm : (l, lst3 x y z t1 t2 t3 n) ∈ news) (hk : 0 ≤ k ∧ k < 6) :
    Ct w 3 221 news [.ref l, .int k t4, .ref 77] (Ints3 (x - in3 k 5 0 1) (y - in3 k 1 2 3) (z - in3 k 3 4 5)) := by
  obtain ⟨f1, f2, f3, ⟨a, a'⟩, ⟨b, b'⟩, ⟨c, c'⟩⟩ := corner_full k hk.1 hk.2
  rw [← a, ← b, ← c]
  exact Ct.mem (fun news => led_sub_ct w news x y z k l t1 t2 t3 t4 n hk.1 hk.2 f1 f2 f3 _ _ _ rfl rfl rfl a' b' c') hm
end Mine
end
section
open PySem PySem.W PyProof.Rows PySem.Calls PySem.Flt
namespace Mine
section
variable {w : World} {D : Nat} {f : Addr} {vs : List Value} {news : List (Addr × Obj)} {Post : Value → List (Addr × Obj) → Prop}
    {mean : ExcName → Option Value} {mg mb : Str → Option Value} {dp un : Nat} {gd : Option (List Code)} {cn : Str} {cs : Scope} {a : Addr} {ccd : Value} {cl : List (Str × Addr)} {outer : List Env} {A₀ : Around} {base h₀ : Heap} {L : Addr} {m : Str → Option Value} {s : Shared} {Q E : Value → Shared → Prop}
/-- a contract, used where a bound of tokens is kept -/
theorem ct_useT {n : Nat} (C : Ct w D f news vs Post) (hT : TokLo n s.toks) (B : Below A₀ base outer h₀) (F : Fr h₀ L s.heap m) (X : (hd.heap_39 w.params).In h₀) (N : News h₀ L s.heap news) (T : TopM mean mg mb h₀) (hk : cs.kind = .function) (hdp : dp + D < recursionLimit) (hun : un + 8 * D < cLine)
    (ret : ∀ r tl h' tk', TokLo n tk' → Fr h₀ L h' m → News h₀ L h' (tl ++ news) → (∀ q ∈ news, ∀ p ∈ tl, @Ne Nat q.1 p.1) → Post r tl → Q r { s with heap := h', toks := tk' }) :
    wpAny (model PG w) (ktrTop dp un gd cn cs L a ccd cl outer) (call (.ref f) vs) Q E s :=
  wpAny_with_toks hT (C mean mg mb dp un gd cn cs a ccd cl outer A₀ base h₀ L m s _ _ B F X N T hk hdp hun fun r tl h' tk' F' N' off hp hT' => ret r tl h' tk' hT' F' N' off hp)
/-- an int given back, its token told -/
noncomputable def CiT (w : World) (D : Nat) (f : Addr) (vs : List Value) (n : Int) : Prop :=
  ∀ (mean : ExcName → Option Value) (mg mb : Str → Option Value) (dp un : Nat) (gd : Option (List Code)) (cn : Str) (cs : Scope) (a : Addr) (ccd : Value) (cl : List (Str × Addr)) (outer : List Env) (A₀ : Around) (base h₀ : Heap) (L : Addr) (m : Str → Option Value) (s : Shared) (Q E : Value → Shared → Prop) (news : List (Addr × Obj)),
    Below A₀ base outer h₀ → Fr h₀ L s.heap m → (hd.heap_39 w.params).In h₀ → News h₀ L s.heap news → TopM mean mg mb h₀ → cs.kind = .function → dp + D < recursionLimit → un + 8 * D < cLine →
    (∀ h' tk' t, TokLo s.toks t → Fr h₀ L h' m → News h₀ L h' news → Q (.int n t) { s with heap := h', toks := tk' }) →
    wpAny (model PG w) (ktrTop dp un gd cn cs L a ccd cl outer) (call (.ref f) vs) Q E s
theorem cit_use {k : Nat} {n : Int} (C : CiT w D f vs n) (hT : TokLo k s.toks) (B : Below A₀ base outer h₀) (F : Fr h₀ L s.heap m) (X : (hd.heap_39 w.params).In h₀) (N : News h₀ L s.heap news) (T : TopM mean mg mb h₀) (hk : cs.kind = .function) (hdp : dp + D < recursionLimit) (hun : un + 8 * D < cLine)
    (ret : ∀ h' tk' t, TokLo k tk' → @LE.le Nat _ k t → Fr h₀ L h' m → News h₀ L h' news → Q (.int n t) { s with heap := h', toks := tk' }) :
    wpAny (model PG w) (ktrTop dp un gd cn cs L a ccd cl outer) (call (.ref f) vs) Q E s :=
  wpAny_with_toks hT (C mean mg mb dp un gd cn cs a ccd cl outer A₀ base h₀ L m s _ _ news B F X N T hk hdp hun fun h' tk' t ht F' N' hT' => ret h' tk' t hT' (Nat.le_trans hT ht) F' N')
end
section
set_option maxRecDepth 100000 in
set_option maxHeartbeats 8000000 in
theorem modT_ct (w : World) (x : Int) (t1 t2 : Tok) : CiT w 1 42 [.int x t1, .int 7 t2] (x % 7) := by
  k_with_none
  k_with "execs cons" => (k_here; (rename TokLo _ _ => hT9); (refine' execs_cons_T (TokLo.any hT9 ?kt) ?_); (case kt => ((try dsimp only); k_dflt (repeat (first | exact Nat.le_refl _ | exact Nat.le_add_right _ _ | refine Nat.le_succ_of_le ?_)))); (try dsimp only))
  k_with "forall" => (intro tk9 e9 hT9; clear e9; (try dsimp only); (try k_fold))
  unfold CiT PG
  k_fill
  intro mean mg mb dp un gd cn cs a ccd cl outer A₀ base h₀ L m s Q E news B F X N T hk hd hu hret
  have hT0 := TokLo.refl s.toks
  refine wpAny_call ?_
  k_dflt cell_enter
  conv in (execs _ _) => arg 1; whnf
  k_steps
  rw [← Int.fmod_eq_emod_of_nonneg _ (show (0 : Int) ≤ 7 by decide)] at hret
  all_goals (refine hret _ _ _ ?_ (by assumption) (by assumption))
  all_goals ((try dsimp only); k_dflt (repeat (first | assumption | exact Nat.le_refl _ | refine TokLo.step ?_)))
end
noncomputable abbrev wheelT : List Str := (List.range 6).map textOf
theorem wheel_yes : ∀ k : Fin 6, (wheelT.any fun x => x == textOf k.val) = true := by decide +kernel
theorem wheel_no : ∀ k : Fin 2, (wheelT.any fun x => x == textOf (6 + k.val)) = false := by decide +kernel
theorem wheel_one : ∀ k : Fin 6, ∀ i : Fin 6, textOf i.val = textOf k.val → i = k := by decide +kernel
theorem wheel_get {i : Nat} {t : Str} (h : wheelT[i]? = some t) : i < 6 ∧ textOf i = t := by
  have hl : i < 6 := by
    have := (List.getElem?_eq_some_iff.mp h).1
    simpa [wheelT] using this
  refine ⟨hl, ?_⟩
  simpa [wheelT, List.getElem?_map, List.getElem?_range hl] using h
section
variable (w : World) (news : List (Addr × Obj)) {l : Addr} {vs : List Value} {n : Nat} {v : Value} {d : Int}
theorem containsY_ct (n1 : NamesIn w news vs wheelT) (hm : (l, ({ cls := .type "list", data := .seq vs.toArray n } : Obj)) ∈ news) (n2 : NameIn w news v (textOf d.toNat)) (hd : 0 ≤ d ∧ d < 6) :
    Ct w 2 56 news [.ref l, v] (Bool1 true) := by
  have := contains_ct w news l vs wheelT n v (textOf d.toNat) n1 hm n2
  rwa [wheel_yes ⟨d.toNat, by omega⟩] at this
theorem containsN_ct (n1 : NamesIn w news vs wheelT) (hm : (l, ({ cls := .type "list", data := .seq vs.toArray n } : Obj)) ∈ news) (n2 : NameIn w news v (textOf d.toNat)) (hd : 6 ≤ d ∧ d < 8) :
    Ct w 2 56 news [.ref l, v] (Bool1 false) := by
  have := contains_ct w news l vs wheelT n v (textOf d.toNat) n1 hm n2
  have e := wheel_no ⟨d.toNat - 6, by omega⟩
  rw [show 6 + (d.toNat - 6) = d.toNat by omega] at e
  rwa [e] at this
theorem idxX_ct {T T' : Nat} (n1 : NamesIn w news vs wheelT) (hm : (l, ({ cls := .type "list", data := .seq vs.toArray n } : Obj)) ∈ news) (n2 : NameIn w news v (textOf d.toNat)) (k1 : ∀ x ∈ vs, TokAt 1 T x) (k2 : TokAt T T' v) (hd : 0 ≤ d ∧ d < 6) :
    Ct w 2 70 news [.ref l, v] (Int1 d) := by
  have hw : textOf d.toNat ∈ wheelT := List.mem_map.mpr ⟨d.toNat, List.mem_range.mpr (by omega), rfl⟩
  refine (idx_ct w news l vs wheelT n v (textOf d.toNat) T T' n1 hm n2 k1 k2 hw).post fun r tl h => ?_
  obtain ⟨rfl, i, u, rfl, hi⟩ := h
  obtain ⟨h6, e⟩ := wheel_get hi
  have := wheel_one ⟨d.toNat, by omega⟩ ⟨i, h6⟩ e
  have e2 : i = d.toNat := congrArg Fin.val this
  exact ⟨rfl, u, by rw [show (i : Int) = d by omega]⟩
theorem eqOn_ct {t : Tok} (n2 : NameIn w news v (textOf 6)) : Ct w 2 28 news [v, .str (Str.ofString "{turn}on") t] (Bool1 true) := by
  have := eq_ct w news v _ (textOf 6) (Str.ofString "{turn}on") n2 (.inl ⟨t, rfl⟩)
  rwa [show (textOf 6 == Str.ofString "{turn}on") = true by decide +kernel] at this
theorem eqBack_ct {t : Tok} (n2 : NameIn w news v (textOf 7)) : Ct w 2 28 news [v, .str (Str.ofString "{turn}on") t] (Bool1 false) := by
  have := eq_ct w news v _ (textOf 7) (Str.ofString "{turn}on") n2 (.inl ⟨t, rfl⟩)
  rwa [show (textOf 7 == Str.ofString "{turn}on") = false by decide +kernel] at this
/-- the ranks -/
noncomputable abbrev rankL : List Int := [1, 3, 2, 6, 4, 5]
theorem idxR_ct {b : Int} {u : Tok} {T T' : Nat} (n1 : IntsAre vs rankL) (hm : (l, ({ cls := .type "list", data := .seq vs.toArray n } : Obj)) ∈ news) (k1 : ∀ x ∈ vs, TokI 1 T x) (k2 : TokI T T' (.int b u)) (hb : 1 ≤ b ∧ b < 7) :
    Ct w 2 70 news [.ref l, .int b u] (fun r tl => ∃ k : Int, Int1 k r tl ∧ 0 ≤ k ∧ k < 6 ∧ rankL.getD k.toNat 0 = b) := by
  refine (idx_int_ct w news l vs rankL n b u T T' n1 hm (by decide +kernel) k1 k2 ?_).post fun r tl h => ?_
  · simp only [rankL, List.mem_cons, List.not_mem_nil, or_false]; omega
  · obtain ⟨rfl, i, u, rfl, hi⟩ := h
    have h6 : i < 6 := (List.getElem?_eq_some_iff.mp hi).1
    refine ⟨i, ⟨rfl, u, rfl⟩, by omega, by omega, ?_⟩
    rw [Int.toNat_natCast, List.getD_eq_getElem?_getD, hi]; rfl
end
end Mine
end
section
open PySem PySem.W PyProof.Rows PySem.Calls
namespace Mine
/-- the law's own def, read out of the given text -/
noncomputable def lawStmt : Stmt := (PySem.Challenge.pw_wu0061_01.main.body[28]?).getD default
noncomputable def lawBody : List Stmt := match lawStmt with | .FunctionDef _ _ b _ _ _ _ _ _ _ => b | _ => []
noncomputable def lawScope : Scope := match lawStmt with | .FunctionDef _ _ _ _ _ _ s _ _ _ => s | _ => default
noncomputable def forBody : Stmt → List Stmt | .For _ _ b _ _ => b | _ => []
/-- the body of the n-th statement, a loop -/
noncomputable def lawFor (n : Nat) : List Stmt := forBody ((lawBody[n]?).getD default)
end Mine
end
section
open PySem PySem.W PyProof.Rows PySem.Calls PySem.Flt
namespace Mine
/-- the six ways home -/
noncomputable def homeAt (j : Nat) (x y z : Int) : Int :=
  if j = 0 then home (x - max y z) else if j = 1 then home (min x y - z) else if j = 2 then home (y - max x z) else if j = 3 then home (min y z - x) else if j = 4 then home (z - max x y) else home (min x z - y)
theorem leads_lt {k x y z : Int} (h : Leads k x y z) : 0 ≤ k ∧ k < 6 := by
  rcases h with ⟨rfl, _⟩ | ⟨rfl, _⟩ | ⟨rfl, _⟩ | ⟨rfl, _⟩ | ⟨rfl, _⟩ | ⟨rfl, _⟩ <;> decide
theorem text_ne : ∀ i j : Fin 6, (textOf i.val = textOf j.val) ↔ i = j := by decide +kernel
theorem text_if {k : Int} {j : Nat} (hk : 0 ≤ k ∧ k < 6) (hj : j < 6) : (if textOf k.toNat = textOf j then (1 : Int) else 0) = if k = j then 1 else 0 := by
  have := text_ne ⟨k.toNat, by omega⟩ ⟨j, hj⟩
  by_cases h : k = j
  · rw [if_pos h, if_pos (this.mpr (Fin.ext (by show k.toNat = j; omega)))]
  · rw [if_neg h, if_neg fun e => h (by have e2 : k.toNat = j := congrArg Fin.val (this.mp e); omega)]
theorem home_le {a b : Int} (h : a ≤ b) : home (a - b) = 0 := Int.max_eq_left (Int.sub_nonpos_of_le h)
theorem home_ge {a b : Int} (h : b ≤ a) : home (a - b) = a - b := Int.max_eq_right (Int.sub_nonneg_of_le h)
theorem home_up {a b : Int} (h : b < a) : home (a - b) = home (a - 1 - b) + 1 := by
  rw [home_ge (Int.le_of_lt h), home_ge (Int.le_sub_one_of_lt h)]
  omega
theorem lt_mx {p q r : Int} (h1 : q < p) (h2 : r < p) : max q r < p := Int.max_lt.mpr ⟨h1, h2⟩
theorem mn_lt {p q r : Int} (h1 : r < p) (h2 : r < q) : r < min p q := Int.lt_min.mpr ⟨h1, h2⟩
theorem mn_one {p q : Int} : min (p - 1) (q - 1) = min p q - 1 := by omega
theorem mx_one {p q : Int} : max (p - 1) (q - 1) = max p q - 1 := by omega
-- one part is lit
theorem p_up {p q r : Int} (h1 : q < p) (h2 : r < p) : home (p - max q r) = home (p - 1 - max q r) + 1 := home_up (lt_mx h1 h2)
theorem p_ml {p q r : Int} (h1 : q < p) : home (min p q - r) = home (min (p - 1) q - r) := by rw [Int.min_eq_right (Int.le_of_lt h1), Int.min_eq_right (Int.le_sub_one_of_lt h1)]
theorem p_mr {p q r : Int} (h1 : q < p) : home (min q p - r) = home (min q (p - 1) - r) := by rw [Int.min_eq_left (Int.le_of_lt h1), Int.min_eq_left (Int.le_sub_one_of_lt h1)]
theorem p_xl {p q r : Int} (h1 : q < p) : home (q - max p r) = home (q - max (p - 1) r) := by
  rw [home_le (Int.le_trans (Int.le_of_lt h1) (Int.le_max_left p r)), home_le (Int.le_trans (Int.le_sub_one_of_lt h1) (Int.le_max_left (p - 1) r))]
theorem p_xr {p q r : Int} (h1 : q < p) : home (q - max r p) = home (q - max r (p - 1)) := by
  rw [home_le (Int.le_trans (Int.le_of_lt h1) (Int.le_max_right r p)), home_le (Int.le_trans (Int.le_sub_one_of_lt h1) (Int.le_max_right r (p - 1)))]
theorem p_no {p q r : Int} (h1 : q < p) : home (min q r - p) = home (min q r - (p - 1)) := by
  rw [home_le (Int.le_trans (Int.min_le_left q r) (Int.le_of_lt h1)), home_le (Int.le_trans (Int.min_le_left q r) (Int.le_sub_one_of_lt h1))]
-- two parts are lit
theorem s_up {p q r : Int} (h1 : r < p) (h2 : r < q) : home (min p q - r) = home (min (p - 1) (q - 1) - r) + 1 := by rw [mn_one]; exact home_up (mn_lt h1 h2)
theorem s_xl {p q r : Int} (h2 : r < q) : home (p - max q r) = home (p - 1 - max (q - 1) r) := by
  rw [Int.max_eq_left (Int.le_of_lt h2), Int.max_eq_left (Int.le_sub_one_of_lt h2), show p - 1 - (q - 1) = p - q by omega]
theorem s_xr {p q r : Int} (h2 : r < q) : home (p - max r q) = home (p - 1 - max r (q - 1)) := by
  rw [Int.max_eq_right (Int.le_of_lt h2), Int.max_eq_right (Int.le_sub_one_of_lt h2), show p - 1 - (q - 1) = p - q by omega]
theorem s_no {p q r : Int} (h1 : r < p) : home (r - max p q) = home (r - max (p - 1) (q - 1)) := by
  rw [home_le (Int.le_trans (Int.le_of_lt h1) (Int.le_max_left p q)), home_le (Int.le_trans (Int.le_sub_one_of_lt h1) (Int.le_max_left (p - 1) (q - 1)))]

theorem s_ml {p q r : Int} (h1 : r < p) (h2 : r < q) : home (min p r - q) = home (min (p - 1) r - (q - 1)) := by
  rw [home_le (Int.le_trans (Int.min_le_right p r) (Int.le_of_lt h2)), home_le (Int.le_trans (Int.min_le_right (p - 1) r) (Int.le_sub_one_of_lt h2))]
theorem s_mm {p q r : Int} (h2 : r < q) : home (min r p - q) = home (min r (p - 1) - (q - 1)) := by
  rw [home_le (Int.le_trans (Int.min_le_left r p) (Int.le_of_lt h2)), home_le (Int.le_trans (Int.min_le_left r (p - 1)) (Int.le_sub_one_of_lt h2))]
theorem p_no2 {p q r : Int} (h1 : r < p) : home (min q r - p) = home (min q r - (p - 1)) := by
  rw [home_le (Int.le_trans (Int.min_le_right q r) (Int.le_of_lt h1)), home_le (Int.le_trans (Int.min_le_right q r) (Int.le_sub_one_of_lt h1))]
/-- what a step takes off -/
noncomputable def Steps (k x y z x' y' z' : Int) : Prop :=
  ∀ j, j < 6 → homeAt j x y z = homeAt j x' y' z' + (if k = (j : Int) then 1 else 0)
theorem steps_of {k x y z x' y' z' : Int} (e0 : home (x - max y z) = home (x' - max y' z') + (if k = ((0 : Nat) : Int) then 1 else 0)) (e1 : home (min x y - z) = home (min x' y' - z') + (if k = ((1 : Nat) : Int) then 1 else 0)) (e2 : home (y - max x z) = home (y' - max x' z') + (if k = ((2 : Nat) : Int) then 1 else 0))
    (e3 : home (min y z - x) = home (min y' z' - x') + (if k = ((3 : Nat) : Int) then 1 else 0)) (e4 : home (z - max x y) = home (z' - max x' y') + (if k = ((4 : Nat) : Int) then 1 else 0)) (e5 : home (min x z - y) = home (min x' z' - y') + (if k = ((5 : Nat) : Int) then 1 else 0)) : Steps k x y z x' y' z' := fun j hj =>
  match j, hj with
  | 0, _ => e0
  | 1, _ => e1
  | 2, _ => e2
  | 3, _ => e3
  | 4, _ => e4
  | 5, _ => e5
theorem plus0 {a b : Int} (h : a = b) : a = b + 0 := h.trans (Int.add_zero b).symm
theorem in3_is {k x y z x' y' z' : Int} (P : Int → Int → Int → Prop) (a : x - in3 k 5 0 1 = x') (b : y - in3 k 1 2 3 = y') (c : z - in3 k 3 4 5 = z') (h : P x' y' z') : P (x - in3 k 5 0 1) (y - in3 k 1 2 3) (z - in3 k 3 4 5) := by
  rw [a, b, c]; exact h
theorem homeAt_steps {k x y z : Int} (hl : Leads k x y z) : Steps k x y z (x - in3 k 5 0 1) (y - in3 k 1 2 3) (z - in3 k 3 4 5) := by
  rcases hl with ⟨rfl, h, g⟩ | ⟨rfl, h, g⟩ | ⟨rfl, h, g⟩ | ⟨rfl, h, g⟩ | ⟨rfl, h, g⟩ | ⟨rfl, h, g⟩
  · exact in3_is (x' := x - 1) (y' := y) (z' := z) (Steps 0 x y z) rfl (Int.sub_zero y) (Int.sub_zero z) (steps_of (p_up h g) (plus0 (p_ml h)) (plus0 (p_xl h)) (plus0 (p_no h)) (plus0 (p_xl g)) (plus0 (p_ml g)))
  · exact in3_is (x' := x - 1) (y' := y - 1) (z' := z) (Steps 1 x y z) rfl rfl (Int.sub_zero z) (steps_of (plus0 (s_xl g)) (s_up h g) (plus0 (s_xl h)) (plus0 (s_ml g h)) (plus0 (s_no h)) (plus0 (s_ml h g)))
  · exact in3_is (x' := x) (y' := y - 1) (z' := z) (Steps 2 x y z) (Int.sub_zero x) rfl (Int.sub_zero z) (steps_of (plus0 (p_xl h)) (plus0 (p_mr h)) (p_up h g) (plus0 (p_ml g)) (plus0 (p_xr g)) (plus0 (p_no h)))
  · exact in3_is (x' := x) (y' := y - 1) (z' := z - 1) (Steps 3 x y z) (Int.sub_zero x) rfl rfl (steps_of (plus0 (s_no h)) (plus0 (s_mm g)) (plus0 (s_xr g)) (s_up h g) (plus0 (s_xr h)) (plus0 (s_mm h)))
  · exact in3_is (x' := x) (y' := y) (z' := z - 1) (Steps 4 x y z) (Int.sub_zero x) (Int.sub_zero y) rfl (steps_of (plus0 (p_xr h)) (plus0 (p_no h)) (plus0 (p_xr g)) (plus0 (p_mr g)) (p_up h g) (plus0 (p_mr h)))
  · exact in3_is (x' := x - 1) (y' := y) (z' := z - 1) (Steps 5 x y z) rfl (Int.sub_zero y) rfl (steps_of (plus0 (s_xr g)) (plus0 (s_ml h g)) (plus0 (s_no h)) (plus0 (s_mm h)) (plus0 (s_xl h)) (s_up h g))
theorem homeAt_step {k x y z : Int} (hl : Leads k x y z) {j : Nat} (hj : j < 6) :
    homeAt j x y z = homeAt j (x - in3 k 5 0 1) (y - in3 k 1 2 3) (z - in3 k 3 4 5) + (if k = j then 1 else 0) := homeAt_steps hl j hj
noncomputable def MM (x y z x' y' z' : Int) : Prop := mx3 x' y' z' = mx3 x y z - 1 ∧ mn3 x' y' z' = mn3 x y z
theorem mx_a {x y z : Int} (h : y ≤ x) (g : z ≤ x) : mx3 x y z = x := by unfold mx3; rw [Int.max_eq_left h, Int.max_eq_left g]
theorem mx_b {x y z : Int} (h : x ≤ y) (g : z ≤ y) : mx3 x y z = y := by unfold mx3; rw [Int.max_eq_right h, Int.max_eq_left g]
theorem mx_c {x y z : Int} (h : x ≤ z) (g : y ≤ z) : mx3 x y z = z := by unfold mx3; exact Int.max_eq_right (Int.max_le.mpr ⟨h, g⟩)
theorem mn_a {x y z : Int} (h : y ≤ x) : mn3 x y z = min y z := by unfold mn3; rw [Int.min_eq_right h]
theorem mn_b {x y z : Int} (h : x ≤ y) : mn3 x y z = min x z := by unfold mn3; rw [Int.min_eq_left h]
theorem mn_c {x y z : Int} (h : x ≤ z) : mn3 x y z = min x y := by unfold mn3; exact Int.min_eq_left (Int.le_trans (Int.min_le_left x y) h)
theorem mn_d {x y z : Int} (h : z ≤ x) (g : z ≤ y) : mn3 x y z = z := by unfold mn3; exact Int.min_eq_right (Int.le_min.mpr ⟨h, g⟩)
theorem mn_e {x y z : Int} (h : x ≤ y) (g : x ≤ z) : mn3 x y z = x := by rw [mn_b h, Int.min_eq_left g]
theorem mn_f {x y z : Int} (h : y ≤ x) (g : y ≤ z) : mn3 x y z = y := by rw [mn_a h, Int.min_eq_left g]
theorem mx_ab {x y z : Int} (h : z ≤ x) : mx3 x y z = max x y := by unfold mx3; exact Int.max_eq_left (Int.le_trans h (Int.le_max_left x y))
theorem mx_bc {x y z : Int} (h : x ≤ y) : mx3 x y z = max y z := by unfold mx3; rw [Int.max_eq_right h]
theorem mx_ac {x y z : Int} (h : y ≤ x) : mx3 x y z = max x z := by unfold mx3; rw [Int.max_eq_left h]
theorem leads_mm' {k x y z : Int} (hl : Leads k x y z) : MM x y z (x - in3 k 5 0 1) (y - in3 k 1 2 3) (z - in3 k 3 4 5) := by
  rcases hl with ⟨rfl, h, g⟩ | ⟨rfl, h, g⟩ | ⟨rfl, h, g⟩ | ⟨rfl, h, g⟩ | ⟨rfl, h, g⟩ | ⟨rfl, h, g⟩
  · exact in3_is (x' := x - 1) (y' := y) (z' := z) (MM x y z) rfl (Int.sub_zero y) (Int.sub_zero z) ⟨by rw [mx_a (Int.le_of_lt h) (Int.le_of_lt g), mx_a (Int.le_sub_one_of_lt h) (Int.le_sub_one_of_lt g)], by rw [mn_a (Int.le_of_lt h), mn_a (Int.le_sub_one_of_lt h)]⟩
  · exact in3_is (x' := x - 1) (y' := y - 1) (z' := z) (MM x y z) rfl rfl (Int.sub_zero z) ⟨by rw [mx_ab (Int.le_of_lt h), mx_ab (Int.le_sub_one_of_lt h), mx_one], by rw [mn_d (Int.le_of_lt h) (Int.le_of_lt g), mn_d (Int.le_sub_one_of_lt h) (Int.le_sub_one_of_lt g)]⟩
  · exact in3_is (x' := x) (y' := y - 1) (z' := z) (MM x y z) (Int.sub_zero x) rfl (Int.sub_zero z) ⟨by rw [mx_b (Int.le_of_lt h) (Int.le_of_lt g), mx_b (Int.le_sub_one_of_lt h) (Int.le_sub_one_of_lt g)], by rw [mn_b (Int.le_of_lt h), mn_b (Int.le_sub_one_of_lt h)]⟩
  · exact in3_is (x' := x) (y' := y - 1) (z' := z - 1) (MM x y z) (Int.sub_zero x) rfl rfl ⟨by rw [mx_bc (Int.le_of_lt h), mx_bc (Int.le_sub_one_of_lt h), mx_one], by rw [mn_e (Int.le_of_lt h) (Int.le_of_lt g), mn_e (Int.le_sub_one_of_lt h) (Int.le_sub_one_of_lt g)]⟩
  · exact in3_is (x' := x) (y' := y) (z' := z - 1) (MM x y z) (Int.sub_zero x) (Int.sub_zero y) rfl ⟨by rw [mx_c (Int.le_of_lt h) (Int.le_of_lt g), mx_c (Int.le_sub_one_of_lt h) (Int.le_sub_one_of_lt g)], by rw [mn_c (Int.le_of_lt h), mn_c (Int.le_sub_one_of_lt h)]⟩
  · exact in3_is (x' := x - 1) (y' := y) (z' := z - 1) (MM x y z) rfl (Int.sub_zero y) rfl ⟨by rw [mx_ac (Int.le_of_lt h), mx_ac (Int.le_sub_one_of_lt h), mx_one], by rw [mn_f (Int.le_of_lt h) (Int.le_of_lt g), mn_f (Int.le_sub_one_of_lt h) (Int.le_sub_one_of_lt g)]⟩
theorem leads_mm {k x y z : Int} (hl : Leads k x y z) : mx3 (x - in3 k 5 0 1) (y - in3 k 1 2 3) (z - in3 k 3 4 5) = mx3 x y z - 1 ∧ mn3 (x - in3 k 5 0 1) (y - in3 k 1 2 3) (z - in3 k 3 4 5) = mn3 x y z := leads_mm' hl
theorem homeAt_grey {j : Nat} {x : Int} : homeAt j x x x = 0 := by
  have h1 : home (x - max x x) = 0 := home_le (Int.le_max_left x x)
  have h2 : home (min x x - x) = 0 := home_le (Int.min_le_left x x)
  unfold homeAt
  split
  · exact h1
  split
  · exact h2
  split
  · exact h1
  split
  · exact h2
  split
  · exact h1
  · exact h2
/-- the weight that the rest tells -/
noncomputable def wt (x y z : Int) : Int := (x + 2 * y - 3 * z) % 7
theorem in3_01 (k a b c : Int) : 0 ≤ in3 k a b c ∧ in3 k a b c ≤ 1 := by
  unfold in3; split <;> decide
noncomputable def wtk (k : Int) : Int := in3 k 5 0 1 + 2 * in3 k 1 2 3 - 3 * in3 k 3 4 5
theorem rank_wt : ∀ k : Fin 6, (rankL.getD k.val 0 - wtk (k.val : Int)) % 7 = 0 := by decide +kernel
theorem rank_wt' {k : Int} (hk : 0 ≤ k ∧ k < 6) : (rankL.getD k.toNat 0 - wtk k) % 7 = 0 := by
  have := rank_wt ⟨k.toNat, by omega⟩
  rwa [show ((k.toNat : Nat) : Int) = k by omega] at this
theorem md_add {a r v : Int} (h : (r - v) % 7 = 0) : (a % 7 + r) % 7 = (a + v) % 7 := by omega
theorem md_sub {a r v : Int} (h : (r - v) % 7 = 0) (e : r = a % 7) : (a - v) % 7 = 0 := by omega
theorem wt_step {k x y z : Int} (hk : 0 ≤ k ∧ k < 6) : (wt x y z + rankL.getD k.toNat 0) % 7 = wt (x + in3 k 5 0 1) (y + in3 k 1 2 3) (z + in3 k 3 4 5) := by
  unfold wt
  rw [md_add (rank_wt' hk)]
  unfold wtk
  congr 1
  omega
theorem wt_mend {k x y z : Int} (hk : 0 ≤ k ∧ k < 6) (h : rankL.getD k.toNat 0 = wt x y z) : wt (x - in3 k 5 0 1) (y - in3 k 1 2 3) (z - in3 k 3 4 5) = 0 := by
  have := md_sub (rank_wt' hk) h
  unfold wtk at this
  unfold wt
  rw [show x - in3 k 5 0 1 + 2 * (y - in3 k 1 2 3) - 3 * (z - in3 k 3 4 5) = x + 2 * y - 3 * z - (in3 k 5 0 1 + 2 * in3 k 1 2 3 - 3 * in3 k 3 4 5) by omega]
  exact this
theorem md_mul {a b c : Int} (h : (a * c - b) % 7 = 0) : (a % 7 * c) % 7 = b % 7 := by
  rw [Int.mul_emod, Int.emod_emod, ← Int.mul_emod]
  omega
theorem wt_on' (b x y z : Int) : ((x + 2 * y - 3 * z) % 7 * 3) % 7 = (b - y + 2 * (b - z) - 3 * (b - x)) % 7 := md_mul (by omega)
theorem wt_back' (b x y z : Int) : ((x + 2 * y - 3 * z) % 7 * -2) % 7 = (b - z + 2 * (b - x) - 3 * (b - y)) % 7 := md_mul (by omega)
theorem wt_on (x y z : Int) : (wt x y z * 3) % 7 = wt (nextR x y z 6) (nextG x y z 6) (nextB x y z 6) := wt_on' (mx3 x y z + mn3 x y z) x y z
theorem wt_back (x y z : Int) : (wt x y z * -2) % 7 = wt (nextR x y z 7) (nextG x y z 7) (nextB x y z 7) := wt_back' (mx3 x y z + mn3 x y z) x y z
theorem next_led {x y z d : Int} (hd : 0 ≤ d ∧ d < 6) : nextR x y z d = x + in3 d 5 0 1 ∧ nextG x y z d = y + in3 d 1 2 3 ∧ nextB x y z d = z + in3 d 3 4 5 := by
  have h6 : ¬ d = 6 := by omega
  have h7 : ¬ d = 7 := by omega
  unfold nextR nextG nextB
  rw [if_neg h6, if_neg h7, if_neg h6, if_neg h7, if_neg h6, if_neg h7]
  exact ⟨rfl, rfl, rfl⟩
theorem both_bd {lo hi M m a : Int} (h1 : a ≤ M) (h2 : m ≤ a) (h3 : M ≤ hi) (h4 : lo ≤ m) : lo ≤ M + m - a ∧ M + m - a ≤ hi := by omega
theorem turn_bd {x y z d : Int} {lo hi : Int} (hd : d = 6 ∨ d = 7) (hx : lo ≤ x ∧ x ≤ hi) (hy : lo ≤ y ∧ y ≤ hi) (hz : lo ≤ z ∧ z ≤ hi) :
    (lo ≤ nextR x y z d ∧ nextR x y z d ≤ hi) ∧ (lo ≤ nextG x y z d ∧ nextG x y z d ≤ hi) ∧ (lo ≤ nextB x y z d ∧ nextB x y z d ≤ hi) := by
  have h := mm_ge (x := x) (y := y) (z := z)
  have h3 : mx3 x y z ≤ hi := Int.max_le.mpr ⟨Int.max_le.mpr ⟨hx.2, hy.2⟩, hz.2⟩
  have h4 : lo ≤ mn3 x y z := Int.le_min.mpr ⟨Int.le_min.mpr ⟨hx.1, hy.1⟩, hz.1⟩
  have bx := both_bd h.1 h.2.2.2.1 h3 h4
  have by' := both_bd h.2.1 h.2.2.2.2.1 h3 h4
  have bz := both_bd h.2.2.1 h.2.2.2.2.2 h3 h4
  rcases hd with rfl | rfl
  · exact ⟨by', bz, bx⟩
  · exact ⟨bz, bx, by'⟩
theorem wt_bd (x y z : Int) : 0 ≤ wt x y z ∧ wt x y z < 7 := ⟨Int.emod_nonneg _ (by decide), Int.emod_lt_of_pos _ (by decide)⟩
theorem total_fin {a b c d e f a' b' c' d' e' f' : Int} (ha : a' = a) (hb : b' = b) (hc : c' = c) (hd : d' = d) (he : e' = e) (hf : f' = f) (q : (a * 1 + b * 3 + c * 2 + d * 6 + e * 4 + f * 5) % 7 = 0) :
      (a' * 1 + b' * 3 + c' * 2 + d' * 6 + e' * 4 + f' * 5) % 7 = 0 := by
  rw [ha, hb, hc, hd, he, hf]; exact q
theorem hx1 {p q r : Int} (h : p ≤ q) : home (p - max q r) = 0 := home_le (Int.le_trans h (Int.le_max_left q r))
theorem hx2 {p q r : Int} (h : p ≤ r) : home (p - max q r) = 0 := home_le (Int.le_trans h (Int.le_max_right q r))
theorem hm1 {p q r : Int} (h : p ≤ r) : home (min p q - r) = 0 := home_le (Int.le_trans (Int.min_le_left p q) h)
theorem hm2 {p q r : Int} (h : q ≤ r) : home (min p q - r) = 0 := home_le (Int.le_trans (Int.min_le_right p q) h)
theorem he1 {p q r : Int} (h : r ≤ q) (g : q ≤ p) : home (p - max q r) = p - q := by rw [Int.max_eq_left h, home_ge g]
theorem he2 {p q r : Int} (h : q ≤ r) (g : r ≤ p) : home (p - max q r) = p - r := by rw [Int.max_eq_right h, home_ge g]
theorem hf1 {p q r : Int} (h : p ≤ q) (g : r ≤ p) : home (min p q - r) = p - r := by rw [Int.min_eq_left h, home_ge g]
theorem hf2 {p q r : Int} (h : q ≤ p) (g : r ≤ q) : home (min p q - r) = q - r := by rw [Int.min_eq_right h, home_ge g]
theorem total_zero {x y z : Int} (h : wt x y z = 0) : (homeAt 0 x y z * 1 + homeAt 1 x y z * 3 + homeAt 2 x y z * 2 + homeAt 3 x y z * 6 + homeAt 4 x y z * 4 + homeAt 5 x y z * 5) % 7 = 0 := by
  unfold wt at h
  have fin := fun a b c d e f => @total_fin a b c d e f (homeAt 0 x y z) (homeAt 1 x y z) (homeAt 2 x y z) (homeAt 3 x y z) (homeAt 4 x y z) (homeAt 5 x y z)
  rcases Int.le_total x y with a | a
  · rcases Int.le_total y z with b | b
    · have c := Int.le_trans a b
      exact fin 0 0 0 (y - x) (z - y) 0 (hx1 a) (hm1 c) (hx2 b) (hf1 b a) (he2 a b) (hm1 a) (by omega)
    · rcases Int.le_total x z with c | c
      · exact fin 0 0 (y - z) (z - x) 0 0 (hx1 a) (hm1 c) (he2 c b) (hf2 b c) (hx2 b) (hm1 a) (by omega)
      · exact fin 0 (x - z) (y - x) 0 0 0 (hx1 a) (hf1 a c) (he1 c a) (hm2 c) (hx2 b) (hm1 a) (by omega)
  · rcases Int.le_total y z with b | b
    · rcases Int.le_total x z with c | c
      · exact fin 0 0 0 0 (z - x) (x - y) (hx2 c) (hm2 b) (hx1 a) (hm1 a) (he1 a c) (hf1 c a) (by omega)
      · exact fin (x - z) 0 0 0 0 (z - y) (he2 b c) (hm2 b) (hx1 a) (hm1 a) (hx1 c) (hf2 c b) (by omega)
    · exact fin (x - y) (y - z) 0 0 0 0 (he1 b a) (hf2 a b) (hx1 a) (hm1 a) (hx2 b) (hm2 b) (by omega)
end Mine
end
section
open PySem PySem.W PyProof.Rows PySem.Calls PySem.Flt
namespace Mine
/-- what stands around the law's own frame -/
structure Gd (w : World) (A₀ : Around) (base : Heap) (outer : List Env) (h₀ : Heap) (mean : ExcName → Option Value) (mg mb : Str → Option Value) (dp un : Nat) : Prop where
  b : Below A₀ base outer h₀
  x : (hd.heap_39 w.params).In h₀
  t : TopM mean mg mb h₀
  d : dp + 6 < recursionLimit
  u : un + 100 < cLine
section
variable {w : World} {D : Nat} {f : Addr} {vs : List Value} {news : List (Addr × Obj)} {Post : Value → List (Addr × Obj) → Prop}
    {mean : ExcName → Option Value} {mg mb : Str → Option Value} {dp un : Nat} {gd : Option (List Code)} {cn : Str} {cs : Scope} {a : Addr} {ccd : Value} {cl : List (Str × Addr)} {outer : List Env} {A₀ : Around} {base h₀ : Heap} {L : Addr} {m : Str → Option Value} {s : Shared} {Q E : Value → Shared → Prop} {n : Nat}
theorem use_g (C : Ct w D f news vs Post) (hT : TokLo n s.toks) (G : Gd w A₀ base outer h₀ mean mg mb dp un) (hD : D ≤ 6) (F : Fr h₀ L s.heap m) (N : News h₀ L s.heap news) (hk : cs.kind = .function)
    (ret : ∀ r tl h' tk', TokLo n tk' → Fr h₀ L h' m → News h₀ L h' (tl ++ news) → (∀ q ∈ news, ∀ p ∈ tl, @Ne Nat q.1 p.1) → Post r tl → Q r { s with heap := h', toks := tk' }) :
    wpAny (model PG w) (ktrTop dp un gd cn cs L a ccd cl outer) (call (.ref f) vs) Q E s :=
  ct_useT C hT G.b F G.x N G.t hk (by have := G.d; omega) (by have := G.u; omega) ret
theorem use3 {x y z : Int} (C : Ct w D f news vs (Ints3 x y z)) (hT : TokLo n s.toks) (G : Gd w A₀ base outer h₀ mean mg mb dp un) (hD : D ≤ 6) (F : Fr h₀ L s.heap m) (N : News h₀ L s.heap news)
    (ret : ∀ l t1 t2 t3 k h' tk', TokLo n tk' → Fr h₀ L h' m → News h₀ L h' ((l, lst3 x y z t1 t2 t3 k) :: news) → (∀ q ∈ news, @Ne Nat q.1 l) → Q (.ref l) { s with heap := h', toks := tk' }) (hk : cs.kind = .function := by rfl) :
    wpAny (model PG w) (ktrTop dp un gd cn cs L a ccd cl outer) (call (.ref f) vs) Q E s := use_g C hT G hD F N hk fun r tl h' tk' hT' F' N' off hp => by
  obtain ⟨l, t1, t2, t3, k, rfl, rfl⟩ := hp
  exact ret l t1 t2 t3 k h' tk' hT' F' N' fun q hq => off q hq _ (.head _)
theorem use6 {x1 x2 x3 x4 x5 x6 : Int} (C : Ct w D f news vs (Ints6 x1 x2 x3 x4 x5 x6)) (hT : TokLo n s.toks) (G : Gd w A₀ base outer h₀ mean mg mb dp un) (hD : D ≤ 6) (F : Fr h₀ L s.heap m) (N : News h₀ L s.heap news)
    (ret : ∀ l dv k h' tk', IntsAre dv [x1, x2, x3, x4, x5, x6] → TokLo n tk' → Fr h₀ L h' m → News h₀ L h' ((l, { cls := .type "list", data := .seq dv.toArray k }) :: news) → (∀ q ∈ news, @Ne Nat q.1 l) → Q (.ref l) { s with heap := h', toks := tk' }) (hk : cs.kind = .function := by rfl) :
    wpAny (model PG w) (ktrTop dp un gd cn cs L a ccd cl outer) (call (.ref f) vs) Q E s := use_g C hT G hD F N hk fun r tl h' tk' hT' F' N' off hp => by
  obtain ⟨l, t1, t2, t3, t4, t5, t6, k, rfl, rfl⟩ := hp
  exact ret l _ k h' tk' (.cons _ _ (.cons _ _ (.cons _ _ (.cons _ _ (.cons _ _ (.cons _ _ .nil)))))) hT' F' N' fun q hq => off q hq _ (.head _)
theorem use1 {x : Int} (C : Ct w D f news vs (Int1 x)) (hT : TokLo n s.toks) (G : Gd w A₀ base outer h₀ mean mg mb dp un) (hD : D ≤ 6) (F : Fr h₀ L s.heap m) (N : News h₀ L s.heap news)
    (ret : ∀ t h' tk', TokLo n tk' → Fr h₀ L h' m → News h₀ L h' news → Q (.int x t) { s with heap := h', toks := tk' }) (hk : cs.kind = .function := by rfl) :
    wpAny (model PG w) (ktrTop dp un gd cn cs L a ccd cl outer) (call (.ref f) vs) Q E s := use_g C hT G hD F N hk fun r tl h' tk' hT' F' N' off hp => by
  obtain ⟨rfl, t, rfl⟩ := hp
  exact ret t h' tk' hT' F' N'
theorem useF {x : UInt64} (C : Ct w D f news vs (Flt1 x)) (hT : TokLo n s.toks) (G : Gd w A₀ base outer h₀ mean mg mb dp un) (hD : D ≤ 6) (F : Fr h₀ L s.heap m) (N : News h₀ L s.heap news)
    (ret : ∀ t h' tk', TokLo n tk' → Fr h₀ L h' m → News h₀ L h' news → Q (.float x t) { s with heap := h', toks := tk' }) (hk : cs.kind = .function := by rfl) :
    wpAny (model PG w) (ktrTop dp un gd cn cs L a ccd cl outer) (call (.ref f) vs) Q E s := use_g C hT G hD F N hk fun r tl h' tk' hT' F' N' off hp => by
  obtain ⟨rfl, t, rfl⟩ := hp
  exact ret t h' tk' hT' F' N'
theorem useB {b : Bool} (C : Ct w D f news vs (Bool1 b)) (hT : TokLo n s.toks) (G : Gd w A₀ base outer h₀ mean mg mb dp un) (hD : D ≤ 6) (F : Fr h₀ L s.heap m) (N : News h₀ L s.heap news)
    (ret : ∀ h' tk', TokLo n tk' → Fr h₀ L h' m → News h₀ L h' news → Q (.bool b) { s with heap := h', toks := tk' }) (hk : cs.kind = .function := by rfl) :
    wpAny (model PG w) (ktrTop dp un gd cn cs L a ccd cl outer) (call (.ref f) vs) Q E s := use_g C hT G hD F N hk fun r tl h' tk' hT' F' N' off hp => by
  obtain ⟨rfl, rfl⟩ := hp
  exact ret h' tk' hT' F' N'
theorem useF3 {x y z : UInt64} (C : Ct w D f news vs (Flts3 x y z)) (hT : TokLo n s.toks) (G : Gd w A₀ base outer h₀ mean mg mb dp un) (hD : D ≤ 6) (F : Fr h₀ L s.heap m) (N : News h₀ L s.heap news)
    (ret : ∀ l t1 t2 t3 h' tk', TokLo n tk' → Fr h₀ L h' m → News h₀ L h' ((l, tup3 x y z t1 t2 t3) :: news) → Q (.ref l) { s with heap := h', toks := tk' }) (hk : cs.kind = .function := by rfl) :
    wpAny (model PG w) (ktrTop dp un gd cn cs L a ccd cl outer) (call (.ref f) vs) Q E s := use_g C hT G hD F N hk fun r tl h' tk' hT' F' N' off hp => by
  obtain ⟨l, t1, t2, t3, rfl, rfl⟩ := hp
  exact ret l t1 t2 t3 h' tk' hT' F' N'
theorem useP {x y z : Int} (C : Ct w D f news vs (Parts x y z)) (hT : TokLo n s.toks) (G : Gd w A₀ base outer h₀ mean mg mb dp un) (hD : D ≤ 6) (F : Fr h₀ L s.heap m) (N : News h₀ L s.heap news)
    (ret : ∀ p q r l t1 t2 t3 h' tk', WholeIs p x → WholeIs q y → WholeIs r z → TokLo n tk' → Fr h₀ L h' m → News h₀ L h' ((l, tup3 p q r t1 t2 t3) :: news) → Q (.ref l) { s with heap := h', toks := tk' }) (hk : cs.kind = .function := by rfl) :
    wpAny (model PG w) (ktrTop dp un gd cn cs L a ccd cl outer) (call (.ref f) vs) Q E s := use_g C hT G hD F N hk fun r tl h' tk' hT' F' N' off hp => by
  obtain ⟨p, q, r, ⟨l, t1, t2, t3, rfl, rfl⟩, e1, e2, e3⟩ := hp
  exact ret p q r l t1 t2 t3 h' tk' e1 e2 e3 hT' F' N'
theorem useI {x : Int} (C : CiT w D f vs x) (hT : TokLo n s.toks) (G : Gd w A₀ base outer h₀ mean mg mb dp un) (hD : D ≤ 6) (F : Fr h₀ L s.heap m) (N : News h₀ L s.heap news)
    (ret : ∀ t h' tk', @LE.le Nat _ n t → TokLo n tk' → Fr h₀ L h' m → News h₀ L h' news → Q (.int x t) { s with heap := h', toks := tk' }) (hk : cs.kind = .function := by rfl) :
    wpAny (model PG w) (ktrTop dp un gd cn cs L a ccd cl outer) (call (.ref f) vs) Q E s :=
  cit_use C hT G.b F G.x N G.t hk (by have := G.d; omega) (by have := G.u; omega) fun h' tk' t hT' ht F' N' => ret t h' tk' ht hT' F' N'
theorem useK {b : Int} (C : Ct w D f news vs (fun r tl => ∃ k : Int, Int1 k r tl ∧ 0 ≤ k ∧ k < 6 ∧ rankL.getD k.toNat 0 = b)) (hT : TokLo n s.toks) (G : Gd w A₀ base outer h₀ mean mg mb dp un) (hD : D ≤ 6) (F : Fr h₀ L s.heap m) (N : News h₀ L s.heap news)
    (ret : ∀ k t h' tk', (0 ≤ k ∧ k < 6) → rankL.getD k.toNat 0 = b → TokLo n tk' → Fr h₀ L h' m → News h₀ L h' news → Q (.int k t) { s with heap := h', toks := tk' }) (hk : cs.kind = .function := by rfl) :
    wpAny (model PG w) (ktrTop dp un gd cn cs L a ccd cl outer) (call (.ref f) vs) Q E s := use_g C hT G hD F N hk fun r tl h' tk' hT' F' N' off hp => by
  obtain ⟨k, ⟨rfl, t, rfl⟩, h0, h6, e⟩ := hp
  exact ret k t h' tk' ⟨h0, h6⟩ e hT' F' N'
/-- a name made by the law: a text, or a QName of it; its objects stand at the ledger's end -/
theorem useN {t : Str} {D : Nat} {vs : List Value} {f : Addr} (C : CsT w D f [] vs (NamePost w t)) (hT : TokLo n s.toks) (G : Gd w A₀ base outer h₀ mean mg mb dp un) (hD : D ≤ 6) (F : Fr h₀ L s.heap m) (N : News h₀ L s.heap news)
    (ret : ∀ r tl h' tk', NameIn w tl r t → TokAt n tk' r → TokLo n tk' → Fr h₀ L h' m → News h₀ L h' (news ++ tl) → Q r { s with heap := h', toks := tk' }) (hk : cs.kind = .function := by rfl) :
    wpAny (model PG w) (ktrTop dp un gd cn cs L a ccd cl outer) (call (.ref f) vs) Q E s :=
  wpAny_with_toks hT (cst_use C G.b F G.x N G.t hk (by have := G.d; omega) (by have := G.u; omega) fun r tl h' tk' F' N' off hp ht hT' =>
    ret r tl h' tk' (namePost_in hp) (ht.widen hT (Nat.le_refl _)) hT' F' fun p hp => N' p ((List.mem_append.mp hp).elim (fun h => List.mem_append_right _ h) fun h => List.mem_append_left _ h))
end
end Mine
end
section
open PySem PySem.W PyProof.Rows PySem.Calls PySem.Flt
namespace Mine
/-- a mark at which a walk stops -/
noncomputable def Stopped (p : Prop) : Prop := p
theorem stopped {p : Prop} (h : Stopped p) : p := h
theorem Stopped.of {p : Prop} (h : p) : Stopped p := h
/-- the state between the turns of the first loop -/
inductive St1 (T : Nat) (RL : Addr) (base : List (Addr × Obj)) (hi : Int) (m : Str → Option Value) (nw : List (Addr × Obj)) : Prop
  | mk (PL : Addr) (x y z : Int) (t1 t2 t3 : Tok) (n : Nat) (tr : Tok) (e : nw = (PL, lst3 x y z t1 t2 t3 n) :: base) (off : ∀ p ∈ base, @Ne Nat p.1 PL) (hx : 1 ≤ x ∧ x ≤ hi) (hy : 1 ≤ y ∧ y ≤ hi) (hz : 1 ≤ z ∧ z ≤ hi) (ht : @LE.le Nat _ T tr)
    (hp : m (Str.ofString "place") = some (.ref PL)) (hr : m (Str.ofString "rest") = some (.int (wt x y z) tr)) (hk : m (Str.ofString "ranks") = some (.ref RL))
theorem item_ints {prog : Program} {w : World} {A : Around} {E : Value → Shared → Prop} {s : Shared} {h₀ : Heap} {L : Addr} {news : List (Addr × Obj)} {value slice : Expr} {C : Addr} {vs : List Value} {n : Nat} {cs : List Int} {k : Int} {u : Tok} {Q : Value → Shared → Prop} (N : News h₀ L s.heap news) (hm : (C, ({ cls := .type "list", data := .seq vs.toArray n } : Obj)) ∈ news) (hi : IntsAre vs cs) (hn : cs.length = 6)
    (h0 : 0 ≤ k) (h1 : k < 6) (h : ∀ t, Q (.int (cs.getD k.toNat 0) t) s)
    (hs : subscripted slice false (.ref C) (.int k u) = operate [.ref C, .int k u] (getItem (.ref C) (.int k u)) := by with_unfolding_all rfl) (hg : ∀ r, letTemporaryGo value (.ref C) r = pure () := by intro _; with_unfolding_all rfl) :
    wpAny (model prog w) A (subscriptTail value slice (.ref C) (.int k u)) Q E s :=
  item_list_ints (vs := vs) (show s.heap.IsList C vs.toArray from ⟨_, (N _ hm).1, rfl, _, rfl⟩) hi h0 (by omega) (by omega) h hs hg
theorem ne_led {prog : Program} {w : World} {A : Around} {E : Value → Shared → Prop} {s : Shared} {h₀ : Heap} {L a b : Addr} {news : List (Addr × Obj)} {vs us : List Value} {n k : Nat} {ns ms : List Int} {Q : Value → Shared → Prop} (N : News h₀ L s.heap news) (h1 : (a, ({ cls := .type "list", data := .seq vs.toArray n } : Obj)) ∈ news) (h2 : (b, ({ cls := .type "list", data := .seq us.toArray k } : Obj)) ∈ news)
    (hi : IntsAre vs ns) (hi' : IntsAre us ms) (hu : A.units + 64 < cLine) (e : ns = ms) (h : Q (.bool false) s) : wpAny (model prog w) A (compareOp .NotEq (.ref a) (.ref b)) Q E s := by
  refine ne_intsK (ns := ns) (ms := ms) ⟨_, (N _ h1).1, rfl, _, rfl⟩ hi ⟨_, (N _ h2).1, rfl, _, rfl⟩ hi' hu ?_
  subst e
  simpa using h
theorem turn_end {h₀ h' : Heap} {L PL RL W WL I : Addr} {T tk n tr : Nat} {s0 : Shared} {oI oR oW oV : Obj} {x y z : Int} {a b c : Tok} {r hi : Int} {m' : Str → Option Value} {led0 rest : List (Addr × Obj)} {Q : Flow → Shared → Prop}
    (F : Fr h₀ L h' m') (N : News h₀ L h' ((PL, lst3 x y z a b c n) :: led0)) (hl : ∀ q ∈ led0, @Ne Nat q.1 PL) (hI : (I, oI) ∈ led0) (h1 : (RL, oR) ∈ led0) (h2 : (W, oW) ∈ led0) (h3 : (WL, oV) ∈ led0) (hr : ∀ p ∈ rest, p ∈ led0)
    (off : ∀ p ∈ (RL, oR) :: (W, oW) :: (WL, oV) :: rest, @Ne Nat p.1 I) (hmp : m' (Str.ofString "place") = some (.ref PL)) (hmr : m' (Str.ofString "rest") = some (.int r tr)) (hmk : m' (Str.ofString "ranks") = some (.ref RL)) (hw : r = wt x y z) (ht : @LE.le Nat _ T tr)
    (hx : 1 ≤ x ∧ x ≤ hi) (hy : 1 ≤ y ∧ y ≤ hi) (hz : 1 ≤ z ∧ z ≤ hi) :
    TurnQ h₀ L T s0 [(I, oI)] (St1 T RL ((RL, oR) :: (W, oW) :: (WL, oV) :: rest) hi) Q .next { s0 with heap := h', toks := tk } := by
  have sub : ∀ p ∈ (RL, oR) :: (W, oW) :: (WL, oV) :: rest, p ∈ led0 := fun p hp => by
    rcases List.mem_cons.mp hp with rfl | hp
    · exact h1
    rcases List.mem_cons.mp hp with rfl | hp
    · exact h2
    rcases List.mem_cons.mp hp with rfl | hp
    · exact h3
    · exact hr p hp
  refine turn_next (news' := (PL, lst3 x y z a b c n) :: (RL, oR) :: (W, oW) :: (WL, oV) :: rest) F (fun p hp => ?_) (fun p hp q hq => ?_) ⟨PL, x, y, z, a, b, c, n, tr, rfl, fun p hp => hl p (sub p hp), hx, hy, hz, ht, hmp, hw ▸ hmr, hmk⟩
  · rcases List.mem_cons.mp hp with rfl | hp
    · exact N _ (.tail _ hI)
    rcases List.mem_cons.mp hp with rfl | hp
    · exact N _ (.head _)
    · exact N _ (.tail _ (sub p hp))
  · rw [List.mem_singleton.mp hq]
    rcases List.mem_cons.mp hp with rfl | hp
    · exact Ne.symm (hl _ hI)
    · exact off p hp
theorem eqOnD_ct (w : World) (news : List (Addr × Obj)) {v : Value} {d : Int} {t : Tok} (n2 : NameIn w news v (textOf d.toNat)) (hd : d = 6) : Ct w 2 28 news [v, .str (Str.ofString "{turn}on") t] (Bool1 true) := by
  subst hd; exact eqOn_ct w news n2
theorem eqBackD_ct (w : World) (news : List (Addr × Obj)) {v : Value} {d : Int} {t : Tok} (n2 : NameIn w news v (textOf d.toNat)) (hd : d = 7) : Ct w 2 28 news [v, .str (Str.ofString "{turn}on") t] (Bool1 false) := by
  subst hd; exact eqBack_ct w news n2
theorem sixth_is : Float64.div c1 c6 = csixth := by decide +kernel
theorem onD_ct {x y z : Int} (hx : 0 ≤ x ∧ x ≤ 60) (hy : 0 ≤ y ∧ y ≤ 60) (hz : 0 ≤ z ∧ z ≤ 60) (w : World) (news : List (Addr × Obj)) (t1 t2 t3 : Tok) :
    Ct w 1 112 news [.float (Float64.add (hueX x y z) (Float64.div c1 c6)) t1, .float (satX x y z) t2, .float (fmax3 (pt x) (pt y) (pt z)) t3] (Parts (nextR x y z 6) (nextG x y z 6) (nextB x y z 6)) := by
  rw [sixth_is]; exact onX_ct hx hy hz w news t1 t2 t3
theorem backD_ct {x y z : Int} (hx : 0 ≤ x ∧ x ≤ 60) (hy : 0 ≤ y ∧ y ≤ 60) (hz : 0 ≤ z ∧ z ≤ 60) (w : World) (news : List (Addr × Obj)) (t1 t2 t3 : Tok) :
    Ct w 2 91 news [.float (Float64.sub (hueX x y z) (Float64.div c1 c6)) t1, .float (lightOf (pt x) (pt y) (pt z)) t2, .float (depX x y z) t3] (Parts (nextR x y z 7) (nextG x y z 7) (nextB x y z 7)) := by
  rw [sixth_is]; exact backX_ct hx hy hz w news t1 t2 t3
theorem gen_lo {α : Type} {M : Model} {A : Around} {c : Sem α} {Q : α → Shared → Prop} {E : Value → Shared → Prop} {s : Shared} {n : Nat} (hT : TokLo n s.toks) (h : ∀ tk, TokLo n tk → wpAny M A c Q E { s with toks := tk }) : wpAny M A c Q E s := h _ hT
theorem in3_in {u x hi : Int} (b : 0 ≤ u ∧ u ≤ 1) (h : 1 ≤ x ∧ x ≤ hi) : 1 ≤ x + u ∧ x + u ≤ hi + 1 := ⟨Int.le_trans h.1 (Int.le_add_of_nonneg_right b.1), Int.add_le_add h.2 b.2⟩
theorem in_60 {x hi : Int} (hh : hi ≤ 59) (h : 1 ≤ x ∧ x ≤ hi) : 0 ≤ x ∧ x ≤ 60 := ⟨Int.le_trans (by decide) h.1, Int.le_trans h.2 (Int.le_trans hh (by decide))⟩
theorem up1 {x hi : Int} (h : 1 ≤ x ∧ x ≤ hi) : 1 ≤ x ∧ x ≤ hi + 1 := ⟨h.1, Int.le_trans h.2 (Int.le_add_of_nonneg_right (by decide))⟩
theorem turn_bd6 {x y z d : Int} {hi : Int} (hd : d = 6 ∨ d = 7) (hx : 1 ≤ x ∧ x ≤ hi) (hy : 1 ≤ y ∧ y ≤ hi) (hz : 1 ≤ z ∧ z ≤ hi) :
    (1 ≤ nextR x y z d ∧ nextR x y z d ≤ hi + 1) ∧ (1 ≤ nextG x y z d ∧ nextG x y z d ≤ hi + 1) ∧ (1 ≤ nextB x y z d ∧ nextB x y z d ≤ hi + 1) :=
  have h := turn_bd hd hx hy hz
  ⟨up1 h.1, up1 h.2.1, up1 h.2.2⟩
noncomputable abbrev lawCl (R W C : Addr) : List (Str × Addr) := [(Str.ofString "road", R), (Str.ofString "wheel", W), (Str.ofString "cells", C)]
noncomputable abbrev lawA (dp un : Nat) (gd : Option (List Code)) (cn : Str) (L a : Addr) (ccd : Value) (R W C : Addr) (outer : List Env) : Around := ktrTop dp un gd cn lawScope L a ccd (lawCl R W C) outer
noncomputable abbrev lawE (cn : Str) (L a : Addr) (ccd : Value) (R W C : Addr) : Env := envX cn lawScope L a ccd (lawCl R W C)
theorem Gd.u64 {w : World} {A₀ : Around} {base : Heap} {outer : List Env} {h₀ : Heap} {mean : ExcName → Option Value} {mg mb : Str → Option Value} {dp un : Nat} (G : Gd w A₀ base outer h₀ mean mg mb dp un) : un + 64 < cLine := Nat.lt_trans (Nat.add_lt_add_left (by decide) un) G.u
end Mine
end
section
open PySem PySem.W PyProof.Rows PySem.Calls PySem.Flt
namespace Mine
set_option maxRecDepth 100000 in
set_option maxHeartbeats 4000000 in
theorem turn_pre (w : World) {mean : ExcName → Option Value} {mg mb : Str → Option Value} {dp un : Nat} {gd : Option (List Code)} {cn : Str} {a : Addr} {ccd : Value} {outer : List Env} {A₀ : Around} {base h₀ : Heap} {L : Addr} {m : Str → Option Value} {s : Shared} {Qf : Flow → Shared → Prop} {E : Value → Shared → Prop}
    {st : List Stmt} {R W C RL WL PL I : Addr} {oI oR ow oV : Obj} {rest : List (Addr × Obj)} {T n : Nat} {c x y z r : Int} {tc t1 t2 t3 tr : Tok} {px : Pos}
    (G : Gd w A₀ base outer h₀ mean mg mb dp un) (hst : st = lawFor 6) (hT : TokLo T s.toks) (hx : 0 ≤ x ∧ x ≤ 60) (hy : 0 ≤ y ∧ y ≤ 60) (hz : 0 ≤ z ∧ z ≤ 60) (hd : 0 ≤ c.fmod 8 ∧ c.fmod 8 < 8)
    (hmp : m (Str.ofString "place") = some (.ref PL)) (hmr : m (Str.ofString "rest") = some (.int r tr)) (hmk : m (Str.ofString "ranks") = some (.ref RL))
    (F : Fr h₀ L s.heap m) (N : News h₀ L s.heap ((I, oI) :: (PL, lst3 x y z t1 t2 t3 n) :: (RL, oR) :: (W, ow) :: (WL, oV) :: rest))
    (k : ∀ r9 DL u1 u2 u3 n' v1 v2 v3 tl h' tk' tk0 m', Fr h₀ L h' m' → News h₀ L h' ((DL, lst3 (nextR x y z (c.fmod 8)) (nextG x y z (c.fmod 8)) (nextB x y z (c.fmod 8)) u1 u2 u3 n') :: (I, oI) :: (PL, lst3 x y z t1 t2 t3 n) :: (RL, oR) :: (W, ow) :: (WL, oV) :: (rest ++ tl)) →
      NameIn w tl r9 (textOf (c.fmod 8).toNat) → TokAt T tk0 r9 → TokLo T tk' → m' (Str.ofString "rest") = some (.int r tr) → m' (Str.ofString "ranks") = some (.ref RL) → m' (Str.ofString "place") = some (.ref PL) → m' (Str.ofString "name") = some r9 → m' (Str.ofString "due") = some (.ref DL) →
      m' (Str.ofString "red") = some (.float (pt x) v1) → m' (Str.ofString "green") = some (.float (pt y) v2) → m' (Str.ofString "blue") = some (.float (pt z) v3) →
      wpAny (model PG w) (lawA dp un gd cn L a ccd R W C outer) (execs (st.drop 3) (lawE cn L a ccd R W C)) Qf E { s with heap := h', toks := tk' }) :
    let A9 := lawA dp un gd cn L a ccd R W C outer
    let e9 := lawE cn L a ccd R W C
    wpAny (model PG w) A9 (assign (.Name (Str.ofString "cell") px) e9 (.int c tc)) (fun _ s₂ => wpAny (model PG w) A9 (execs st e9) Qf E s₂) E s := by
  intro A9 e9
  k_with_none
  k_with "execs cons" => (k_here; (rename TokLo _ _ => hT9); (refine' execs_cons_T (TokLo.any hT9 ?kt) ?_); (case kt => ((try dsimp only); k_dflt (repeat (first | exact Nat.le_refl _ | exact Nat.le_add_right _ _ | refine Nat.le_succ_of_le ?_)))); (try dsimp only))
  k_with "forall" => (intro tk9 e9 hT9; clear e9; (try dsimp only); (try k_fold))
  k_with "eval BinOp" => (k_here; dsimp only; (try k_fold))
  k_with "eval Call" => (k_here; dsimp only; (try k_fold))
  k_with "eval Subscript" => (k_here; dsimp only; (try k_fold))
  k_with "CompSrc" => (k_here; k_dflt (refine LCg.CompSrc.ledger (by rfl) (by k_asm) (by k_asm) (by k_mem) (by first | size_fits | exact Nat.le_of_ble_eq_true rfl) ?_; intro g'; lcg_lit))
  k_with "CompEnd" => ((rename News _ _ _ _ => lN'); k_dflt (refine compEnd_tail (by assumption) lN' (by assumption) (by lcg_src) ?_))
  k_with "call ref" => (k_here; (with_reducible show wpAny _ _ (call (Value.ref 211) _) _ _ _); k_dflt (refine' use3 (nextX_ct _ _ ?q1 ?q2 ?q3 ?q4 ?q5) ?kT ?kG ?kD ?kF ?kN ?_; (case kF => k_asm); (case kN => k_asm); (case kG => assumption); (case kD => decide); (case kT => ((rename TokLo _ _ => hT9); refine TokLo.any hT9 ?_; ((try dsimp only); k_dflt (repeat (first | exact Nat.le_refl _ | exact Nat.le_add_right _ _ | refine Nat.le_succ_of_le ?_))))); (case q1 => k_mem); (case q2 => first | assumption | omega); (case q3 => first | assumption | omega); (case q4 => first | assumption | omega); (case q5 => first | assumption | omega); intro l9 ta9 tb9 tc9 n9 h9 tk9 hT9 F9 N9 hl9; (try dsimp only); (try k_sweep); (try k_fold)))
  k_with "call ref" => (k_here; (with_reducible show wpAny _ _ (call (Value.ref 204) _) _ _ _); with_reducible refine stopped ?_)
  k_with "execs cons" => (k_here; (with_reducible show wpAny _ _ (execs (Stmt.If _ _ _ _ :: _) _) _ _ _); with_reducible refine stopped ?_)
  conv at hst => rhs; whnf
  subst hst
  unfold PG at *
  have T₀ := G.t
  have X := G.x
  revert X
  k_fill
  intro X
  have F₁ := fr_say (fr_say (fr_say F hmp) ((if_neg (by decide)).trans hmr)) ((if_neg (by decide)).trans ((if_neg (by decide)).trans hmk))
  clear F hmp hmr hmk
  have hf3 := fm3 (c.fdiv 8)
  have hTs := hT
  clear hT
  (with_reducible show wpAny _ _ _ _ _ _)
  k_fold
  k_steps
  refine Stopped.of ?_
  k_dflt (refine' useN (nt _ _ _ _ _ ?q1 ?q2) ?kT ?kG ?kD ?kF ?kN ?_; (case kF => k_asm); (case kN => k_asm); (case kG => assumption); (case kD => decide); (case kT => ((rename TokLo _ _ => hT9); refine TokLo.any hT9 ?_; ((try dsimp only); k_dflt (repeat (first | exact Nat.le_refl _ | exact Nat.le_add_right _ _ | refine Nat.le_succ_of_le ?_))))); (case q1 => omega); (case q2 => assumption))
  intro r9 tl9 h9 tk9 hm9 ht9 hT9 F9 N9
  simp only [List.cons_append] at N9
  try dsimp only
  k_sweep
  try k_fold
  k_steps
  refine Stopped.of ?_
  (rename Fr _ _ _ _ => lF); (rename News _ _ _ _ => lN); (rename TokLo _ _ => hT8)
  refine' k _ _ _ _ _ _ _ _ _ _ _ _ _ _ lF (fun p hp => lN p (.tail _ hp)) hm9 ht9 (TokLo.any hT8 (by (try dsimp only); k_dflt (repeat (first | exact Nat.le_refl _ | exact Nat.le_add_right _ _ | refine Nat.le_succ_of_le ?_)))) ?_ ?_ ?_ ?_ ?_ ?_ ?_ ?_
  any_goals rfl
end Mine
end
section
open PySem PySem.W PyProof.Rows PySem.Calls PySem.Flt
namespace Mine
set_option maxRecDepth 100000 in
set_option maxHeartbeats 4000000 in
theorem kind_step (w : World) {mean : ExcName → Option Value} {mg mb : Str → Option Value} {dp un : Nat} {gd : Option (List Code)} {cn : Str} {a : Addr} {ccd : Value} {outer : List Env} {A₀ : Around} {base h₀ : Heap} {L : Addr} {m : Str → Option Value} {s0 : Shared} {Q : Flow → Shared → Prop} {E : Value → Shared → Prop}
    {d : Int} {st : List Stmt} {R W C RL WL PL DL I : Addr} {oI ow : Obj} {wv rv : List Value} {rest tl : List (Addr × Obj)} {T n n2 tk tk0 tr : Nat} {hi x y z : Int} {t1 t2 t3 u1 u2 u3 v1 v2 v3 : Tok} {h : Heap} {r9 : Value}
    (G : Gd w A₀ base outer h₀ mean mg mb dp un) (hst : st = (lawFor 6).drop 3) (hd : 0 ≤ d ∧ d < 6)
    (hw : ow.data = .cell (some (.ref WL))) (hn : NamesIn w rest wv wheelT) (hwt : ∀ y ∈ wv, TokAt 1 T y) (hri : IntsAre rv rankL)
    (hT : TokLo T tk) (hhi : hi ≤ 59) (hx : 1 ≤ x ∧ x ≤ hi) (hy : 1 ≤ y ∧ y ≤ hi) (hz : 1 ≤ z ∧ z ≤ hi) (htr : @LE.le Nat _ T tr)
    (off : ∀ p ∈ (RL, LCg.lst rv) :: (W, ow) :: (WL, LCg.lst wv) :: rest, @Ne Nat p.1 I) (F : Fr h₀ L h m)
    (N : News h₀ L h ((DL, lst3 (nextR x y z d) (nextG x y z d) (nextB x y z d) u1 u2 u3 n2) :: (I, oI) :: (PL, lst3 x y z t1 t2 t3 n) :: (RL, LCg.lst rv) :: (W, ow) :: (WL, LCg.lst wv) :: (rest ++ tl)))
    (hm : NameIn w tl r9 (textOf (Int.toNat d))) (hk2 : TokAt T tk0 r9) (m1 : m (Str.ofString "rest") = some (.int (wt x y z) tr)) (m2 : m (Str.ofString "ranks") = some (.ref RL)) (m3 : m (Str.ofString "place") = some (.ref PL)) (m4 : m (Str.ofString "name") = some r9) (m5 : m (Str.ofString "due") = some (.ref DL))
    (m6 : m (Str.ofString "red") = some (.float (pt x) v1)) (m7 : m (Str.ofString "green") = some (.float (pt y) v2)) (m8 : m (Str.ofString "blue") = some (.float (pt z) v3)) :
    let A9 := lawA dp un gd cn L a ccd R W C outer
    let e9 := lawE cn L a ccd R W C
    wpAny (model PG w) A9 (execs st e9) (TurnQ h₀ L T s0 [(I, oI)] (St1 T RL ((RL, LCg.lst rv) :: (W, ow) :: (WL, LCg.lst wv) :: rest) (hi + 1)) Q) E { s0 with heap := h, toks := tk } := by
  intro A9 e9
  k_with_none
  k_with "execs cons" => (k_here; (rename TokLo _ _ => hT9); (refine' execs_cons_T (TokLo.any hT9 ?kt) ?_); (case kt => ((try dsimp only); k_dflt (repeat (first | exact Nat.le_refl _ | exact Nat.le_add_right _ _ | refine Nat.le_succ_of_le ?_)))); (try dsimp only))
  k_with "forall" => (intro tk9 e9 hT9; clear e9; (try dsimp only); (try k_fold))
  k_with "eval BinOp" => (k_here; dsimp only; (try k_fold))
  k_with "eval Call" => (k_here; dsimp only; (try k_fold))
  k_with "eval Subscript" => (k_here; dsimp only; (try k_fold))
  k_with "compareOp NotEq ref ref" => (k_here; k_dflt (refine' ne_led ?k1 ?k2 ?k3 ?k4 ?k5 ?k6 ?k7 ?_; (case k1 => k_asm); (case k2 => k_mem); (case k3 => k_mem); (case k4 => exact .cons _ _ (.cons _ _ (.cons _ _ .nil))); (case k5 => exact .cons _ _ (.cons _ _ (.cons _ _ .nil))); (case k6 => assumption); (case k7 => first | assumption | rfl); (try dsimp only); (try k_fold)))
  k_with "call ref" => (k_here; (with_reducible show wpAny _ _ (call (Value.ref 56) _) _ _ _); k_dflt (refine' useB (containsY_ct _ _ ?n1 ?n2 ?n3 ?n4) ?kT ?kG ?kD ?kF ?kN ?_; (case kF => k_asm); (case kN => k_asm); (case kG => assumption); (case kD => decide); (case kT => ((rename TokLo _ _ => hT9); refine TokLo.any hT9 ?_; ((try dsimp only); k_dflt (repeat (first | exact Nat.le_refl _ | exact Nat.le_add_right _ _ | refine Nat.le_succ_of_le ?_))))); (case n1 => ((rename NamesIn _ _ _ _ => hn9); exact NamesIn.mono (fun p hp => by repeat (first | exact hp | refine List.mem_cons_of_mem _ ?_)) hn9)); (case n2 => k_mem); (case n3 => ((rename NameIn _ _ _ _ => hn9); exact NameIn.mono hn9 (fun p hp => by repeat (first | exact hp | refine List.mem_cons_of_mem _ ?_)))); (case n4 => assumption); intro h9 tk9 hT9 F9 N9; (try dsimp only); (try k_sweep); (try k_fold)))
  k_with "call ref" => (k_here; (with_reducible show wpAny _ _ (call (Value.ref 70) _) _ _ _); k_dflt (refine' use1 (idxX_ct _ _ ?n1 ?n2 ?n3 ?n4 ?n5 ?n6) ?kT ?kG ?kD ?kF ?kN ?_; (case kF => k_asm); (case kN => k_asm); (case kG => assumption); (case kD => decide); (case kT => ((rename TokLo _ _ => hT9); refine TokLo.any hT9 ?_; ((try dsimp only); k_dflt (repeat (first | exact Nat.le_refl _ | exact Nat.le_add_right _ _ | refine Nat.le_succ_of_le ?_))))); (case n1 => ((rename NamesIn _ _ _ _ => hn9); exact NamesIn.mono (fun p hp => by repeat (first | exact hp | refine List.mem_cons_of_mem _ ?_)) hn9)); (case n2 => k_mem); (case n3 => ((rename NameIn _ _ _ _ => hn9); exact NameIn.mono hn9 (fun p hp => by repeat (first | exact hp | refine List.mem_cons_of_mem _ ?_)))); (case n4 => assumption); (case n5 => assumption); (case n6 => assumption); intro t9 h9 tk9 hT9 F9 N9; (try dsimp only); (try k_sweep); (try k_fold)))
  k_with "call ref" => (k_here; (with_reducible show wpAny _ _ (call (Value.ref 221) _) _ _ _); k_dflt (refine' use3 (ledAdd_ct _ _ ?q1 ?q2) ?kT ?kG ?kD ?kF ?kN ?_; (case kF => k_asm); (case kN => k_asm); (case kG => assumption); (case kD => decide); (case kT => ((rename TokLo _ _ => hT9); refine TokLo.any hT9 ?_; ((try dsimp only); k_dflt (repeat (first | exact Nat.le_refl _ | exact Nat.le_add_right _ _ | refine Nat.le_succ_of_le ?_))))); (case q1 => k_mem); (case q2 => assumption); intro l9 ta9 tb9 tc9 n9 h9 tk9 hT9 F9 N9 hl9; (try dsimp only); (try k_sweep); (try k_fold)))
  k_with "call ref" => (k_here; (with_reducible show wpAny _ _ (call (Value.ref 35) _) _ _ _); k_dflt (refine' use1 (add_ct _ _ _ _ _ _) ?kT ?kG ?kD ?kF ?kN ?_; (case kF => k_asm); (case kN => k_asm); (case kG => assumption); (case kD => decide); (case kT => ((rename TokLo _ _ => hT9); refine TokLo.any hT9 ?_; ((try dsimp only); k_dflt (repeat (first | exact Nat.le_refl _ | exact Nat.le_add_right _ _ | refine Nat.le_succ_of_le ?_))))); intro t9 h9 tk9 hT9 F9 N9; (try dsimp only); (try k_sweep); (try k_fold)))
  k_with "call ref" => (k_here; (with_reducible show wpAny _ _ (call (Value.ref 42) _) _ _ _); k_dflt (refine' useI (modT_ct _ _ _ _) ?kT ?kG ?kD ?kF ?kN ?_; (case kF => k_asm); (case kN => k_asm); (case kG => assumption); (case kD => decide); (case kT => ((rename TokLo _ _ => hT9); refine TokLo.any hT9 ?_; ((try dsimp only); k_dflt (repeat (first | exact Nat.le_refl _ | exact Nat.le_add_right _ _ | refine Nat.le_succ_of_le ?_))))); intro t9 h9 tk9 htr9 hT9 F9 N9; (try dsimp only); (try k_sweep); (try k_fold)))
  k_with "subscriptTail Name Name ref int" => (k_here; (with_reducible show wpAny _ _ (subscriptTail (Expr.Name _ _) _ (Value.ref _) (Value.int _ _)) _ _ _); k_dflt (refine' item_ints ?k1 ?k2 ?k3 ?k4 ?k5 ?k6 ?_; (case k1 => k_asm); (case k2 => k_mem); (case k3 => assumption); (case k4 => rfl); (case k5 => first | exact hd.1 | omega); (case k6 => first | exact hd.2 | omega); intro t9; (try k_fold)))
  conv at hst => rhs; whnf
  subst hst
  unfold PG at *
  have T₀ := G.t
  have X := G.x
  revert X
  k_fill
  intro X
  have F₁ := fr_say (fr_say (fr_say (fr_say (fr_say (fr_say (fr_say (fr_say F m1) ((if_neg (by decide)).trans m2)) ((if_neg (by decide)).trans ((if_neg (by decide)).trans m3)))
    ((if_neg (by decide)).trans ((if_neg (by decide)).trans ((if_neg (by decide)).trans m4)))) ((if_neg (by decide)).trans ((if_neg (by decide)).trans ((if_neg (by decide)).trans ((if_neg (by decide)).trans m5)))))
    ((if_neg (by decide)).trans ((if_neg (by decide)).trans ((if_neg (by decide)).trans ((if_neg (by decide)).trans ((if_neg (by decide)).trans m6))))))
    ((if_neg (by decide)).trans ((if_neg (by decide)).trans ((if_neg (by decide)).trans ((if_neg (by decide)).trans ((if_neg (by decide)).trans ((if_neg (by decide)).trans m7)))))))
    ((if_neg (by decide)).trans ((if_neg (by decide)).trans ((if_neg (by decide)).trans ((if_neg (by decide)).trans ((if_neg (by decide)).trans ((if_neg (by decide)).trans ((if_neg (by decide)).trans m8))))))) 
  clear F m1 m2 m3 m4 m5 m6 m7 m8
  have hu64 := G.u64
  have hn2 : NamesIn w (rest ++ tl) wv wheelT := hn.mono fun p hp => List.mem_append_left _ hp
  have hnm := hm.mono (b := rest ++ tl) fun p hp => List.mem_append_right _ hp
  have hr2 : ∀ p ∈ rest, p ∈ rest ++ tl := fun p hp => List.mem_append_left _ hp
  clear hn hm
  generalize rest ++ tl = rest2 at *
  have hld : [x + in3 d 5 0 1, y + in3 d 1 2 3, z + in3 d 3 4 5] = [nextR x y z d, nextG x y z d, nextB x y z d] := by rw [(next_led hd).1, (next_led hd).2.1, (next_led hd).2.2]
  have hTs := hT
  clear hT
  (with_reducible show wpAny _ _ _ _ _ _)
  k_fold
  k_steps
  (rename Fr _ _ _ _ => lF); (rename News _ _ _ _ => lN)
  refine' turn_end lF lN ?hl ?hI ?h1 ?h2 ?h3 ?hr ?off ?hmp ?hmr ?hmk ?hw ?ht ?hx ?hy ?hz
  case hmp => rfl
  case hmr => rfl
  case hmk => rfl
  case hl => assumption
  case hI => k_mem
  case h1 => k_mem
  case h2 => k_mem
  case h3 => k_mem
  case hr => exact fun p hp => by repeat (first | exact hr2 p hp | refine List.mem_cons_of_mem _ ?_)
  case off => assumption
  case ht => assumption
  case hw => exact wt_step hd
  case hx => exact in3_in (in3_01 d 5 0 1) hx
  case hy => exact in3_in (in3_01 d 1 2 3) hy
  case hz => exact in3_in (in3_01 d 3 4 5) hz
end Mine
end
section
open PySem PySem.W PyProof.Rows PySem.Calls PySem.Flt
namespace Mine
set_option maxRecDepth 100000 in
set_option maxHeartbeats 4000000 in
theorem kind_on (w : World) {mean : ExcName → Option Value} {mg mb : Str → Option Value} {dp un : Nat} {gd : Option (List Code)} {cn : Str} {a : Addr} {ccd : Value} {outer : List Env} {A₀ : Around} {base h₀ : Heap} {L : Addr} {m : Str → Option Value} {s0 : Shared} {Q : Flow → Shared → Prop} {E : Value → Shared → Prop}
    {st : List Stmt} {R W C RL WL PL DL I : Addr} {oI ow : Obj} {wv rv : List Value} {rest tl : List (Addr × Obj)} {T n n2 tk tk0 tr : Nat} {hi x y z : Int} {t1 t2 t3 u1 u2 u3 v1 v2 v3 : Tok} {h : Heap} {r9 : Value}
    (G : Gd w A₀ base outer h₀ mean mg mb dp un) (hst : st = (lawFor 6).drop 3) 
    (hw : ow.data = .cell (some (.ref WL))) (hn : NamesIn w rest wv wheelT) (hwt : ∀ y ∈ wv, TokAt 1 T y) (hri : IntsAre rv rankL)
    (hT : TokLo T tk) (hhi : hi ≤ 59) (hx : 1 ≤ x ∧ x ≤ hi) (hy : 1 ≤ y ∧ y ≤ hi) (hz : 1 ≤ z ∧ z ≤ hi) (htr : @LE.le Nat _ T tr)
    (off : ∀ p ∈ (RL, LCg.lst rv) :: (W, ow) :: (WL, LCg.lst wv) :: rest, @Ne Nat p.1 I) (F : Fr h₀ L h m)
    (N : News h₀ L h ((DL, lst3 (nextR x y z 6) (nextG x y z 6) (nextB x y z 6) u1 u2 u3 n2) :: (I, oI) :: (PL, lst3 x y z t1 t2 t3 n) :: (RL, LCg.lst rv) :: (W, ow) :: (WL, LCg.lst wv) :: (rest ++ tl)))
    (hm : NameIn w tl r9 (textOf (Int.toNat 6))) (hk2 : TokAt T tk0 r9) (m1 : m (Str.ofString "rest") = some (.int (wt x y z) tr)) (m2 : m (Str.ofString "ranks") = some (.ref RL)) (m3 : m (Str.ofString "place") = some (.ref PL)) (m4 : m (Str.ofString "name") = some r9) (m5 : m (Str.ofString "due") = some (.ref DL))
    (m6 : m (Str.ofString "red") = some (.float (pt x) v1)) (m7 : m (Str.ofString "green") = some (.float (pt y) v2)) (m8 : m (Str.ofString "blue") = some (.float (pt z) v3)) :
    let A9 := lawA dp un gd cn L a ccd R W C outer
    let e9 := lawE cn L a ccd R W C
    wpAny (model PG w) A9 (execs st e9) (TurnQ h₀ L T s0 [(I, oI)] (St1 T RL ((RL, LCg.lst rv) :: (W, ow) :: (WL, LCg.lst wv) :: rest) (hi + 1)) Q) E { s0 with heap := h, toks := tk } := by
  intro A9 e9
  k_with_none
  k_with "execs cons" => (k_here; (rename TokLo _ _ => hT9); (refine' execs_cons_T (TokLo.any hT9 ?kt) ?_); (case kt => ((try dsimp only); k_dflt (repeat (first | exact Nat.le_refl _ | exact Nat.le_add_right _ _ | refine Nat.le_succ_of_le ?_)))); (try dsimp only))
  k_with "forall" => (intro tk9 e9 hT9; clear e9; (try dsimp only); (try k_fold))
  k_with "eval BinOp" => (k_here; dsimp only; (try k_fold))
  k_with "eval Call" => (k_here; dsimp only; (try k_fold))
  k_with "eval Subscript" => (k_here; dsimp only; (try k_fold))
  k_with "compareOp NotEq ref ref" => (k_here; k_dflt (refine' ne_led ?k1 ?k2 ?k3 ?k4 ?k5 ?k6 ?k7 ?_; (case k1 => k_asm); (case k2 => k_mem); (case k3 => k_mem); (case k4 => exact .cons _ _ (.cons _ _ (.cons _ _ .nil))); (case k5 => exact .cons _ _ (.cons _ _ (.cons _ _ .nil))); (case k6 => assumption); (case k7 => first | assumption | rfl); (try dsimp only); (try k_fold)))
  k_with "call ref" => (k_here; (with_reducible show wpAny _ _ (call (Value.ref 56) _) _ _ _); k_dflt (refine' useB (containsN_ct _ _ ?n1 ?n2 ?n3 ?n4) ?kT ?kG ?kD ?kF ?kN ?_; (case kF => k_asm); (case kN => k_asm); (case kG => assumption); (case kD => decide); (case kT => ((rename TokLo _ _ => hT9); refine TokLo.any hT9 ?_; ((try dsimp only); k_dflt (repeat (first | exact Nat.le_refl _ | exact Nat.le_add_right _ _ | refine Nat.le_succ_of_le ?_))))); (case n1 => ((rename NamesIn _ _ _ _ => hn9); exact NamesIn.mono (fun p hp => by repeat (first | exact hp | refine List.mem_cons_of_mem _ ?_)) hn9)); (case n2 => k_mem); (case n3 => ((rename NameIn _ _ _ _ => hn9); exact NameIn.mono hn9 (fun p hp => by repeat (first | exact hp | refine List.mem_cons_of_mem _ ?_)))); (case n4 => assumption); intro h9 tk9 hT9 F9 N9; (try dsimp only); (try k_sweep); (try k_fold)))
  k_with "call ref" => (k_here; (with_reducible show wpAny _ _ (call (Value.ref 28) _) _ _ _); k_dflt (refine' useB (eqOnD_ct _ _ ?n3 ?n4) ?kT ?kG ?kD ?kF ?kN ?_; (case kF => k_asm); (case kN => k_asm); (case kG => assumption); (case kD => decide); (case kT => ((rename TokLo _ _ => hT9); refine TokLo.any hT9 ?_; ((try dsimp only); k_dflt (repeat (first | exact Nat.le_refl _ | exact Nat.le_add_right _ _ | refine Nat.le_succ_of_le ?_))))); (case n3 => ((rename NameIn _ _ _ _ => hn9); exact NameIn.mono hn9 (fun p hp => by repeat (first | exact hp | refine List.mem_cons_of_mem _ ?_)))); (case n4 => assumption); intro h9 tk9 hT9 F9 N9; (try dsimp only); (try k_sweep); (try k_fold)))
  k_with "call ref" => (k_here; (with_reducible show wpAny _ _ (call (Value.ref 105) _) _ _ _); k_dflt (refine' useF3 (hsvX_ct ?q2 ?q3 ?q4 _ _ _ _ _) ?kT ?kG ?kD ?kF ?kN ?_; (case kF => k_asm); (case kN => k_asm); (case kG => assumption); (case kD => decide); (case kT => ((rename TokLo _ _ => hT9); refine TokLo.any hT9 ?_; ((try dsimp only); k_dflt (repeat (first | exact Nat.le_refl _ | exact Nat.le_add_right _ _ | refine Nat.le_succ_of_le ?_))))); (case q2 => first | assumption | omega); (case q3 => first | assumption | omega); (case q4 => first | assumption | omega); intro l9 ta9 tb9 tc9 h9 tk9 hT9 F9 N9; (try dsimp only); (try k_sweep); (try k_fold)))
  k_with "call ref" => (k_here; (with_reducible show wpAny _ _ (call (Value.ref 112) _) _ _ _); k_dflt (refine' useP (onD_ct ?q2 ?q3 ?q4 _ _ _ _ _) ?kT ?kG ?kD ?kF ?kN ?_; (case kF => k_asm); (case kN => k_asm); (case kG => assumption); (case kD => decide); (case kT => ((rename TokLo _ _ => hT9); refine TokLo.any hT9 ?_; ((try dsimp only); k_dflt (repeat (first | exact Nat.le_refl _ | exact Nat.le_add_right _ _ | refine Nat.le_succ_of_le ?_))))); (case q2 => first | assumption | omega); (case q3 => first | assumption | omega); (case q4 => first | assumption | omega); intro p9 q9 s9 l9 ta9 tb9 tc9 h9 tk9 w91 w92 w93 hT9 F9 N9; (try dsimp only); (try k_sweep); (try k_fold)))
  k_with "call ref" => (k_here; (with_reducible show wpAny _ _ (call (Value.ref 226) _) _ _ _); k_dflt (refine' use3 (wholeX_ct _ _ ?q1 ?q2 ?q3 ?q4) ?kT ?kG ?kD ?kF ?kN ?_; (case kF => k_asm); (case kN => k_asm); (case kG => assumption); (case kD => decide); (case kT => ((rename TokLo _ _ => hT9); refine TokLo.any hT9 ?_; ((try dsimp only); k_dflt (repeat (first | exact Nat.le_refl _ | exact Nat.le_add_right _ _ | refine Nat.le_succ_of_le ?_))))); (case q1 => k_mem); (case q2 => assumption); (case q3 => assumption); (case q4 => assumption); intro l9 ta9 tb9 tc9 n9 h9 tk9 hT9 F9 N9 hl9; (try dsimp only); (try k_sweep); (try k_fold)))
  k_with "call ref" => (k_here; (with_reducible show wpAny _ _ (call (Value.ref 49) _) _ _ _); k_dflt (refine' use1 (mul_ct _ _ _ _ _ _ ?q1 ?q2) ?kT ?kG ?kD ?kF ?kN ?_; (case kF => k_asm); (case kN => k_asm); (case kG => assumption); (case kD => decide); (case kT => ((rename TokLo _ _ => hT9); refine TokLo.any hT9 ?_; ((try dsimp only); k_dflt (repeat (first | exact Nat.le_refl _ | exact Nat.le_add_right _ _ | refine Nat.le_succ_of_le ?_))))); (case q1 => omega); (case q2 => omega); intro t9 h9 tk9 hT9 F9 N9; (try dsimp only); (try k_sweep); (try k_fold)))
  k_with "call ref" => (k_here; (with_reducible show wpAny _ _ (call (Value.ref 42) _) _ _ _); k_dflt (refine' useI (modT_ct _ _ _ _) ?kT ?kG ?kD ?kF ?kN ?_; (case kF => k_asm); (case kN => k_asm); (case kG => assumption); (case kD => decide); (case kT => ((rename TokLo _ _ => hT9); refine TokLo.any hT9 ?_; ((try dsimp only); k_dflt (repeat (first | exact Nat.le_refl _ | exact Nat.le_add_right _ _ | refine Nat.le_succ_of_le ?_))))); intro t9 h9 tk9 htr9 hT9 F9 N9; (try dsimp only); (try k_sweep); (try k_fold)))
  conv at hst => rhs; whnf
  subst hst
  unfold PG at *
  have T₀ := G.t
  have X := G.x
  revert X
  k_fill
  intro X
  have F₁ := fr_say (fr_say (fr_say (fr_say (fr_say (fr_say (fr_say (fr_say F m1) ((if_neg (by decide)).trans m2)) ((if_neg (by decide)).trans ((if_neg (by decide)).trans m3)))
    ((if_neg (by decide)).trans ((if_neg (by decide)).trans ((if_neg (by decide)).trans m4)))) ((if_neg (by decide)).trans ((if_neg (by decide)).trans ((if_neg (by decide)).trans ((if_neg (by decide)).trans m5)))))
    ((if_neg (by decide)).trans ((if_neg (by decide)).trans ((if_neg (by decide)).trans ((if_neg (by decide)).trans ((if_neg (by decide)).trans m6))))))
    ((if_neg (by decide)).trans ((if_neg (by decide)).trans ((if_neg (by decide)).trans ((if_neg (by decide)).trans ((if_neg (by decide)).trans ((if_neg (by decide)).trans m7)))))))
    ((if_neg (by decide)).trans ((if_neg (by decide)).trans ((if_neg (by decide)).trans ((if_neg (by decide)).trans ((if_neg (by decide)).trans ((if_neg (by decide)).trans ((if_neg (by decide)).trans m8))))))) 
  clear F m1 m2 m3 m4 m5 m6 m7 m8
  have hu64 := G.u64
  have hn2 : NamesIn w (rest ++ tl) wv wheelT := hn.mono fun p hp => List.mem_append_left _ hp
  have hnm := hm.mono (b := rest ++ tl) fun p hp => List.mem_append_right _ hp
  have hr2 : ∀ p ∈ rest, p ∈ rest ++ tl := fun p hp => List.mem_append_left _ hp
  clear hn hm
  generalize rest ++ tl = rest2 at *
  have h68 : 6 ≤ (6 : Int) ∧ (6 : Int) < 8 := by decide
  have h6r : (6 : Int) = 6 := rfl
  have x60 := in_60 hhi hx
  have y60 := in_60 hhi hy
  have z60 := in_60 hhi hz
  have hwb := wt_bd x y z
  have hTs := hT
  clear hT
  (with_reducible show wpAny _ _ _ _ _ _)
  k_fold
  k_steps
  (rename Fr _ _ _ _ => lF); (rename News _ _ _ _ => lN)
  refine' turn_end lF lN ?hl ?hI ?h1 ?h2 ?h3 ?hr ?off ?hmp ?hmr ?hmk ?hw ?ht ?hx ?hy ?hz
  case hmp => rfl
  case hmr => rfl
  case hmk => rfl
  case hl => assumption
  case hI => k_mem
  case h1 => k_mem
  case h2 => k_mem
  case h3 => k_mem
  case hr => exact fun p hp => by repeat (first | exact hr2 p hp | refine List.mem_cons_of_mem _ ?_)
  case off => assumption
  case ht => assumption
  case hw => exact wt_on x y z
  case hx => exact (turn_bd6 (.inl rfl) hx hy hz).1
  case hy => exact (turn_bd6 (.inl rfl) hx hy hz).2.1
  case hz => exact (turn_bd6 (.inl rfl) hx hy hz).2.2
end Mine
end
section
open PySem PySem.W PyProof.Rows PySem.Calls PySem.Flt
namespace Mine
set_option maxRecDepth 100000 in
set_option maxHeartbeats 4000000 in
theorem kind_back (w : World) {mean : ExcName → Option Value} {mg mb : Str → Option Value} {dp un : Nat} {gd : Option (List Code)} {cn : Str} {a : Addr} {ccd : Value} {outer : List Env} {A₀ : Around} {base h₀ : Heap} {L : Addr} {m : Str → Option Value} {s0 : Shared} {Q : Flow → Shared → Prop} {E : Value → Shared → Prop}
    {st : List Stmt} {R W C RL WL PL DL I : Addr} {oI ow : Obj} {wv rv : List Value} {rest tl : List (Addr × Obj)} {T n n2 tk tk0 tr : Nat} {hi x y z : Int} {t1 t2 t3 u1 u2 u3 v1 v2 v3 : Tok} {h : Heap} {r9 : Value}
    (G : Gd w A₀ base outer h₀ mean mg mb dp un) (hst : st = (lawFor 6).drop 3) 
    (hw : ow.data = .cell (some (.ref WL))) (hn : NamesIn w rest wv wheelT) (hwt : ∀ y ∈ wv, TokAt 1 T y) (hri : IntsAre rv rankL)
    (hT : TokLo T tk) (hhi : hi ≤ 59) (hx : 1 ≤ x ∧ x ≤ hi) (hy : 1 ≤ y ∧ y ≤ hi) (hz : 1 ≤ z ∧ z ≤ hi) (htr : @LE.le Nat _ T tr)
    (off : ∀ p ∈ (RL, LCg.lst rv) :: (W, ow) :: (WL, LCg.lst wv) :: rest, @Ne Nat p.1 I) (F : Fr h₀ L h m)
    (N : News h₀ L h ((DL, lst3 (nextR x y z 7) (nextG x y z 7) (nextB x y z 7) u1 u2 u3 n2) :: (I, oI) :: (PL, lst3 x y z t1 t2 t3 n) :: (RL, LCg.lst rv) :: (W, ow) :: (WL, LCg.lst wv) :: (rest ++ tl)))
    (hm : NameIn w tl r9 (textOf (Int.toNat 7))) (hk2 : TokAt T tk0 r9) (m1 : m (Str.ofString "rest") = some (.int (wt x y z) tr)) (m2 : m (Str.ofString "ranks") = some (.ref RL)) (m3 : m (Str.ofString "place") = some (.ref PL)) (m4 : m (Str.ofString "name") = some r9) (m5 : m (Str.ofString "due") = some (.ref DL))
    (m6 : m (Str.ofString "red") = some (.float (pt x) v1)) (m7 : m (Str.ofString "green") = some (.float (pt y) v2)) (m8 : m (Str.ofString "blue") = some (.float (pt z) v3)) :
    let A9 := lawA dp un gd cn L a ccd R W C outer
    let e9 := lawE cn L a ccd R W C
    wpAny (model PG w) A9 (execs st e9) (TurnQ h₀ L T s0 [(I, oI)] (St1 T RL ((RL, LCg.lst rv) :: (W, ow) :: (WL, LCg.lst wv) :: rest) (hi + 1)) Q) E { s0 with heap := h, toks := tk } := by
  intro A9 e9
  k_with_none
  k_with "execs cons" => (k_here; (rename TokLo _ _ => hT9); (refine' execs_cons_T (TokLo.any hT9 ?kt) ?_); (case kt => ((try dsimp only); k_dflt (repeat (first | exact Nat.le_refl _ | exact Nat.le_add_right _ _ | refine Nat.le_succ_of_le ?_)))); (try dsimp only))
  k_with "forall" => (intro tk9 e9 hT9; clear e9; (try dsimp only); (try k_fold))
  k_with "eval BinOp" => (k_here; dsimp only; (try k_fold))
  k_with "eval Call" => (k_here; dsimp only; (try k_fold))
  k_with "eval Subscript" => (k_here; dsimp only; (try k_fold))
  k_with "compareOp NotEq ref ref" => (k_here; k_dflt (refine' ne_led ?k1 ?k2 ?k3 ?k4 ?k5 ?k6 ?k7 ?_; (case k1 => k_asm); (case k2 => k_mem); (case k3 => k_mem); (case k4 => exact .cons _ _ (.cons _ _ (.cons _ _ .nil))); (case k5 => exact .cons _ _ (.cons _ _ (.cons _ _ .nil))); (case k6 => assumption); (case k7 => first | assumption | rfl); (try dsimp only); (try k_fold)))
  k_with "call ref" => (k_here; (with_reducible show wpAny _ _ (call (Value.ref 56) _) _ _ _); k_dflt (refine' useB (containsN_ct _ _ ?n1 ?n2 ?n3 ?n4) ?kT ?kG ?kD ?kF ?kN ?_; (case kF => k_asm); (case kN => k_asm); (case kG => assumption); (case kD => decide); (case kT => ((rename TokLo _ _ => hT9); refine TokLo.any hT9 ?_; ((try dsimp only); k_dflt (repeat (first | exact Nat.le_refl _ | exact Nat.le_add_right _ _ | refine Nat.le_succ_of_le ?_))))); (case n1 => ((rename NamesIn _ _ _ _ => hn9); exact NamesIn.mono (fun p hp => by repeat (first | exact hp | refine List.mem_cons_of_mem _ ?_)) hn9)); (case n2 => k_mem); (case n3 => ((rename NameIn _ _ _ _ => hn9); exact NameIn.mono hn9 (fun p hp => by repeat (first | exact hp | refine List.mem_cons_of_mem _ ?_)))); (case n4 => assumption); intro h9 tk9 hT9 F9 N9; (try dsimp only); (try k_sweep); (try k_fold)))
  k_with "call ref" => (k_here; (with_reducible show wpAny _ _ (call (Value.ref 28) _) _ _ _); k_dflt (refine' useB (eqBackD_ct _ _ ?n3 ?n4) ?kT ?kG ?kD ?kF ?kN ?_; (case kF => k_asm); (case kN => k_asm); (case kG => assumption); (case kD => decide); (case kT => ((rename TokLo _ _ => hT9); refine TokLo.any hT9 ?_; ((try dsimp only); k_dflt (repeat (first | exact Nat.le_refl _ | exact Nat.le_add_right _ _ | refine Nat.le_succ_of_le ?_))))); (case n3 => ((rename NameIn _ _ _ _ => hn9); exact NameIn.mono hn9 (fun p hp => by repeat (first | exact hp | refine List.mem_cons_of_mem _ ?_)))); (case n4 => assumption); intro h9 tk9 hT9 F9 N9; (try dsimp only); (try k_sweep); (try k_fold)))
  k_with "call ref" => (k_here; (with_reducible show wpAny _ _ (call (Value.ref 84) _) _ _ _); k_dflt (refine' useF3 (hlsX_ct ?q2 ?q3 ?q4 _ _ _ _ _) ?kT ?kG ?kD ?kF ?kN ?_; (case kF => k_asm); (case kN => k_asm); (case kG => assumption); (case kD => decide); (case kT => ((rename TokLo _ _ => hT9); refine TokLo.any hT9 ?_; ((try dsimp only); k_dflt (repeat (first | exact Nat.le_refl _ | exact Nat.le_add_right _ _ | refine Nat.le_succ_of_le ?_))))); (case q2 => first | assumption | omega); (case q3 => first | assumption | omega); (case q4 => first | assumption | omega); intro l9 ta9 tb9 tc9 h9 tk9 hT9 F9 N9; (try dsimp only); (try k_sweep); (try k_fold)))
  k_with "call ref" => (k_here; (with_reducible show wpAny _ _ (call (Value.ref 91) _) _ _ _); k_dflt (refine' useP (backD_ct ?q2 ?q3 ?q4 _ _ _ _ _) ?kT ?kG ?kD ?kF ?kN ?_; (case kF => k_asm); (case kN => k_asm); (case kG => assumption); (case kD => decide); (case kT => ((rename TokLo _ _ => hT9); refine TokLo.any hT9 ?_; ((try dsimp only); k_dflt (repeat (first | exact Nat.le_refl _ | exact Nat.le_add_right _ _ | refine Nat.le_succ_of_le ?_))))); (case q2 => first | assumption | omega); (case q3 => first | assumption | omega); (case q4 => first | assumption | omega); intro p9 q9 s9 l9 ta9 tb9 tc9 h9 tk9 w91 w92 w93 hT9 F9 N9; (try dsimp only); (try k_sweep); (try k_fold)))
  k_with "call ref" => (k_here; (with_reducible show wpAny _ _ (call (Value.ref 226) _) _ _ _); k_dflt (refine' use3 (wholeX_ct _ _ ?q1 ?q2 ?q3 ?q4) ?kT ?kG ?kD ?kF ?kN ?_; (case kF => k_asm); (case kN => k_asm); (case kG => assumption); (case kD => decide); (case kT => ((rename TokLo _ _ => hT9); refine TokLo.any hT9 ?_; ((try dsimp only); k_dflt (repeat (first | exact Nat.le_refl _ | exact Nat.le_add_right _ _ | refine Nat.le_succ_of_le ?_))))); (case q1 => k_mem); (case q2 => assumption); (case q3 => assumption); (case q4 => assumption); intro l9 ta9 tb9 tc9 n9 h9 tk9 hT9 F9 N9 hl9; (try dsimp only); (try k_sweep); (try k_fold)))
  k_with "call ref" => (k_here; (with_reducible show wpAny _ _ (call (Value.ref 49) _) _ _ _); k_dflt (refine' use1 (mul_ct _ _ _ _ _ _ ?q1 ?q2) ?kT ?kG ?kD ?kF ?kN ?_; (case kF => k_asm); (case kN => k_asm); (case kG => assumption); (case kD => decide); (case kT => ((rename TokLo _ _ => hT9); refine TokLo.any hT9 ?_; ((try dsimp only); k_dflt (repeat (first | exact Nat.le_refl _ | exact Nat.le_add_right _ _ | refine Nat.le_succ_of_le ?_))))); (case q1 => omega); (case q2 => omega); intro t9 h9 tk9 hT9 F9 N9; (try dsimp only); (try k_sweep); (try k_fold)))
  k_with "call ref" => (k_here; (with_reducible show wpAny _ _ (call (Value.ref 42) _) _ _ _); k_dflt (refine' useI (modT_ct _ _ _ _) ?kT ?kG ?kD ?kF ?kN ?_; (case kF => k_asm); (case kN => k_asm); (case kG => assumption); (case kD => decide); (case kT => ((rename TokLo _ _ => hT9); refine TokLo.any hT9 ?_; ((try dsimp only); k_dflt (repeat (first | exact Nat.le_refl _ | exact Nat.le_add_right _ _ | refine Nat.le_succ_of_le ?_))))); intro t9 h9 tk9 htr9 hT9 F9 N9; (try dsimp only); (try k_sweep); (try k_fold)))
  conv at hst => rhs; whnf
  subst hst
  unfold PG at *
  have T₀ := G.t
  have X := G.x
  revert X
  k_fill
  intro X
  have F₁ := fr_say (fr_say (fr_say (fr_say (fr_say (fr_say (fr_say (fr_say F m1) ((if_neg (by decide)).trans m2)) ((if_neg (by decide)).trans ((if_neg (by decide)).trans m3)))
    ((if_neg (by decide)).trans ((if_neg (by decide)).trans ((if_neg (by decide)).trans m4)))) ((if_neg (by decide)).trans ((if_neg (by decide)).trans ((if_neg (by decide)).trans ((if_neg (by decide)).trans m5)))))
    ((if_neg (by decide)).trans ((if_neg (by decide)).trans ((if_neg (by decide)).trans ((if_neg (by decide)).trans ((if_neg (by decide)).trans m6))))))
    ((if_neg (by decide)).trans ((if_neg (by decide)).trans ((if_neg (by decide)).trans ((if_neg (by decide)).trans ((if_neg (by decide)).trans ((if_neg (by decide)).trans m7)))))))
    ((if_neg (by decide)).trans ((if_neg (by decide)).trans ((if_neg (by decide)).trans ((if_neg (by decide)).trans ((if_neg (by decide)).trans ((if_neg (by decide)).trans ((if_neg (by decide)).trans m8))))))) 
  clear F m1 m2 m3 m4 m5 m6 m7 m8
  have hu64 := G.u64
  have hn2 : NamesIn w (rest ++ tl) wv wheelT := hn.mono fun p hp => List.mem_append_left _ hp
  have hnm := hm.mono (b := rest ++ tl) fun p hp => List.mem_append_right _ hp
  have hr2 : ∀ p ∈ rest, p ∈ rest ++ tl := fun p hp => List.mem_append_left _ hp
  clear hn hm
  generalize rest ++ tl = rest2 at *
  have h68 : 6 ≤ (7 : Int) ∧ (7 : Int) < 8 := by decide
  have h6r : (7 : Int) = 7 := rfl
  have x60 := in_60 hhi hx
  have y60 := in_60 hhi hy
  have z60 := in_60 hhi hz
  have hwb := wt_bd x y z
  have hTs := hT
  clear hT
  (with_reducible show wpAny _ _ _ _ _ _)
  k_fold
  k_steps
  (rename Fr _ _ _ _ => lF); (rename News _ _ _ _ => lN)
  refine' turn_end lF lN ?hl ?hI ?h1 ?h2 ?h3 ?hr ?off ?hmp ?hmr ?hmk ?hw ?ht ?hx ?hy ?hz
  case hmp => rfl
  case hmr => rfl
  case hmk => rfl
  case hl => assumption
  case hI => k_mem
  case h1 => k_mem
  case h2 => k_mem
  case h3 => k_mem
  case hr => exact fun p hp => by repeat (first | exact hr2 p hp | refine List.mem_cons_of_mem _ ?_)
  case off => assumption
  case ht => assumption
  case hw => exact wt_back x y z
  case hx => exact (turn_bd6 (.inr rfl) hx hy hz).1
  case hy => exact (turn_bd6 (.inr rfl) hx hy hz).2.1
  case hz => exact (turn_bd6 (.inr rfl) hx hy hz).2.2
end Mine
end
section
open PySem PySem.W PyProof.Rows PySem.Calls PySem.Flt
namespace Mine
noncomputable abbrev lstk (ys : List Value) (k : Nat) : Obj := { cls := .type "list", data := .seq ys.toArray k }
/-- the state between the turns of the way home -/
inductive St2 (w : World) (T : Nat) (RL EL DL RO : Addr) (base : List (Addr × Obj)) (x0 y0 z0 : Int) (i : Nat) (m : Str → Option Value) (nw : List (Addr × Obj)) : Prop
  | mk (PL : Addr) (x y z : Int) (t1 t2 t3 : Tok) (n : Nat) (ys : List Value) (ts : List Str) (k : Nat) (e : nw = (PL, lst3 x y z t1 t2 t3 n) :: (RO, lstk ys k) :: base) (off : ∀ p ∈ base, @Ne Nat p.1 PL) (ne : @Ne Nat RO PL) (hx : 0 ≤ x ∧ x ≤ 60) (hy : 0 ≤ y ∧ y ≤ 60) (hz : 0 ≤ z ∧ z ≤ 60) (hmx : mx3 x y z + (i : Int) = mx3 x0 y0 z0) (hmn : mn3 x y z = mn3 x0 y0 z0)
    (hys : NamesIn w base ys ts) (hyt : ∀ v ∈ ys, TokAt 1 T v) (hc : ∀ j, j < 6 → homeAt j x0 y0 z0 = (ts.count (textOf j) : Int) + homeAt j x y z) (hyl : ys.length = i)
    (hp : m (Str.ofString "place") = some (.ref PL)) (hk : m (Str.ofString "ranks") = some (.ref RL)) (he : m (Str.ofString "end") = some (.ref EL)) (hd : m (Str.ofString "due") = some (.ref DL))
theorem item_names {prog : Program} {w w' : World} {A : Around} {E : Value → Shared → Prop} {s : Shared} {h₀ : Heap} {L : Addr} {news base : List (Addr × Obj)} {value slice : Expr} {C : Addr} {vs : List Value} {n : Nat} {k : Int} {u : Tok} {Q : Value → Shared → Prop} (N : News h₀ L s.heap news) (hm : (C, ({ cls := .type "list", data := .seq vs.toArray n } : Obj)) ∈ news) (hn : NamesIn w' base vs wheelT)
    (h0 : 0 ≤ k) (h1 : k < 6) (h : ∀ v, v ∈ vs → NameIn w' base v (textOf k.toNat) → Q v s)
    (hs : subscripted slice false (.ref C) (.int k u) = operate [.ref C, .int k u] (getItem (.ref C) (.int k u)) := by with_unfolding_all rfl) (hg : ∀ r, letTemporaryGo value (.ref C) r = pure () := by intro _; with_unfolding_all rfl) :
    wpAny (model prog w) A (subscriptTail value slice (.ref C) (.int k u)) Q E s := by
  have hl : vs.length = 6 := by rw [hn.length]; rfl
  have hx : vs[k.toNat]? = some (vs[k.toNat]'(by omega)) := List.getElem?_eq_getElem (by omega)
  obtain ⟨t, ht, hv⟩ := hn.get hx
  obtain ⟨_, e⟩ := wheel_get ht
  rw [← e] at hv
  exact item_list (show s.heap.IsList C vs.toArray from ⟨_, (N _ hm).1, rfl, _, rfl⟩) h0 (by omega) (by simpa using hx) (h _ (List.getElem_mem _) hv) hs hg
theorem append_led {prog : Program} {w : World} {A : Around} {E : Value → Shared → Prop} {s : Shared} {h₀ : Heap} {L D : Addr} {m : Str → Option Value} {nw : List (Addr × Obj)} {ys : List Value} {k : Nat} {x : Value} {Q : Value → Shared → Prop} (nw' : List (Addr × Obj)) (F : Fr h₀ L s.heap m) (N : News h₀ L s.heap nw) (hm : (D, lstk ys k) ∈ nw) (hsub : ∀ p ∈ nw', p ∈ nw ∧ @Ne Nat p.1 D) (hsz : ys.length ≤ sizeLine)
    (h : ∀ h', Fr h₀ L h' m → News h₀ L h' ((D, lstk (ys ++ [x]) (k + 1)) :: nw') → Q .none { s with heap := h' }) : wpAny (model prog w) A (call (.builtin "list.append") [.ref D, x]) Q E s := by
  have z := N _ hm
  refine append_at (its := ys.toArray) (hsz := by simpa using hsz) z.1 fun h' hs ho' => h h' (F.change hs z.2.1 z.2.2) fun p hp => ?_
  rcases List.mem_cons.mp hp with rfl | hp
  · exact ⟨ho'.trans (by simp), z.2⟩
  · have q := N p (hsub p hp).1
    exact ⟨(hs.2 _ (hsub p hp).2).trans q.1, q.2⟩
theorem leadX {x y z : Int} (hx : 0 ≤ x ∧ x ≤ 60) (hy : 0 ≤ y ∧ y ≤ 60) (hz : 0 ≤ z ∧ z ≤ 60) (hd : mn3 x y z < mx3 x y z) : ∃ j : Int, toInt Float64.truncOf (Float64.add (Float64.mul (hueX x y z) c6) chalf) = j ∧
    Float64.isFinite (Float64.add (Float64.mul (hueX x y z) c6) chalf) = true ∧ 0 ≤ j ∧ j ≤ 6 ∧ Leads (j.fmod 6) x y z := by
  unfold hueX
  rw [if_pos hd]
  exact lead_full hx hy hz hd
section
variable {prog : Program} {w : World} {A : Around} {E : Value → Shared → Prop} {s : Shared} {h₀ : Heap} {L : Addr} {news : List (Addr × Obj)} {value slice : Expr} {C : Addr} {x y z : Int} {a b c : Tok} {n : Nat} {u : Tok} {Q : Value → Shared → Prop}
theorem item3_0 (N : News h₀ L s.heap news) (hm : (C, lst3 x y z a b c n) ∈ news) (h : Q (.int x a) s)
    (hs : subscripted slice false (.ref C) (.int 0 u) = operate [.ref C, .int 0 u] (getItem (.ref C) (.int 0 u)) := by with_unfolding_all rfl) (hg : ∀ r, letTemporaryGo value (.ref C) r = pure () := by intro _; with_unfolding_all rfl) : wpAny (model prog w) A (subscriptTail value slice (.ref C) (.int 0 u)) Q E s :=
  item_list (items := #[.int x a, .int y b, .int z c]) ⟨_, (N _ hm).1, rfl, _, rfl⟩ (by decide) (by decide) rfl h hs hg
theorem item3_1 (N : News h₀ L s.heap news) (hm : (C, lst3 x y z a b c n) ∈ news) (h : Q (.int y b) s)
    (hs : subscripted slice false (.ref C) (.int 1 u) = operate [.ref C, .int 1 u] (getItem (.ref C) (.int 1 u)) := by with_unfolding_all rfl) (hg : ∀ r, letTemporaryGo value (.ref C) r = pure () := by intro _; with_unfolding_all rfl) : wpAny (model prog w) A (subscriptTail value slice (.ref C) (.int 1 u)) Q E s :=
  item_list (items := #[.int x a, .int y b, .int z c]) ⟨_, (N _ hm).1, rfl, _, rfl⟩ (by decide) (by decide) rfl h hs hg
theorem item3_2 (N : News h₀ L s.heap news) (hm : (C, lst3 x y z a b c n) ∈ news) (h : Q (.int z c) s)
    (hs : subscripted slice false (.ref C) (.int 2 u) = operate [.ref C, .int 2 u] (getItem (.ref C) (.int 2 u)) := by with_unfolding_all rfl) (hg : ∀ r, letTemporaryGo value (.ref C) r = pure () := by intro _; with_unfolding_all rfl) : wpAny (model prog w) A (subscriptTail value slice (.ref C) (.int 2 u)) Q E s :=
  item_list (items := #[.int x a, .int y b, .int z c]) ⟨_, (N _ hm).1, rfl, _, rfl⟩ (by decide) (by decide) rfl h hs hg
end
section
variable {prog : Program} {w : World} {A : Around} {E : Value → Shared → Prop} {s : Shared} {h₀ : Heap} {L : Addr} {news : List (Addr × Obj)} {value slice : Expr} {C : Addr} {x y z : UInt64} {a b c : Tok} {u : Tok} {Q : Value → Shared → Prop}
theorem itemT_0 (N : News h₀ L s.heap news) (hm : (C, tup3 x y z a b c) ∈ news) (h : Q (.float x a) s)
    (hs : subscripted slice false (.ref C) (.int 0 u) = operate [.ref C, .int 0 u] (getItem (.ref C) (.int 0 u)) := by with_unfolding_all rfl) (hg : ∀ r, letTemporaryGo value (.ref C) r = pure () := by intro _; with_unfolding_all rfl) : wpAny (model prog w) A (subscriptTail value slice (.ref C) (.int 0 u)) Q E s :=
  item_tuple (items := #[.float x a, .float y b, .float z c]) ⟨_, (N _ hm).1, rfl, _, rfl⟩ (by decide) (by decide) (by rfl) rfl h hs hg
theorem itemT_1 (N : News h₀ L s.heap news) (hm : (C, tup3 x y z a b c) ∈ news) (h : Q (.float y b) s)
    (hs : subscripted slice false (.ref C) (.int 1 u) = operate [.ref C, .int 1 u] (getItem (.ref C) (.int 1 u)) := by with_unfolding_all rfl) (hg : ∀ r, letTemporaryGo value (.ref C) r = pure () := by intro _; with_unfolding_all rfl) : wpAny (model prog w) A (subscriptTail value slice (.ref C) (.int 1 u)) Q E s :=
  item_tuple (items := #[.float x a, .float y b, .float z c]) ⟨_, (N _ hm).1, rfl, _, rfl⟩ (by decide) (by decide) (by rfl) rfl h hs hg
theorem itemT_2 (N : News h₀ L s.heap news) (hm : (C, tup3 x y z a b c) ∈ news) (h : Q (.float z c) s)
    (hs : subscripted slice false (.ref C) (.int 2 u) = operate [.ref C, .int 2 u] (getItem (.ref C) (.int 2 u)) := by with_unfolding_all rfl) (hg : ∀ r, letTemporaryGo value (.ref C) r = pure () := by intro _; with_unfolding_all rfl) : wpAny (model prog w) A (subscriptTail value slice (.ref C) (.int 2 u)) Q E s :=
  item_tuple (items := #[.float x a, .float y b, .float z c]) ⟨_, (N _ hm).1, rfl, _, rfl⟩ (by decide) (by decide) (by rfl) rfl h hs hg
end
theorem turn_end2 {w : World} {h₀ h' : Heap} {L PL RL EL DL RO I : Addr} {T tk n k i : Nat} {s0 : Shared} {oI : Obj} {x y z x0 y0 z0 : Int} {a b c : Tok} {ys : List Value} {ts : List Str} {m' : Str → Option Value} {led0 base : List (Addr × Obj)} {Q : Flow → Shared → Prop}
    (F : Fr h₀ L h' m') (N : News h₀ L h' ((PL, lst3 x y z a b c n) :: led0)) (hl : ∀ q ∈ led0, @Ne Nat q.1 PL) (hI : (I, oI) ∈ led0) (hR : (RO, lstk ys k) ∈ led0) (hb : ∀ p ∈ base, p ∈ led0)
    (off : ∀ p ∈ base, @Ne Nat p.1 I) (offR : @Ne Nat RO I) (hx : 0 ≤ x ∧ x ≤ 60) (hy : 0 ≤ y ∧ y ≤ 60) (hz : 0 ≤ z ∧ z ≤ 60) (hmx : mx3 x y z + ((i + 1 : Nat) : Int) = mx3 x0 y0 z0) (hmn : mn3 x y z = mn3 x0 y0 z0)
    (hys : NamesIn w base ys ts) (hyt : ∀ v ∈ ys, TokAt 1 T v) (hcnt : ∀ j, j < 6 → homeAt j x0 y0 z0 = (ts.count (textOf j) : Int) + homeAt j x y z) (hyl : ys.length = i + 1)
    (hmp : m' (Str.ofString "place") = some (.ref PL)) (hmk : m' (Str.ofString "ranks") = some (.ref RL)) (hme : m' (Str.ofString "end") = some (.ref EL)) (hmd : m' (Str.ofString "due") = some (.ref DL)) :
    TurnQ h₀ L T s0 [(I, oI)] (St2 w T RL EL DL RO base x0 y0 z0 (i + 1)) Q .next { s0 with heap := h', toks := tk } := by
  refine turn_next (news' := (PL, lst3 x y z a b c n) :: (RO, lstk ys k) :: base) F (fun p hp => ?_) (fun p hp q hq => ?_) ⟨PL, x, y, z, a, b, c, n, ys, ts, k, rfl, fun p hp => hl p (hb p hp), hl _ hR, hx, hy, hz, hmx, hmn, hys, hyt, hcnt, hyl, hmp, hmk, hme, hmd⟩
  · rcases List.mem_cons.mp hp with rfl | hp
    · exact N _ (.tail _ hI)
    rcases List.mem_cons.mp hp with rfl | hp
    · exact N _ (.head _)
    rcases List.mem_cons.mp hp with rfl | hp
    · exact N _ (.tail _ hR)
    · exact N _ (.tail _ (hb p hp))
  · rw [List.mem_singleton.mp hq]
    rcases List.mem_cons.mp hp with rfl | hp
    · exact Ne.symm (hl _ hI)
    rcases List.mem_cons.mp hp with rfl | hp
    · exact offR
    · exact off p hp
theorem count_snoc {ts : List Str} {t : Str} {j : Nat} : ((ts ++ [t]).count (textOf j) : Int) = (ts.count (textOf j) : Int) + (if t = textOf j then 1 else 0) := by
  rw [List.count_append, List.count_singleton]
  by_cases h : t = textOf j <;> simp [h]
theorem cnt_step {ts : List Str} {k x y z x0 y0 z0 : Int} (hl : Leads k x y z) (h : ∀ j, j < 6 → homeAt j x0 y0 z0 = (ts.count (textOf j) : Int) + homeAt j x y z) :
    ∀ j, j < 6 → homeAt j x0 y0 z0 = ((ts ++ [textOf k.toNat]).count (textOf j) : Int) + homeAt j (x - in3 k 5 0 1) (y - in3 k 1 2 3) (z - in3 k 3 4 5) := fun j hj => by
  rw [h j hj, count_snoc, text_if (leads_lt hl) hj, homeAt_step hl hj]
  omega
theorem leads_bd {k x y z : Int} (hl : Leads k x y z) (hx : 0 ≤ x ∧ x ≤ 60) (hy : 0 ≤ y ∧ y ≤ 60) (hz : 0 ≤ z ∧ z ≤ 60) :
    (0 ≤ x - in3 k 5 0 1 ∧ x - in3 k 5 0 1 ≤ 60) ∧ (0 ≤ y - in3 k 1 2 3 ∧ y - in3 k 1 2 3 ≤ 60) ∧ (0 ≤ z - in3 k 3 4 5 ∧ z - in3 k 3 4 5 ≤ 60) := by
  unfold Leads at hl
  rcases hl with ⟨rfl, h⟩ | ⟨rfl, h⟩ | ⟨rfl, h⟩ | ⟨rfl, h⟩ | ⟨rfl, h⟩ | ⟨rfl, h⟩ <;> simp [in3] <;> omega
theorem mm_more {i a b c d : Int} (h : i < c - d) (h1 : a + i = c) (h2 : b = d) : b < a := by omega
end Mine
end
section
open PySem PySem.W PyProof.Rows PySem.Calls PySem.Flt
namespace Mine
theorem fm8 (x : Int) : 0 ≤ x.fmod 8 ∧ x.fmod 8 < 8 := by rw [Int.fmod_eq_emod_of_nonneg _ (by decide)]; omega
theorem turn (w : World) {mean : ExcName → Option Value} {mg mb : Str → Option Value} {dp un : Nat} {gd : Option (List Code)} {cn : Str} {a : Addr} {ccd : Value} {outer : List Env} {A₀ : Around} {base h₀ : Heap} {L : Addr} {m : Str → Option Value} {s s0 : Shared} {Q : Flow → Shared → Prop} {E : Value → Shared → Prop}
    {st : List Stmt} {R W C RL WL I : Addr} {oI ow : Obj} {wv rv : List Value} {rest nw : List (Addr × Obj)} {T : Nat} {hi c : Int} {tc : Tok} {px : Pos}
    (G : Gd w A₀ base outer h₀ mean mg mb dp un) (hst : st = lawFor 6)
    (hw : ow.data = .cell (some (.ref WL))) (hn : NamesIn w rest wv wheelT) (hwt : ∀ y ∈ wv, TokAt 1 T y) (hri : IntsAre rv rankL)
    (hT : TokLo T s.toks) (hhi : hi ≤ 59)
    (hJ : St1 T RL ((RL, LCg.lst rv) :: (W, ow) :: (WL, LCg.lst wv) :: rest) hi m nw) (off : ∀ p ∈ nw, @Ne Nat p.1 I) (F : Fr h₀ L s.heap m) (N : News h₀ L s.heap ((I, oI) :: nw)) (hh : ∃ h tk, s = { s0 with heap := h, toks := tk }) :
    let A9 := lawA dp un gd cn L a ccd R W C outer
    let e9 := lawE cn L a ccd R W C
    wpAny (model PG w) A9 (assign (.Name (Str.ofString "cell") px) e9 (.int c tc))
      (fun _ s₂ => wpAny (model PG w) A9 (execs st e9) (TurnQ h₀ L T s0 [(I, oI)] (St1 T RL ((RL, LCg.lst rv) :: (W, ow) :: (WL, LCg.lst wv) :: rest) (hi + 1)) Q) E s₂) E s := by
  intro A9 e9
  generalize hG : TurnQ h₀ L T s0 [(I, oI)] (St1 T RL ((RL, LCg.lst rv) :: (W, ow) :: (WL, LCg.lst wv) :: rest) (hi + 1)) Q = Q9
  obtain ⟨PL, x, y, z, t1, t2, t3, n, tr, rfl, -, hx, hy, hz, htr, hmp, hmr, hmk⟩ := hJ
  obtain ⟨hp0, tk0, rfl⟩ := hh
  refine turn_pre w G hst hT (in_60 hhi hx) (in_60 hhi hy) (in_60 hhi hz) (fm8 c) hmp hmr hmk F N ?_
  intro r9 DL u1 u2 u3 n' v1 v2 v3 tl h' tk' tk1 m' F' N' hm ht hT' m1 m2 m3 m4 m5 m6 m7 m8
  have h8 := fm8 c
  generalize c.fmod 8 = d at *
  subst hG
  rcases (show (d < 6) ∨ d = 6 ∨ d = 7 by omega) with h | h | h
  · exact kind_step w G (congrArg (List.drop 3) hst) ⟨h8.1, h⟩ hw hn hwt hri hT' hhi hx hy hz htr (fun p hp => off p (.tail _ hp)) F' N' hm ht m1 m2 m3 m4 m5 m6 m7 m8
  · rw [h] at N' hm
    exact kind_on w G (congrArg (List.drop 3) hst) hw hn hwt hri hT' hhi hx hy hz htr (fun p hp => off p (.tail _ hp)) F' N' hm ht m1 m2 m3 m4 m5 m6 m7 m8
  · rw [h] at N' hm
    exact kind_back w G (congrArg (List.drop 3) hst) hw hn hwt hri hT' hhi hx hy hz htr (fun p hp => off p (.tail _ hp)) F' N' hm ht m1 m2 m3 m4 m5 m6 m7 m8
theorem loop_prog (w : World) {mean : ExcName → Option Value} {mg mb : Str → Option Value} {dp un : Nat} {gd : Option (List Code)} {cn : Str} {a : Addr} {ccd : Value} {outer : List Env} {A₀ : Around} {base h₀ : Heap} {L : Addr} {m : Str → Option Value} {s : Shared} {Q : Flow → Shared → Prop} {E : Value → Shared → Prop}
    {st : List Stmt} {R W C RL WL SL : Addr} {ow : Obj} {wv rv sv : List Value} {ss : List Int} {sk : Nat} {rest led nw : List (Addr × Obj)} {T : Nat} {px : Pos}
    (G : Gd w A₀ base outer h₀ mean mg mb dp un) (hst : st = lawFor 6)
    (hw : ow.data = .cell (some (.ref WL))) (hn : NamesIn w rest wv wheelT) (hwt : ∀ y ∈ wv, TokAt 1 T y) (hri : IntsAre rv rankL)
    (hS : (SL, lstk sv sk) ∈ rest) (hsv : IntsAre sv ss) (hsl : ss.length = 8)
    (hJ : St1 T RL ((RL, LCg.lst rv) :: (W, ow) :: (WL, LCg.lst wv) :: rest) 47 m nw) (F : Fr h₀ L s.heap m) (N : News h₀ L s.heap led) (hsub : ∀ p ∈ nw, p ∈ led) (hT : TokLo T s.toks)
    (hE : PassesOwn (model PG w) (lawA dp un gd cn L a ccd R W C outer) (lawE cn L a ccd R W C) E)
    (fin : ∀ m₁ nw h tk, TokLo T tk → St1 T RL ((RL, LCg.lst rv) :: (W, ow) :: (WL, LCg.lst wv) :: rest) 55 m₁ nw → Fr h₀ L h m₁ → News h₀ L h nw → Q .next { s with heap := h, toks := tk }) :
    LoopIn PG w (lawA dp un gd cn L a ccd R W C outer) (lawE cn L a ccd R W C) (.Name (Str.ofString "cell") px) st [] Q E (.ref SL) s := by
  have hl : sv.length = 8 := by rw [hsv.length, hsl]
  have keep : ∀ (i : Nat) (m : Str → Option Value) (nw : List (Addr × Obj)), St1 T RL ((RL, LCg.lst rv) :: (W, ow) :: (WL, LCg.lst wv) :: rest) (47 + (i : Int)) m nw → (SL, lstk sv sk) ∈ nw := by
    rintro i m nw ⟨PL, x, y, z, t1, t2, t3, n, tr, rfl, _⟩
    exact .tail _ (.tail _ (.tail _ (.tail _ hS)))
  have hJ0 : St1 T RL ((RL, LCg.lst rv) :: (W, ow) :: (WL, LCg.lst wv) :: rest) (47 + ((0 : Nat) : Int)) m nw := by
    rw [show (47 : Int) + ((0 : Nat) : Int) = 47 by decide]
    exact hJ
  refine LoopIn.list (T := T) (fun i m₁ nw => St1 T RL ((RL, LCg.lst rv) :: (W, ow) :: (WL, LCg.lst wv) :: rest) (47 + (i : Int)) m₁ nw) rfl F (fun p hp => N p (hsub p hp)) (keep 0 _ _ hJ0) rfl rfl hT hJ0 keep hE ?_ ?_
  · intro i v m₁ nw h₁ tk₁ I oI hv hT1 hJ off F₁ N₁
    have hi : i < 8 := by
      have := (Array.getElem?_eq_some_iff.mp hv).1
      simpa [hl] using this
    obtain ⟨tc, hx⟩ := hsv.get i ss[i] (List.getElem?_eq_getElem (by omega))
    have ev : v = .int ss[i] tc := by
      have hv' : sv[i]? = some v := by simpa using hv
      rw [hx] at hv'
      exact (Option.some.inj hv').symm
    subst ev
    have e : (47 : Int) + ((i + 1 : Nat) : Int) = 47 + (i : Int) + 1 := by omega
    dsimp only
    rw [e]
    exact turn w G hst hw hn hwt hri hT1 (by omega) hJ off F₁ N₁ ⟨h₁, tk₁, rfl⟩
  · intro m₁ nw h₁ tk₁ hT1 hJ F₁ N₁
    have e : sv.toArray.size = 8 := by simpa using hl
    rw [e] at hJ
    exact wpAny_pure (fin m₁ nw h₁ tk₁ hT1 hJ F₁ N₁)
end Mine
end
section
open PySem PySem.W PyProof.Rows PySem.Calls PySem.Flt
namespace Mine
set_option maxRecDepth 100000 in
set_option maxHeartbeats 4000000 in
theorem home_walk (w : World) {mean : ExcName → Option Value} {mg mb : Str → Option Value} {dp un : Nat} {gd : Option (List Code)} {cn : Str} {a : Addr} {ccd : Value} {outer : List Env} {A₀ : Around} {base h₀ : Heap} {L : Addr} {m : Str → Option Value} {s0 : Shared} {Q : Flow → Shared → Prop} {E : Value → Shared → Prop}
    {st : List Stmt} {R W C RL WL PL EL DL RO I : Addr} {oI oR ow : Obj} {wv ys : List Value} {ts : List Str} {rest : List (Addr × Obj)} {T i n k tk : Nat} {x y z x0 y0 z0 e : Int} {t1 t2 t3 te : Tok} {px : Pos} {h : Heap}
    (G : Gd w A₀ base outer h₀ mean mg mb dp un) (hst : st = lawFor 13)
    (hw : ow.data = .cell (some (.ref WL))) (hr : oR.data = .cell (some (.ref RO))) (hn : NamesIn w ((R, oR) :: (W, ow) :: (WL, LCg.lst wv) :: rest) wv wheelT) (hwt : ∀ y ∈ wv, TokAt 1 T y) (hRO : ∀ p ∈ ((R, oR) :: (W, ow) :: (WL, LCg.lst wv) :: rest), @Ne Nat p.1 RO)
    (hi : (i : Int) < mx3 x0 y0 z0 - mn3 x0 y0 z0) (hi60 : i ≤ 60) (offRP : @Ne Nat RO PL)
    (hx : 0 ≤ x ∧ x ≤ 60) (hy : 0 ≤ y ∧ y ≤ 60) (hz : 0 ≤ z ∧ z ≤ 60) (hmx : mx3 x y z + (i : Int) = mx3 x0 y0 z0) (hmn : mn3 x y z = mn3 x0 y0 z0)
    (hys : NamesIn w ((R, oR) :: (W, ow) :: (WL, LCg.lst wv) :: rest) ys ts) (hyt : ∀ v ∈ ys, TokAt 1 T v) (hcnt : ∀ j, j < 6 → homeAt j x0 y0 z0 = (ts.count (textOf j) : Int) + homeAt j x y z) (hyl : ys.length = i)
    (m1 : m (Str.ofString "place") = some (.ref PL)) (m2 : m (Str.ofString "ranks") = some (.ref RL)) (m3 : m (Str.ofString "end") = some (.ref EL)) (m4 : m (Str.ofString "due") = some (.ref DL))
    (off : ∀ p ∈ ((R, oR) :: (W, ow) :: (WL, LCg.lst wv) :: rest), @Ne Nat p.1 I) (hRI : @Ne Nat RO I) (F : Fr h₀ L h m) (N : News h₀ L h ((I, oI) :: (PL, lst3 x y z t1 t2 t3 n) :: (RO, lstk ys k) :: ((R, oR) :: (W, ow) :: (WL, LCg.lst wv) :: rest))) (hT : TokLo T tk) :
    let A9 := lawA dp un gd cn L a ccd R W C outer
    let e9 := lawE cn L a ccd R W C
    let Q9 := TurnQ h₀ L T s0 [(I, oI)] (St2 w T RL EL DL RO ((R, oR) :: (W, ow) :: (WL, LCg.lst wv) :: rest) x0 y0 z0 (i + 1)) Q
    wpAny (model PG w) A9 (assign (.Name (Str.ofString "step") px) e9 (.int e te)) (fun _ s₂ => wpAny (model PG w) A9 (execs st e9) Q9 E s₂) E { s0 with heap := h, toks := tk } := by
  intro A9 e9 Q9
  k_with_none
  k_with "execs cons" => (k_here; (rename TokLo _ _ => hT9); (refine' execs_cons_T (TokLo.any hT9 ?kt) ?_); (case kt => ((try dsimp only); k_dflt (repeat (first | exact Nat.le_refl _ | exact Nat.le_add_right _ _ | refine Nat.le_succ_of_le ?_)))); (try dsimp only))
  k_with "forall" => (intro tk9 e9 hT9; clear e9; (try dsimp only); (try k_fold))
  k_with "eval BinOp" => (k_here; dsimp only; (try k_fold))
  k_with "eval Call" => (k_here; dsimp only; (try k_fold))
  k_with "eval Subscript" => (k_here; dsimp only; (try k_fold))
  k_with "subscriptTail" => (k_here; k_dflt (first | ((with_reducible show wpAny _ _ (subscriptTail _ _ (Value.ref _) (Value.int 0 _)) _ _ _); refine' itemT_0 ?k1 ?k2 ?_; (case k1 => k_asm); (case k2 => k_mem); (try k_fold)) | ((with_reducible show wpAny _ _ (subscriptTail _ _ (Value.ref _) (Value.int 1 _)) _ _ _); refine' itemT_1 ?k1 ?k2 ?_; (case k1 => k_asm); (case k2 => k_mem); (try k_fold)) | ((with_reducible show wpAny _ _ (subscriptTail _ _ (Value.ref _) (Value.int 2 _)) _ _ _); refine' itemT_2 ?k1 ?k2 ?_; (case k1 => k_asm); (case k2 => k_mem); (try k_fold))))
  k_with "subscriptTail Call Name cons nil Constant ref int" => (k_here; k_dflt (first | ((with_reducible show wpAny _ _ (subscriptTail _ _ (Value.ref _) (Value.int 0 _)) _ _ _); refine' itemT_0 ?k1 ?k2 ?_; (case k1 => k_asm); (case k2 => k_mem); (try k_fold)) | ((with_reducible show wpAny _ _ (subscriptTail _ _ (Value.ref _) (Value.int 1 _)) _ _ _); refine' itemT_1 ?k1 ?k2 ?_; (case k1 => k_asm); (case k2 => k_mem); (try k_fold)) | ((with_reducible show wpAny _ _ (subscriptTail _ _ (Value.ref _) (Value.int 2 _)) _ _ _); refine' itemT_2 ?k1 ?k2 ?_; (case k1 => k_asm); (case k2 => k_mem); (try k_fold))))
  k_with "subscriptTail Name Constant ref int" => (k_here; k_dflt (first | ((with_reducible show wpAny _ _ (subscriptTail _ _ (Value.ref _) (Value.int 0 _)) _ _ _); refine' item3_0 ?k1 ?k2 ?_; (case k1 => k_asm); (case k2 => k_mem); (try k_fold)) | ((with_reducible show wpAny _ _ (subscriptTail _ _ (Value.ref _) (Value.int 1 _)) _ _ _); refine' item3_1 ?k1 ?k2 ?_; (case k1 => k_asm); (case k2 => k_mem); (try k_fold)) | ((with_reducible show wpAny _ _ (subscriptTail _ _ (Value.ref _) (Value.int 2 _)) _ _ _); refine' item3_2 ?k1 ?k2 ?_; (case k1 => k_asm); (case k2 => k_mem); (try k_fold))))
  k_with "call ref" => (k_here; (with_reducible show wpAny _ _ (call (Value.ref 105) _) _ _ _); k_dflt (refine' useF3 (hsvX_ct ?q2 ?q3 ?q4 _ _ _ _ _) ?kT ?kG ?kD ?kF ?kN ?_; (case kF => k_asm); (case kN => k_asm); (case kG => assumption); (case kD => decide); (case kT => ((rename TokLo _ _ => hT9); refine TokLo.any hT9 ?_; ((try dsimp only); k_dflt (repeat (first | exact Nat.le_refl _ | exact Nat.le_add_right _ _ | refine Nat.le_succ_of_le ?_))))); (case q2 => first | assumption | omega); (case q3 => first | assumption | omega); (case q4 => first | assumption | omega); intro l9 ta9 tb9 tc9 h9 tk9 hT9 F9 N9; (try dsimp only); (try k_sweep); (try k_fold)))
  k_with "call ref" => (k_here; (with_reducible show wpAny _ _ (call (Value.ref 221) _) _ _ _); k_dflt (refine' use3 (ledSub_ct _ _ ?q1 ?q2) ?kT ?kG ?kD ?kF ?kN ?_; (case kF => k_asm); (case kN => k_asm); (case kG => assumption); (case kD => decide); (case kT => ((rename TokLo _ _ => hT9); refine TokLo.any hT9 ?_; ((try dsimp only); k_dflt (repeat (first | exact Nat.le_refl _ | exact Nat.le_add_right _ _ | refine Nat.le_succ_of_le ?_))))); (case q1 => k_mem); (case q2 => assumption); intro l9 ta9 tb9 tc9 n9 h9 tk9 hT9 F9 N9 hl9; (try dsimp only); (try k_sweep); (try k_fold)))
  k_with "subscriptTail Name Name ref int" => (k_here; (with_reducible show wpAny _ _ (subscriptTail (Expr.Name _ _) _ (Value.ref _) (Value.int _ _)) _ _ _); k_dflt (refine' item_names ?k1 ?k2 ?k3 ?k5 ?k6 ?_; (case k1 => k_asm); (case k2 => k_mem); (case k3 => assumption); (case k5 => omega); (case k6 => omega); intro v9 hv9 hn9; (try k_fold)))
  k_with "call builtin:list.append" => (k_here; (with_reducible show wpAny _ _ (call (Value.builtin _) [Value.ref _, _]) _ _ _); with_reducible refine stopped ?_)
  conv at hst => rhs; whnf
  subst hst
  unfold PG at *
  have T₀ := G.t
  have X := G.x
  revert X
  k_fill
  intro X
  have F₁ := fr_say (fr_say (fr_say (fr_say F m1) ((if_neg (by decide)).trans m2)) ((if_neg (by decide)).trans ((if_neg (by decide)).trans m3))) ((if_neg (by decide)).trans ((if_neg (by decide)).trans ((if_neg (by decide)).trans m4)))
  clear F m1 m2 m3 m4
  obtain ⟨_, rfl, hjf, hj0, hj6, hjl⟩ := leadX hx hy hz (mm_more hi hmx hmn)
  have hlk := leads_lt hjl
  have hd := hlk
  dsimp only [c6, chalf] at hd hlk hjf hjl
  have hTs := hT
  clear hT
  (with_reducible show wpAny _ _ _ _ _ _)
  k_fold
  k_steps
  refine Stopped.of ?_
  (rename Fr _ _ _ _ => lF); (rename News _ _ _ _ => lN)
  k_dflt (refine' append_led ((I, oI) :: (PL, lst3 x y z t1 t2 t3 n) :: (R, oR) :: (W, ow) :: (WL, LCg.lst wv) :: rest) lF lN ?hm ?hsub ?hsz ?_)
  case hm => k_mem
  case hsz => rw [hyl]; exact Nat.le_trans hi60 (by decide)
  case hsub =>
    intro p hp
    rcases List.mem_cons.mp hp with rfl | hp
    · exact ⟨by k_mem, Ne.symm hRI⟩
    rcases List.mem_cons.mp hp with rfl | hp
    · exact ⟨by k_mem, Ne.symm offRP⟩
    · exact ⟨.tail _ (.tail _ (.tail _ (.tail _ hp))), hRO p hp⟩
  intro h9 F9 N9
  clear lF lN
  try dsimp only
  k_steps
  (rename Fr _ _ _ _ => lF); (rename News _ _ _ _ => lN)
  (rename NameIn _ _ _ _ => hn9); (rename _ ∈ wv => hv9)
  have mm := leads_mm hjl
  have bd := leads_bd hjl hx hy hz
  refine' turn_end2 (hys := NamesIn.snoc hys hn9) (hcnt := cnt_step hjl hcnt) lF lN ?hl ?hI ?hR ?hb ?off ?offR ?hx ?hy ?hz ?hmx ?hmn ?hyt ?hyl ?hmp ?hmk ?hme ?hmd
  case hmp => rfl
  case hmk => rfl
  case hme => rfl
  case hmd => rfl
  case hl => assumption
  case hI => k_mem
  case hR => k_mem
  case hb => exact fun p hp => by repeat (first | exact hp | refine List.mem_cons_of_mem _ ?_)
  case off => assumption
  case offR => exact hRI
  case hx => exact bd.1
  case hy => exact bd.2.1
  case hz => exact bd.2.2
  case hmx => rw [mm.1]; omega
  case hmn => rw [mm.2]; exact hmn
  case hyt => exact snoc_tok hyt (hwt _ hv9)
  case hyl => rw [List.length_append, hyl]; rfl
theorem turn_home (w : World) {mean : ExcName → Option Value} {mg mb : Str → Option Value} {dp un : Nat} {gd : Option (List Code)} {cn : Str} {a : Addr} {ccd : Value} {outer : List Env} {A₀ : Around} {base h₀ : Heap} {L : Addr} {m : Str → Option Value} {s s0 : Shared} {Q : Flow → Shared → Prop} {E : Value → Shared → Prop}
    {st : List Stmt} {R W C RL WL EL DL RO I : Addr} {oI oR ow : Obj} {wv : List Value} {rest nw : List (Addr × Obj)} {T i : Nat} {x0 y0 z0 e : Int} {te : Tok} {px : Pos}
    (G : Gd w A₀ base outer h₀ mean mg mb dp un) (hst : st = lawFor 13)
    (hw : ow.data = .cell (some (.ref WL))) (hr : oR.data = .cell (some (.ref RO))) (hn : NamesIn w ((R, oR) :: (W, ow) :: (WL, LCg.lst wv) :: rest) wv wheelT) (hwt : ∀ y ∈ wv, TokAt 1 T y) (hRO : ∀ p ∈ ((R, oR) :: (W, ow) :: (WL, LCg.lst wv) :: rest), @Ne Nat p.1 RO)
    (hi : (i : Int) < mx3 x0 y0 z0 - mn3 x0 y0 z0)
    (hi60 : i ≤ 60) (hJ : St2 w T RL EL DL RO ((R, oR) :: (W, ow) :: (WL, LCg.lst wv) :: rest) x0 y0 z0 i m nw) (off : ∀ p ∈ nw, @Ne Nat p.1 I) (F : Fr h₀ L s.heap m) (N : News h₀ L s.heap ((I, oI) :: nw)) (hh : ∃ h tk, s = { s0 with heap := h, toks := tk }) (hT : TokLo T s.toks) :
    let A9 := lawA dp un gd cn L a ccd R W C outer
    let e9 := lawE cn L a ccd R W C
    wpAny (model PG w) A9 (assign (.Name (Str.ofString "step") px) e9 (.int e te))
      (fun _ s₂ => wpAny (model PG w) A9 (execs st e9) (TurnQ h₀ L T s0 [(I, oI)] (St2 w T RL EL DL RO ((R, oR) :: (W, ow) :: (WL, LCg.lst wv) :: rest) x0 y0 z0 (i + 1)) Q) E s₂) E s := by
  intro A9 e9
  generalize hG : TurnQ h₀ L T s0 [(I, oI)] (St2 w T RL EL DL RO ((R, oR) :: (W, ow) :: (WL, LCg.lst wv) :: rest) x0 y0 z0 (i + 1)) Q = Q9
  obtain ⟨PL, x, y, z, t1, t2, t3, n, ys, ts, k, rfl, offP, offRP, hx, hy, hz, hmx, hmn, hys, hyt, hcnt, hyl, hmp, hmk, hme, hmd⟩ := hJ
  obtain ⟨hp0, tk0, rfl⟩ := hh
  subst hG
  exact home_walk w G hst hw hr hn hwt hRO hi hi60 offRP hx hy hz hmx hmn hys hyt hcnt hyl hmp hmk hme hmd (fun p hp => off p (.tail _ (.tail _ hp))) (off _ (.tail _ (.head _))) F N hT
end Mine
end
section
open PySem PySem.W PyProof.Rows PySem.Calls PySem.Flt
namespace Mine
noncomputable abbrev tallyL (ts : List Str) (i : Nat) : List Int := (List.range i).map fun j => (ts.count (textOf j) : Int)
noncomputable abbrev totL (ts : List Str) (i : Nat) : Int := ((List.range i).map fun j => (ts.count (textOf j) : Int) * rankL.getD j 0).sum
theorem tally_get {ts : List Str} {j : Nat} (h : j < 6) : (tallyL ts 6).getD j 0 = (ts.count (textOf j) : Int) := by
  simp [tallyL, List.getD_eq_getElem?_getD, List.getElem?_map, List.getElem?_range h]
theorem tally_snoc {ts : List Str} {i : Nat} : tallyL ts (i + 1) = tallyL ts i ++ [(ts.count (textOf i) : Int)] := by
  simp [tallyL, List.range_succ]
theorem tot_snoc {ts : List Str} {i : Nat} : totL ts (i + 1) = totL ts i + (ts.count (textOf i) : Int) * rankL.getD i 0 := by
  simp [totL, List.range_succ]
theorem rank_bd : ∀ j : Fin 6, 0 ≤ rankL.getD j.val 0 ∧ rankL.getD j.val 0 ≤ 6 := by decide
theorem tot_six {ts : List Str} {x y z : Int} (hw : wt x y z = 0) (h : ∀ j, j < 6 → homeAt j x y z = (ts.count (textOf j) : Int)) : totL ts 6 % 7 = 0 := by
  have := total_zero hw
  rw [h 0 (by decide), h 1 (by decide), h 2 (by decide), h 3 (by decide), h 4 (by decide), h 5 (by decide)] at this
  have e : totL ts 6 = (ts.count (textOf 0) : Int) * 1 + (ts.count (textOf 1) : Int) * 3 + (ts.count (textOf 2) : Int) * 2 + (ts.count (textOf 3) : Int) * 6 + (ts.count (textOf 4) : Int) * 4 + (ts.count (textOf 5) : Int) * 5 := by
    rw [show (6 : Nat) = 0 + 1 + 1 + 1 + 1 + 1 + 1 from rfl]
    simp only [tot_snoc]
    simp [totL, rankL]
  rw [e]; exact this
theorem ints_end {vs : List Value} {ns : List Int} {x : Int} {u : Tok} (h : IntsAre vs ns) : IntsAre (vs ++ [.int x u]) (ns ++ [x]) := PyProof.Rows.IntsAre.append h (.cons _ _ .nil)
section
variable {prog : Program} {w : World} {A : Around} {E : Value → Shared → Prop} {s : Shared} {env : Env} {target : Expr} {body orelse : List Stmt}
noncomputable def LoopInT (k : Nat) (prog : Program) (w : World) (A : Around) (env : Env) (target : Expr) (body orelse : List Stmt) (Q : Flow → Shared → Prop) (E : Value → Shared → Prop) (xv : Value) (s₁ : Shared) : Prop := TokLo k s₁.toks → LoopIn prog w A env target body orelse Q E xv s₁
theorem For_startT {k : Nat} {iter : Expr} {pos : Pos} {Q : Flow → Shared → Prop} (hT : TokLo k s.toks) (h : wpAny (model prog w) A (eval iter env) (fun xv s₁ => LoopInT k prog w A env target body orelse Q E xv s₁) E s)
    (hs : ∀ x, foldedSetIterable iter env x = pure x := by intro _; rfl) : wpAny (model prog w) A (exec (.For target iter body orelse pos) env) Q E s :=
  For_start (wpAny_with_toks hT (wpAny_mono h (fun _ _ x hn => x hn) fun _ _ x _ => x)) hs
noncomputable def CompInT (k : Nat) (prog : Program) (w : World) (A : Around) (env : Env) (elt : Expr) (x : Str) (px : Pos) (iter : Expr) (scope : Scope) (cl : List (Str × Addr)) (pos : Pos) (RR : Value → Addr → Result → Shared → Prop) (E : Value → Shared → Prop) (xv : Value) (s₁ : Shared) : Prop := TokLo k s₁.toks → CompIn prog w A env elt x px iter scope cl pos RR E xv s₁
theorem Comp_assignT {k : Nat} {elt iter : Expr} {x y : Str} {px py : Pos} {scope : Scope} (cl : List (Str × Addr)) {pos spos : Pos} {Q : Flow → Shared → Prop}
    (hT : TokLo k s.toks) (hsw : swapsWith (.ListComp elt [⟨.Name x px, iter, [], 0⟩] scope pos) (some (.Name y py)) spos.line env = pure true)
    (hclos : closureFor scope env = pure cl) (hkind : scope.kind = .function) (hnames : ∀ y ∈ scope.names, y.2 = .local → scope.names.lookup y.1 = some .local)
    (h : wpAny (model prog w) A (eval iter env) (fun xv s₁ => CompInT k prog w A env elt x px iter scope cl pos (compPost (model prog w) A E (some (assign (.Name y py) env)) (fun _ s' => Q .next s')) E xv s₁) E s)
    (hs : ∀ x, foldedSetIterable iter env x = pure x := by intro _; rfl) :
    wpAny (model prog w) A (exec (.Assign [.Name y py] (.ListComp elt [⟨.Name x px, iter, [], 0⟩] scope pos) spos) env) Q E s :=
  Comp_assign cl hsw hclos hkind hnames (wpAny_with_toks hT (wpAny_mono h (fun _ _ x hn => x hn) fun _ _ x _ => x)) hs
end
end Mine
end
section
open PySem PySem.W PyProof.Rows PySem.Calls PySem.Flt
namespace Mine
set_option maxRecDepth 100000 in
set_option maxHeartbeats 4000000 in
theorem law_end (w : World) {mean : ExcName → Option Value} {mg mb : Str → Option Value} {dp un : Nat} {gd : Option (List Code)} {cn : Str} {a : Addr} {ccd : Value} {outer : List Env} {A₀ : Around} {base h₀ : Heap} {L : Addr} {m : Str → Option Value} {s : Shared} {Q : Flow → Shared → Prop} {E : Value → Shared → Prop}
    {st : List Stmt} {R W C PL RL EL DL RO : Addr} {oR : Obj} {ys dv rv : List Value} {ts : List Str} {rest : List (Addr × Obj)} {T k n n' kd kr : Nat} {v : Int} {t1 t2 t3 u1 u2 u3 : Tok}
    (G : Gd w A₀ base outer h₀ mean mg mb dp un) (hst : st = lawBody.drop 14)
    (hr : oR.data = .cell (some (.ref RO))) (hys : NamesIn w rest ys ts) (hyt : ∀ y ∈ ys, TokAt 1 T y) (hri : IntsAre rv rankL) (hdv : IntsAre dv (tallyL ts 6)) (hyl : ts.length ≤ 100)
    (htot : totL ts 6 % 7 = 0) (hmp : m (Str.ofString "place") = some (.ref PL)) (hmk : m (Str.ofString "ranks") = some (.ref RL)) (hme : m (Str.ofString "end") = some (.ref EL)) (hmd : m (Str.ofString "due") = some (.ref DL))
    (F : Fr h₀ L s.heap m) (N : News h₀ L s.heap ((PL, lst3 v v v t1 t2 t3 n) :: (RO, lstk ys k) :: (R, oR) :: (EL, lst3 v v v u1 u2 u3 n') :: (DL, lstk dv kd) :: (RL, lstk rv kr) :: rest)) (hT : TokLo T s.toks)
    (hE : PassesOwn (model PG w) (lawA dp un gd cn L a ccd R W C outer) (lawE cn L a ccd R W C) E)
    (hQ : ∀ h tk m', Fr h₀ L h m' → Q (.ret (.bool true)) { s with heap := h, toks := tk }) :
    let A9 := lawA dp un gd cn L a ccd R W C outer
    let e9 := lawE cn L a ccd R W C
    wpAny (model PG w) A9 (execs st e9) Q E s := by
  intro A9 e9
  k_with_none
  k_with "execs cons" => (k_here; (rename TokLo _ _ => hT9); (refine' execs_cons_T (TokLo.any hT9 ?kt) ?_); (case kt => ((try dsimp only); k_dflt (repeat (first | exact Nat.le_refl _ | exact Nat.le_add_right _ _ | refine Nat.le_succ_of_le ?_)))); (try dsimp only))
  k_with "forall" => (intro tk9 e9 hT9; clear e9; (try dsimp only); (try k_fold))
  k_with "eval BinOp" => (k_here; dsimp only; (try k_fold))
  k_with "eval Call" => (k_here; dsimp only; (try k_fold))
  k_with "eval Subscript" => (k_here; dsimp only; (try k_fold))
  k_with "exec For" => (k_here; k_dflt (refine' For_startT ?kT ?_; (case kT => ((rename TokLo _ _ => hT9); refine TokLo.any hT9 ?_; ((try dsimp only); k_dflt (repeat (first | exact Nat.le_refl _ | exact Nat.le_add_right _ _ | refine Nat.le_succ_of_le ?_))))); (try dsimp only)))
  k_with "exec For Name Call cons nil" => (k_here; k_dflt (refine' For_startT ?kT ?_; (case kT => ((rename TokLo _ _ => hT9); refine TokLo.any hT9 ?_; ((try dsimp only); k_dflt (repeat (first | exact Nat.le_refl _ | exact Nat.le_add_right _ _ | refine Nat.le_succ_of_le ?_))))); (try dsimp only)))
  k_with "exec For Name Subscript cons nil" => (k_here; k_dflt (refine' For_startT ?kT ?_; (case kT => ((rename TokLo _ _ => hT9); refine TokLo.any hT9 ?_; ((try dsimp only); k_dflt (repeat (first | exact Nat.le_refl _ | exact Nat.le_add_right _ _ | refine Nat.le_succ_of_le ?_))))); (try dsimp only)))
  k_with "compareOp NotEq ref ref" => (k_here; k_dflt (refine' ne_led ?k1 ?k2 ?k3 ?k4 ?k5 ?k6 ?k7 ?_; (case k1 => k_asm); (case k2 => k_mem); (case k3 => k_mem); (case k4 => assumption); (case k5 => assumption); (case k6 => assumption); (case k7 => rfl); (try dsimp only); (try k_fold)))
  k_with "compareOp NotEq ref ref" => (k_here; k_dflt (refine' ne_led ?k1 ?k2 ?k3 ?k4 ?k5 ?k6 ?k7 ?_; (case k1 => k_asm); (case k2 => k_mem); (case k3 => k_mem); (case k4 => exact .cons _ _ (.cons _ _ (.cons _ _ .nil))); (case k5 => exact .cons _ _ (.cons _ _ (.cons _ _ .nil))); (case k6 => assumption); (case k7 => first | assumption | rfl); (try dsimp only); (try k_fold)))
  k_with "call ref" => (k_here; (with_reducible show wpAny _ _ (call (Value.ref 35) _) _ _ _); k_dflt (refine' use1 (add_ct _ _ _ _ _ _) ?kT ?kG ?kD ?kF ?kN ?_; (case kF => k_asm); (case kN => k_asm); (case kG => assumption); (case kD => decide); (case kT => ((rename TokLo _ _ => hT9); refine TokLo.any hT9 ?_; ((try dsimp only); k_dflt (repeat (first | exact Nat.le_refl _ | exact Nat.le_add_right _ _ | refine Nat.le_succ_of_le ?_))))); intro t9 h9 tk9 hT9 F9 N9; (try dsimp only); (try k_sweep); (try k_fold)))
  k_with "call ref" => (k_here; (with_reducible show wpAny _ _ (call (Value.ref 49) _) _ _ _); k_dflt (refine' use1 (mul_ct _ _ _ _ _ _ ?q1 ?q2) ?kT ?kG ?kD ?kF ?kN ?_; (case kF => k_asm); (case kN => k_asm); (case kG => assumption); (case kD => decide); (case kT => ((rename TokLo _ _ => hT9); refine TokLo.any hT9 ?_; ((try dsimp only); k_dflt (repeat (first | exact Nat.le_refl _ | exact Nat.le_add_right _ _ | refine Nat.le_succ_of_le ?_))))); (case q1 => omega); (case q2 => omega); intro t9 h9 tk9 hT9 F9 N9; (try dsimp only); (try k_sweep); (try k_fold)))
  k_with "call ref" => (k_here; (with_reducible show wpAny _ _ (call (Value.ref 42) _) _ _ _); k_dflt (refine' useI (modT_ct _ _ _ _) ?kT ?kG ?kD ?kF ?kN ?_; (case kF => k_asm); (case kN => k_asm); (case kG => assumption); (case kD => decide); (case kT => ((rename TokLo _ _ => hT9); refine TokLo.any hT9 ?_; ((try dsimp only); k_dflt (repeat (first | exact Nat.le_refl _ | exact Nat.le_add_right _ _ | refine Nat.le_succ_of_le ?_))))); intro t9 h9 tk9 htr9 hT9 F9 N9; (try dsimp only); (try k_sweep); (try k_fold)))
  k_with "subscriptTail Name Name ref int" => (k_here; (with_reducible show wpAny _ _ (subscriptTail (Expr.Name _ _) _ (Value.ref _) (Value.int _ _)) _ _ _); k_dflt (refine' item_ints ?k1 ?k2 ?k3 ?k4 ?k5 ?k6 ?_; (case k1 => k_asm); (case k2 => k_mem); (case k3 => assumption); (case k4 => rfl); (case k5 => first | exact hd.1 | omega); (case k6 => first | exact hd.2 | omega); intro t9; (try k_fold)))
  k_with "call ref" => (k_here; (with_reducible show wpAny _ _ (call (Value.ref 63) _) _ _ _); with_reducible refine stopped ?_)
  k_with "exec Assign cons ListComp" => (k_here; (with_reducible show wpAny _ _ (exec (Stmt.Assign [Expr.Name _ _] (Expr.ListComp _ _ _ _) _) _) _ _ _); k_dflt (refine' Comp_assignT _ ?kT ?c1 ?c2 ?c3 ?c4 ?_; (case c1 => with_unfolding_all rfl); (case c2 => with_unfolding_all rfl); (case c3 => rfl); (case c4 => decide); (case kT => ((rename TokLo _ _ => hT9); refine TokLo.any hT9 ?_; ((try dsimp only); k_dflt (repeat (first | exact Nat.le_refl _ | exact Nat.le_add_right _ _ | refine Nat.le_succ_of_le ?_))))); (try dsimp only)))
  k_with "call ref" => (k_here; (with_reducible show wpAny _ _ (call (Value.ref 204) _) _ _ _); k_dflt (refine' cst_use (nt _ _ _ _ _ ?q1 ?q2) ?k1 ?k2 ?k3 ?k4 ?k5 ?k6 ?k7 ?k8 ?_; (case q1 => omega); (case q2 => assumption); (case k1 => k_asm); (case k2 => k_asm); (case k3 => k_asm); (case k4 => k_asm); (case k5 => k_asm); (case k6 => first | exact rfl | assumption); (case k7 => ktr_room); (case k8 => ktr_units); intro r9 tl9 h9 tk9 F9 N9 hl9 hp9 ht9; (try dsimp only); (try k_fold)))
  conv at hst => rhs; whnf
  subst hst
  unfold PG at *
  have T₀ := G.t
  have X := G.x
  have B := G.b
  have hdp := G.d
  have hun := G.u
  have hu64 := G.u64
  revert X
  k_fill
  intro X
  have F₁ := fr_say (fr_say (fr_say (fr_say F hmp) ((if_neg (by decide)).trans hmk)) ((if_neg (by decide)).trans ((if_neg (by decide)).trans hme))) ((if_neg (by decide)).trans ((if_neg (by decide)).trans ((if_neg (by decide)).trans hmd)))
  clear F hmp hmk hme hmd
  have hcb : ∀ t, 0 ≤ (ts.count t : Int) ∧ (ts.count t : Int) ≤ 100 := fun t => by have := List.count_le_length (a := t) (l := ts); omega
  have hTs := hT
  clear hT
  k_steps
  intro hTc
  (rename IsRange _ _ _ _ _ _ _ _ => rgX); (rename Fr _ _ _ _ => lF); (rename News _ _ _ _ => lN)
  refine CompIn.range (T := T) (n := 6) (fun i zs nw tk => nw = (PL, lst3 v v v t1 t2 t3 n) :: (RO, lstk ys k) :: (R, oR) :: (EL, lst3 v v v u1 u2 u3 n') :: (DL, lstk dv kd) :: (RL, lstk rv kr) :: rest ∧ IntsAre zs (tallyL ts i)) (by rfl) lF lN rgX (by decide +kernel) (by decide +kernel) (by decide) ?wmono (by decide) (by rfl) (by decide) hTc ⟨rfl, .nil⟩ ?wturn (EndT.assign rfl ?rmono2 ?ry ?rp ?wfin)
  case ry => rfl
  case rp => rfl
  case wmono => rintro i zs nw tk tk' ⟨e, h⟩ hle; exact ⟨e, h⟩
  case rmono2 => rintro zs nw tk tk' ⟨e, h⟩ hle; exact ⟨e, h⟩
  case wturn =>
    rintro i t zs m₂ nw h₁ tk₁ I oI C2 oC D E' hi hT ⟨rfl, hz⟩ hzl hN hv off o1 o2 o3 F₂ N₂
    have h3 := fm3 (0 + (i : Int) + 1)
    clear lF lN rgX
    k_steps
    refine Stopped.of ?_
    (rename NamePost _ _ _ _ => hp9); (rename TokAt _ _ _ => ht9); (rename Fr _ _ _ _ => lF); (rename News _ _ _ _ => lN)
    have e0 : (0 + (i : Int)).toNat = i := by omega
    rw [e0] at hp9
    have hk2 := TokAt.widen (a := T) ht9 (by have : @LE.le Nat _ T tk₁ := hT; dsimp only; omega) (Nat.le_refl _)
    k_dflt (refine' ct_use (count_ct w _ RO ys ts k _ (textOf i) T _ ?n1 ?hm ?n2 hyt hk2) ?k1 ?k2 ?k3 ?k4 ?k5 ?k6 ?k7 ?k8 ?_; (case k1 => k_asm); (case k2 => k_asm); (case k3 => k_asm); (case k4 => k_asm); (case k5 => k_asm); (case k6 => first | exact rfl | assumption); (case k7 => ktr_room); (case k8 => ktr_units))
    case n1 => exact NamesIn.mono (fun p hp => List.mem_append_right _ (by repeat (first | exact hp | refine List.mem_cons_of_mem _ ?_))) hys
    case hm => exact List.mem_append_right _ (by k_mem)
    case n2 => exact (namePost_in hp9).mono fun p hp => List.mem_append_left _ hp
    intro r8 tl8 h8 tk8 F8 N8 hl8 hp8
    obtain ⟨e8, t8, e8'⟩ := hp8
    subst e8
    subst e8'
    simp only [List.nil_append] at N8
    try dsimp only
    k_steps
    (rename Fr _ _ _ _ => lF8); (rename News _ _ _ _ => lN8)
    refine elt_keep lF8 (fun p hp => lN8 p (List.mem_append_right _ hp)) (off3 off) fun _ => ⟨rfl, ?_⟩
    rw [tally_snoc]
    exact ints_end hz
  case wfin =>
    rintro TL yv nw h₁ tk₁ hT ⟨rfl, hyv⟩ hyvl offT F₂ N₂
    clear lF lN rgX
    k_steps
    intro hTd
    (rename IsRange _ _ _ _ _ _ _ _ => rgX); (rename Fr _ _ _ _ => lF); (rename News _ _ _ _ => lN)
    refine LoopIn.range (T := T) (n := 6) (fun i m₁ nw => nw = (TL, LCg.lst yv) :: (PL, lst3 v v v t1 t2 t3 n) :: (RO, lstk ys k) :: (R, oR) :: (EL, lst3 v v v u1 u2 u3 n') :: (DL, lstk dv kd) :: (RL, lstk rv kr) :: rest ∧ (∃ u, m₁ (Str.ofString "total") = some (.int (totL ts i) u)) ∧ m₁ (Str.ofString "tally") = some (.ref TL) ∧ m₁ (Str.ofString "ranks") = some (.ref RL)) (by rfl) lF lN rgX (by decide +kernel) (by decide +kernel) hTd ⟨rfl, ⟨_, by rfl⟩, by rfl, by rfl⟩ hE ?_ ?_
    · rintro i t m₁ nw h₂ tk₂ I oI hi hT2 ⟨rfl, ⟨u, hm1⟩, hm2, hm3⟩ off F₃ N₃
      have F₄ := fr_say (fr_say (fr_say F₃ hm1) ((if_neg (by decide)).trans hm2)) ((if_neg (by decide)).trans ((if_neg (by decide)).trans hm3))
      clear F₃ lF lN rgX
      try dsimp only [envOf] at F₄ N₃
      have e0 : (0 + (i : Int)).toNat = i := by omega
      have b1 : 0 ≤ (tallyL ts 6).getD (0 + (i : Int)).toNat 0 ∧ (tallyL ts 6).getD (0 + (i : Int)).toNat 0 ≤ 100 := by rw [e0, tally_get hi]; exact hcb _
      have b2 : 0 ≤ rankL.getD (0 + (i : Int)).toNat 0 ∧ rankL.getD (0 + (i : Int)).toNat 0 ≤ 6 := by rw [e0]; exact rank_bd ⟨i, hi⟩
      have i6 : (i : Int) < 6 := by omega
      k_steps
      (rename Fr _ _ _ _ => lF); (rename News _ _ _ _ => lN)
      refine turn_next (news' := _ :: _) lF lN (fun p hp q hq => by rw [List.mem_singleton.mp hq]; exact off p hp) ⟨rfl, ⟨_, congrArg (fun c => some (Value.int c _)) ?_⟩, by rfl, by rfl⟩
      rw [tot_snoc, ← tally_get hi]
      show totL ts i + (tallyL ts 6).getD (0 + (i : Int)).toNat 0 * rankL.getD (0 + (i : Int)).toNat 0 = _
      rw [e0]
    · rintro m₁ nw h₂ tk₂ hT2 ⟨rfl, ⟨u, hm1⟩, hm2, hm3⟩ F₃ N₃
      have F₄ := fr_say F₃ hm1
      clear F₃ lF lN rgX
      try dsimp only [envOf] at F₄ N₃
      k_steps
      rw [show (totL ts 6 % 7 == 0) = true by rw [htot]; rfl]
      exact hQ _ _ _ (by assumption)
end Mine
end
section
open PySem PySem.W PyProof.Rows PySem.Calls PySem.Flt
namespace Mine
theorem mn_of {M x y z : Int} (h1 : M = x ∨ M = y ∨ M = z) (h2 : M ≤ x ∧ M ≤ y ∧ M ≤ z) : M = mn3 x y z := mn3_is h1 h2
noncomputable def IsSeq (o : Obj) : Prop := ∃ a n, o.data = .seq a n
theorem IsSeq.ne {o o' : Obj} {v : Option Value} (h : IsSeq o) (h' : o'.data = .cell v) : o ≠ o' := fun e => by
  obtain ⟨a, n, d⟩ := h
  rw [e, h'] at d
  cases d
theorem store_road {M : Model} {A : Around} {E : Value → Shared → Prop} {s : Shared} {h₀ : Heap} {L a : Addr} {m : Str → Option Value} {cn : Str} {ccd : Value} {cl : List (Str × Addr)} {Q : Unit → Shared → Prop}
    {RO FL DL EL tm PL RL W WL R : Addr} {o1 o2 o3 o4 o5 o6 o7 o8 ow oR : Obj} {v : Value} {rest : List (Addr × Obj)} (F : Fr h₀ L s.heap m) (N : News h₀ L s.heap ((RO, o1) :: (FL, o2) :: (DL, o3) :: (EL, o4) :: (tm, o5) :: (PL, o6) :: (RL, o7) :: (W, ow) :: (WL, o8) :: (R, oR) :: rest))
    (hlt : @LT.lt Nat _ FL RO ∧ @LT.lt Nat _ DL RO ∧ @LT.lt Nat _ EL RO ∧ @LT.lt Nat _ tm RO ∧ @LT.lt Nat _ PL RO ∧ @LT.lt Nat _ RL RO ∧ @LT.lt Nat _ W RO ∧ @LT.lt Nat _ WL RO ∧ @LT.lt Nat _ R RO ∧ AllLt RO rest) (hr : oR.data = .cell none) (hw : ow.data = .cell (some v))
    (d1 : IsSeq o1) (d3 : IsSeq o3) (d4 : IsSeq o4) (d6 : IsSeq o6) (d7 : IsSeq o7) (d8 : IsSeq o8) (hRr : ∀ p ∈ rest, @Ne Nat p.1 R) (hc : cl.lookup (Str.ofString "road") = some R)
    (h : ∀ h' oR', Fr h₀ L h' m → oR'.data = .cell (some (.ref RO)) → News h₀ L h' ((PL, o6) :: (RO, o1) :: (R, oR') :: (W, ow) :: (WL, o8) :: (EL, o4) :: (DL, o3) :: (RL, o7) :: rest) → (∀ p ∈ (R, oR') :: (W, ow) :: (WL, o8) :: (EL, o4) :: (DL, o3) :: (RL, o7) :: rest, @Ne Nat p.1 RO) → @Ne Nat RO PL → Q () { s with heap := h' })
    (hk : cs.kind = .function := by rfl) (hx : (envX cn cs L a ccd cl).kindOf (Str.ofString "road") = some .cell := by rfl) : wpAny M A (storeName (envX cn cs L a ccd cl) (Str.ofString "road") (.ref RO)) Q E s := by
  obtain ⟨l1, l2, l3, l4, l5, l6, l7, l8, l9, l10⟩ := hlt
  have mR : (R, oR) ∈ (RO, o1) :: (FL, o2) :: (DL, o3) :: (EL, o4) :: (tm, o5) :: (PL, o6) :: (RL, o7) :: (W, ow) :: (WL, o8) :: (R, oR) :: rest := by (repeat (first | exact List.Mem.head _ | refine List.Mem.tail _ ?_))
  refine storeC ((PL, o6) :: (RO, o1) :: (W, ow) :: (WL, o8) :: (EL, o4) :: (DL, o3) :: (RL, o7) :: rest) F N hc mR hr ?_ ?_ hk hx
  · intro p hp
    rcases List.mem_cons.mp hp with rfl | hp
    · exact ⟨by (repeat (first | exact List.Mem.head _ | refine List.Mem.tail _ ?_)), apart_of N (p := (PL, o6)) (q := (R, oR)) (by (repeat (first | exact List.Mem.head _ | refine List.Mem.tail _ ?_))) mR (d6.ne hr)⟩
    rcases List.mem_cons.mp hp with rfl | hp
    · exact ⟨by (repeat (first | exact List.Mem.head _ | refine List.Mem.tail _ ?_)), apart_of N (p := (RO, o1)) (q := (R, oR)) (by (repeat (first | exact List.Mem.head _ | refine List.Mem.tail _ ?_))) mR (d1.ne hr)⟩
    rcases List.mem_cons.mp hp with rfl | hp
    · exact ⟨by (repeat (first | exact List.Mem.head _ | refine List.Mem.tail _ ?_)), apart_of N (p := (W, ow)) (q := (R, oR)) (by (repeat (first | exact List.Mem.head _ | refine List.Mem.tail _ ?_))) mR fun e => by have e : ow = oR := e; rw [e, hr] at hw; cases hw⟩
    rcases List.mem_cons.mp hp with rfl | hp
    · exact ⟨by (repeat (first | exact List.Mem.head _ | refine List.Mem.tail _ ?_)), apart_of N (p := (WL, o8)) (q := (R, oR)) (by (repeat (first | exact List.Mem.head _ | refine List.Mem.tail _ ?_))) mR (d8.ne hr)⟩
    rcases List.mem_cons.mp hp with rfl | hp
    · exact ⟨by (repeat (first | exact List.Mem.head _ | refine List.Mem.tail _ ?_)), apart_of N (p := (EL, o4)) (q := (R, oR)) (by (repeat (first | exact List.Mem.head _ | refine List.Mem.tail _ ?_))) mR (d4.ne hr)⟩
    rcases List.mem_cons.mp hp with rfl | hp
    · exact ⟨by (repeat (first | exact List.Mem.head _ | refine List.Mem.tail _ ?_)), apart_of N (p := (DL, o3)) (q := (R, oR)) (by (repeat (first | exact List.Mem.head _ | refine List.Mem.tail _ ?_))) mR (d3.ne hr)⟩
    rcases List.mem_cons.mp hp with rfl | hp
    · exact ⟨by (repeat (first | exact List.Mem.head _ | refine List.Mem.tail _ ?_)), apart_of N (p := (RL, o7)) (q := (R, oR)) (by (repeat (first | exact List.Mem.head _ | refine List.Mem.tail _ ?_))) mR (d7.ne hr)⟩
    · exact ⟨by simp [hp], hRr p hp⟩
  · intro h' oR' F' hd N'
    refine h h' oR' F' hd (fun p hp => N' p ?_) (fun p hp => ?_) (Nat.ne_of_gt l5)
    · rcases List.mem_cons.mp hp with rfl | hp
      · (repeat (first | exact List.Mem.head _ | refine List.Mem.tail _ ?_))
      rcases List.mem_cons.mp hp with rfl | hp
      · (repeat (first | exact List.Mem.head _ | refine List.Mem.tail _ ?_))
      rcases List.mem_cons.mp hp with rfl | hp
      · (repeat (first | exact List.Mem.head _ | refine List.Mem.tail _ ?_))
      rcases List.mem_cons.mp hp with rfl | hp
      · (repeat (first | exact List.Mem.head _ | refine List.Mem.tail _ ?_))
      rcases List.mem_cons.mp hp with rfl | hp
      · (repeat (first | exact List.Mem.head _ | refine List.Mem.tail _ ?_))
      rcases List.mem_cons.mp hp with rfl | hp
      · (repeat (first | exact List.Mem.head _ | refine List.Mem.tail _ ?_))
      rcases List.mem_cons.mp hp with rfl | hp
      · (repeat (first | exact List.Mem.head _ | refine List.Mem.tail _ ?_))
      rcases List.mem_cons.mp hp with rfl | hp
      · (repeat (first | exact List.Mem.head _ | refine List.Mem.tail _ ?_))
      exact .tail _ (.tail _ (.tail _ (.tail _ (.tail _ (.tail _ (.tail _ (.tail _ hp)))))))
    · rcases List.mem_cons.mp hp with rfl | hp
      · exact Nat.ne_of_lt l9
      rcases List.mem_cons.mp hp with rfl | hp
      · exact Nat.ne_of_lt l7
      rcases List.mem_cons.mp hp with rfl | hp
      · exact Nat.ne_of_lt l8
      rcases List.mem_cons.mp hp with rfl | hp
      · exact Nat.ne_of_lt l3
      rcases List.mem_cons.mp hp with rfl | hp
      · exact Nat.ne_of_lt l2
      rcases List.mem_cons.mp hp with rfl | hp
      · exact Nat.ne_of_lt l6
      · exact Nat.ne_of_lt (kst_ltOf l10 p hp)
theorem loop_home (w : World) {mean : ExcName → Option Value} {mg mb : Str → Option Value} {dp un : Nat} {gd : Option (List Code)} {cn : Str} {a : Addr} {ccd : Value} {outer : List Env} {A₀ : Around} {base h₀ : Heap} {L : Addr} {m : Str → Option Value} {s : Shared} {Q : Flow → Shared → Prop} {E : Value → Shared → Prop}
    {st : List Stmt} {R W C PL RL WL EL DL RO r : Addr} {oR ow : Obj} {wv : List Value} {rest : List (Addr × Obj)} {T n k : Nat} {D : Nat} {x y z : Int} {t1 t2 t3 u1 u2 u3 : Tok} {px : Pos} {led : List (Addr × Obj)}
    (G : Gd w A₀ base outer h₀ mean mg mb dp un) (hst : st = lawFor 13)
    (hw : ow.data = .cell (some (.ref WL))) (hr : oR.data = .cell (some (.ref RO))) (hn : NamesIn w rest wv wheelT) (hwt : ∀ y ∈ wv, TokAt 1 T y) (hRO : ∀ p ∈ (R, oR) :: (W, ow) :: (WL, LCg.lst wv) :: rest, @Ne Nat p.1 RO)
    (hP : ∀ p ∈ (R, oR) :: (W, ow) :: (WL, LCg.lst wv) :: rest, @Ne Nat p.1 PL) (hRP : @Ne Nat RO PL)
    (hx : 0 ≤ x ∧ x ≤ 60) (hy : 0 ≤ y ∧ y ≤ 60) (hz : 0 ≤ z ∧ z ≤ 60) (hD : (D : Int) = mx3 x y z - mn3 x y z)
    (hmp : m (Str.ofString "place") = some (.ref PL)) (hmk : m (Str.ofString "ranks") = some (.ref RL)) (hme : m (Str.ofString "end") = some (.ref EL)) (hmd : m (Str.ofString "due") = some (.ref DL))
    (F : Fr h₀ L s.heap m) (N : News h₀ L s.heap led) (hsub : ∀ p ∈ (PL, lst3 x y z t1 t2 t3 n) :: (RO, lstk [] k) :: (R, oR) :: (W, ow) :: (WL, LCg.lst wv) :: rest, p ∈ led) (hT : TokLo T s.toks) (rg : IsRange s.heap r 0 (D : Int) 1 u1 u2 u3)
    (hE : PassesOwn (model PG w) (lawA dp un gd cn L a ccd R W C outer) (lawE cn L a ccd R W C) E)
    (fin : ∀ m₁ nw h tk, TokLo T tk → St2 w T RL EL DL RO ((R, oR) :: (W, ow) :: (WL, LCg.lst wv) :: rest) x y z D m₁ nw → Fr h₀ L h m₁ → News h₀ L h nw → Q .next { s with heap := h, toks := tk }) :
    LoopIn PG w (lawA dp un gd cn L a ccd R W C outer) (lawE cn L a ccd R W C) (.Name (Str.ofString "step") px) st [] Q E (.ref r) s := by
  have hf := mm_facts hx hy hz
  have hr9 := range64 ⟨D, by omega⟩
  have hn2 : NamesIn w ((R, oR) :: (W, ow) :: (WL, LCg.lst wv) :: rest) wv wheelT := hn.mono fun p hp => .tail _ (.tail _ (.tail _ hp))
  refine LoopIn.range (T := T) (n := D) (fun i m₁ nw => St2 w T RL EL DL RO ((R, oR) :: (W, ow) :: (WL, LCg.lst wv) :: rest) x y z i m₁ nw) rfl F (fun p hp => N p (hsub p hp)) rg hr9.1 hr9.2 hT
    ⟨PL, x, y, z, t1, t2, t3, n, [], [], k, rfl, hP, hRP, hx, hy, hz, by omega, rfl, trivial, (fun v hv => nomatch hv), (fun j hj => by simp), rfl, hmp, hmk, hme, hmd⟩ hE ?_ ?_
  · intro i t m₁ nw h₁ tk₁ I oI hi hT1 hJ off F₁ N₁
    exact turn_home w G hst hw hr hn2 hwt hRO (by omega) (by omega) hJ off F₁ N₁ ⟨h₁, tk₁, rfl⟩ hT1
  · intro m₁ nw h₁ tk₁ hT1 hJ F₁ N₁
    exact wpAny_pure (fin m₁ nw h₁ tk₁ hT1 hJ F₁ N₁)
theorem rep_is {v : Int} {t : Tok} : PySem.W.listOf (List.replicate (Int.toNat 3) [Value.int v t]).flatten.toArray 0 = lst3 v v v t t t 0 := rfl
theorem grey_all {x y z : Int} (h : mx3 x y z = mn3 x y z) : x = mn3 x y z ∧ y = mn3 x y z ∧ z = mn3 x y z :=
  have g := mm_ge (x := x) (y := y) (z := z)
  ⟨Int.le_antisymm (h ▸ g.1) g.2.2.2.1, Int.le_antisymm (h ▸ g.2.1) g.2.2.2.2.1, Int.le_antisymm (h ▸ g.2.2.1) g.2.2.2.2.2⟩
theorem due_is {vs : List Value} {x y z : Int} {ts : List Str} (h : ∀ j, j < 6 → homeAt j x y z = (ts.count (textOf j) : Int)) (hv : IntsAre vs [homeAt 0 x y z, homeAt 1 x y z, homeAt 2 x y z, homeAt 3 x y z, homeAt 4 x y z, homeAt 5 x y z]) : IntsAre vs (tallyL ts 6) := by
  rw [h 0 (by decide), h 1 (by decide), h 2 (by decide), h 3 (by decide), h 4 (by decide), h 5 (by decide)] at hv
  exact hv
theorem law_end2 (w : World) {mean : ExcName → Option Value} {mg mb : Str → Option Value} {dp un : Nat} {gd : Option (List Code)} {cn : Str} {a : Addr} {ccd : Value} {outer : List Env} {A₀ : Around} {base h₀ : Heap} {L : Addr} {m : Str → Option Value} {s : Shared} {Q : Flow → Shared → Prop} {E : Value → Shared → Prop}
    {st : List Stmt} {R W C PL RL EL DL RO WL : Addr} {oR ow oV : Obj} {ys dv rv : List Value} {ts : List Str} {rest : List (Addr × Obj)} {T k n n' kd kr : Nat} {v : Int} {t1 t2 t3 u1 u2 u3 : Tok}
    (G : Gd w A₀ base outer h₀ mean mg mb dp un) (hst : st = lawBody.drop 14)
    (hr : oR.data = .cell (some (.ref RO))) (hys : NamesIn w ((R, oR) :: (W, ow) :: (WL, oV) :: (EL, lst3 v v v u1 u2 u3 n') :: (DL, lstk dv kd) :: (RL, lstk rv kr) :: rest) ys ts) (hyt : ∀ y ∈ ys, TokAt 1 T y) (hri : IntsAre rv rankL) (hdv : IntsAre dv (tallyL ts 6)) (hyl : ts.length ≤ 100)
    (htot : totL ts 6 % 7 = 0) (hmp : m (Str.ofString "place") = some (.ref PL)) (hmk : m (Str.ofString "ranks") = some (.ref RL)) (hme : m (Str.ofString "end") = some (.ref EL)) (hmd : m (Str.ofString "due") = some (.ref DL))
    (F : Fr h₀ L s.heap m) (N : News h₀ L s.heap ((PL, lst3 v v v t1 t2 t3 n) :: (RO, lstk ys k) :: (R, oR) :: (W, ow) :: (WL, oV) :: (EL, lst3 v v v u1 u2 u3 n') :: (DL, lstk dv kd) :: (RL, lstk rv kr) :: rest)) (hT : TokLo T s.toks)
    (hE : PassesOwn (model PG w) (lawA dp un gd cn L a ccd R W C outer) (lawE cn L a ccd R W C) E)
    (hQ : ∀ h tk m', Fr h₀ L h m' → Q (.ret (.bool true)) { s with heap := h, toks := tk }) :
    wpAny (model PG w) (lawA dp un gd cn L a ccd R W C outer) (execs st (lawE cn L a ccd R W C)) Q E s := 
  law_end w G hst hr hys hyt hri hdv hyl htot hmp hmk hme hmd F (fun p hp => N p (by
    rcases List.mem_cons.mp hp with rfl | hp
    · exact .head _
    rcases List.mem_cons.mp hp with rfl | hp
    · exact .tail _ (.head _)
    rcases List.mem_cons.mp hp with rfl | hp
    · exact .tail _ (.tail _ (.head _))
    rcases List.mem_cons.mp hp with rfl | hp
    · exact .tail _ (.tail _ (.tail _ (.tail _ (.tail _ (.head _)))))
    rcases List.mem_cons.mp hp with rfl | hp
    · exact .tail _ (.tail _ (.tail _ (.tail _ (.tail _ (.tail _ (.head _))))))
    rcases List.mem_cons.mp hp with rfl | hp
    · exact .tail _ (.tail _ (.tail _ (.tail _ (.tail _ (.tail _ (.tail _ (.head _)))))))
    · exact .tail _ (.tail _ hp))) hT hE hQ
set_option maxRecDepth 100000 in
set_option maxHeartbeats 4000000 in
theorem law_road (w : World) {mean : ExcName → Option Value} {mg mb : Str → Option Value} {dp un : Nat} {gd : Option (List Code)} {cn : Str} {a : Addr} {ccd : Value} {outer : List Env} {A₀ : Around} {base h₀ : Heap} {L : Addr} {m : Str → Option Value} {s : Shared} {Q : Flow → Shared → Prop} {E : Value → Shared → Prop}
    {st : List Stmt} {R W C PL RL WL : Addr} {oR ow : Obj} {wv rv : List Value} {rest : List (Addr × Obj)} {T n kr : Nat} {x y z : Int} {t1 t2 t3 : Tok}
    (G : Gd w A₀ base outer h₀ mean mg mb dp un) (hst : st = lawBody.drop 9)
    (hw : ow.data = .cell (some (.ref WL))) (hr : oR.data = .cell none) (hn : NamesIn w rest wv wheelT) (hwt : ∀ y ∈ wv, TokAt 1 T y) (hri : IntsAre rv rankL) (hRr : ∀ p ∈ rest, @Ne Nat p.1 R) (hP : ∀ p ∈ (RL, lstk rv kr) :: (W, ow) :: (WL, LCg.lst wv) :: (R, oR) :: rest, @Ne Nat p.1 PL)
    (hx : 0 ≤ x ∧ x ≤ 60) (hy : 0 ≤ y ∧ y ≤ 60) (hz : 0 ≤ z ∧ z ≤ 60) (hwz : wt x y z = 0) (hmp : m (Str.ofString "place") = some (.ref PL)) (hmk : m (Str.ofString "ranks") = some (.ref RL))
    (F : Fr h₀ L s.heap m) (N : News h₀ L s.heap ((PL, lst3 x y z t1 t2 t3 n) :: (RL, lstk rv kr) :: (W, ow) :: (WL, LCg.lst wv) :: (R, oR) :: rest)) (hT : TokLo T s.toks)
    (hE : PassesOwn (model PG w) (lawA dp un gd cn L a ccd R W C outer) (lawE cn L a ccd R W C) E)
    (hQ : ∀ h tk m', Fr h₀ L h m' → Q (.ret (.bool true)) { s with heap := h, toks := tk }) :
    let A9 := lawA dp un gd cn L a ccd R W C outer
    let e9 := lawE cn L a ccd R W C
    wpAny (model PG w) A9 (execs st e9) Q E s := by
  intro A9 e9
  k_with_none
  k_with "execs cons" => (k_here; (rename TokLo _ _ => hT9); (refine' execs_cons_T (TokLo.any hT9 ?kt) ?_); (case kt => ((try dsimp only); k_dflt (repeat (first | exact Nat.le_refl _ | exact Nat.le_add_right _ _ | refine Nat.le_succ_of_le ?_)))); (try dsimp only))
  k_with "forall" => (intro tk9 e9 hT9; clear e9; (try dsimp only); (try k_fold))
  k_with "eval BinOp" => (k_here; dsimp only; (try k_fold))
  k_with "eval Call" => (k_here; dsimp only; (try k_fold))
  k_with "eval Subscript" => (k_here; dsimp only; (try k_fold))
  k_with "exec For" => (k_here; k_dflt (refine' For_startT ?kT ?_; (case kT => ((rename TokLo _ _ => hT9); refine TokLo.any hT9 ?_; ((try dsimp only); k_dflt (repeat (first | exact Nat.le_refl _ | exact Nat.le_add_right _ _ | refine Nat.le_succ_of_le ?_))))); (try dsimp only)))
  k_with "exec For Name Call cons nil" => (k_here; k_dflt (refine' For_startT ?kT ?_; (case kT => ((rename TokLo _ _ => hT9); refine TokLo.any hT9 ?_; ((try dsimp only); k_dflt (repeat (first | exact Nat.le_refl _ | exact Nat.le_add_right _ _ | refine Nat.le_succ_of_le ?_))))); (try dsimp only)))
  k_with "exec For Name Subscript cons nil" => (k_here; k_dflt (refine' For_startT ?kT ?_; (case kT => ((rename TokLo _ _ => hT9); refine TokLo.any hT9 ?_; ((try dsimp only); k_dflt (repeat (first | exact Nat.le_refl _ | exact Nat.le_add_right _ _ | refine Nat.le_succ_of_le ?_))))); (try dsimp only)))
  k_with "CompSrc" => (k_here; k_dflt (refine LCg.CompSrc.ledger (by rfl) (by k_asm) (by k_asm) (by k_mem) (by first | size_fits | exact Nat.le_of_ble_eq_true rfl) ?_; intro g'; lcg_lit))
  k_with "CompEnd" => ((rename News _ _ _ _ => lN'); k_dflt (refine compEnd_tail (by assumption) lN' (by assumption) (by lcg_src) ?_))
  k_with "call ref" => (k_here; (with_reducible show wpAny _ _ (call (Value.ref 216) _) _ _ _); k_dflt (refine' use6 (homeX_ct _ _ ?q1 ?q2 ?q3 ?q4) ?kT ?kG ?kD ?kF ?kN ?_; (case kF => k_asm); (case kN => k_asm); (case kG => assumption); (case kD => decide); (case kT => ((rename TokLo _ _ => hT9); refine TokLo.any hT9 ?_; ((try dsimp only); k_dflt (repeat (first | exact Nat.le_refl _ | exact Nat.le_add_right _ _ | refine Nat.le_succ_of_le ?_))))); (case q1 => k_mem); (case q2 => first | assumption | omega); (case q3 => first | assumption | omega); (case q4 => first | assumption | omega); intro l9 dv9 n9 h9 tk9 hdv9 hT9 F9 N9 hl9; (try dsimp only); (try k_sweep); (try k_fold)))
  k_with "call ref" => (k_here; (with_reducible show wpAny _ _ (call (Value.ref 105) _) _ _ _); k_dflt (refine' useF3 (hsvX_ct ?q2 ?q3 ?q4 _ _ _ _ _) ?kT ?kG ?kD ?kF ?kN ?_; (case kF => k_asm); (case kN => k_asm); (case kG => assumption); (case kD => decide); (case kT => ((rename TokLo _ _ => hT9); refine TokLo.any hT9 ?_; ((try dsimp only); k_dflt (repeat (first | exact Nat.le_refl _ | exact Nat.le_add_right _ _ | refine Nat.le_succ_of_le ?_))))); (case q2 => first | assumption | omega); (case q3 => first | assumption | omega); (case q4 => first | assumption | omega); intro l9 ta9 tb9 tc9 h9 tk9 hT9 F9 N9; (try dsimp only); (try k_sweep); (try k_fold)))
  k_with "call ref" => (k_here; (with_reducible show wpAny _ _ (call (Value.ref 84) _) _ _ _); k_dflt (refine' useF3 (hlsX_ct ?q2 ?q3 ?q4 _ _ _ _ _) ?kT ?kG ?kD ?kF ?kN ?_; (case kF => k_asm); (case kN => k_asm); (case kG => assumption); (case kD => decide); (case kT => ((rename TokLo _ _ => hT9); refine TokLo.any hT9 ?_; ((try dsimp only); k_dflt (repeat (first | exact Nat.le_refl _ | exact Nat.le_add_right _ _ | refine Nat.le_succ_of_le ?_))))); (case q2 => first | assumption | omega); (case q3 => first | assumption | omega); (case q4 => first | assumption | omega); intro l9 ta9 tb9 tc9 h9 tk9 hT9 F9 N9; (try dsimp only); (try k_sweep); (try k_fold)))
  k_with "subscriptTail" => (k_here; k_dflt (first | ((with_reducible show wpAny _ _ (subscriptTail _ _ (Value.ref _) (Value.int 0 _)) _ _ _); refine' itemT_0 ?k1 ?k2 ?_; (case k1 => k_asm); (case k2 => k_mem); (try k_fold)) | ((with_reducible show wpAny _ _ (subscriptTail _ _ (Value.ref _) (Value.int 1 _)) _ _ _); refine' itemT_1 ?k1 ?k2 ?_; (case k1 => k_asm); (case k2 => k_mem); (try k_fold)) | ((with_reducible show wpAny _ _ (subscriptTail _ _ (Value.ref _) (Value.int 2 _)) _ _ _); refine' itemT_2 ?k1 ?k2 ?_; (case k1 => k_asm); (case k2 => k_mem); (try k_fold))))
  k_with "subscriptTail Call Name cons nil Constant ref int" => (k_here; k_dflt (first | ((with_reducible show wpAny _ _ (subscriptTail _ _ (Value.ref _) (Value.int 0 _)) _ _ _); refine' itemT_0 ?k1 ?k2 ?_; (case k1 => k_asm); (case k2 => k_mem); (try k_fold)) | ((with_reducible show wpAny _ _ (subscriptTail _ _ (Value.ref _) (Value.int 1 _)) _ _ _); refine' itemT_1 ?k1 ?k2 ?_; (case k1 => k_asm); (case k2 => k_mem); (try k_fold)) | ((with_reducible show wpAny _ _ (subscriptTail _ _ (Value.ref _) (Value.int 2 _)) _ _ _); refine' itemT_2 ?k1 ?k2 ?_; (case k1 => k_asm); (case k2 => k_mem); (try k_fold))))
  k_with "call ref" => (k_here; (with_reducible show wpAny _ _ (call (Value.ref 77) _) _ _ _); k_dflt (refine' useF (isub_f_ct _ _ _ _ _ _) ?kT ?kG ?kD ?kF ?kN ?_; (case kF => k_asm); (case kN => k_asm); (case kG => assumption); (case kD => decide); (case kT => ((rename TokLo _ _ => hT9); refine TokLo.any hT9 ?_; ((try dsimp only); k_dflt (repeat (first | exact Nat.le_refl _ | exact Nat.le_add_right _ _ | refine Nat.le_succ_of_le ?_))))); intro t9 h9 tk9 hT9 F9 N9; (try dsimp only); (try k_sweep); (try k_fold)))
  k_with "storeName" => (k_here; (with_reducible show wpAny _ _ (storeName _ (Str.ofString "road") _) _ _ _); with_reducible refine stopped ?_)
  conv at hst => rhs; whnf
  subst hst
  unfold PG at *
  have T₀ := G.t
  have X := G.x
  have hu64 := G.u64
  revert X
  k_fill
  intro X
  have F₁ := fr_say (fr_say F hmp) ((if_neg (by decide)).trans hmk)
  clear F hmp hmk
  obtain ⟨hg1, hg2⟩ := gap_full hx hy hz
  have hTs := hT
  clear hT
  k_steps
  refine Stopped.of ?_
  (rename _ ∨ _ ∨ _ => hM1); (rename _ ∧ _ ∧ _ ≤ z => hM2)
  have hM := mn_of hM1 hM2
  subst hM
  clear hM1 hM2
  (rename Fr _ _ _ _ => lF); (rename News _ _ _ _ => lN)
  simp only [rep_is] at lN
  (rename ∀ q ∈ _, @Ne Nat _ _ => hDl)
  refine' store_road lF lN ?hlt hr hw ⟨_, _, rfl⟩ ⟨_, _, rfl⟩ ⟨_, _, rfl⟩ ⟨_, _, rfl⟩ ⟨_, _, rfl⟩ ⟨_, _, rfl⟩ hRr rfl ?_
  case hlt => assumption
  intro h2 oR' F2 hoR N2 hRO hRP
  clear lF lN
  try dsimp only
  k_steps
  intro hTc
  (rename IsRange _ _ _ _ _ _ _ _ => rgX); (rename Fr _ _ _ _ => lF); (rename News _ _ _ _ => lN)
  have hf := mm_facts hx hy hz
  obtain ⟨D, hD⟩ : ∃ D : Nat, (D : Int) = mx3 x y z - mn3 x y z := ⟨(mx3 x y z - mn3 x y z).toNat, by omega⟩
  rw [hg1, ← hD] at rgX
  have hn3 := hn
  refine' loop_home w G rfl hw hoR (NamesIn.mono ?hnm hn) hwt hRO ?hP hRP hx hy hz hD ?hmp ?hmk ?hme ?hmd lF lN ?hsub hTc rgX hE ?fin
  case hmp => rfl
  case hmk => rfl
  case hme => rfl
  case hmd => rfl
  case hnm => exact fun p hp => .tail _ (.tail _ (.tail _ hp))
  case hsub => exact fun p hp => .tail _ (.tail _ hp)
  case hP =>
    intro p hp
    rcases List.mem_cons.mp hp with rfl | hp
    · exact hP (R, oR) (by (repeat (first | exact List.Mem.head _ | refine List.Mem.tail _ ?_)))
    rcases List.mem_cons.mp hp with rfl | hp
    · exact hP (W, ow) (by (repeat (first | exact List.Mem.head _ | refine List.Mem.tail _ ?_)))
    rcases List.mem_cons.mp hp with rfl | hp
    · exact hP (WL, LCg.lst wv) (by (repeat (first | exact List.Mem.head _ | refine List.Mem.tail _ ?_)))
    rcases List.mem_cons.mp hp with rfl | hp
    · exact neN (by (try dsimp only); omega)
    rcases List.mem_cons.mp hp with rfl | hp
    · exact Ne.symm (hDl (PL, lst3 x y z t1 t2 t3 n) (by simp))
    rcases List.mem_cons.mp hp with rfl | hp
    · exact hP (RL, lstk rv kr) (by (repeat (first | exact List.Mem.head _ | refine List.Mem.tail _ ?_)))
    · exact hP p (by simp [hp])
  case fin =>
    rintro m₁ nw h₁ tk₁ hT1 ⟨PL', x', y', z', a1, a2, a3, n', ys, ts, k, rfl, offP, offRP, hx', hy', hz', hmx, hmn, hys, hyt, hcnt, hyl, hmp, hmk, hme, hmd⟩ F₁ N₁
    have hg := grey_all (x := x') (y := y') (z := z') (by omega)
    rw [hmn] at hg
    obtain ⟨g1, g2, g3⟩ := hg
    subst g1 g2 g3
    have hc2 : ∀ j, j < 6 → homeAt j x y z = (ts.count (textOf j) : Int) := fun j hj => by rw [hcnt j hj, homeAt_grey]; omega
    intro tk9 e9 hT9
    clear e9 lF lN
    dsimp only
    have hlen := hys.length
    refine' law_end2 w G rfl hoR hys hyt hri (due_is hc2 ?hdv) ?hyl (tot_six hwz hc2) hmp hmk hme hmd F₁ N₁ hT9 hE ?hQ
    case hdv => assumption
    case hyl => omega
    case hQ => exact fun h tk => hQ h tk
end Mine
end
section
open PySem PySem.W PyProof.Rows PySem.Calls PySem.Flt
namespace Mine
theorem led_bd {k a b c x hi : Int} (hx : 1 ≤ x ∧ x ≤ hi) (hhi : hi ≤ 60) : 0 ≤ x - in3 k a b c ∧ x - in3 k a b c ≤ 60 := by have := in3_01 k a b c; omega
set_option maxRecDepth 100000 in
set_option maxHeartbeats 4000000 in
theorem law_mend (w : World) {mean : ExcName → Option Value} {mg mb : Str → Option Value} {dp un : Nat} {gd : Option (List Code)} {cn : Str} {a : Addr} {ccd : Value} {outer : List Env} {A₀ : Around} {base h₀ : Heap} {L : Addr} {m : Str → Option Value} {s : Shared} {Q : Flow → Shared → Prop} {E : Value → Shared → Prop}
    {st : List Stmt} {R W C RL WL : Addr} {oR ow : Obj} {wv rv : List Value} {rest nw : List (Addr × Obj)} {T : Nat} {hi : Int}
    (G : Gd w A₀ base outer h₀ mean mg mb dp un) (hst : st = lawBody.drop 7)
    (hw : ow.data = .cell (some (.ref WL))) (hr : oR.data = .cell none) (hn : NamesIn w rest wv wheelT) (hwt : ∀ y ∈ wv, TokAt 1 T y) (hri : IntsAre rv rankL) (hrt : ∀ v ∈ rv, TokI 1 T v) (hRr : ∀ p ∈ rest, @Ne Nat p.1 R)
    (hhi : hi ≤ 60) (hJ : St1 T RL ((RL, LCg.lst rv) :: (W, ow) :: (WL, LCg.lst wv) :: (R, oR) :: rest) hi m nw)
    (F : Fr h₀ L s.heap m) (N : News h₀ L s.heap nw) (hT : TokLo T s.toks)
    (hE : PassesOwn (model PG w) (lawA dp un gd cn L a ccd R W C outer) (lawE cn L a ccd R W C) E)
    (hQ : ∀ h tk m', Fr h₀ L h m' → Q (.ret (.bool true)) { s with heap := h, toks := tk }) :
    let A9 := lawA dp un gd cn L a ccd R W C outer
    let e9 := lawE cn L a ccd R W C
    wpAny (model PG w) A9 (execs st e9) Q E s := by
  intro A9 e9
  k_with_none
  k_with "execs cons" => (k_here; (rename TokLo _ _ => hT9); (refine' execs_cons_T (TokLo.any hT9 ?kt) ?_); (case kt => ((try dsimp only); k_dflt (repeat (first | exact Nat.le_refl _ | exact Nat.le_add_right _ _ | refine Nat.le_succ_of_le ?_)))); (try dsimp only))
  k_with "forall" => (intro tk9 e9 hT9; clear e9; (try dsimp only); (try k_fold))
  k_with "eval BinOp" => (k_here; dsimp only; (try k_fold))
  k_with "eval Call" => (k_here; dsimp only; (try k_fold))
  k_with "eval Subscript" => (k_here; dsimp only; (try k_fold))
  k_with "subscriptTail Name Constant ref int" => (k_here; k_dflt (first | ((with_reducible show wpAny _ _ (subscriptTail _ _ (Value.ref _) (Value.int 0 _)) _ _ _); refine' item3_0 ?k1 ?k2 ?_; (case k1 => k_asm); (case k2 => k_mem); (try k_fold)) | ((with_reducible show wpAny _ _ (subscriptTail _ _ (Value.ref _) (Value.int 1 _)) _ _ _); refine' item3_1 ?k1 ?k2 ?_; (case k1 => k_asm); (case k2 => k_mem); (try k_fold)) | ((with_reducible show wpAny _ _ (subscriptTail _ _ (Value.ref _) (Value.int 2 _)) _ _ _); refine' item3_2 ?k1 ?k2 ?_; (case k1 => k_asm); (case k2 => k_mem); (try k_fold))))
  k_with "call ref" => (k_here; (with_reducible show wpAny _ _ (call (Value.ref 35) _) _ _ _); k_dflt (refine' use1 (add_ct _ _ _ _ _ _) ?kT ?kG ?kD ?kF ?kN ?_; (case kF => k_asm); (case kN => k_asm); (case kG => assumption); (case kD => decide); (case kT => ((rename TokLo _ _ => hT9); refine TokLo.any hT9 ?_; ((try dsimp only); k_dflt (repeat (first | exact Nat.le_refl _ | exact Nat.le_add_right _ _ | refine Nat.le_succ_of_le ?_))))); intro t9 h9 tk9 hT9 F9 N9; (try dsimp only); (try k_sweep); (try k_fold)))
  k_with "call ref" => (k_here; (with_reducible show wpAny _ _ (call (Value.ref 49) _) _ _ _); k_dflt (refine' use1 (mul_ct _ _ _ _ _ _ ?q1 ?q2) ?kT ?kG ?kD ?kF ?kN ?_; (case kF => k_asm); (case kN => k_asm); (case kG => assumption); (case kD => decide); (case kT => ((rename TokLo _ _ => hT9); refine TokLo.any hT9 ?_; ((try dsimp only); k_dflt (repeat (first | exact Nat.le_refl _ | exact Nat.le_add_right _ _ | refine Nat.le_succ_of_le ?_))))); (case q1 => omega); (case q2 => omega); intro t9 h9 tk9 hT9 F9 N9; (try dsimp only); (try k_sweep); (try k_fold)))
  k_with "call ref" => (k_here; (with_reducible show wpAny _ _ (call (Value.ref 42) _) _ _ _); k_dflt (refine' useI (modT_ct _ _ _ _) ?kT ?kG ?kD ?kF ?kN ?_; (case kF => k_asm); (case kN => k_asm); (case kG => assumption); (case kD => decide); (case kT => ((rename TokLo _ _ => hT9); refine TokLo.any hT9 ?_; ((try dsimp only); k_dflt (repeat (first | exact Nat.le_refl _ | exact Nat.le_add_right _ _ | refine Nat.le_succ_of_le ?_))))); intro t9 h9 tk9 htr9 hT9 F9 N9; (try dsimp only); (try k_sweep); (try k_fold)))
  k_with "call ref" => (k_here; (with_reducible show wpAny _ _ (call (Value.ref 70) _) _ _ _); k_dflt (refine' useK (idxR_ct _ _ ?n1 ?n2 ?n3 ?n4 ?n5) ?kT ?kG ?kD ?kF ?kN ?_; (case kF => k_asm); (case kN => k_asm); (case kG => assumption); (case kD => decide); (case kT => ((rename TokLo _ _ => hT9); refine TokLo.any hT9 ?_; ((try dsimp only); k_dflt (repeat (first | exact Nat.le_refl _ | exact Nat.le_add_right _ _ | refine Nat.le_succ_of_le ?_))))); (case n1 => assumption); (case n2 => k_mem); (case n3 => assumption); (case n4 => assumption); (case n5 => omega); intro k9 t9 h9 tk9 hk9 hk93 hT9 F9 N9; (try dsimp only); (try k_sweep); (try k_fold)))
  k_with "call ref" => (k_here; (with_reducible show wpAny _ _ (call (Value.ref 221) _) _ _ _); k_dflt (refine' use3 (ledSub_ct _ _ ?q1 ?q2) ?kT ?kG ?kD ?kF ?kN ?_; (case kF => k_asm); (case kN => k_asm); (case kG => assumption); (case kD => decide); (case kT => ((rename TokLo _ _ => hT9); refine TokLo.any hT9 ?_; ((try dsimp only); k_dflt (repeat (first | exact Nat.le_refl _ | exact Nat.le_add_right _ _ | refine Nat.le_succ_of_le ?_))))); (case q1 => k_mem); (case q2 => assumption); intro l9 ta9 tb9 tc9 n9 h9 tk9 hT9 F9 N9 hl9; (try dsimp only); (try k_sweep); (try k_fold)))
  k_with "execs cons" => (k_here; (with_reducible show wpAny _ _ (execs (Stmt.Assign [Expr.Name (Str.ofString "end") _] _ _ :: _) _) _ _ _); with_reducible refine stopped ?_)
  conv at hst => rhs; whnf
  subst hst
  unfold PG at *
  have T₀ := G.t
  have X := G.x
  have hu64 := G.u64
  revert X
  k_fill
  intro X
  obtain ⟨PL, x, y, z, t1, t2, t3, n, tr, rfl, offP, hx, hy, hz, htr, hmp, hmr, hmk⟩ := hJ
  have F₁ := fr_say (fr_say (fr_say F hmp) ((if_neg (by decide)).trans hmr)) ((if_neg (by decide)).trans ((if_neg (by decide)).trans hmk))
  clear F hmp hmr hmk
  have hmod : (x + (2 * y + -3 * z)) % 7 = wt x y z := by unfold wt; congr 1; omega
  have hwb := wt_bd x y z
  have hTs := hT
  clear hT
  have htk : TokI T (tr + 1) (.int (wt x y z) tr) := fun b t e => by
    injection e with _ e
    subst e
    exact ⟨htr, Nat.lt_succ_self _⟩
  by_cases h0 : wt x y z = 0
  · rw [h0] at hmod F₁ htk
    k_steps
    · exact absurd hmod (by assumption)
    refine Stopped.of ?_
    (rename Fr _ _ _ _ => lF); (rename News _ _ _ _ => lN)
    (rename TokLo _ _ => hT9)
    refine' law_road w G rfl hw hr hn hwt hri hRr offP (by omega) (by omega) (by omega) h0 ?hmp ?hmk ?hF ?hN ?kT hE ?hQ
    case hF => exact lF
    case hN => exact lN
    case hmp => rfl
    case hmk => rfl
    case kT => exact TokLo.any hT9 (by (try dsimp only); k_dflt (repeat (first | exact Nat.le_refl _ | exact Nat.le_add_right _ _ | refine Nat.le_succ_of_le ?_)))
    case hQ => exact fun h tk => hQ h tk
  · k_steps
    · exact absurd hmod (by assumption)
    refine Stopped.of ?_
    (rename Fr _ _ _ _ => lF); (rename News _ _ _ _ => lN)
    (rename TokLo _ _ => hT9); (rename rankL.getD _ 0 = _ => hk93); (rename ∀ q ∈ _, @Ne Nat _ _ => hPl)
    have hm := wt_mend (by omega) hk93
    refine' law_road w G rfl hw hr hn hwt hri hRr ?hP ?hx ?hy ?hz hm ?hmp ?hmk ?hF ?hN ?kT hE ?hQ
    case hF => exact lF
    case hmp => rfl
    case hmk => rfl
    case hN =>
      intro p hp
      rcases List.mem_cons.mp hp with rfl | hp
      · exact lN _ (.head _)
      · exact lN _ (.tail _ (.tail _ hp))
    case hP => exact fun p hp => hPl p (.tail _ hp)
    case hx => exact led_bd hx hhi
    case hy => exact led_bd hy hhi
    case hz => exact led_bd hz hhi
    case kT => exact TokLo.any hT9 (by (try dsimp only); k_dflt (repeat (first | exact Nat.le_refl _ | exact Nat.le_add_right _ _ | refine Nat.le_succ_of_le ?_)))
    case hQ => exact fun h tk => hQ h tk
    exact absurd (by assumption) h0
end Mine
end
section
open PySem PySem.W PyProof.Rows PySem.Calls PySem.Flt
namespace Mine
theorem st1_intro {T : Nat} {RL PL : Addr} {base : List (Addr × Obj)} {hi x y z r : Int} {m : Str → Option Value} {t1 t2 t3 tr : Tok} {n : Nat} (offP : ∀ p ∈ base, @Ne Nat p.1 PL) (hx : 1 ≤ x ∧ x ≤ hi) (hy : 1 ≤ y ∧ y ≤ hi) (hz : 1 ≤ z ∧ z ≤ hi) (htr : @LE.le Nat _ T tr)
    (hmp : m (Str.ofString "place") = some (.ref PL)) (hmr : m (Str.ofString "rest") = some (.int r tr)) (hw : r = wt x y z) (hmk : m (Str.ofString "ranks") = some (.ref RL)) : St1 T RL base hi m ((PL, lst3 x y z t1 t2 t3 n) :: base) :=
  ⟨PL, x, y, z, t1, t2, t3, n, tr, rfl, offP, hx, hy, hz, htr, hmp, hw ▸ hmr, hmk⟩
theorem fm40 (x : Int) : 0 ≤ x.fmod 40 ∧ x.fmod 40 < 40 := by rw [Int.fmod_eq_emod_of_nonneg _ (by decide)]; omega
theorem place_bd (a b : Int) : 1 ≤ a.fmod 40 + 1 + b.fmod 8 ∧ a.fmod 40 + 1 + b.fmod 8 ≤ 47 := by have := fm40 a; have := fm8 b; omega
theorem rest_is (v a b c : Int) : (a.fmod 8 + 2 * b.fmod 8 + 4 * c.fmod 8).fmod 7 = wt (v.fmod 40 + 1 + a.fmod 8) (v.fmod 40 + 1 + b.fmod 8) (v.fmod 40 + 1 + c.fmod 8) := by
  unfold wt
  rw [Int.fmod_eq_emod_of_nonneg _ (show (0 : Int) ≤ 7 by decide)]
  omega
theorem mem6 {α : Type} {a b c d e f : α} {rest led : List α} (ha : a ∈ led) (hb : b ∈ led) (hc : c ∈ led) (hd : d ∈ led) (he : e ∈ led) (hf : f ∈ led) (hr : ∀ p ∈ rest, p ∈ led) : ∀ p ∈ a :: b :: c :: d :: e :: f :: rest, p ∈ led := fun p hp => by
  rcases List.mem_cons.mp hp with rfl | hp
  · exact ha
  rcases List.mem_cons.mp hp with rfl | hp
  · exact hb
  rcases List.mem_cons.mp hp with rfl | hp
  · exact hc
  rcases List.mem_cons.mp hp with rfl | hp
  · exact hd
  rcases List.mem_cons.mp hp with rfl | hp
  · exact he
  rcases List.mem_cons.mp hp with rfl | hp
  · exact hf
  · exact hr p hp
theorem off_of {X D RL W WL CC R C SL : Addr} {o1 o2 o3 o4 o5 : Obj} {rest : List (Addr × Obj)} (ho : (@Ne Nat X D) ∧ (@Ne Nat RL D) ∧ (@Ne Nat W D) ∧ (@Ne Nat WL D) ∧ (@Ne Nat CC D) ∧ (@Ne Nat R D) ∧ (@Ne Nat C D) ∧ LCg.Off1 D rest) (hs : @Ne Nat SL D) :
    ∀ p ∈ (RL, o1) :: (W, o2) :: (WL, o3) :: (R, o4) :: (SL, o5) :: rest, @Ne Nat p.1 D := fun p hp => by
  obtain ⟨_, h1, h2, h3, _, h4, _, h6⟩ := ho
  rcases List.mem_cons.mp hp with rfl | hp
  · exact h1
  rcases List.mem_cons.mp hp with rfl | hp
  · exact h2
  rcases List.mem_cons.mp hp with rfl | hp
  · exact h3
  rcases List.mem_cons.mp hp with rfl | hp
  · exact h4
  rcases List.mem_cons.mp hp with rfl | hp
  · exact hs
  · exact off1 (o := default) h6 p hp _ (.head _)
set_option maxRecDepth 100000 in
set_option maxHeartbeats 4000000 in
theorem law_start (w : World) {mean : ExcName → Option Value} {mg mb : Str → Option Value} {dp un : Nat} {gd : Option (List Code)} {cn : Str} {a : Addr} {ccd : Value} {outer : List Env} {A₀ : Around} {base h₀ : Heap} {L : Addr} {m : Str → Option Value} {s : Shared} {Q : Flow → Shared → Prop} {E : Value → Shared → Prop}
    {st : List Stmt} {R W C RL WL CC : Addr} {oR ow oc lo : Obj} {wv rv : List Value} {its : Array Value} {nn : Nat} {c12 : List Int} {rest : List (Addr × Obj)} {T : Nat}
    (G : Gd w A₀ base outer h₀ mean mg mb dp un) (hst : st = lawBody.drop 3)
    (hw : ow.data = .cell (some (.ref WL))) (hr : oR.data = .cell none) (hoc : oc.data = .cell (some (.ref CC))) (hn : NamesIn w rest wv wheelT) (hwt : ∀ y ∈ wv, TokAt 1 T y) (hri : IntsAre rv rankL) (hrt : ∀ v ∈ rv, TokI 1 T v) (hRr : ∀ p ∈ rest, @Ne Nat p.1 R)
    (hlc : lo.cls = .type "list") (hld : lo.data = .seq its nn) (hia : IntsAre its.toList c12) (hlen : c12.length = 12) (hbd : ∀ c ∈ c12, 0 ≤ c ∧ c < 120)
    (hmk : m (Str.ofString "ranks") = some (.ref RL))
    (F : Fr h₀ L s.heap m) (N : News h₀ L s.heap ((RL, LCg.lst rv) :: (W, ow) :: (WL, LCg.lst wv) :: (CC, lo) :: (R, oR) :: (C, oc) :: rest)) (hT : TokLo T s.toks)
    (hE : PassesOwn (model PG w) (lawA dp un gd cn L a ccd R W C outer) (lawE cn L a ccd R W C) E)
    (hQ : ∀ h tk m', Fr h₀ L h m' → Q (.ret (.bool true)) { s with heap := h, toks := tk }) :
    let A9 := lawA dp un gd cn L a ccd R W C outer
    let e9 := lawE cn L a ccd R W C
    wpAny (model PG w) A9 (execs st e9) Q E s := by
  intro A9 e9
  k_with_none
  k_with "execs cons" => (k_here; (rename TokLo _ _ => hT9); (refine' execs_cons_T (TokLo.any hT9 ?kt) ?_); (case kt => ((try dsimp only); k_dflt (repeat (first | exact Nat.le_refl _ | exact Nat.le_add_right _ _ | refine Nat.le_succ_of_le ?_)))); (try dsimp only))
  k_with "forall" => (intro tk9 e9 hT9; clear e9; (try dsimp only); (try k_fold))
  k_with "eval BinOp" => (k_here; dsimp only; (try k_fold))
  k_with "eval Call" => (k_here; dsimp only; (try k_fold))
  k_with "eval Subscript" => (k_here; dsimp only; (try k_fold))
  k_with "exec For" => (k_here; k_dflt (refine' For_startT ?kT ?_; (case kT => ((rename TokLo _ _ => hT9); refine TokLo.any hT9 ?_; ((try dsimp only); k_dflt (repeat (first | exact Nat.le_refl _ | exact Nat.le_add_right _ _ | refine Nat.le_succ_of_le ?_))))); (try dsimp only)))
  k_with "exec For Name Call cons nil" => (k_here; k_dflt (refine' For_startT ?kT ?_; (case kT => ((rename TokLo _ _ => hT9); refine TokLo.any hT9 ?_; ((try dsimp only); k_dflt (repeat (first | exact Nat.le_refl _ | exact Nat.le_add_right _ _ | refine Nat.le_succ_of_le ?_))))); (try dsimp only)))
  k_with "exec For Name Subscript cons nil" => (k_here; k_dflt (refine' For_startT ?kT ?_; (case kT => ((rename TokLo _ _ => hT9); refine TokLo.any hT9 ?_; ((try dsimp only); k_dflt (repeat (first | exact Nat.le_refl _ | exact Nat.le_add_right _ _ | refine Nat.le_succ_of_le ?_))))); (try dsimp only)))
  k_with "exec Assign cons ListComp" => (k_here; lcg_look; lcg_calm; k_dflt (refine LCg.Assign_ListComp_U (F₀ := by k_asm) (by rfl) (by with_unfolding_all rfl) (by rfl) (by decide) (by rfl) (by decide) (by rfl) (by rfl) (by rfl) ?_); k_dflt lcg_toSrc)
  k_with "subscriptTail Name Constant ref int" => (k_here; (with_reducible show wpAny _ _ (subscriptTail (Expr.Name _ _) _ (Value.ref _) (Value.int _ _)) _ _ _); k_dflt (refine' item_led ?k1 ?k2 ?k3 ?k4 ?k5 ?k6 ?k7 ?k8 ?_; (case k1 => k_asm); (case k2 => k_mem); (case k3 => assumption); (case k4 => assumption); (case k5 => assumption); (case k6 => assumption); (case k7 => decide); (case k8 => decide); intro t9; (try k_fold)))
  k_with "subscriptTail Name BinOp ref int" => (k_here; (with_reducible show wpAny _ _ (subscriptTail (Expr.Name _ _) _ (Value.ref _) (Value.int _ _)) _ _ _); k_dflt (refine' item_led ?k1 ?k2 ?k3 ?k4 ?k5 ?k6 ?k7 ?k8 ?_; (case k1 => k_asm); (case k2 => k_mem); (case k3 => assumption); (case k4 => assumption); (case k5 => assumption); (case k6 => assumption); (case k7 => decide); (case k8 => decide); intro t9; (try k_fold)))
  k_with "subscriptTail Name Slice ref ref" => (k_here; k_dflt (refine' slice8 ?k1 ?k2 ?k3 ?k4 ?k5 ?k6 ?k7 ?k8 ?_; (case k1 => k_asm); (case k2 => k_asm); (case k3 => k_mem); (case k4 => assumption); (case k5 => assumption); (case k6 => assumption); (case k7 => assumption); (case k8 => assumption); intro h9 l9 vs9 ns9 ia9 len9 bd9 off9 F9 N9; (try dsimp only); (try k_fold)))
  k_with "CompSrc" => (k_here; k_dflt (refine LCg.CompSrc.range (by rfl) (by k_asm) (by k_asm) (by assumption) (by first | decide | rfl) (by first | rfl | decide) (by first | size_fits | exact Nat.le_of_ble_eq_true rfl) ?_; intro g'; lcg_lit))
  k_with "CompEnd" => ((rename News _ _ _ _ => lN'); k_dflt (refine compEnd_tail (by assumption) lN' (by assumption) (by lcg_src) ?_))
  k_with "compareOp NotEq ref ref" => (k_here; k_dflt (refine' ne_led ?k1 ?k2 ?k3 ?k4 ?k5 ?k6 ?k7 ?_; (case k1 => k_asm); (case k2 => k_mem); (case k3 => k_mem); (case k4 => assumption); (case k5 => exact .cons _ _ (.cons _ _ (.cons _ _ (.cons _ _ (.cons _ _ (.cons _ _ .nil)))))); (case k6 => assumption); (case k7 => first | rfl | decide | decide +kernel); (try dsimp only); (try k_fold)))
  conv at hst => rhs; whnf
  subst hst
  unfold PG at *
  have T₀ := G.t
  have X := G.x
  have hu64 := G.u64
  revert X
  k_fill
  intro X
  have F₁ := fr_say F hmk
  clear F hmk
  have hTs := hT
  clear hT
  k_steps
  intro hTc
  (rename Fr _ _ _ _ => lF); (rename News _ _ _ _ => lN)
  (rename (_ ≠ _) ∧ (_ ≠ _) ∧ (_ ≠ _) ∧ (_ ≠ _) ∧ (_ ≠ _) ∧ (_ ≠ _) ∧ (_ ≠ _) ∧ LCg.Off1 _ _ => ho)
  (rename ∀ p : Addr × Obj, p ∈ _ → @Ne Nat p.1 _ => hoS)
  refine' loop_prog w (rest := (R, oR) :: (_, lstk _ 0) :: rest) G rfl hw (NamesIn.mono ?hnm hn) hwt hri (.tail _ (.head _)) ?hsv ?hsl (st1_intro ?offP ?hx ?hy ?hz ?htr ?hmp ?hmr ?hwt2 ?hmk) ?hF ?hN ?hsub hTc hE ?fin
  case hF => exact lF
  case hN => exact lN
  case hmp => rfl
  case hmr => rfl
  case hmk => rfl
  case hsub => exact mem6 (by k_mem) (by k_mem) (by k_mem) (by k_mem) (by k_mem) (by k_mem) (fun p hp => by repeat (first | exact hp | refine List.mem_cons_of_mem _ ?_))
  case hnm => exact fun p hp => .tail _ (.tail _ hp)
  case hsv => assumption
  case hsl => assumption
  case hx => exact place_bd _ _
  case hy => exact place_bd _ _
  case hz => exact place_bd _ _
  case hwt2 => exact rest_is _ _ _ _
  case offP => exact off_of ho (Ne.symm (hoS _ (.head _)))
  case htr => (try dsimp only); (simp only [TokLo] at *); omega
  case fin =>
    intro m₁ nw h₁ tk₁ hT1 hJ1 F₁ N₁ tk9 e9 hT9
    clear e9 lF lN
    dsimp only
    refine' law_mend w (hi := 55) G rfl hw hr (NamesIn.mono ?hnm2 hn) hwt hri hrt ?hRr (by omega) hJ1 F₁ N₁ hT9 hE ?hQ
    case hnm2 => exact fun p hp => .tail _ hp
    case hQ => exact fun h tk => hQ h tk
    case hRr =>
      intro p hp
      rcases List.mem_cons.mp hp with rfl | hp
      · exact Ne.symm (hoS (R, oR) (by k_mem))
      · exact hRr p hp
end Mine
end
section
open PySem PySem.W PyProof.Rows PySem.Calls PySem.Flt
namespace Mine
theorem ctx_use {w : World} {D : Nat} {f : Addr} {news : List (Addr × Obj)} {Pre : Heap → Prop} {vs : List Value} {Post : Value → List (Addr × Obj) → Prop}
    {mean : ExcName → Option Value} {mg mb : Str → Option Value} {dp un : Nat} {gd : Option (List Code)} {cn : Str} {a : Addr} {ccd : Value} {cl : List (Str × Addr)} {outer : List Env} {A₀ : Around} {base h₀ : Heap} {L : Addr} {m : Str → Option Value} {s : Shared} {Q E : Value → Shared → Prop}
    (C : CtX w D f news Pre vs Post) (P : Pre h₀) (B : Below A₀ base outer h₀) (F : Fr h₀ L s.heap m) (X : (hd.heap_39 w.params).In h₀) (N : News h₀ L s.heap news) (T : TopM mean mg mb h₀) (hk : cs.kind = .function) (hdp : dp + D < recursionLimit) (hun : un + 8 * D < cLine)
    (ret : ∀ r tl h' tk', Fr h₀ L h' m → News h₀ L h' (tl ++ news) → (∀ q ∈ news, ∀ p ∈ tl, @Ne Nat q.1 p.1) → Post r tl → Q r { s with heap := h', toks := tk' }) :
    wpAny (model PG w) (ktrTop dp un gd cn cs L a ccd cl outer) (call (.ref f) vs) Q E s := C mean mg mb dp un gd cn cs a ccd cl outer A₀ base h₀ L m s Q E P B F X N T hk hdp hun ret
/-- the rank of a text on the wheel -/
noncomputable def rankOf (t : Str) : Int := 1 + ((((List.range 6).map textOf).map fun o => if ltS o t = true then (1 : Int) else 0).foldl (· + ·) 0)
theorem rank_eq {t : Str} : 1 + ((((List.range 6).map textOf).take 6).map fun o => if ltS o t = true then (1 : Int) else 0).sum = rankOf t := by
  unfold rankOf
  rw [show ((List.range 6).map textOf).take 6 = (List.range 6).map textOf from rfl, List.sum_eq_foldl]
set_option maxRecDepth 100000 in
set_option maxHeartbeats 4000000 in
theorem law_all (w : World) {mean : ExcName → Option Value} {mg mb : Str → Option Value} {dp un : Nat} {gd : Option (List Code)} {cn : Str} {a : Addr} {ccd : Value} {outer : List Env} {A₀ : Around} {base h₀ : Heap} {L : Addr} {m : Str → Option Value} {s : Shared} {Q : Flow → Shared → Prop} {E : Value → Shared → Prop}
    {st : List Stmt} {R W C sc : Addr} {c1 c2 c3 : Obj} {vs : List Value} {ns : List Int}
    (G : Gd w A₀ base outer h₀ mean mg mb dp un) (hst : st = lawBody)
    (hsc : h₀.IsList sc vs.toArray) (hsi : IntsAre vs ns) (hsn : ns.length ≤ 63) (hms : m (Str.ofString "script") = some (.ref sc))
    (d1 : c1.data = .cell none) (d2 : c2.data = .cell none) (d3 : c3.data = .cell none) (hRW : @Ne Nat R W) (hRC : @Ne Nat R C) (hWC : @Ne Nat W C)
    (F : Fr h₀ L s.heap m) (N : News h₀ L s.heap [(R, c3), (W, c2), (C, c1)])
    (hE : PassesOwn (model PG w) (lawA dp un gd cn L a ccd R W C outer) (lawE cn L a ccd R W C) E)
    (hQ : ∀ h tk m', Fr h₀ L h m' → Q (.ret (.bool true)) { s with heap := h, toks := tk }) :
    let A9 := lawA dp un gd cn L a ccd R W C outer
    let e9 := lawE cn L a ccd R W C
    wpAny (model PG w) A9 (execs st e9) Q E s := by
  intro A9 e9
  k_with_none
  k_with "execs cons" => (k_here; (rename TokLo _ _ => hT9); (refine' execs_cons_T (TokLo.any hT9 ?kt) ?_); (case kt => ((try dsimp only); k_dflt (repeat (first | exact Nat.le_refl _ | exact Nat.le_add_right _ _ | refine Nat.le_succ_of_le ?_)))); (try dsimp only))
  k_with "forall" => (intro tk9 e9 hT9; clear e9; (try dsimp only); (try k_fold))
  k_with "call ref" => (k_here; (with_reducible show wpAny _ _ (call (Value.ref 197) _) _ _ _); with_reducible refine stopped ?_)
  k_with "eval ListComp" => (k_here; (with_reducible show wpAny _ _ (eval (Expr.ListComp (Expr.Call _ _ _ _) _ _ _) _) _ _ _); k_dflt (refine Comp_start _ (by with_unfolding_all rfl) (by rfl) (by decide) ?_))
  k_with "exec Assign cons ListComp" => (k_here; (with_reducible show wpAny _ _ (exec (Stmt.Assign [Expr.Name (Str.ofString "ranks") _] (Expr.ListComp _ _ _ _) _) _) _ _ _); k_dflt (refine Comp_assign _ (by with_unfolding_all rfl) (by with_unfolding_all rfl) (by rfl) (by decide) ?_))
  k_with "call ref" => (k_here; (with_reducible show wpAny _ _ (call (Value.ref 204) _) _ _ _); k_dflt (refine' cst_use (nt _ _ _ _ _ ?q1 ?q2) ?k1 ?k2 ?k3 ?k4 ?k5 ?k6 ?k7 ?k8 ?_; (case q1 => omega); (case q2 => assumption); (case k1 => k_asm); (case k2 => k_asm); (case k3 => k_asm); (case k4 => k_asm); (case k5 => k_asm); (case k6 => first | exact rfl | assumption); (case k7 => ktr_room); (case k8 => ktr_units); intro r9 tl9 h9 tk9 F9 N9 hl9 hp9 ht9; (try dsimp only); (try k_fold)))
  k_with "call ref" => (k_here; (with_reducible show wpAny _ _ (call (Value.ref 21) _) _ _ _); k_dflt (refine' ct_use (lt_ct _ _ _ _ _ _ ?q1 ?q2) ?k1 ?k2 ?k3 ?k4 ?k5 ?k6 ?k7 ?k8 ?_; (case q1 => assumption); (case q2 => assumption); (case k1 => k_asm); (case k2 => k_asm); (case k3 => k_asm); (case k4 => k_asm); (case k5 => k_asm); (case k6 => first | exact rfl | assumption); (case k7 => ktr_room); (case k8 => ktr_units); intro r9 tl9 h9 tk9 F9 N9 hl9 hp9; obtain ⟨e9, e9'⟩ := hp9; subst e9; subst e9'; (try simp only [List.nil_append] at N9); clear hl9; (try dsimp only); (try k_sweep); (try k_fold)))
  k_with "call builtin:sum" => (k_here; k_dflt (refine' sum_T 1 ?q0 ?k1 ?k2 ?q1 ?q2 ?_; (case q0 => assumption); (case k1 => k_asm); (case k2 => k_asm); (case q1 => rfl); (case q2 => assumption); intro h9 tk9 t9 hT9 F9 N9; (try dsimp only); (try k_fold)))
  conv at hst => rhs; whnf
  subst hst
  unfold PG at *
  have T₀ := G.t
  have X := G.x
  have B := G.b
  have hdp := G.d
  have hun := G.u
  revert X
  k_fill
  intro X
  have F₁ := fr_say F hms
  clear F hms
  have hT0 : TokLo 0 s.toks := Nat.zero_le _
  k_steps
  refine Stopped.of ?_
  k_dflt (refine' ctx_use (cells_ct w _ _ _ _ ?q1 ?q2) ?q3 ?k1 ?k2 ?k3 ?k4 ?k5 ?k6 ?k7 ?k8 ?_; (case q1 => assumption); (case q2 => omega); (case q3 => assumption); (case k1 => k_asm); (case k2 => k_asm); (case k3 => k_asm); (case k4 => k_asm); (case k5 => k_asm); (case k6 => first | exact rfl | assumption); (case k7 => ktr_room); (case k8 => ktr_units))
  intro r9 tl9 h9 tk9 F9 N9 hl9 hp9
  obtain ⟨CC, lo, its, nn, c12, rfl, rfl, hc, hdt, hia, hlen, hbd⟩ := hp9
  simp only [List.singleton_append] at N9
  replace hl9 := neOf hl9
  simp only [NeOf] at hl9
  clear N
  try dsimp only
  k_steps
  (rename IsRange _ _ _ _ _ _ _ _ => rgX); (rename Fr _ _ _ _ => lF); (rename News _ _ _ _ => lN)
  rename Obj => oc
  rename Obj.data _ = Data.cell (some _) => dc
  refine CompIn.range (T := 0) (n := 6) (fun i ys nw tk => ∃ pre, nw = pre ++ [(CC, lo), (R, c3), (W, c2), (C, oc)] ∧ (∀ p ∈ pre, ∀ q ∈ [(CC, lo), (R, c3), (W, c2), (C, oc)], @Ne Nat p.1 q.1) ∧ NamesIn w pre ys ((List.range i).map textOf) ∧ ∀ y ∈ ys, TokAt 1 tk y) (by rfl) lF lN rgX (by decide +kernel) (by decide +kernel) (by decide) ?wmono (by decide) (by rfl) (by decide) (Nat.zero_le _) ⟨[], rfl, (fun p hp => nomatch hp), trivial, fun y hy => nomatch hy⟩ ?wturn (EndT.value ?wfin)
  · rintro i ys nw tk tk' ⟨pre, e, ho, hn, ht⟩ hle
    exact ⟨pre, e, ho, hn, fun y hy => (ht y hy).widen (Nat.le_refl _) hle⟩
  · rintro i t ys m₂ nw h₁ tk₁ I oI C2 oC D E' hi hT ⟨pre, rfl, ho, hn, ht⟩ hl hN hv off o1 o2 o3 F₁ N₁
    have h3 := fm3 (0 + (i : Int))
    clear lF lN rgX
    k_steps
    (rename NamePost _ _ _ _ => hp9); (rename TokAt _ _ _ => ht9); (rename Fr _ _ _ _ => F9); (rename News _ _ _ _ => N9); (rename ∀ q ∈ _, ∀ p ∈ _, _ => hl9)
    have e0 : (0 + (i : Int)).toNat = i := by omega
    rw [e0] at hp9
    simp only [List.range_succ, List.map_append, List.map_cons, List.map_nil]
    exact elt_name F9 N9 hl9 off ho hn ht hp9 ht9 (Nat.le_add_left _ _)
  clear lF lN rgX
  rintro WL wv nw h₁ tk₁ - ⟨pre, rfl, ho, hn, ht⟩ hl off F₁ N₁
  have hWL : ∀ q ∈ [(CC, lo), (R, c3), (W, c2), (C, oc)], @Ne Nat q.1 WL := fun q hq => off q (List.mem_append_right _ hq)
  k_dflt (refine' storeC ((WL, LCg.lst wv) :: (CC, lo) :: (R, c3) :: (C, oc) :: pre) F₁ N₁ ?c ?m ?d ?sub ?_ ?z1 ?z2; (case z1 => rfl); (case z2 => rfl); (case c => rfl); (case m => exact .tail _ (List.mem_append_right _ (.tail _ (.tail _ (.head _))))); (case d => exact d2))
  · intro p hp
    rcases List.mem_cons.mp hp with rfl | hp
    · exact ⟨.head _, Ne.symm (hWL _ (.tail _ (.tail _ (.head _))))⟩
    rcases List.mem_cons.mp hp with rfl | hp
    · exact ⟨.tail _ (List.mem_append_right _ (.head _)), Ne.symm hl9.2.1⟩
    rcases List.mem_cons.mp hp with rfl | hp
    · exact ⟨.tail _ (List.mem_append_right _ (.tail _ (.head _))), hRW⟩
    rcases List.mem_cons.mp hp with rfl | hp
    · exact ⟨.tail _ (List.mem_append_right _ (.tail _ (.tail _ (.tail _ (.head _))))), Ne.symm hWC⟩
    · exact ⟨.tail _ (List.mem_append_left _ hp), ho p hp _ (.tail _ (.tail _ (.head _)))⟩
  intro h2 ow F2 dw N2
  clear F₁ N₁
  intro tk9 e9 hT9
  dsimp only at e9
  subst e9
  clear hT9
  have hT9 := TokLo.refl tk₁
  try dsimp only
  k_steps
  (rename Fr _ _ _ _ => lF); (rename News _ _ _ _ => lN)
  refine CompInC.list (T := tk₁) (fun i ys nw tk => nw = (W, ow) :: (WL, LCg.lst wv) :: (CC, lo) :: (R, c3) :: (C, oc) :: pre ∧ IntsAre ys ((((List.range 6).map textOf).take i).map rankOf) ∧ ∀ y ∈ ys, TokI 1 tk y) (by rfl) lF lN (.tail _ (.head _)) rfl rfl (by rw [List.size_toArray, hl]; decide) ?rkeep ?rmono (fun n acc => rfl) (fun h => rfl) (by rfl) (fun K C => rfl) ?rlo ⟨rfl, .nil, fun y hy => nomatch hy⟩ ?rturn (EndT.assign rfl ?rmono2 ?ry ?rp ?rfin)
  case rlo => (try dsimp only); (simp only [TokLo] at *); omega
  case rkeep => rintro i ys nw tk ⟨rfl, _⟩; exact .tail _ (.head _)
  case rmono =>
    rintro i ys nw tk tk' ⟨e, hi, ht⟩ hle
    exact ⟨e, hi, fun y hy a t q => ⟨(ht y hy a t q).1, Nat.lt_of_lt_of_le (ht y hy a t q).2 hle⟩⟩
  case rturn =>
    rintro i v ys nw h₃ tk₃ I oI C2 oC K oK D E' hv hT ⟨rfl, hi, hti⟩ hyl hoK off4 hne F₃ N₃
    clear lF lN
    k_steps
    (rename Fr _ _ _ _ => lF); (rename News _ _ _ _ => lN)
    obtain ⟨t, ht1, htn⟩ := hn.get (by simpa using hv)
    refine CompIn.list (T := 1) (fun j zs nw tk => nw = (I, oI) :: (C2, oC) :: (K, oK) :: (D, LCg.lst ys) :: (W, ow) :: (WL, LCg.lst wv) :: (CC, lo) :: (R, c3) :: (C, oc) :: pre ∧ IntsAre zs ((((List.range 6).map textOf).take j).map fun o => if ltS o t = true then (1 : Int) else 0)) (by rfl) lF lN (.tail _ (.tail _ (.tail _ (.tail _ (.tail _ (.head _)))))) rfl rfl (by rw [List.size_toArray, hl]; decide) ?ikeep ?imono (by decide) (by rfl) (by decide) (Nat.le_add_left _ _) ⟨rfl, .nil⟩ ?iturn (EndT.value ?ifin)
    case ikeep => rintro i ys nw tk ⟨rfl, _⟩; exact (.tail _ (.tail _ (.tail _ (.tail _ (.tail _ (.head _))))))
    case imono => rintro i ys nw tk tk' ⟨e, hi⟩ hle; exact ⟨e, hi⟩
    case iturn =>
      rintro j v2 zs m₂ nw h₄ tk₄ I2 oI2 C3 oC2 D2 E2 hv2 hT2 ⟨rfl, hi2⟩ hyl2 hN2 hvx off2 o21 o22 o23 F₄ N₄
      clear lF lN
      obtain ⟨t2, ht2, htn2⟩ := hn.get (by simpa using hv2)
      have n1 := htn2.mono (b := (I2, oI2) :: (C3, oC2) :: (D2, LCg.lst zs) :: (I, oI) :: (C2, oC) :: (K, oK) :: (D, LCg.lst ys) :: (W, ow) :: (WL, LCg.lst wv) :: (CC, lo) :: (R, c3) :: (C, oc) :: pre) fun p hp => by repeat (first | exact hp | refine List.mem_cons_of_mem _ ?_)
      have n2 := htn.mono (b := (I2, oI2) :: (C3, oC2) :: (D2, LCg.lst zs) :: (I, oI) :: (C2, oC) :: (K, oK) :: (D, LCg.lst ys) :: (W, ow) :: (WL, LCg.lst wv) :: (CC, lo) :: (R, c3) :: (C, oc) :: pre) fun p hp => by repeat (first | exact hp | refine List.mem_cons_of_mem _ ?_)
      k_steps
      (rename Fr _ _ _ _ => lF); (rename News _ _ _ _ => lN)
      refine elt_keep lF lN (off3 off2) fun _ => ⟨rfl, ints_snoc hi2 ht2 ?_⟩
      first | rfl | (cases ltS t2 t <;> rfl)
    case ifin =>
      rintro SL zs nw h₄ tk₄ hT2 ⟨rfl, hi2⟩ hzl offS F₄ N₄
      clear lF lN
      try dsimp only
      k_steps
      (rename Fr _ _ _ _ => lF); (rename News _ _ _ _ => lN); (rename TokLo 1 _ => hT9)
      refine elt_keep lF lN (off4l off4) fun hle => ⟨rfl, ints_snoc hi ht1 ?_, snoc_tokI (fun y hy => (hti y hy).widen (Nat.le_refl _) hle) (tokI_made hT9)⟩
      rw [show wv.toArray.size = 6 by simpa using hl]
      exact rank_eq
  case ry => rfl
  case rp => rfl
  case rmono2 =>
    rintro ys nw tk tk' ⟨e, hi, ht⟩ hle
    exact ⟨e, hi, fun y hy a t q => ⟨(ht y hy a t q).1, Nat.lt_of_lt_of_le (ht y hy a t q).2 hle⟩⟩
  case rfin =>
    rintro RL rv nw h₅ T hT5 ⟨rfl, hri, hrt⟩ hrl offR F₅ N₅
    clear lF lN
    have hri' : IntsAre rv rankL := by
      have e : ((((List.range 6).map textOf).take wv.toArray.size).map rankOf) = rankL := by
        rw [show wv.toArray.size = 6 by simpa using hl]
        decide +kernel
      rw [e] at hri
      exact hri
    intro tk9 e9 hT9
    dsimp only at e9
    subst e9
    try dsimp only
    refine' law_start w G rfl dw d3 dc hn (fun y hy => (ht y hy).widen (Nat.le_refl _) hT5) hri' hrt ?hRr hc hdt hia hlen hbd ?hmk F₅ N₅ (Nat.le_refl _) hE ?hQ
    case hmk => rfl
    case hQ => exact fun h tk => hQ h tk
    case hRr => exact fun p hp => ho p hp _ (.tail _ (.head _))
end Mine
end
section
open PySem PySem.W PyProof.Rows PySem.Calls PySem.Flt
namespace Mine
set_option maxRecDepth 100000 in
set_option maxHeartbeats 8000000 in
theorem main : PySem.Challenge.rw_wu0061_01.Holds := by
  w_on
  refine holds_law said_ok fun said => ?_
  refine holds_open (q := hd.view_39) (loose := looseL) (Xt := fun s => xlAt hd.view_39 valsL s && recOk (RowW.records PySem.Challenge.rw_wu0061_01.row.toRowW) s) (XP := XL hd.view_39 valsL) (Yf := Hook.obs hookK) (Ya := Hook.val hookK) (YP := Hook.says hookK) (N := 2556) left_ok (Hook.of hookK) (Hook.keeps hookK) (fun s e => xl_of s (Bool.and_eq_true_iff.mp e).1) XL.keeps (by rfl) (by rfl) (by rfl) (fun s e => recFacts_of (Bool.and_eq_true_iff.mp e).2) (by rfl) said (by decide +kernel) ⟨rfl, rfl, rfl, rfl, rfl, by decide +kernel⟩ ?hw ?hc
  case hw => w_witness2
  clear said
  k_with_none
  unfold hookK
  k_go0
  k_fold
  rename_i c3 c2 c1 d3 d2 d1 N0 X0
  rename World => w
  rename Fr _ _ _ _ => F0
  rename Heap.IsList _ _ _ => hL
  rename IntsAre _ _ => hI
  rename Below _ _ _ _ => K0
  rename Top _ _ _ _ _ _ => T0
  rename Frag.In _ _ => KX
  refine' law_all w ⟨K0, KX, T0, ?hdp, ?hun⟩ ?hst hL hI ?hsn ?hms d1 d2 d3 ?hRW ?hRC ?hWC F0 N0 ?hE ?hQ
  case hst => rfl
  case hdp => decide
  case hun => decide
  case hsn => omega
  case hms => rfl
  case hRW => exact neN (by omega)
  case hRC => exact neN (by omega)
  case hWC => exact neN (by omega)
  case hE => passes_own
  case hQ =>
    intro h tk m' F'
    k_unfold
    try dsimp only
    first | exact goodW_bool F' (by assumption) (fun _ => rfl) rfl | exact goodW_bool F' (by assumption) (fun _ => by decide) (by decide) | wrow_close
end Mine
end
open PySem PySem.W PyProof.Rows
theorem PySem.Challenge.cw_wu0061_01_holds : PySem.Challenge.rw_wu0061_01.Holds := by
  exact Mine.main
