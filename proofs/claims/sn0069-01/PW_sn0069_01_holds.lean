import PyProof.Rows.All
import Wide.All
import OpenK.AllK
import Wide.FinOn
import PySem.Challenge.RW_sn0069_01
open PySem PySem.W PyProof.Rows PySem.Calls
set_option Elab.async false
set_option maxRecDepth 100000
set_option maxHeartbeats 8000000
namespace Mine
def kDefAt (i : Nat) : Stmt := (PySem.Challenge.rw_sn0069_01.row.prog.main.body[i]?).getD (.Pass default)
def kClsAt (i j : Nat) : Stmt := match kDefAt i with
  | .ClassDef _ _ _ body .. => (body[j]?).getD (.Pass default)
  | s => s
def kFnOf (s : Stmt) (qual : PySem.Str) (code : Addr) (md : PySem.Str) (tk : Nat) : Obj := match s with
  | .FunctionDef name args body _ _ _ scope .. => { cls := .type "function", data := .func { name := name, qualname := qual, params := args, body := .stmts body, scope := scope, globals := 3, closure := [], defaults := .none, kwdefaults := .none, pyModule := .str md tk, code := .ref code } }
  | _ => { cls := .none, data := .dict #[] }
noncomputable def KF : Params → Frag := fun P =>
(nat_lit 2, { cls := Value.none, data := Data.dict #[] }) ::
  (nat_lit 3, { cls := Value.type "dict", data := Data.dict #[{ hash := PyData.keyHash P (Str.ofString "__name__"), key := Value.str (Str.ofString "__name__") 165, val := Value.str (Str.ofString "law_sn0069_01") 420 }, { hash := PyData.keyHash P (Str.ofString "__doc__"), key := Value.str (Str.ofString "__doc__") 166, val := Value.none }, { hash := PyData.keyHash P (Str.ofString "__package__"), key := Value.str (Str.ofString "__package__") 167, val := Value.none }, { hash := PyData.keyHash P (Str.ofString "__loader__"), key := Value.str (Str.ofString "__loader__") 168, val := Value.builtin "__main__.__loader__#opaque" }, { hash := PyData.keyHash P (Str.ofString "__spec__"), key := Value.str (Str.ofString "__spec__") 169, val := Value.none }, { hash := PyData.keyHash P (Str.ofString "__annotations__"), key := Value.str (Str.ofString "__annotations__") 170, val := Value.ref 6 }, { hash := PyData.keyHash P (Str.ofString "__builtins__"), key := Value.str (Str.ofString "__builtins__") 171, val := Value.ref 4 }, { hash := PyData.keyHash P (Str.ofString "__file__"), key := Value.str (Str.ofString "__file__") 173, val := Value.str (Str.ofString "/claim/cut.py") 172 }, { hash := PyData.keyHash P (Str.ofString "__cached__"), key := Value.str (Str.ofString "__cached__") 174, val := Value.none }, { hash := PyData.keyHash P (Str.ofString "_wall"), key := Value.str (Str.ofString "_wall") 193, val := Value.ref 21 }, { hash := PyData.keyHash P (Str.ofString "_DIV_LIMIT"), key := Value.str (Str.ofString "_DIV_LIMIT") 197, val := Value.int 4000 196 }, { hash := PyData.keyHash P (Str.ofString "_div2n1n"), key := Value.str (Str.ofString "_div2n1n") 214, val := Value.ref 28 }, { hash := PyData.keyHash P (Str.ofString "_div3n2n"), key := Value.str (Str.ofString "_div3n2n") 228, val := Value.ref 35 }, { hash := PyData.keyHash P (Str.ofString "_int2digits"), key := Value.str (Str.ofString "_int2digits") 239, val := Value.ref 42 }, { hash := PyData.keyHash P (Str.ofString "_digits2int"), key := Value.str (Str.ofString "_digits2int") 250, val := Value.ref 49 }, { hash := PyData.keyHash P (Str.ofString "_divmod_pos"), key := Value.str (Str.ofString "_divmod_pos") 265, val := Value.ref 56 }, { hash := PyData.keyHash P (Str.ofString "int_divmod"), key := Value.str (Str.ofString "int_divmod") 275, val := Value.ref 63 }, { hash := PyData.keyHash P (Str.ofString "rgb_to_hsv"), key := Value.str (Str.ofString "rgb_to_hsv") 295, val := Value.ref 70 }, { hash := PyData.keyHash P (Str.ofString "hsv_to_rgb"), key := Value.str (Str.ofString "hsv_to_rgb") 309, val := Value.ref 77 }, { hash := PyData.keyHash P (Str.ofString "ELLIPSIS_MARKER"), key := Value.str (Str.ofString "ELLIPSIS_MARKER") 313, val := Value.str (Str.ofString "...") 312 }, { hash := PyData.keyHash P (Str.ofString "_ellipsis_match"), key := Value.str (Str.ofString "_ellipsis_match") 325, val := Value.ref 84 }, { hash := PyData.keyHash P (Str.ofString "Whitespace"), key := Value.str (Str.ofString "Whitespace") 419, val := Value.ref 146 }, { hash := PyData.keyHash P (Str.ofString "_law_bag"), key := Value.str (Str.ofString "_law_bag") 431, val := Value.ref 157 }, { hash := PyData.keyHash P (Str.ofString "_law_words"), key := Value.str (Str.ofString "_law_words") 437, val := Value.ref 162 }, { hash := PyData.keyHash P (Str.ofString "_law_lead"), key := Value.str (Str.ofString "_law_lead") 443, val := Value.ref 167 }, { hash := PyData.keyHash P (Str.ofString "_law_table"), key := Value.str (Str.ofString "_law_table") 455, val := Value.ref 174 }, { hash := PyData.keyHash P (Str.ofString "_law_rings"), key := Value.str (Str.ofString "_law_rings") 461, val := Value.ref 179 }, { hash := PyData.keyHash P (Str.ofString "_law_product"), key := Value.str (Str.ofString "_law_product") 471, val := Value.ref 186 }, { hash := PyData.keyHash P (Str.ofString "_law_mix"), key := Value.str (Str.ofString "_law_mix") 477, val := Value.ref 191 }, { hash := PyData.keyHash P (Str.ofString "law"), key := Value.str (Str.ofString "law") 483, val := Value.ref 196 }] 30 }) ::
  (nat_lit 15, { cls := Value.type "tuple", data := Data.seq #[] }) ::
  (nat_lit 17, { cls := Value.type "tuple", data := Data.seq #[Value.str (Str.ofString "k") 190] }) ::
  (nat_lit 18, { cls := Value.type "tuple", data := Data.seq #[] }) ::
  (nat_lit 20, { cls := Value.type "code", data := Data.fields #[Value.str (Str.ofString "_wall") 187, Value.str (Str.ofString "_wall") 188, Value.str (Str.ofString "/claim/cut.py") 189, Value.int 1 0, Value.int 1 0, Value.int 0 0, Value.int 0 0, Value.int 3 0, Value.ref 15, Value.bool true, Value.int 181 0, Value.ref 16, Value.none, Value.ref 17, Value.ref 18, Value.ref 19, Value.int 191 0, Value.int 1 0, Value.str (Str.ofString "/claim/cut.py") 192] }) ::
  (nat_lit 21, kFnOf (kDefAt 0) (Str.ofString "_wall") 20 (Str.ofString "__main__") 164) ::
  (nat_lit 22, { cls := Value.type "tuple", data := Data.seq #[] }) ::
  (nat_lit 24, { cls := Value.type "tuple", data := Data.seq #[Value.str (Str.ofString "a") 201, Value.str (Str.ofString "b") 202, Value.str (Str.ofString "n") 203, Value.str (Str.ofString "pad") 204, Value.str (Str.ofString "half_n") 205, Value.str (Str.ofString "mask") 206, Value.str (Str.ofString "b1") 207, Value.str (Str.ofString "b2") 208, Value.str (Str.ofString "q1") 209, Value.str (Str.ofString "r") 210, Value.str (Str.ofString "q2") 211] }) ::
  (nat_lit 25, { cls := Value.type "tuple", data := Data.seq #[] }) ::
  (nat_lit 27, { cls := Value.type "code", data := Data.fields #[Value.str (Str.ofString "_div2n1n") 198, Value.str (Str.ofString "_div2n1n") 199, Value.str (Str.ofString "/claim/cut.py") 200, Value.int 6 0, Value.int 3 0, Value.int 0 0, Value.int 0 0, Value.int 3 0, Value.ref 22, Value.bool true, Value.int 181 0, Value.ref 23, Value.none, Value.ref 24, Value.ref 25, Value.ref 26, Value.int 212 0, Value.int 6 0, Value.str (Str.ofString "/claim/cut.py") 213] }) ::
  (nat_lit 28, kFnOf (kDefAt 3) (Str.ofString "_div2n1n") 27 (Str.ofString "cpy313._pylong") 194) ::
  (nat_lit 29, { cls := Value.type "tuple", data := Data.seq #[] }) ::
  (nat_lit 31, { cls := Value.type "tuple", data := Data.seq #[Value.str (Str.ofString "a12") 218, Value.str (Str.ofString "a3") 219, Value.str (Str.ofString "b") 220, Value.str (Str.ofString "b1") 221, Value.str (Str.ofString "b2") 222, Value.str (Str.ofString "n") 223, Value.str (Str.ofString "q") 224, Value.str (Str.ofString "r") 225] }) ::
  (nat_lit 32, { cls := Value.type "tuple", data := Data.seq #[] }) ::
  (nat_lit 34, { cls := Value.type "code", data := Data.fields #[Value.str (Str.ofString "_div3n2n") 215, Value.str (Str.ofString "_div3n2n") 216, Value.str (Str.ofString "/claim/cut.py") 217, Value.int 22 0, Value.int 6 0, Value.int 0 0, Value.int 0 0, Value.int 3 0, Value.ref 29, Value.bool true, Value.int 181 0, Value.ref 30, Value.none, Value.ref 31, Value.ref 32, Value.ref 33, Value.int 226 0, Value.int 22 0, Value.str (Str.ofString "/claim/cut.py") 227] }) ::
  (nat_lit 35, kFnOf (kDefAt 4) (Str.ofString "_div3n2n") 34 (Str.ofString "cpy313._pylong") 194) ::
  (nat_lit 36, { cls := Value.type "tuple", data := Data.seq #[] }) ::
  (nat_lit 38, { cls := Value.type "tuple", data := Data.seq #[Value.str (Str.ofString "a") 232, Value.str (Str.ofString "n") 233] }) ::
  (nat_lit 39, { cls := Value.type "tuple", data := Data.seq #[Value.str (Str.ofString "n") 234, Value.str (Str.ofString "a_digits") 235, Value.str (Str.ofString "inner") 236] }) ::
  (nat_lit 41, { cls := Value.type "code", data := Data.fields #[Value.str (Str.ofString "_int2digits") 229, Value.str (Str.ofString "_int2digits") 230, Value.str (Str.ofString "/claim/cut.py") 231, Value.int 32 0, Value.int 2 0, Value.int 0 0, Value.int 0 0, Value.int 3 0, Value.ref 36, Value.bool true, Value.int 181 0, Value.ref 37, Value.none, Value.ref 38, Value.ref 39, Value.ref 40, Value.int 237 0, Value.int 32 0, Value.str (Str.ofString "/claim/cut.py") 238] }) ::
  (nat_lit 42, kFnOf (kDefAt 5) (Str.ofString "_int2digits") 41 (Str.ofString "cpy313._pylong") 194) ::
  (nat_lit 43, { cls := Value.type "tuple", data := Data.seq #[] }) ::
  (nat_lit 45, { cls := Value.type "tuple", data := Data.seq #[Value.str (Str.ofString "digits") 243, Value.str (Str.ofString "n") 244] }) ::
  (nat_lit 46, { cls := Value.type "tuple", data := Data.seq #[Value.str (Str.ofString "digits") 245, Value.str (Str.ofString "n") 246, Value.str (Str.ofString "inner") 247] }) ::
  (nat_lit 48, { cls := Value.type "code", data := Data.fields #[Value.str (Str.ofString "_digits2int") 240, Value.str (Str.ofString "_digits2int") 241, Value.str (Str.ofString "/claim/cut.py") 242, Value.int 48 0, Value.int 2 0, Value.int 0 0, Value.int 0 0, Value.int 3 0, Value.ref 43, Value.bool true, Value.int 181 0, Value.ref 44, Value.none, Value.ref 45, Value.ref 46, Value.ref 47, Value.int 248 0, Value.int 48 0, Value.str (Str.ofString "/claim/cut.py") 249] }) ::
  (nat_lit 49, kFnOf (kDefAt 6) (Str.ofString "_digits2int") 48 (Str.ofString "cpy313._pylong") 194) ::
  (nat_lit 50, { cls := Value.type "tuple", data := Data.seq #[] }) ::
  (nat_lit 52, { cls := Value.type "tuple", data := Data.seq #[Value.str (Str.ofString "a") 254, Value.str (Str.ofString "b") 255, Value.str (Str.ofString "n") 256, Value.str (Str.ofString "a_digits") 257, Value.str (Str.ofString "r") 258, Value.str (Str.ofString "q_digits") 259, Value.str (Str.ofString "a_digit") 260, Value.str (Str.ofString "q_digit") 261, Value.str (Str.ofString "q") 262] }) ::
  (nat_lit 53, { cls := Value.type "tuple", data := Data.seq #[] }) ::
  (nat_lit 55, { cls := Value.type "code", data := Data.fields #[Value.str (Str.ofString "_divmod_pos") 251, Value.str (Str.ofString "_divmod_pos") 252, Value.str (Str.ofString "/claim/cut.py") 253, Value.int 57 0, Value.int 2 0, Value.int 0 0, Value.int 0 0, Value.int 3 0, Value.ref 50, Value.bool true, Value.int 181 0, Value.ref 51, Value.none, Value.ref 52, Value.ref 53, Value.ref 54, Value.int 263 0, Value.int 57 0, Value.str (Str.ofString "/claim/cut.py") 264] }) ::
  (nat_lit 56, kFnOf (kDefAt 7) (Str.ofString "_divmod_pos") 55 (Str.ofString "cpy313._pylong") 194) ::
  (nat_lit 57, { cls := Value.type "tuple", data := Data.seq #[] }) ::
  (nat_lit 59, { cls := Value.type "tuple", data := Data.seq #[Value.str (Str.ofString "a") 269, Value.str (Str.ofString "b") 270, Value.str (Str.ofString "q") 271, Value.str (Str.ofString "r") 272] }) ::
  (nat_lit 60, { cls := Value.type "tuple", data := Data.seq #[] }) ::
  (nat_lit 62, { cls := Value.type "code", data := Data.fields #[Value.str (Str.ofString "int_divmod") 266, Value.str (Str.ofString "int_divmod") 267, Value.str (Str.ofString "/claim/cut.py") 268, Value.int 68 0, Value.int 2 0, Value.int 0 0, Value.int 0 0, Value.int 3 0, Value.ref 57, Value.bool true, Value.int 181 0, Value.ref 58, Value.none, Value.ref 59, Value.ref 60, Value.ref 61, Value.int 273 0, Value.int 68 0, Value.str (Str.ofString "/claim/cut.py") 274] }) ::
  (nat_lit 63, kFnOf (kDefAt 8) (Str.ofString "int_divmod") 62 (Str.ofString "cpy313._pylong") 194) ::
  (nat_lit 64, { cls := Value.type "tuple", data := Data.seq #[] }) ::
  (nat_lit 66, { cls := Value.type "tuple", data := Data.seq #[Value.str (Str.ofString "r") 281, Value.str (Str.ofString "g") 282, Value.str (Str.ofString "b") 283, Value.str (Str.ofString "maxc") 284, Value.str (Str.ofString "minc") 285, Value.str (Str.ofString "rangec") 286, Value.str (Str.ofString "v") 287, Value.str (Str.ofString "s") 288, Value.str (Str.ofString "rc") 289, Value.str (Str.ofString "gc") 290, Value.str (Str.ofString "bc") 291, Value.str (Str.ofString "h") 292] }) ::
  (nat_lit 67, { cls := Value.type "tuple", data := Data.seq #[] }) ::
  (nat_lit 69, { cls := Value.type "code", data := Data.fields #[Value.str (Str.ofString "rgb_to_hsv") 278, Value.str (Str.ofString "rgb_to_hsv") 279, Value.str (Str.ofString "/claim/cut.py") 280, Value.int 80 0, Value.int 3 0, Value.int 0 0, Value.int 0 0, Value.int 3 0, Value.ref 64, Value.bool true, Value.int 181 0, Value.ref 65, Value.none, Value.ref 66, Value.ref 67, Value.ref 68, Value.int 293 0, Value.int 80 0, Value.str (Str.ofString "/claim/cut.py") 294] }) ::
  (nat_lit 70, kFnOf (kDefAt 10) (Str.ofString "rgb_to_hsv") 69 (Str.ofString "cpy313.colorsys") 276) ::
  (nat_lit 71, { cls := Value.type "tuple", data := Data.seq #[] }) ::
  (nat_lit 73, { cls := Value.type "tuple", data := Data.seq #[Value.str (Str.ofString "h") 299, Value.str (Str.ofString "s") 300, Value.str (Str.ofString "v") 301, Value.str (Str.ofString "i") 302, Value.str (Str.ofString "f") 303, Value.str (Str.ofString "p") 304, Value.str (Str.ofString "q") 305, Value.str (Str.ofString "t") 306] }) ::
  (nat_lit 74, { cls := Value.type "tuple", data := Data.seq #[] }) ::
  (nat_lit 76, { cls := Value.type "code", data := Data.fields #[Value.str (Str.ofString "hsv_to_rgb") 296, Value.str (Str.ofString "hsv_to_rgb") 297, Value.str (Str.ofString "/claim/cut.py") 298, Value.int 99 0, Value.int 3 0, Value.int 0 0, Value.int 0 0, Value.int 3 0, Value.ref 71, Value.bool true, Value.int 181 0, Value.ref 72, Value.none, Value.ref 73, Value.ref 74, Value.ref 75, Value.int 307 0, Value.int 99 0, Value.str (Str.ofString "/claim/cut.py") 308] }) ::
  (nat_lit 77, kFnOf (kDefAt 11) (Str.ofString "hsv_to_rgb") 76 (Str.ofString "cpy313.colorsys") 276) ::
  (nat_lit 78, { cls := Value.type "tuple", data := Data.seq #[] }) ::
  (nat_lit 80, { cls := Value.type "tuple", data := Data.seq #[Value.str (Str.ofString "want") 317, Value.str (Str.ofString "got") 318, Value.str (Str.ofString "ws") 319, Value.str (Str.ofString "startpos") 320, Value.str (Str.ofString "endpos") 321, Value.str (Str.ofString "w") 322] }) ::
  (nat_lit 81, { cls := Value.type "tuple", data := Data.seq #[] }) ::
  (nat_lit 83, { cls := Value.type "code", data := Data.fields #[Value.str (Str.ofString "_ellipsis_match") 314, Value.str (Str.ofString "_ellipsis_match") 315, Value.str (Str.ofString "/claim/cut.py") 316, Value.int 122 0, Value.int 2 0, Value.int 0 0, Value.int 0 0, Value.int 3 0, Value.ref 78, Value.bool true, Value.int 181 0, Value.ref 79, Value.none, Value.ref 80, Value.ref 81, Value.ref 82, Value.int 323 0, Value.int 122 0, Value.str (Str.ofString "/claim/cut.py") 324] }) ::
  (nat_lit 84, kFnOf (kDefAt 14) (Str.ofString "_ellipsis_match") 83 (Str.ofString "cpy313.doctest") 310) ::
  (nat_lit 95, { cls := Value.type "tuple", data := Data.seq #[] }) ::
  (nat_lit 97, { cls := Value.type "tuple", data := Data.seq #[Value.str (Str.ofString "self") 348, Value.str (Str.ofString "ws") 349, Value.str (Str.ofString "S") 350, Value.str (Str.ofString "T") 351, Value.str (Str.ofString "count") 352, Value.str (Str.ofString "b") 353, Value.str (Str.ofString "n") 354, Value.str (Str.ofString "nt") 355, Value.str (Str.ofString "ch") 356] }) ::
  (nat_lit 98, { cls := Value.type "tuple", data := Data.seq #[] }) ::
  (nat_lit 100, { cls := Value.type "code", data := Data.fields #[Value.str (Str.ofString "__init__") 345, Value.str (Str.ofString "Whitespace.__init__") 346, Value.str (Str.ofString "/claim/cut.py") 347, Value.int 154 0, Value.int 2 0, Value.int 0 0, Value.int 0 0, Value.int 3 0, Value.ref 95, Value.bool true, Value.int 181 0, Value.ref 96, Value.none, Value.ref 97, Value.ref 98, Value.ref 99, Value.int 357 0, Value.int 154 0, Value.str (Str.ofString "/claim/cut.py") 358] }) ::
  (nat_lit 101, kFnOf (kClsAt 16 1) (Str.ofString "Whitespace.__init__") 100 (Str.ofString "cpy313.tabnanny") 326) ::
  (nat_lit 102, { cls := Value.type "tuple", data := Data.seq #[] }) ::
  (nat_lit 104, { cls := Value.type "tuple", data := Data.seq #[Value.str (Str.ofString "self") 363] }) ::
  (nat_lit 105, { cls := Value.type "tuple", data := Data.seq #[] }) ::
  (nat_lit 107, { cls := Value.type "code", data := Data.fields #[Value.str (Str.ofString "longest_run_of_spaces") 360, Value.str (Str.ofString "Whitespace.longest_run_of_spaces") 361, Value.str (Str.ofString "/claim/cut.py") 362, Value.int 177 0, Value.int 1 0, Value.int 0 0, Value.int 0 0, Value.int 3 0, Value.ref 102, Value.bool true, Value.int 181 0, Value.ref 103, Value.none, Value.ref 104, Value.ref 105, Value.ref 106, Value.int 364 0, Value.int 177 0, Value.str (Str.ofString "/claim/cut.py") 365] }) ::
  (nat_lit 108, kFnOf (kClsAt 16 2) (Str.ofString "Whitespace.longest_run_of_spaces") 107 (Str.ofString "cpy313.tabnanny") 326) ::
  (nat_lit 109, { cls := Value.type "tuple", data := Data.seq #[] }) ::
  (nat_lit 111, { cls := Value.type "tuple", data := Data.seq #[Value.str (Str.ofString "self") 370, Value.str (Str.ofString "tabsize") 371] }) ::
  (nat_lit 112, { cls := Value.type "tuple", data := Data.seq #[] }) ::
  (nat_lit 114, { cls := Value.type "code", data := Data.fields #[Value.str (Str.ofString "indent_level") 367, Value.str (Str.ofString "Whitespace.indent_level") 368, Value.str (Str.ofString "/claim/cut.py") 369, Value.int 180 0, Value.int 2 0, Value.int 0 0, Value.int 0 0, Value.int 3 0, Value.ref 109, Value.bool true, Value.int 181 0, Value.ref 110, Value.none, Value.ref 111, Value.ref 112, Value.ref 113, Value.int 372 0, Value.int 180 0, Value.str (Str.ofString "/claim/cut.py") 373] }) ::
  (nat_lit 115, kFnOf (kClsAt 16 3) (Str.ofString "Whitespace.indent_level") 114 (Str.ofString "cpy313.tabnanny") 326) ::
  (nat_lit 116, { cls := Value.type "tuple", data := Data.seq #[] }) ::
  (nat_lit 118, { cls := Value.type "tuple", data := Data.seq #[Value.str (Str.ofString "self") 378, Value.str (Str.ofString "other") 379] }) ::
  (nat_lit 119, { cls := Value.type "tuple", data := Data.seq #[] }) ::
  (nat_lit 121, { cls := Value.type "code", data := Data.fields #[Value.str (Str.ofString "equal") 375, Value.str (Str.ofString "Whitespace.equal") 376, Value.str (Str.ofString "/claim/cut.py") 377, Value.int 183 0, Value.int 2 0, Value.int 0 0, Value.int 0 0, Value.int 3 0, Value.ref 116, Value.bool true, Value.int 181 0, Value.ref 117, Value.none, Value.ref 118, Value.ref 119, Value.ref 120, Value.int 380 0, Value.int 183 0, Value.str (Str.ofString "/claim/cut.py") 381] }) ::
  (nat_lit 122, kFnOf (kClsAt 16 4) (Str.ofString "Whitespace.equal") 121 (Str.ofString "cpy313.tabnanny") 326) ::
  (nat_lit 123, { cls := Value.type "tuple", data := Data.seq #[] }) ::
  (nat_lit 125, { cls := Value.type "tuple", data := Data.seq #[Value.str (Str.ofString "self") 386, Value.str (Str.ofString "other") 387] }) ::
  (nat_lit 126, { cls := Value.type "tuple", data := Data.seq #[] }) ::
  (nat_lit 128, { cls := Value.type "code", data := Data.fields #[Value.str (Str.ofString "not_equal_witness") 383, Value.str (Str.ofString "Whitespace.not_equal_witness") 384, Value.str (Str.ofString "/claim/cut.py") 385, Value.int 186 0, Value.int 2 0, Value.int 0 0, Value.int 0 0, Value.int 3 0, Value.ref 123, Value.bool true, Value.int 181 0, Value.ref 124, Value.none, Value.ref 125, Value.ref 126, Value.ref 127, Value.int 388 0, Value.int 186 0, Value.str (Str.ofString "/claim/cut.py") 389] }) ::
  (nat_lit 129, kFnOf (kClsAt 16 5) (Str.ofString "Whitespace.not_equal_witness") 128 (Str.ofString "cpy313.tabnanny") 326) ::
  (nat_lit 130, { cls := Value.type "tuple", data := Data.seq #[] }) ::
  (nat_lit 132, { cls := Value.type "tuple", data := Data.seq #[Value.str (Str.ofString "self") 394, Value.str (Str.ofString "other") 395] }) ::
  (nat_lit 133, { cls := Value.type "tuple", data := Data.seq #[] }) ::
  (nat_lit 135, { cls := Value.type "code", data := Data.fields #[Value.str (Str.ofString "less") 391, Value.str (Str.ofString "Whitespace.less") 392, Value.str (Str.ofString "/claim/cut.py") 393, Value.int 189 0, Value.int 2 0, Value.int 0 0, Value.int 0 0, Value.int 3 0, Value.ref 130, Value.bool true, Value.int 181 0, Value.ref 131, Value.none, Value.ref 132, Value.ref 133, Value.ref 134, Value.int 396 0, Value.int 189 0, Value.str (Str.ofString "/claim/cut.py") 397] }) ::
  (nat_lit 136, kFnOf (kClsAt 16 6) (Str.ofString "Whitespace.less") 135 (Str.ofString "cpy313.tabnanny") 326) ::
  (nat_lit 137, { cls := Value.type "tuple", data := Data.seq #[] }) ::
  (nat_lit 139, { cls := Value.type "tuple", data := Data.seq #[Value.str (Str.ofString "self") 402, Value.str (Str.ofString "other") 403] }) ::
  (nat_lit 140, { cls := Value.type "tuple", data := Data.seq #[] }) ::
  (nat_lit 142, { cls := Value.type "code", data := Data.fields #[Value.str (Str.ofString "not_less_witness") 399, Value.str (Str.ofString "Whitespace.not_less_witness") 400, Value.str (Str.ofString "/claim/cut.py") 401, Value.int 192 0, Value.int 2 0, Value.int 0 0, Value.int 0 0, Value.int 3 0, Value.ref 137, Value.bool true, Value.int 181 0, Value.ref 138, Value.none, Value.ref 139, Value.ref 140, Value.ref 141, Value.int 404 0, Value.int 192 0, Value.str (Str.ofString "/claim/cut.py") 405] }) ::
  (nat_lit 143, kFnOf (kClsAt 16 7) (Str.ofString "Whitespace.not_less_witness") 142 (Str.ofString "cpy313.tabnanny") 326) ::
  (nat_lit 144, { cls := Value.type "tuple", data := Data.seq #[Value.str (Str.ofString "is_simple") 407, Value.str (Str.ofString "n") 408, Value.str (Str.ofString "norm") 409, Value.str (Str.ofString "nt") 410, Value.str (Str.ofString "raw") 411] }) ::
  (nat_lit 145, { cls := Value.type "dict", data := Data.dict #[{ hash := PyData.keyHash P (Str.ofString "__module__"), key := Value.str (Str.ofString "__module__") 335, val := Value.str (Str.ofString "cpy313.tabnanny") 326 }, { hash := PyData.keyHash P (Str.ofString "__firstlineno__"), key := Value.str (Str.ofString "__firstlineno__") 339, val := Value.int 151 338 }, { hash := PyData.keyHash P (Str.ofString "S"), key := Value.str (Str.ofString "S") 343, val := Value.str (Str.ofString " ") 341 }, { hash := PyData.keyHash P (Str.ofString "T"), key := Value.str (Str.ofString "T") 344, val := Value.str (Str.ofString "\t") 342 }, { hash := PyData.keyHash P (Str.ofString "__init__"), key := Value.str (Str.ofString "__init__") 359, val := Value.ref 101 }, { hash := PyData.keyHash P (Str.ofString "longest_run_of_spaces"), key := Value.str (Str.ofString "longest_run_of_spaces") 366, val := Value.ref 108 }, { hash := PyData.keyHash P (Str.ofString "indent_level"), key := Value.str (Str.ofString "indent_level") 374, val := Value.ref 115 }, { hash := PyData.keyHash P (Str.ofString "equal"), key := Value.str (Str.ofString "equal") 382, val := Value.ref 122 }, { hash := PyData.keyHash P (Str.ofString "not_equal_witness"), key := Value.str (Str.ofString "not_equal_witness") 390, val := Value.ref 129 }, { hash := PyData.keyHash P (Str.ofString "less"), key := Value.str (Str.ofString "less") 398, val := Value.ref 136 }, { hash := PyData.keyHash P (Str.ofString "not_less_witness"), key := Value.str (Str.ofString "not_less_witness") 406, val := Value.ref 143 }, { hash := PyData.keyHash P (Str.ofString "__static_attributes__"), key := Value.str (Str.ofString "__static_attributes__") 412, val := Value.ref 144 }, { hash := PyData.keyHash P (Str.ofString "__dict__"), key := Value.str (Str.ofString "__dict__") 414, val := Value.ref 147 }, { hash := PyData.keyHash P (Str.ofString "__weakref__"), key := Value.str (Str.ofString "__weakref__") 416, val := Value.ref 148 }, { hash := PyData.keyHash P (Str.ofString "__doc__"), key := Value.str (Str.ofString "__doc__") 417, val := Value.none }] 4 }) ::
  (nat_lit 146, { cls := Value.type "type", data := Data.cls { name := Str.ofString "Whitespace", bases := [Value.type "object"], mro := [Value.ref 146, Value.type "object"], ns := 145, qualname := Str.ofString "Whitespace" }, slots := #[none, none, some (Value.str (Str.ofString "Whitespace") 328), some (Value.str (Str.ofString "Whitespace") 336), some (Value.builtin "object.__new__"), some (Value.bool true)] }) ::
  (nat_lit 147, { cls := Value.type "getset_descriptor", data := Data.fields #[Value.str (Str.ofString "__dict__") 413, Value.ref 146, Value.builtin "function.__dict__", Value.builtin "function.__dict__#set"] }) ::
  (nat_lit 148, { cls := Value.type "getset_descriptor", data := Data.fields #[Value.str (Str.ofString "__weakref__") 415, Value.ref 146, Value.builtin "ExceptionGroup.__weakref__", Value.none] }) ::
  (nat_lit 151, { cls := Value.type "tuple", data := Data.seq #[] }) ::
  (nat_lit 153, { cls := Value.type "tuple", data := Data.seq #[Value.str (Str.ofString "kind") 425, Value.str (Str.ofString "turn") 426, Value.str (Str.ofString "bags") 427, Value.str (Str.ofString "bag") 428] }) ::
  (nat_lit 154, { cls := Value.type "tuple", data := Data.seq #[] }) ::
  (nat_lit 156, { cls := Value.type "code", data := Data.fields #[Value.str (Str.ofString "_law_bag") 422, Value.str (Str.ofString "_law_bag") 423, Value.str (Str.ofString "/claim/cut.py") 424, Value.int 195 0, Value.int 2 0, Value.int 0 0, Value.int 0 0, Value.int 3 0, Value.ref 151, Value.bool true, Value.int 181 0, Value.ref 152, Value.none, Value.ref 153, Value.ref 154, Value.ref 155, Value.int 429 0, Value.int 195 0, Value.str (Str.ofString "/claim/cut.py") 430] }) ::
  (nat_lit 157, kFnOf (kDefAt 18) (Str.ofString "_law_bag") 156 (Str.ofString "law_sn0069_01") 420) ::
  (nat_lit 158, { cls := Value.type "tuple", data := Data.seq #[] }) ::
  (nat_lit 161, { cls := Value.type "code", data := Data.fields #[Value.str (Str.ofString "_law_words") 432, Value.str (Str.ofString "_law_words") 433, Value.str (Str.ofString "/claim/cut.py") 434, Value.int 199 0, Value.int 2 0, Value.int 0 0, Value.int 0 0, Value.int 3 0, Value.ref 158, Value.bool true, Value.int 181 0, Value.ref 159, Value.none, Value.none, Value.none, Value.ref 160, Value.int 435 0, Value.int 199 0, Value.str (Str.ofString "/claim/cut.py") 436] }) ::
  (nat_lit 162, kFnOf (kDefAt 19) (Str.ofString "_law_words") 161 (Str.ofString "law_sn0069_01") 420) ::
  (nat_lit 163, { cls := Value.type "tuple", data := Data.seq #[] }) ::
  (nat_lit 166, { cls := Value.type "code", data := Data.fields #[Value.str (Str.ofString "_law_lead") 438, Value.str (Str.ofString "_law_lead") 439, Value.str (Str.ofString "/claim/cut.py") 440, Value.int 204 0, Value.int 2 0, Value.int 0 0, Value.int 0 0, Value.int 3 0, Value.ref 163, Value.bool true, Value.int 181 0, Value.ref 164, Value.none, Value.none, Value.none, Value.ref 165, Value.int 441 0, Value.int 204 0, Value.str (Str.ofString "/claim/cut.py") 442] }) ::
  (nat_lit 167, kFnOf (kDefAt 20) (Str.ofString "_law_lead") 166 (Str.ofString "law_sn0069_01") 420) ::
  (nat_lit 168, { cls := Value.type "tuple", data := Data.seq #[] }) ::
  (nat_lit 170, { cls := Value.type "tuple", data := Data.seq #[Value.str (Str.ofString "letters") 447, Value.str (Str.ofString "words") 448, Value.str (Str.ofString "table") 449, Value.str (Str.ofString "word") 450, Value.str (Str.ofString "indent") 451, Value.str (Str.ofString "blanks") 452] }) ::
  (nat_lit 171, { cls := Value.type "tuple", data := Data.seq #[] }) ::
  (nat_lit 173, { cls := Value.type "code", data := Data.fields #[Value.str (Str.ofString "_law_table") 444, Value.str (Str.ofString "_law_table") 445, Value.str (Str.ofString "/claim/cut.py") 446, Value.int 210 0, Value.int 2 0, Value.int 0 0, Value.int 0 0, Value.int 3 0, Value.ref 168, Value.bool true, Value.int 181 0, Value.ref 169, Value.none, Value.ref 170, Value.ref 171, Value.ref 172, Value.int 453 0, Value.int 210 0, Value.str (Str.ofString "/claim/cut.py") 454] }) ::
  (nat_lit 174, kFnOf (kDefAt 21) (Str.ofString "_law_table") 173 (Str.ofString "law_sn0069_01") 420) ::
  (nat_lit 175, { cls := Value.type "tuple", data := Data.seq #[] }) ::
  (nat_lit 178, { cls := Value.type "code", data := Data.fields #[Value.str (Str.ofString "_law_rings") 456, Value.str (Str.ofString "_law_rings") 457, Value.str (Str.ofString "/claim/cut.py") 458, Value.int 218 0, Value.int 1 0, Value.int 0 0, Value.int 0 0, Value.int 3 0, Value.ref 175, Value.bool true, Value.int 181 0, Value.ref 176, Value.none, Value.none, Value.none, Value.ref 177, Value.int 459 0, Value.int 218 0, Value.str (Str.ofString "/claim/cut.py") 460] }) ::
  (nat_lit 179, kFnOf (kDefAt 22) (Str.ofString "_law_rings") 178 (Str.ofString "law_sn0069_01") 420) ::
  (nat_lit 180, { cls := Value.type "tuple", data := Data.seq #[] }) ::
  (nat_lit 182, { cls := Value.type "tuple", data := Data.seq #[Value.str (Str.ofString "count") 465, Value.str (Str.ofString "width") 466, Value.str (Str.ofString "value") 467, Value.str (Str.ofString "k") 468] }) ::
  (nat_lit 183, { cls := Value.type "tuple", data := Data.seq #[] }) ::
  (nat_lit 185, { cls := Value.type "code", data := Data.fields #[Value.str (Str.ofString "_law_product") 462, Value.str (Str.ofString "_law_product") 463, Value.str (Str.ofString "/claim/cut.py") 464, Value.int 231 0, Value.int 2 0, Value.int 0 0, Value.int 0 0, Value.int 3 0, Value.ref 180, Value.bool true, Value.int 181 0, Value.ref 181, Value.none, Value.ref 182, Value.ref 183, Value.ref 184, Value.int 469 0, Value.int 231 0, Value.str (Str.ofString "/claim/cut.py") 470] }) ::
  (nat_lit 186, kFnOf (kDefAt 23) (Str.ofString "_law_product") 185 (Str.ofString "law_sn0069_01") 420) ::
  (nat_lit 187, { cls := Value.type "tuple", data := Data.seq #[] }) ::
  (nat_lit 190, { cls := Value.type "code", data := Data.fields #[Value.str (Str.ofString "_law_mix") 472, Value.str (Str.ofString "_law_mix") 473, Value.str (Str.ofString "/claim/cut.py") 474, Value.int 236 0, Value.int 3 0, Value.int 0 0, Value.int 0 0, Value.int 3 0, Value.ref 187, Value.bool true, Value.int 181 0, Value.ref 188, Value.none, Value.none, Value.none, Value.ref 189, Value.int 475 0, Value.int 236 0, Value.str (Str.ofString "/claim/cut.py") 476] }) ::
  (nat_lit 191, kFnOf (kDefAt 24) (Str.ofString "_law_mix") 190 (Str.ofString "law_sn0069_01") 420) ::
  (nat_lit 192, { cls := Value.type "tuple", data := Data.seq #[] }) ::
  (nat_lit 195, { cls := Value.type "code", data := Data.fields #[Value.str (Str.ofString "law") 478, Value.str (Str.ofString "law") 479, Value.str (Str.ofString "/claim/cut.py") 480, Value.int 239 0, Value.int 1 0, Value.int 0 0, Value.int 0 0, Value.int 3 0, Value.ref 192, Value.bool true, Value.int 181 0, Value.ref 193, Value.none, Value.none, Value.none, Value.ref 194, Value.int 481 0, Value.int 239 0, Value.str (Str.ofString "/claim/cut.py") 482] }) ::
  (nat_lit 196, kFnOf (kDefAt 25) (Str.ofString "law") 195 (Str.ofString "law_sn0069_01") 420) :: []
end Mine
namespace Mine
section
-- after: head
def keepI (f : Nat → Bool) (l : List Stmt) : List Stmt := (l.zipIdx.filter fun x => f x.2).map (·.1)
noncomputable def view : Program := { PySem.Challenge.rw_sn0069_01.row.prog with main := { PySem.Challenge.rw_sn0069_01.row.prog.main with body := keepI (fun i => !(i == 1 || i == 9 || i == 12 || i == 15 || i == 17)) PySem.Challenge.rw_sn0069_01.row.prog.main.body } }
noncomputable def rW : RowW := OpenRow.toRowW PySem.Challenge.rw_sn0069_01.row
noncomputable def HK : Hook := kmHook KF [2, 3, 15, 17, 18, 20, 21, 22, 24, 25, 27, 28, 29, 31, 32, 34, 35, 36, 38, 39, 41, 42, 43, 45, 46, 48, 49, 50, 52, 53, 55, 56, 57, 59, 60, 62, 63, 64, 66, 67, 69, 70, 71, 73, 74, 76, 77, 78, 80, 81, 83, 84, 95, 97, 98, 100, 101, 102, 104, 105, 107, 108, 109, 111, 112, 114, 115, 116, 118, 119, 121, 122, 123, 125, 126, 128, 129, 130, 132, 133, 135, 136, 137, 139, 140, 142, 143, 144, 145, 146, 147, 148, 151, 153, 154, 156, 157, 158, 161, 162, 163, 166, 167, 168, 170, 171, 173, 174, 175, 178, 179, 180, 182, 183, 185, 186, 187, 190, 191, 192, 195, 196] (fun _ => by kernel_rfl) [37, 44]
theorem left1a (w : World) : (openEnds treeTable PySem.Challenge.rw_sn0069_01.row.prog (w.withFollow "special-get-raises" false) 2374).map (fun s => (openSeen view [PySem.Str.ofString "Whitespace"] (importedModules PySem.Challenge.rw_sn0069_01.row.prog.main.body) (fun s => xlAt view [] s && recOk (RowW.records rW) s) true s, Hook.obs HK s)) = some (openGood view [PySem.Str.ofString "Whitespace"], Hook.val HK (w.withFollow "special-get-raises" false)) := by
  unfold openEnds fencedOpening topFrom
  (try rw [PySem.W.Fast.te14082659384304107361])
  (try rw [PySem.W.Fast.te14364793385576792824])
  (try rw [PySem.W.Fast.te10274390034422433532])
  (try rw [PySem.W.Fast.te14289696077712309145])
  (try rw [PySem.W.Fast.te1435165496053646825])
  (try rw [PySem.W.Fast.te4187177175401517315])
  kernel_rfl
theorem left1b (w : World) : (openEnds treeTable PySem.Challenge.rw_sn0069_01.row.prog (w.withFollow "special-get-raises" true) 2374).map (fun s => (openSeen view [PySem.Str.ofString "Whitespace"] (importedModules PySem.Challenge.rw_sn0069_01.row.prog.main.body) (fun s => xlAt view [] s && recOk (RowW.records rW) s) true s, Hook.obs HK s)) = some (openGood view [PySem.Str.ofString "Whitespace"], Hook.val HK (w.withFollow "special-get-raises" true)) := by
  unfold openEnds fencedOpening topFrom
  (try rw [PySem.W.Fast.te14082659384304107361])
  (try rw [PySem.W.Fast.te14364793385576792824])
  (try rw [PySem.W.Fast.te10274390034422433532])
  (try rw [PySem.W.Fast.te14289696077712309145])
  (try rw [PySem.W.Fast.te1435165496053646825])
  (try rw [PySem.W.Fast.te4187177175401517315])
  kernel_rfl
theorem left1 : LeftO PySem.Challenge.rw_sn0069_01.row.prog view [PySem.Str.ofString "Whitespace"] (fun s => xlAt view [] s && recOk (RowW.records rW) s) (Hook.obs HK) (Hook.val HK) 2374 := fun w => by
  have e := World.withFollow_self w "special-get-raises"
  cases hb : w.params.followText "special-get-raises" <;> rw [hb] at e
  · have h := left1a w
    rw [e] at h
    exact h
  · have h := left1b w
    rw [e] at h
    exact h
theorem said0 : PySem.Challenge.rw_sn0069_01.wellSaid = true := by
  unfold OpenLaw.wellSaid OpenRow.wellSaid OpenRow.partSaid looksOpen
  repeat' (with_reducible refine look_both ?_ ?_)
  all_goals decide +kernel
end
section
-- after: head
theorem ex1 {α1 : Type} {P : α1 → Prop} {G : Prop} (h : ∃ a1, P a1) (k : ∀ a1, P a1 → G) : G := let ⟨a1, h⟩ := h; k a1 h
theorem ex2 {α1 α2 : Type} {P : α1 → α2 → Prop} {G : Prop} (h : ∃ a1 a2, P a1 a2) (k : ∀ a1 a2, P a1 a2 → G) : G := let ⟨a1, a2, h⟩ := h; k a1 a2 h
theorem ex3 {α1 α2 α3 : Type} {P : α1 → α2 → α3 → Prop} {G : Prop} (h : ∃ a1 a2 a3, P a1 a2 a3) (k : ∀ a1 a2 a3, P a1 a2 a3 → G) : G := let ⟨a1, a2, a3, h⟩ := h; k a1 a2 a3 h
theorem ex4 {α1 α2 α3 α4 : Type} {P : α1 → α2 → α3 → α4 → Prop} {G : Prop} (h : ∃ a1 a2 a3 a4, P a1 a2 a3 a4) (k : ∀ a1 a2 a3 a4, P a1 a2 a3 a4 → G) : G := let ⟨a1, a2, a3, a4, h⟩ := h; k a1 a2 a3 a4 h
theorem ex5 {α1 α2 α3 α4 α5 : Type} {P : α1 → α2 → α3 → α4 → α5 → Prop} {G : Prop} (h : ∃ a1 a2 a3 a4 a5, P a1 a2 a3 a4 a5) (k : ∀ a1 a2 a3 a4 a5, P a1 a2 a3 a4 a5 → G) : G := let ⟨a1, a2, a3, a4, a5, h⟩ := h; k a1 a2 a3 a4 a5 h
theorem ex6 {α1 α2 α3 α4 α5 α6 : Type} {P : α1 → α2 → α3 → α4 → α5 → α6 → Prop} {G : Prop} (h : ∃ a1 a2 a3 a4 a5 a6, P a1 a2 a3 a4 a5 a6) (k : ∀ a1 a2 a3 a4 a5 a6, P a1 a2 a3 a4 a5 a6 → G) : G := let ⟨a1, a2, a3, a4, a5, a6, h⟩ := h; k a1 a2 a3 a4 a5 a6 h
theorem ex7 {α1 α2 α3 α4 α5 α6 α7 : Type} {P : α1 → α2 → α3 → α4 → α5 → α6 → α7 → Prop} {G : Prop} (h : ∃ a1 a2 a3 a4 a5 a6 a7, P a1 a2 a3 a4 a5 a6 a7) (k : ∀ a1 a2 a3 a4 a5 a6 a7, P a1 a2 a3 a4 a5 a6 a7 → G) : G := let ⟨a1, a2, a3, a4, a5, a6, a7, h⟩ := h; k a1 a2 a3 a4 a5 a6 a7 h
theorem ex8 {α1 α2 α3 α4 α5 α6 α7 α8 : Type} {P : α1 → α2 → α3 → α4 → α5 → α6 → α7 → α8 → Prop} {G : Prop} (h : ∃ a1 a2 a3 a4 a5 a6 a7 a8, P a1 a2 a3 a4 a5 a6 a7 a8) (k : ∀ a1 a2 a3 a4 a5 a6 a7 a8, P a1 a2 a3 a4 a5 a6 a7 a8 → G) : G := let ⟨a1, a2, a3, a4, a5, a6, a7, a8, h⟩ := h; k a1 a2 a3 a4 a5 a6 a7 a8 h
theorem an2 {A1 A2 G : Prop} (h : A1 ∧ A2) (k : A1 → A2 → G) : G := k h.1 h.2
theorem an3 {A1 A2 A3 G : Prop} (h : A1 ∧ A2 ∧ A3) (k : A1 → A2 → A3 → G) : G := k h.1 h.2.1 h.2.2
theorem an4 {A1 A2 A3 A4 G : Prop} (h : A1 ∧ A2 ∧ A3 ∧ A4) (k : A1 → A2 → A3 → A4 → G) : G := k h.1 h.2.1 h.2.2.1 h.2.2.2
theorem an5 {A1 A2 A3 A4 A5 G : Prop} (h : A1 ∧ A2 ∧ A3 ∧ A4 ∧ A5) (k : A1 → A2 → A3 → A4 → A5 → G) : G := k h.1 h.2.1 h.2.2.1 h.2.2.2.1 h.2.2.2.2
theorem an6 {A1 A2 A3 A4 A5 A6 G : Prop} (h : A1 ∧ A2 ∧ A3 ∧ A4 ∧ A5 ∧ A6) (k : A1 → A2 → A3 → A4 → A5 → A6 → G) : G := k h.1 h.2.1 h.2.2.1 h.2.2.2.1 h.2.2.2.2.1 h.2.2.2.2.2
theorem an7 {A1 A2 A3 A4 A5 A6 A7 G : Prop} (h : A1 ∧ A2 ∧ A3 ∧ A4 ∧ A5 ∧ A6 ∧ A7) (k : A1 → A2 → A3 → A4 → A5 → A6 → A7 → G) : G := k h.1 h.2.1 h.2.2.1 h.2.2.2.1 h.2.2.2.2.1 h.2.2.2.2.2.1 h.2.2.2.2.2.2
theorem an8 {A1 A2 A3 A4 A5 A6 A7 A8 G : Prop} (h : A1 ∧ A2 ∧ A3 ∧ A4 ∧ A5 ∧ A6 ∧ A7 ∧ A8) (k : A1 → A2 → A3 → A4 → A5 → A6 → A7 → A8 → G) : G := k h.1 h.2.1 h.2.2.1 h.2.2.2.1 h.2.2.2.2.1 h.2.2.2.2.2.1 h.2.2.2.2.2.2.1 h.2.2.2.2.2.2.2
theorem an9 {A1 A2 A3 A4 A5 A6 A7 A8 A9 G : Prop} (h : A1 ∧ A2 ∧ A3 ∧ A4 ∧ A5 ∧ A6 ∧ A7 ∧ A8 ∧ A9) (k : A1 → A2 → A3 → A4 → A5 → A6 → A7 → A8 → A9 → G) : G := k h.1 h.2.1 h.2.2.1 h.2.2.2.1 h.2.2.2.2.1 h.2.2.2.2.2.1 h.2.2.2.2.2.2.1 h.2.2.2.2.2.2.2.1 h.2.2.2.2.2.2.2.2
theorem an10 {A1 A2 A3 A4 A5 A6 A7 A8 A9 A10 G : Prop} (h : A1 ∧ A2 ∧ A3 ∧ A4 ∧ A5 ∧ A6 ∧ A7 ∧ A8 ∧ A9 ∧ A10) (k : A1 → A2 → A3 → A4 → A5 → A6 → A7 → A8 → A9 → A10 → G) : G := k h.1 h.2.1 h.2.2.1 h.2.2.2.1 h.2.2.2.2.1 h.2.2.2.2.2.1 h.2.2.2.2.2.2.1 h.2.2.2.2.2.2.2.1 h.2.2.2.2.2.2.2.2.1 h.2.2.2.2.2.2.2.2.2
theorem an11 {A1 A2 A3 A4 A5 A6 A7 A8 A9 A10 A11 G : Prop} (h : A1 ∧ A2 ∧ A3 ∧ A4 ∧ A5 ∧ A6 ∧ A7 ∧ A8 ∧ A9 ∧ A10 ∧ A11) (k : A1 → A2 → A3 → A4 → A5 → A6 → A7 → A8 → A9 → A10 → A11 → G) : G := k h.1 h.2.1 h.2.2.1 h.2.2.2.1 h.2.2.2.2.1 h.2.2.2.2.2.1 h.2.2.2.2.2.2.1 h.2.2.2.2.2.2.2.1 h.2.2.2.2.2.2.2.2.1 h.2.2.2.2.2.2.2.2.2.1 h.2.2.2.2.2.2.2.2.2.2
theorem an12 {A1 A2 A3 A4 A5 A6 A7 A8 A9 A10 A11 A12 G : Prop} (h : A1 ∧ A2 ∧ A3 ∧ A4 ∧ A5 ∧ A6 ∧ A7 ∧ A8 ∧ A9 ∧ A10 ∧ A11 ∧ A12) (k : A1 → A2 → A3 → A4 → A5 → A6 → A7 → A8 → A9 → A10 → A11 → A12 → G) : G := k h.1 h.2.1 h.2.2.1 h.2.2.2.1 h.2.2.2.2.1 h.2.2.2.2.2.1 h.2.2.2.2.2.2.1 h.2.2.2.2.2.2.2.1 h.2.2.2.2.2.2.2.2.1 h.2.2.2.2.2.2.2.2.2.1 h.2.2.2.2.2.2.2.2.2.2.1 h.2.2.2.2.2.2.2.2.2.2.2
theorem an13 {A1 A2 A3 A4 A5 A6 A7 A8 A9 A10 A11 A12 A13 G : Prop} (h : A1 ∧ A2 ∧ A3 ∧ A4 ∧ A5 ∧ A6 ∧ A7 ∧ A8 ∧ A9 ∧ A10 ∧ A11 ∧ A12 ∧ A13) (k : A1 → A2 → A3 → A4 → A5 → A6 → A7 → A8 → A9 → A10 → A11 → A12 → A13 → G) : G := k h.1 h.2.1 h.2.2.1 h.2.2.2.1 h.2.2.2.2.1 h.2.2.2.2.2.1 h.2.2.2.2.2.2.1 h.2.2.2.2.2.2.2.1 h.2.2.2.2.2.2.2.2.1 h.2.2.2.2.2.2.2.2.2.1 h.2.2.2.2.2.2.2.2.2.2.1 h.2.2.2.2.2.2.2.2.2.2.2.1 h.2.2.2.2.2.2.2.2.2.2.2.2
theorem an14 {A1 A2 A3 A4 A5 A6 A7 A8 A9 A10 A11 A12 A13 A14 G : Prop} (h : A1 ∧ A2 ∧ A3 ∧ A4 ∧ A5 ∧ A6 ∧ A7 ∧ A8 ∧ A9 ∧ A10 ∧ A11 ∧ A12 ∧ A13 ∧ A14) (k : A1 → A2 → A3 → A4 → A5 → A6 → A7 → A8 → A9 → A10 → A11 → A12 → A13 → A14 → G) : G := k h.1 h.2.1 h.2.2.1 h.2.2.2.1 h.2.2.2.2.1 h.2.2.2.2.2.1 h.2.2.2.2.2.2.1 h.2.2.2.2.2.2.2.1 h.2.2.2.2.2.2.2.2.1 h.2.2.2.2.2.2.2.2.2.1 h.2.2.2.2.2.2.2.2.2.2.1 h.2.2.2.2.2.2.2.2.2.2.2.1 h.2.2.2.2.2.2.2.2.2.2.2.2.1 h.2.2.2.2.2.2.2.2.2.2.2.2.2
theorem an15 {A1 A2 A3 A4 A5 A6 A7 A8 A9 A10 A11 A12 A13 A14 A15 G : Prop} (h : A1 ∧ A2 ∧ A3 ∧ A4 ∧ A5 ∧ A6 ∧ A7 ∧ A8 ∧ A9 ∧ A10 ∧ A11 ∧ A12 ∧ A13 ∧ A14 ∧ A15) (k : A1 → A2 → A3 → A4 → A5 → A6 → A7 → A8 → A9 → A10 → A11 → A12 → A13 → A14 → A15 → G) : G := k h.1 h.2.1 h.2.2.1 h.2.2.2.1 h.2.2.2.2.1 h.2.2.2.2.2.1 h.2.2.2.2.2.2.1 h.2.2.2.2.2.2.2.1 h.2.2.2.2.2.2.2.2.1 h.2.2.2.2.2.2.2.2.2.1 h.2.2.2.2.2.2.2.2.2.2.1 h.2.2.2.2.2.2.2.2.2.2.2.1 h.2.2.2.2.2.2.2.2.2.2.2.2.1 h.2.2.2.2.2.2.2.2.2.2.2.2.2.1 h.2.2.2.2.2.2.2.2.2.2.2.2.2.2

abbrev Ar (dp un : Nat) (fr : Option (List Env)) (gd : Option (List Code)) : Around := { handled := none, depth := dp, frames := fr, guards := gd, units := un }

/-- what a def's frame gives back to the frame that called it -/
def Back (h₀ : Heap) (L : Addr) (m : PySem.Str → Option Value) (g : Heap) : Prop :=
  ∀ h' (news' : List (Addr × Obj)), g.StaysIn h' → (∀ p ∈ news', h'.get? p.1 = some p.2 ∧ g.get? p.1 = none) → Fr h₀ L h' m ∧ News h₀ L h' news'
theorem Back.use {h₀ : Heap} {L : Addr} {m : PySem.Str → Option Value} {g : Heap} {L' : Addr} {h' : Heap} {m' : PySem.Str → Option Value} {news' : List (Addr × Obj)} (B : Back h₀ L m g) (F' : Fr g L' h' m') (N' : News g L' h' news') : Fr h₀ L h' m ∧ News h₀ L h' news' :=
  B h' news' F'.keep fun p hp => ⟨(N' p hp).1, (N' p hp).2.2⟩

section
variable {prog : Program} {w : World} {A : Around} {s : Shared} {K : Frag} {L : Addr} {h₀ : Heap} {m mg mb : PySem.Str → Option Value} {news : List (Addr × Obj)} {p : Program} {loose : List PySem.Str} {mean : ExcName → Option Value}
  {name qual : PySem.Str} {params : Arguments} {body : List PySem.Stmt} {scope : Scope} {dV kV doc pm cdv ct oc : Value} {an od : Option Addr} {osl : Array (Option Value)} {f : Addr} {vs : List Value} {binds : List (PySem.Str × Value)} {Q E : Value → Shared → Prop}

theorem ground_ofX (xs : List Addr) (F : Fr h₀ L s.heap m) (hL : L ∉ xs) (hx : ∀ b ∈ xs, h₀.get? b = none) :
    h₀.StaysIn (hideAll s.heap xs) ∧ Back h₀ L m (hideAll s.heap xs) := by
  have nm : ∀ b o, h₀.get? b = some o → b ∉ xs := fun b o e q => by rw [hx b q] at e; cases e
  have st : h₀.StaysIn (hideAll s.heap xs) := fun b o e => hideAll_get _ (F.keep b o e) (nm b o e)
  obtain ⟨oL, es, ep, hLo, hLd, hLk, hLf⟩ := F.ns
  have hLg := hideAll_get xs hLo hL
  refine ⟨st, fun h' news' K' N' => ⟨⟨⟨oL, es, ep, K' L oL hLg, hLd, hLk, hLf⟩, fun b o e => K' b o (st b o e), F.above⟩, fun p hp => ⟨(N' p hp).1, fun q => ?_, ?_⟩⟩⟩
  · have := (N' p hp).2; rw [q, hLg] at this; cases this
  · cases q : h₀.get? p.1 with
    | none => rfl
    | some o => have := (N' p hp).2; rw [st _ _ q] at this; cases this
theorem ground_of (F : Fr h₀ L s.heap m) (N : News h₀ L s.heap news) :
    h₀.StaysIn (hideAll s.heap (news.map (·.1))) ∧ Back h₀ L m (hideAll s.heap (news.map (·.1))) :=
  ground_ofX _ F (fun q => by obtain ⟨p, hp, e⟩ := List.mem_map.mp q; exact (N p hp).2.1 e) fun b q => by
    obtain ⟨p, hp, rfl⟩ := List.mem_map.mp q
    exact (N p hp).2.2

theorem enterP (F : Fr h₀ L s.heap m) (X₀ : K.In h₀) (N : News h₀ L s.heap news) (T : Top p loose mean mg mb h₀)
    (ho : K.lookup f = some ⟨oc, od, .func (fnOf name qual params body scope dV kV doc pm an cdv ct), osl⟩) (hcd : codeIn K cdv qual = true) (hroom : A.depth < recursionLimit)
    (hbind : BindsTo s (fnOf name qual params body scope dV kV doc pm an cdv ct) ⟨vs, []⟩ binds) (hloc : ∀ y ∈ binds, scope.names.lookup y.1 = some .local)
    (h : ∀ g L' h₁, Back h₀ L m g → Fr g L' h₁ (fun y => binds.reverse.lookup y) → News g L' h₁ news → K.In g → Top p loose mean mg mb g → (∀ p ∈ news, p.1 < L') →
      wpAny (model prog w) (A.deeper (envX qual scope L' f cdv [])) (execs body (envX qual scope L' f cdv []))
        (fun fl s' => Q (match fl with | .ret v => v | _ => .none) s') (fun _ _ => False)
        { s with heap := h₁, toks := s.toks + binds.length })
    (hco : scope.isCoroutine = false) (hgen : scope.isGenerator = false) (hk : scope.kind = .function)
    (hcell : ∀ x ∈ scope.names, x.2 ≠ .cell) : wpAny (model prog w) A (call (.ref f) vs) Q E s := by
  obtain ⟨st, bk⟩ := ground_of F N
  refine wpAny_call (codeAny_call_def (fd := fnOf name qual params body scope dV kV doc pm an cdv ct) (body := body) (binds := binds) hroom ((X₀.keeps F.keep) _ _ ho) rfl (T.nolimit.keeps F.keep) (codeRec_of (X₀.keeps F.keep) hcd) rfl hbind hcell hloc (fun h₁ hns hk₁ => ?_) hco hgen hk)
  exact wpAny_mono (h _ s.heap.objs.size h₁ bk ⟨hns, fun b o e => hk₁ b o (of_hideAll _ e), Nat.le_of_eq (hideAll_size _ _)⟩
    (fun p hp => ⟨hk₁ _ _ (N p hp).1, Nat.ne_of_lt (Heap.lt_size (N p hp).1), hideAll_none _ (List.mem_map_of_mem hp)⟩) (X₀.keeps st) (T.keeps st) (fun p hp => Heap.lt_size (N p hp).1)) (fun fl s' hl => hl) fun _ _ y => y.elim

theorem enterC (F : Fr h₀ L s.heap m) (X₀ : K.In h₀) (N : News h₀ L s.heap news) (T : Top p loose mean mg mb h₀)
    (ho : K.lookup f = some ⟨oc, od, .func (fnOf name qual params body scope dV kV doc pm an cdv ct), osl⟩) (hcd : codeIn K cdv qual = true) (hroom : A.depth < recursionLimit)
    (hbind : BindsTo s (fnOf name qual params body scope dV kV doc pm an cdv ct) ⟨vs, []⟩ binds) (hkind : (binds.all fun y => scope.names.lookup y.1 == some .local || scope.names.lookup y.1 == some .cell) = true)
    (hnd : ((cellsFrom 0 scope.names []).map (·.1)).Nodup)
    (h : ∀ g L' h₁ tk cells, Back h₀ L m g → Fr g L' h₁ (bindL (envOfC qual scope L' f cdv).kindOf binds fun _ => none) → News g L' h₁ (cells ++ news) →
      CellsAre (bindC (envOfC qual scope L' f cdv).kindOf binds fun _ => none) (cellsFrom (L' + 1) scope.names []) cells → K.In g → Top p loose mean mg mb g → (∀ p ∈ news, p.1 < L') →
      wpAny (model prog w) (A.deeper (envX qual scope L' f cdv (cellsFrom (L' + 1) scope.names []))) (execs body (envX qual scope L' f cdv (cellsFrom (L' + 1) scope.names [])))
        (fun fl s' => Q (match fl with | .ret v => v | _ => .none) s') (fun _ _ => False)
        { s with heap := h₁, toks := tk })
    (hco : scope.isCoroutine = false) (hgen : scope.isGenerator = false) (hk : scope.kind = .function) : wpAny (model prog w) A (call (.ref f) vs) Q E s := by
  obtain ⟨st, bk⟩ := ground_of F N
  refine wpAny_call (codeAny_call_function (fd := fnOf name qual params body scope dV kV doc pm an cdv ct) hroom ((X₀.keeps F.keep) _ _ ho) rfl hco hgen rfl (codeRec_of (X₀.keeps F.keep) hcd) (hbind _ _ _ _ ?_))
  refine wpAny_newFunctionEnv_cells hk (kindsX hkind _) fun env' he s' x => ?_
  subst he
  refine ⟨(T.nolimit.keeps F.keep).keeps x.toInCall.keep, codeAny_func ?_⟩
  obtain ⟨h₁, tk, rfl, _⟩ := x.done
  have hk₁ := x.toInCall.keep
  obtain ⟨cells, NC, Y⟩ := Cl.news (h₀ := s.heap) (Nat.le_refl _) fun n c hm => ⟨x.cell n c (lookup_of_mem_nodup (cellsFrom_names scope.names 0 (s.heap.objs.size + 1) [] [] rfl ▸ hnd) hm), x.above n c hm⟩
  refine wpAny_mono (h _ s.heap.objs.size h₁ tk cells bk ⟨x.toInCall.ns, fun b o e => hk₁ b o (of_hideAll _ e), Nat.le_of_eq (hideAll_size _ _)⟩ (fun p hp => ?_) Y (X₀.keeps st) (T.keeps st) (fun p hp => Heap.lt_size (N p hp).1)) (fun fl s' hl => hl) fun _ _ y => y.elim
  rcases List.mem_append.mp hp with hp | hp
  · refine ⟨(NC p hp).1, (NC p hp).2.1, ?_⟩
    cases q : (hideAll s.heap (news.map (·.1))).get? p.1 with
    | none => rfl
    | some o => have := of_hideAll _ q; rw [(NC p hp).2.2] at this; cases this
  · exact ⟨hk₁ _ _ (N p hp).1, Nat.ne_of_lt (Heap.lt_size (N p hp).1), hideAll_none _ (List.mem_map_of_mem hp)⟩

/-- entering a def that stands on the ledger -/
theorem enterN {cl : List (PySem.Str × Addr)} {c' : Addr} {ctv : Value} (F : Fr h₀ L s.heap m) (X₀ : K.In h₀) (N : News h₀ L s.heap news) (T : Top p loose mean mg mb h₀)
    (ho : (f, fnMade name qual params body scope cl doc pm c' ctv) ∈ news) (hcd : s.heap.CodeRec (.ref c') qual) (hroom : A.depth < recursionLimit)
    (hbind : BindsTo s (fnX name qual params body scope cl .none .none doc pm none (.ref c') ctv) ⟨vs, []⟩ binds) (hloc : ∀ y ∈ binds, scope.names.lookup y.1 = some .local)
    (h : ∀ g L' h₁, Back h₀ L m g → Fr g L' h₁ (fun y => binds.reverse.lookup y) → News g L' h₁ news → K.In g → Top p loose mean mg mb g → (∀ p ∈ news, p.1 < L') →
      wpAny (model prog w) (A.deeper (envX qual scope L' f (.ref c') cl)) (execs body (envX qual scope L' f (.ref c') cl))
        (fun fl s' => Q (match fl with | .ret v => v | _ => .none) s') (fun _ _ => False)
        { s with heap := h₁, toks := s.toks + binds.length })
    (hco : scope.isCoroutine = false) (hgen : scope.isGenerator = false) (hk : scope.kind = .function)
    (hcell : ∀ x ∈ scope.names, x.2 ≠ .cell) : wpAny (model prog w) A (call (.ref f) vs) Q E s := by
  obtain ⟨st, bk⟩ := ground_of F N
  refine wpAny_call (codeAny_call_def (fd := fnX name qual params body scope cl .none .none doc pm none (.ref c') ctv) (body := body) (binds := binds) hroom (N _ ho).1 rfl (T.nolimit.keeps F.keep) hcd rfl hbind hcell hloc (fun h₁ hns hk₁ => ?_) hco hgen hk)
  exact wpAny_mono (h _ s.heap.objs.size h₁ bk ⟨hns, fun b o e => hk₁ b o (of_hideAll _ e), Nat.le_of_eq (hideAll_size _ _)⟩
    (fun p hp => ⟨hk₁ _ _ (N p hp).1, Nat.ne_of_lt (Heap.lt_size (N p hp).1), hideAll_none _ (List.mem_map_of_mem hp)⟩) (X₀.keeps st) (T.keeps st) (fun p hp => Heap.lt_size (N p hp).1)) (fun fl s' hl => hl) fun _ _ y => y.elim

/-- the code table P of the code object c, its one nested def's code made or not yet -/
def TabP (P : Addr) (pos : Pos) (qual : PySem.Str) (t : List (Addr × Obj)) : Prop :=
  t = [(P, tabObj #[])] ∨ ∃ (c' : Addr) (oc : Obj) (vs : Array Value) (tk : Tok), t = [(P, tabObj #[rawInt pos.line, rawInt pos.col, .ref c']), (c', oc)] ∧ oc.data = .fields vs ∧ vs[1]? = some (.str qual tk)

theorem TabP.lt {P : Addr} {pos : Pos} {q : PySem.Str} {t r : List (Addr × Obj)} {L : Addr} (ht : TabP P pos q t) (h : ∀ p ∈ t ++ r, p.1 < L) : @LT.lt Nat _ P L := by
  rcases ht with rfl | ⟨_, _, _, _, rfl, _⟩
  · exact h _ (List.mem_append_left _ (List.Mem.head _))
  · exact h _ (List.mem_append_left _ (List.Mem.head _))
theorem ltHd {a f : Addr} {o : Obj} {r : List (Addr × Obj)} (h : ∀ q ∈ (a, o) :: r, q.1 < f) : @LT.lt Nat _ a f := h _ (List.Mem.head _)
theorem nest_off {P : Addr} {tb tb' rest pre : List (Addr × Obj)} {L' c : Addr} {o : Obj} (l1 : ∀ p ∈ tb ++ rest, p.1 < L') (l3 : ∀ q ∈ tb', q.1 = P ∨ q ∈ tb ∨ ∀ x ∈ pre ++ (tb ++ rest), x.1 < q.1) (hP : P < L') (hc : L' ≤ c) (hm : (c, o) ∈ pre) :
    ∀ p ∈ tb' ++ rest, p.1 ≠ c := by
  intro p hp e
  subst e
  rcases List.mem_append.mp hp with hp | hp
  · rcases l3 p hp with e | e | e
    · rw [e] at hc; exact absurd (Nat.lt_of_lt_of_le hP hc) (Nat.lt_irrefl _)
    · exact absurd (Nat.lt_of_lt_of_le (l1 p (List.mem_append_left _ e)) hc) (Nat.lt_irrefl _)
    · exact absurd (e _ (List.mem_append_left _ hm)) (Nat.lt_irrefl _)
  · exact absurd (Nat.lt_of_lt_of_le (l1 p (List.mem_append_right _ hp)) hc) (Nat.lt_irrefl _)
theorem nestAny {M : Model} {ccd : Value} {cn : PySem.Str} {cs : Scope} {a c P : Addr} {cl clos : List (PySem.Str × Addr)} {firstLine : Nat} {pos : Pos} {Q : Value → Shared → Prop} {pre tb rest : List (Addr × Obj)}
    (F : Fr h₀ L s.heap m) (N : News h₀ L s.heap (pre ++ (tb ++ rest))) (T : Top p loose mean mg mb h₀) (C : CodeHd h₀ c P) (hcd : ccd = .ref c) (ht : TabP P pos qual tb) (hpre : ∀ p ∈ pre, p.1 ≠ P) (hrest : ∀ p ∈ rest, p.1 ≠ P)
    (hcl : closureFor scope (envX cn cs L a ccd cl) = pure clos)
    (h : ∀ f c' ctv doc h' tk tb', TabP P pos qual tb' → Fr h₀ L h' m → News h₀ L h' ((f, fnMade name qual params body scope clos doc ((mg "__name__").getD .none) c' ctv) :: (pre ++ (tb' ++ rest))) → h'.CodeRec (.ref c') qual →
      (∃ oc vs t, (c', oc) ∈ tb' ∧ oc.data = .fields vs ∧ vs[1]? = some (.str qual t)) → (∀ q ∈ pre ++ (tb' ++ rest), q.1 < f) → (∀ q ∈ tb', q.1 = P ∨ (q ∈ tb) ∨ (∀ x ∈ pre ++ (tb ++ rest), x.1 < q.1)) → Q (.ref f) { s with heap := h', toks := tk }) :
    wpAny M A (makeFunction name qual params (.stmts body) scope (envX cn cs L a ccd cl) [] [] [] pos firstLine) Q E s := by
  rcases ht with rfl | ⟨c', oc, vs, t, rfl, hd, hv⟩
  · have N₂ : News h₀ L s.heap ((P, tabObj #[]) :: (pre ++ rest)) := fun q hq => N q (by
      rcases List.mem_cons.mp hq with rfl | hq
      · simp
      · rcases List.mem_append.mp hq with hq | hq
        · exact List.mem_append_left _ hq
        · exact List.mem_append_right _ (List.mem_append_right _ hq))
    refine nest_K F N₂ T C hcd (UpdF.head fun q hq => (List.mem_append.mp hq).elim (hpre q) (hrest q)) trivial rfl hcl fun f c' oc vs t ctv doc h' tk F' N' hd hv l1 l2 => ?_
    rw [Array.empty_append] at N'
    refine h f c' ctv doc h' tk [(P, tabObj #[rawInt pos.line, rawInt pos.col, .ref c']), (c', oc)] (.inr ⟨c', oc, vs, t, rfl, hd, hv⟩) F' (fun q hq => N' q ?_) ⟨c', oc, vs, t, rfl, (N' (c', oc) (by simp)).1, hd, hv⟩ ⟨oc, vs, t, by simp, hd, hv⟩ (fun q hq => ?_) (fun q hq => ?_)
    · simp only [List.mem_cons, List.mem_append, List.not_mem_nil, or_false] at hq ⊢
      rcases hq with hq | hq | (hq | hq) | hq
      · exact .inl hq
      · exact .inr (.inr (.inr (.inl hq)))
      · exact .inr (.inr (.inl hq))
      · exact .inr (.inl hq)
      · exact .inr (.inr (.inr (.inr hq)))
    · simp only [List.mem_cons, List.mem_append, List.not_mem_nil, or_false] at hq
      rcases hq with hq | (hq | hq) | hq
      · exact Nat.lt_trans (l1 q (by simp [hq])) l2
      · subst hq; exact Nat.lt_trans (l1 (P, tabObj #[]) (by simp)) l2
      · subst hq; exact l2
      · exact Nat.lt_trans (l1 q (by simp [hq])) l2
    · simp only [List.mem_cons, List.not_mem_nil, or_false] at hq
      rcases hq with rfl | rfl
      · exact .inl rfl
      · refine .inr (.inr fun x hx => l1 x ?_)
        simp only [List.mem_cons, List.mem_append, List.not_mem_nil, or_false] at hx ⊢
        rcases hx with hx | hx | hx
        · exact .inr (.inl hx)
        · exact .inl hx
        · exact .inr (.inr hx)
  · refine nestHit_K F N T C hcd (ps := #[rawInt pos.line, rawInt pos.col, .ref c']) (c' := c') (by simp) (by simp [TriplesOk, rawInt]) (by simp [codeAmong, rawInt]) hcl fun f ctv doc h' tk F' N' l1 => ?_
    exact h f c' ctv doc h' tk _ (.inr ⟨c', oc, vs, t, rfl, hd, hv⟩) F' N' ⟨c', oc, vs, t, rfl, (N' (c', oc) (by simp)).1, hd, hv⟩ ⟨oc, vs, t, by simp, hd, hv⟩ l1 (fun q hq => .inr (.inl hq))
end

/-- a call of f upon vs with the ledger `news`: it gives back r and leaves tl on the ledger -/
def Clm (w : World) (p : Program) (loose : List PySem.Str) (mean : ExcName → Option Value) (mg mb : PySem.Str → Option Value) (f : Addr) (vs : List Value) (d u : Nat) (news : List (Addr × Obj))
    (Post : Value → List (Addr × Obj) → Prop) : Prop :=
  ∀ (dp un : Nat) (fr : Option (List Env)) (gd : Option (List Code)) (h₀ : Heap) (L : Addr) (m : PySem.Str → Option Value) (s : Shared) (Q E : Value → Shared → Prop),
    Fr h₀ L s.heap m → (KF w.params).In h₀ → News h₀ L s.heap news → Top p loose mean mg mb h₀ → dp + d < recursionLimit → un + u < cLine →
    (∀ (r : Value) (h' : Heap) (tk' : Nat) (tl : List (Addr × Obj)), Fr h₀ L h' m → News h₀ L h' (tl ++ news) → Post r tl → Q r { s with heap := h', toks := tk' }) →
    wpAny (model PySem.Challenge.rw_sn0069_01.row.prog w) (Ar dp un fr gd) (call (.ref f) vs) Q E s
end
section
section
variable {prog : Program} {w : World} {A : Around} {E : Value → Shared → Prop} {s : Shared} {env : Env} {h₀ : Heap} {x : PySem.Str} {body : List PySem.Stmt} {Q : Flow → Shared → Prop}

abbrev LO (xs : List Value) (k : Nat) : Obj := { cls := .type "list", data := .seq xs.toArray k }
abbrev TO (xs : List Value) (k : Nat) : Obj := { cls := .type "tuple", data := .seq xs.toArray k }

/-- the end of a turn -/
def TEnd (h₀ : Heap) (L : Addr) (wr : List Addr) (own : List (Addr × Obj)) (J : (PySem.Str → Option Value) → List (Addr × Obj) → Prop) (s₁ s₂ : Shared) : Prop :=
  ∃ h' tk m' all nx, s₂ = { s₁ with heap := h', toks := tk } ∧ Fr h₀ L h' m' ∧ News h₀ L h' all ∧ (∀ p ∈ nx, p ∈ all) ∧ (∀ p ∈ own, p ∈ all) ∧ (∀ p ∈ nx, p.1 ∉ wr) ∧ J m' nx
theorem TEnd.intro {L : Addr} {wr : List Addr} {own : List (Addr × Obj)} {J : (PySem.Str → Option Value) → List (Addr × Obj) → Prop} {s₁ : Shared} {h' : Heap} {tk : Nat} {m' : PySem.Str → Option Value} {all : List (Addr × Obj)} (nx : List (Addr × Obj))
    (F : Fr h₀ L h' m') (N : News h₀ L h' all) (h1 : ∀ p ∈ nx, p ∈ all) (h2 : ∀ p ∈ own, p ∈ all) (h3 : ∀ p ∈ nx, p.1 ∉ wr) (hJ : J m' nx) : TEnd h₀ L wr own J s₁ { s₁ with heap := h', toks := tk } :=
  ⟨h', tk, m', all, nx, rfl, F, N, h1, h2, h3, hJ⟩
def TPost (h₀ : Heap) (L : Addr) (wr : List Addr) (own : List (Addr × Obj)) (J : (PySem.Str → Option Value) → List (Addr × Obj) → Prop) (s₁ : Shared) (Q : Flow → Shared → Prop) (f : Flow) (s₂ : Shared) : Prop :=
  match f with
  | .ret v => Q (.ret v) s₂
  | .brk => Q .next s₂
  | _ => TEnd h₀ L wr own J s₁ s₂

theorem loopG {I : Addr} {fp wr : List Addr} {n : Nat} {P : Nat → Value → Prop} {St : Nat → Heap → Prop} {m₀ : PySem.Str → Option Value} {news : List (Addr × Obj)} (W : Walks prog w A I fp wr n P St)
    (hLf : env.locals ∉ fp) (hwr : ∀ b ∈ wr, h₀.get? b = none) (hnw : ∀ p ∈ news, p.1 ∉ wr) (hst : St 0 s.heap) (F : Fr h₀ env.locals s.heap m₀) (N : News h₀ env.locals s.heap news)
    (J : Nat → (PySem.Str → Option Value) → List (Addr × Obj) → Prop) (h0 : J 0 m₀ news)
    (turn : ∀ i v m₁ news₁ h tk own, i < n → P i v → J i m₁ news₁ → (∀ p ∈ news₁, p.1 ∉ wr) → (∀ b ∈ wr, ∃ o, (b, o) ∈ own) → (∀ p ∈ own, p.1 ∈ fp) → Fr h₀ env.locals h (fun y => if y = x then some v else m₁ y) → News h₀ env.locals h (news₁ ++ own) →
      wpAny (model prog w) A (execs body env) (TPost h₀ env.locals wr own (J (i + 1)) { s with heap := h, toks := tk } Q) E { s with heap := h, toks := tk })
    (hStI : ∀ i h, St i h → ∀ b ∈ wr, ∃ o, h.get? b = some o)
    (done : ∀ m₁ news₁ h tk, J n m₁ news₁ → Fr h₀ env.locals h m₁ → News h₀ env.locals h news₁ → Q .next { s with heap := h, toks := tk }) :
    LoopAtV prog w A h₀ env x body Q E (.ref I) s := by
  refine ⟨I, fp, wr, n, P, St, m₀, news, J, rfl, W, hLf, hwr, hnw, hst, F, N, h0, ?_, ?_⟩
  · rintro i v m₁ news₁ s₁ own ⟨h, tk, rfl⟩ hi hP hJ hn₁ hfp _ hown hst₁ F₁ N₁
    refine wpAny_mono (turn i v m₁ news₁ h tk own hi hP hJ hn₁ (fun b hb => ?_) hfp F₁ (fun p hp => N₁ p ((List.mem_append.mp hp).elim (fun q => List.mem_append.mpr (.inr q)) fun q => List.mem_append.mpr (.inl q)))) (fun f s₂ p => ?_) fun _ _ e => e
    · obtain ⟨o, ho⟩ := hStI _ _ hst₁ b hb
      exact ⟨o, hown b (W.sub b hb) (hwr b hb) o ho⟩
    have fin : TEnd h₀ env.locals wr own (J (i + 1)) { s with heap := h, toks := tk } s₂ → LoopStepU h₀ env.locals wr own (J (i + 1)) { s with heap := h, toks := tk } .next s₂ := by
      rintro ⟨h', tk', m', all, nx, e, F', N', hn, ho, hw, hj⟩
      exact ⟨rfl, h', tk', m', nx, e, F', fun p hp => N' p ((List.mem_append.mp hp).elim (ho p) (hn p)), hw, hj⟩
    cases f with
    | ret v => exact .ret p
    | brk => exact .brk p
    | next => exact .next (fin p)
    | cont => exact .cont (fin p)
  · rintro h' tk m' news' F' N' _ hJ
    exact done m' news' h' tk hJ F' N'

/-- for .. in a list that stands on the ledger -/
theorem forList {l : Addr} {vs : List Value} {k : Nat} {m₀ : PySem.Str → Option Value} {news : List (Addr × Obj)} (J : Nat → (PySem.Str → Option Value) → List (Addr × Obj) → Prop)
    (hh : A.handled = none) (hl : (l, LO vs k) ∈ news) (F : Fr h₀ env.locals s.heap m₀) (N : News h₀ env.locals s.heap news) (h0 : J 0 m₀ news)
    (turn : ∀ i v m₁ news₁ h tk own I, vs[i]? = some v → J i m₁ news₁ → (∀ p ∈ news₁, p.1 ≠ I) → (∃ o, (I, o) ∈ own) → (∀ p ∈ own, p.1 = I ∨ p.1 = l) → Fr h₀ env.locals h (fun y => if y = x then some v else m₁ y) → News h₀ env.locals h (news₁ ++ own) →
      wpAny (model prog w) A (execs body env) (TPost h₀ env.locals [I] own (J (i + 1)) { s with heap := h, toks := tk } Q) E { s with heap := h, toks := tk })
    (done : ∀ m₁ news₁ h tk, J vs.length m₁ news₁ → Fr h₀ env.locals h m₁ → News h₀ env.locals h news₁ → Q .next { s with heap := h, toks := tk }) :
    wpAny (model prog w) A (pyIter (.ref l)) (fun it s₂ => LoopAtV prog w A h₀ env x body Q E it s₂) E s := by
  have hll := N _ hl
  have hls : s.heap.IsList l vs.toArray := ⟨_, hll.1, rfl, _, rfl⟩
  have hlt : l < s.heap.objs.size := Heap.lt_size hll.1
  have hne : l ≠ s.heap.objs.size := Nat.ne_of_lt hlt
  refine wpAny_pyIter_list hls ?_
  have W := Walks.list (prog := prog) (w := w) hh s.heap.objs.size l hne vs.toArray
  have hlen : vs.toArray.size = vs.length := by simp
  rw [hlen] at W
  refine loopG (J := J) W ?_ ?_ ?_ ⟨⟨_, Heap.get?_push_size _ rfl, rfl, rfl⟩, hls.at fun o e => Heap.get?_push_of_some _ e⟩ (F.push _) (fun p hp => ⟨Heap.get?_push_of_some _ (N p hp).1, (N p hp).2⟩) h0 ?_ ?_ ?_
  · intro hm
    rcases List.mem_cons.mp hm with e | hm
    · exact absurd F.ns.lt (e ▸ Nat.lt_irrefl _)
    · exact hll.2.1 (List.mem_singleton.mp hm).symm
  · intro b hb
    rw [List.mem_singleton.mp hb]
    exact next_is_new F
  · intro p hp hI
    exact absurd (Heap.lt_size (N p hp).1) ((List.mem_singleton.mp hI) ▸ Nat.lt_irrefl _)
  · intro i v m₁ news₁ h tk own hi hP hJ h1 h2 h3 F₁ N₁
    have hP' : vs[i]? = some v := by simpa using hP
    exact turn i v m₁ news₁ h tk own s.heap.objs.size hP' hJ (fun p hp e => h1 p hp (by rw [e]; exact List.mem_singleton.mpr rfl)) (h2 _ (List.mem_singleton.mpr rfl)) (fun p hp => (List.mem_cons.mp (h3 p hp)).imp id List.mem_singleton.mp) F₁ N₁
  · intro i h hst b hb
    rw [List.mem_singleton.mp hb]
    obtain ⟨o, ho, _⟩ := hst.1
    exact ⟨o, ho⟩
  · exact done

theorem forRange {r : Addr} {a₀ b₀ : Int} {t₀ u₀ v₀ : Tok} {n : Nat} {m₀ : PySem.Str → Option Value} {news : List (Addr × Obj)} (J : Nat → (PySem.Str → Option Value) → List (Addr × Obj) → Prop)
    (hh : A.handled = none) (hr : IsRange s.heap r a₀ b₀ 1 t₀ u₀ v₀) (hsmall : Builtin.Range.small a₀ b₀ 1 = true) (hn : Builtin.Range.rangeSize a₀ b₀ 1 = (n : Int)) (F : Fr h₀ env.locals s.heap m₀) (N : News h₀ env.locals s.heap news) (h0 : J 0 m₀ news)
    (turn : ∀ i t m₁ news₁ h tk own I, i < n → J i m₁ news₁ → (∀ p ∈ news₁, p.1 ≠ I) → (∃ o, (I, o) ∈ own) → (∀ p ∈ own, p.1 = I) → Fr h₀ env.locals h (fun y => if y = x then some (.int (a₀ + (i : Int)) t) else m₁ y) → News h₀ env.locals h (news₁ ++ own) →
      wpAny (model prog w) A (execs body env) (TPost h₀ env.locals [I] own (J (i + 1)) { s with heap := h, toks := tk } Q) E { s with heap := h, toks := tk })
    (done : ∀ m₁ news₁ h tk, J n m₁ news₁ → Fr h₀ env.locals h m₁ → News h₀ env.locals h news₁ → Q .next { s with heap := h, toks := tk }) :
    wpAny (model prog w) A (pyIter (.ref r)) (fun it s₂ => LoopAtV prog w A h₀ env x body Q E it s₂) E s := by
  refine wpAny_pyIter_range hr hsmall ?_
  have W : Walks prog w A s.heap.objs.size [s.heap.objs.size] [s.heap.objs.size] n (fun i v => i < n ∧ ∃ t, v = .int (a₀ + i * 1) t)
      (fun i h => IsRangeIter h s.heap.objs.size (a₀ + (i : Nat) * 1) ((n : Int) - (i : Nat)) 1) := (Walks.range hh _ a₀ 1 n).bound
  refine loopG (J := J) W ?_ ?_ ?_ (by show IsRangeIter _ _ _ _ _; rw [hn]; simpa using Heap.get?_push_size _ rfl) (F.push _) (fun p hp => ⟨Heap.get?_push_of_some _ (N p hp).1, (N p hp).2⟩) h0 ?_ ?_ ?_
  · intro hm
    exact absurd F.ns.lt ((List.mem_singleton.mp hm) ▸ Nat.lt_irrefl _)
  · intro b hb
    rw [List.mem_singleton.mp hb]
    exact next_is_new F
  · intro p hp hI
    exact absurd (Heap.lt_size (N p hp).1) ((List.mem_singleton.mp hI) ▸ Nat.lt_irrefl _)
  · rintro i v m₁ news₁ h tk own hi ⟨_, t, rfl⟩ hJ h1 h2 h3 F₁ N₁
    rw [Int.mul_one] at F₁
    exact turn i t m₁ news₁ h tk own s.heap.objs.size hi hJ (fun p hp e => h1 p hp (by rw [e]; exact List.mem_singleton.mpr rfl)) (h2 _ (List.mem_singleton.mpr rfl)) (fun p hp => List.mem_singleton.mp (h3 p hp)) F₁ N₁
  · intro i h hst b hb
    rw [List.mem_singleton.mp hb]
    exact ⟨_, hst⟩
  · exact done

theorem forStr {y : PySem.Str} {t : Tok} {m₀ : PySem.Str → Option Value} {news : List (Addr × Obj)} (J : Nat → (PySem.Str → Option Value) → List (Addr × Obj) → Prop)
    (hh : A.handled = none) (F : Fr h₀ env.locals s.heap m₀) (N : News h₀ env.locals s.heap news) (h0 : J 0 m₀ news)
    (turn : ∀ i c u m₁ news₁ h tk own I, y.cps[i]? = some c → J i m₁ news₁ → (∀ p ∈ news₁, p.1 ≠ I) → (∃ o, (I, o) ∈ own) → (∀ p ∈ own, p.1 = I) → Fr h₀ env.locals h (fun z => if z = x then some (.str ⟨#[c]⟩ u) else m₁ z) → News h₀ env.locals h (news₁ ++ own) →
      wpAny (model prog w) A (execs body env) (TPost h₀ env.locals [I] own (J (i + 1)) { s with heap := h, toks := tk } Q) E { s with heap := h, toks := tk })
    (done : ∀ m₁ news₁ h tk, J y.cps.size m₁ news₁ → Fr h₀ env.locals h m₁ → News h₀ env.locals h news₁ → Q .next { s with heap := h, toks := tk }) :
    wpAny (model prog w) A (pyIter (.str y t)) (fun it s₂ => LoopAtV prog w A h₀ env x body Q E it s₂) E s := by
  have gen : ∀ (o : Obj) (St : Nat → Heap → Prop), (∀ i h, St i h → ∃ o, h.get? s.heap.objs.size = some o) → Walks prog w A s.heap.objs.size [s.heap.objs.size] [s.heap.objs.size] y.cps.size (SignAt y) St → St 0 (s.heap.push o) →
      LoopAtV prog w A h₀ env x body Q E (.ref s.heap.objs.size) { s with heap := s.heap.push o } := by
    intro o St hSt W hst
    refine loopG (J := J) W ?_ ?_ ?_ hst (F.push _) (fun p hp => ⟨Heap.get?_push_of_some _ (N p hp).1, (N p hp).2⟩) h0 ?_ ?_ ?_
    · intro hm
      exact absurd F.ns.lt ((List.mem_singleton.mp hm) ▸ Nat.lt_irrefl _)
    · intro b hb
      rw [List.mem_singleton.mp hb]
      exact next_is_new F
    · intro p hp hI
      exact absurd (Heap.lt_size (N p hp).1) ((List.mem_singleton.mp hI) ▸ Nat.lt_irrefl _)
    · rintro i v m₁ news₁ h tk own hi ⟨c, u, hc, rfl⟩ hJ h1 h2 h3 F₁ N₁
      exact turn i c u m₁ news₁ h tk own s.heap.objs.size hc hJ (fun p hp e => h1 p hp (by rw [e]; exact List.mem_singleton.mpr rfl)) (h2 _ (List.mem_singleton.mpr rfl)) (fun p hp => List.mem_singleton.mp (h3 p hp)) F₁ N₁
    · intro i h hst b hb
      rw [List.mem_singleton.mp hb]
      exact hSt i h hst
    · exact done
  cases ha : y.cps.all (· < 128)
  · exact wpAny_pyIter_wide ha (gen _ _ (fun i h hs => let ⟨o, ho, _⟩ := hs; ⟨o, ho⟩) (Walks.strWide hh _ y t) ⟨_, Heap.get?_push_size _ rfl, rfl, rfl⟩)
  · exact wpAny_pyIter_ascii ha (gen _ _ (fun i h hs => let ⟨o, ho, _⟩ := hs; ⟨o, ho⟩) (Walks.strAscii hh _ y t) ⟨_, Heap.get?_push_size _ rfl, rfl, rfl⟩)

/-- for .. in reversed(list), the iterator on the ledger -/
theorem forRev {l I : Addr} {vs : List Value} {k : Nat} {m₀ : PySem.Str → Option Value} {news : List (Addr × Obj)} (J : Nat → (PySem.Str → Option Value) → List (Addr × Obj) → Prop)
    (hh : A.handled = none) (hl : (l, LO vs k) ∈ news) (F : Fr h₀ env.locals s.heap m₀) (N : News h₀ env.locals s.heap ((I, revObj l ((vs.length : Int) - 1)) :: news)) (hnI : ∀ p ∈ news, p.1 ≠ I) (h0 : J 0 m₀ news)
    (turn : ∀ i v m₁ news₁ h tk own, i < vs.length → vs[vs.length - 1 - i]? = some v → J i m₁ news₁ → (∀ p ∈ news₁, p.1 ≠ I) → (∃ o, (I, o) ∈ own) → (∀ p ∈ own, p.1 = I ∨ p.1 = l) → Fr h₀ env.locals h (fun y => if y = x then some v else m₁ y) → News h₀ env.locals h (news₁ ++ own) →
      wpAny (model prog w) A (execs body env) (TPost h₀ env.locals [I] own (J (i + 1)) { s with heap := h, toks := tk } Q) E { s with heap := h, toks := tk })
    (done : ∀ m₁ news₁ h tk, J vs.length m₁ news₁ → Fr h₀ env.locals h m₁ → News h₀ env.locals h news₁ → Q .next { s with heap := h, toks := tk }) :
    wpAny (model prog w) A (pyIter (.ref I)) (fun it s₂ => LoopAtV prog w A h₀ env x body Q E it s₂) E s := by
  have hI := N _ (List.mem_cons_self ..)
  have hll := N _ (List.mem_cons_of_mem _ hl)
  have hls : s.heap.IsList l vs.toArray := ⟨_, hll.1, rfl, _, rfl⟩
  have hne : l ≠ I := hnI _ hl
  have hit : s.heap.IsRevIter I l ((vs.toArray.size : Int) - 1) := ⟨_, hI.1, rfl, by simp [revObj]⟩
  refine wpAny_pyIter_revIter hit ?_
  have W := Walks.listRev (prog := prog) (w := w) hh I l hne vs.toArray
  have hlen : vs.toArray.size = vs.length := by simp
  refine loopG (J := J) W ?_ ?_ ?_ ⟨Nat.zero_le _, by simpa using hit, hls⟩ F (fun p hp => N p (List.mem_cons_of_mem _ hp)) h0 ?_ ?_ ?_
  · intro hm
    rcases List.mem_cons.mp hm with e | hm
    · exact hI.2.1 e.symm
    · exact hll.2.1 (List.mem_singleton.mp hm).symm
  · intro b hb
    rw [List.mem_singleton.mp hb]
    exact hI.2.2
  · intro p hp hI
    exact hnI p hp (List.mem_singleton.mp hI)
  · intro i v m₁ news₁ h tk own hi hP hJ h1 h2 h3 F₁ N₁
    rw [hlen] at hi hP
    have hP' : vs[vs.length - 1 - i]? = some v := by simpa using hP
    exact turn i v m₁ news₁ h tk own hi hP' hJ (fun p hp e => h1 p hp (by rw [e]; exact List.mem_singleton.mpr rfl)) (h2 _ (List.mem_singleton.mpr rfl)) (fun p hp => (List.mem_cons.mp (h3 p hp)).imp id List.mem_singleton.mp) F₁ N₁
  · intro i h hst b hb
    rw [List.mem_singleton.mp hb]
    obtain ⟨o, ho, _⟩ := hst.2.1
    exact ⟨o, ho⟩
  · rw [hlen]; exact done
end
end
section
section
variable {prog : Program} {w : World} {A : Around} {s : Shared} {env : Env} {R : Result → Shared → Prop}

def CEnd (g : Heap) (C : Addr) (wr : List Addr) (own : List (Addr × Obj)) (D : Addr) (ys : List Value) (k : Nat) (J : List (Addr × Obj) → Prop) (s₁ s₂ : Shared) : Prop :=
  ∃ h' tk m' all nx, s₂ = { s₁ with heap := h', toks := tk } ∧ Fr g C h' m' ∧ News g C h' all ∧ (D, LO ys k) ∈ all ∧ (∀ p ∈ nx, p ∈ all) ∧ (∀ p ∈ own, p ∈ all) ∧ (∀ p ∈ nx, p.1 ∉ wr ∧ p.1 ≠ D) ∧ J nx
theorem CEnd.intro {g : Heap} {C : Addr} {wr : List Addr} {own : List (Addr × Obj)} {D : Addr} {ys : List Value} {k : Nat} {J : List (Addr × Obj) → Prop} {s₁ : Shared} {h' : Heap} {tk : Nat} {m' : PySem.Str → Option Value} {all : List (Addr × Obj)} (nx : List (Addr × Obj))
    (F : Fr g C h' m') (N : News g C h' all) (hD : (D, LO ys k) ∈ all) (h1 : ∀ p ∈ nx, p ∈ all) (h2 : ∀ p ∈ own, p ∈ all) (h3 : ∀ p ∈ nx, p.1 ∉ wr ∧ p.1 ≠ D) (hJ : J nx) : CEnd g C wr own D ys k J s₁ { s₁ with heap := h', toks := tk } :=
  ⟨h', tk, m', all, nx, rfl, F, N, hD, h1, h2, h3, hJ⟩

abbrev tests (ifs : List PySem.Expr) (cenv : Env) : Sem Bool := forIn ifs true fun c r => if r = true then do let ok ← isTrue c cenv (eval c cenv); pure (ForInStep.yield ok) else pure (ForInStep.yield r)

abbrev CInv (s : Shared) (g : Heap) (C D : Addr) (wr : List Addr) (n : Nat) (St : Nat → Heap → Prop) (J : Nat → List Value → List (Addr × Obj) → Prop) (q : Nat) (s' : Shared) : Prop :=
  ∃ h' tk m' news' ys k i, s' = { s with heap := h', toks := tk } ∧ St i h' ∧ Fr g C h' m' ∧ News g C h' ((D, LO ys k) :: news') ∧ (∀ p ∈ news', p.1 ∉ wr ∧ p.1 ≠ D) ∧ J i ys news' ∧ ys.length ≤ i ∧ i ≤ n ∧ q = n + 1 - i
theorem compLoopG {elt iter target : PySem.Expr} {ifs : List PySem.Expr} {scope : Scope} {pos : Pos} {cenv : Env} {g : Heap} {I D : Addr} {fp wr : List Addr} {n : Nat} {P : Nat → Value → Prop} {St : Nat → Heap → Prop} {m₀ : PySem.Str → Option Value} {news : List (Addr × Obj)} {k₀ : Nat}
    (W : Walks prog w A I fp wr n P St) (hLf : cenv.locals ∉ fp) (hwr : ∀ b ∈ wr, g.get? b = none) (hnw : ∀ p ∈ news, p.1 ∉ wr ∧ p.1 ≠ D) (hDf : D ∉ fp) (hst : St 0 s.heap) (F : Fr g cenv.locals s.heap m₀) (N : News g cenv.locals s.heap ((D, LO [] k₀) :: news))
    (hsz : n ≤ sizeLine) (ht : ∀ v, letOwnedTupleGo target (.ref I) v = pure ())
    (J : Nat → List Value → List (Addr × Obj) → Prop) (h0 : J 0 [] news)
    (turn : ∀ i v ys news₁ m₁ h tk own k, i < n → ys.length ≤ i → P i v → J i ys news₁ → (∀ p ∈ news₁, p.1 ∉ wr ∧ p.1 ≠ D) → (∀ p ∈ own, p.1 ≠ D) → (∀ p ∈ own, p.1 ∈ fp) → (∀ b ∈ wr, ∃ o, (b, o) ∈ own) → Fr g cenv.locals h m₁ → News g cenv.locals h ((D, LO ys k) :: (news₁ ++ own)) →
      wpAny (model prog w) A (assign target cenv v) (fun _ s₂ => wpAny (model prog w) A (tests ifs cenv) (fun ok s₃ =>
        if ok = true then wpAny (model prog w) A (eval elt cenv) (fun y s₄ => CEnd g cenv.locals wr own D ys k (J (i + 1) (ys ++ [y])) { s with heap := h, toks := tk } s₄) (fun _ _ => False) s₃
        else CEnd g cenv.locals wr own D ys k (J (i + 1) ys) { s with heap := h, toks := tk } s₃) (fun _ _ => False) s₂) (fun _ _ => False) { s with heap := h, toks := tk })
    (hStI : ∀ i h, St i h → ∀ b ∈ wr, ∃ o, h.get? b = some o)
    (done : ∀ ys news' m' h tk k, J n ys news' → Fr g cenv.locals h m' → News g cenv.locals h ((D, LO ys k) :: news') → (∀ p ∈ news', p.1 ≠ D) → R (.ok .next) { s with heap := h, toks := tk }) :
    codeAny (model prog w) A (.compLoop (.ListComp elt [⟨target, iter, ifs, 0⟩] scope pos) 0 (.ref I) (.ref D) cenv) R s := by
  have hLw : cenv.locals ∉ wr := fun h => hLf (W.sub _ h)
  have hDw : D ∉ wr := fun h => hDf (W.sub _ h)
  have old : ∀ b o, g.get? b = some o → b ∉ wr := fun b o e hb => by rw [hwr b hb] at e; cases e
  have hgD : g.get? D = none := (N _ (List.mem_cons_self ..)).2.2
  have hDC : D ≠ cenv.locals := (N _ (List.mem_cons_self ..)).2.1
  refine codeAny_compLoop_tests
    (CInv s g cenv.locals D wr n St J) ?_ (n + 1)
    ⟨s.heap, s.toks, m₀, news, [], k₀, 0, rfl, hst, F, N, hnw, h0, Nat.le_refl _, Nat.zero_le _, rfl⟩ ht
  intro q s' hq1
  refine ex7 hq1 fun h' tk m' news' ys k i hq4 => an9 hq4 fun eq_2 hst' F' N' hnw' hJ hlen hi eq_3 => ?_
  clear hq1 hq4
  subst eq_2
  subst eq_3
  have next : ∀ h₁ : Heap, (∀ b o, b ∉ wr → h'.get? b = some o → h₁.get? b = some o) → Fr g cenv.locals h₁ m' ∧ News g cenv.locals h₁ ((D, LO ys k) :: news') := fun h₁ hk₁ =>
    ⟨⟨F'.ns.at' fun o e => hk₁ _ o hLw e, fun b o e => hk₁ b o (old b o e) (F'.keep b o e), F'.above⟩, fun p hp => ⟨hk₁ _ _ (by
      rcases List.mem_cons.mp hp with rfl | hp
      · exact hDw
      · exact (hnw' p hp).1) (N' p hp).1, (N' p hp).2⟩⟩
  by_cases hlt : i < n
  · refine W.item i _ _ _ hlt hst' fun v h₁ tk₁ hP hst₁ hk₁ => ?_
    refine an2 (next h₁ hk₁) fun F₁ N₁ => ?_
    have Nown : News g cenv.locals h₁ (ownOf g fp h₁) := news_ownOf hLf
    have hownD : ∀ p ∈ ownOf g fp h₁, p.1 ≠ D := fun p hp e => hDf (e ▸ ownOf_sub p hp)
    have N₂ : News g cenv.locals h₁ ((D, LO ys k) :: (news' ++ ownOf g fp h₁)) := fun p hp => by
      rcases List.mem_cons.mp hp with rfl | hp
      · exact N₁ _ (List.mem_cons_self ..)
      · rcases List.mem_append.mp hp with hp | hp
        · exact N₁ _ (List.mem_cons_of_mem _ hp)
        · exact Nown p hp
    have fin : ∀ (ys' : List Value) s₃, CEnd g cenv.locals wr (ownOf g fp h₁) D ys k (J (i + 1) ys') { s with heap := h₁, toks := tk₁ } s₃ →
        ∃ h₃ tk₃ m₃ nx, s₃ = { s with heap := h₃, toks := tk₃ } ∧ St (i + 1) h₃ ∧ Fr g cenv.locals h₃ m₃ ∧ News g cenv.locals h₃ ((D, LO ys k) :: nx) ∧ (∀ p ∈ nx, p.1 ∉ wr ∧ p.1 ≠ D) ∧ J (i + 1) ys' nx := by
      intro ys' s₃ hq5
      refine ex5 hq5 fun h₃ tk₃ m₃ all nx hq7 => an8 hq7 fun eq_6 F₃ N₃ hD hn ho hw hj => ?_
      clear hq5 hq7
      subst eq_6
      refine ⟨h₃, tk₃, m₃, nx, rfl, W.frame _ _ _ hst₁ fun b hb o e => ?_, F₃, fun p hp => ?_, hw, hj⟩
      · cases hn : g.get? b with
        | some o₀ =>
          have : o₀ = o := by have := F₁.keep b o₀ hn; rw [e] at this; exact (Option.some.inj this).symm
          exact this ▸ F₃.keep b o₀ hn
        | none => exact (N₃ _ (ho _ (mem_ownOf hb hn e))).1
      · rcases List.mem_cons.mp hp with rfl | hp
        · exact N₃ _ hD
        · exact N₃ _ (hn p hp)
    refine wpAny_mono (turn i v ys news' m' h₁ tk₁ (ownOf g fp h₁) k hlt hlen hP hJ hnw' hownD (fun p hp => ownOf_sub p hp) (fun b hb => (hStI _ _ hst₁ b hb).imp fun o ho => mem_ownOf (W.sub b hb) (hwr b hb) ho) F₁ N₂) (fun _ s₂ h₂ => wpAny_mono h₂ (fun ok s₃ h₃ => ?_) fun _ _ e => e.elim) fun _ _ e => e.elim
    cases ok with
    | false =>
      simp only [Bool.false_eq_true, if_false] at h₃ ⊢
      refine ex4 (fin _ _ h₃) fun H₃ tk₃ m₃ nx hq9 => an6 hq9 fun eq_8 hst₃ F₃ N₃ hw hj => ?_
      clear hq9
      subst eq_8
      exact ⟨n + 1 - (i + 1), by omega, H₃, tk₃, m₃, nx, ys, k, i + 1, rfl, hst₃, F₃, N₃, hw, hj, by omega, hlt, rfl⟩
    | true =>
      simp only [if_true] at h₃ ⊢
      refine wpAny_mono h₃ (fun y s₄ h₄ => ?_) fun _ _ e => e.elim
      refine ex4 (fin _ _ h₄) fun h₄ tk₄ m₄ nx hq11 => an6 hq11 fun eq_10 hst₄ F₄ N₄ hw hj => ?_
      clear hq11
      subst eq_10
      have hys : ys.toArray.size ≤ sizeLine := by simp; omega
      refine wpAny_list_append_plain (items := ys.toArray) (hsz := hys) ⟨k, (N₄ _ (List.mem_cons_self ..)).1⟩ fun h₅ hl₅ hs₅ => ?_
      refine ex1 hl₅ fun k₅ e₅ => ?_
      clear hl₅
      refine ⟨n + 1 - (i + 1), by omega, h₅, tk₄, m₄, nx, ys ++ [y], k₅, i + 1, rfl, ?_, ⟨F₄.ns.sameBut hs₅ (Ne.symm hDC), fun b o e => hs₅.extBut b o (fun q => by rw [q, hgD] at e; cases e) (F₄.keep b o e), F₄.above⟩, fun p hp => ?_, hw, hj, by simp; omega, hlt, rfl⟩
      · exact W.frame _ _ _ hst₄ fun b hb o e => hs₅.extBut b o (fun q => hDf (q ▸ hb)) e
      · rcases List.mem_cons.mp hp with rfl | hp'
        · exact ⟨by rw [e₅]; simp [LO], (N₄ _ (List.mem_cons_self ..)).2⟩
        · exact ⟨hs₅.extBut _ _ (hw p hp').2 (N₄ _ (List.mem_cons_of_mem _ hp')).1, (N₄ _ (List.mem_cons_of_mem _ hp')).2⟩
  · have hin : i = n := by omega
    subst hin
    refine W.done _ _ _ hst' fun h₁ tk₁ hk₁ => ?_
    refine an2 (next h₁ hk₁) fun F₁ N₁ => ?_
    exact done ys news' m' h₁ tk₁ k hJ F₁ N₁ fun p hp => (hnw' p hp).2
end
end
section
section
variable {prog : Program} {w : World} {A : Around} {s : Shared} {env : Env} {h₀ : Heap} {L : Addr} {m : PySem.Str → Option Value} {news : List (Addr × Obj)}

theorem frSB {h h' : Heap} {C : Addr} (F : Fr h₀ L h m) (hs : Heap.SameBut C h h') (hC : C ≠ L) (hn : h₀.get? C = none) : Fr h₀ L h' m :=
  ⟨F.ns.sameBut hs (Ne.symm hC), fun b o e => hs.extBut b o (fun q => by rw [q, hn] at e; cases e) (F.keep b o e), F.above⟩
theorem newsSB {h h' : Heap} {C : Addr} (N : News h₀ L h news) (hs : Heap.SameBut C h h') (hC : ∀ p ∈ news, p.1 ≠ C) : News h₀ L h' news :=
  fun p hp => ⟨hs.extBut _ _ (hC p hp) (N p hp).1, (N p hp).2⟩

/-- what is asked of the turns of a comprehension, its block's facts told -/
abbrev CTurn (prog : Program) (w : World) (A : Around) (target : PySem.Expr) (ifs : List PySem.Expr) (elt : PySem.Expr) (g : Heap) (cenv : Env) (D : Addr) (fp wr : List Addr) (n : Nat) (P : Nat → Value → Prop) (J : Nat → List Value → List (Addr × Obj) → Prop) (s : Shared) : Prop :=
  ∀ i v ys news₁ m₁ h tk own k, i < n → ys.length ≤ i → P i v → J i ys news₁ → (∀ p ∈ news₁, p.1 ∉ wr ∧ p.1 ≠ D) → (∀ p ∈ own, p.1 ≠ D) → (∀ p ∈ own, p.1 ∈ fp) → (∀ b ∈ wr, ∃ o, (b, o) ∈ own) → Fr g cenv.locals h m₁ → News g cenv.locals h ((D, LO ys k) :: (news₁ ++ own)) →
      wpAny (model prog w) A (assign target cenv v) (fun _ s₂ => wpAny (model prog w) A (tests ifs cenv) (fun ok s₃ =>
        if ok = true then wpAny (model prog w) A (eval elt cenv) (fun y s₄ => CEnd g cenv.locals wr own D ys k (J (i + 1) (ys ++ [y])) { s with heap := h, toks := tk } s₄) (fun _ _ => False) s₃
        else CEnd g cenv.locals wr own D ys k (J (i + 1) ys) { s with heap := h, toks := tk } s₃) (fun _ _ => False) s₂) (fun _ _ => False) { s with heap := h, toks := tk }

theorem compBlock {elt iter target : PySem.Expr} {ifs : List PySem.Expr} {scope : Scope} {pos : Pos} {cl : List (PySem.Str × Addr)} {I : Addr} {fp wr : List Addr} {n : Nat} {P : Nat → Value → Prop} {St : Nat → Heap → Prop} {RR : Value → Addr → Result → Shared → Prop} {E : Value → Shared → Prop}
    (W : Walks prog w A I fp wr n P St) (hcell : ∀ y ∈ scope.names, y.2 ≠ .cell) (hkind : scope.kind = .function)
    (hLf : L ∉ fp) (hwr : ∀ b ∈ wr, h₀.get? b = none) (hnw : ∀ p ∈ news, p.1 ∉ wr) (hfp : ∀ b ∈ fp, b < s.heap.objs.size) (hst : St 0 s.heap) (F : Fr h₀ L s.heap m) (N : News h₀ L s.heap news)
    (hsz : n ≤ sizeLine) (ht : ∀ v, letOwnedTupleGo target (.ref I) v = pure ())
    (J : Nat → List Value → List (Addr × Obj) → Prop) (h0 : J 0 [] news)
    (turn : ∀ g C D, (∀ p ∈ news, p.1 < D) → h₀.StaysIn g → CTurn prog w A target ifs elt g (compEnvC scope cl C env) D fp wr n P J s)
    (hStI : ∀ i h, St i h → ∀ b ∈ wr, ∃ o, h.get? b = some o)
    (done : ∀ D C h' tk ys news' k mC, C ≠ L → h₀.get? C = none → h'.Ns C mC → (∀ p ∈ (D, LO ys k) :: news', p.1 ≠ C) → (∀ p ∈ news', p.1 ≠ D) → (∀ p ∈ news, p.1 < D) → Fr h₀ L h' m → News h₀ L h' ((D, LO ys k) :: news') → J n ys news' → RR (.ref D) C (.ok .next) { s with heap := h', toks := tk }) :
    wpAny (model prog w) A (newList []) (fun acc s₃ => wpAny (model prog w) A (newFunctionEnv scope env.globals cl [] env.qual none .none (some env)) (fun cenv s₄ =>
      codeAny (model prog w) A (.compStart (.ListComp elt [⟨target, iter, ifs, 0⟩] scope pos) 0 (.ref I) acc { cenv with scope := relabel scope env }) (RR acc cenv.locals) s₄) E s₃) E s := by
  refine wpAny_newObj_type (wpAny_newFunctionEnv hcell (by intro y hy; simp at hy) (fun h₁ hns₁ hsb₁ => ?_) hkind)
  dsimp only at hns₁ hsb₁ ⊢
  generalize hH2 : s.heap.push { cls := .type "list", dict := none, data := .seq ([] : List Value).toArray } = H2 at hns₁ hsb₁ ⊢
  have hC : H2.objs.size = s.heap.objs.size + 1 := by rw [← hH2, Heap.size_push]
  have hDC : s.heap.objs.size ≠ H2.objs.size := by rw [hC]; exact Nat.ne_of_lt (Nat.lt_succ_self _)
  have below : ∀ b, b < s.heap.objs.size → b ≠ H2.objs.size ∧ b ≠ s.heap.objs.size := fun b hb => ⟨by rw [hC]; exact Nat.ne_of_lt (Nat.lt_succ_of_lt hb), Nat.ne_of_lt hb⟩
  have hLlt : L < s.heap.objs.size := F.ns.lt
  have hDf : s.heap.objs.size ∉ fp := fun hm => Nat.lt_irrefl _ (hfp _ hm)
  have hCf : H2.objs.size ∉ fp := fun hm => by have := hfp _ hm; rw [hC] at this; exact Nat.lt_irrefl _ (Nat.lt_of_succ_lt this)
  have old : ∀ b o, s.heap.get? b = some o → h₁.get? b = some o := fun b o e => hsb₁.extBut b o (below b (Heap.lt_size e)).1 (Heap.get?_push_of_some _ (hH2 ▸ Heap.get?_push_of_some _ e))
  have hacc : h₁.get? s.heap.objs.size = some (LO [] 0) := hsb₁.extBut _ _ hDC (Heap.get?_push_of_some _ (hH2 ▸ Heap.get?_push_size _ rfl))
  have hst₁ : St 0 h₁ := W.frame _ _ _ hst fun b _ o e => old b o e
  have fresh : ∀ a, s.heap.objs.size ≤ a → s.heap.get? a = none := fun a ha => Heap.get?_none_of_le ha
  obtain ⟨stg, bk⟩ := ground_ofX (news.map (·.1) ++ wr) F (fun q => (List.mem_append.mp q).elim (fun q => by obtain ⟨p, hp, e⟩ := List.mem_map.mp q; exact (N p hp).2.1 e) fun q => hLf (W.sub _ q)) (fun b q => (List.mem_append.mp q).elim (fun q => by obtain ⟨p, hp, rfl⟩ := List.mem_map.mp q; exact (N p hp).2.2) fun q => hwr b q)
  have gfresh : ∀ a, s.heap.objs.size ≤ a → (hideAll s.heap (news.map (·.1) ++ wr)).get? a = none := fun a ha => by
    cases q : (hideAll s.heap (news.map (·.1) ++ wr)).get? a with
    | none => rfl
    | some o => have h2 := fresh a ha; rw [of_hideAll _ q] at h2; cases h2
  have F₁ : Fr (hideAll s.heap (news.map (·.1) ++ wr)) H2.objs.size h₁ _ := ⟨hns₁, fun b o e => old b o (of_hideAll _ e), by rw [hideAll_size, hC]; exact Nat.le_succ _⟩
  have N₁ : News (hideAll s.heap (news.map (·.1) ++ wr)) H2.objs.size h₁ ((s.heap.objs.size, LO [] 0) :: news) := fun p hp => by
    rcases List.mem_cons.mp hp with rfl | hp
    · exact ⟨hacc, hDC, gfresh _ (Nat.le_refl _)⟩
    · exact ⟨old _ _ (N p hp).1, (below _ (Heap.lt_size (N p hp).1)).1, hideAll_none _ (List.mem_append_left _ (List.mem_map_of_mem hp))⟩
  have loop : ∀ s₃ : Shared, s₃ = { s with heap := h₁, toks := s.toks + ([] : List (PySem.Str × Value)).length } →
      codeAny (model prog w) A (.compLoop (.ListComp elt [⟨target, iter, ifs, 0⟩] scope pos) 0 (.ref I) (.ref s.heap.objs.size) (compEnvC scope cl H2.objs.size env))
        (RR (.ref s.heap.objs.size) H2.objs.size) s₃ := by
    rintro s₃ rfl
    refine compLoopG (cenv := compEnvC scope cl H2.objs.size env) W hCf (fun b hb => hideAll_none _ (List.mem_append_right _ hb)) (fun p hp => ⟨hnw p hp, (below _ (Heap.lt_size (N p hp).1)).2⟩) hDf hst₁ F₁ N₁ hsz ht J h0
      (turn _ _ _ (fun p hp => Heap.lt_size (N p hp).1) stg) hStI ?_
    intro ys news' m' h tk k hJ F' N' hD'
    obtain ⟨F₂, N₂⟩ := bk.use F' N'
    exact done _ _ h tk ys news' k m' (by rw [hC]; exact Nat.ne_of_gt (Nat.lt_succ_of_lt hLlt)) (Heap.get?_none_of_le (by rw [hC]; exact Nat.le_of_lt (Nat.lt_of_le_of_lt F.above (Nat.lt_succ_of_lt hLlt)))) F'.ns (fun p hp => (N' p hp).2.1) hD' (fun p hp => Heap.lt_size (N p hp).1) F₂ N₂ hJ
  exact codeAny_compStart_list (loop _ rfl) (W.self 0 _ _ _ hst₁ (loop _ rfl))

/-- what a source of a comprehension is asked for, behind pyIter -/
def SrcAt (prog : Program) (w : World) (A : Around) (h₀ : Heap) (L : Addr) (m : PySem.Str → Option Value) (news : List (Addr × Obj)) (n : Nat) (P : Nat → Value → Prop) (s s₂ : Shared) (I : Addr) (wr fp : List Addr) : Prop :=
  ∃ St, Walks prog w A I fp wr n P St ∧ L ∉ fp ∧ (∀ b ∈ wr, h₀.get? b = none) ∧ (∀ p ∈ news, p.1 ∉ wr) ∧ (∀ b ∈ fp, b < s₂.heap.objs.size) ∧ St 0 s₂.heap ∧ Fr h₀ L s₂.heap m ∧ News h₀ L s₂.heap news ∧ (∀ i h, St i h → ∀ b ∈ wr, ∃ o, h.get? b = some o) ∧ ∃ h tk, s₂ = { s with heap := h, toks := tk }

/-- a source's end: what a comprehension or a for wants of its iterator -/
def CSrc (prog : Program) (w : World) (A : Around) (h₀ : Heap) (L : Addr) (n : Nat) (P : Nat → Value → Prop) (X0 : (PySem.Str → Option Value) → List (Addr × Obj) → Prop) (X1 : List Addr → List Addr → List (Addr × Obj) → Prop) (X2 : (PySem.Str → Option Value) → List (Addr × Obj) → Prop) (it : Value) (s₂ : Shared) : Prop :=
  ∃ s₁' I wr fp m news, it = .ref I ∧ SrcAt prog w A h₀ L m news n P s₁' s₂ I wr fp ∧ X0 m news ∧ X1 wr fp news ∧ X2 m news
theorem CSrc.intro {prog : Program} {w : World} {A : Around} {h₀ : Heap} {L : Addr} {n : Nat} {P : Nat → Value → Prop} {X0 : (PySem.Str → Option Value) → List (Addr × Obj) → Prop} {X1 : List Addr → List Addr → List (Addr × Obj) → Prop} {X2 : (PySem.Str → Option Value) → List (Addr × Obj) → Prop} {s₂ s₁' : Shared} {I : Addr} {wr fp : List Addr} {m : PySem.Str → Option Value} {news : List (Addr × Obj)}
    (hS : SrcAt prog w A h₀ L m news n P s₁' s₂ I wr fp) (h0 : X0 m news) (turn : X1 wr fp news) (done : X2 m news) : CSrc prog w A h₀ L n P X0 X1 X2 (.ref I) s₂ := ⟨s₁', I, wr, fp, m, news, rfl, hS, h0, turn, done⟩
theorem srcList {E : Value → Shared → Prop} {Q : Value → Shared → Prop} {l : Addr} {vs : List Value} {k : Nat} (hh : A.handled = none) (hl : (l, LO vs k) ∈ news) (F : Fr h₀ L s.heap m) (N : News h₀ L s.heap news)
    (h : ∀ h2 tk2 I, SrcAt prog w A h₀ L m news vs.length (fun i v => vs[i]? = some v) s { s with heap := h2, toks := tk2 } I [I] [I, l] → Q (.ref I) { s with heap := h2, toks := tk2 }) :
    wpAny (model prog w) A (pyIter (.ref l)) Q E s := by
  have hll := N _ hl
  have hls : s.heap.IsList l vs.toArray := ⟨_, hll.1, rfl, _, rfl⟩
  have hlt : l < s.heap.objs.size := Heap.lt_size hll.1
  have hne : l ≠ s.heap.objs.size := Nat.ne_of_lt hlt
  refine wpAny_pyIter_list hls ?_
  have W := Walks.list (prog := prog) (w := w) hh s.heap.objs.size l hne vs.toArray
  have hlen : vs.toArray.size = vs.length := by simp
  rw [hlen] at W
  have e : (fun i v => vs.toArray[i]? = some v) = fun (i : Nat) (v : Value) => vs[i]? = some v := by funext i v; simp
  rw [e] at W
  refine h _ _ _ ⟨_, W, ?_, ?_, ?_, ?_, ⟨⟨_, Heap.get?_push_size _ rfl, rfl, rfl⟩, hls.at fun o e => Heap.get?_push_of_some _ e⟩, F.push _, (fun p hp => ⟨Heap.get?_push_of_some _ (N p hp).1, (N p hp).2⟩), ?_, _, _, rfl⟩
  · intro hm
    rcases List.mem_cons.mp hm with e | hm
    · exact absurd F.ns.lt (e ▸ Nat.lt_irrefl _)
    · exact hll.2.1 (List.mem_singleton.mp hm).symm
  · intro b hb
    rw [List.mem_singleton.mp hb]
    exact next_is_new F
  · intro p hp hI
    exact absurd (Heap.lt_size (N p hp).1) ((List.mem_singleton.mp hI) ▸ Nat.lt_irrefl _)
  · intro b hb
    show b < (s.heap.push _).objs.size
    rw [Heap.size_push]
    rcases List.mem_cons.mp hb with e | hm
    · rw [e]; exact Nat.lt_succ_self _
    · rw [List.mem_singleton.mp hm]; exact Nat.lt_succ_of_lt hlt
  · intro i h hst b hb
    rw [List.mem_singleton.mp hb]
    obtain ⟨o, ho, _⟩ := hst.1
    exact ⟨o, ho⟩

theorem srcTuple {E : Value → Shared → Prop} {Q : Value → Shared → Prop} {l : Addr} {vs : List Value} {k : Nat} (hh : A.handled = none) (hl : (l, TO vs k) ∈ news) (F : Fr h₀ L s.heap m) (N : News h₀ L s.heap news)
    (h : ∀ h2 tk2 I, SrcAt prog w A h₀ L m news vs.length (fun i v => vs[i]? = some v) s { s with heap := h2, toks := tk2 } I [I] [I, l] → Q (.ref I) { s with heap := h2, toks := tk2 }) :
    wpAny (model prog w) A (pyIter (.ref l)) Q E s := by
  have hll := N _ hl
  have hls : s.heap.IsTuple l vs.toArray := ⟨_, hll.1, rfl, _, rfl⟩
  have hlt : l < s.heap.objs.size := Heap.lt_size hll.1
  have hne : l ≠ s.heap.objs.size := Nat.ne_of_lt hlt
  refine wpAny_pyIter_tuple hls ?_
  have W := Walks.tuple (prog := prog) (w := w) hh s.heap.objs.size l hne vs.toArray
  have hlen : vs.toArray.size = vs.length := by simp
  rw [hlen] at W
  have e : (fun i v => vs.toArray[i]? = some v) = fun (i : Nat) (v : Value) => vs[i]? = some v := by funext i v; simp
  rw [e] at W
  refine h _ _ _ ⟨_, W, ?_, ?_, ?_, ?_, ⟨⟨_, Heap.get?_push_size _ rfl, rfl, rfl⟩, hls.at fun o e => Heap.get?_push_of_some _ e⟩, F.push _, (fun p hp => ⟨Heap.get?_push_of_some _ (N p hp).1, (N p hp).2⟩), ?_, _, _, rfl⟩
  · intro hm
    rcases List.mem_cons.mp hm with e | hm
    · exact absurd F.ns.lt (e ▸ Nat.lt_irrefl _)
    · exact hll.2.1 (List.mem_singleton.mp hm).symm
  · intro b hb
    rw [List.mem_singleton.mp hb]
    exact next_is_new F
  · intro p hp hI
    exact absurd (Heap.lt_size (N p hp).1) ((List.mem_singleton.mp hI) ▸ Nat.lt_irrefl _)
  · intro b hb
    show b < (s.heap.push _).objs.size
    rw [Heap.size_push]
    rcases List.mem_cons.mp hb with e | hm
    · rw [e]; exact Nat.lt_succ_self _
    · rw [List.mem_singleton.mp hm]; exact Nat.lt_succ_of_lt hlt
  · intro i h hst b hb
    rw [List.mem_singleton.mp hb]
    obtain ⟨o, ho, _⟩ := hst.1
    exact ⟨o, ho⟩

theorem srcRange {E : Value → Shared → Prop} {Q : Value → Shared → Prop} {r : Addr} {a₀ b₀ : Int} {t₀ u₀ v₀ : Tok} {n : Nat} (hh : A.handled = none) (hr : IsRange s.heap r a₀ b₀ 1 t₀ u₀ v₀) (hsmall : Builtin.Range.small a₀ b₀ 1 = true) (hn : Builtin.Range.rangeSize a₀ b₀ 1 = (n : Int)) (F : Fr h₀ L s.heap m) (N : News h₀ L s.heap news)
    (h : ∀ h2 tk2 I, SrcAt prog w A h₀ L m news n (fun i v => i < n ∧ ∃ t, v = .int (a₀ + (i : Int)) t) s { s with heap := h2, toks := tk2 } I [I] [I] → Q (.ref I) { s with heap := h2, toks := tk2 }) :
    wpAny (model prog w) A (pyIter (.ref r)) Q E s := by
  refine wpAny_pyIter_range hr hsmall ?_
  have W : Walks prog w A s.heap.objs.size [s.heap.objs.size] [s.heap.objs.size] n (fun i v => i < n ∧ ∃ t, v = .int (a₀ + i * 1) t)
      (fun i h => IsRangeIter h s.heap.objs.size (a₀ + (i : Nat) * 1) ((n : Int) - (i : Nat)) 1) := (Walks.range hh _ a₀ 1 n).bound
  have e : (fun (i : Nat) v => i < n ∧ ∃ t, v = Value.int (a₀ + i * 1) t) = fun (i : Nat) (v : Value) => i < n ∧ ∃ t, v = .int (a₀ + (i : Int)) t := by funext i v; simp only [Int.mul_one]
  rw [e] at W
  refine h _ _ _ ⟨_, W, ?_, ?_, ?_, ?_, (by show IsRangeIter _ _ _ _ _; rw [hn]; simpa using Heap.get?_push_size _ rfl), F.push _, (fun p hp => ⟨Heap.get?_push_of_some _ (N p hp).1, (N p hp).2⟩), ?_, _, _, rfl⟩
  · intro hm
    exact absurd F.ns.lt ((List.mem_singleton.mp hm) ▸ Nat.lt_irrefl _)
  · intro b hb
    rw [List.mem_singleton.mp hb]
    exact next_is_new F
  · intro p hp hI
    exact absurd (Heap.lt_size (N p hp).1) ((List.mem_singleton.mp hI) ▸ Nat.lt_irrefl _)
  · intro b hb
    show b < (s.heap.push _).objs.size
    rw [Heap.size_push, List.mem_singleton.mp hb]; exact Nat.lt_succ_self _
  · intro i h hst b hb
    rw [List.mem_singleton.mp hb]
    exact ⟨_, hst⟩

/-- a comprehension of one clause, its value handed on -/
theorem evalComp {elt iter target : PySem.Expr} {ifs : List PySem.Expr} {scope : Scope} {pos : Pos} {cl : List (PySem.Str × Addr)} {n : Nat} {P : Nat → Value → Prop} {Q : Value → Shared → Prop} {E : Value → Shared → Prop}
    (hclos : closureFor scope env = pure cl) (hcell : ∀ y ∈ scope.names, y.2 ≠ .cell) (hkind : scope.kind = .function) (hnames : ∀ y ∈ scope.names, y.2 = .local → scope.names.lookup y.1 = some .local)
    (ht : ∀ I v, letOwnedTupleGo target (.ref I) v = pure ()) (hsz : n ≤ sizeLine)
    (J : Nat → List Value → List (Addr × Obj) → Prop)
    (src : wpAny (model prog w) A (eval iter env) (fun xv s₁ => wpAny (model prog w) A (pyIter xv) (fun it s₂ => CSrc prog w A h₀ L n P (fun _ news => J 0 [] news)
      (fun wr fp news => ∀ g C D, (∀ p ∈ news, p.1 < D) → h₀.StaysIn g → CTurn prog w A target ifs elt g (compEnvC scope cl C env) D fp wr n P J s₂)
      (fun m news => ∀ D h' tk ys news' k, (∀ p ∈ news', p.1 ≠ D) → (∀ p ∈ news, p.1 < D) → Fr h₀ L h' m → News h₀ L h' ((D, LO ys k) :: news') → J n ys news' → Q (.ref D) { s₂ with heap := h', toks := tk }) it s₂) E s₁) E s)
    (hs : ∀ x, foldedSetIterable iter env x = pure x := by intro _; rfl) :
    wpAny (model prog w) A (eval (.ListComp elt [⟨target, iter, ifs, 0⟩] scope pos) env) Q E s := by
  rw [eval_ListComp]
  refine wpAny_comprehension_free (use := none) rfl hs hclos hkind hnames (wpAny_mono src (fun xv s₁ h₁ => wpAny_mono h₁ (fun it s₂ h₂ => ?_) fun _ _ e => e) fun _ _ e => e)
  refine ex6 h₂ fun s₁' I wr fp m news hq3 => an5 hq3 fun eq_1 hq2 h0 turn hQ => ?_
  clear h₂ hq3
  subst eq_1
  refine ex1 hq2 fun St hq4 => an10 hq4 fun W hLf hwr hnw hfp hst F N hStI _ => ?_
  clear hq2 hq4
  refine compBlock (RR := fun acc C => compPost (model prog w) A E none Q acc C) W hcell hkind hLf hwr hnw hfp hst F N hsz (ht I) J h0 turn hStI ?_
  intro D C h' tk ys news' k mC hCL hC0 hn hne hD hlt F' N' hJ
  exact ⟨mC, hn, fun h'' hs'' => hQ D h'' tk ys news' k hD hlt (frSB F' hs'' hCL hC0) (newsSB N' hs'' hne) hJ⟩

/-- a comprehension of one clause, stored by `name = [..]` in a def's local -/
theorem assignComp {elt iter target : PySem.Expr} {ifs : List PySem.Expr} {scope : Scope} {pos spos py : Pos} {y : PySem.Str} {cl : List (PySem.Str × Addr)} {n : Nat} {P : Nat → Value → Prop} {Q : Flow → Shared → Prop} {E : Value → Shared → Prop}
    (hsw : swapsWith (.ListComp elt [⟨target, iter, ifs, 0⟩] scope pos) (some (.Name y py)) spos.line env = pure true)
    (hclos : closureFor scope env = pure cl) (hcell : ∀ y ∈ scope.names, y.2 ≠ .cell) (hkind : scope.kind = .function) (hnames : ∀ y ∈ scope.names, y.2 = .local → scope.names.lookup y.1 = some .local)
    (hy : env.kindOf y = some .local) (hp : (env.scope.kind == .class || (env.scope.kind == .module && env.locals != env.globals)) = false)
    (ht : ∀ I v, letOwnedTupleGo target (.ref I) v = pure ()) (hsz : n ≤ sizeLine)
    (J : Nat → List Value → List (Addr × Obj) → Prop)
    (src : wpAny (model prog w) A (eval iter env) (fun xv s₁ => wpAny (model prog w) A (pyIter xv) (fun it s₂ => CSrc prog w A h₀ env.locals n P (fun _ news => J 0 [] news)
      (fun wr fp news => ∀ g C D, (∀ p ∈ news, p.1 < D) → h₀.StaysIn g → CTurn prog w A target ifs elt g (compEnvC scope cl C env) D fp wr n P J s₂)
      (fun m news => ∀ D h' tk ys news' k, (∀ p ∈ news', p.1 ≠ D) → (∀ p ∈ news, p.1 < D) → Fr h₀ env.locals h' (fun z => if z = y then some (.ref D) else m z) → News h₀ env.locals h' ((D, LO ys k) :: news') → J n ys news' → Q .next { s₂ with heap := h', toks := tk }) it s₂) E s₁) E s)
    (hs : ∀ x, foldedSetIterable iter env x = pure x := by intro _; rfl) :
    wpAny (model prog w) A (exec (.Assign [.Name y py] (.ListComp elt [⟨target, iter, ifs, 0⟩] scope pos) spos) env) Q E s := by
  rw [exec_Assign_Name_used _ _ _ _ hsw]
  refine wpAny_bind (wpAny_standAt (wpAny_bind ?_))
  show wpAny _ A (do let _ ← comprehension (.ListComp elt [⟨target, iter, ifs, 0⟩] scope pos) scope env _ (newList []) false (eval iter env) (some (assign (.Name y py) env))) _ _ s
  refine wpAny_bind (wpAny_mono (wpAny_comprehension_free (use := some (assign (.Name y py) env)) (Q := fun _ s' => Q .next s') rfl hs hclos hkind hnames
    (wpAny_mono src (fun xv s₁ h₁ => wpAny_mono h₁ (fun it s₂ h₂ => ?_) fun _ _ e => e) fun _ _ e => e)) (fun _ s' hq => wpAny_pure (wpAny_pure hq)) fun _ _ e => e)
  refine ex6 h₂ fun s₁' I wr fp m news hq7 => an5 hq7 fun eq_5 hq6 h0 turn hQ => ?_
  clear h₂ hq7
  subst eq_5
  refine ex1 hq6 fun St hq8 => an10 hq8 fun W hLf hwr hnw hfp hst F N hStI _ => ?_
  clear hq6 hq8
  refine compBlock (RR := fun acc C => compPost (model prog w) A E (some (assign (.Name y py) env)) (fun _ s' => Q .next s') acc C) W hcell hkind hLf hwr hnw hfp hst F N hsz (ht I) J h0 turn hStI ?_
  intro D C h' tk ys news' k mC hCL hC0 hn hne hD hlt F' N' hJ
  show wpAny _ A (assign (.Name y py) env (.ref D)) _ _ _
  refine wpAny_assign_Name (wpAny_storeName_local hy F'.ns (fun h₂ hn₂ hs₂ => ?_) hp)
  refine ⟨mC, hn.sameBut hs₂ hCL, fun h₃ hs₃ => ?_⟩
  exact hQ D h₃ _ ys news' k hD hlt (frSB (F'.set hn₂ hs₂) hs₃ hCL hC0) (newsSB (N'.set hs₂) hs₃ hne) hJ
end
end
section

def d2iP (w : Nat) : List Int → Int
  | [] => 0
  | d :: r => d + 2 ^ w * d2iP w r
theorem d2i_append (w : Nat) : ∀ a b : List Int, d2iP w (a ++ b) = d2iP w a + 2 ^ (w * a.length) * d2iP w b
  | [], b => by simp [d2iP]
  | d :: r, b => by
    rw [List.cons_append, d2iP, d2iP, d2i_append w r b, List.length_cons, Nat.mul_succ, Nat.add_comm (w * r.length) w, Int.pow_add, Int.mul_add, Int.mul_assoc, Int.add_assoc]
theorem pow_lt_pow2 {a b : Nat} (h : a ≤ b) : (2 : Int) ^ a ≤ 2 ^ b := by
  have := Nat.pow_le_pow_right (n := 2) (by decide) h
  exact_mod_cast this
theorem d2i_bound {w B : Nat} : ∀ {ds : List Int}, (∀ d ∈ ds, 0 ≤ d ∧ d < 2 ^ B) → 0 ≤ d2iP w ds ∧ d2iP w ds < 2 ^ (B + (w + 1) * ds.length)
  | [], _ => ⟨Int.le_refl _, by simp only [d2iP]; exact Int.pow_pos (by decide)⟩
  | d :: r, h => by
    obtain ⟨h1, h2⟩ := h d (List.mem_cons_self ..)
    obtain ⟨h3, h4⟩ := d2i_bound (w := w) (ds := r) (fun x hx => h x (List.mem_cons_of_mem _ hx))
    have hp : (0 : Int) < 2 ^ w := Int.pow_pos (by decide)
    refine ⟨Int.add_nonneg h1 (Int.mul_nonneg (Int.le_of_lt hp) h3), ?_⟩
    have e : B + (w + 1) * (d :: r).length = (B + (w + 1) * r.length) + (w + 1) := by rw [List.length_cons, Nat.mul_succ]; omega
    rw [e, d2iP]
    generalize hM : B + (w + 1) * r.length = M at h4 ⊢
    have hB : (2 : Int) ^ B ≤ 2 ^ M := pow_lt_pow2 (by omega)
    have h5 : (2 : Int) ^ w * d2iP w r ≤ 2 ^ w * (2 ^ M - 1) := Int.mul_le_mul_of_nonneg_left (by omega) (Int.le_of_lt hp)
    have h6 : (2 : Int) ^ (M + (w + 1)) = 2 ^ w * 2 ^ M + 2 ^ w * 2 ^ M := by
      rw [Int.pow_add, Int.pow_succ, ← Int.mul_assoc, Int.mul_comm (2 ^ M) (2 ^ w)]
      omega
    have h7 : (2 : Int) ^ M ≤ 2 ^ w * 2 ^ M := by
      have : (1 : Int) * 2 ^ M ≤ 2 ^ w * 2 ^ M := Int.mul_le_mul_of_nonneg_right (by omega) (Int.le_of_lt (Int.pow_pos (by decide)))
      omega
    rw [h6, Int.mul_sub] at *
    omega
theorem bits_le {x : Int} {n : Nat} (h : x.natAbs < 2 ^ n) : Builtin.Int.intBits x ≤ n := by
  unfold Builtin.Int.intBits
  split
  · exact Nat.zero_le _
  · rename_i hx
    have hne : x.natAbs ≠ 0 := by
      intro e
      apply hx
      rw [beq_iff_eq]
      omega
    have := (Nat.log2_lt hne).mpr h
    omega
theorem bits_le' {x : Int} {n : Nat} (h0 : 0 ≤ x) (h : x < 2 ^ n) : Builtin.Int.intBits x ≤ n := by
  refine bits_le ?_
  have e : ((x.natAbs : Nat) : Int) = x := by omega
  have : ((x.natAbs : Nat) : Int) < ((2 ^ n : Nat) : Int) := by rw [e]; exact_mod_cast h
  exact_mod_cast this
theorem seg_split {α : Type} (ds : List α) {lo mid hi : Nat} (h1 : lo ≤ mid) (h2 : mid ≤ hi) : (ds.drop lo).take (hi - lo) = (ds.drop lo).take (mid - lo) ++ (ds.drop mid).take (hi - mid) := by
  have e : hi - lo = (mid - lo) + (hi - mid) := by omega
  rw [e, List.take_add, List.drop_drop, show lo + (mid - lo) = mid by omega]
theorem d2i_split (w : Nat) (ds : List Int) {lo mid hi : Nat} (h1 : lo ≤ mid) (h2 : mid ≤ hi) (h3 : hi ≤ ds.length) :
    d2iP w ((ds.drop lo).take (hi - lo)) = d2iP w ((ds.drop mid).take (hi - mid)) * 2 ^ (w * (mid - lo)) + d2iP w ((ds.drop lo).take (mid - lo)) := by
  rw [seg_split ds h1 h2, d2i_append, List.length_take, List.length_drop, Nat.min_eq_left (by omega), Int.mul_comm (2 ^ _), Int.add_comm]
theorem seg_dig {ds : List Int} {B : Nat} (h : ∀ d ∈ ds, 0 ≤ d ∧ d < 2 ^ B) (a b : Nat) : ∀ d ∈ (ds.drop a).take b, 0 ≤ d ∧ d < 2 ^ B :=
  fun d hd => h d (List.mem_of_mem_drop (List.mem_of_mem_take hd))
theorem seg_bits {ds : List Int} {w : Nat} (hw : w ≤ 4096) (hlen : ds.length ≤ 64) (h : ∀ d ∈ ds, 0 ≤ d ∧ d < 2 ^ 4096) (a b : Nat) : Builtin.Int.intBits (d2iP w ((ds.drop a).take b)) ≤ 266304 := by
  obtain ⟨h1, h2⟩ := d2i_bound (w := w) (seg_dig h a b)
  refine Nat.le_trans (bits_le' h1 h2) ?_
  have h3 : ((ds.drop a).take b).length ≤ 64 := by rw [List.length_take, List.length_drop]; omega
  have h4 : (w + 1) * ((ds.drop a).take b).length ≤ 4097 * 64 := Nat.mul_le_mul (by omega) h3
  omega
theorem log2_of_bits {b : Int} {n : Nat} (h : Builtin.Int.intBits b ≤ n) : b.natAbs.log2 ≤ n := by
  unfold Builtin.Int.intBits at h
  split at h
  · rename_i h0
    rw [beq_iff_eq] at h0
    subst h0
    exact Nat.le_trans (by decide) (Nat.zero_le n)
  · omega
/-- the digits of x to the base 2 ^ n, k of them -/
def dig (n x j : Nat) : Int := ((x / 2 ^ (n * j) % 2 ^ n : Nat) : Int)
def digsP (n x k : Nat) : List Int := (List.range k).map fun j => dig n x j
theorem ints_of_at {f : Nat → Int} : ∀ {k : Nat} {xs : List Value}, xs.length = k → (∀ i, i < k → ∃ t, xs[i]? = some (.int (f i) t)) → IntsAre xs ((List.range k).map f) := by
  intro k
  induction k with
  | zero =>
    intro xs hl _
    rw [List.length_eq_zero_iff.mp hl]
    exact .nil
  | succ k ih =>
    intro xs hl h
    have hx : xs = xs.take k ++ [xs[k]'(by omega)] := by
      rw [← List.take_succ_eq_append_getElem (by omega), List.take_of_length_le (by omega)]
    obtain ⟨t, ht⟩ := h k (Nat.lt_succ_self k)
    have h2 : xs[k]'(by omega) = .int (f k) t := by
      rw [List.getElem?_eq_getElem (by omega)] at ht
      exact Option.some.inj ht
    rw [hx, h2, List.range_succ, List.map_append]
    refine IntsAre.append (ih (by rw [List.length_take]; omega) fun i hi => ?_) (.cons _ t .nil)
    obtain ⟨u, hu⟩ := h i (by omega)
    exact ⟨u, by rw [List.getElem?_take_of_lt hi]; exact hu⟩
theorem and_high (x s : Nat) : x &&& (x / 2 ^ s * 2 ^ s) = x / 2 ^ s * 2 ^ s := by
  apply Nat.eq_of_testBit_eq
  intro i
  rw [← Nat.shiftLeft_eq, ← Nat.shiftRight_eq_div_pow, Nat.testBit_and, Nat.testBit_shiftLeft, Nat.testBit_shiftRight]
  by_cases h : s ≤ i
  · simp [h, Nat.add_sub_cancel' h]
  · simp [h]
theorem xor_low (x s : Nat) : Builtin.bitXor (x : Int) ((x : Int).fdiv (2 ^ s) * 2 ^ s) = ((x % 2 ^ s : Nat) : Int) := by
  have e1 : (x : Int).fdiv (2 ^ s) * 2 ^ s = ((x / 2 ^ s * 2 ^ s : Nat) : Int) := by
    rw [Int.fdiv_eq_ediv_of_nonneg _ (Int.le_of_lt (Int.pow_pos (by decide)))]
    push_cast
    rfl
  rw [e1]
  unfold Builtin.bitXor
  rw [bitOr_and, bitAnd_pp (by omega) (by omega), Int.toNat_natCast, Int.toNat_natCast, and_high]
  have := Nat.div_add_mod x (2 ^ s)
  rw [Nat.mul_comm] at this
  omega
theorem bits_nat {x n : Nat} (h : x < 2 ^ n) : Builtin.Int.intBits (x : Int) ≤ n := bits_le (by simpa using h)
theorem fdiv_nat (x s : Nat) : (x : Int).fdiv (2 ^ s) = ((x / 2 ^ s : Nat) : Int) := by
  rw [Int.fdiv_eq_ediv_of_nonneg _ (Int.le_of_lt (Int.pow_pos (by decide)))]
  push_cast
  rfl
theorem dig_low {n x s j : Nat} (h : n * (j + 1) ≤ s) : dig n (x % 2 ^ s) j = dig n x j := by
  unfold dig
  congr 1
  have e : s = n * j + (s - n * j) := by rw [Nat.mul_succ] at h; omega
  rw [e, Nat.pow_add, Nat.mod_mul_right_div_self, Nat.mod_mod_of_dvd]
  refine Nat.pow_dvd_pow 2 ?_
  rw [Nat.mul_succ] at h; omega
theorem dig_high {n x d j : Nat} : dig n (x / 2 ^ (n * d)) j = dig n x (d + j) := by
  unfold dig
  rw [Nat.div_div_eq_div_mul, ← Nat.pow_add, ← Nat.mul_add]
theorem dig_one {n x : Nat} (h : x < 2 ^ n) : dig n x 0 = (x : Int) := by
  unfold dig
  rw [Nat.mul_zero, Nat.pow_zero, Nat.div_one, Nat.mod_eq_of_lt h]
theorem digs_zero (n K : Nat) : digsP n 0 K = List.replicate K 0 := by
  unfold digsP
  apply List.ext_getElem
  · simp
  · intro i h1 h2
    simp [dig]
/-- the number that the top i of K digits tell -/
def topV (n a K i : Nat) : Nat := a / 2 ^ (n * (K - i))
theorem topV_zero {n a K : Nat} (h : a < 2 ^ (n * K)) : topV n a K 0 = 0 := by
  unfold topV; rw [Nat.sub_zero]; exact Nat.div_eq_of_lt h
theorem topV_last (n a K : Nat) : topV n a K K = a := by
  unfold topV; rw [Nat.sub_self, Nat.mul_zero, Nat.pow_zero, Nat.div_one]
theorem topV_succ {n a K i : Nat} (h : i < K) : ((topV n a K (i + 1) : Nat) : Int) = (topV n a K i : Int) * 2 ^ n + dig n a (K - 1 - i) := by
  unfold topV dig
  have e1 : K - (i + 1) = K - 1 - i := by omega
  have e2 : K - i = K - 1 - i + 1 := by omega
  rw [e1, e2, Nat.mul_succ, Nat.pow_add, ← Nat.div_div_eq_div_mul]
  have := Nat.div_add_mod (a / 2 ^ (n * (K - 1 - i))) (2 ^ n)
  rw [Nat.mul_comm] at this
  exact_mod_cast this.symm
theorem div_step {V n d b : Nat} (hb : 0 < b) : (V * 2 ^ n + d) / b = V / b * 2 ^ n + (V % b * 2 ^ n + d) / b ∧ (V * 2 ^ n + d) % b = (V % b * 2 ^ n + d) % b := by
  have h := Nat.div_add_mod V b
  have e : V * 2 ^ n + d = (V % b * 2 ^ n + d) + b * (V / b * 2 ^ n) := by
    conv => lhs; rw [← h]
    rw [Nat.add_mul, Nat.mul_assoc]; omega
  constructor
  · conv => lhs; rw [e]
    rw [Nat.add_mul_div_left _ _ hb, Nat.add_comm]
  · rw [e, Nat.add_mul_mod_self_left]
theorem qdig_lt {V n d b : Nat} (hb : 0 < b) (hd : d < 2 ^ n) : (V % b * 2 ^ n + d) / b < 2 ^ n := by
  have h1 : V % b < b := Nat.mod_lt _ hb
  rw [Nat.div_lt_iff_lt_mul hb]
  calc V % b * 2 ^ n + d < V % b * 2 ^ n + 2 ^ n := by omega
    _ = (V % b + 1) * 2 ^ n := by rw [Nat.add_mul, Nat.one_mul]
    _ ≤ b * 2 ^ n := Nat.mul_le_mul_right _ h1
    _ = 2 ^ n * b := Nat.mul_comm _ _
theorem fdivmod_nat (x b : Nat) : (x : Int).fdiv b = ((x / b : Nat) : Int) ∧ (x : Int).fmod b = ((x % b : Nat) : Int) := by
  rw [Int.fdiv_eq_ediv_of_nonneg _ (Int.natCast_nonneg b), Int.fmod_eq_emod_of_nonneg _ (Int.natCast_nonneg b)]
  exact ⟨by push_cast; rfl, by push_cast; rfl⟩
theorem bitlen_lt (b : Nat) : b < 2 ^ Builtin.Int.intBits (b : Int) := by
  unfold Builtin.Int.intBits
  split
  · rename_i h
    rw [beq_iff_eq] at h
    have : b = 0 := by omega
    subst this
    exact Nat.pow_pos (by decide)
  · rw [Int.natAbs_natCast]
    exact Nat.lt_log2_self
theorem bitlen_pos {b : Nat} (h : 0 < b) : 0 < Builtin.Int.intBits (b : Int) := by
  unfold Builtin.Int.intBits
  rw [if_neg (by rw [beq_iff_eq]; omega)]
  exact Nat.succ_pos _
theorem digs_at {n a K j : Nat} (h : j < K) : (digsP n a K)[j]? = some (dig n a j) := by simp [digsP, h]
theorem topV_succ' {n a K i d : Nat} (h : i < K) (hd : dig n a (K - 1 - i) = (d : Int)) : topV n a K (i + 1) = topV n a K i * 2 ^ n + d := by
  have := topV_succ (n := n) (a := a) h
  rw [hd] at this
  exact_mod_cast this
end
section
section
variable {prog : Program} {w : World} {A : Around} {E : Value → Shared → Prop} {s : Shared} {h₀ : Heap} {L l : Addr} {m : PySem.Str → Option Value} {news : List (Addr × Obj)} {vs : List Value} {k : Nat}
theorem isL (N : News h₀ L s.heap news) (hm : (l, LO vs k) ∈ news) : s.heap.IsList l vs.toArray := ⟨_, (N _ hm).1, rfl, _, rfl⟩
theorem isT (N : News h₀ L s.heap news) (hm : (l, TO vs k) ∈ news) : s.heap.IsTuple l vs.toArray := ⟨_, (N _ hm).1, rfl, _, rfl⟩
theorem truthyL {Q : Bool → Shared → Prop} (N : News h₀ L s.heap news) (hm : (l, LO vs k) ∈ news) (hf : vs.length < 2 ^ 62) (h : Q (!vs.isEmpty) { s with toks := s.toks + 1 + 1 }) : wpAny (model prog w) A (truthy (.ref l)) Q E s :=
  wpAny_truthy_list (isL N hm) (by simp only [List.size_toArray]; omega) (by simpa using h)
theorem lenL {Q : Value → Shared → Prop} (N : News h₀ L s.heap news) (hm : (l, LO vs k) ∈ news) (hf : vs.length < 2 ^ 62) (h : Q (.int vs.length (s.toks + 1)) { s with toks := s.toks + 1 + 1 }) : wpAny (model prog w) A (call (.builtin "len") [.ref l]) Q E s :=
  Calls.call_len_list (isL N hm) (by simp only [List.size_toArray]; omega) (by simpa using h)
theorem itemL {value slice : PySem.Expr} {i : Int} {u : Tok} {v : Value} {Q : Value → Shared → Prop} (N : News h₀ L s.heap news) (hm : (l, LO vs k) ∈ news) (h0 : 0 ≤ i) (hhi : i < 2 ^ 63) (hx : vs[i.toNat]? = some v) (h : Q v s)
    (hs : subscripted slice false (.ref l) (.int i u) = operate [.ref l, .int i u] (getItem (.ref l) (.int i u)) := by with_unfolding_all rfl) : wpAny (model prog w) A (subscriptTail value slice (.ref l) (.int i u)) Q E s :=
  tail_any (isL N hm).typeIs slot_list_getitem.lookup (wpAny_getItem_list (isL N hm) h0 hhi (by simpa using hx) h) hs
end
section
variable {h₀ h : Heap} {L : Addr}
theorem led4 {a b c d : Addr × Obj} {rest : List (Addr × Obj)} (N : News h₀ L h (a :: b :: c :: d :: rest)) : ∃ led, News h₀ L h led ∧ a ∈ led ∧ b ∈ led ∧ c ∈ led ∧ d ∈ led ∧ ∀ p ∈ rest, p ∈ led :=
  ⟨_, N, .head _, .tail _ (.head _), .tail _ (.tail _ (.head _)), .tail _ (.tail _ (.tail _ (.head _))), fun _ hp => .tail _ (.tail _ (.tail _ (.tail _ hp)))⟩
theorem newsSub {news news' : List (Addr × Obj)} (N : News h₀ L h news) (hs : ∀ p ∈ news', p ∈ news) : News h₀ L h news' := fun p hp => N p (hs p hp)
end
section
variable {prog : Program} {w : World} {A : Around} {E : Value → Shared → Prop} {s : Shared} {h₀ : Heap} {L l : Addr} {m : PySem.Str → Option Value} {news : List (Addr × Obj)}
theorem mulOne {v : Value} {k : Nat} {x : Int} {u : Tok} {Q : Value → Shared → Prop} (F : Fr h₀ L s.heap m) (N : News h₀ L s.heap news) (hm : (l, LO [v] k) ∈ news) (hlo : -1000000 ≤ x) (hhi : x ≤ 1000000)
    (h : ∀ D h' k', Fr h₀ L h' m → News h₀ L h' ((D, LO (List.replicate x.toNat v) k') :: news) → (∀ p ∈ news, p.1 < D) → Q (.ref D) { s with heap := h' }) :
    wpAny (model prog w) A (binaryOp .Mult (.ref l) (.int x u)) Q E s := by
  refine mul_list F N (N _ hm).1 (by omega) (by omega) (by simp only [List.size_toArray, List.length_cons, List.length_nil]; omega) fun h' F' N' => ?_
  have e : (List.foldl (fun (x1 x2 : Array Value) => x1 ++ x2) #[] (List.replicate (if ([v] : List Value).toArray.isEmpty = true then 0 else x.toNat) ([v] : List Value).toArray)) = (List.replicate x.toNat v).toArray := by
    have e0 : ([v] : List Value).toArray.isEmpty = false := rfl
    rw [e0, if_neg Bool.false_ne_true]
    generalize x.toNat = n
    have gen : ∀ (n : Nat) (acc : Array Value), List.foldl (fun (x1 x2 : Array Value) => x1 ++ x2) acc (List.replicate n ([v] : List Value).toArray) = acc ++ (List.replicate n v).toArray := by
      intro n
      induction n with
      | zero => intro acc; simp
      | succ n ih =>
        intro acc
        rw [List.replicate_succ, List.foldl_cons, ih, List.replicate_succ]
        apply Array.ext'
        simp
    rw [gen]; simp
  rw [e] at N'
  exact h _ h' 0 F' N' fun p hp => Heap.lt_size (N p hp).1
theorem intsRep (i : Int) (t : Tok) : ∀ n : Nat, IntsAre (List.replicate n (.int i t)) (List.replicate n i)
  | 0 => .nil
  | n + 1 => .cons i t (intsRep i t n)
end
theorem offOf {D : Addr} {l : List (Addr × Obj)} (h : AllLt D l) : ∀ p ∈ l, p.1 ≠ D := by
  induction l with
  | nil => intro p hp; cases hp
  | cons a r ih =>
    intro p hp
    rcases List.mem_cons.mp hp with rfl | hp
    · exact Nat.ne_of_lt h.1
    · exact ih h.2 p hp
theorem offOf' {D : Addr} {l : List (Addr × Obj)} (h : ∀ p ∈ l, p.1 < D) : ∀ p ∈ l, p.1 ≠ D := fun p hp => Nat.ne_of_lt (h p hp)
theorem offA1 {L : Addr} {l : List (Addr × Obj)} (h : ∀ p ∈ l, p.1 < L) : ∀ p ∈ l, p.1 ≠ L + 1 := fun p hp e => by have h1 : @LT.lt Nat _ p.1 L := h p hp; rw [e] at h1; omega
theorem offA2 {L : Addr} {l : List (Addr × Obj)} (h : ∀ p ∈ l, p.1 < L) : ∀ p ∈ l, p.1 ≠ L + 1 + 1 := fun p hp e => by have h1 : @LT.lt Nat _ p.1 L := h p hp; rw [e] at h1; omega
theorem offA3 {L : Addr} {l : List (Addr × Obj)} (h : ∀ p ∈ l, p.1 < L) : ∀ p ∈ l, p.1 ≠ L + 1 + 1 + 1 := fun p hp e => by have h1 : @LT.lt Nat _ p.1 L := h p hp; rw [e] at h1; omega
theorem offA4 {L : Addr} {l : List (Addr × Obj)} (h : ∀ p ∈ l, p.1 < L) : ∀ p ∈ l, p.1 ≠ L + 1 + 1 + 1 + 1 := fun p hp e => by have h1 : @LT.lt Nat _ p.1 L := h p hp; rw [e] at h1; omega
theorem offA5 {L : Addr} {l : List (Addr × Obj)} (h : ∀ p ∈ l, p.1 < L) : ∀ p ∈ l, p.1 ≠ L + 1 + 1 + 1 + 1 + 1 := fun p hp e => by have h1 : @LT.lt Nat _ p.1 L := h p hp; rw [e] at h1; omega
theorem offA6 {L : Addr} {l : List (Addr × Obj)} (h : ∀ p ∈ l, p.1 < L) : ∀ p ∈ l, p.1 ≠ L + 1 + 1 + 1 + 1 + 1 + 1 := fun p hp e => by have h1 : @LT.lt Nat _ p.1 L := h p hp; rw [e] at h1; omega
section
variable {prog : Program} {w : World} {A : Around} {E : Value → Shared → Prop} {s : Shared} {h₀ : Heap} {L D : Addr} {m : PySem.Str → Option Value} {led : List (Addr × Obj)}
theorem setHd {vs : List Value} {k : Nat} {i : Int} {t : Tok} {v : Value} {Q : Unit → Shared → Prop} (F : Fr h₀ L s.heap m) (N : News h₀ L s.heap ((D, LO vs k) :: led)) (hoff : ∀ p ∈ led, p.1 ≠ D) (h0 : 0 ≤ i) (h1 : i < vs.length) (hfit : i < 2 ^ 63)
    (h : ∀ h' k', Fr h₀ L h' m → News h₀ L h' ((D, LO (vs.set i.toNat v) k') :: led) → Q () { s with heap := h' }) :
    wpAny (model prog w) A (setItem (.ref D) (.int i t) v) Q E s := by
  have z := N _ (List.mem_cons_self ..)
  refine ki_setAt z.1 h0 hfit (by simpa using h1) (h _ k (F.change (Heap.SameBut.update ..) z.2.1 z.2.2) ?_)
  refine ki_turn (pre := []) (D := D) _ N (fun _ hp => nomatch hp) hoff ?_ ?_
  · apply Array.toList_inj.mp
    simp
  · simp
theorem led5 {h : Heap} {a d b c1 c2 c3 : Addr × Obj} {rest : List (Addr × Obj)} (N : News h₀ L h (a :: d :: b :: c1 :: c2 :: c3 :: rest)) (ha : a.1 ≠ d.1) (h1 : c1.1 ≠ d.1) (h2 : c2.1 ≠ d.1) (h3 : c3.1 ≠ d.1) (hr : ∀ p ∈ rest, p.1 ≠ d.1) :
    ∃ led, News h₀ L h (d :: led) ∧ a ∈ led ∧ c1 ∈ led ∧ c2 ∈ led ∧ c3 ∈ led ∧ (∀ p ∈ rest, p ∈ led) ∧ ∀ p ∈ led, p.1 ≠ d.1 := by
  refine ⟨a :: c1 :: c2 :: c3 :: rest, newsSub N fun p hp => ?_, .head _, .tail _ (.head _), .tail _ (.tail _ (.head _)), .tail _ (.tail _ (.tail _ (.head _))), fun _ hp => .tail _ (.tail _ (.tail _ (.tail _ hp))), fun p hp => ?_⟩
  · simp only [List.mem_cons] at hp ⊢
    rcases hp with h | h | h | h | h | h <;> simp [h]
  · simp only [List.mem_cons] at hp
    rcases hp with rfl | rfl | rfl | rfl | h
    · exact ha
    · exact h1
    · exact h2
    · exact h3
    · exact hr p h
end
theorem leN {a b : Nat} (h : a ≤ b) : a ≤ b := h
theorem mapOne {m : PySem.Str → Option Value} {x : PySem.Str} {u : Value} (h : m x = some u) (ys : List PySem.Str) : m = fun z => if z = x then some u else if z ∈ ys then m z else m z := by
  funext z
  split
  · rename_i e; rw [e]; exact h
  · split <;> rfl
theorem map3 {m : PySem.Str → Option Value} {x y w : PySem.Str} {u : Value} (h : m x = some u) : m = fun z => if z = x then some u else if z = y then m z else if z = w then m z else m z := by
  funext z
  by_cases hx : z = x
  · rw [if_pos hx, hx]; exact h
  · rw [if_neg hx]; repeat' split
    all_goals rfl
theorem namedMap {h₀ h : Heap} {L : Addr} {m : PySem.Str → Option Value} (F : Fr h₀ L h m) : ∃ m0, m0 = m ∧ Fr h₀ L h m0 := ⟨m, rfl, F⟩
section
variable {prog : Program} {w : World} {A : Around} {E : Value → Shared → Prop} {s : Shared} {h₀ : Heap} {L D : Addr} {m : PySem.Str → Option Value} {led news news' : List (Addr × Obj)} {vs : List Value} {k : Nat}
theorem appendL {x : Value} {Q : Value → Shared → Prop} (F : Fr h₀ L s.heap m) (N : News h₀ L s.heap news) (U : Upd D (LO vs k) (LO (vs ++ [x]) (k + 1)) news news') (hz : vs.length ≤ 1000000)
    (h : ∀ h', Fr h₀ L h' m → News h₀ L h' news' → Q .none { s with heap := h' }) : wpAny (model prog w) A (call (.builtin "list.append") [.ref D, x]) Q E s :=
  append_K (its := vs.toArray) F N (by rw [show vs.toArray.push x = (vs ++ [x]).toArray by simp]; exact U) h (by simp only [List.size_toArray, sizeLine_eq]; omega)
theorem reverseHd {Q : Value → Shared → Prop} (F : Fr h₀ L s.heap m) (N : News h₀ L s.heap ((D, LO vs k) :: led)) (hoff : ∀ p ∈ led, p.1 ≠ D) (hz : vs.length ≤ 1000000)
    (h : ∀ h', Fr h₀ L h' m → News h₀ L h' ((D, LO vs.reverse k) :: led) → Q .none { s with heap := h' }) : wpAny (model prog w) A (call (.builtin "list.reverse") [.ref D]) Q E s :=
  reverse_head F N hoff h (by simp only [List.size_toArray, sizeLine_eq]; omega)
end
theorem map3' {m m0 : PySem.Str → Option Value} {x y w : PySem.Str} {u : Value} (h : m x = some u) (hm : ∀ z, z ≠ x → z ≠ y → z ≠ w → m z = m0 z) : m = fun z => if z = x then some u else if z = y then m z else if z = w then m z else m0 z := by
  funext z
  by_cases hx : z = x
  · rw [if_pos hx, hx]; exact h
  · rw [if_neg hx]
    by_cases hy : z = y
    · rw [if_pos hy]
    · rw [if_neg hy]
      by_cases hw : z = w
      · rw [if_pos hw]
      · rw [if_neg hw]; exact hm z hx hy hw
abbrev T44 (t : List (Addr × Obj)) : Prop := TabP 44 ⟨50, 4, 55, 55⟩ (PySem.Str.ofString "_digits2int.<locals>.inner") t
abbrev T37 (t : List (Addr × Obj)) : Prop := TabP 37 ⟨35, 4, 44, 28⟩ (PySem.Str.ofString "_int2digits.<locals>.inner") t
def Sep (t t' news : List (Addr × Obj)) : Prop := ∀ a o, (a, o) ∈ news → (∀ q ∈ t, q.1 ≠ a) → ∀ q ∈ t', q.1 ≠ a
end
section
-- after: 05_rules
section
variable {α : Type}
theorem sub_nil {l : List α} : ∀ p ∈ ([] : List α), p ∈ l := fun _ h => nomatch h
theorem sub_refl {l : List α} : ∀ p ∈ l, p ∈ l := fun _ h => h
theorem sub_keep {a l : List α} {b : α} (h : ∀ p ∈ a, p ∈ l) : ∀ p ∈ b :: a, p ∈ b :: l := fun p hp => (List.mem_cons.mp hp).elim (fun e => e ▸ .head _) fun hp => .tail _ (h p hp)
theorem sub_skip {a l : List α} {b : α} (h : ∀ p ∈ a, p ∈ l) : ∀ p ∈ a, p ∈ b :: l := fun p hp => .tail _ (h p hp)
theorem sub_cons {a : α} {r l : List α} (h : a ∈ l) (t : ∀ p ∈ r, p ∈ l) : ∀ p ∈ a :: r, p ∈ l := fun p hp => (List.mem_cons.mp hp).elim (fun e => e ▸ h) (t p)
theorem sub_app {a b l : List α} (h1 : ∀ p ∈ a, p ∈ l) (h2 : ∀ p ∈ b, p ∈ l) : ∀ p ∈ a ++ b, p ∈ l := fun p hp => (List.mem_append.mp hp).elim (h1 p) (h2 p)
theorem sub_inl {a b c : List α} (h : ∀ p ∈ a, p ∈ b) : ∀ p ∈ a, p ∈ b ++ c := fun p hp => List.mem_append_left _ (h p hp)
theorem sub_inr {a b c : List α} (h : ∀ p ∈ a, p ∈ c) : ∀ p ∈ a, p ∈ b ++ c := fun p hp => List.mem_append_right _ (h p hp)
end
section
variable {c : Addr} {l : List (Addr × Obj)}
theorem ne_nil : ∀ p ∈ ([] : List (Addr × Obj)), p.1 ≠ c := fun _ h => nomatch h
theorem ne_cons {a : Addr} {o : Obj} (h : a ≠ c) (t : ∀ p ∈ l, p.1 ≠ c) : ∀ p ∈ (a, o) :: l, p.1 ≠ c := fun p hp => (List.mem_cons.mp hp).elim (fun e => e ▸ h) (t p)
theorem gt_ne {a : Addr} (h : @LT.lt Nat _ c a) : a ≠ c := Nat.ne_of_gt h
theorem ne2_nil : ∀ p ∈ ([] : List (Addr × Obj)), p.1 ≠ 37 ∧ p.1 ≠ 44 := fun _ h => nomatch h
theorem ne2_cons {a : Addr} {o : Obj} (h : @LT.lt Nat _ 44 a) (t : ∀ p ∈ l, p.1 ≠ 37 ∧ p.1 ≠ 44) : ∀ p ∈ (a, o) :: l, p.1 ≠ 37 ∧ p.1 ≠ 44 := fun p hp => (List.mem_cons.mp hp).elim (fun e => e ▸ ⟨gt_ne (Nat.lt_trans (by decide) h), gt_ne h⟩) (t p)
end
end
local macro_rules | `(tactic| k_all) => `(tactic| first | assumption | exact offOf' (by assumption) | exact offA1 (by assumption) | exact offA2 (by assumption) | exact offA3 (by assumption) | exact offA4 (by assumption) | exact offA5 (by assumption) | exact offA6 (by assumption) | exact offOf (by assumption) | exact offOf (And.right (by assumption)) | exact offOf (And.right (And.right (by assumption))) | exact offOf (And.right (And.right (And.right (by assumption)))) | exact offOf (And.right (And.right (And.right (And.right (by assumption))))) | exact offOf (And.right (And.right (And.right (And.right (And.right (by assumption)))))) | exact offOf (And.right (And.right (And.right (And.right (And.right (And.right (by assumption))))))))
local macro_rules | `(tactic| tb_rel) => `(tactic| first | assumption | omega | (simp only [List.length_replicate, List.length_set, List.length_append, List.length_cons, List.length_nil, List.length_map]; omega))
local macro_rules | `(tactic| walk_at "truthy ref") => `(tactic| (k_here; (with_reducible show wpAny _ _ (truthy (Value.ref _)) _ _ _); k_dflt (refine' truthyL ?N ?m ?f ?_; (case N => k_asm); (case m => k_mem); (case f => tb_rel); k_whole)))
local macro_rules | `(tactic| walk_at "call builtin:len") => `(tactic| (k_here; (with_reducible show wpAny _ _ (call (Value.builtin _) [Value.ref _]) _ _ _); k_dflt (refine' lenL ?N ?m ?f ?_; (case N => k_asm); (case m => k_mem); (case f => tb_rel); k_whole)))
local macro_rules | `(tactic| k_mem) => `(tactic| assumption)
local macro_rules | `(tactic| walk_at "binaryOp LShift int int") => `(tactic| (k_here; k_dflt (refine' PyProof.Rows.lshift_int ?n ?b ?_; (case n => assumption); (case b => assumption); k_whole)))
local macro_rules | `(tactic| walk_at "binaryOp Mult ref int") => `(tactic| (k_here; k_dflt (refine' mulOne ?F ?N ?m ?a ?b ?_; (case F => k_asm); (case N => k_asm); (case m => k_mem); (case a => tb_rel); (case b => tb_rel); k_whole); intro D h3 k3 F3 N3 l3; (try k_lt l3)))
local macro_rules | `(tactic| walk_at "binaryOp RShift int int") => `(tactic| (k_here; k_dflt (refine' PyProof.Rows.rshift_int ?n ?_; (case n => first | assumption | decide); k_whole)))
local macro_rules | `(tactic| walk_at "call builtin:list.append") => `(tactic| (k_here; (with_reducible show wpAny _ _ (call (Value.builtin _) [Value.ref _, _]) _ _ _); k_dflt (refine' appendL ?F ?N ?U ?z ?_; (case F => k_asm); (case N => k_asm); (case U => k_upd); (case z => tb_rel); k_whole); intro h' F' N'))
local macro_rules | `(tactic| walk_at "call builtin:list.reverse") => `(tactic| (k_here; k_dflt (refine' reverseHd ?F ?N ?U ?z ?_; (case F => k_asm); (case N => k_asm); (case U => assumption); (case z => tb_rel); k_whole); intro h' F' N'))
local macro_rules | `(tactic| mul_fits) => `(tactic| assumption)
local macro_rules | `(tactic| ktr_unf) => `(tactic| repeat' ((fail_if_success (with_reducible show wpAny _ _ (pyIter _) _ _ _)); (fail_if_success (with_reducible show wpAny _ _ (eval (PySem.Expr.ListComp _ _ _ _) _) _ _ _)); (fail_if_success (with_reducible show wpAny _ _ (exec (PySem.Stmt.Assign _ (PySem.Expr.ListComp _ _ _ _) _) _) _ _ _)); (fail_if_success (with_reducible show wpAny _ _ (exec (PySem.Stmt.While _ _ _ _) _) _ _ _)); (first | (k_unfold; (try dsimp only)) | (k_end; kc_close) | walk1 | (dsimp only; walk1) | (leave1; walk_say "STEP leave1"; (try dsimp only)) | fail "no step")))
local macro_rules | `(tactic| kd_in) => `(tactic| first | assumption | exact List.Mem.head _ | (refine List.Mem.tail _ ?_; kd_in) | (refine List.mem_append_left _ ?_; kd_in) | (refine List.mem_append_right _ ?_; kd_in))
local macro_rules | `(tactic| kqd_in) => `(tactic| kd_in)
local macro_rules | `(tactic| kqd_in) => `(tactic| with_reducible first | exact List.Mem.head _ | (refine List.Mem.tail _ ?_; kqd_in) | assumption | (refine List.mem_append_left _ ?_; kqd_in) | (refine List.mem_append_right _ ?_; kqd_in))
local macro_rules | `(tactic| lcg_sub) => `(tactic| with_reducible ((repeat' (first | exact sub_nil | refine sub_keep ?_ | refine sub_skip ?_ | exact sub_refl | exact sub_inl sub_refl | exact sub_inr sub_refl | exact sub_inr (sub_inl sub_refl) | exact sub_inr (sub_inr sub_refl) | refine sub_app ?_ ?_)); done))
local macro_rules | `(tactic| kqd_all) => `(tactic| with_reducible ((repeat' (first | exact sub_nil | refine sub_keep ?_ | refine sub_cons (by kqd_in) ?_ | refine sub_skip ?_ | exact sub_refl | exact sub_inl sub_refl | exact sub_inr sub_refl | exact sub_inr (sub_inl sub_refl) | exact sub_inr (sub_inr sub_refl) | refine sub_app ?_ ?_ | refine sub_inr ?_)); done))
local macro_rules | `(tactic| kqd_sub) => `(tactic| first | lcg_sub | kqd_all)
section
-- after: 05_sub

theorem d2i_call {w : World} {p : Program} {loose : List PySem.Str} {mean : ExcName → Option Value} {mg mb : PySem.Str → Option Value} {news t44 : List (Addr × Obj)} {l : Addr} {vs : List Value} {k : Nat} {ds : List Int} (wd : Int) (tw : Tok) (hl : (l, LO vs k) ∈ news) (hv : IntsAre vs ds) (hlen : vs.length ≤ 64) (hdig : ∀ d ∈ ds, 0 ≤ d ∧ d < 2 ^ 4096)
  (hw : 0 ≤ wd) (hw2 : wd ≤ 4096) (dp un : Nat) (fr : Option (List Env)) (gd : Option (List Code)) (h₀ : Heap) (L : Addr) (m : PySem.Str → Option Value) (s : Shared) (Q E : Value → Shared → Prop)
  (ht : T44 t44) (hne : ∀ p ∈ news, p.1 ≠ 44)
  (F : Fr h₀ L s.heap m) (X : (KF w.params).In h₀) (N : News h₀ L s.heap (t44 ++ news)) (T : Top p loose mean mg mb h₀) (hdp : dp + 100 < recursionLimit) (hun : un + 1000 < cLine)
  (hret : ∀ (t : Tok) h' tk' t44', T44 t44' → Sep t44 t44' news → Fr h₀ L h' m → News h₀ L h' (t44' ++ news) → Q (.int (d2iP wd.toNat ds) t) { s with heap := h', toks := tk' }) :
    wpAny (model PySem.Challenge.rw_sn0069_01.row.prog w) (Ar dp un fr gd) (call (.ref 49) [.ref l, .int wd tw]) Q E s := by
  revert X; k_fill; intro X
  k_dflt (refine' enterC (binds := [(PySem.Str.ofString "digits", .ref l), (PySem.Str.ofString "n", .int wd tw)]) ?F ?X ?N ?T ?k6 ?k7 ?k8 ?k9 ?kB ?kD ?_ ?c2 ?c3 ?c4; (case F => exact F); (case X => exact X); (case N => exact N); (case T => exact T); (case k6 => k_is); (case k7 => k_is); (case k8 => ktr_room); (case k9 => exact BindsTo.of_eq rfl); (case kB => exact rfl); (case kD => decide +kernel); (case c2 => exact rfl); (case c3 => exact rfl); (case c4 => exact rfl))
  intro g' L' h' tk' cells' BK' F' N' Y' X' T' l1
  k_cells Y'
  simp only [List.cons_append, List.nil_append] at N'
  clear F X N T
  (try dsimp only)
  (with_reducible show wpAny _ _ _ _ _ _)
  k_fold
  k_steps
  k_dflt (refine' nestDef_K ?d0 ?k0 ?a0 ?_; (case d0 => exact rfl); (case k0 => exact rfl); (case a0 => exact rfl))
  have hCH := codeHd_of_K (c := 48) (P := 44) X' (by kernel_rfl)
  have e44 := ht.lt l1
  k_dflt (refine nestAny (pre := [_, _, _]) F' N' T' hCH rfl ht ?_ ?_ rfl ?_)
  · intro p hp
    simp only [List.mem_cons, List.not_mem_nil, or_false] at hp
    rcases hp with rfl | rfl | rfl <;> (refine neN ?_; dsimp only; omega)
  · exact hne
  intro f' c' ct' dc' h' tk' tb' ht' F' N' hcr hct l2 l3
  simp only [List.cons_append, List.nil_append] at N' l2
  have a3 := ltHd l2
  have ap1 := nest_off l1 l3 e44 (Nat.le_add_right L' 3) (List.Mem.head _)
  have ap2 := nest_off l1 l3 e44 (Nat.le_add_right L' 2) (List.Mem.tail _ (List.Mem.head _))
  have ap3 := nest_off l1 l3 e44 (Nat.le_add_right L' 1) (List.Mem.tail _ (List.Mem.tail _ (List.Mem.head _)))
  have hl' : (l, LO vs k) ∈ tb' ++ news := List.mem_append_right _ hl
  have hsep : Sep t44 tb' news := fun a o ha h q hq e => by
    rcases l3 q hq with h1 | h1 | h1
    · rcases ht with rfl | ⟨_, _, _, _, rfl, _⟩
      · exact h _ (.head _) (h1.symm.trans e)
      · exact h _ (.head _) (h1.symm.trans e)
    · exact h q h1 e
    · exact Nat.ne_of_lt (h1 _ (List.mem_append_right _ (List.mem_append_right _ ha))) e.symm
  k_steps
  · -- no digit
    (with_reducible rename Fr _ _ _ _ => F9); (with_reducible rename News _ _ _ _ => N9)
    have hr := BK'.use F9 (newsSub N9 (news' := tb' ++ news) fun p hp => .tail _ (.tail _ (.tail _ (.tail _ hp))))
    have e : ds = [] := by
      have h1 := hv.length
      have h2 : vs = [] := by
        (with_reducible rename List.isEmpty _ = true => hc)
        simpa using hc
      rw [h2] at h1; exact List.length_eq_zero_iff.mp h1.symm
    subst e
    exact hret _ _ _ tb' ht' hsep hr.1 hr.2
  · (with_reducible rename Fr _ _ _ _ => F9); (with_reducible rename News _ _ _ _ => N9)
    obtain ⟨led, N10, m1, m2, m3, m4, m5⟩ := led4 N9
    have inner : ∀ (n lo hi : Nat), hi - lo ≤ n → lo < hi → hi ≤ vs.length → ∀ (dp un : Nat) (fr : Option (List Env)) (gd : Option (List Code)) (h₀ : Heap) (L : Addr) (m : PySem.Str → Option Value) (s : Shared) (Q E : Value → Shared → Prop) (ta tb : Tok),
        Fr h₀ L s.heap m → (KF w.params).In h₀ → News h₀ L s.heap led → Top p loose mean mg mb h₀ → dp + n < recursionLimit → un + 8 * n + 8 < cLine →
        (∀ t h' tk', Fr h₀ L h' m → News h₀ L h' led → Q (.int (d2iP wd.toNat ((ds.drop lo).take (hi - lo))) t) { s with heap := h', toks := tk' }) →
        wpAny (model PySem.Challenge.rw_sn0069_01.row.prog w) (Ar dp un fr gd) (call (.ref f') [.int lo ta, .int hi tb]) Q E s := by
      intro n
      induction n with
      | zero => intro lo hi h1 h2; omega
      | succ n ih =>
        intro lo hi h1 h2 h3 dp un fr gd h₀ L m s Q E ta tb F X N T hdp hun hret
        obtain ⟨oc, vc, tc, hc1, hc2, hc3⟩ := hct
        have hcr := codeRec_news N (m5 _ (List.mem_append_left _ hc1)) hc2 hc3
        k_dflt (refine' enterN (binds := [(PySem.Str.ofString "L", .int lo ta), (PySem.Str.ofString "R", .int hi tb)]) ?F ?X ?N ?T ?k6 ?k7 ?k8 ?k9 ?kB ?_ ?c2 ?c3 ?c4 ?c5; (case F => exact F); (case X => exact X); (case N => exact N); (case T => exact T); (case k6 => exact m1); (case k7 => exact hcr); (case k8 => ktr_room); (case k9 => exact BindsTo.of_eq rfl); (case c5 => decide); (case kB => exact locs rfl); (case c2 => exact rfl); (case c3 => exact rfl); (case c4 => exact rfl))
        clear F9 N9 N10 hcr BK'
        intro g' L' h' BK' F' N' X' T' l1
        (try dsimp only)
        (with_reducible show wpAny _ _ _ _ _ _)
        k_fold
        k_steps
        · -- one digit
          (with_reducible rename Fr _ _ _ _ => F8); (with_reducible rename News _ _ _ _ => N8)
          have e1 : lo + 1 = hi := by first | omega | (simp at *; omega)
          obtain ⟨td, hx⟩ := hv.get lo (ds.getD lo 0) (by rw [List.getD_eq_getElem?_getD]; have := hv.length; rw [List.getElem?_eq_getElem (by omega)]; rfl)
          k_dflt (refine itemL N8 (m5 _ hl') (by omega) (by omega) (v := .int (ds.getD lo 0) td) (by simpa using hx) ?_)
          have hr := BK'.use F8 N8
          have e2 : d2iP wd.toNat ((ds.drop lo).take (hi - lo)) = ds.getD lo 0 := by
            have e3 : hi - lo = 1 := by omega
            have hlt : lo < ds.length := by have := hv.length; omega
            rw [e3, List.drop_eq_getElem_cons hlt, List.take_succ_cons, List.take_zero, d2iP, d2iP, Int.mul_zero, Int.add_zero, List.getD_eq_getElem?_getD, List.getElem?_eq_getElem hlt]; rfl
          rw [← e2]
          exact hret _ _ _ hr.1 hr.2
        · (with_reducible rename Fr _ _ _ _ => F8); (with_reducible rename News _ _ _ _ => N8)
          have e1 : lo + 1 ≠ hi := by first | omega | (simp at *; omega)
          have e2 : ((lo : Int) + (hi : Int)).fdiv (2 ^ Int.toNat 1) = (((lo + hi) / 2 : Nat) : Int) := by
            rw [show (2 : Int) ^ Int.toNat 1 = 2 from rfl, Int.fdiv_eq_ediv_of_nonneg _ (by omega)]; omega
          obtain ⟨mid, hmid⟩ : ∃ mid, mid = (lo + hi) / 2 := ⟨_, rfl⟩
          rw [← hmid] at e2
          simp only [e2] at F8 ⊢
          have hnn : 0 ≤ ((mid : Int) - (lo : Int)) * wd := Int.mul_nonneg (by omega) hw
          have hbb : (Builtin.Int.intBits (d2iP wd.toNat ((ds.drop mid).take (hi - mid))) : Int) + ((mid : Int) - (lo : Int)) * wd ≤ 2 ^ 27 := by
            have q1 := seg_bits (w := wd.toNat) (by omega) (by have := hv.length; omega) hdig mid (hi - mid)
            have q2 : ((mid : Int) - (lo : Int)) * wd ≤ 64 * 4096 := Int.mul_le_mul (by omega) hw2 hw (by omega)
            omega
          have hee : d2iP wd.toNat ((ds.drop mid).take (hi - mid)) * 2 ^ (((mid : Int) - (lo : Int)) * wd).toNat + d2iP wd.toNat ((ds.drop lo).take (mid - lo)) = d2iP wd.toNat ((ds.drop lo).take (hi - lo)) := by
            rw [d2i_split wd.toNat ds (lo := lo) (mid := mid) (hi := hi) (by omega) (by omega) (by have := hv.length; omega)]
            have q3 : (((mid : Int) - (lo : Int)) * wd).toNat = wd.toNat * (mid - lo) := by
              have q4 : (mid : Int) - (lo : Int) = ((mid - lo : Nat) : Int) := by omega
              rw [q4, show wd = ((wd.toNat : Nat) : Int) by omega, ← Int.natCast_mul, Int.toNat_natCast, Int.toNat_natCast, Nat.mul_comm]
            rw [q3]
          k_dflt (refine ih mid hi (by omega) (by omega) h3 _ _ _ _ _ _ _ _ _ _ _ _ (by k_asm) X' (by k_asm) T' (by ktr_room) (by ktr_units) ?_)
          intro tq hq tkq Fq Nq
          k_steps
          k_dflt (refine ih lo mid (by omega) (by omega) (by omega) _ _ _ _ _ _ _ _ _ _ _ _ (by k_asm) X' (by k_asm) T' (by ktr_room) (by ktr_units) ?_)
          intro tr hr tkr Fr' Nr
          k_steps
          rw [hee]
          exact hret _ _ _ (BK'.use Fr' Nr).1 (BK'.use Fr' Nr).2
    have hpos : 0 < vs.length := by
      (with_reducible rename List.isEmpty _ = false => hc)
      cases vs with
      | nil => cases hc
      | cons a b => exact Nat.succ_pos _
    k_dflt (refine inner vs.length 0 vs.length (by omega) hpos (Nat.le_refl _) _ _ _ _ _ _ _ _ _ _ _ _ F9 X' N10 T' (by ktr_room) (by ktr_units) ?_)
    intro tq hq tkq Fq Nq
    have e : (ds.drop 0).take (vs.length - 0) = ds := by
      have := hv.length
      rw [List.drop_zero, Nat.sub_zero, this, List.take_length]
    rw [e]
    have hr := BK'.use Fq (newsSub Nq (news' := tb' ++ news) m5)
    exact hret _ _ _ tb' ht' hsep hr.1 hr.2
end
section
-- after: 05_sub
theorem div2_call {w : World} {p : Program} {loose : List PySem.Str} {mean : ExcName → Option Value} {mg mb : PySem.Str → Option Value} {news : List (Addr × Obj)} (a b n : Int) (ta tb tn : Tok) (hb : 0 < b) (hbb : Builtin.Int.intBits b ≤ 4096) (hbits : (Builtin.Int.intBits a : Int) - n ≤ 4000)
  (dp un : Nat) (fr : Option (List Env)) (gd : Option (List Code)) (h₀ : Heap) (L : Addr) (m : PySem.Str → Option Value) (s : Shared) (Q E : Value → Shared → Prop)
  (F : Fr h₀ L s.heap m) (X : (KF w.params).In h₀) (N : News h₀ L s.heap news) (T : Top p loose mean mg mb h₀) (hdp : dp + 10 < recursionLimit) (hun : un + 100 < cLine)
  (hret : ∀ (D : Addr) t1 t2 k h' tk', Fr h₀ L h' m → News h₀ L h' ((D, TO [.int (a.fdiv b) t1, .int (a.fmod b) t2] k) :: news) → (∀ q ∈ news, q.1 < D) → Q (.ref D) { s with heap := h', toks := tk' }) :
    wpAny (model PySem.Challenge.rw_sn0069_01.row.prog w) (Ar dp un fr gd) (call (.ref 28) [.int a ta, .int b tb, .int n tn]) Q E s := by
  revert X; k_fill; intro X
  k_dflt (refine' enterP (binds := [(PySem.Str.ofString "a", .int a ta), (PySem.Str.ofString "b", .int b tb), (PySem.Str.ofString "n", .int n tn)]) ?F ?X ?N ?T ?k6 ?k7 ?k8 ?k9 ?kB ?_ ?c2 ?c3 ?c4 ?c5; (case F => exact F); (case X => exact X); (case N => exact N); (case T => exact T); (case k6 => k_is); (case k7 => k_is); (case k8 => ktr_room); (case k9 => exact BindsTo.of_eq rfl); (case c5 => decide); (case kB => exact locs rfl); (case c2 => exact rfl); (case c3 => exact rfl); (case c4 => exact rfl))
  intro g' L' h' BK' F' N' X' T' l1
  clear F X N T
  (try dsimp only)
  (with_reducible show wpAny _ _ _ _ _ _)
  k_fold
  k_steps
  (with_reducible rename Fr _ _ _ _ => F9); (with_reducible rename News _ _ _ _ => N9)
  k_dflt (refine divmod_N F9 N9 (by omega) ?_ (.inl (PyProof.noPylong_of_log2 (by have := log2_of_bits hbb; omega))))
  intro h2 F2 N2
  have hr := BK'.use F2 N2
  exact hret _ _ _ _ _ _ hr.1 hr.2 fun q hq => Heap.lt_size (N9 q hq).1
end
section
-- after: 05_sub

theorem i2d_call {w : World} {p : Program} {loose : List PySem.Str} {mean : ExcName → Option Value} {mg mb : PySem.Str → Option Value} {news t37 : List (Addr × Obj)} (a n : Nat) (ta tn : Tok) (hn : 0 < n) (hn2 : n ≤ 4096) (hbits : Builtin.Int.intBits (a : Int) ≤ 40 * n)
  (dp un : Nat) (fr : Option (List Env)) (gd : Option (List Code)) (h₀ : Heap) (L : Addr) (m : PySem.Str → Option Value) (s : Shared) (Q E : Value → Shared → Prop)
  (ht : T37 t37) (hne : ∀ p ∈ news, p.1 ≠ 37)
  (F : Fr h₀ L s.heap m) (X : (KF w.params).In h₀) (N : News h₀ L s.heap (t37 ++ news)) (T : Top p loose mean mg mb h₀) (hdp : dp + 100 < recursionLimit) (hun : un + 1000 < cLine)
  (K : Nat) (hK : ((Builtin.Int.intBits (a : Int) : Int) + n - 1).fdiv n = (K : Int)) (hK40 : K ≤ 41) (haK : a < 2 ^ (n * K)) (hK0 : a ≠ 0 → 0 < K)
  (hret : ∀ (D : Addr) vs k h' tk' t37', T37 t37' → IntsAre vs (digsP n a K) → Fr h₀ L h' m → News h₀ L h' ((D, LO vs k) :: (t37' ++ news)) → (∀ p ∈ t37' ++ news, p.1 ≠ D) → Q (.ref D) { s with heap := h', toks := tk' }) :
    wpAny (model PySem.Challenge.rw_sn0069_01.row.prog w) (Ar dp un fr gd) (call (.ref 42) [.int a ta, .int n tn]) Q E s := by
  revert X; k_fill; intro X
  k_dflt (refine' enterC (binds := [(PySem.Str.ofString "a", .int a ta), (PySem.Str.ofString "n", .int n tn)]) ?F ?X ?N ?T ?k6 ?k7 ?k8 ?k9 ?kB ?kD ?_ ?c2 ?c3 ?c4; (case F => exact F); (case X => exact X); (case N => exact N); (case T => exact T); (case k6 => k_is); (case k7 => k_is); (case k8 => ktr_room); (case k9 => exact BindsTo.of_eq rfl); (case kB => exact rfl); (case kD => decide +kernel); (case c2 => exact rfl); (case c3 => exact rfl); (case c4 => exact rfl))
  intro g' L' h' tk' cells' BK' F' N' Y' X' T' l1
  k_cells Y'
  simp only [List.cons_append, List.nil_append] at N'
  clear F X N T
  (try dsimp only)
  (with_reducible show wpAny _ _ _ _ _ _)
  k_fold
  have hb1 : -1000000 ≤ ((Builtin.Int.intBits (a : Int) : Int) + n - 1).fdiv n := by rw [hK]; omega
  have hb2 : ((Builtin.Int.intBits (a : Int) : Int) + n - 1).fdiv n ≤ 1000000 := by rw [hK]; omega
  k_steps
  rename_i D h3 k3 l3 h4 o4 F9 N9 d4
  simp only [hK, Int.toNat_natCast] at *
  k_dflt (refine' nestDef_K ?d0 ?k0 ?a0 ?_; (case d0 => exact rfl); (case k0 => exact rfl); (case a0 => exact rfl))
  have hCH := codeHd_of_K (c := 41) (P := 37) X' (by kernel_rfl)
  have e37 := ht.lt l1
  k_dflt (refine nestAny (pre := [_, _, _, _, _]) F9 N9 T' hCH rfl ht ?_ ?_ rfl ?_)
  · intro p hp
    simp only [List.mem_cons, List.not_mem_nil, or_false] at hp
    rcases hp with rfl | rfl | rfl | rfl | rfl <;> (refine neN ?_; dsimp only; omega)
  · exact hne
  intro f' c' ct' dc' h' tk' tb' ht' F' N' hcr hct l2 l4
  simp only [List.cons_append, List.nil_append] at N' l2
  have a3 := ltHd l2
  have l1' := l1
  have ap1 := nest_off l1 l4 e37 (Nat.le_add_right L' 3) (List.Mem.tail _ (List.Mem.tail _ (List.Mem.head _)))
  have ap0 := nest_off (c := D) l1 l4 e37 (leN (by omega)) (List.Mem.head _)
  k_steps
  · (with_reducible rename Fr _ _ _ _ => F9); (with_reducible rename News _ _ _ _ => N9)
    have hK0' : 0 < K := hK0 (by intro e; subst e; simp at *)
    obtain ⟨led, N10, m1, m2, m3, m4, m5, m6⟩ := led5 N9 (neN (by (try dsimp only); omega)) (neN (by (try dsimp only); omega)) (neN (by (try dsimp only); omega)) (neN (by (try dsimp only); omega)) ap0
    have inner : ∀ (q lo hi x : Nat) (xs : List Value) (k : Nat), hi - lo ≤ q → lo < hi → hi ≤ K → xs.length = K → x < 2 ^ (n * (hi - lo)) → ∀ (dp un : Nat) (fr : Option (List Env)) (gd : Option (List Code)) (h₀ : Heap) (L : Addr) (m : PySem.Str → Option Value) (s : Shared) (Q E : Value → Shared → Prop) (tx ta tb : Tok),
        Fr h₀ L s.heap m → (KF w.params).In h₀ → News h₀ L s.heap ((D, LO xs k) :: led) → Top p loose mean mg mb h₀ → dp + q < recursionLimit → un + 8 * q + 8 < cLine →
        (∀ h' tk' xs' k', Fr h₀ L h' m → News h₀ L h' ((D, LO xs' k') :: led) → xs'.length = K → (∀ i, lo ≤ i → i < hi → ∃ t, xs'[i]? = some (.int (dig n x (i - lo)) t)) → (∀ i, ¬ (lo ≤ i ∧ i < hi) → xs'[i]? = xs[i]?) → Q .none { s with heap := h', toks := tk' }) →
        wpAny (model PySem.Challenge.rw_sn0069_01.row.prog w) (Ar dp un fr gd) (call (.ref f') [.int x tx, .int lo ta, .int hi tb]) Q E s := by
      intro q
      induction q with
      | zero => intro lo hi x xs k h1 h2; omega
      | succ q ih =>
        intro lo hi x xs k h1 h2 h3 hxl hx dp un fr gd h₀ L m s Q E tx ta tb F X N T hdp hun hret
        obtain ⟨oc, vc, tc, hc1, hc2, hc3⟩ := hct
        have hcr := codeRec_news N (.tail _ (m5 _ (List.mem_append_left _ hc1))) hc2 hc3
        k_dflt (refine' enterN (binds := [(PySem.Str.ofString "x", .int x tx), (PySem.Str.ofString "L", .int lo ta), (PySem.Str.ofString "R", .int hi tb)]) ?F ?X ?N ?T ?k6 ?k7 ?k8 ?k9 ?kB ?_ ?c2 ?c3 ?c4 ?c5; (case F => exact F); (case X => exact X); (case N => exact N); (case T => exact T); (case k6 => exact .tail _ m1); (case k7 => exact hcr); (case k8 => ktr_room); (case k9 => exact BindsTo.of_eq rfl); (case c5 => decide); (case kB => exact locs rfl); (case c2 => exact rfl); (case c3 => exact rfl); (case c4 => exact rfl))
        clear F9 N9 N10 hcr BK' F X N T l1
        intro g' L' h' BK' F' N' X' T' l1
        (try dsimp only)
        (with_reducible show wpAny _ _ _ _ _ _)
        k_fold
        obtain ⟨mid, hmid⟩ : ∃ mid, mid = (lo + hi) / 2 := ⟨_, rfl⟩
        have e2 : ((lo : Int) + (hi : Int)).fdiv (2 ^ Int.toNat 1) = (mid : Int) := by
          rw [show (2 : Int) ^ Int.toNat 1 = 2 from rfl, Int.fdiv_eq_ediv_of_nonneg _ (by omega)]; omega
        have e3 : ((mid : Int) - (lo : Int)) * (n : Int) = ((n * (mid - lo) : Nat) : Int) := by
          rw [show (mid : Int) - (lo : Int) = ((mid - lo : Nat) : Int) by omega, ← Int.natCast_mul, Nat.mul_comm]
        have hnn : 0 ≤ (((lo : Int) + (hi : Int)).fdiv (2 ^ Int.toNat 1) - (lo : Int)) * (n : Int) := by rw [e2, e3]; omega
        have hS : n * (mid - lo) ≤ 4096 * 41 := Nat.mul_le_mul hn2 (by omega)
        have hS2 : n * (hi - lo) ≤ 4096 * 41 := Nat.mul_le_mul hn2 (by omega)
        have hbb : (Builtin.Int.intBits ((x : Int).fdiv (2 ^ ((((lo : Int) + (hi : Int)).fdiv (2 ^ Int.toNat 1) - (lo : Int)) * (n : Int)).toNat)) : Int) + (((lo : Int) + (hi : Int)).fdiv (2 ^ Int.toNat 1) - (lo : Int)) * (n : Int) ≤ 2 ^ 27 := by
          rw [e2, e3, Int.toNat_natCast, fdiv_nat]
          have := bits_nat (Nat.lt_of_le_of_lt (Nat.div_le_self x (2 ^ (n * (mid - lo)))) hx)
          omega
        have e4 : Builtin.bitXor (x : Int) ((x : Int).fdiv (2 ^ ((((lo : Int) + (hi : Int)).fdiv (2 ^ Int.toNat 1) - (lo : Int)) * (n : Int)).toNat) * 2 ^ ((((lo : Int) + (hi : Int)).fdiv (2 ^ Int.toNat 1) - (lo : Int)) * (n : Int)).toNat) = ((x % 2 ^ (n * (mid - lo)) : Nat) : Int) := by
          rw [e2, e3, Int.toNat_natCast, xor_low]
        have e5 : (x : Int).fdiv (2 ^ ((((lo : Int) + (hi : Int)).fdiv (2 ^ Int.toNat 1) - (lo : Int)) * (n : Int)).toNat) = ((x / 2 ^ (n * (mid - lo)) : Nat) : Int) := by
          rw [e2, e3, Int.toNat_natCast, fdiv_nat]
        k_steps
        · -- one digit
          (with_reducible rename Fr _ _ _ _ => F8); (with_reducible rename News _ _ _ _ => N8)
          have e1 : lo + 1 = hi := by omega
          k_dflt (refine setHd F8 N8 m6 (by omega) (by omega) (by omega) ?_)
          intro h8 k8 F7 N7
          k_steps
          refine hret _ _ _ _ (BK'.use F7 N7).1 (BK'.use F7 N7).2 (by simpa using hxl) (fun i hi1 hi2 => ?_) (fun i hi1 => ?_)
          · have ei : i = lo := by omega
            subst ei
            refine ⟨tx, ?_⟩
            rw [Int.toNat_natCast, List.getElem?_set_self (by omega), Nat.sub_self, dig_one (by rw [show hi - i = 1 by omega, Nat.mul_one] at hx; exact hx)]
          · rw [Int.toNat_natCast, List.getElem?_set_ne (by omega)]
        · have e1 : lo + 1 ≠ hi := by omega
          have hsplit : n * (hi - lo) = n * (mid - lo) + n * (hi - mid) := by rw [← Nat.mul_add]; congr 1; omega
          simp only [e4]
          simp only [e2]
          k_dflt (refine ih lo mid (x % 2 ^ (n * (mid - lo))) _ _ (by omega) (by omega) (by omega) hxl (Nat.mod_lt _ (Nat.pow_pos (by decide))) _ _ _ _ _ _ _ _ _ _ _ _ _ (by k_asm) X' (by k_asm) T' (by ktr_room) (by ktr_units) ?_)
          intro h8 tk8 xs8 k8 F8 N8 hl8 hA8 hB8
          k_steps
          simp only [e5]
          simp only [e2]
          k_dflt (refine ih mid hi (x / 2 ^ (n * (mid - lo))) _ _ (by omega) (by omega) (by omega) hl8 (Nat.div_lt_of_lt_mul (by rw [← Nat.pow_add, ← hsplit]; exact hx)) _ _ _ _ _ _ _ _ _ _ _ _ _ (by k_asm) X' (by k_asm) T' (by ktr_room) (by ktr_units) ?_)
          intro h9 tk9 xs9 k9 F9 N9 hl9 hA9 hB9
          k_steps
          refine hret _ _ _ _ (BK'.use F9 N9).1 (BK'.use F9 N9).2 hl9 (fun i hi1 hi2 => ?_) (fun i hi1 => ?_)
          · by_cases him : i < mid
            · obtain ⟨t, ht⟩ := hA8 i hi1 him
              refine ⟨t, ?_⟩
              rw [hB9 i (by omega), ht, dig_low (Nat.mul_le_mul_left n (by omega))]
            · obtain ⟨t, ht⟩ := hA9 i (by omega) hi2
              refine ⟨t, ?_⟩
              rw [ht, dig_high, show mid - lo + (i - mid) = i - lo by omega]
          · rw [hB9 i (by omega), hB8 i (by omega)]
    simp only [List.length_replicate]
    k_dflt (refine inner K 0 K a _ _ (by omega) hK0' (Nat.le_refl _) (by simp) (by rw [Nat.sub_zero]; exact haK) _ _ _ _ _ _ _ _ _ _ _ _ _ F9 X' N10 T' (by ktr_room) (by ktr_units) ?_)
    intro h8 tk8 xs8 k8 F8 N8 hl8 hA8 hB8
    k_steps
    have hr := BK'.use F8 (newsSub N8 (news' := (D, LO xs8 k8) :: (tb' ++ news)) fun p hp => (List.mem_cons.mp hp).elim (fun e => e ▸ .head _) fun hp => .tail _ (m5 p hp))
    exact hret _ _ _ _ _ tb' ht' (ints_of_at hl8 fun i hi => by simpa using hA8 i (Nat.zero_le i) hi) hr.1 hr.2 ap0
  · (with_reducible rename Fr _ _ _ _ => F9); (with_reducible rename News _ _ _ _ => N9)
    have ha0 : a = 0 := by
      apply Classical.byContradiction
      intro hne
      simp_all
    subst ha0
    have hr := BK'.use F9 (newsSub N9 (news' := _ :: (tb' ++ news)) fun p hp => (List.mem_cons.mp hp).elim (fun e => e ▸ .tail _ (.head _)) fun hp => .tail _ (.tail _ (.tail _ (.tail _ (.tail _ (.tail _ hp))))))
    exact hret _ _ _ _ _ tb' ht' (by rw [digs_zero]; exact intsRep _ _ _) hr.1 hr.2 ap0
end
section
-- after: 05_sub
theorem tab_apart {P P' : Addr} {pos pos' : Pos} {q q' : PySem.Str} {t t' l : List (Addr × Obj)} {h₀ h : Heap} {L : Addr} (ht : TabP P pos q t) (ht' : TabP P' pos' q' t') (N : News h₀ L h l) (h1 : ∀ p ∈ t, p ∈ l) (h2 : ∀ p ∈ t', p ∈ l) (hne : P ≠ P') :
    ∀ p ∈ t, p.1 ≠ P' := by
  have hP' : ∃ ps : Array Value, (P', tabObj ps) ∈ t' ∧ ∀ s u, ps[1]? ≠ some (.str s u) := by
    rcases ht' with rfl | ⟨c', oc, vs, tk, rfl, _, _⟩
    · exact ⟨_, .head _, by intro s u; simp⟩
    · exact ⟨_, .head _, by intro s u; simp [rawInt]⟩
  obtain ⟨ps, hm, hps⟩ := hP'
  rcases ht with rfl | ⟨c', oc, vs, tk, rfl, hd, hv⟩
  · intro p hp
    rw [List.mem_singleton.mp hp]
    exact hne
  · intro p hp e
    rcases List.mem_cons.mp hp with rfl | hp'
    · exact hne e
    · have hp2 := List.mem_singleton.mp hp'
      subst hp2
      have g1 := (N _ (h1 _ hp)).1
      have g2 := (N _ (h2 _ hm)).1
      dsimp only at e g1 g2
      rw [e, g2] at g1
      have g3 := Option.some.inj g1
      rw [← g3] at hd
      injection hd with hd
      rw [← hd] at hv
      exact hps _ _ hv
theorem TabP.has {P : Addr} {pos : Pos} {q : PySem.Str} {t : List (Addr × Obj)} (ht : TabP P pos q t) : ∃ o, (P, o) ∈ t := by
  rcases ht with rfl | ⟨_, _, _, _, rfl, _⟩
  · exact ⟨_, .head _⟩
  · exact ⟨_, .head _⟩
theorem rngSize {a b : Int} {n : Nat} (h : b = a + n) : Builtin.Range.rangeSize a b 1 = (n : Int) := by
  subst h
  simp only [Builtin.Range.rangeSize]
  rw [if_pos (by decide)]
  split <;> omega
theorem rngFits {a : Int} (h1 : -2000000 ≤ a) (h2 : a ≤ 2000000) : Builtin.Range.rangeFitsLong a = true := by
  simp only [Builtin.Range.rangeFitsLong, Bool.and_eq_true, decide_eq_true_eq]
  omega
theorem rngSmall {a b : Int} (h1 : -1000000 ≤ a) (h2 : b ≤ 1000000) (h3 : a ≤ b) : Builtin.Range.small a b 1 = true := by
  obtain ⟨n, hn⟩ : ∃ n : Nat, b = a + n := ⟨(b - a).toNat, by omega⟩
  simp only [Builtin.Range.small, rngSize hn]
  rw [rngFits (by omega) (by omega), rngFits (by omega) (by omega), rngFits (by omega) (by omega), rngFits (by omega) (by omega), if_pos (by decide), rngFits (by omega) (by omega)]
  simp
theorem map2 {m : PySem.Str → Option Value} {x y : PySem.Str} {u : Value} (h : m x = some u) : m = fun z => if z = x then some u else if z = y then m z else m z := by
  funext z
  by_cases hx : z = x
  · rw [if_pos hx, hx]; exact h
  · rw [if_neg hx]; repeat' split
    all_goals rfl
theorem map2' {m m0 : PySem.Str → Option Value} {x y : PySem.Str} {u : Value} (h : m x = some u) (hm : ∀ z, z ≠ x → z ≠ y → m z = m0 z) : m = fun z => if z = x then some u else if z = y then m z else m0 z := by
  funext z
  by_cases hx : z = x
  · rw [if_pos hx, hx]; exact h
  · rw [if_neg hx]
    by_cases hy : z = y
    · rw [if_pos hy]
    · rw [if_neg hy]; exact hm z hx hy
theorem Sep.trans {a b c news : List (Addr × Obj)} (h1 : Sep a b news) (h2 : Sep b c news) : Sep a c news := fun x o hx h => h2 x o hx (h1 x o hx h)
theorem Sep.mono {a b news news' : List (Addr × Obj)} (h1 : Sep a b news') (h : ∀ p ∈ news, p ∈ news') : Sep a b news := fun x o hx => h1 x o (h _ hx)
theorem Sep.refl {a news : List (Addr × Obj)} : Sep a a news := fun _ _ _ h => h
end
section
-- after: 08_rules2 06_d2i 07_div 08_i2d
abbrev DvJ (n a b K : Nat) (Dq : Addr) (m0 : PySem.Str → Option Value) (led : List (Addr × Obj)) (i : Nat) (m₁ : PySem.Str → Option Value) (news₁ : List (Addr × Obj)) : Prop :=
  ∃ (r : Nat) (tr : Tok) (u : PySem.Str → Option Value) (qv : List Value) (qs : List Int) (kq : Nat), m₁ = (fun z => if z = PySem.Str.ofString "r" then some (.int r tr) else if z = PySem.Str.ofString "q_digit" then u z else if z = PySem.Str.ofString "a_digit" then u z else m0 z) ∧ news₁ = (Dq, LO qv kq) :: led ∧ IntsAre qv qs ∧ r = topV n a K i % b ∧ d2iP n qs.reverse = ((topV n a K i / b : Nat) : Int) ∧ qs.length = i ∧ (∀ d ∈ qs, 0 ≤ d ∧ d < 2 ^ n)
theorem divpos_call {w : World} {p : Program} {loose : List PySem.Str} {mean : ExcName → Option Value} {mg mb : PySem.Str → Option Value} {news t37 t44 : List (Addr × Obj)} (a b : Nat) (ta tb : Tok) (hb : 0 < b) (hb2 : Builtin.Int.intBits (b : Int) ≤ 4000) (hbits : Builtin.Int.intBits (a : Int) ≤ 40 * Builtin.Int.intBits (b : Int))
  (dp un : Nat) (fr : Option (List Env)) (gd : Option (List Code)) (h₀ : Heap) (L : Addr) (m : PySem.Str → Option Value) (s : Shared) (Q E : Value → Shared → Prop)
  (ht37 : T37 t37) (ht44 : T44 t44) (hne : ∀ p ∈ news, p.1 ≠ 37 ∧ p.1 ≠ 44)
  (F : Fr h₀ L s.heap m) (X : (KF w.params).In h₀) (N : News h₀ L s.heap (t37 ++ (t44 ++ news))) (T : Top p loose mean mg mb h₀) (hdp : dp + 200 < recursionLimit) (hun : un + 2000 < cLine)
  (hret : ∀ (D : Addr) t1 t2 k h' tk' t37' t44', T37 t37' → T44 t44' → Fr h₀ L h' m → News h₀ L h' ((D, TO [.int ((a / b : Nat) : Int) t1, .int ((a % b : Nat) : Int) t2] k) :: (t37' ++ (t44' ++ news))) → (∀ p ∈ t37' ++ (t44' ++ news), p.1 < D) → Q (.ref D) { s with heap := h', toks := tk' }) :
    wpAny (model PySem.Challenge.rw_sn0069_01.row.prog w) (Ar dp un fr gd) (call (.ref 56) [.int a ta, .int b tb]) Q E s := by
  revert X; k_fill; intro X
  k_dflt (refine' enterP (binds := [(PySem.Str.ofString "a", .int a ta), (PySem.Str.ofString "b", .int b tb)]) ?F ?X ?N ?T ?k6 ?k7 ?k8 ?k9 ?kB ?_ ?c2 ?c3 ?c4 ?c5; (case F => exact F); (case X => exact X); (case N => exact N); (case T => exact T); (case k6 => k_is); (case k7 => k_is); (case k8 => ktr_room); (case k9 => exact BindsTo.of_eq rfl); (case c5 => decide); (case kB => exact locs rfl); (case c2 => exact rfl); (case c3 => exact rfl); (case c4 => exact rfl))
  intro g' L' h' BK' F' N' X' T' l1
  clear F X N T
  (try dsimp only)
  (with_reducible show wpAny _ _ _ _ _ _)
  k_fold
  k_steps
  have hn0 := bitlen_pos hb
  have hab := bitlen_lt a
  have hbb := bitlen_lt b
  obtain ⟨n, hn⟩ : ∃ n, n = Builtin.Int.intBits (b : Int) := ⟨_, rfl⟩
  simp only [← hn] at *
  obtain ⟨K, hK⟩ : ∃ K, K = (Builtin.Int.intBits (a : Int) + n - 1) / n := ⟨_, rfl⟩
  have hK1 : ((Builtin.Int.intBits (a : Int) : Int) + n - 1).fdiv n = (K : Int) := by
    have e : (Builtin.Int.intBits (a : Int) : Int) + n - 1 = ((Builtin.Int.intBits (a : Int) + n - 1 : Nat) : Int) := by omega
    rw [e, (fdivmod_nat _ _).1, hK]
  have hK2 : K ≤ 41 := by rw [hK]; exact Nat.le_of_lt_succ (Nat.div_lt_of_lt_mul (by omega))
  have hK3 : Builtin.Int.intBits (a : Int) ≤ n * K := by
    have := Nat.div_add_mod (Builtin.Int.intBits (a : Int) + n - 1) n
    have h2 := Nat.mod_lt (Builtin.Int.intBits (a : Int) + n - 1) hn0
    rw [← hK] at this
    omega
  have haK : a < 2 ^ (n * K) := Nat.lt_of_lt_of_le hab (Nat.pow_le_pow_right (by decide) hK3)
  have hK4 : a ≠ 0 → 0 < K := fun h => by
    have := bitlen_pos (Nat.pos_of_ne_zero h)
    rw [hK]; exact Nat.div_pos (by omega) hn0
  (with_reducible rename Fr _ _ _ _ => F9); (with_reducible rename News _ _ _ _ => N9)
  have hne37 : ∀ p ∈ t44 ++ news, p.1 ≠ 37 := fun p hp => (List.mem_append.mp hp).elim
    (fun hp => tab_apart ht44 ht37 N9 (fun _ hq => List.mem_append_right _ (List.mem_append_left _ hq)) (fun _ hq => List.mem_append_left _ hq) (by decide) p hp) fun hp => (hne p hp).1
  k_dflt (refine i2d_call a n _ _ hn0 (by omega) hbits _ _ _ _ _ _ _ _ _ _ ht37 hne37 F9 X' N9 T' (by ktr_room) (by ktr_units) K hK1 hK2 haK hK4 ?_)
  intro D vs k h8 tk8 t37' ht37' hi F8 N8 hoff
  k_steps
  rename_i Dq hx1 lq hx2 DI hx3 F9 N9 lI
  have hvl : vs.length = K := by rw [hi.length, digsP, List.length_map, List.length_range]
  obtain ⟨m0, hm0, F9⟩ := namedMap F9
  have hoffq : ∀ p ∈ (D, LO vs k) :: (t37' ++ (t44 ++ news)), p.1 ≠ Dq := fun p hp => by
    rcases List.mem_cons.mp hp with rfl | hp
    · exact Nat.ne_of_lt lq.1
    · exact offOf lq.2 p hp
  k_dflt (refine forRev (J := DvJ n a b K Dq m0 ((D, LO vs k) :: (t37' ++ (t44 ++ news))))
              rfl (List.Mem.tail _ (List.Mem.head _)) F9 N9 ?_ ?_ ?_ ?_)
  · intro p hp
    rcases List.mem_cons.mp hp with rfl | hp
    · exact Nat.ne_of_lt lI.1
    · rcases List.mem_cons.mp hp with rfl | hp
      · exact Nat.ne_of_lt lI.2.1
      · exact offOf lI.2.2 p hp
  · subst hm0
    exact ⟨0, _, _, [], [], 0, map3 rfl, rfl, .nil, by rw [topV_zero haK, Nat.zero_mod], by rw [topV_zero haK, Nat.zero_div]; rfl, rfl, fun _ h => nomatch h⟩
  · intro i v m₁ news₁ h9 tk9 own hi1 hv hq1 hoI hIo hown F8 N8
    refine ex6 hq1 fun r tr u qv qs kq hq4 => an7 hq4 fun eq_2 eq_3 hiq hr hq hql hqb => ?_
    clear hq1 hq4
    subst eq_2
    subst eq_3
    subst hm0
    simp only [List.cons_append] at N8
    obtain ⟨d, hd⟩ : ∃ d : Nat, d = a / 2 ^ (n * (K - 1 - i)) % 2 ^ n := ⟨_, rfl⟩
    have hdi : dig n a (K - 1 - i) = (d : Int) := by rw [hd]; rfl
    have hd2 : d < 2 ^ n := by rw [hd]; exact Nat.mod_lt _ (Nat.pow_pos (by decide))
    refine ex1 (hi.get (vs.length - 1 - i) (d : Int) (by rw [hvl, ← hdi]; exact digs_at (by omega))) fun td hvd => ?_
    have hvv : v = .int (d : Int) td := by rw [hvd] at hv; exact (Option.some.inj hv).symm
    subst hvv
    have hrb : r < b := by rw [hr]; exact Nat.mod_lt _ hb
    have hnn : 0 ≤ (n : Int) := by omega
    have hsb : (Builtin.Int.intBits (r : Int) : Int) + (n : Int) ≤ 2 ^ 27 := by
      have := bits_nat (Nat.lt_trans hrb hbb)
      omega
    have hxx : (r : Int) * 2 ^ ((n : Int).toNat) + (d : Int) = ((r * 2 ^ n + d : Nat) : Int) := by rw [Int.toNat_natCast]; push_cast; rfl
    have hqvl : qv.length ≤ 1000000 := by rw [hiq.length]; omega
    have hxlt : r * 2 ^ n + d < 2 ^ (n + n) := by
      rw [Nat.pow_add]
      calc r * 2 ^ n + d < r * 2 ^ n + 2 ^ n := by omega
        _ = (r + 1) * 2 ^ n := by rw [Nat.add_mul, Nat.one_mul]
        _ ≤ 2 ^ n * 2 ^ n := Nat.mul_le_mul_right _ (by omega)
    have hqI : Dq ≠ DI := Nat.ne_of_lt lI.1
    have hoffo : ∀ p ∈ t37' ++ (t44 ++ news) ++ own, p.1 ≠ Dq := fun p hp => by
      rcases List.mem_append.mp hp with hp | hp
      · exact hoffq p (.tail _ hp)
      · rcases hown p hp with e | e
        · rw [e]; exact Ne.symm hqI
        · rw [e]; exact Nat.ne_of_lt lq.1
    k_steps
    simp only [hxx]
    (with_reducible rename Fr _ _ _ _ => F7); (with_reducible rename News _ _ _ _ => N7)
    k_dflt (refine div2_call _ _ _ _ _ _ (by omega) (Nat.le_trans (bits_nat hbb) (by omega)) (by have := bits_nat hxlt; omega) _ _ _ _ _ _ _ _ _ _ F7 X' N7 T' (by ktr_room) (by ktr_units) ?_)
    intro Dt t1 t2 kt h6 tk6 F6 N6 l6
    simp only [(fdivmod_nat _ _).1, (fdivmod_nat _ _).2] at N6
    k_lt l6
    k_steps
    (with_reducible rename Fr _ _ _ _ => F5); (with_reducible rename News _ _ _ _ => N5)
    have hV := topV_succ' (by omega) hdi
    have hstep := div_step (V := topV n a K i) (n := n) (d := d) hb
    refine TEnd.intro ((Dq, LO (qv ++ [Value.int (((r * 2 ^ n + d) / b : Nat) : Int) t1]) (kq + 1)) :: (D, LO vs k) :: (t37' ++ (t44 ++ news))) F5 N5 (fun p hp => ?_) (fun p hp => ?_) (fun p hp => ?_) ⟨(r * 2 ^ n + d) % b, t2, _, _, qs ++ [(((r * 2 ^ n + d) / b : Nat) : Int)], _, map3' rfl (fun z h1 h2 h3 => by simp only [if_neg h1, if_neg h2, if_neg h3]), rfl, hiq.append (.cons _ _ .nil), ?_, ?_, ?_, ?_⟩
    · exact List.Mem.tail _ (List.mem_append_left own hp)
    · exact List.Mem.tail _ (List.mem_append_right (_ :: _ :: (t37' ++ (t44 ++ news))) hp)
    · intro hI
      have hI := List.mem_singleton.mp hI
      rcases List.mem_cons.mp hp with rfl | hp
      · exact hqI hI
      · exact hoI p (.tail _ hp) hI
    · rw [hV, hstep.2, hr]
    · rw [List.reverse_append, List.reverse_cons, List.reverse_nil, List.nil_append, List.cons_append, List.nil_append, d2iP, hq, hV, hstep.1, hr]
      push_cast
      rw [Int.add_comm]
      congr 1
      exact Int.mul_comm _ _
    · rw [List.length_append, hql]; rfl
    · intro x hx
      rcases List.mem_append.mp hx with hx | hx
      · exact hqb x hx
      · rw [List.mem_singleton.mp hx, hr]
        exact ⟨Int.natCast_nonneg _, by exact_mod_cast qdig_lt hb hd2⟩
  · intro m₁ news₁ h9 tk9 hq5 F8 N8
    refine ex6 hq5 fun r tr u qv qs kq hq8 => an7 hq8 fun eq_6 eq_7 hiq hr hq hql hqb => ?_
    clear hq5 hq8
    subst eq_6
    subst eq_7
    subst hm0
    have hqvl : qv.length ≤ 1000000 := by rw [hiq.length]; omega
    have hd44 : ∀ d ∈ qs.reverse, 0 ≤ d ∧ d < 2 ^ 4096 := fun d hd => by
      have h1 := hqb d (List.mem_reverse.mp hd)
      exact ⟨h1.1, Int.lt_of_lt_of_le h1.2 (pow_lt_pow2 (by omega))⟩
    k_steps
    (with_reducible rename Fr _ _ _ _ => F7); (with_reducible rename News _ _ _ _ => N7)
    have N6 : News g' L' _ (t44 ++ ((Dq, LO qv.reverse kq) :: (t37' ++ news))) := newsSub N7 (sub_app (sub_skip (sub_skip (sub_inr (sub_inl sub_refl)))) (sub_keep (sub_skip (sub_app (sub_inl sub_refl) (sub_inr (sub_inr sub_refl))))))
    have hn44 : ∀ p ∈ (Dq, LO qv.reverse kq) :: (t37' ++ news), p.1 ≠ 44 := fun p hp => by
      rcases List.mem_cons.mp hp with rfl | hp
      · obtain ⟨o, ho⟩ := ht44.has
        exact Ne.symm (hoffq _ (.tail _ (List.mem_append_right _ (List.mem_append_left _ ho))))
      · rcases List.mem_append.mp hp with hp | hp
        · exact tab_apart ht37' ht44 N7 (fun _ hq => .tail _ (.tail _ (List.mem_append_left _ hq))) (fun _ hq => .tail _ (.tail _ (List.mem_append_right _ (List.mem_append_left _ hq)))) (by decide) p hp
        · exact (hne p hp).2
    k_dflt (refine d2i_call (n : Int) _ (List.mem_cons_self ..) hiq.reverse (by rw [List.length_reverse, hiq.length]; omega) hd44 (by omega) (by omega) _ _ _ _ _ _ _ _ _ _ ht44 hn44 F7 X' N6 T' (by ktr_room) (by ktr_units) ?_)
    intro tq hq2 tkq t44' ht44' _ F5 N5
    rw [Int.toNat_natCast, hq]
    k_steps
    rename_i h4 D4 h5 F4 N4 l4
    rw [hvl, topV_last] at N4 hr
    subst hr
    have hsub : ∀ p ∈ t37' ++ (t44' ++ news), p ∈ t44' ++ (Dq, LO qv.reverse kq) :: (t37' ++ news) := fun p hp => by
      simp only [List.mem_cons, List.mem_append] at hp ⊢
      rcases hp with h | h | h <;> simp [h]
    have hr4 := BK'.use F4 (newsSub N4 (news' := _ :: (t37' ++ (t44' ++ news))) fun p hp => (List.mem_cons.mp hp).elim (fun e => e ▸ .head _) fun hp => .tail _ (hsub p hp))
    exact hret _ _ _ _ _ _ t37' t44' ht37' ht44' hr4.1 hr4.2 fun p hp => l4 p (hsub p hp)
end
section
-- after: 09_divpos
theorem idm_call {w : World} {p : Program} {loose : List PySem.Str} {mean : ExcName → Option Value} {mg mb : PySem.Str → Option Value} {news t37 t44 : List (Addr × Obj)} (a b : Nat) (ta tb : Tok) (hb : 0 < b) (hb2 : Builtin.Int.intBits (b : Int) ≤ 4000) (hbits : Builtin.Int.intBits (a : Int) ≤ 40 * Builtin.Int.intBits (b : Int))
  (dp un : Nat) (fr : Option (List Env)) (gd : Option (List Code)) (h₀ : Heap) (L : Addr) (m : PySem.Str → Option Value) (s : Shared) (Q E : Value → Shared → Prop)
  (ht37 : T37 t37) (ht44 : T44 t44) (hne : ∀ p ∈ news, p.1 ≠ 37 ∧ p.1 ≠ 44)
  (F : Fr h₀ L s.heap m) (X : (KF w.params).In h₀) (N : News h₀ L s.heap (t37 ++ (t44 ++ news))) (T : Top p loose mean mg mb h₀) (hdp : dp + 210 < recursionLimit) (hun : un + 2100 < cLine)
  (hret : ∀ (D : Addr) t1 t2 k h' tk' t37' t44', T37 t37' → T44 t44' → Fr h₀ L h' m → News h₀ L h' ((D, TO [.int ((a / b : Nat) : Int) t1, .int ((a % b : Nat) : Int) t2] k) :: (t37' ++ (t44' ++ news))) → (∀ p ∈ t37' ++ (t44' ++ news), p.1 < D) → Q (.ref D) { s with heap := h', toks := tk' }) :
    wpAny (model PySem.Challenge.rw_sn0069_01.row.prog w) (Ar dp un fr gd) (call (.ref 63) [.int a ta, .int b tb]) Q E s := by
  revert X; k_fill; intro X
  k_dflt (refine' enterP (binds := [(PySem.Str.ofString "a", .int a ta), (PySem.Str.ofString "b", .int b tb)]) ?F ?X ?N ?T ?k6 ?k7 ?k8 ?k9 ?kB ?_ ?c2 ?c3 ?c4 ?c5; (case F => exact F); (case X => exact X); (case N => exact N); (case T => exact T); (case k6 => k_is); (case k7 => k_is); (case k8 => ktr_room); (case k9 => exact BindsTo.of_eq rfl); (case c5 => decide); (case kB => exact locs rfl); (case c2 => exact rfl); (case c3 => exact rfl); (case c4 => exact rfl))
  intro g' L' h' BK' F' N' X' T' l1
  clear F X N T
  (try dsimp only)
  (with_reducible show wpAny _ _ _ _ _ _)
  k_fold
  k_steps
  · exfalso; omega
  (with_reducible rename Fr _ _ _ _ => F7); (with_reducible rename News _ _ _ _ => N7)
  k_dflt (refine divpos_call a b _ _ hb hb2 hbits _ _ _ _ _ _ _ _ _ _ ht37 ht44 hne F7 X' N7 T' (by ktr_room) (by ktr_units) ?_)
  intro D t1 t2 k h6 tk6 t37' t44' h37' h44' F6 N6 l6
  k_steps
  have hr := BK'.use F6 N6
  exact hret _ _ _ _ _ _ t37' t44' h37' h44' hr.1 hr.2 l6
end
section
-- after: 08_rules2 06_d2i
def prodP (w : Nat) : Nat → Int
  | 0 => 1
  | i + 1 => prodP w i * d2iP w (List.replicate (i + 1) 1)
theorem ones_bound {w k : Nat} : 0 ≤ d2iP w (List.replicate k 1) ∧ d2iP w (List.replicate k 1) < 2 ^ (1 + (w + 1) * k) := by
  have := d2i_bound (w := w) (B := 1) (ds := List.replicate k 1) (fun d hd => by rw [List.eq_of_mem_replicate hd]; decide)
  rw [List.length_replicate] at this
  exact this
theorem prod_bound {w : Nat} (hw : w ≤ 40) : ∀ {i : Nat}, i ≤ 20 → 0 ≤ prodP w i ∧ prodP w i < 2 ^ (1000 * i + 1)
  | 0, _ => by unfold prodP; decide
  | i + 1, h => by
    obtain ⟨h1, h2⟩ := prod_bound (w := w) hw (i := i) (by omega)
    obtain ⟨h3, h4⟩ := ones_bound (w := w) (k := i + 1)
    refine ⟨Int.mul_nonneg h1 h3, ?_⟩
    have h5 : d2iP w (List.replicate (i + 1) 1) ≤ 2 ^ 1000 := by
      refine Int.le_trans (Int.le_of_lt h4) (pow_lt_pow2 ?_)
      have : (w + 1) * (i + 1) ≤ 41 * 21 := Nat.mul_le_mul (by omega) (by omega)
      omega
    have h6 : (2 : Int) ^ (1000 * (i + 1) + 1) = 2 ^ (1000 * i + 1) * 2 ^ 1000 := by rw [← Int.pow_add]; congr 1
    rw [prodP, h6]
    have hp : (0 : Int) < 2 ^ 1000 := Int.pow_pos (by decide)
    calc prodP w i * d2iP w (List.replicate (i + 1) 1) ≤ prodP w i * 2 ^ 1000 := Int.mul_le_mul_of_nonneg_left h5 h1
      _ < 2 ^ (1000 * i + 1) * 2 ^ 1000 := Int.mul_lt_mul_of_pos_right h2 hp
theorem prod_mul {w : Nat} (hw : w ≤ 40) {i : Nat} (hi : i < 20) : IntMulOk (prodP w i) (d2iP w (List.replicate (i + 1) 1)) := by
  obtain ⟨h1, h2⟩ := prod_bound hw (i := i) (by omega)
  obtain ⟨h3, h4⟩ := ones_bound (w := w) (k := i + 1)
  have : (w + 1) * (i + 1) ≤ 41 * 21 := Nat.mul_le_mul (by omega) (by omega)
  exact .of_bits (Nat.le_trans (bits_le' h1 h2) (by omega)) (Nat.le_trans (bits_le' h3 h4) (by omega))

abbrev PdJ (wd : Nat) (t44 : List (Addr × Obj)) (m0 : PySem.Str → Option Value) (news : List (Addr × Obj)) (i : Nat) (m₁ : PySem.Str → Option Value) (news₁ : List (Addr × Obj)) : Prop :=
  ∃ (tv : Tok) (u : PySem.Str → Option Value) (t44i : List (Addr × Obj)), m₁ = (fun z => if z = PySem.Str.ofString "value" then some (.int (prodP wd i) tv) else if z = PySem.Str.ofString "k" then u z else m0 z) ∧ T44 t44i ∧ Sep t44 t44i news ∧ news₁ = t44i ++ news
theorem prod_call {w : World} {p : Program} {loose : List PySem.Str} {mean : ExcName → Option Value} {mg mb : PySem.Str → Option Value} {news t44 : List (Addr × Obj)} (c wd : Nat) (tc tw : Tok) (hc : c ≤ 20) (hwd : wd ≤ 40)
  (dp un : Nat) (fr : Option (List Env)) (gd : Option (List Code)) (h₀ : Heap) (L : Addr) (m : PySem.Str → Option Value) (s : Shared) (Q E : Value → Shared → Prop)
  (ht44 : T44 t44) (hne : ∀ p ∈ news, p.1 ≠ 44)
  (F : Fr h₀ L s.heap m) (X : (KF w.params).In h₀) (N : News h₀ L s.heap (t44 ++ news)) (T : Top p loose mean mg mb h₀) (hdp : dp + 200 < recursionLimit) (hun : un + 2000 < cLine)
  (hret : ∀ t h' tk' t44', T44 t44' → Sep t44 t44' news → Fr h₀ L h' m → News h₀ L h' (t44' ++ news) → Q (.int (prodP wd c) t) { s with heap := h', toks := tk' }) :
    wpAny (model PySem.Challenge.rw_sn0069_01.row.prog w) (Ar dp un fr gd) (call (.ref 186) [.int c tc, .int wd tw]) Q E s := by
  revert X; k_fill; intro X
  k_dflt (refine' enterP (binds := [(PySem.Str.ofString "count", .int c tc), (PySem.Str.ofString "width", .int wd tw)]) ?F ?X ?N ?T ?k6 ?k7 ?k8 ?k9 ?kB ?_ ?c2 ?c3 ?c4 ?c5; (case F => exact F); (case X => exact X); (case N => exact N); (case T => exact T); (case k6 => k_is); (case k7 => k_is); (case k8 => ktr_room); (case k9 => exact BindsTo.of_eq rfl); (case c5 => decide); (case kB => exact locs rfl); (case c2 => exact rfl); (case c3 => exact rfl); (case c4 => exact rfl))
  intro g' L' h' BK' F' N' X' T' l1
  clear F X N T
  (try dsimp only)
  (with_reducible show wpAny _ _ _ _ _ _)
  k_fold
  ktr_unf
  rename_i hr7 F7 N7 k7
  obtain ⟨m0, hm0, F7⟩ := namedMap F7
  k_dflt (refine forRange (n := c) (J := PdJ wd t44 m0 news)
              rfl hr7 ?_ ?_ F7 N7 ?_ ?_ ?_)
  · exact rngSmall (by omega) (by omega) (by omega)
  · exact rngSize (by omega)
  · subst hm0
    exact ⟨_, _, t44, map2 rfl, ht44, .refl, rfl⟩
  · intro i t m₁ news₁ h9 tk9 own I hi hq1 hoI hIo hown F8 N8
    refine ex3 hq1 fun tv u t44i hq4 => an4 hq4 fun eq_2 h44 hsp eq_3 => ?_
    clear hq1 hq4
    subst eq_2
    subst eq_3
    subst hm0
    have hmul := prod_mul hwd (i := i) (by omega)
    k_steps
    rename_i D hD2 kD F7 N7 lD
    obtain ⟨n1, hn1⟩ : ∃ n1, n1 = (1 + (i : Int)).toNat := ⟨_, rfl⟩
    rw [← hn1] at N7
    have hn2 : n1 = i + 1 := by omega
    subst hn2
    refine ex1 hIo fun oI hoI2 => ?_
    clear hIo
    have hI44 : I ≠ 44 := fun e => by
      obtain ⟨o, ho⟩ := h44.has
      exact hoI _ (List.mem_append_left _ ho) e.symm
    have hD44 : ∀ p ∈ (D, LO (List.replicate (i + 1) (Value.int 1 tk9)) kD) :: (news ++ own), p.1 ≠ 44 := fun p hp => by
      rcases List.mem_cons.mp hp with rfl | hp
      · obtain ⟨o, ho⟩ := h44.has
        exact Ne.symm (offOf lD.2 _ (List.mem_append_left _ (List.mem_append_left _ ho)))
      · rcases List.mem_append.mp hp with hp | hp
        · exact hne p hp
        · rw [hown p hp]; exact hI44
    k_dflt (refine d2i_call (wd : Int) _ (List.mem_cons_self ..) (intsRep 1 tk9 (i + 1)) (by rw [List.length_replicate]; omega) (fun d hd => by rw [List.eq_of_mem_replicate hd]; exact ⟨by decide, by decide⟩) (by omega) (by omega) _ _ _ _ _ _ _ _ _ _ h44 hD44 F7 X' (newsSub N7 fun p hp => ?_) T' (by ktr_room) (by ktr_units) ?_)
    · simp only [List.mem_cons, List.mem_append] at hp ⊢
      rcases hp with h | h | h | h <;> simp [h]
    intro tq hq2 tkq t44' ht44' hsp2 F5 N5
    rw [Int.toNat_natCast]
    k_steps
    (with_reducible rename Fr _ _ _ _ => F4); (with_reducible rename News _ _ _ _ => N4)
    refine TEnd.intro (t44' ++ news) F4 N4 (fun p hp => ?_) (fun p hp => ?_) (fun p hp => ?_) ⟨_, _, t44', map2' rfl (fun z h1 h2 => by simp only [if_neg h1, if_neg h2]), ht44', hsp.trans (hsp2.mono fun _ hp => .tail _ (List.mem_append_left _ hp)), rfl⟩
    · simp only [List.mem_cons, List.mem_append] at hp ⊢
      rcases hp with h | h <;> simp [h]
    · simp only [List.mem_cons, List.mem_append] at hp ⊢
      simp [hp]
    · intro hI
      have hI := List.mem_singleton.mp hI
      rcases List.mem_append.mp hp with hp | hp
      · exact hsp2 _ _ (.tail _ (List.mem_append_right _ hoI2)) (fun q hq => hoI q (List.mem_append_left _ hq)) p hp hI
      · exact hoI p (List.mem_append_right _ hp) hI
  · intro m₁ news₁ h9 tk9 hq5 F8 N8
    refine ex3 hq5 fun tv u t44i hq8 => an4 hq8 fun eq_6 h44 hsp eq_7 => ?_
    clear hq5 hq8
    subst eq_6
    subst eq_7
    subst hm0
    k_steps
    have hr := BK'.use F8 N8
    exact hret _ _ _ _ h44 hsp hr.1 hr.2
end
section
-- after: 05_sub
section
variable {prog : Program} {w : World} {A : Around} {E : Value → Shared → Prop} {s : Shared} {h₀ : Heap} {L : Addr} {m : PySem.Str → Option Value} {news : List (Addr × Obj)}
theorem addL {l b : Addr} {vs ws : List Value} {k1 k2 : Nat} {Q : Value → Shared → Prop} (F : Fr h₀ L s.heap m) (N : News h₀ L s.heap news) (hl : (l, LO vs k1) ∈ news) (hb : (b, LO ws k2) ∈ news) (hv : vs.length ≤ 1000000) (hw : ws.length ≤ 1000000)
    (h : ∀ D h' k, Fr h₀ L h' m → News h₀ L h' ((D, LO (vs ++ ws) k) :: news) → (∀ p ∈ news, p.1 < D) → Q (.ref D) { s with heap := h' }) :
    wpAny (model prog w) A (binaryOp .Add (.ref l) (.ref b)) Q E s :=
  add_lists F N (isL N hl) (isL N hb) (fun h' F' N' => h _ h' _ F' N' fun p hp => Heap.lt_size (N p hp).1) (by rw [sizeLine_eq]; omega)
theorem tupleL {l : Addr} {vs : List Value} {k : Nat} {Q : Value → Shared → Prop} (F : Fr h₀ L s.heap m) (N : News h₀ L s.heap news) (hl : (l, LO vs k) ∈ news) (hz : vs.length ≤ 1000000)
    (h : ∀ D h', Fr h₀ L h' m → News h₀ L h' ((D, TO vs 0) :: news) → (∀ p ∈ news, p.1 < D) → Q (.ref D) { s with heap := h' }) : wpAny (model prog w) A (call (.type "tuple") [.ref l]) Q E s := by
  refine call_tuple_list (isL N hl) (fun h' hk => ?_) (by rw [sizeLine_eq]; simp only [List.size_toArray]; omega)
  have F' : Fr h₀ L h' m := F.keeps hk
  have N' : News h₀ L h' news := fun p hp => ⟨hk _ _ (N p hp).1, (N p hp).2⟩
  exact h _ _ (F'.push _) (N'.push F' _) fun p hp => Heap.lt_size (N' p hp).1
theorem ltOf {D : Addr} {l : List (Addr × Obj)} (h : AllLt D l) : ∀ p ∈ l, p.1 < D := by
  induction l with
  | nil => intro p hp; cases hp
  | cons a r ih =>
    intro p hp
    rcases List.mem_cons.mp hp with rfl | hp
    · exact h.1
    · exact ih h.2 p hp
theorem headOf {h₀ h : Heap} {L : Addr} {a : Addr × Obj} {r : List (Addr × Obj)} (N : News h₀ L h (a :: r)) : ∃ r', r' = r ∧ News h₀ L h (a :: r') := ⟨r, rfl, N⟩
theorem headLO {h₀ h : Heap} {L D : Addr} {vs : List Value} {k : Nat} {r : List (Addr × Obj)} (N : News h₀ L h ((D, LO vs k) :: r)) : ∃ vs', vs' = vs ∧ News h₀ L h ((D, LO vs' k) :: r) := ⟨vs, rfl, N⟩
theorem intsSetAt : ∀ {vs : List Value} {ns : List Int}, IntsAre vs ns → ∀ (i : Nat) (n : Int) (t : Tok), IntsAre (vs.set i (.int n t)) (ns.set i n)
  | _, _, .nil, _, _, _ => .nil
  | _, _, .cons a u h, 0, n, t => .cons n t h
  | _, _, .cons a u h, i + 1, n, t => .cons a u (intsSetAt h i n t)
end
theorem loadX_L {M : Model} {A : Around} {E : Value → Shared → Prop} {s : Shared} {h₀ : Heap} {L a : Addr} {m : PySem.Str → Option Value} {cn : PySem.Str} {cs : Scope} {ccd : Value} {cl : List (PySem.Str × Addr)} {x : PySem.Str} {v : Value} {Q : Value → Shared → Prop}
    (F : Fr h₀ L s.heap m) (hv : m x = some v) (h : Q v s) (hk : cs.kind = .function) (hx : (envX cn cs L a ccd cl).kindOf x = some .local) : wpAny M A (loadName (envX cn cs L a ccd cl) x) Q E s := wpAny_loadName_local hk hx F.ns hv h
end
local macro_rules | `(tactic| walk_at "binaryOp Add ref ref") => `(tactic| (k_here; k_dflt (refine' addL ?F ?N ?a ?b ?z ?y ?_; (case F => k_asm); (case N => k_asm); (case a => k_mem); (case b => k_mem); (case z => tb_rel); (case y => tb_rel); k_whole); intro D h3 k3 F3 N3 l3; (try k_lt l3)))
local macro_rules | `(tactic| walk_at "call type:tuple") => `(tactic| (k_here; (with_reducible show wpAny _ _ (call (Value.type _) [Value.ref _]) _ _ _); k_dflt (refine' tupleL ?F ?N ?a ?z ?_; (case F => k_asm); (case N => k_asm); (case a => k_mem); (case z => tb_rel); k_whole); intro D h3 F3 N3 l3; (try k_lt l3)))
local macro_rules | `(tactic| walk_at "loadName") => `(tactic| (k_here; k_dflt (refine' loadX_L ?F ?v ?_ ?a ?b; (case F => k_asm); (case a => rfl); (case b => rfl); (case v => rfl); k_whole)))
section
-- after: 12_nest
abbrev cell0 : Obj := { cls := .type "cell", data := .cell none }
section
variable {prog : Program} {w : World} {A : Around} {s : Shared} {env : Env} {h₀ : Heap} {L : Addr} {m : PySem.Str → Option Value} {news : List (Addr × Obj)}
theorem newEnvCell {M : Model} {E : Value → Shared → Prop} {scope : Scope} {globals : Addr} {closure : List (PySem.Str × Addr)} {qual : PySem.Str} {func : Option Addr} {code : Value} {outer : Env} {builtins : Addr} {Q : Env → Shared → Prop} {x : PySem.Str}
    (hcf : ∀ n acc, cellsFrom n scope.names acc = (x, n) :: acc) (hpc : ∀ h, pushCells h scope.names = h.push cell0)
    (h : Q (newEnv scope s.heap.objs.size globals ((x, s.heap.objs.size + 1) :: closure) qual func code (some outer) builtins) { s with heap := (s.heap.push { cls := .type "dict", data := .dict #[] }).push cell0 }) :
    wpAny M A (newFunctionEnv scope globals closure [] qual func code (some outer) builtins) Q E s := by
  simp only [newFunctionEnv, Option.isSome_some, if_true]
  refine wpAny_bind (wpAny_alloc ?_)
  refine wpAny_bind (wpAny_layCells _ (fun name kind cells => by cases hkc : kind == NameKind.cell <;> simp [hkc]) _ _ _ _ ?_)
  rw [hcf, hpc]
  rw [show ({ s with heap := s.heap.push { cls := .type "dict", data := .dict #[] } } : Shared).heap.objs.size = s.heap.objs.size + 1 from Heap.size_push ..]
  exact wpAny_bind (wpAny_pure (wpAny_pure h))
theorem compBlockC {elt iter target : PySem.Expr} {ifs : List PySem.Expr} {scope : Scope} {pos : Pos} {cl : List (PySem.Str × Addr)} {x : PySem.Str} {I : Addr} {fp wr : List Addr} {n : Nat} {P : Nat → Value → Prop} {St : Nat → Heap → Prop} {RR : Value → Addr → Result → Shared → Prop} {E : Value → Shared → Prop}
    (W : Walks prog w A I fp wr n P St) (hcf : ∀ n acc, cellsFrom n scope.names acc = (x, n) :: acc) (hpc : ∀ h, pushCells h scope.names = h.push cell0)
    (hLf : L ∉ fp) (hwr : ∀ b ∈ wr, h₀.get? b = none) (hnw : ∀ p ∈ news, p.1 ∉ wr) (hfp : ∀ b ∈ fp, b < s.heap.objs.size) (hst : St 0 s.heap) (F : Fr h₀ L s.heap m) (N : News h₀ L s.heap news)
    (hsz : n ≤ sizeLine) (ht : ∀ v, letOwnedTupleGo target (.ref I) v = pure ())
    (J : Addr → Nat → List Value → List (Addr × Obj) → Prop) (h0 : ∀ C : Nat, (∀ p ∈ news, p.1 < C) → J C 0 [] ((C + 1, cell0) :: news))
    (turn : ∀ g C D, (∀ p ∈ news, p.1 < D) → D < C → h₀.StaysIn g → CTurn prog w A target ifs elt g (compEnvC scope ((x, C + 1) :: cl) C env) D fp wr n P (J C) s)
    (hStI : ∀ i h, St i h → ∀ b ∈ wr, ∃ o, h.get? b = some o)
    (done : ∀ D C h' tk ys news' k mC, C ≠ L → h₀.get? C = none → h'.Ns C mC → (∀ p ∈ (D, LO ys k) :: news', p.1 ≠ C) → (∀ p ∈ news', p.1 ≠ D) → (∀ p ∈ news, p.1 < D) → Fr h₀ L h' m → News h₀ L h' ((D, LO ys k) :: news') → J C n ys news' → RR (.ref D) C (.ok .next) { s with heap := h', toks := tk }) :
    wpAny (model prog w) A (newList []) (fun acc s₃ => wpAny (model prog w) A (newFunctionEnv scope env.globals cl [] env.qual none .none (some env)) (fun cenv s₄ =>
      codeAny (model prog w) A (.compStart (.ListComp elt [⟨target, iter, ifs, 0⟩] scope pos) 0 (.ref I) acc { cenv with scope := relabel scope env }) (RR acc cenv.locals) s₄) E s₃) E s := by
  refine wpAny_newObj_type (newEnvCell hcf hpc ?_)
  dsimp only
  generalize hH2 : s.heap.push { cls := .type "list", dict := none, data := .seq ([] : List Value).toArray } = H2
  generalize hH3 : (H2.push { cls := .type "dict", data := .dict #[] }).push cell0 = h₁
  have hC : H2.objs.size = s.heap.objs.size + 1 := by rw [← hH2, Heap.size_push]
  have hK : (H2.push { cls := .type "dict", data := .dict #[] }).objs.size = H2.objs.size + 1 := Heap.size_push ..
  have hDC : s.heap.objs.size ≠ H2.objs.size := by rw [hC]; exact Nat.ne_of_lt (Nat.lt_succ_self _)
  have below : ∀ b, b < s.heap.objs.size → b ≠ H2.objs.size ∧ b ≠ s.heap.objs.size := fun b hb => ⟨by rw [hC]; exact Nat.ne_of_lt (Nat.lt_succ_of_lt hb), Nat.ne_of_lt hb⟩
  have hLlt : L < s.heap.objs.size := F.ns.lt
  have hDf : s.heap.objs.size ∉ fp := fun hm => Nat.lt_irrefl _ (hfp _ hm)
  have hCf : H2.objs.size ∉ fp := fun hm => by have := hfp _ hm; rw [hC] at this; exact Nat.lt_irrefl _ (Nat.lt_of_succ_lt this)
  have hKw : H2.objs.size + 1 ∉ wr := fun hm => by
    have := hfp _ (W.sub _ hm); rw [hC] at this; exact Nat.lt_irrefl _ (Nat.lt_of_succ_lt (Nat.lt_of_succ_lt this))
  have up : ∀ b o, H2.get? b = some o → h₁.get? b = some o := fun b o e => hH3 ▸ Heap.get?_push_of_some _ (Heap.get?_push_of_some _ e)
  have old : ∀ b o, s.heap.get? b = some o → h₁.get? b = some o := fun b o e => up b o (hH2 ▸ Heap.get?_push_of_some _ e)
  have hacc : h₁.get? s.heap.objs.size = some (LO [] 0) := up _ _ (hH2 ▸ Heap.get?_push_size _ rfl)
  have hcell : h₁.get? (H2.objs.size + 1) = some cell0 := by rw [← hH3, ← hK]; exact Heap.get?_push_size _ rfl
  have hns₁ : h₁.Ns H2.objs.size (fun _ => none) := hH3 ▸ (Heap.Ns.new H2 (.type "dict")).keeps fun b o e => Heap.get?_push_of_some _ e
  have hst₁ : St 0 h₁ := W.frame _ _ _ hst fun b _ o e => old b o e
  have fresh : ∀ a, s.heap.objs.size ≤ a → s.heap.get? a = none := fun a ha => Heap.get?_none_of_le ha
  obtain ⟨stg, bk⟩ := ground_ofX (news.map (·.1) ++ wr) F (fun q => (List.mem_append.mp q).elim (fun q => by obtain ⟨p, hp, e⟩ := List.mem_map.mp q; exact (N p hp).2.1 e) fun q => hLf (W.sub _ q)) (fun b q => (List.mem_append.mp q).elim (fun q => by obtain ⟨p, hp, rfl⟩ := List.mem_map.mp q; exact (N p hp).2.2) fun q => hwr b q)
  have gfresh : ∀ a, s.heap.objs.size ≤ a → (hideAll s.heap (news.map (·.1) ++ wr)).get? a = none := fun a ha => by
    cases q : (hideAll s.heap (news.map (·.1) ++ wr)).get? a with
    | none => rfl
    | some o => have h2 := fresh a ha; rw [of_hideAll _ q] at h2; cases h2
  have F₁ : Fr (hideAll s.heap (news.map (·.1) ++ wr)) H2.objs.size h₁ _ := ⟨hns₁, fun b o e => old b o (of_hideAll _ e), by rw [hideAll_size, hC]; exact Nat.le_succ _⟩
  have N₁ : News (hideAll s.heap (news.map (·.1) ++ wr)) H2.objs.size h₁ ((s.heap.objs.size, LO [] 0) :: (H2.objs.size + 1, cell0) :: news) := fun p hp => by
    rcases List.mem_cons.mp hp with rfl | hp
    · exact ⟨hacc, hDC, gfresh _ (Nat.le_refl _)⟩
    · rcases List.mem_cons.mp hp with rfl | hp
      · exact ⟨hcell, Nat.ne_of_gt (Nat.lt_succ_self _), gfresh _ (by rw [hC]; exact Nat.le_succ_of_le (Nat.le_succ _))⟩
      · exact ⟨old _ _ (N p hp).1, (below _ (Heap.lt_size (N p hp).1)).1, hideAll_none _ (List.mem_append_left _ (List.mem_map_of_mem hp))⟩
  have loop : ∀ s₃ : Shared, s₃ = { s with heap := h₁ } →
      codeAny (model prog w) A (.compLoop (.ListComp elt [⟨target, iter, ifs, 0⟩] scope pos) 0 (.ref I) (.ref s.heap.objs.size) (compEnvC scope ((x, H2.objs.size + 1) :: cl) H2.objs.size env))
        (RR (.ref s.heap.objs.size) H2.objs.size) s₃ := by
    rintro s₃ rfl
    refine compLoopG (cenv := compEnvC scope ((x, H2.objs.size + 1) :: cl) H2.objs.size env) W hCf (fun b hb => hideAll_none _ (List.mem_append_right _ hb)) (fun p hp => ?_) hDf hst₁ F₁ N₁ hsz ht (J H2.objs.size)
      (h0 _ fun p hp => by rw [hC]; exact Nat.lt_succ_of_lt (Heap.lt_size (N p hp).1))
      (turn _ _ _ (fun p hp => Heap.lt_size (N p hp).1) (by rw [hC]; exact Nat.lt_succ_self _) stg) hStI ?_
    · rcases List.mem_cons.mp hp with rfl | hp
      · exact ⟨hKw, by rw [hC]; exact Nat.ne_of_gt (Nat.lt_succ_of_lt (Nat.lt_succ_self _))⟩
      · exact ⟨hnw p hp, (below _ (Heap.lt_size (N p hp).1)).2⟩
    intro ys news' m' h tk k hJ F' N' hD'
    obtain ⟨F₂, N₂⟩ := bk.use F' N'
    exact done _ _ h tk ys news' k m' (by rw [hC]; exact Nat.ne_of_gt (Nat.lt_succ_of_lt hLlt)) (Heap.get?_none_of_le (by rw [hC]; exact Nat.le_of_lt (Nat.lt_of_le_of_lt F.above (Nat.lt_succ_of_lt hLlt)))) F'.ns (fun p hp => (N' p hp).2.1) hD' (fun p hp => Heap.lt_size (N p hp).1) F₂ N₂ hJ
  exact codeAny_compStart_list (loop _ rfl) (W.self 0 _ _ _ hst₁ (loop _ rfl))
/-- a comprehension of one clause whose scope has one cell -/
theorem evalCompC {elt iter target : PySem.Expr} {ifs : List PySem.Expr} {scope : Scope} {pos : Pos} {cl : List (PySem.Str × Addr)} {x : PySem.Str} {n : Nat} {P : Nat → Value → Prop} {Q : Value → Shared → Prop} {E : Value → Shared → Prop}
    (hclos : closureFor scope env = pure cl) (hcf : ∀ n acc, cellsFrom n scope.names acc = (x, n) :: acc) (hpc : ∀ h, pushCells h scope.names = h.push cell0) (hkind : scope.kind = .function) (hnames : ∀ y ∈ scope.names, y.2 = .local → scope.names.lookup y.1 = some .local)
    (ht : ∀ I v, letOwnedTupleGo target (.ref I) v = pure ()) (hsz : n ≤ sizeLine)
    (J : Addr → Nat → List Value → List (Addr × Obj) → Prop)
    (src : wpAny (model prog w) A (eval iter env) (fun xv s₁ => wpAny (model prog w) A (pyIter xv) (fun it s₂ => CSrc prog w A h₀ L n P (fun _ news => ∀ C : Nat, (∀ p ∈ news, p.1 < C) → J C 0 [] ((C + 1, cell0) :: news))
      (fun wr fp news => ∀ g C D, (∀ p ∈ news, p.1 < D) → D < C → h₀.StaysIn g → CTurn prog w A target ifs elt g (compEnvC scope ((x, C + 1) :: cl) C env) D fp wr n P (J C) s₂)
      (fun m news => ∀ D C h' tk ys news' k, (∀ p ∈ news', p.1 ≠ D) → (∀ p ∈ news, p.1 < D) → Fr h₀ L h' m → News h₀ L h' ((D, LO ys k) :: news') → J C n ys news' → Q (.ref D) { s₂ with heap := h', toks := tk }) it s₂) E s₁) E s)
    (hs : ∀ x, foldedSetIterable iter env x = pure x := by intro _; rfl) :
    wpAny (model prog w) A (eval (.ListComp elt [⟨target, iter, ifs, 0⟩] scope pos) env) Q E s := by
  rw [eval_ListComp]
  refine wpAny_comprehension_free (use := none) rfl hs hclos hkind hnames (wpAny_mono src (fun xv s₁ h₁ => wpAny_mono h₁ (fun it s₂ h₂ => ?_) fun _ _ e => e) fun _ _ e => e)
  refine ex6 h₂ fun s₁' I wr fp m news hq3 => an5 hq3 fun eq_1 hq2 h0 turn hQ => ?_
  clear h₂ hq3
  subst eq_1
  refine ex1 hq2 fun St hq4 => an10 hq4 fun W hLf hwr hnw hfp hst F N hStI _ => ?_
  clear hq2 hq4
  refine compBlockC (RR := fun acc C => compPost (model prog w) A E none Q acc C) W hcf hpc hLf hwr hnw hfp hst F N hsz (ht I) J h0 turn hStI ?_
  intro D C h' tk ys news' k mC hCL hC0 hn hne hD hlt F' N' hJ
  exact ⟨mC, hn, fun h'' hs'' => hQ D C h'' tk ys news' k hD hlt (frSB F' hs'' hCL hC0) (newsSB N' hs'' hne) hJ⟩
/-- the same, stored by `name = [..]` in a def's local -/
theorem assignCompC {elt iter target : PySem.Expr} {ifs : List PySem.Expr} {scope : Scope} {pos spos py : Pos} {y x : PySem.Str} {cl : List (PySem.Str × Addr)} {n : Nat} {P : Nat → Value → Prop} {Q : Flow → Shared → Prop} {E : Value → Shared → Prop}
    (hsw : swapsWith (.ListComp elt [⟨target, iter, ifs, 0⟩] scope pos) (some (.Name y py)) spos.line env = pure true)
    (hclos : closureFor scope env = pure cl) (hcf : ∀ n acc, cellsFrom n scope.names acc = (x, n) :: acc) (hpc : ∀ h, pushCells h scope.names = h.push cell0) (hkind : scope.kind = .function) (hnames : ∀ y ∈ scope.names, y.2 = .local → scope.names.lookup y.1 = some .local)
    (hy : env.kindOf y = some .local) (hp : (env.scope.kind == .class || (env.scope.kind == .module && env.locals != env.globals)) = false)
    (ht : ∀ I v, letOwnedTupleGo target (.ref I) v = pure ()) (hsz : n ≤ sizeLine)
    (J : Addr → Nat → List Value → List (Addr × Obj) → Prop)
    (src : wpAny (model prog w) A (eval iter env) (fun xv s₁ => wpAny (model prog w) A (pyIter xv) (fun it s₂ => CSrc prog w A h₀ env.locals n P (fun _ news => ∀ C : Nat, (∀ p ∈ news, p.1 < C) → J C 0 [] ((C + 1, cell0) :: news))
      (fun wr fp news => ∀ g C D, (∀ p ∈ news, p.1 < D) → D < C → h₀.StaysIn g → CTurn prog w A target ifs elt g (compEnvC scope ((x, C + 1) :: cl) C env) D fp wr n P (J C) s₂)
      (fun m news => ∀ D C h' tk ys news' k, (∀ p ∈ news', p.1 ≠ D) → (∀ p ∈ news, p.1 < D) → Fr h₀ env.locals h' (fun z => if z = y then some (.ref D) else m z) → News h₀ env.locals h' ((D, LO ys k) :: news') → J C n ys news' → Q .next { s₂ with heap := h', toks := tk }) it s₂) E s₁) E s)
    (hs : ∀ x, foldedSetIterable iter env x = pure x := by intro _; rfl) :
    wpAny (model prog w) A (exec (.Assign [.Name y py] (.ListComp elt [⟨target, iter, ifs, 0⟩] scope pos) spos) env) Q E s := by
  rw [exec_Assign_Name_used _ _ _ _ hsw]
  refine wpAny_bind (wpAny_standAt (wpAny_bind ?_))
  show wpAny _ A (do let _ ← comprehension (.ListComp elt [⟨target, iter, ifs, 0⟩] scope pos) scope env _ (newList []) false (eval iter env) (some (assign (.Name y py) env))) _ _ s
  refine wpAny_bind (wpAny_mono (wpAny_comprehension_free (use := some (assign (.Name y py) env)) (Q := fun _ s' => Q .next s') rfl hs hclos hkind hnames
    (wpAny_mono src (fun xv s₁ h₁ => wpAny_mono h₁ (fun it s₂ h₂ => ?_) fun _ _ e => e) fun _ _ e => e)) (fun _ s' hq => wpAny_pure (wpAny_pure hq)) fun _ _ e => e)
  refine ex6 h₂ fun s₁' I wr fp m news hq7 => an5 hq7 fun eq_5 hq6 h0 turn hQ => ?_
  clear h₂ hq7
  subst eq_5
  refine ex1 hq6 fun St hq8 => an10 hq8 fun W hLf hwr hnw hfp hst F N hStI _ => ?_
  clear hq6 hq8
  refine compBlockC (RR := fun acc C => compPost (model prog w) A E (some (assign (.Name y py) env)) (fun _ s' => Q .next s') acc C) W hcf hpc hLf hwr hnw hfp hst F N hsz (ht I) J h0 turn hStI ?_
  intro D C h' tk ys news' k mC hCL hC0 hn hne hD hlt F' N' hJ
  show wpAny _ A (assign (.Name y py) env (.ref D)) _ _ _
  refine wpAny_assign_Name (wpAny_storeName_local hy F'.ns (fun h₂ hn₂ hs₂ => ?_) hp)
  refine ⟨mC, hn.sameBut hs₂ hCL, fun h₃ hs₃ => ?_⟩
  exact hQ D C h₃ _ ys news' k hD hlt (frSB (F'.set hn₂ hs₂) hs₃ hCL hC0) (newsSB (N'.set hs₂) hs₃ hne) hJ
/-- a store to a comprehension's own cell -/
theorem storeCC {E : Value → Shared → Prop} {C c : Addr} {scope : Scope} {cl : List (PySem.Str × Addr)} {x : PySem.Str} {o : Obj} {v₀ : Option Value} {v : Value} {led : List (Addr × Obj)} {Q : Unit → Shared → Prop} (F : Fr h₀ C s.heap m) (N : News h₀ C s.heap ((c, o) :: led)) (hoff : ∀ p ∈ led, p.1 ≠ c)
    (hc : cl.lookup x = some c) (hd : o.data = .cell v₀)
    (h : ∀ h' o', Fr h₀ C h' m → News h₀ C h' ((c, o') :: led) → o'.data = .cell (some v) → Q () { s with heap := h' })
    (hk : (compEnvC scope cl C env).scope.kind = .function := by rfl) (hx : (compEnvC scope cl C env).kindOf x = some .cell := by rfl) : wpAny (model prog w) A (storeName (compEnvC scope cl C env) x v) Q E s := by
  have hmem := N (c, o) (.head _)
  refine wpAny_storeName_cell hk hx hc ⟨o, hmem.1, hd⟩ fun h' hv hs => ?_
  obtain ⟨o', ho', hd'⟩ := hv
  refine h h' o' ⟨F.ns.sameBut hs (Ne.symm hmem.2.1), fun b ob e => (hs.2 b (fun q => ?_)).trans (F.keep b ob e), F.above⟩ (fun p hp => ?_) hd'
  · rw [q, hmem.2.2] at e; cases e
  · rcases List.mem_cons.mp hp with rfl | hp
    · exact ⟨ho', hmem.2⟩
    · exact ⟨hs.extBut _ _ (hoff p hp) (N p (.tail _ hp)).1, (N p (.tail _ hp)).2⟩
end
end
section
-- after: 11_rules3
section
variable {prog : Program} {w : World} {A : Around} {s : Shared} {env : Env} {h₀ : Heap}
abbrev FInv (s : Shared) (h₀ : Heap) (L : Addr) (wr : List Addr) (n : Nat) (St : Nat → Heap → Prop) (J : Nat → (PySem.Str → Option Value) → List (Addr × Obj) → Prop) (q : Nat) (s' : Shared) : Prop :=
  ∃ h' tk m' news' i, s' = { s with heap := h', toks := tk } ∧ St i h' ∧ Fr h₀ L h' m' ∧ News h₀ L h' news' ∧ (∀ p ∈ news', p.1 ∉ wr) ∧ J i m' news' ∧ i ≤ n ∧ q = n + 1 - i
/-- a for whatever its target, the target's store told by the turn -/
theorem forX {target iter : PySem.Expr} {body : List PySem.Stmt} {pos : Pos} {n : Nat} {P : Nat → Value → Prop} {Q : Flow → Shared → Prop} {E : Value → Shared → Prop}
    (J : Nat → (PySem.Str → Option Value) → List (Addr × Obj) → Prop)
    (src : wpAny (model prog w) A (eval iter env) (fun xv s₁ => wpAny (model prog w) A (pyIter xv) (fun it s₂ => CSrc prog w A h₀ env.locals n P (fun m news => J 0 m news)
      (fun wr fp news => ∀ i v m₁ news₁ h tk own, i < n → P i v → J i m₁ news₁ → (∀ p ∈ news₁, p.1 ∉ wr) → (∀ p ∈ own, p.1 ∈ fp) → (∀ b ∈ wr, ∃ o, (b, o) ∈ own) → Fr h₀ env.locals h m₁ → News h₀ env.locals h (news₁ ++ own) →
        wpAny (model prog w) A (assign target env v) (fun _ s₃ => wpAny (model prog w) A (execs body env) (TPost h₀ env.locals wr own (J (i + 1)) { s₂ with heap := h, toks := tk } Q) (fun _ _ => False) s₃) (fun _ _ => False) { s₂ with heap := h, toks := tk })
      (fun m news => ∀ m₁ news₁ h tk, J n m₁ news₁ → Fr h₀ env.locals h m₁ → News h₀ env.locals h news₁ → Q .next { s₂ with heap := h, toks := tk }) it s₂) E s₁) E s)
    (ht : ∀ it v, letOwnedTupleGo target it v = pure () := by intro _ _; rfl)
    (hs : ∀ x, foldedSetIterable iter env x = pure x := by intro _; rfl) :
    wpAny (model prog w) A (exec (.For target iter body [] pos) env) Q E s := by
  refine wpAny_For (wpAny_mono src (fun xv s₁ h₁ => wpAny_mono h₁ (fun it s₂ h₂ => ?_) fun _ _ e => e) fun _ _ e => e) hs
  refine ex6 h₂ fun s₁' I wr fp m news hq3 => an5 hq3 fun eq_1 hq2 h0 turn done => ?_
  clear h₂ hq3
  subst eq_1
  refine ex1 hq2 fun St hq4 => an10 hq4 fun W hLf hwr hnw hfp hst F N hStI _ => ?_
  clear hq2 hq4
  have hLw : env.locals ∉ wr := fun h => hLf (W.sub _ h)
  have old : ∀ b o, h₀.get? b = some o → b ∉ wr := fun b o e hb => by rw [hwr b hb] at e; cases e
  refine codeAny_forLoop
    (FInv s₂ h₀ env.locals wr n St J) ?_ (n + 1)
    ⟨s₂.heap, s₂.toks, m, news, 0, rfl, hst, F, N, hnw, h0, Nat.zero_le _, rfl⟩ (ht _)
  intro q s' hq5
  refine ex5 hq5 fun h' tk m' news' i hq8 => an8 hq8 fun eq_6 hst' F' N' hnw' hJ hi eq_7 => ?_
  clear hq5 hq8
  subst eq_6
  subst eq_7
  have next : ∀ h₁ : Heap, (∀ b o, b ∉ wr → h'.get? b = some o → h₁.get? b = some o) → Fr h₀ env.locals h₁ m' ∧ News h₀ env.locals h₁ news' := fun h₁ hk₁ =>
    ⟨⟨F'.ns.at' fun o e => hk₁ _ o hLw e, fun b o e => hk₁ b o (old b o e) (F'.keep b o e), F'.above⟩, fun p hp => ⟨hk₁ _ _ (hnw' p hp) (N' p hp).1, (N' p hp).2⟩⟩
  by_cases hlt : i < n
  · refine W.item i _ _ _ hlt hst' fun v h₁ tk₁ hP hst₁ hk₁ => ?_
    refine an2 (next h₁ hk₁) fun F₁ N₁ => ?_
    have Nown : News h₀ env.locals h₁ (ownOf h₀ fp h₁) := news_ownOf hLf
    have N₂ : News h₀ env.locals h₁ (news' ++ ownOf h₀ fp h₁) := fun p hp => by
      rcases List.mem_append.mp hp with hp | hp
      · exact N₁ _ hp
      · exact Nown p hp
    refine wpAny_mono (turn i v m' news' h₁ tk₁ (ownOf h₀ fp h₁) hlt hP hJ hnw' (fun p hp => ownOf_sub p hp) (fun b hb => (hStI _ _ hst₁ b hb).imp fun o ho => mem_ownOf (W.sub b hb) (hwr b hb) ho) F₁ N₂) (fun _ s₃ h₃ => wpAny_mono h₃ (fun f s₄ h₄ => ?_) fun _ _ e => e.elim) fun _ _ e => e.elim
    have fin : TEnd h₀ env.locals wr (ownOf h₀ fp h₁) (J (i + 1)) { s₂ with heap := h₁, toks := tk₁ } s₄ →
        ∃ q', q' < n + 1 - i ∧ FInv s₂ h₀ env.locals wr n St J q' s₄ := by
      intro hq9
      refine ex5 hq9 fun h₃ tk₃ m₃ all nx hq11 => an7 hq11 fun eq_10 F₃ N₃ hn ho hw hj => ?_
      clear hq9 hq11
      subst eq_10
      refine ⟨n + 1 - (i + 1), by omega, h₃, tk₃, m₃, nx, i + 1, rfl, W.frame _ _ _ hst₁ fun b hb o e => ?_, F₃, fun p hp => N₃ _ (hn p hp), hw, hj, hlt, rfl⟩
      cases hn : h₀.get? b with
      | some o₀ =>
        have : o₀ = o := by have := F₁.keep b o₀ hn; rw [e] at this; exact (Option.some.inj this).symm
        exact this ▸ F₃.keep b o₀ hn
      | none => exact (N₃ _ (ho _ (mem_ownOf hb hn e))).1
    cases f with
    | ret v => exact h₄
    | brk => exact h₄
    | next => exact fin h₄
    | cont => exact fin h₄
  · have hin : i = n := by omega
    subst hin
    refine W.done _ _ _ hst' fun h₁ tk₁ hk₁ => wpAny_execs_nil ?_
    refine an2 (next h₁ hk₁) fun F₁ N₁ => ?_
    exact done m' news' h₁ tk₁ hJ F₁ N₁
end
section
variable {prog : Program} {w : World} {A : Around} {s : Shared} {h₀ : Heap} {L : Addr} {m : PySem.Str → Option Value} {news : List (Addr × Obj)}
theorem srcStr {E : Value → Shared → Prop} {Q : Value → Shared → Prop} {y : PySem.Str} {t : Tok} {n : Nat} (hn : y.cps.size = n) (hh : A.handled = none) (F : Fr h₀ L s.heap m) (N : News h₀ L s.heap news)
    (h : ∀ h2 tk2 I, SrcAt prog w A h₀ L m news n (SignAt y) s { s with heap := h2, toks := tk2 } I [I] [I] → Q (.ref I) { s with heap := h2, toks := tk2 }) :
    wpAny (model prog w) A (pyIter (.str y t)) Q E s := by
  subst hn
  have gen : ∀ (o : Obj) (St : Nat → Heap → Prop), (∀ i h, St i h → ∃ o, h.get? s.heap.objs.size = some o) → Walks prog w A s.heap.objs.size [s.heap.objs.size] [s.heap.objs.size] y.cps.size (SignAt y) St → St 0 (s.heap.push o) →
      Q (.ref s.heap.objs.size) { s with heap := s.heap.push o } := by
    intro o St hSt W hst
    refine h _ _ _ ⟨_, W, ?_, ?_, ?_, ?_, hst, F.push _, (fun p hp => ⟨Heap.get?_push_of_some _ (N p hp).1, (N p hp).2⟩), ?_, _, _, rfl⟩
    · intro hm
      exact absurd F.ns.lt ((List.mem_singleton.mp hm) ▸ Nat.lt_irrefl _)
    · intro b hb
      rw [List.mem_singleton.mp hb]
      exact next_is_new F
    · intro p hp hI
      exact absurd (Heap.lt_size (N p hp).1) ((List.mem_singleton.mp hI) ▸ Nat.lt_irrefl _)
    · intro b hb
      show b < (s.heap.push _).objs.size
      rw [Heap.size_push, List.mem_singleton.mp hb]; exact Nat.lt_succ_self _
    · intro i h hst b hb
      rw [List.mem_singleton.mp hb]
      exact hSt i h hst
  cases ha : y.cps.all (· < 128)
  · exact wpAny_pyIter_wide ha (gen _ _ (fun i h hs => let ⟨o, ho, _⟩ := hs; ⟨o, ho⟩) (Walks.strWide hh _ y t) ⟨_, Heap.get?_push_size _ rfl, rfl, rfl⟩)
  · exact wpAny_pyIter_ascii ha (gen _ _ (fun i h hs => let ⟨o, ho, _⟩ := hs; ⟨o, ho⟩) (Walks.strAscii hh _ y t) ⟨_, Heap.get?_push_size _ rfl, rfl, rfl⟩)
end
theorem SrcAt.st {prog : Program} {w : World} {A : Around} {h₀ : Heap} {L : Addr} {m : PySem.Str → Option Value} {news : List (Addr × Obj)} {n : Nat} {P : Nat → Value → Prop} {s s₂ : Shared} {I : Addr} {wr fp : List Addr} (h : SrcAt prog w A h₀ L m news n P s s₂ I wr fp) :
    ∃ h tk, s₂ = { s with heap := h, toks := tk } := by
  refine ex1 h fun St hq12 => an10 hq12 fun _ _ _ _ _ _ _ _ _ e => ?_
  clear h hq12
  exact e
section
variable {M : Model} {A : Around} {E : Value → Shared → Prop} {s : Shared} {h₀ : Heap} {C : Addr} {m : PySem.Str → Option Value} {news : List (Addr × Obj)} {scope : Scope} {cl : List (PySem.Str × Addr)} {env : Env} {x : PySem.Str} {pos : Pos} {v : Value}
theorem ldC {Q : Value → Shared → Prop} (F : Fr h₀ (compEnvC scope cl C env).locals s.heap m) (hv : m x = some v) (h : Q v s) (hk : (compEnvC scope cl C env).scope.kind = .function) (hx : (compEnvC scope cl C env).kindOf x = some .local) (hb : (x == ("__debug__" : PySem.Str)) = false := by decide) :
    wpAny M A (eval (.Name x pos) (compEnvC scope cl C env)) Q E s := wpAny_Name (wpAny_loadName_local hk hx F.ns hv h) hb
theorem storeC {Q : Unit → Shared → Prop} (F : Fr h₀ (compEnvC scope cl C env).locals s.heap m) (N : News h₀ (compEnvC scope cl C env).locals s.heap news)
    (h : ∀ h', Fr h₀ (compEnvC scope cl C env).locals h' (fun z => if z = x then some v else m z) → News h₀ (compEnvC scope cl C env).locals h' news → Q () { s with heap := h', toks := s.toks + 1 })
    (hx : (compEnvC scope cl C env).kindOf x = some .local) (hp : ((compEnvC scope cl C env).scope.kind == .class || ((compEnvC scope cl C env).scope.kind == .module && (compEnvC scope cl C env).locals != (compEnvC scope cl C env).globals)) = false) :
    wpAny M A (storeName (compEnvC scope cl C env) x v) Q E s :=
  wpAny_storeName_local hx F.ns (fun h₂ hn₂ hs₂ => h h₂ (F.set hn₂ hs₂) (N.set hs₂)) hp
end
end
section
-- after: 05_sub
section
variable {prog : Program} {w : World} {A : Around} {s : Shared} {env : Env} {R : Result → Shared → Prop}
theorem compTurn_last (elt t1 i1 t2 i2 : PySem.Expr) (ifs : List PySem.Expr) (scope : Scope) (pos : Pos) (it acc : Value) (env : Env) :
    compTurn (.ListComp elt [⟨t1, i1, [], 0⟩, ⟨t2, i2, ifs, 0⟩] scope pos) 1 it acc env = (do
      standAt i2.pos
      match ← pyNext it with
      | none => pure (.done .next)
      | some v =>
        letOwnedTupleGo t2 it v
        assign t2 env v
        let mut ok := true
        for c in ifs do
          if ok then ok ← isTrue c env (eval c env)
        if ok then
          (do let _ ← call (.builtin "list.append") [acc, ← eval elt env])
        again (.compLoop (.ListComp elt [⟨t1, i1, [], 0⟩, ⟨t2, i2, ifs, 0⟩] scope pos) 1 it acc env)) := by rfl
theorem compTurn_outer (elt t1 i1 t2 i2 : PySem.Expr) (ifs : List PySem.Expr) (scope : Scope) (pos : Pos) (it acc : Value) (env : Env) :
    compTurn (.ListComp elt [⟨t1, i1, [], 0⟩, ⟨t2, i2, ifs, 0⟩] scope pos) 0 it acc env = (standAt i1.pos >>= fun _ => pyNext it >>= fun r => match r with
      | none => pure (.done .next)
      | some v => letOwnedTupleGo t1 it v >>= fun _ => assign t1 env v >>= fun _ =>
        eval i2 env >>= fun x => standAt i2.pos >>= fun _ => foldedSetIterable i2 env x >>= fun x => (holding [x] (pyIter x)) >>= fun it2 =>
          runOwn (.compStart (.ListComp elt [⟨t1, i1, [], 0⟩, ⟨t2, i2, ifs, 0⟩] scope pos) 1 it2 acc env) env >>= fun _ =>
        again (.compLoop (.ListComp elt [⟨t1, i1, [], 0⟩, ⟨t2, i2, ifs, 0⟩] scope pos) 0 it acc env)) := by rfl
theorem codeAny_compLoop_last {elt t1 i1 t2 i2 : PySem.Expr} {ifs : List PySem.Expr} {scope : Scope} {pos : Pos} {it acc : Value} {env : Env} (I : Nat → Shared → Prop)
    (turn : ∀ n s, I n s → wpAny (model prog w) A (pyNext it) (fun r s₁ => match r with
      | none => R (.ok .next) s₁
      | some v => wpAny (model prog w) A (assign t2 env v) (fun _ s₂ =>
          wpAny (model prog w) A (tests ifs env) (fun ok s₃ =>
            if ok = true then wpAny (model prog w) A (eval elt env) (fun x s₄ =>
              wpAny (model prog w) A (call (.builtin "list.append") [acc, x]) (fun _ s₅ => ∃ m, m < n ∧ I m s₅) (notedBy (model prog w) A env fun e s' => R (.error e) s') s₄) (notedBy (model prog w) A env fun e s' => R (.error e) s') s₃
            else ∃ m, m < n ∧ I m s₃) (notedBy (model prog w) A env fun e s' => R (.error e) s') s₂) (notedBy (model prog w) A env fun e s' => R (.error e) s') s₁) (notedBy (model prog w) A env fun e s' => R (.error e) s') s)
    (n : Nat) (h : I n s) (ht : ∀ v, letOwnedTupleGo t2 it v = pure () := by intro _; rfl) :
    codeAny (model prog w) A (.compLoop (.ListComp elt [⟨t1, i1, [], 0⟩, ⟨t2, i2, ifs, 0⟩] scope pos) 1 it acc env) R s := by
  refine codeAny_loop rfl I (fun n s hI => ?_) n h
  show wpAny _ A ((compTurn (.ListComp elt [⟨t1, i1, [], 0⟩, ⟨t2, i2, ifs, 0⟩] scope pos) 1 it acc env).onRaise (fun x => do noteFrame x env; theTreesLotGoes x)) _ _ s
  refine wpAny_noted ?_
  rw [compTurn_last]
  refine wpAny_bind (wpAny_standAt (wpAny_bind (wpAny_mono (turn n s hI) (fun r s₁ h₁ => ?_) fun _ _ h' => h')))
  cases r with
  | none => exact wpAny_pure h₁
  | some v =>
    refine wpAny_bind (wpAny_of_eq (ht v) ?_)
    refine wpAny_bind (wpAny_mono h₁ (fun _ s₂ h₂ => wpAny_bind (wpAny_mono h₂ (fun ok s₃ h₃ => ?_) fun _ _ h' => h')) fun _ _ h' => h')
    cases ok with
    | false => exact wpAny_pure ⟨rfl, h₃⟩
    | true =>
      exact wpAny_bind (wpAny_bind (wpAny_mono h₃ (fun x s₄ h₄ => wpAny_bind (wpAny_mono h₄ (fun _ s₅ h₅ => wpAny_pure (wpAny_pure ⟨rfl, h₅⟩)) fun _ _ h' => h')) fun _ _ h' => h'))
theorem codeAny_compStart_inner {elt t1 i1 t2 i2 : PySem.Expr} {ifs : List PySem.Expr} {scope : Scope} {pos : Pos} {it acc : Value} {env : Env}
    (h0 : codeAny (model prog w) A (.compLoop (.ListComp elt [⟨t1, i1, [], 0⟩, ⟨t2, i2, ifs, 0⟩] scope pos) 1 it acc env) R s)
    (h : wpAny (model prog w) A (pyIter it) (fun it' s' => codeAny (model prog w) A (.compLoop (.ListComp elt [⟨t1, i1, [], 0⟩, ⟨t2, i2, ifs, 0⟩] scope pos) 1 it' acc env) R s')
      (notedBy (model prog w) A env fun x s' => R (.error x) s') s) :
    codeAny (model prog w) A (.compStart (.ListComp elt [⟨t1, i1, [], 0⟩, ⟨t2, i2, ifs, 0⟩] scope pos) 1 it acc env) R s := by
  refine codeAny_of_tree ?_
  show wpAny _ _ ((compStart (.ListComp elt [⟨t1, i1, [], 0⟩, ⟨t2, i2, ifs, 0⟩] scope pos) 1 it acc env).onRaise (fun x => do noteFrame x env; standAt theWindowsPlace)) _ _ s
  refine wpAny_notedAt ?_
  unfold compStart
  show wpAny _ _ (ask >>= _) _ _ s
  refine wpAny_bind (wpAny_askSetting (wpAny_ite ?_))
  split
  · first
      | exact wpAny_bind (wpAny_pure (wpAny_pure (And.intro rfl h0)))
      | exact wpAny_pure (And.intro rfl h0)
  · first
      | exact wpAny_bind (wpAny_rule (wpAny_bind (wpAny_standAt (wpAny_bind (wpAny_mono h (fun it' s' h' => wpAny_pure (And.intro rfl h')) fun _ _ x => x)))))
      | (refine wpAny_bind (wpAny_rule ?_); show wpAny _ _ (standAt i2.pos >>= _) _ _ s; exact wpAny_bind (wpAny_standAt (wpAny_bind (wpAny_mono h (fun it' s' h' => wpAny_pure (And.intro rfl h')) fun _ _ x => x))))
theorem codeAny_compLoop_outer {elt t1 i1 t2 i2 : PySem.Expr} {ifs : List PySem.Expr} {scope : Scope} {pos : Pos} {it acc : Value} {env : Env} (I : Nat → Shared → Prop)
    (turn : ∀ n s, I n s → wpAny (model prog w) A (pyNext it) (fun r s₁ => match r with
      | none => R (.ok .next) s₁
      | some v => wpAny (model prog w) A (assign t1 env v) (fun _ s₂ =>
          wpAny (model prog w) A (eval i2 env) (fun x s₃ => wpAny (model prog w) A (pyIter x) (fun it2 s₄ =>
            codeAny (model prog w) A (.compStart (.ListComp elt [⟨t1, i1, [], 0⟩, ⟨t2, i2, ifs, 0⟩] scope pos) 1 it2 acc env) (fun r s₅ => r = .ok .next ∧ ∃ m, m < n ∧ I m s₅) s₄)
            (fun _ _ => False) s₃) (fun _ _ => False) s₂) (fun _ _ => False) s₁) (fun _ _ => False) s)
    (n : Nat) (h : I n s) (ht : ∀ v, letOwnedTupleGo t1 it v = pure () := by intro _; rfl) (hs : ∀ x, foldedSetIterable i2 env x = pure x := by intro _; rfl) :
    codeAny (model prog w) A (.compLoop (.ListComp elt [⟨t1, i1, [], 0⟩, ⟨t2, i2, ifs, 0⟩] scope pos) 0 it acc env) R s := by
  refine codeAny_loop rfl I (fun n s hI => ?_) n h
  show wpAny _ A ((compTurn (.ListComp elt [⟨t1, i1, [], 0⟩, ⟨t2, i2, ifs, 0⟩] scope pos) 0 it acc env).onRaise (fun x => do noteFrame x env; theTreesLotGoes x)) _ _ s
  refine wpAny_noted ?_
  rw [compTurn_outer]
  refine wpAny_bind (wpAny_standAt (wpAny_bind (wpAny_mono (turn n s hI) (fun r s₁ h₁ => ?_) fun _ _ h' => h'.elim)))
  cases r with
  | none => exact wpAny_pure h₁
  | some v =>
    refine wpAny_bind (wpAny_of_eq (ht v) ?_)
    refine wpAny_bind (wpAny_mono h₁ (fun _ s₂ h₂ => wpAny_bind (wpAny_mono h₂ (fun x s₃ h₃ => wpAny_bind (wpAny_standAt (wpAny_bind (wpAny_of_eq (hs x) (wpAny_bind (wpAny_holding (wpAny_mono h₃ (fun it2 s₄ h₄ => ?_) fun _ _ h' => h'.elim))))))) fun _ _ h' => h'.elim)) fun _ _ h' => h'.elim)
    refine wpAny_bind (wpAny_runOwn (codeAny_mono h₄ fun r s₅ h₅ => ?_))
    obtain ⟨rfl, h₅⟩ := h₅
    exact wpAny_pure ⟨rfl, h₅⟩
end
section
variable {prog : Program} {w : World} {A : Around} {s : Shared} {env : Env} {R : Result → Shared → Prop}
def CEndI (g : Heap) (C : Addr) (wr : List Addr) (own : List (Addr × Obj)) (D : Addr) (ys : List Value) (k : Nat) (J : (PySem.Str → Option Value) → List (Addr × Obj) → Prop) (s₁ s₂ : Shared) : Prop :=
  ∃ h' tk m' all nx, s₂ = { s₁ with heap := h', toks := tk } ∧ Fr g C h' m' ∧ News g C h' all ∧ (D, LO ys k) ∈ all ∧ (∀ p ∈ nx, p ∈ all) ∧ (∀ p ∈ own, p ∈ all) ∧ (∀ p ∈ nx, p.1 ∉ wr ∧ p.1 ≠ D) ∧ J m' nx
theorem CEndI.intro {g : Heap} {C : Addr} {wr : List Addr} {own : List (Addr × Obj)} {D : Addr} {ys : List Value} {k : Nat} {J : (PySem.Str → Option Value) → List (Addr × Obj) → Prop} {s₁ : Shared} {h' : Heap} {tk : Nat} {m' : PySem.Str → Option Value} {all : List (Addr × Obj)} (nx : List (Addr × Obj))
    (F : Fr g C h' m') (N : News g C h' all) (hD : (D, LO ys k) ∈ all) (h1 : ∀ p ∈ nx, p ∈ all) (h2 : ∀ p ∈ own, p ∈ all) (h3 : ∀ p ∈ nx, p.1 ∉ wr ∧ p.1 ≠ D) (hJ : J m' nx) : CEndI g C wr own D ys k J s₁ { s₁ with heap := h', toks := tk } :=
  ⟨h', tk, m', all, nx, rfl, F, N, hD, h1, h2, h3, hJ⟩
/-- the turns of a comprehension's inner clause -/
abbrev CTurnI (prog : Program) (w : World) (A : Around) (target : PySem.Expr) (ifs : List PySem.Expr) (elt : PySem.Expr) (g : Heap) (cenv : Env) (D : Addr) (fp wr : List Addr) (n : Nat) (P : Nat → Value → Prop) (J : Nat → List Value → (PySem.Str → Option Value) → List (Addr × Obj) → Prop) (s : Shared) : Prop :=
  ∀ i v ys news₁ m₁ h tk own k, i < n → P i v → J i ys m₁ news₁ → (∀ p ∈ news₁, p.1 ∉ wr ∧ p.1 ≠ D) → (∀ p ∈ own, p.1 ≠ D) → (∀ p ∈ own, p.1 ∈ fp) → (∀ b ∈ wr, ∃ o, (b, o) ∈ own) → Fr g cenv.locals h m₁ → News g cenv.locals h ((D, LO ys k) :: (news₁ ++ own)) →
      wpAny (model prog w) A (assign target cenv v) (fun _ s₂ => wpAny (model prog w) A (tests ifs cenv) (fun ok s₃ =>
        if ok = true then wpAny (model prog w) A (eval elt cenv) (fun y s₄ => CEndI g cenv.locals wr own D ys k (J (i + 1) (ys ++ [y])) { s with heap := h, toks := tk } s₄) (fun _ _ => False) s₃
        else CEndI g cenv.locals wr own D ys k (J (i + 1) ys) { s with heap := h, toks := tk } s₃) (fun _ _ => False) s₂) (fun _ _ => False) { s with heap := h, toks := tk }
abbrev CInvI (s : Shared) (g : Heap) (C D : Addr) (wr : List Addr) (n : Nat) (St : Nat → Heap → Prop) (J : Nat → List Value → (PySem.Str → Option Value) → List (Addr × Obj) → Prop) (q : Nat) (s' : Shared) : Prop :=
  ∃ h' tk m' news' ys k i, s' = { s with heap := h', toks := tk } ∧ St i h' ∧ Fr g C h' m' ∧ News g C h' ((D, LO ys k) :: news') ∧ (∀ p ∈ news', p.1 ∉ wr ∧ p.1 ≠ D) ∧ J i ys m' news' ∧ i ≤ n ∧ q = n + 1 - i
abbrev CInvO (s : Shared) (g : Heap) (C D : Addr) (wr : List Addr) (n : Nat) (St : Nat → Heap → Prop) (J : Nat → List Value → List (Addr × Obj) → Prop) (q : Nat) (s' : Shared) : Prop := CInvI s g C D wr n St (fun i ys _ nx => J i ys nx) q s'
theorem compInnerG {elt t1 i1 t2 i2 : PySem.Expr} {ifs : List PySem.Expr} {scope : Scope} {pos : Pos} {cenv : Env} {g : Heap} {I D : Addr} {fp wr : List Addr} {n : Nat} {P : Nat → Value → Prop} {St : Nat → Heap → Prop} {m₀ : PySem.Str → Option Value} {news : List (Addr × Obj)} {k₀ : Nat} {ys₀ : List Value}
    (W : Walks prog w A I fp wr n P St) (hLf : cenv.locals ∉ fp) (hwr : ∀ b ∈ wr, g.get? b = none) (hnw : ∀ p ∈ news, p.1 ∉ wr ∧ p.1 ≠ D) (hDf : D ∉ fp) (hst : St 0 s.heap) (F : Fr g cenv.locals s.heap m₀) (N : News g cenv.locals s.heap ((D, LO ys₀ k₀) :: news))
    (ht : ∀ v, letOwnedTupleGo t2 (.ref I) v = pure ())
    (J : Nat → List Value → (PySem.Str → Option Value) → List (Addr × Obj) → Prop) (h0 : J 0 ys₀ m₀ news) (hsz : ∀ i ys m nx, J i ys m nx → ys.length ≤ sizeLine)
    (turn : CTurnI prog w A t2 ifs elt g cenv D fp wr n P J s)
    (hStI : ∀ i h, St i h → ∀ b ∈ wr, ∃ o, h.get? b = some o)
    (done : ∀ ys news' m' h tk k, J n ys m' news' → Fr g cenv.locals h m' → News g cenv.locals h ((D, LO ys k) :: news') → (∀ p ∈ news', p.1 ≠ D) → R (.ok .next) { s with heap := h, toks := tk }) :
    codeAny (model prog w) A (.compLoop (.ListComp elt [⟨t1, i1, [], 0⟩, ⟨t2, i2, ifs, 0⟩] scope pos) 1 (.ref I) (.ref D) cenv) R s := by
  have hLw : cenv.locals ∉ wr := fun h => hLf (W.sub _ h)
  have hDw : D ∉ wr := fun h => hDf (W.sub _ h)
  have old : ∀ b o, g.get? b = some o → b ∉ wr := fun b o e hb => by rw [hwr b hb] at e; cases e
  have hgD : g.get? D = none := (N _ (List.mem_cons_self ..)).2.2
  have hDC : D ≠ cenv.locals := (N _ (List.mem_cons_self ..)).2.1
  refine codeAny_compLoop_last
    (CInvI s g cenv.locals D wr n St J) ?_ (n + 1)
    ⟨s.heap, s.toks, m₀, news, ys₀, k₀, 0, rfl, hst, F, N, hnw, h0, Nat.zero_le _, rfl⟩ ht
  intro q s' hq2
  refine ex7 hq2 fun h' tk m' news' ys k i hq5 => an8 hq5 fun eq_3 hst' F' N' hnw' hJ hi eq_4 => ?_
  clear hq2 hq5
  subst eq_3
  subst eq_4
  have next : ∀ h₁ : Heap, (∀ b o, b ∉ wr → h'.get? b = some o → h₁.get? b = some o) → Fr g cenv.locals h₁ m' ∧ News g cenv.locals h₁ ((D, LO ys k) :: news') := fun h₁ hk₁ =>
    ⟨⟨F'.ns.at' fun o e => hk₁ _ o hLw e, fun b o e => hk₁ b o (old b o e) (F'.keep b o e), F'.above⟩, fun p hp => ⟨hk₁ _ _ (by
      rcases List.mem_cons.mp hp with rfl | hp
      · exact hDw
      · exact (hnw' p hp).1) (N' p hp).1, (N' p hp).2⟩⟩
  by_cases hlt : i < n
  · refine W.item i _ _ _ hlt hst' fun v h₁ tk₁ hP hst₁ hk₁ => ?_
    refine an2 (next h₁ hk₁) fun F₁ N₁ => ?_
    have Nown : News g cenv.locals h₁ (ownOf g fp h₁) := news_ownOf hLf
    have hownD : ∀ p ∈ ownOf g fp h₁, p.1 ≠ D := fun p hp e => hDf (e ▸ ownOf_sub p hp)
    have N₂ : News g cenv.locals h₁ ((D, LO ys k) :: (news' ++ ownOf g fp h₁)) := fun p hp => by
      rcases List.mem_cons.mp hp with rfl | hp
      · exact N₁ _ (List.mem_cons_self ..)
      · rcases List.mem_append.mp hp with hp | hp
        · exact N₁ _ (List.mem_cons_of_mem _ hp)
        · exact Nown p hp
    have fin : ∀ (ys' : List Value) s₃, CEndI g cenv.locals wr (ownOf g fp h₁) D ys k (J (i + 1) ys') { s with heap := h₁, toks := tk₁ } s₃ →
        ∃ h₃ tk₃ m₃ nx, s₃ = { s with heap := h₃, toks := tk₃ } ∧ St (i + 1) h₃ ∧ Fr g cenv.locals h₃ m₃ ∧ News g cenv.locals h₃ ((D, LO ys k) :: nx) ∧ (∀ p ∈ nx, p.1 ∉ wr ∧ p.1 ≠ D) ∧ J (i + 1) ys' m₃ nx := by
      intro ys' s₃ hq6
      refine ex5 hq6 fun h₃ tk₃ m₃ all nx hq8 => an8 hq8 fun eq_7 F₃ N₃ hD hn ho hw hj => ?_
      clear hq6 hq8
      subst eq_7
      refine ⟨h₃, tk₃, m₃, nx, rfl, W.frame _ _ _ hst₁ fun b hb o e => ?_, F₃, fun p hp => ?_, hw, hj⟩
      · cases hn : g.get? b with
        | some o₀ =>
          have : o₀ = o := by have := F₁.keep b o₀ hn; rw [e] at this; exact (Option.some.inj this).symm
          exact this ▸ F₃.keep b o₀ hn
        | none => exact (N₃ _ (ho _ (mem_ownOf hb hn e))).1
      · rcases List.mem_cons.mp hp with rfl | hp
        · exact N₃ _ hD
        · exact N₃ _ (hn p hp)
    refine wpAny_mono (turn i v ys news' m' h₁ tk₁ (ownOf g fp h₁) k hlt hP hJ hnw' hownD (fun p hp => ownOf_sub p hp) (fun b hb => (hStI _ _ hst₁ b hb).imp fun o ho => mem_ownOf (W.sub b hb) (hwr b hb) ho) F₁ N₂) (fun _ s₂ h₂ => wpAny_mono h₂ (fun ok s₃ h₃ => ?_) fun _ _ e => e.elim) fun _ _ e => e.elim
    cases ok with
    | false =>
      simp only [Bool.false_eq_true, if_false] at h₃ ⊢
      refine ex4 (fin _ _ h₃) fun H₃ tk₃ m₃ nx hq10 => an6 hq10 fun eq_9 hst₃ F₃ N₃ hw hj => ?_
      clear hq10
      subst eq_9
      exact ⟨n + 1 - (i + 1), by omega, H₃, tk₃, m₃, nx, ys, k, i + 1, rfl, hst₃, F₃, N₃, hw, hj, hlt, rfl⟩
    | true =>
      simp only [if_true] at h₃ ⊢
      refine wpAny_mono h₃ (fun y s₄ h₄ => ?_) fun _ _ e => e.elim
      refine ex4 (fin _ _ h₄) fun h₄ tk₄ m₄ nx hq12 => an6 hq12 fun eq_11 hst₄ F₄ N₄ hw hj => ?_
      clear hq12
      subst eq_11
      have hys : ys.toArray.size ≤ sizeLine := by have := hsz _ _ _ _ hj; rw [List.length_append] at this; simp; omega
      refine wpAny_list_append_plain (items := ys.toArray) (hsz := hys) ⟨k, (N₄ _ (List.mem_cons_self ..)).1⟩ fun h₅ hl₅ hs₅ => ?_
      refine ex1 hl₅ fun k₅ e₅ => ?_
      clear hl₅
      refine ⟨n + 1 - (i + 1), by omega, h₅, tk₄, m₄, nx, ys ++ [y], k₅, i + 1, rfl, ?_, ⟨F₄.ns.sameBut hs₅ (Ne.symm hDC), fun b o e => hs₅.extBut b o (fun q => by rw [q, hgD] at e; cases e) (F₄.keep b o e), F₄.above⟩, fun p hp => ?_, hw, hj, hlt, rfl⟩
      · exact W.frame _ _ _ hst₄ fun b hb o e => hs₅.extBut b o (fun q => hDf (q ▸ hb)) e
      · rcases List.mem_cons.mp hp with rfl | hp'
        · exact ⟨by rw [e₅]; simp [LO], (N₄ _ (List.mem_cons_self ..)).2⟩
        · exact ⟨hs₅.extBut _ _ (hw p hp').2 (N₄ _ (List.mem_cons_of_mem _ hp')).1, (N₄ _ (List.mem_cons_of_mem _ hp')).2⟩
  · have hin : i = n := by omega
    subst hin
    refine W.done _ _ _ hst' fun h₁ tk₁ hk₁ => ?_
    refine an2 (next h₁ hk₁) fun F₁ N₁ => ?_
    exact done ys news' m' h₁ tk₁ k hJ F₁ N₁ fun p hp => (hnw' p hp).2

def NSrc (prog : Program) (w : World) (A : Around) (t2 : PySem.Expr) (ifs : List PySem.Expr) (elt : PySem.Expr) (g : Heap) (cenv : Env) (D : Addr) (wr : List Addr) (J : Nat → List Value → List (Addr × Obj) → Prop) (i : Nat) (ys : List Value) (own : List (Addr × Obj)) (s : Shared) (it : Value) (s₄ : Shared) : Prop :=
        ∃ s₁' I2 wr2 fp2 m' news' n2 P2 k', ∃ J2 : Nat → List Value → (PySem.Str → Option Value) → List (Addr × Obj) → Prop, it = .ref I2 ∧ SrcAt prog w A g cenv.locals m' ((D, LO ys k') :: news') n2 P2 s₁' s₄ I2 wr2 fp2 ∧ D ∉ fp2 ∧ (∀ p ∈ news', p.1 ≠ D) ∧ (∃ h tk, s₄ = { s with heap := h, toks := tk }) ∧
          (∀ I v, letOwnedTupleGo t2 (.ref I) v = pure ()) ∧ J2 0 ys m' news' ∧ (∀ j ys' m nx, J2 j ys' m nx → ys'.length ≤ sizeLine) ∧ CTurnI prog w A t2 ifs elt g cenv D fp2 wr2 n2 P2 J2 s₄ ∧
          (∀ ys' m nx', J2 n2 ys' m nx' → (∀ p ∈ own, p ∈ nx') ∧ ∃ nx, (∀ p ∈ nx, p ∈ nx') ∧ (∀ p ∈ nx, p.1 ∉ wr ∧ p.1 ≠ D) ∧ J (i + 1) ys' nx)
theorem NSrc.intro {prog : Program} {w : World} {A : Around} {t2 : PySem.Expr} {ifs : List PySem.Expr} {elt : PySem.Expr} {g : Heap} {cenv : Env} {D : Addr} {wr : List Addr} {J : Nat → List Value → List (Addr × Obj) → Prop} {i : Nat} {ys : List Value} {own : List (Addr × Obj)} {s s₄ s₁' : Shared} {I2 : Addr} {wr2 fp2 : List Addr} {m' : PySem.Str → Option Value} {news' : List (Addr × Obj)} {P2 : Nat → Value → Prop} (n2 k' : Nat) (J2 : Nat → List Value → (PySem.Str → Option Value) → List (Addr × Obj) → Prop)
    (hS : SrcAt prog w A g cenv.locals m' ((D, LO ys k') :: news') n2 P2 s₁' s₄ I2 wr2 fp2) (h1 : D ∉ fp2) (h2 : ∀ p ∈ news', p.1 ≠ D) (h3 : ∃ h tk, s₄ = { s with heap := h, toks := tk }) (h4 : ∀ I v, letOwnedTupleGo t2 (.ref I) v = pure ()) (h5 : J2 0 ys m' news') (h6 : ∀ j ys' m nx, J2 j ys' m nx → ys'.length ≤ sizeLine)
    (h7 : CTurnI prog w A t2 ifs elt g cenv D fp2 wr2 n2 P2 J2 s₄) (h8 : ∀ ys' m nx', J2 n2 ys' m nx' → (∀ p ∈ own, p ∈ nx') ∧ ∃ nx, (∀ p ∈ nx, p ∈ nx') ∧ (∀ p ∈ nx, p.1 ∉ wr ∧ p.1 ≠ D) ∧ J (i + 1) ys' nx) : NSrc prog w A t2 ifs elt g cenv D wr J i ys own s (.ref I2) s₄ :=
  ⟨s₁', I2, wr2, fp2, m', news', n2, P2, k', J2, rfl, hS, h1, h2, h3, h4, h5, h6, h7, h8⟩
/-- the turns of a comprehension's outer clause -/
abbrev CTurnO (prog : Program) (w : World) (A : Around) (t1 t2 i2 : PySem.Expr) (ifs : List PySem.Expr) (elt : PySem.Expr) (g : Heap) (cenv : Env) (D : Addr) (fp wr : List Addr) (n : Nat) (P : Nat → Value → Prop) (J : Nat → List Value → List (Addr × Obj) → Prop) (s : Shared) : Prop :=
  ∀ i v ys news₁ m₁ h tk own k, i < n → P i v → J i ys news₁ → (∀ p ∈ news₁, p.1 ∉ wr ∧ p.1 ≠ D) → (∀ p ∈ own, p.1 ≠ D) → (∀ p ∈ own, p.1 ∈ fp) → (∀ b ∈ wr, ∃ o, (b, o) ∈ own) → Fr g cenv.locals h m₁ → News g cenv.locals h ((D, LO ys k) :: (news₁ ++ own)) →
      wpAny (model prog w) A (assign t1 cenv v) (fun _ s₂ => wpAny (model prog w) A (eval i2 cenv) (fun xv s₃ => wpAny (model prog w) A (pyIter xv) (fun it s₄ =>
        NSrc prog w A t2 ifs elt g cenv D wr J i ys own s it s₄) (fun _ _ => False) s₃) (fun _ _ => False) s₂) (fun _ _ => False) { s with heap := h, toks := tk }
theorem compLoop2G {elt t1 i1 t2 i2 : PySem.Expr} {ifs : List PySem.Expr} {scope : Scope} {pos : Pos} {cenv : Env} {g : Heap} {I D : Addr} {fp wr : List Addr} {n : Nat} {P : Nat → Value → Prop} {St : Nat → Heap → Prop} {m₀ : PySem.Str → Option Value} {news : List (Addr × Obj)} {k₀ : Nat}
    (W : Walks prog w A I fp wr n P St) (hLf : cenv.locals ∉ fp) (hwr : ∀ b ∈ wr, g.get? b = none) (hnw : ∀ p ∈ news, p.1 ∉ wr ∧ p.1 ≠ D) (hDf : D ∉ fp) (hst : St 0 s.heap) (F : Fr g cenv.locals s.heap m₀) (N : News g cenv.locals s.heap ((D, LO [] k₀) :: news))
    (ht : ∀ v, letOwnedTupleGo t1 (.ref I) v = pure ())
    (J : Nat → List Value → List (Addr × Obj) → Prop) (h0 : J 0 [] news)
    (turn : CTurnO prog w A t1 t2 i2 ifs elt g cenv D fp wr n P J s)
    (hStI : ∀ i h, St i h → ∀ b ∈ wr, ∃ o, h.get? b = some o)
    (done : ∀ ys news' m' h tk k, J n ys news' → Fr g cenv.locals h m' → News g cenv.locals h ((D, LO ys k) :: news') → (∀ p ∈ news', p.1 ≠ D) → R (.ok .next) { s with heap := h, toks := tk })
    (hs2 : ∀ x, foldedSetIterable i2 cenv x = pure x := by intro _; rfl) :
    codeAny (model prog w) A (.compLoop (.ListComp elt [⟨t1, i1, [], 0⟩, ⟨t2, i2, ifs, 0⟩] scope pos) 0 (.ref I) (.ref D) cenv) R s := by
  have hLw : cenv.locals ∉ wr := fun h => hLf (W.sub _ h)
  have hDw : D ∉ wr := fun h => hDf (W.sub _ h)
  have old : ∀ b o, g.get? b = some o → b ∉ wr := fun b o e hb => by rw [hwr b hb] at e; cases e
  refine codeAny_compLoop_outer
    (CInvO s g cenv.locals D wr n St J) ?_ (n + 1)
    ⟨s.heap, s.toks, m₀, news, [], k₀, 0, rfl, hst, F, N, hnw, h0, Nat.zero_le _, rfl⟩ ht hs2
  intro q s' hq13
  refine ex7 hq13 fun h' tk m' news' ys k i hq16 => an8 hq16 fun eq_14 hst' F' N' hnw' hJ hi eq_15 => ?_
  clear hq13 hq16
  subst eq_14
  subst eq_15
  have next : ∀ h₁ : Heap, (∀ b o, b ∉ wr → h'.get? b = some o → h₁.get? b = some o) → Fr g cenv.locals h₁ m' ∧ News g cenv.locals h₁ ((D, LO ys k) :: news') := fun h₁ hk₁ =>
    ⟨⟨F'.ns.at' fun o e => hk₁ _ o hLw e, fun b o e => hk₁ b o (old b o e) (F'.keep b o e), F'.above⟩, fun p hp => ⟨hk₁ _ _ (by
      rcases List.mem_cons.mp hp with rfl | hp
      · exact hDw
      · exact (hnw' p hp).1) (N' p hp).1, (N' p hp).2⟩⟩
  by_cases hlt : i < n
  · refine W.item i _ _ _ hlt hst' fun v h₁ tk₁ hP hst₁ hk₁ => ?_
    refine an2 (next h₁ hk₁) fun F₁ N₁ => ?_
    have Nown : News g cenv.locals h₁ (ownOf g fp h₁) := news_ownOf hLf
    have hownD : ∀ p ∈ ownOf g fp h₁, p.1 ≠ D := fun p hp e => hDf (e ▸ ownOf_sub p hp)
    have N₂ : News g cenv.locals h₁ ((D, LO ys k) :: (news' ++ ownOf g fp h₁)) := fun p hp => by
      rcases List.mem_cons.mp hp with rfl | hp
      · exact N₁ _ (List.mem_cons_self ..)
      · rcases List.mem_append.mp hp with hp | hp
        · exact N₁ _ (List.mem_cons_of_mem _ hp)
        · exact Nown p hp
    refine wpAny_mono (turn i v ys news' m' h₁ tk₁ (ownOf g fp h₁) k hlt hP hJ hnw' hownD (fun p hp => ownOf_sub p hp) (fun b hb => (hStI _ _ hst₁ b hb).imp fun o ho => mem_ownOf (W.sub b hb) (hwr b hb) ho) F₁ N₂) (fun _ s₂ h₂ => wpAny_mono h₂ (fun xv s₃ h₃ => wpAny_mono h₃ (fun it s₄ h₄ => ?_) fun _ _ e => e) fun _ _ e => e) fun _ _ e => e
    refine ex8 h₄ fun s₁' I2 wr2 fp2 m2 news2 n2 P2 hq20 => ?_; refine ex2 hq20 fun k2 J2 hq21 => an10 hq21 fun eq_17 hq18 hDf2 hnD2 hq19 ht2 h02 hsz2 turn2 out => ?_
    clear h₄ hq20 hq21
    subst eq_17
    refine ex1 hq18 fun St2 hq22 => an10 hq22 fun W2 hLf2 hwr2 hnw2 hfp2 hst2 F2 N2 hStI2 _ => ?_
    clear hq18 hq22
    refine ex2 hq19 fun h4 tk4 eq_23 => ?_
    clear hq19
    subst eq_23
    have loop : codeAny (model prog w) A (.compLoop (.ListComp elt [⟨t1, i1, [], 0⟩, ⟨t2, i2, ifs, 0⟩] scope pos) 1 (.ref I2) (.ref D) cenv) (fun r s₅ => r = .ok .next ∧ ∃ m, m < n + 1 - i ∧ CInvO s g cenv.locals D wr n St J m s₅) { s with heap := h4, toks := tk4 } := by
      refine compInnerG W2 hLf2 hwr2 (fun p hp => ⟨hnw2 p (.tail _ hp), hnD2 p hp⟩) hDf2 hst2 F2 N2 (ht2 _) J2 h02 hsz2 turn2 hStI2 ?_
      intro ys5 nx5 m5 h5 tk5 k5 hJ5 F5 N5 hD5
      obtain ⟨ho, nx, hn, hw, hj⟩ := out _ _ _ hJ5
      refine ⟨rfl, n + 1 - (i + 1), by omega, h5, tk5, m5, nx, ys5, k5, i + 1, rfl, W.frame _ _ _ hst₁ fun b hb o e => ?_, F5, fun p hp => ?_, hw, hj, hlt, rfl⟩
      · cases hn : g.get? b with
        | some o₀ =>
          have : o₀ = o := by have := F₁.keep b o₀ hn; rw [e] at this; exact (Option.some.inj this).symm
          exact this ▸ F5.keep b o₀ hn
        | none => exact (N5 _ (.tail _ (ho _ (mem_ownOf hb hn e)))).1
      · rcases List.mem_cons.mp hp with rfl | hp
        · exact N5 _ (.head _)
        · exact N5 _ (.tail _ (hn p hp))
    exact codeAny_compStart_inner loop (W2.self 0 _ _ _ hst2 loop)
  · have hin : i = n := by omega
    subst hin
    refine W.done _ _ _ hst' fun h₁ tk₁ hk₁ => ?_
    refine an2 (next h₁ hk₁) fun F₁ N₁ => ?_
    exact done ys news' m' h₁ tk₁ k hJ F₁ N₁ fun p hp => (hnw' p hp).2
end
section
variable {prog : Program} {w : World} {A : Around} {s : Shared} {env : Env} {h₀ : Heap} {L : Addr} {m : PySem.Str → Option Value} {news : List (Addr × Obj)}
theorem compBlock2 {elt t1 i1 t2 i2 : PySem.Expr} {ifs : List PySem.Expr} {scope : Scope} {pos : Pos} {cl : List (PySem.Str × Addr)} {I : Addr} {fp wr : List Addr} {n : Nat} {P : Nat → Value → Prop} {St : Nat → Heap → Prop} {RR : Value → Addr → Result → Shared → Prop} {E : Value → Shared → Prop}
    (W : Walks prog w A I fp wr n P St) (hcell : ∀ y ∈ scope.names, y.2 ≠ .cell) (hkind : scope.kind = .function)
    (hLf : L ∉ fp) (hwr : ∀ b ∈ wr, h₀.get? b = none) (hnw : ∀ p ∈ news, p.1 ∉ wr) (hfp : ∀ b ∈ fp, b < s.heap.objs.size) (hst : St 0 s.heap) (F : Fr h₀ L s.heap m) (N : News h₀ L s.heap news)
    (ht : ∀ v, letOwnedTupleGo t1 (.ref I) v = pure ())
    (J : Nat → List Value → List (Addr × Obj) → Prop) (h0 : J 0 [] news)
    (turn : ∀ g C D, (∀ p ∈ news, p.1 < D) → h₀.StaysIn g → CTurnO prog w A t1 t2 i2 ifs elt g (compEnvC scope cl C env) D fp wr n P J s)
    (hStI : ∀ i h, St i h → ∀ b ∈ wr, ∃ o, h.get? b = some o)
    (done : ∀ D C h' tk ys news' k mC, C ≠ L → h₀.get? C = none → h'.Ns C mC → (∀ p ∈ (D, LO ys k) :: news', p.1 ≠ C) → (∀ p ∈ news', p.1 ≠ D) → (∀ p ∈ news, p.1 < D) → Fr h₀ L h' m → News h₀ L h' ((D, LO ys k) :: news') → J n ys news' → RR (.ref D) C (.ok .next) { s with heap := h', toks := tk })
    (hs2 : ∀ C x, foldedSetIterable i2 (compEnvC scope cl C env) x = pure x := by intro _ _; rfl) :
    wpAny (model prog w) A (newList []) (fun acc s₃ => wpAny (model prog w) A (newFunctionEnv scope env.globals cl [] env.qual none .none (some env)) (fun cenv s₄ =>
      codeAny (model prog w) A (.compStart (.ListComp elt [⟨t1, i1, [], 0⟩, ⟨t2, i2, ifs, 0⟩] scope pos) 0 (.ref I) acc { cenv with scope := relabel scope env }) (RR acc cenv.locals) s₄) E s₃) E s := by
  refine wpAny_newObj_type (wpAny_newFunctionEnv hcell (by intro y hy; simp at hy) (fun h₁ hns₁ hsb₁ => ?_) hkind)
  dsimp only at hns₁ hsb₁ ⊢
  generalize hH2 : s.heap.push { cls := .type "list", dict := none, data := .seq ([] : List Value).toArray } = H2 at hns₁ hsb₁ ⊢
  have hC : H2.objs.size = s.heap.objs.size + 1 := by rw [← hH2, Heap.size_push]
  have hDC : s.heap.objs.size ≠ H2.objs.size := by rw [hC]; exact Nat.ne_of_lt (Nat.lt_succ_self _)
  have below : ∀ b, b < s.heap.objs.size → b ≠ H2.objs.size ∧ b ≠ s.heap.objs.size := fun b hb => ⟨by rw [hC]; exact Nat.ne_of_lt (Nat.lt_succ_of_lt hb), Nat.ne_of_lt hb⟩
  have hLlt : L < s.heap.objs.size := F.ns.lt
  have hDf : s.heap.objs.size ∉ fp := fun hm => Nat.lt_irrefl _ (hfp _ hm)
  have hCf : H2.objs.size ∉ fp := fun hm => by have := hfp _ hm; rw [hC] at this; exact Nat.lt_irrefl _ (Nat.lt_of_succ_lt this)
  have old : ∀ b o, s.heap.get? b = some o → h₁.get? b = some o := fun b o e => hsb₁.extBut b o (below b (Heap.lt_size e)).1 (Heap.get?_push_of_some _ (hH2 ▸ Heap.get?_push_of_some _ e))
  have hacc : h₁.get? s.heap.objs.size = some (LO [] 0) := hsb₁.extBut _ _ hDC (Heap.get?_push_of_some _ (hH2 ▸ Heap.get?_push_size _ rfl))
  have hst₁ : St 0 h₁ := W.frame _ _ _ hst fun b _ o e => old b o e
  have fresh : ∀ a, s.heap.objs.size ≤ a → s.heap.get? a = none := fun a ha => Heap.get?_none_of_le ha
  obtain ⟨stg, bk⟩ := ground_ofX (news.map (·.1) ++ wr) F (fun q => (List.mem_append.mp q).elim (fun q => by obtain ⟨p, hp, e⟩ := List.mem_map.mp q; exact (N p hp).2.1 e) fun q => hLf (W.sub _ q)) (fun b q => (List.mem_append.mp q).elim (fun q => by obtain ⟨p, hp, rfl⟩ := List.mem_map.mp q; exact (N p hp).2.2) fun q => hwr b q)
  have gfresh : ∀ a, s.heap.objs.size ≤ a → (hideAll s.heap (news.map (·.1) ++ wr)).get? a = none := fun a ha => by
    cases q : (hideAll s.heap (news.map (·.1) ++ wr)).get? a with
    | none => rfl
    | some o => have h2 := fresh a ha; rw [of_hideAll _ q] at h2; cases h2
  have F₁ : Fr (hideAll s.heap (news.map (·.1) ++ wr)) H2.objs.size h₁ _ := ⟨hns₁, fun b o e => old b o (of_hideAll _ e), by rw [hideAll_size, hC]; exact Nat.le_succ _⟩
  have N₁ : News (hideAll s.heap (news.map (·.1) ++ wr)) H2.objs.size h₁ ((s.heap.objs.size, LO [] 0) :: news) := fun p hp => by
    rcases List.mem_cons.mp hp with rfl | hp
    · exact ⟨hacc, hDC, gfresh _ (Nat.le_refl _)⟩
    · exact ⟨old _ _ (N p hp).1, (below _ (Heap.lt_size (N p hp).1)).1, hideAll_none _ (List.mem_append_left _ (List.mem_map_of_mem hp))⟩
  have loop : ∀ s₃ : Shared, s₃ = { s with heap := h₁, toks := s.toks + ([] : List (PySem.Str × Value)).length } →
      codeAny (model prog w) A (.compLoop (.ListComp elt [⟨t1, i1, [], 0⟩, ⟨t2, i2, ifs, 0⟩] scope pos) 0 (.ref I) (.ref s.heap.objs.size) (compEnvC scope cl H2.objs.size env))
        (RR (.ref s.heap.objs.size) H2.objs.size) s₃ := by
    rintro s₃ rfl
    refine compLoop2G (cenv := compEnvC scope cl H2.objs.size env) W hCf (fun b hb => hideAll_none _ (List.mem_append_right _ hb)) (fun p hp => ⟨hnw p hp, (below _ (Heap.lt_size (N p hp).1)).2⟩) hDf hst₁ F₁ N₁ ht J h0
      (turn _ _ _ (fun p hp => Heap.lt_size (N p hp).1) stg) hStI ?_ (hs2 _)
    intro ys news' m' h tk k hJ F' N' hD'
    obtain ⟨F₂, N₂⟩ := bk.use F' N'
    exact done _ _ h tk ys news' k m' (by rw [hC]; exact Nat.ne_of_gt (Nat.lt_succ_of_lt hLlt)) (Heap.get?_none_of_le (by rw [hC]; exact Nat.le_of_lt (Nat.lt_of_le_of_lt F.above (Nat.lt_succ_of_lt hLlt)))) F'.ns (fun p hp => (N' p hp).2.1) hD' (fun p hp => Heap.lt_size (N p hp).1) F₂ N₂ hJ
  exact codeAny_compStart_list (loop _ rfl) (W.self 0 _ _ _ hst₁ (loop _ rfl))
/-- a comprehension of two clauses, stored by `name = [..]` in a def's local -/
theorem assignComp2 {elt t1 i1 t2 i2 : PySem.Expr} {ifs : List PySem.Expr} {scope : Scope} {pos spos py : Pos} {y : PySem.Str} {cl : List (PySem.Str × Addr)} {n : Nat} {P : Nat → Value → Prop} {Q : Flow → Shared → Prop} {E : Value → Shared → Prop}
    (hsw : swapsWith (.ListComp elt [⟨t1, i1, [], 0⟩, ⟨t2, i2, ifs, 0⟩] scope pos) (some (.Name y py)) spos.line env = pure true)
    (hclos : closureFor scope env = pure cl) (hcell : ∀ y ∈ scope.names, y.2 ≠ .cell) (hkind : scope.kind = .function) (hnames : ∀ y ∈ scope.names, y.2 = .local → scope.names.lookup y.1 = some .local)
    (hy : env.kindOf y = some .local) (hp : (env.scope.kind == .class || (env.scope.kind == .module && env.locals != env.globals)) = false)
    (ht : ∀ I v, letOwnedTupleGo t1 (.ref I) v = pure ())
    (J : Nat → List Value → List (Addr × Obj) → Prop)
    (src : wpAny (model prog w) A (eval i1 env) (fun xv s₁ => wpAny (model prog w) A (pyIter xv) (fun it s₂ => CSrc prog w A h₀ env.locals n P (fun _ news => J 0 [] news)
      (fun wr fp news => ∀ g C D, (∀ p ∈ news, p.1 < D) → h₀.StaysIn g → CTurnO prog w A t1 t2 i2 ifs elt g (compEnvC scope cl C env) D fp wr n P J s₂)
      (fun m news => ∀ D h' tk ys news' k, (∀ p ∈ news', p.1 ≠ D) → (∀ p ∈ news, p.1 < D) → Fr h₀ env.locals h' (fun z => if z = y then some (.ref D) else m z) → News h₀ env.locals h' ((D, LO ys k) :: news') → J n ys news' → Q .next { s₂ with heap := h', toks := tk }) it s₂) E s₁) E s)
    (hs : ∀ x, foldedSetIterable i1 env x = pure x := by intro _; rfl)
    (hs2 : ∀ C x, foldedSetIterable i2 (compEnvC scope cl C env) x = pure x := by intro _ _; rfl) :
    wpAny (model prog w) A (exec (.Assign [.Name y py] (.ListComp elt [⟨t1, i1, [], 0⟩, ⟨t2, i2, ifs, 0⟩] scope pos) spos) env) Q E s := by
  rw [exec_Assign_Name_used _ _ _ _ hsw]
  refine wpAny_bind (wpAny_standAt (wpAny_bind ?_))
  show wpAny _ A (do let _ ← comprehension (.ListComp elt [⟨t1, i1, [], 0⟩, ⟨t2, i2, ifs, 0⟩] scope pos) scope env _ (newList []) false (eval i1 env) (some (assign (.Name y py) env))) _ _ s
  refine wpAny_bind (wpAny_mono (wpAny_comprehension_free (use := some (assign (.Name y py) env)) (Q := fun _ s' => Q .next s') rfl hs hclos hkind hnames
    (wpAny_mono src (fun xv s₁ h₁ => wpAny_mono h₁ (fun it s₂ h₂ => ?_) fun _ _ e => e) fun _ _ e => e)) (fun _ s' hq => wpAny_pure (wpAny_pure hq)) fun _ _ e => e)
  refine ex6 h₂ fun s₁' I wr fp m news hq26 => an5 hq26 fun eq_24 hq25 h0 turn hQ => ?_
  clear h₂ hq26
  subst eq_24
  refine ex1 hq25 fun St hq27 => an10 hq27 fun W hLf hwr hnw hfp hst F N hStI _ => ?_
  clear hq25 hq27
  refine compBlock2 (RR := fun acc C => compPost (model prog w) A E (some (assign (.Name y py) env)) (fun _ s' => Q .next s') acc C) W hcell hkind hLf hwr hnw hfp hst F N (ht I) J h0 turn hStI ?_ hs2
  intro D C h' tk ys news' k mC hCL hC0 hn hne hD hlt F' N' hJ
  show wpAny _ A (assign (.Name y py) env (.ref D)) _ _ _
  refine wpAny_assign_Name (wpAny_storeName_local hy F'.ns (fun h₂ hn₂ hs₂ => ?_) hp)
  refine ⟨mC, hn.sameBut hs₂ hCL, fun h₃ hs₃ => ?_⟩
  exact hQ D h₃ _ ys news' k hD hlt (frSB (F'.set hn₂ hs₂) hs₃ hCL hC0) (newsSB (N'.set hs₂) hs₃ hne) hJ
end
end
section
-- after: 05_sub
abbrev S (l : List Nat) : PySem.Str := ⟨l.toArray⟩
theorem sLen (l : List Nat) : PySem.Str.length (S l) = l.length := by simp [PySem.Str.length]
theorem sItem {l : List Nat} {i : Nat} (h : i < l.length) : Txt.item (S l) (i : Int) = ⟨#[l.getD i 0]⟩ := by
  rw [item_meets ⟨by omega, by rw [sLen]; omega⟩]
  simp [Array.getD, List.getD, h]
theorem sFrom {l : List Nat} {i : Nat} (h : i ≤ l.length) : Txt.slice (S l) (some (i : Int)) none = S (l.drop i) := by
  have := slice_closes_from (x := S l) (i := i) ⟨by omega, by simp; omega⟩
  rw [beq_iff_eq] at this
  rw [this]
  simp only [Int.toNat_natCast, S]
  congr 2
  rw [List.take_of_length_le]
  simp
theorem sTo {l : List Nat} {i : Nat} (h : i ≤ l.length) : Txt.slice (S l) none (some (i : Int)) = S (l.take i) := by
  have := slice_closes_to (x := S l) (j := i) ⟨by omega, by simp; omega⟩
  rw [beq_iff_eq] at this
  rw [this]
  simp
theorem sFT {l : List Nat} {i j : Nat} (h : i ≤ j) (h2 : j ≤ l.length) : Txt.slice (S l) (some (i : Int)) (some (j : Int)) = S ((l.drop i).take (j - i)) := by
  have := slice_closes (x := S l) (i := i) (j := j) ⟨by omega, by omega, by simp; omega⟩
  rw [beq_iff_eq] at this
  rw [this]
  simp only [Int.toNat_natCast, S]
  congr 3
  omega
theorem cntL (c : Nat) : ∀ l : List Nat, cnt c l = ((l.count c : Nat) : Int)
  | [] => cnt_nil c
  | a :: r => by
    rw [cnt_cons, cntL c r, List.count_cons]
    by_cases h : a = c
    · subst h; simp; try omega
    · simp [h]
theorem sCount (l : List Nat) (c : Nat) : Txt.count (S l) ⟨#[c]⟩ = ((l.count c : Nat) : Int) := by rw [count_cnt, cntL]
theorem idxOf_le {c : Nat} : ∀ {l : List Nat} {k : Nat}, l[k]? = some c → l.idxOf c ≤ k
  | [], k, h => by simp at h
  | a :: r, 0, h => by simp at h; subst h; simp
  | a :: r, k + 1, h => by
    rw [List.idxOf_cons]
    by_cases e : a = c
    · simp [e]
    · have := idxOf_le (l := r) (k := k) (by simpa using h)
      have e' : (a == c) = false := by simpa using e
      rw [e']
      simp only [cond_false]
      omega
theorem sFind {l : List Nat} {c : Nat} (h : c ∈ l) : Txt.find (S l) ⟨#[c]⟩ = ((l.idxOf c : Nat) : Int) := by
  have hlt : l.idxOf c < l.length := List.idxOf_lt_length_iff.mpr h
  have hget : l.getD (l.idxOf c) 0 = c := by
    rw [List.getD_eq_getElem?_getD, List.getElem?_eq_getElem hlt]
    simp
  have hg : ∀ v, (S l).cps.getD v 0 = l.getD v 0 := fun v => by simp [Array.getD, List.getD]; split <;> simp_all
  rw [find_is_find3]
  rcases StrLaws.find3_spec (S l) c 0 with ⟨_, h2⟩ | ⟨k, h1, h2, h3, h4, h5⟩
  · exact absurd (by rw [hg]; exact hget) (h2 (l.idxOf c) (by simp [fromIndex]) (by rw [sLen]; exact hlt))
  · rw [h1]
    congr 1
    rw [hg] at h4
    rw [sLen] at h3
    rcases Nat.lt_trichotomy k (l.idxOf c) with h | h | h
    · have h6 : l[k]? = some c := by
        rw [List.getD_eq_getElem?_getD, List.getElem?_eq_getElem h3] at h4
        rw [List.getElem?_eq_getElem h3]
        exact congrArg some h4
      have := idxOf_le h6
      omega
    · exact h
    · exact absurd (by rw [hg]; exact hget) (h5 (l.idxOf c) (by simp [fromIndex]) h)
theorem sApp (a b : List Nat) : S a ++ S b = S (a ++ b) := by
  show PySem.Str.mk _ = _
  simp
end
section
-- after: 11_rules3
section
variable {prog : Program} {w : World} {A : Around} {s : Shared} {K : Frag} {L : Addr} {h₀ : Heap} {m mg mb : PySem.Str → Option Value} {news : List (Addr × Obj)} {p : Program} {loose : List PySem.Str} {mean : ExcName → Option Value}
  {name qual : PySem.Str} {params : Arguments} {body : List PySem.Stmt} {scope : Scope} {dV kV doc pm cdv ct oc : Value} {an od : Option Addr} {osl : Array (Option Value)} {f : Addr} {args : Args} {binds : List (PySem.Str × Value)} {R : Result → Shared → Prop}
/-- entering a def of the program by its code -/
theorem enterK (F : Fr h₀ L s.heap m) (X₀ : K.In h₀) (N : News h₀ L s.heap news) (T : Top p loose mean mg mb h₀)
    (ho : K.lookup f = some ⟨oc, od, .func (fnOf name qual params body scope dV kV doc pm an cdv ct), osl⟩) (hcd : codeIn K cdv qual = true) (hroom : A.depth < recursionLimit)
    (hbind : BindsTo s (fnOf name qual params body scope dV kV doc pm an cdv ct) args binds) (hloc : ∀ y ∈ binds, scope.names.lookup y.1 = some .local)
    (h : ∀ g L' h₁, Back h₀ L m g → Fr g L' h₁ (fun y => binds.reverse.lookup y) → News g L' h₁ news → K.In g → Top p loose mean mg mb g → (∀ p ∈ news, p.1 < L') →
      wpAny (model prog w) (A.deeper (envX qual scope L' f cdv [])) (execs body (envX qual scope L' f cdv []))
        (fun fl s' => R (.ok (.ret (match fl with | .ret v => v | _ => .none))) s') (fun _ _ => False)
        { s with heap := h₁, toks := s.toks + binds.length })
    (hco : scope.isCoroutine = false) (hgen : scope.isGenerator = false) (hk : scope.kind = .function)
    (hcell : ∀ x ∈ scope.names, x.2 ≠ .cell) : codeAny (model prog w) A (.call (.ref f) args) R s := by
  obtain ⟨st, bk⟩ := ground_of F N
  refine codeAny_call_def (fd := fnOf name qual params body scope dV kV doc pm an cdv ct) (body := body) (binds := binds) hroom ((X₀.keeps F.keep) _ _ ho) rfl (T.nolimit.keeps F.keep) (codeRec_of (X₀.keeps F.keep) hcd) rfl hbind hcell hloc (fun h₁ hns hk₁ => ?_) hco hgen hk
  exact wpAny_mono (h _ s.heap.objs.size h₁ bk ⟨hns, fun b o e => hk₁ b o (of_hideAll _ e), Nat.le_of_eq (hideAll_size _ _)⟩
    (fun p hp => ⟨hk₁ _ _ (N p hp).1, Nat.ne_of_lt (Heap.lt_size (N p hp).1), hideAll_none _ (List.mem_map_of_mem hp)⟩) (X₀.keeps st) (T.keeps st) (fun p hp => Heap.lt_size (N p hp).1)) (fun fl s' hl => hl) fun _ _ y => y.elim
end
theorem ar_under {dp un : Nat} {fr : Option (List Env)} {gd : Option (List Code)} {C : Addr} {as : List Value} : ∃ dp' un' fr' gd', (Ar dp un fr gd).under (.builtin "type.__call__" ⟨.ref C :: as, []⟩) = Ar dp' un' fr' gd' ∧ dp' ≤ dp + 1 ∧ un' ≤ un + 100 :=
  ⟨dp + 1, un + 1, _, _, rfl, Nat.le_refl _, by omega⟩

theorem cnt_take {l : List Nat} {i c : Nat} (h : l[i]? = some c) (x : Nat) : (l.take (i + 1)).count x = (l.take i).count x + (if c = x then 1 else 0) := by
  rw [List.take_add_one, h, Option.toList_some, List.count_append, List.count_singleton]
  simp only [beq_iff_eq]
theorem map6 {m : PySem.Str → Option Value} {a b c d e : PySem.Str} {ua ub uc ud : Value} (ha : m a = some ua) (hb : m b = some ub) (hc : m c = some uc) (hd : m d = some ud) :
    m = fun z => if z = a then some ua else if z = b then some ub else if z = c then some uc else if z = d then some ud else if z = e then m z else m z := by
  funext z
  split
  · rename_i h; rw [h]; exact ha
  · split
    · rename_i h; rw [h]; exact hb
    · split
      · rename_i h; rw [h]; exact hc
      · split
        · rename_i h; rw [h]; exact hd
        · split <;> rfl
theorem map6' {m m0 : PySem.Str → Option Value} {a b c d e : PySem.Str} {ua ub uc ud : Value} (ha : m a = some ua) (hb : m b = some ub) (hc : m c = some uc) (hd : m d = some ud) (hm : ∀ z, z ≠ a → z ≠ b → z ≠ c → z ≠ d → z ≠ e → m z = m0 z) :
    m = fun z => if z = a then some ua else if z = b then some ub else if z = c then some uc else if z = d then some ud else if z = e then m z else m0 z := by
  funext z
  by_cases h1 : z = a
  · rw [if_pos h1, h1]; exact ha
  · rw [if_neg h1]
    by_cases h2 : z = b
    · rw [if_pos h2, h2]; exact hb
    · rw [if_neg h2]
      by_cases h3 : z = c
      · rw [if_pos h3, h3]; exact hc
      · rw [if_neg h3]
        by_cases h4 : z = d
        · rw [if_pos h4, h4]; exact hd
        · rw [if_neg h4]
          by_cases h5 : z = e
          · rw [if_pos h5]
          · rw [if_neg h5]; exact hm z h1 h2 h3 h4 h5

abbrev wsEs (w : World) (k1 k2 k3 k4 k5 : Tok) (v1 v2 v3 v4 v5 : Value) : List DictEntry :=
  [⟨PyData.keyHash w.params (PySem.Str.ofString "raw"), .str (PySem.Str.ofString "raw") k1, v1⟩, ⟨PyData.keyHash w.params (PySem.Str.ofString "n"), .str (PySem.Str.ofString "n") k2, v2⟩, ⟨PyData.keyHash w.params (PySem.Str.ofString "nt"), .str (PySem.Str.ofString "nt") k3, v3⟩,
   ⟨PyData.keyHash w.params (PySem.Str.ofString "norm"), .str (PySem.Str.ofString "norm") k4, v4⟩, ⟨PyData.keyHash w.params (PySem.Str.ofString "is_simple"), .str (PySem.Str.ofString "is_simple") k5, v5⟩]
abbrev WsJ (ws : PySem.Str) (m0 : PySem.Str → Option Value) (base : List (Addr × Obj)) (i : Nat) (m₁ : PySem.Str → Option Value) (news₁ : List (Addr × Obj)) : Prop :=
  ∃ (t1 t2 t3 : Tok) (b : Nat) (Dc : Addr) (cv : List Value) (cs : List Int) (kc : Nat) (u : PySem.Str → Option Value), m₁ = (fun z => if z = PySem.Str.ofString "nt" then some (.int ((ws.cps.toList.take i).count 9) t1) else if z = PySem.Str.ofString "n" then some (.int i t2) else if z = PySem.Str.ofString "b" then some (.int b t3) else if z = PySem.Str.ofString "count" then some (.ref Dc) else if z = PySem.Str.ofString "ch" then u z else m0 z) ∧ IntsAre cv cs ∧ b ≤ i ∧ cs.length ≤ i + 1 ∧ (∀ p ∈ base, p.1 < Dc) ∧ news₁ = (Dc, LO cv kc) :: base
theorem ws_call {w : World} {p : Program} {loose : List PySem.Str} {mean : ExcName → Option Value} {mg mb : PySem.Str → Option Value} {news : List (Addr × Obj)} (ws : PySem.Str) (tw : Tok) (hws : ∀ c ∈ ws.cps.toList, c = 32 ∨ c = 9) (hlen : ws.cps.size ≤ 2000)
  (dp un : Nat) (fr : Option (List Env)) (gd : Option (List Code)) (h₀ : Heap) (L : Addr) (m : PySem.Str → Option Value) (s : Shared) (Q E : Value → Shared → Prop)
  (F : Fr h₀ L s.heap m) (X : (KF w.params).In h₀) (N : News h₀ L s.heap news) (T : Top p loose mean mg mb h₀) (hdp : dp + 200 < recursionLimit) (hun : un + 2000 < cLine)
  (hret : ∀ (x dx : Addr) (k1 k2 k3 k4 k5 : Tok) (v1 v4 v5 : Value) (tn tt : Tok) h' tk', Fr h₀ L h' m → News h₀ L h' ((x, instObj 146 dx) :: (dx, dictOf (wsEs w k1 k2 k3 k4 k5 v1 (.int ws.cps.size tn) (.int (ws.cps.toList.count 9 : Nat) tt) v4 v5) 5) :: news) → (∀ p ∈ news, p.1 < dx) → dx < x → Q (.ref x) { s with heap := h', toks := tk' }) :
    wpAny (model PySem.Challenge.rw_sn0069_01.row.prog w) (Ar dp un fr gd) (call (.ref 146) [.str ws tw]) Q E s := by
  revert X; k_fill; intro X
  k_dflt (refine' call_cls F X N ?k4 ?k5 ?k6 ?_; (case k4 => k_is); (case k5 => k_is); (case k6 => k_is))
  intro x dx h1 F1 N1 l1 l2
  (try k_lt2 l2)
  refine ex4 (ar_under (dp := dp) (un := un) (fr := fr) (gd := gd) (C := 146) (as := [.str ws tw])) fun dp' un' fr' gd' hq1 => an3 hq1 fun hA hdp' hun' => ?_
  clear hq1
  rw [hA]; clear hA
  k_dflt (refine' enterK (binds := [(PySem.Str.ofString "self", .ref x), (PySem.Str.ofString "ws", .str ws tw)]) ?F ?X ?N ?T ?k6 ?k7 ?k8 ?k9 ?kB ?_ ?c2 ?c3 ?c4 ?c5; (case F => exact F1); (case X => exact X); (case N => exact N1); (case T => exact T); (case k6 => k_is); (case k7 => k_is); (case k8 => ktr_room); (case k9 => exact BindsTo.of_eq rfl); (case c5 => decide); (case kB => exact locs rfl); (case c2 => exact rfl); (case c3 => exact rfl); (case c4 => exact rfl))
  intro g' L' h' BK' F' N' X' T' l3
  clear F X N T F1 N1
  (try dsimp only)
  (with_reducible show wpAny _ _ _ _ _ _)
  k_fold
  ktr_unf
  rename_i DC _ lC _ _ _ _ F9 N9
  obtain ⟨m0, hm0, F9⟩ := namedMap F9
  obtain ⟨base, hbase, N9⟩ := headOf N9
  have hbs : ∀ p ∈ base, p.1 < DC := by rw [hbase]; exact ltOf lC
  k_dflt (refine forStr (J := WsJ ws m0 base)
              rfl F9 N9 ?_ ?_ ?_)
  · subst hm0
    exact ⟨_, _, _, 0, _, [], [], _, _, map6 rfl rfl rfl rfl, .nil, Nat.le_refl _, by simp, hbs, rfl⟩
  · intro i c u m₁ news₁ h9 tk9 own I hi hq2 hoI hIo hown F8 N8
    refine ex8 hq2 fun t1 t2 t3 b Dc cv cs kc hq5 => ?_; refine ex1 hq5 fun uu hq6 => an6 hq6 fun eq_3 hiv hbi hcv hbD eq_4 => ?_
    clear hq2 hq5 hq6
    subst eq_3
    subst eq_4
    subst hm0
    have hil : i < ws.cps.size := (Array.getElem?_eq_some_iff.mp hi).1
    have hcl : ws.cps.toList[i]? = some c := by simpa using hi
    have hc := hws c (List.mem_of_getElem? hcl)
    have hcnt := cnt_take hcl 9
    have hlc := hiv.length
    have hoff : ∀ p ∈ base ++ own, p.1 ≠ Dc := fun p hp => by
      rcases List.mem_append.mp hp with hp | hp
      · exact Nat.ne_of_lt (hbD p hp)
      · rw [hown p hp]; exact Ne.symm (hoI _ (.head _))
    have hm : (Dc, LO cv kc) ∈ (Dc, LO cv kc) :: base ++ own := .head _
    rcases hc with rfl | rfl
    · rw [if_neg (by decide), Nat.add_zero] at hcnt
      k_steps
      rename_i F7 N7
      refine TEnd.intro ((Dc, LO cv kc) :: base) F7 N7 (fun p hp => ?_) (fun p hp => ?_) (fun p hp => ?_) ⟨_, _, _, b + 1, Dc, cv, cs, kc, _, map6' (by rw [hcnt]; rfl) (by rfl) rfl rfl (fun z h1 h2 h3 h4 h5 => by simp only [if_neg h1, if_neg h2, if_neg h3, if_neg h4, if_neg h5]), hiv, by omega, by omega, hbD, rfl⟩
      · exact List.mem_append_left own hp
      · exact List.mem_append_right _ hp
      · intro hI; exact hoI p hp (List.mem_singleton.mp hI)
    · rw [if_pos rfl] at hcnt
      have hcntI : (((ws.cps.toList.take (i + 1)).count 9 : Nat) : Int) = ((ws.cps.toList.take i).count 9 : Nat) + 1 := by rw [hcnt]; push_cast; rfl
      k_steps
      · rename_i tk0 l' _ lL D1 _ k1 l31 D2 _ k2 l32 _ F7 N7
        have hi2 := hiv.append (intsRep 0 tk0 ((b : Int) - cv.length + 1).toNat)
        have hlen2 : (cv ++ List.replicate ((b : Int) - cv.length + 1).toNat (Value.int 0 tk0)).length = b + 1 := by
          rw [List.length_append, List.length_replicate]; omega
        have hbn : ((b : Nat) : Int) < ((cv ++ List.replicate ((b : Int) - cv.length + 1).toNat (Value.int 0 tk0)).length : Int) := by rw [hlen2]; omega
        k_steps
        (with_reducible rename Fr _ _ _ _ => F6); (with_reducible rename News _ _ _ _ => N6)
        k_dflt (refine setHd F6 N6 (fun p hp => ?_) (by omega) (by rw [hlen2]; omega) (by omega) ?_)
        · rcases List.mem_cons.mp hp with rfl | hp
          · exact Nat.ne_of_lt l32.1
          · rcases List.mem_cons.mp hp with rfl | hp
            · exact Nat.ne_of_lt l32.2.1
            · exact offOf l32.2.2 p hp
        intro h4 k4 F4 N4
        k_steps
        (with_reducible rename Fr _ _ _ _ => F3); (with_reducible rename News _ _ _ _ => N3)
        obtain ⟨cv2, hcv2, N3⟩ := headLO N3
        refine TEnd.intro ((D2, LO cv2 k4) :: base) F3 N3 (fun p hp => ?_) (fun p hp => ?_) (fun p hp => ?_) ⟨_, _, _, 0, D2, cv2, (cs ++ List.replicate ((b : Int) - cv.length + 1).toNat 0).set (b : Int).toNat ((cs ++ List.replicate ((b : Int) - cv.length + 1).toNat 0).getD (b : Int).toNat 0 + 1), k4, _, map6' (by rw [hcntI]; rfl) (by rfl) rfl rfl (fun z h1 h2 h3 h4 h5 => by simp only [if_neg h1, if_neg h2, if_neg h3, if_neg h4, if_neg h5]), hcv2 ▸ intsSetAt hi2 _ _ _, by omega, by rw [List.length_set, ← hi2.length, hlen2]; omega, fun p hp => ltOf l32.2.2 _ (List.mem_append_left _ (.tail _ hp)), rfl⟩
        · rcases List.mem_cons.mp hp with rfl | hp
          · exact .head _
          · exact .tail _ (.tail _ (.tail _ (List.mem_append_left own (List.Mem.tail _ hp))))
        · exact .tail _ (.tail _ (.tail _ (List.mem_append_right _ hp)))
        · intro hI
          have hI := List.mem_singleton.mp hI
          rcases List.mem_cons.mp hp with rfl | hp
          · obtain ⟨oI, ho⟩ := hIo
            have h5 : @LT.lt Nat _ I D2 := ltOf l32.2.2 _ (List.mem_append_right _ ho)
            rw [show D2 = I from hI] at h5
            exact absurd h5 (Nat.lt_irrefl _)
          · exact hoI p (.tail _ hp) hI
      · rename_i F5 N5
        obtain ⟨cv2, hcv2, N5⟩ := headLO (r := base ++ own) N5
        refine TEnd.intro ((Dc, LO cv2 kc) :: base) F5 N5 (fun p hp => ?_) (fun p hp => ?_) (fun p hp => ?_) ⟨_, _, _, 0, Dc, cv2, cs.set (b : Int).toNat (cs.getD (b : Int).toNat 0 + 1), kc, _, map6' (by rw [hcntI]; rfl) (by rfl) rfl rfl (fun z h1 h2 h3 h4 h5 => by simp only [if_neg h1, if_neg h2, if_neg h3, if_neg h4, if_neg h5]), hcv2 ▸ intsSetAt hiv _ _ _, by omega, by rw [List.length_set]; omega, hbD, rfl⟩
        · exact (List.mem_cons.mp hp).elim (fun e => e ▸ .head _) fun hp => .tail _ (List.mem_append_left own hp)
        · exact .tail _ (List.mem_append_right _ hp)
        · intro hI
          rcases List.mem_cons.mp hp with rfl | hp
          · exact hoI _ (.head _) (List.mem_singleton.mp hI)
          · exact hoI p (.tail _ hp) (List.mem_singleton.mp hI)
  · intro m₁ news₁ h9 tk9 hq7 F8 N8
    refine ex8 hq7 fun t1 t2 t3 b Dc cv cs kc hq10 => ?_; refine ex1 hq10 fun uu hq11 => an6 hq11 fun eq_8 hiv hbi hcl hbD eq_9 => ?_
    clear hq7 hq10 hq11
    subst eq_8
    subst eq_9
    subst hm0 hbase
    k_lt hbD
    have hlc := hiv.length
    k_steps
    rename_i F7 N7
    have hr := BK'.use F7 (newsSub N7 (news' := (x, _) :: (dx, _) :: news) fun p hp => .tail _ (.tail _ (.tail _ (.tail _ hp))))
    have hc : (ws.cps.toList.take ws.cps.size).count 9 = ws.cps.toList.count 9 := by rw [← Array.length_toList, List.take_length]
    rw [hc] at hr
    exact ⟨rfl, hret _ _ _ _ _ _ _ _ _ _ _ _ _ _ hr.1 hr.2 l1 l2⟩
end
local macro_rules | `(tactic| walk_at "storeName") => `(tactic| (k_here; (with_reducible show wpAny _ _ (storeName (compEnvC _ _ _ _) _ _) _ _ _); k_dflt (refine' storeC ?F ?N ?_ ?a ?b; (case F => k_asm); (case N => k_asm); (case a => rfl); (case b => rfl); k_whole); intro h3 F3 N3))
local macro_rules | `(tactic| walk_at "eval Name") => `(tactic| (k_here; (with_reducible show wpAny _ _ (eval (Expr.Name _ _) (compEnvC _ _ _ _)) _ _ _); k_dflt (refine' ldC ?F ?v ?_ ?a ?b; (case F => k_asm); (case a => rfl); (case b => rfl); (case v => rfl); k_whole)))
section
-- after: 12_txt
open PySem.Builtin PySem.Builtin.Str PySem.StrLaws in
theorem at_dots {wd : List Nat} (hwd : ∀ c ∈ wd, c ≠ 46) (i : Nat) : At (S (wd ++ [46, 46, 46])) (S [46, 46, 46]) (S (wd ++ [46, 46, 46])).length i ↔ i = wd.length := by
  unfold At subAt
  rw [sLen, sLen]
  simp only [List.length_append, List.length_cons, List.length_nil, beq_iff_eq, List.extract_toArray, List.extract_eq_take_drop, Nat.add_sub_cancel_left]
  constructor
  · rintro ⟨h1, h2⟩
    rcases Nat.lt_or_ge i wd.length with h | h
    · exfalso
      have h3 : ((wd ++ [46, 46, 46]).drop i).take 3 = [46, 46, 46] := by simpa using congrArg Array.toList h2
      rw [List.drop_eq_getElem_cons (by simp; omega), List.take_succ_cons] at h3
      have h4 := (List.cons.inj h3).1
      rw [List.getElem_append_left h] at h4
      exact hwd _ (List.getElem_mem h) h4
    · omega
  · rintro rfl
    refine ⟨Nat.le_refl _, ?_⟩
    simp
open PySem.Builtin PySem.Builtin.Str PySem.StrLaws in
theorem occ_dots {wd : List Nat} (hwd : ∀ c ∈ wd, c ≠ 46) {lim : Nat} (hl : 1 ≤ lim) : occurrences (S (wd ++ [46, 46, 46])) (S [46, 46, 46]) 0 (S (wd ++ [46, 46, 46])).length lim = [wd.length] := by
  rcases occ_head (S (wd ++ [46, 46, 46])) (S [46, 46, 46]) lim hl with ⟨_, h⟩ | ⟨i, r, h, ha, _⟩
  · exact absurd ((at_dots hwd _).mpr rfl) (h wd.length)
  · have hi := (at_dots hwd i).mp ha
    subst hi
    obtain ⟨f, hc⟩ := occ_chain (S (wd ++ [46, 46, 46])) (S [46, 46, 46]) lim
    rw [h] at hc
    cases r with
    | nil => exact h
    | cons j r =>
      exfalso
      have h2 := hc.2.2
      have hj := (at_dots hwd j).mp h2.2.1
      have h3 := h2.1
      rw [sLen] at h3
      simp at h3
      omega
theorem dotsS : PySem.Str.ofString "..." = S [46, 46, 46] := by decide +kernel
theorem strKind_pos (x : PySem.Str) : 1 ≤ PySem.Builtin.Str.strKind x := by
  unfold PySem.Builtin.Str.strKind
  split
  · exact Nat.le_refl _
  · split <;> decide
open PySem.Builtin PySem.Builtin.Str PySem.StrLaws in
theorem split_dots {wd : List Nat} (hwd : ∀ c ∈ wd, c ≠ 46) : Txt.split (S (wd ++ [46, 46, 46])) (PySem.Str.ofString "...") = [S wd, S []] := by
  rw [dotsS]
  unfold Txt.split
  have h1 : (decide ((S (wd ++ [46, 46, 46])).length < (S [46, 46, 46]).length) || decide (strKind (S (wd ++ [46, 46, 46])) < strKind (S [46, 46, 46]))) = false := by
    rw [Bool.or_eq_false_iff, decide_eq_false_iff_not, decide_eq_false_iff_not]
    constructor
    · rw [sLen, sLen]; simp
    · have h2 : strKind (S [46, 46, 46]) = 1 := by decide +kernel
      have := strKind_pos (S (wd ++ [46, 46, 46]))
      omega
  rw [if_neg (by rw [h1]; decide), occ_dots hwd (by omega), if_neg (by simp), partsBetween_eq]
  have e : (S [46, 46, 46]).length = 3 := rfl
  rw [e]
  simp only [partsFrom]
  rw [sLen]
  simp only [strSub]
  have p1 : (wd ++ [46, 46, 46]).toArray.extract 0 wd.length = wd.toArray := by
    rw [List.extract_toArray]; simp [List.extract_eq_take_drop]
  have p2 : (wd ++ [46, 46, 46]).toArray.extract (wd.length + 3) (wd ++ [46, 46, 46]).length = #[] := by
    rw [List.extract_toArray]; simp [List.extract_eq_take_drop]
  rw [p1, p2]
theorem starts_list {gt wd : List Nat} : Txt.startswith (S gt) (S wd) = decide (wd = gt.take wd.length ∧ wd.length ≤ gt.length) := by
  unfold Txt.startswith PySem.Builtin.Str.subAt
  rw [sLen, sLen]
  rw [List.extract_toArray, List.extract_eq_take_drop]
  simp only [Nat.zero_add, List.drop_zero, Nat.sub_zero]
  by_cases h1 : wd.length ≤ gt.length
  · by_cases h2 : wd = gt.take wd.length
    · simp [h1, ← h2]
    · have h3 : ¬ gt.take wd.length = wd := fun e => h2 e.symm
      simp [h1, h2, h3]
  · simp [h1]
section
open PySem.Builtin PySem.Builtin.Str PySem.StrLaws
theorem gives_find4 (x y : PySem.Str) (i j : Int) (t u v z : Tok) : Gives («str.find» ⟨[.str x t, .str y u, .int i v, .int j z], []⟩) (.int (match occurrences x y (fromIndex x.length i) (min (fromIndex x.length j) x.length) 1 with | k :: _ => (k : Int) | [] => -1)) := by
  show Gives (match occurrences x y (fromIndex x.length i) (min (fromIndex x.length j) x.length) 1 with | k :: _ => retInt k | [] => (do rule "str.find.not-found"; retInt (-1))) _
  cases occurrences x y (fromIndex x.length i) (min (fromIndex x.length j) x.length) 1 with
  | nil => exact .rule (.of_eq rfl)
  | cons k _ => exact .of_eq rfl
theorem find4_nil {prog : Program} {w : World} {A : Around} {E : Value → Shared → Prop} {s : Shared} {x : PySem.Str} {t u v z : Tok} {a : Nat} {j : Int} {Q : Value → Shared → Prop} (ha : a ≤ x.length) (hj : j = (x.length : Int)) (hq : Q (.int (a : Int) s.toks) { s with toks := s.toks + 1 }) :
    wpAny (model prog w) A (call (.builtin "str.find") [.str x t, .str (S []) u, .int (a : Int) v, .int j z]) Q E s := by
  have h1 : fromIndex x.length (a : Int) = a := by unfold fromIndex; rw [if_neg (by omega)]; omega
  have h2 : fromIndex x.length j = x.length := by rw [hj]; unfold fromIndex; rw [if_neg (by omega)]; omega
  have hat : ∀ i, i ≤ x.length → At x (S []) x.length i := fun i hi => by
    refine ⟨by rw [sLen]; exact hi, ?_⟩
    unfold subAt
    rw [sLen]
    simp
    exact Nat.min_le_left _ _
  have ho : (match occurrences x (S []) (fromIndex x.length (a : Int)) (min (fromIndex x.length j) x.length) 1 with | k :: _ => (k : Int) | [] => -1) = (a : Int) := by
    rw [h1, h2, Nat.min_self]
    rcases occ_head_from x (S []) a 1 (Nat.le_refl _) with ⟨_, h⟩ | ⟨i, r, h, h3, _, h4⟩
    · exact absurd (hat a ha) (h a (Nat.le_refl _))
    · rw [h]
      rcases Nat.lt_or_ge a i with h5 | h5
      · exact absurd (hat a ha) (h4 a (Nat.le_refl _) h5)
      · have : i = a := by omega
        rw [this]
  have g := gives_find4 x (S []) (a : Int) j t u v z
  rw [ho] at g
  exact call_gives F.slot_str_find (typeIs_str _ _ _) F.entry_str_find (F.args_str_find_4 _ _ _ _) g hq
end
end
section
-- after: 12_for 08_rules2 12_txt
/-- the lead of a word up to its i-th letter -/
def leadL (ls wd : List Nat) : Nat → List Nat
  | 0 => []
  | i + 1 => leadL ls wd i ++ (List.replicate (((ls.drop (ls.idxOf (wd.getD i 0) + 1)).map fun c => (wd.take i).count c).sum) 32 ++ [9])
theorem sumCast (f : Nat → Nat) : ∀ l : List Nat, (l.map fun c => ((f c : Nat) : Int)).sum = ((l.map f).sum : Nat)
  | [] => rfl
  | a :: r => by simp only [List.map_cons, List.sum_cons, sumCast f r]; push_cast; rfl
theorem sumLe {f : Nat → Nat} {B : Nat} (h : ∀ c, f c ≤ B) : ∀ l : List Nat, (l.map f).sum ≤ l.length * B
  | [] => Nat.zero_le _
  | a :: r => by
    have h1 := h a; have h2 := sumLe h r
    simp only [List.map_cons, List.sum_cons, List.length_cons, Nat.succ_mul]
    omega
theorem mulBlank (q : Nat) : Txt.mul (PySem.Str.ofString " ") (q : Int) ++ PySem.Str.ofString "\t" = S (List.replicate q 32 ++ [9]) := by
  have e1 : PySem.Str.ofString " " = S [32] := by decide +kernel
  have e2 : PySem.Str.ofString "\t" = S [9] := by decide +kernel
  rw [e1, e2]
  have e3 : Txt.mul (S [32]) (q : Int) = S (List.replicate q 32) := by
    have gen : ∀ (n : Nat) (acc : List Nat), List.foldl (fun (x y : Array Nat) => x ++ y) acc.toArray (List.replicate n ([32] : List Nat).toArray) = (acc ++ List.replicate n 32).toArray := by
      intro n
      induction n with
      | zero => intro acc; simp
      | succ n ih =>
        intro acc
        rw [List.replicate_succ, List.foldl_cons, List.replicate_succ]
        have : acc.toArray ++ ([32] : List Nat).toArray = (acc ++ [32]).toArray := by simp
        rw [this, ih, List.append_assoc, List.singleton_append]
    unfold Txt.mul
    split
    · have : q = 0 := by omega
      subst this; rfl
    · split
      · rename_i h1 h2
        have h3 : (S [32]).length = 1 := rfl
        rw [h3] at h2
        have : q = 1 := by
          simp at h2
          omega
        subst this; rfl
      · rw [Int.toNat_natCast]
        have := gen q []
        rw [List.nil_append] at this
        exact congrArg PySem.Str.mk this
  rw [e3, sApp]
theorem leadL_len {ls wd : List Nat} (hls : ls.length ≤ 10) (hwl : wd.length ≤ 10) : ∀ i, (leadL ls wd i).length ≤ 101 * i
  | 0 => Nat.le_refl _
  | i + 1 => by
    have h0 := leadL_len hls hwl i
    have h1 := sumLe (f := fun c => (wd.take i).count c) (B := 10) (fun c => Nat.le_trans List.count_le_length (by rw [List.length_take]; omega)) (ls.drop (ls.idxOf (wd.getD i 0) + 1))
    have h2 : (ls.drop (ls.idxOf (wd.getD i 0) + 1)).length ≤ 10 := by rw [List.length_drop]; omega
    simp only [leadL, List.length_append, List.length_replicate, List.length_cons, List.length_nil]
    omega
theorem lenS (l : List Nat) : PySem.Str.length ⟨l.toArray⟩ = l.length := by simp [PySem.Str.length]
abbrev LdJ (ls wd : List Nat) (L' : Addr) (oW : Obj) (news : List (Addr × Obj)) (m0 : PySem.Str → Option Value) (i : Nat) (m₁ : PySem.Str → Option Value) (news₁ : List (Addr × Obj)) : Prop :=
  ∃ (tv : Tok) (u : PySem.Str → Option Value) (ok : Obj) (cv : Option Value), m₁ = (fun z => if z = PySem.Str.ofString "lead" then some (.str ⟨(leadL ls wd i).toArray⟩ tv) else if z = PySem.Str.ofString "later" then u z else m0 z) ∧ ok.data = .cell cv ∧ news₁ = (L' + 1 + 1, ok) :: (L' + 1, oW) :: news
abbrev LdJ1 (ls wd : List Nat) (c i : Nat) (led : List (Addr × Obj)) (j : Nat) (ys : List Value) (nx : List (Addr × Obj)) : Prop :=
  nx = led ∧ IntsAre ys ((((ls.drop (ls.idxOf c + 1)).take j).map fun c => (((wd.take i).count c : Nat) : Int)))
theorem lead_call {w : World} {p : Program} {loose : List PySem.Str} {mean : ExcName → Option Value} {mg mb : PySem.Str → Option Value} {news : List (Addr × Obj)} (ls wd : List Nat) (tl tw : Tok) (hwd : ∀ c ∈ wd, c ∈ ls) (hls : ls.length ≤ 10) (hwl : wd.length ≤ 10)
  (dp un : Nat) (fr : Option (List Env)) (gd : Option (List Code)) (h₀ : Heap) (L : Addr) (m : PySem.Str → Option Value) (s : Shared) (Q E : Value → Shared → Prop)
  (F : Fr h₀ L s.heap m) (X : (KF w.params).In h₀) (N : News h₀ L s.heap news) (T : Top p loose mean mg mb h₀) (hdp : dp + 200 < recursionLimit) (hun : un + 2000 < cLine)
  (hret : ∀ t h' tk', Fr h₀ L h' m → News h₀ L h' news → Q (.str ⟨(leadL ls wd wd.length).toArray⟩ t) { s with heap := h', toks := tk' }) :
    wpAny (model PySem.Challenge.rw_sn0069_01.row.prog w) (Ar dp un fr gd) (call (.ref 167) [.str ⟨ls.toArray⟩ tl, .str ⟨wd.toArray⟩ tw]) Q E s := by
  revert X; k_fill; intro X
  k_dflt (refine' enterC (binds := [(PySem.Str.ofString "letters", .str ⟨ls.toArray⟩ tl), (PySem.Str.ofString "word", .str ⟨wd.toArray⟩ tw)]) ?F ?X ?N ?T ?k6 ?k7 ?k8 ?k9 ?kB ?kD ?_ ?c2 ?c3 ?c4; (case F => exact F); (case X => exact X); (case N => exact N); (case T => exact T); (case k6 => k_is); (case k7 => k_is); (case k8 => ktr_room); (case k9 => exact BindsTo.of_eq rfl); (case kB => exact rfl); (case kD => decide +kernel); (case c2 => exact rfl); (case c3 => exact rfl); (case c4 => exact rfl))
  intro g' L' h' tk' cells' BK' F' N' Y' X' T' l1
  k_cells Y'
  rename_i oK oW dK dW
  have eW : oW.data = .cell (some (.str ⟨wd.toArray⟩ tw)) := dW
  have eK : oK.data = .cell none := dK
  clear dW dK
  simp only [List.cons_append, List.nil_append] at N'
  clear F X N T
  have hlw := lenS wd
  have hll := lenS ls
  (try dsimp only)
  (with_reducible show wpAny _ _ _ _ _ _)
  k_fold
  ktr_unf
  (with_reducible rename Fr _ _ _ _ => F9)
  obtain ⟨m0, hm0, F9⟩ := namedMap F9
  (with_reducible rename News _ _ _ _ => N9)
  k_dflt (refine forX (h₀ := g') (n := wd.length) (P := fun i v => i < wd.length ∧ ∃ t, v = .int ((0 : Int) + (i : Int)) t) (J := LdJ ls wd L' oW news m0) ?_)
  subst hm0
  ktr_unf
  rename_i hr7 F7 N7 _
  k_dflt (refine srcRange rfl hr7 (rngSmall (by omega) (by omega) (by omega)) (n := wd.length) (rngSize (by rw [lenS]; omega)) F7 N7 ?_)
  intro h2 tk2 I hS
  refine CSrc.intro hS ⟨_, _, oK, _, map2 rfl, eK, rfl⟩ ?_ ?_
  · intro i v m₁ news₁ h9 tk9 own hi hq2 hq3 hoI hown hIo F8 N8
    refine an2 hq2 fun _ hq4 => ?_
    clear hq2
    refine ex1 hq4 fun t9 eq_5 => ?_
    clear hq4
    subst eq_5
    refine ex4 hq3 fun tv u ok cv hq8 => an3 hq8 fun eq_6 hok eq_7 => ?_
    clear hq3 hq8
    subst eq_6
    subst eq_7
    refine ex1 (hIo _ (List.mem_singleton.mpr rfl)) fun oI hoI2 => ?_
    have hob : ∀ p ∈ own, p.1 ≠ L' + 1 + 1 := fun p hp e => hoI _ (.head _) (e ▸ hown p hp)
    have hob2 : ∀ p ∈ own, p.1 ≠ L' + 1 := fun p hp e => hoI _ (.tail _ (.head _)) (e ▸ hown p hp)
    simp only [List.cons_append] at N8
    refine wpAny_assign_Name ?_
    k_dflt (refine' storeX_C F8 N8 ?c (UpdF.head ?off) hok ?_ ?a ?b; (case a => rfl); (case b => rfl); (case c => rfl))
    · intro p hp
      rcases List.mem_cons.mp hp with rfl | hp
      · exact Nat.ne_of_lt (Nat.lt_succ_self _)
      · rcases List.mem_append.mp hp with hp | hp
        · exact offA2 l1 p hp
        · exact hob p hp
    intro h7 ok2 F7 N7 eK2
    clear N8 F8
    simp only [Int.zero_add] at eK2
    obtain ⟨c, hc⟩ : ∃ c, c = wd.getD i 0 := ⟨_, rfl⟩
    have hlead0 : leadL ls wd (i + 1) = leadL ls wd i ++ (List.replicate (((ls.drop (ls.idxOf c + 1)).map fun c => (wd.take i).count c).sum) 32 ++ [9]) := by rw [leadL, ← hc]
    have hcw : c ∈ wd := by rw [hc, List.getD_eq_getElem?_getD, List.getElem?_eq_getElem hi]; exact List.getElem_mem hi
    have hcl := hwd c hcw
    have hix : ls.idxOf c < ls.length := List.idxOf_lt_length_iff.mpr hcl
    ktr_unf
    · rw [sItem hi, ← hc, sFind hcl] at *
      omega
    · rw [sItem hi, ← hc, sFind hcl] at *
      have hfr : Txt.slice (S ls) (some (((ls.idxOf c : Nat) : Int) + 1)) none = S (ls.drop (ls.idxOf c + 1)) := sFrom (i := ls.idxOf c + 1) (by omega)
      ktr_unf
      (with_reducible rename Fr _ _ _ _ => F6); (with_reducible rename News _ _ _ _ => N6)
      rw [hfr] at F6
      k_dflt (refine' evalComp (h₀ := g') (L := L') (n := (ls.drop (ls.idxOf c + 1)).length) (P := SignAt (S (ls.drop (ls.idxOf c + 1)))) (cl := ?clv) (J := LdJ1 ls wd c i ((L' + 1 + 1, ok2) :: (L' + 1, oW) :: (news ++ own))) ?cl ?ce ?ki ?na ?ht ?sz ?src)
      case cl => exact rfl
      case ce => decide
      case ki => rfl
      case na => decide
      case ht => intro _ _; rfl
      case sz => rw [sizeLine_eq, List.length_drop]; omega
      case src =>
        ktr_unf
        k_dflt (refine srcStr (n := (ls.drop (ls.idxOf c + 1)).length) (by simp [S]) rfl F6 N6 ?_)
        intro h3 tk3 I3 hS3
        refine CSrc.intro hS3 ⟨rfl, .nil⟩ ?_ ?_
        · intro g C D hlD hsg j v ys nx m1 h5 tk5 own5 k5 hj hjl hq11 hq12 hoff hD5 hfp5 hwr5 F5 N5
          refine ex2 hq11 fun d ud hq15 => an2 hq15 fun hd eq_14 => ?_
          clear hq11 hq15
          subst eq_14
          refine an2 hq12 fun eq_16 hiy => ?_
          clear hq12
          subst eq_16
          ktr_unf
          (with_reducible rename Fr _ _ _ _ => F8c); (with_reducible rename News _ _ _ _ => N8c)
          have hd' : (ls.drop (ls.idxOf c + 1))[j]? = some d := by simpa [S] using hd
          rw [sTo (Nat.le_of_lt hi), sCount]
          refine CEnd.intro ((L' + 1 + 1, ok2) :: (L' + 1, oW) :: (news ++ own)) F8c N8c (.head _) (fun p hp => ?_) (fun p hp => ?_) hoff ⟨rfl, ?_⟩
          · exact .tail _ (List.mem_append_left own5 hp)
          · exact .tail _ (List.mem_append_right _ hp)
          · rw [List.take_add_one, hd', Option.toList_some, List.map_append]
            exact hiy.append (.cons _ _ .nil)
        · intro D h4 tk4 ys nx k4 hoD hlD F4 N4 hq17
          refine an2 hq17 fun eq_18 hiy => ?_
          clear hq17
          subst eq_18
          ktr_unf
          rw [List.take_length, sumCast (fun c => (wd.take i).count c)]
          have hq1 : ((ls.drop (ls.idxOf c + 1)).map fun c => (wd.take i).count c).sum ≤ 100 := by
            have h1 := sumLe (f := fun c => (wd.take i).count c) (B := 10) (fun c => Nat.le_trans List.count_le_length (by rw [List.length_take]; omega)) (ls.drop (ls.idxOf c + 1))
            have h2 : (ls.drop (ls.idxOf c + 1)).length ≤ 10 := by rw [List.length_drop]; omega
            omega
          obtain ⟨q, hq⟩ : ∃ q, q = ((ls.drop (ls.idxOf c + 1)).map fun c => (wd.take i).count c).sum := ⟨_, rfl⟩
          rw [← hq] at hq1
          have hlead : leadL ls wd (i + 1) = leadL ls wd i ++ (List.replicate q 32 ++ [9]) := by rw [hlead0, ← hq]
          simp only [← hq]
          ktr_unf
          rw [mulBlank]
          have hl1 : PySem.Str.length (S (leadL ls wd i)) ≤ 1010 := by rw [sLen]; have := leadL_len hls hwl i; omega
          have hl2 : PySem.Str.length (S (List.replicate q 32 ++ [9])) ≤ 101 := by rw [sLen, List.length_append, List.length_replicate]; simp; omega
          k_dflt (refine iadd_str (x := S (leadL ls wd i)) (y := S (List.replicate q 32 ++ [9])) (fun t5 k5 => ?_) (by rw [sizeLine_eq]; omega))
          rw [sApp]
          k_steps
          (with_reducible rename Fr _ _ _ _ => F3); (with_reducible rename News _ _ _ _ => N3)
          refine TEnd.intro ((L' + 1 + 1, ok2) :: (L' + 1, oW) :: news) F3 N3 ?_ ?_ (fun p hp => ?_) ⟨_, _, ok2, _, map2' (by rw [hlead]; rfl) (fun z h1 h2 => by simp only [if_neg h1, if_neg h2]), eK2, rfl⟩
          · exact (sub_skip (sub_keep (sub_keep (sub_inl sub_refl))))
          · exact (sub_skip (sub_skip (sub_skip (sub_inr sub_refl))))
          · exact (List.mem_cons.mp hp).elim (fun e => by rw [e]; exact hoI (_, ok) (.head _)) fun hp => hoI p (.tail _ hp)
  · intro m₁ news₁ h9 tk9 hq19 F8 N8
    refine ex4 hq19 fun tv u ok cv hq22 => an3 hq22 fun eq_20 hok eq_21 => ?_
    clear hq19 hq22
    subst eq_20
    subst eq_21
    k_steps
    have hr := BK'.use F8 (newsSub N8 fun p hp => .tail _ (.tail _ hp))
    show Q (.str ⟨(leadL ls wd wd.length).toArray⟩ tv) _
    exact hret _ _ _ hr.1 hr.2
end
section
-- after: 12_for
section
variable {prog : Program} {w : World} {A : Around} {E : Value → Shared → Prop} {s : Shared} {h₀ : Heap} {L D b : Addr} {m : PySem.Str → Option Value} {led : List (Addr × Obj)} {vs ws : List Value} {k k2 : Nat}
theorem extendHd {Q : Value → Shared → Prop} (F : Fr h₀ L s.heap m) (N : News h₀ L s.heap ((D, LO vs k) :: led)) (hoff : ∀ p ∈ led, p.1 ≠ D) (hb : (b, LO ws k2) ∈ led) (hz : vs.length ≤ 1000000) (hw : ws.length ≤ 1000000)
    (h : ∀ h' k', Fr h₀ L h' m → News h₀ L h' ((D, LO (vs ++ ws) k') :: led) → Q .none { s with heap := h' }) : wpAny (model prog w) A (call (.builtin "list.extend") [.ref D, .ref b]) Q E s := by
  have htl : ¬(!vs.toArray.isEmpty && Builtin.List.listTooLong (vs.toArray.size + ws.toArray.size)) = true := by
    simp only [Builtin.List.listTooLong, List.size_toArray, Bool.and_eq_true, decide_eq_true_eq, sizeLine_eq]
    omega
  have z := N _ (List.mem_cons_self ..)
  have zb := N _ (List.mem_cons_of_mem _ hb)
  by_cases he : ws = []
  · subst he
    rw [List.append_nil] at h
    refine call_meets PySem.F.slot_list_extend ⟨_, z.1, rfl⟩ PySem.F.entry_list_extend (PySem.F.args_list_extend_2 _ _) (PySem.AutoSeq1.list_extend_list_list_0 D vs.toArray k b #[] k2 htl (by simp only [List.size_toArray, sizeLine_eq]; omega) (by simp only [List.size_toArray, sizeLine_eq]; simp; omega)) ⟨z.1, zb.1, h _ k (F.change (Heap.SameBut.update ..) z.2.1 z.2.2) (kl_turn0 (pre := []) (fun x => x ++ #[]) N (fun _ hp => nomatch hp) hoff (by simp) (by simp))⟩
  · refine call_meets PySem.F.slot_list_extend ⟨_, z.1, rfl⟩ PySem.F.entry_list_extend (PySem.F.args_list_extend_2 _ _) (PySem.AutoSeq1.list_extend_list_list_0 D vs.toArray k b ws.toArray k2 htl (by simp only [List.size_toArray, sizeLine_eq]; omega) (by simp only [List.size_toArray, sizeLine_eq]; omega)) ⟨z.1, zb.1, h _ (k + 1) (F.change (Heap.SameBut.update ..) z.2.1 z.2.2) (kl_turn (pre := []) _ N (fun _ hp => nomatch hp) hoff (by simp) ?_)⟩
    simp [he]
end
section
variable {prog : Program} {w : World} {A : Around} {E : Value → Shared → Prop} {s : Shared} {h₀ : Heap} {L l : Addr} {news : List (Addr × Obj)} {vs : List Value} {k : Nat}
theorem getL {i : Int} {u : Tok} {v : Value} {Q : Value → Shared → Prop} (N : News h₀ L s.heap news) (hm : (l, LO vs k) ∈ news) (h0 : 0 ≤ i) (hhi : i < 2 ^ 63) (hx : vs[i.toNat]? = some v) (h : Q v s) : wpAny (model prog w) A (getItem (.ref l) (.int i u)) Q E s :=
  wpAny_getItem_list (isL N hm) h0 hhi (by simpa using hx) h
end
end
section
-- after: 13_rules4
section
variable {prog : Program} {w : World} {A : Around} {E : Value → Shared → Prop} {s : Shared} {h₀ : Heap} {L l : Addr} {m : PySem.Str → Option Value} {news : List (Addr × Obj)} {vs : List Value} {k : Nat}
theorem sumT {ns : List Int} {Q : Value → Shared → Prop} (hh : A.handled = none) (F : Fr h₀ L s.heap m) (N : News h₀ L s.heap news) (hm : (l, TO vs k) ∈ news) (hi : IntsAre vs ns)
    (h : ∀ h' tk t', Fr h₀ L h' m → News h₀ L h' news → Q (.int ns.sum t') { s with heap := h', toks := tk }) :
    wpAny (model prog w) A (call (.builtin "sum") [.ref l]) Q E s := by
  have hl := isT N hm
  obtain ⟨xs, hx⟩ := hi.allInts.items
  have hn : numsOf vs.toArray.toList = ns := by rw [show vs.toArray.toList = vs from rfl, hi.numsOf]
  rw [hx] at hl hn
  rw [nums_intItems] at hn
  refine ktm_sumG hh hl fun h' tk t' hk => ?_
  have := h h' tk t' (F.keeps hk) (N.grown hk)
  rw [preSum_eq, List.take_of_length_le (by simp), hn]
  exact this
theorem sumL {ns : List Int} {Q : Value → Shared → Prop} (hh : A.handled = none) (F : Fr h₀ L s.heap m) (N : News h₀ L s.heap news) (hm : (l, LO vs k) ∈ news) (hi : IntsAre vs ns)
    (h : ∀ h' tk t', Fr h₀ L h' m → News h₀ L h' news → Q (.int ns.sum t') { s with heap := h', toks := tk }) :
    wpAny (model prog w) A (call (.builtin "sum") [.ref l]) Q E s := by
  have hl := isL N hm
  obtain ⟨xs, hx⟩ := hi.allInts.items
  have hn : numsOf vs.toArray.toList = ns := by rw [show vs.toArray.toList = vs from rfl, hi.numsOf]
  rw [hx] at hl hn
  rw [nums_intItems] at hn
  refine sum_intListG hh hl fun h' tk t' hk => ?_
  have := h h' tk t' (F.keeps hk) (N.grown hk)
  rw [preSum_eq, List.take_of_length_le (by simp), hn]
  exact this
end
theorem SrcAt.off {prog : Program} {w : World} {A : Around} {h₀ : Heap} {L : Addr} {m : PySem.Str → Option Value} {news : List (Addr × Obj)} {n : Nat} {P : Nat → Value → Prop} {s s₂ : Shared} {I : Addr} {wr fp : List Addr} (h : SrcAt prog w A h₀ L m news n P s s₂ I wr fp) :
    ∀ p ∈ news, p.1 ∉ wr := by
  obtain ⟨St, _, _, _, h, _⟩ := h
  exact h
section
variable {prog : Program} {w : World} {A : Around} {E : Value → Shared → Prop} {s : Shared} {h₀ : Heap} {L l : Addr} {news : List (Addr × Obj)} {vs : List Value} {k : Nat}
theorem getT {i : Int} {u : Tok} {v : Value} {Q : Value → Shared → Prop} (N : News h₀ L s.heap news) (hm : (l, TO vs k) ∈ news) (h0 : 0 ≤ i) (hhi : i < 2 ^ 63) (hx : vs[i.toNat]? = some v) (h : Q v s) : wpAny (model prog w) A (getItem (.ref l) (.int i u)) Q E s :=
  PySem.P.getItem_tuple (k := i.toNat) (y := v) (items := vs.toArray) (n := k) (N _ hm).1 (by omega) hhi (by
    have hlt : i.toNat < vs.length := by
      rcases Nat.lt_or_ge i.toNat vs.length with q | q
      · exact q
      · rw [List.getElem?_eq_none q] at hx; cases hx
    simp only [seqIndex?, List.size_toArray]
    have e1 : ¬ i < 0 := by omega
    have e2 : (decide (0 ≤ i) && decide (i < (vs.length : Int))) = true := by simp only [Bool.and_eq_true, decide_eq_true_eq]; omega
    rw [if_neg e1, if_pos e2]) (by simpa using hx) h
end
theorem mapW {m : PySem.Str → Option Value} {x : PySem.Str} {v : Value} (h : m x = some v) : ∃ u : PySem.Str → Option Value, m = fun z => if z = x then some v else u z := by
  refine ⟨m, funext fun z => ?_⟩
  by_cases hx : z = x
  · rw [if_pos hx, hx]; exact h
  · rw [if_neg hx]
section
variable {prog : Program} {w : World} {A : Around} {E : Value → Shared → Prop} {s : Shared} {h₀ : Heap} {L l : Addr} {news : List (Addr × Obj)} {vs : List Value} {k : Nat}
theorem itemT {value slice : PySem.Expr} {i : Int} {u : Tok} {v : Value} {Q : Value → Shared → Prop} (N : News h₀ L s.heap news) (hm : (l, TO vs k) ∈ news) (h0 : 0 ≤ i) (hhi : i < 2 ^ 63) (hx : vs[i.toNat]? = some v) (h : Q v s)
    (hs : subscripted slice false (.ref l) (.int i u) = operate [.ref l, .int i u] (getItem (.ref l) (.int i u)) := by with_unfolding_all rfl) : wpAny (model prog w) A (subscriptTail value slice (.ref l) (.int i u)) Q E s :=
  tail_any (isT N hm).typeIs PySem.F.slot_tuple_getitem.lookup (getT N hm h0 hhi hx h) hs
end
end
section
-- after: 13_lead 12_ws 13_rules4
/-- a list of texts -/
inductive WAre : List Value → List (List Nat) → Prop
  | nil : WAre [] []
  | cons (w : List Nat) (t : Tok) {vs ws} : WAre vs ws → WAre (.str (S w) t :: vs) (w :: ws)
theorem WAre.length : ∀ {vs : List Value} {ws : List (List Nat)}, WAre vs ws → vs.length = ws.length
  | _, _, .nil => rfl
  | _, _, .cons w t h => by simp [h.length]
theorem WAre.get : ∀ {vs : List Value} {ws : List (List Nat)}, WAre vs ws → ∀ {i : Nat} {v : Value}, vs[i]? = some v → ∃ w t, v = .str (S w) t ∧ ws[i]? = some w
  | _, _, .nil, i, v, h => by simp at h
  | _, _, .cons w t h, 0, v, hv => ⟨w, t, by simpa using hv.symm, by simp⟩
  | _, _, .cons w t h, i + 1, v, hv => by simpa using h.get (i := i) (v := v) (by simpa using hv)
theorem WAre.append : ∀ {vs vs' : List Value} {ws ws' : List (List Nat)}, WAre vs ws → WAre vs' ws' → WAre (vs ++ vs') (ws ++ ws')
  | _, _, _, _, .nil, h => h
  | _, _, _, _, .cons w t h, h' => .cons w t (h.append h')
/-- the blanks of a word's lead -/
def blk (ls w : List Nat) : Nat := (leadL ls w w.length).length - (leadL ls w w.length).count 9
def tabStep (ls : List Nat) (tab : List Int) (w : List Nat) : List Int :=
  (tab ++ List.replicate (blk ls w + 1 - tab.length) 0).set (blk ls w) ((tab ++ List.replicate (blk ls w + 1 - tab.length) 0).getD (blk ls w) 0 + 1)
def tabP (ls : List Nat) (ws : List (List Nat)) : List Int := ws.foldl (tabStep ls) []
theorem map4 {m : PySem.Str → Option Value} {a b c d : PySem.Str} {ua : Value} (ha : m a = some ua) :
    m = fun z => if z = a then some ua else if z = b then m z else if z = c then m z else if z = d then m z else m z := by
  funext z
  split
  · rename_i h; rw [h]; exact ha
  · repeat' split
    all_goals rfl
theorem map4' {m m0 : PySem.Str → Option Value} {a b c d : PySem.Str} {ua : Value} (ha : m a = some ua) (hm : ∀ z, z ≠ a → z ≠ b → z ≠ c → z ≠ d → m z = m0 z) :
    m = fun z => if z = a then some ua else if z = b then m z else if z = c then m z else if z = d then m z else m0 z := by
  funext z
  by_cases h1 : z = a
  · rw [if_pos h1, h1]; exact ha
  · rw [if_neg h1]
    by_cases h2 : z = b
    · rw [if_pos h2]
    · rw [if_neg h2]
      by_cases h3 : z = c
      · rw [if_pos h3]
      · rw [if_neg h3]
        by_cases h4 : z = d
        · rw [if_pos h4]
        · rw [if_neg h4]; exact hm z h1 h2 h3 h4
theorem leadL_signs (ls wd : List Nat) : ∀ i, ∀ c ∈ leadL ls wd i, c = 32 ∨ c = 9
  | 0, c, h => nomatch h
  | i + 1, c, h => by
    simp only [leadL, List.mem_append, List.mem_singleton, List.mem_replicate] at h
    rcases h with h | h | h
    · exact leadL_signs ls wd i c h
    · exact .inl h.2
    · exact .inr h
abbrev TbJ (ls : List Nat) (ws : List (List Nat)) (m0 : PySem.Str → Option Value) (news : List (Addr × Obj)) (i : Nat) (m₁ : PySem.Str → Option Value) (news₁ : List (Addr × Obj)) : Prop :=
  ∃ (Dt : Addr) (xs : List Value) (kx : Nat) (u : PySem.Str → Option Value), m₁ = (fun z => if z = PySem.Str.ofString "table" then some (.ref Dt) else if z = PySem.Str.ofString "word" then u z else if z = PySem.Str.ofString "indent" then u z else if z = PySem.Str.ofString "blanks" then u z else m0 z) ∧ IntsAre xs ((ws.take i).foldl (tabStep ls) []) ∧ news₁ = (Dt, LO xs kx) :: news ∧ (∀ p ∈ news, p.1 < Dt) ∧ xs.length ≤ 1011
theorem table_call {w : World} {p : Program} {loose : List PySem.Str} {mean : ExcName → Option Value} {mg mb : PySem.Str → Option Value} {news : List (Addr × Obj)} {l : Addr} {vs : List Value} {k : Nat} (ls : List Nat) (ws : List (List Nat)) (tl : Tok)
  (hl : (l, LO vs k) ∈ news) (hvs : WAre vs ws) (hwd : ∀ w ∈ ws, ∀ c ∈ w, c ∈ ls) (hls : ls.length ≤ 10) (hwl : ∀ w ∈ ws, w.length ≤ 10) (hwn : ws.length ≤ 1000)
  (dp un : Nat) (fr : Option (List Env)) (gd : Option (List Code)) (h₀ : Heap) (L : Addr) (m : PySem.Str → Option Value) (s : Shared) (Q E : Value → Shared → Prop)
  (F : Fr h₀ L s.heap m) (X : (KF w.params).In h₀) (N : News h₀ L s.heap news) (T : Top p loose mean mg mb h₀) (hdp : dp + 300 < recursionLimit) (hun : un + 3000 < cLine)
  (hret : ∀ D xs k' h' tk', Fr h₀ L h' m → IntsAre xs (tabP ls ws) → News h₀ L h' ((D, LO xs k') :: news) → (∀ p ∈ news, p.1 < D) → Q (.ref D) { s with heap := h', toks := tk' }) :
    wpAny (model PySem.Challenge.rw_sn0069_01.row.prog w) (Ar dp un fr gd) (call (.ref 174) [.str (S ls) tl, .ref l]) Q E s := by
  revert X; k_fill; intro X
  k_dflt (refine' enterP (binds := [(PySem.Str.ofString "letters", .str (S ls) tl), (PySem.Str.ofString "words", .ref l)]) ?F ?X ?N ?T ?k6 ?k7 ?k8 ?k9 ?kB ?_ ?c2 ?c3 ?c4 ?c5; (case F => exact F); (case X => exact X); (case N => exact N); (case T => exact T); (case k6 => k_is); (case k7 => k_is); (case k8 => ktr_room); (case k9 => exact BindsTo.of_eq rfl); (case c5 => decide); (case kB => exact locs rfl); (case c2 => exact rfl); (case c3 => exact rfl); (case c4 => exact rfl))
  intro g' L' h' BK' F' N' X' T' l1
  clear F X N T
  (try dsimp only)
  (with_reducible show wpAny _ _ _ _ _ _)
  k_fold
  ktr_unf
  (with_reducible rename Fr _ _ _ _ => F9); (with_reducible rename News _ _ _ _ => N9)
  (with_reducible rename (∀ p ∈ news, p.1 < _) => lT)
  k_dflt (refine' For_invVF F9 ?k1 ?k2 ?_; (case k1 => exact rfl); (case k2 => exact rfl))
  ktr_unf
  obtain ⟨m0, hm0, F9⟩ := namedMap F9
  k_dflt (refine forList (J := TbJ ls ws m0 news)
              rfl (.tail _ hl) F9 N9 ?_ ?_ ?_)
  · subst hm0
    exact ⟨_, [], _, _, map4 rfl, .nil, rfl, lT, Nat.zero_le _⟩
  · intro i v m₁ news₁ h9 tk9 own I hv hq1 hoI hIo hown F8 N8
    refine ex4 hq1 fun Dt xs kx u hq4 => an5 hq4 fun eq_2 hxs eq_3 hDt hxl => ?_
    clear hq1 hq4
    subst eq_2
    subst eq_3
    subst hm0
    refine ex2 (hvs.get hv) fun wd tw hq6 => an2 hq6 fun eq_5 hw => ?_
    clear hq6
    subst eq_5
    have hwm := List.mem_of_getElem? hw
    have hlD : l < Dt := hDt _ hl
    have hoff : ∀ p ∈ news ++ own, p.1 ≠ Dt := fun p hp => by
      rcases List.mem_append.mp hp with hp | hp
      · exact Nat.ne_of_lt (hDt p hp)
      · rcases hown p hp with e | e
        · rw [e]; exact Ne.symm (hoI _ (.head _))
        · rw [e]; exact Nat.ne_of_lt hlD
    simp only [List.cons_append] at N8
    ktr_unf
    (with_reducible rename Fr _ _ _ _ => F7); (with_reducible rename News _ _ _ _ => N7)
    k_dflt (refine lead_call ls wd _ _ (hwd _ hwm) hls (hwl _ hwm) _ _ _ _ _ _ _ _ _ _ F7 X' N7 T' (by ktr_room) (by ktr_units) ?_)
    intro tld h6 tk6 F6 N6
    ktr_unf
    k_dflt (refine ws_call (S (leadL ls wd wd.length)) _ (by simpa [S] using leadL_signs ls wd wd.length) (by have := leadL_len hls (hwl _ hwm) (wd := wd) (ls := ls) wd.length; have := hwl _ hwm; simp [S]; omega) _ _ _ _ _ _ _ _ _ _ F6 X' N6 T' (by ktr_room) (by ktr_units) ?_)
    intro x dx k1 k2 k3 k4 k5 v1 v4 v5 tn tt h5 tk5 F5 N5 lx1 lx2
    k_lt lx1
    have hll := leadL_len hls (hwl _ hwm) (wd := wd) (ls := ls) wd.length
    have hwl9 := hwl _ hwm
    have hb : ((leadL ls wd wd.length).toArray.size : Int) - ((leadL ls wd wd.length).count 9 : Nat) = (blk ls wd : Nat) := by
      have h1 : (leadL ls wd wd.length).count 9 ≤ (leadL ls wd wd.length).length := List.count_le_length
      unfold blk
      simp only [List.size_toArray]
      omega
    have hb2 : blk ls wd ≤ 1010 := by unfold blk; omega
    have hrep : ((blk ls wd : Int) + 1 - (xs.length : Int)).toNat ≤ 1000000 := by omega
    ktr_unf
    simp only [hb] at *
    (with_reducible rename Fr _ _ _ _ => F4); (with_reducible rename News _ _ _ _ => N4)
    rename_i Dz _ kz lz _
    have lz2 : Dt < Dz := lz.2.2.2.1
    obtain ⟨zs, hzs, N4⟩ := headLO N4
    k_dflt (refine extendHd F4 (newsSub N4 (news' := (Dt, LO xs kx) :: (Dz, LO zs kz) :: (news ++ own)) (sub_cons (.tail _ (.tail _ (.tail _ (.tail _ (.head _))))) (sub_keep (sub_skip (sub_skip (sub_skip (sub_skip sub_refl))))))) (fun p hp => ?_) (.head _) (Nat.le_trans hxl (by decide)) (by rw [hzs, List.length_replicate]; exact hrep) ?_)
    · rcases List.mem_cons.mp hp with rfl | hp
      · exact Ne.symm (Nat.ne_of_lt lz2)
      · exact hoff p hp
    intro h3 k3 F3 N3
    clear F4 N4
    obtain ⟨tab, htab⟩ : ∃ tab, tab = (ws.take i).foldl (tabStep ls) [] := ⟨_, rfl⟩
    rw [← htab] at hxs
    have hxt := hxs.length
    have hzi : IntsAre zs (List.replicate (blk ls wd + 1 - tab.length) 0) := by
      have e : ((blk ls wd : Int) + 1 - (xs.length : Int)).toNat = blk ls wd + 1 - tab.length := by omega
      rw [hzs, e]
      exact intsRep 0 _ _
    have hi2 := hxs.append hzi
    have hlen2 := hi2.length
    have hlen3 : (xs ++ zs).length ≤ 1011 := by
      rw [hlen2, List.length_append, List.length_replicate]; omega
    have hbn : ((blk ls wd : Nat) : Int) < ((xs ++ zs).length : Int) := by
      rw [hlen2, List.length_append, List.length_replicate]; omega
    have hoff2 : ∀ p ∈ (Dz, LO zs kz) :: (news ++ own), p.1 ≠ Dt := fun p hp => by
      rcases List.mem_cons.mp hp with rfl | hp
      · exact Ne.symm (Nat.ne_of_lt lz2)
      · exact hoff p hp
    have hm2 : (Dt, LO (xs ++ zs) k3) ∈ (Dt, LO (xs ++ zs) k3) :: (Dz, LO zs kz) :: (news ++ own) := .head _
    refine ex1 (hi2.get (blk ls wd) ((tab ++ List.replicate (blk ls wd + 1 - tab.length) 0).getD (blk ls wd) 0) (by rw [List.getD_eq_getElem?_getD, List.getElem?_eq_getElem (by rw [← hlen2]; omega)]; rfl)) fun td hx => ?_
    k_steps
    (with_reducible rename News _ _ _ _ => N3)
    k_dflt (refine getL (i := ((blk ls wd : Nat) : Int)) N3 hm2 (Int.natCast_nonneg _) (by omega) (by rw [Int.toNat_natCast]; exact hx) ?_)
    k_steps
    k_dflt (refine setHd F3 N3 hoff2 (Int.natCast_nonneg _) hbn (by omega) ?_)
    intro h2 k2 F2 N2
    k_steps
    (with_reducible rename Fr _ _ _ _ => F1); (with_reducible rename News _ _ _ _ => N1)
    obtain ⟨ts, hts, N1⟩ := headLO N1
    have hset : tabStep ls tab wd = (tab ++ List.replicate (blk ls wd + 1 - tab.length) 0).set (blk ls wd) ((tab ++ List.replicate (blk ls wd + 1 - tab.length) 0).getD (blk ls wd) 0 + 1) := rfl
    have htk : (ws.take (i + 1)).foldl (tabStep ls) [] = tabStep ls tab wd := by
      rw [List.take_add_one, hw, Option.toList_some, List.foldl_append, ← htab]; rfl
    refine TEnd.intro ((Dt, LO ts k2) :: news) F1 N1 (fun p hp => ?_) (fun p hp => ?_) (fun p hp => ?_) ⟨Dt, ts, k2, _, map4' rfl (fun z h1 h2 h3 h4 => by simp only [if_neg h1, if_neg h2, if_neg h3, if_neg h4]), ?_, rfl, hDt, ?_⟩
    · exact (List.mem_cons.mp hp).elim (fun e => e ▸ .head _) fun hp => .tail _ (.tail _ (List.mem_append_left own hp))
    · exact .tail _ (.tail _ (List.mem_append_right _ hp))
    · intro hI
      rcases List.mem_cons.mp hp with rfl | hp
      · exact hoI _ (.head _) (List.mem_singleton.mp hI)
      · exact hoI p (.tail _ hp) (List.mem_singleton.mp hI)
    · rw [htk, hset, hts]
      exact intsSetAt hi2 _ _ _
    · rw [hts, List.length_set]; exact hlen3
  · intro m₁ news₁ h9 tk9 hq7 F8 N8
    refine ex4 hq7 fun Dt xs kx u hq10 => an5 hq10 fun eq_8 hxs eq_9 hDt hxl => ?_
    clear hq7 hq10
    subst eq_8
    subst eq_9
    subst hm0
    k_steps
    have hr := BK'.use F8 N8
    rw [hvs.length, List.take_length] at hxs
    exact hret _ _ _ _ _ hr.1 hxs hr.2 hDt
end
section
-- after: 14_rules5 13_ellp 11_rules3 08_rules2
abbrev ElJ (wd : List Nat) (t2 : Tok) (m0 : PySem.Str → Option Value) (led : List (Addr × Obj)) (i : Nat) (m₁ : PySem.Str → Option Value) (news₁ : List (Addr × Obj)) : Prop :=
  ∃ (ts : Tok) (u : PySem.Str → Option Value), m₁ = (fun z => if z = PySem.Str.ofString "startpos" then some (.int (wd.length : Nat) ts) else if z = PySem.Str.ofString "w" then u z else m0 z) ∧ news₁ = led
theorem ell_call {w : World} {p : Program} {loose : List PySem.Str} {mean : ExcName → Option Value} {mg mb : PySem.Str → Option Value} {news : List (Addr × Obj)} (wd gt : List Nat) (tw tg : Tok) (hwd : ∀ c ∈ wd, c ≠ 46) (hne : wd ≠ []) (hwl : wd.length ≤ 10) (hgl : gt.length ≤ 20) (hle : wd.length ≤ gt.length)
  (dp un : Nat) (fr : Option (List Env)) (gd : Option (List Code)) (h₀ : Heap) (L : Addr) (m : PySem.Str → Option Value) (s : Shared) (Q E : Value → Shared → Prop)
  (F : Fr h₀ L s.heap m) (X : (KF w.params).In h₀) (N : News h₀ L s.heap news) (T : Top p loose mean mg mb h₀) (hdp : dp + 200 < recursionLimit) (hun : un + 2000 < cLine)
  (hret : ∀ h' tk', Fr h₀ L h' m → News h₀ L h' news → Q (.bool (decide (wd = gt.take wd.length))) { s with heap := h', toks := tk' }) :
    wpAny (model PySem.Challenge.rw_sn0069_01.row.prog w) (Ar dp un fr gd) (call (.ref 84) [.str (S (wd ++ [46, 46, 46])) tw, .str (S gt) tg]) Q E s := by
  revert X; k_fill; intro X
  k_dflt (refine' enterP (binds := [(PySem.Str.ofString "want", .str (S (wd ++ [46, 46, 46])) tw), (PySem.Str.ofString "got", .str (S gt) tg)]) ?F ?X ?N ?T ?k6 ?k7 ?k8 ?k9 ?kB ?_ ?c2 ?c3 ?c4 ?c5; (case F => exact F); (case X => exact X); (case N => exact N); (case T => exact T); (case k6 => k_is); (case k7 => k_is); (case k8 => ktr_room); (case k9 => exact BindsTo.of_eq rfl); (case c5 => decide); (case kB => exact locs rfl); (case c2 => exact rfl); (case c3 => exact rfl); (case c4 => exact rfl))
  intro g' L' h' BK' F' N' X' T' l1
  clear F X N T
  (try dsimp only)
  (with_reducible show wpAny _ _ _ _ _ _)
  k_fold
  have hlg : PySem.Str.length (S gt) = gt.length := sLen gt
  have hlw : PySem.Str.length (S wd) = wd.length := sLen wd
  have hpw : 0 < wd.length := List.length_pos_iff.mpr hne
  have hocc := occ_dots hwd (lim := 1) (Nat.le_refl _)
  rw [← dotsS] at hocc
  ktr_unf
  · exfalso
    (with_reducible rename List.isEmpty _ = true => hq)
    rw [hocc] at hq; cases hq
  (with_reducible rename Fr _ _ _ _ => F9); (with_reducible rename News _ _ _ _ => N9)
  k_dflt (refine splitN1 F9 N9 rfl ?_ ?_)
  · intro l h8 k8 hl F8 N8
    rw [split_dots hwd] at hl
    obtain ⟨t1, t2, rfl⟩ : ∃ t1 t2, l = [(S wd, t1), (S [], t2)] := by
      match l, hl with
      | [(a, t1), (b, t2)], h => exact ⟨t1, t2, by simp at h; simp [h]⟩
    have N7 : News g' L' _ ((_, LO [.str (S wd) t1, .str (S []) t2] 0) :: news) := N8
    have hDn : ∀ p ∈ news, p.1 ≠ h'.objs.size := fun p hp => Nat.ne_of_lt (Heap.lt_size (N9 p hp).1)
    clear N8 N9
    ktr_unf
    · (with_reducible rename Fr _ _ _ _ => F7); (with_reducible rename News _ _ _ _ => N7)
      k_dflt (refine' For_invVF F7 ?k1 ?k2 ?_; (case k1 => exact rfl); (case k2 => exact rfl))
      ktr_unf
      obtain ⟨m0, hm0, F7⟩ := namedMap F7
      k_dflt (refine forList (vs := [.str (S []) t2]) (J := ElJ wd t2 m0 ((h'.objs.size, LO [.str (S []) t2] 1) :: news))
                  rfl (.head _) F7 (newsSub N7 fun p hp => .tail _ hp) ?_ ?_ ?_)
      · subst hm0
        exact ⟨_, _, map2 (by rw [hlw]; rfl), rfl⟩
      · intro i v m₁ news₁ h6 tk6 own I hv hq1 hoI hIo hown F6 N6
        refine ex2 hq1 fun ts u hq4 => an2 hq4 fun eq_2 eq_3 => ?_
        clear hq1 hq4
        subst eq_2
        subst eq_3
        subst hm0
        have hi0 : i = 0 := by
          rcases i with _ | i
          · rfl
          · simp at hv
        subst hi0
        have hv2 : v = .str (S []) t2 := by simpa using hv.symm
        subst hv2
        ktr_unf
        (with_reducible rename Fr _ _ _ _ => F5); (with_reducible rename News _ _ _ _ => N5)
        have hl0 : PySem.Str.length (S []) = 0 := rfl
        k_dflt (refine find4_nil (a := wd.length) (by rw [sLen]; exact hle) rfl ?_)
        ktr_unf
        (with_reducible rename Fr _ _ _ _ => F4); (with_reducible rename News _ _ _ _ => N4)
        refine TEnd.intro ((h'.objs.size, LO [.str (S []) t2] 1) :: news) F4 N4 (fun p hp => List.mem_append_left own hp) (fun p hp => List.mem_append_right _ hp) (fun p hp hI => hoI p hp (List.mem_singleton.mp hI)) ⟨_, _, map2' (by rw [hl0]; rfl) (fun z h1 h2 => by simp only [if_neg h1, if_neg h2]), rfl⟩
      · intro m₁ news₁ h6 tk6 hq5 F6 N6
        refine ex2 hq5 fun ts u hq8 => an2 hq8 fun eq_6 eq_7 => ?_
        clear hq5 hq8
        subst eq_6
        subst eq_7
        subst hm0
        ktr_unf
        have hyes : wd = gt.take wd.length := by
          (with_reducible rename Txt.startswith _ _ = true => hst)
          rw [starts_list] at hst
          exact (of_decide_eq_true hst).1
        have hr := BK'.use F6 (newsSub N6 fun p hp => .tail _ hp)
        rw [decide_eq_true hyes] at hret
        exact hret _ _ hr.1 hr.2
    · (with_reducible rename Txt.startswith _ _ = false => hst)
      (with_reducible rename Fr _ _ _ _ => F7); (with_reducible rename News _ _ _ _ => N7)
      rw [starts_list] at hst
      have hnot : ¬ wd = gt.take wd.length := fun e => by simp [← e, hle] at hst
      have hr := BK'.use F7 (newsSub N7 fun p hp => .tail _ (.tail _ hp))
      rw [decide_eq_false hnot] at hret
      exact hret _ _ hr.1 hr.2
    · exfalso
      omega
  · rw [sizeLine_eq, sLen]; simp; omega
end
section
-- after: 14_rules5
section
variable {prog : Program} {w : World} {A : Around} {E : Value → Shared → Prop} {s : Shared} {h₀ : Heap} {L t : Addr} {m : PySem.Str → Option Value} {news : List (Addr × Obj)} {vs : List Value} {k : Nat}
theorem partIdx {v : Value} {o : Option Int} {Q : Option Int → Shared → Prop} (p : IsPart v o) (h : Q o s) : wpAny (model prog w) A (Builtin.Slice.slicePartIndex v) Q E s := by
  cases p with
  | none => exact slicePart_none h
  | int i t => exact slicePart_int h
theorem sliceParts {sl : Addr} {vl vu : Value} {lo hi : Option Int} {n : Nat} {x y : Int} {c : Nat} {Q : Int × Int × Nat → Shared → Prop} (hs : s.heap.IsSliceOf sl vl vu .none) (pl : IsPart vl lo) (pu : IsPart vu hi)
    (hA : Builtin.Slice.sliceAdjust lo hi 1 (n : Int) = (x, y)) (hP : Builtin.Slice.slicePlaces x y 1 = c) (h : Q (x, 1, c) s) :
    wpAny (model prog w) A (Builtin.Slice.sliceApplied (.ref sl) (pure (n : Int))) Q E s := by
  obtain ⟨os, hos, hcs, hds⟩ := id hs
  unfold Builtin.Slice.sliceApplied Builtin.Slice.sliceFields
  refine wpAny_bind (wpAny_bind (wpAny_field hos hds (x := vl) rfl (wpAny_bind (wpAny_field hos hds (x := vu) rfl (wpAny_bind (wpAny_field hos hds (x := .none) rfl (wpAny_pure ?_)))))))
  refine wpAny_bind (slicePart_none ?_)
  show wpAny _ _ (if ((1 : Int) == 0) = true then _ else _) _ _ s
  rw [if_neg (by decide)]
  refine wpAny_bind (partIdx pl (wpAny_bind (partIdx pu (wpAny_bind (wpAny_pure ?_)))))
  show wpAny _ _ (match Builtin.Slice.sliceAdjust lo hi 1 (n : Int) with | (lo, hi) => pure (lo, (1 : Int), Builtin.Slice.slicePlaces lo hi 1)) _ _ s
  rw [hA]
  show wpAny _ _ (pure (x, (1 : Int), Builtin.Slice.slicePlaces x y 1)) _ _ s
  rw [hP]
  exact wpAny_pure h
theorem getT_slice {sl : Addr} {items : Array Value} {vl vu : Value} {lo hi : Option Int} {x y : Int} {c : Nat} {Q : Value → Shared → Prop} (ht : IsTup s.heap t items) (hs : s.heap.IsSliceOf sl vl vu .none) (pl : IsPart vl lo) (pu : IsPart vu hi)
    (hA : Builtin.Slice.sliceAdjust lo hi 1 (items.size : Int) = (x, y)) (hP : Builtin.Slice.slicePlaces x y 1 = c)
    (h : if (x == 0 && (1 : Int) == 1 && c == items.size) = true then Q (.ref t) s else
      Q (.ref s.heap.objs.size) { s with heap := s.heap.push { cls := .type "tuple", data := .seq ((List.range c).filterMap fun (k : Nat) => items[(x + (k : Int) * 1).toNat]?).toArray } })
    (hsz : c ≤ sizeLine) : wpAny (model prog w) A (getItem (.ref t) (.ref sl)) Q E s := by
  have hdrop : sizeOk (.seq ((List.range c).filterMap fun (k : Nat) => items[(x + (k : Int) * 1).toNat]?).toArray) := by
    show (((List.range c).filterMap fun (k : Nat) => items[(x + (k : Int) * 1).toNat]?).toArray).size ≤ sizeLine
    rw [List.size_toArray]
    refine Nat.le_trans (List.length_filterMap_le _ _) ?_
    rw [List.length_range]; exact hsz
  obtain ⟨os, hos, hcs, hds⟩ := id hs
  have hTs : s.TypeIs (.ref sl) "slice" := ⟨os, hos, hcs⟩
  unfold getItem
  try with_reducible refine wpAny_holding ?_
  first | refine wpAny_bind (wpAny_pure ?_) | skip
  refine wpAny_bind (wpAny_sequenceKey ht.typeIs (by decide) ?_)
  refine wpAny_bind (wpAny_callSpecial?_slot (name := PySem.Str.ofString "__getitem__") ht.typeIs slot_tuple_getitem
    (wpAny_call_entry slot_tuple_getitem ht.typeIs entry_tuple_getitem ?_ (args_tuple_getitem _ _)))
  show wpAny _ _ (Builtin.Tuple.tupleItemsOf (.ref t) >>= _) _ _ s
  refine wpAny_bind (tupleItemsOf_ ht ?_)
  refine wpAny_bind (wpAny_typeOf hTs ?_)
  rw [if_pos (by decide)]
  refine wpAny_bind (sliceParts hs pl pu hA hP ?_)
  show wpAny _ _ (if (x == 0 && (1 : Int) == 1 && c == items.size) = true then _ else _) _ _ s
  split at h
  · rename_i hc
    rw [if_pos hc]
    refine wpAny_bind (m := Builtin.Tuple.tupleIsExact _) ?_
    unfold Builtin.Tuple.tupleIsExact
    refine wpAny_bind (wpAny_typeOf ht.typeIs (wpAny_pure ?_))
    rw [if_pos (by decide)]
    exact wpAny_bind (wpAny_rule (wpAny_pure ⟨_, rfl, wpAny_pure h⟩))
  · rename_i hc
    rw [if_neg hc]
    first
      | exact wpAny_bind (m := Builtin.Tuple.tupleExact _) (wpAny_newObj_type (wpAny_pure ⟨_, rfl, wpAny_pure h⟩) hdrop)
      | exact wpAny_bind (m := Builtin.Tuple.tupleExact _) (wpAny_newObj_type (wpAny_bind (wpAny_pure (wpAny_pure ⟨_, rfl, wpAny_pure h⟩))) hdrop)
      | exact wpAny_bind (wpAny_bind (m := Builtin.Tuple.tupleExact _) (wpAny_newObj_type (wpAny_pure (wpAny_pure ⟨_, rfl, wpAny_pure h⟩)) hdrop))
      | exact wpAny_bind (wpAny_bind (m := Builtin.Tuple.tupleExact _) (wpAny_newObj_type (wpAny_pure ⟨_, rfl, wpAny_pure h⟩) hdrop))
theorem tsliceAll {value slice : PySem.Expr} {vl vu : Value} {lo hi : Option Int} {Q : Value → Shared → Prop} (F : Fr h₀ L s.heap m) (N : News h₀ L s.heap news) (hm : (t, TO vs k) ∈ news) (pl : IsPart vl lo) (pu : IsPart vu hi)
    (hA : Builtin.Slice.sliceAdjust lo hi 1 (vs.length : Int) = (0, (vs.length : Int)))
    (h : ∀ h', Fr h₀ L h' m → News h₀ L h' news → Q (.ref t) { s with heap := h' }) (hz : vs.length ≤ 1000000)
    (hs : subscripted slice false (.ref t) (.ref s.heap.objs.size) = operate [.ref s.heap.objs.size, .ref t] (getItem (.ref t) (.ref s.heap.objs.size)) := by with_unfolding_all rfl)
    (hg : ∀ r, letTemporaryGo value (.ref t) r = pure () := by intro _; with_unfolding_all rfl) :
    wpAny (model prog w) A (subscriptTail value slice (.ref t) (.ref s.heap.objs.size)) Q E { s with heap := s.heap.push { cls := .type "slice", data := .fields #[vl, vu, .none] } } := by
  have ht' : IsTup (s.heap.push { cls := .type "slice", data := .fields #[vl, vu, .none] }) t vs.toArray := ⟨_, Heap.get?_push_of_some _ (N _ hm).1, rfl, _, rfl⟩
  have hP : Builtin.Slice.slicePlaces 0 (vs.length : Int) 1 = vs.length := by
    have := places_from 0 vs.length (Nat.zero_le _)
    simpa using this
  refine subscriptTail_ops (s := { s with heap := s.heap.push { cls := .type "slice", data := .fields #[vl, vu, .none] } }) ht'.typeIs slot_tuple_getitem.lookup
    (getT_slice ht' (Heap.IsSliceOf.new ..) pl pu (by rw [List.size_toArray]; exact hA) hP ?_ (by rw [sizeLine_eq]; omega)) hs hg
  rw [if_pos (by simp)]
  exact h _ (F.push _) (N.grown fun _ _ e => Heap.get?_push_of_some _ e)
theorem tsliceNew {value slice : PySem.Expr} {vl vu : Value} {lo hi : Option Int} {x y : Int} {c : Nat} {ys : List Value} {Q : Value → Shared → Prop} (F : Fr h₀ L s.heap m) (N : News h₀ L s.heap news) (hm : (t, TO vs k) ∈ news) (pl : IsPart vl lo) (pu : IsPart vu hi)
    (hA : Builtin.Slice.sliceAdjust lo hi 1 (vs.length : Int) = (x, y)) (hP : Builtin.Slice.slicePlaces x y 1 = c) (hc : c < vs.length) (hy : ((List.range c).filterMap fun (k : Nat) => vs.toArray[(x + (k : Int) * 1).toNat]?) = ys)
    (h : ∀ D h', Fr h₀ L h' m → News h₀ L h' ((D, TO ys 0) :: news) → (∀ p ∈ news, p.1 < D) → Q (.ref D) { s with heap := h' }) (hz : vs.length ≤ 1000000)
    (hs : subscripted slice false (.ref t) (.ref s.heap.objs.size) = operate [.ref s.heap.objs.size, .ref t] (getItem (.ref t) (.ref s.heap.objs.size)) := by with_unfolding_all rfl)
    (hg : ∀ r, letTemporaryGo value (.ref t) r = pure () := by intro _; with_unfolding_all rfl) :
    wpAny (model prog w) A (subscriptTail value slice (.ref t) (.ref s.heap.objs.size)) Q E { s with heap := s.heap.push { cls := .type "slice", data := .fields #[vl, vu, .none] } } := by
  have ht' : IsTup (s.heap.push { cls := .type "slice", data := .fields #[vl, vu, .none] }) t vs.toArray := ⟨_, Heap.get?_push_of_some _ (N _ hm).1, rfl, _, rfl⟩
  refine subscriptTail_ops (s := { s with heap := s.heap.push { cls := .type "slice", data := .fields #[vl, vu, .none] } }) ht'.typeIs slot_tuple_getitem.lookup
    (getT_slice ht' (Heap.IsSliceOf.new ..) pl pu (by rw [List.size_toArray]; exact hA) hP ?_ (by rw [sizeLine_eq]; omega)) hs hg
  rw [if_neg (by simp; omega), hy]
  have N1 : News h₀ L (s.heap.push { cls := .type "slice", data := .fields #[vl, vu, .none] }) news := N.grown fun _ _ e => Heap.get?_push_of_some _ e
  exact h _ _ ((F.push _).push _) (News.push (F.push _) N1 _) fun p hp => Heap.lt_size (N1 p hp).1
theorem addT {b : Addr} {ws : List Value} {k2 : Nat} {Q : Value → Shared → Prop} (F : Fr h₀ L s.heap m) (N : News h₀ L s.heap news) (hm : (t, TO vs k) ∈ news) (hb : (b, TO ws k2) ∈ news) (h1 : vs ≠ []) (h2 : ws ≠ []) (hv : vs.length ≤ 1000000) (hw : ws.length ≤ 1000000)
    (h : ∀ D h', Fr h₀ L h' m → News h₀ L h' ((D, TO (vs ++ ws) 0) :: news) → (∀ p ∈ news, p.1 < D) → Q (.ref D) { s with heap := h' }) :
    wpAny (model prog w) A (binaryOp .Add (.ref t) (.ref b)) Q E s := by
  refine PySem.P.add_tuple (N _ hm).1 (N _ hb).1 (by simpa using h1) (by simpa using h2) ?_ (by simp only [List.size_toArray, sizeLine_eq]; omega)
  have e : vs.toArray ++ ws.toArray = (vs ++ ws).toArray := by simp
  rw [e]
  exact h _ _ (F.push _) (News.push F N _) fun p hp => Heap.lt_size (N p hp).1
theorem addT_nil {b : Addr} {k2 : Nat} {Q : Value → Shared → Prop} (N : News h₀ L s.heap news) (hm : (t, TO vs k) ∈ news) (hb : (b, TO [] k2) ∈ news) (h1 : vs ≠ []) (h : Q (.ref t) s) :
    wpAny (model prog w) A (binaryOp .Add (.ref t) (.ref b)) Q E s :=
  concat_meets ⟨_, (N _ hm).1, rfl⟩ ⟨_, (N _ hb).1, rfl⟩ noFill_tuple_add seq_tuple_add PySem.F.slot_tuple_add PySem.F.entry_tuple_add (PySem.F.args_tuple_add_2 _ _)
    (AutoSeq1.tuple___add___tuple_tuple_1 t vs.toArray k b #[] k2 (by simpa using h1) rfl) ⟨(N _ hm).1, (N _ hb).1, h⟩
end
end
section
-- after: 12_nest 14_table 14_rules5
def wordsStep (ls : List Nat) (cs : List Int) (ws : List (List Nat)) : List (List Nat) :=
  ws.flatMap fun w => ((List.range 3).filter fun k => decide (((w.count (ls.getD k 0) : Nat) : Int) < cs.getD k 0)).map fun k => w ++ [ls.getD k 0]
def wordsP (ls : List Nat) (cs : List Int) : Nat → List (List Nat)
  | 0 => [[]]
  | i + 1 => wordsStep ls cs (wordsP ls cs i)
theorem words_len (ls : List Nat) (cs : List Int) : ∀ i, (wordsP ls cs i).length ≤ 3 ^ i
  | 0 => Nat.le_refl _
  | i + 1 => by
    have h := words_len ls cs i
    have gen : ∀ ws : List (List Nat), (wordsStep ls cs ws).length ≤ ws.length * 3 := by
      intro ws
      induction ws with
      | nil => exact Nat.le_refl _
      | cons a r ih =>
        have : (wordsStep ls cs (a :: r)).length = (((List.range 3).filter fun k => decide (((a.count (ls.getD k 0) : Nat) : Int) < cs.getD k 0)).map fun k => a ++ [ls.getD k 0]).length + (wordsStep ls cs r).length := by
          unfold wordsStep; rw [List.flatMap_cons, List.length_append]
        rw [this, List.length_map, List.length_cons]
        have h2 := List.length_filter_le (fun k => decide (((a.count (ls.getD k 0) : Nat) : Int) < cs.getD k 0)) (List.range 3)
        rw [List.length_range] at h2
        omega
    have := gen (wordsP ls cs i)
    rw [wordsP, Nat.pow_succ]
    omega
theorem words_each (ls : List Nat) (cs : List Int) : ∀ i, ∀ w ∈ wordsP ls cs i, w.length = i
  | 0, w, h => by
    rw [wordsP, List.mem_singleton] at h
    rw [h]; rfl
  | i + 1, w, h => by
    rw [wordsP] at h
    unfold wordsStep at h
    obtain ⟨v, hv, hw⟩ := List.mem_flatMap.mp h
    obtain ⟨k, _, rfl⟩ := List.mem_map.mp hw
    rw [List.length_append, words_each ls cs i v hv]; rfl
def innerW (ls : List Nat) (cs : List Int) (w : List Nat) (j : Nat) : List (List Nat) := ((List.range j).filter fun k => decide (((w.count (ls.getD k 0) : Nat) : Int) < cs.getD k 0)).map fun k => w ++ [ls.getD k 0]
theorem innerW_succ (ls : List Nat) (cs : List Int) (w : List Nat) (j : Nat) : innerW ls cs w (j + 1) = innerW ls cs w j ++ (if ((w.count (ls.getD j 0) : Nat) : Int) < cs.getD j 0 then [w ++ [ls.getD j 0]] else []) := by
  unfold innerW
  rw [List.range_succ, List.filter_append, List.map_append]
  congr 1
  split
  · rename_i h; simp only [List.filter_cons, List.filter_nil, h, decide_true, if_true, List.map_cons, List.map_nil]
  · rename_i h; simp only [List.filter_cons, List.filter_nil, h, decide_false, Bool.false_eq_true, if_false, List.map_nil]
theorem wordsStep_take {ls : List Nat} {cs : List Int} {ws : List (List Nat)} {i : Nat} {w : List Nat} (h : ws[i]? = some w) : wordsStep ls cs (ws.take (i + 1)) = wordsStep ls cs (ws.take i) ++ innerW ls cs w 3 := by
  unfold wordsStep
  rw [List.take_add_one, h, Option.toList_some, List.flatMap_append]
  congr 1
  simp only [List.flatMap_cons, List.flatMap_nil, List.append_nil]
  rfl
abbrev WdJ (ls : List Nat) (cs : List Int) (m0 : PySem.Str → Option Value) (led : List (Addr × Obj)) (i : Nat) (m₁ : PySem.Str → Option Value) (news₁ : List (Addr × Obj)) : Prop :=
  ∃ (D : Addr) (vs : List Value) (k : Nat) (u : PySem.Str → Option Value), m₁ = (fun z => if z = PySem.Str.ofString "words" then some (.ref D) else if z = PySem.Str.ofString "step" then u z else m0 z) ∧ WAre vs (wordsP ls cs i) ∧ news₁ = (D, LO vs k) :: led ∧ (∀ p ∈ led, p.1 < D)
abbrev WdJ1 (ls : List Nat) (cs : List Int) (ws : List (List Nat)) (led : List (Addr × Obj)) (j : Nat) (ys : List Value) (nx : List (Addr × Obj)) : Prop :=
  nx = led ∧ WAre ys (wordsStep ls cs (ws.take j)) ∧ ys.length ≤ 3 * j
abbrev WdJ2 (ls : List Nat) (cs : List Int) (ws : List (List Nat)) (wd : List Nat) (tw : Tok) (j : Nat) (led : List (Addr × Obj)) (jj : Nat) (ys' : List Value) (mm : PySem.Str → Option Value) (nx' : List (Addr × Obj)) : Prop :=
  (∃ u : PySem.Str → Option Value, mm = fun z => if z = PySem.Str.ofString "word" then some (.str (S wd) tw) else u z) ∧ nx' = led ∧ WAre ys' (wordsStep ls cs (ws.take j) ++ innerW ls cs wd jj) ∧ ys'.length ≤ 3 * j + jj ∧ jj ≤ 3
theorem words_call {w : World} {p : Program} {loose : List PySem.Str} {mean : ExcName → Option Value} {mg mb : PySem.Str → Option Value} {news : List (Addr × Obj)} {ct : Addr} {cv : List Value} {kc : Nat} (ls : List Nat) (cs : List Int) (n : Nat) (tl : Tok)
  (hc : (ct, TO cv kc) ∈ news) (hcv : IntsAre cv cs) (hcl : cs.length = 3) (hll : ls.length = 3) (hn : cs.sum = (n : Int)) (hn2 : n ≤ 6)
  (dp un : Nat) (fr : Option (List Env)) (gd : Option (List Code)) (h₀ : Heap) (L : Addr) (m : PySem.Str → Option Value) (s : Shared) (Q E : Value → Shared → Prop)
  (F : Fr h₀ L s.heap m) (X : (KF w.params).In h₀) (N : News h₀ L s.heap news) (T : Top p loose mean mg mb h₀) (hdp : dp + 200 < recursionLimit) (hun : un + 2000 < cLine)
  (hret : ∀ D vs k' h' tk', Fr h₀ L h' m → WAre vs (wordsP ls cs n) → News h₀ L h' ((D, LO vs k') :: news) → (∀ p ∈ news, p.1 < D) → Q (.ref D) { s with heap := h', toks := tk' }) :
    wpAny (model PySem.Challenge.rw_sn0069_01.row.prog w) (Ar dp un fr gd) (call (.ref 162) [.str (S ls) tl, .ref ct]) Q E s := by
  revert X; k_fill; intro X
  k_dflt (refine' enterC (binds := [(PySem.Str.ofString "letters", .str (S ls) tl), (PySem.Str.ofString "counts", .ref ct)]) ?F ?X ?N ?T ?k6 ?k7 ?k8 ?k9 ?kB ?kD ?_ ?c2 ?c3 ?c4; (case F => exact F); (case X => exact X); (case N => exact N); (case T => exact T); (case k6 => k_is); (case k7 => k_is); (case k8 => ktr_room); (case k9 => exact BindsTo.of_eq rfl); (case kB => exact rfl); (case kD => decide +kernel); (case c2 => exact rfl); (case c3 => exact rfl); (case c4 => exact rfl))
  intro g' L' h' tk' cells' BK' F' N' Y' X' T' l1
  k_cells Y'
  rename_i oK oW dK dW
  have eW : oW.data = .cell (some (.str (S ls) tl)) := dW
  have eK : oK.data = .cell (some (.ref ct)) := dK
  clear dW dK
  simp only [List.cons_append, List.nil_append] at N'
  clear F X N T
  have hsl : PySem.Str.length (S ls) = ls.length := sLen ls
  have hcvl := hcv.length
  (try dsimp only)
  (with_reducible show wpAny _ _ _ _ _ _)
  k_fold
  ktr_unf
  (with_reducible rename Fr _ _ _ _ => F9); (with_reducible rename News _ _ _ _ => N9)
  k_dflt (refine sumT rfl F9 N9 (.tail _ (.tail _ (.tail _ hc))) hcv ?_)
  intro h8 tk8 ts F9 N9
  rw [hn]
  ktr_unf
  rename_i hr7 F7 N7 _
  clear F9 N9
  (with_reducible rename (L' + 1 + 1 < _ ∧ _) => lD)
  obtain ⟨m0, hm0, F7⟩ := namedMap F7
  k_dflt (refine forRange (n := n) (J := WdJ ls cs m0 ((L' + 1 + 1, oK) :: (L' + 1, oW) :: news))
              rfl hr7 ?_ ?_ F7 N7 ?_ ?_ ?_)
  · exact rngSmall (by omega) (by omega) (by omega)
  · exact rngSize (by omega)
  · subst hm0
    exact ⟨_, [_], 0, _, map2 rfl, .cons [] _ .nil, rfl, ltOf lD⟩
  · intro i t m₁ news₁ h9 tk9 own I hi hq1 hoI hIo hown F8 N8
    refine ex4 hq1 fun D vs k u hq4 => an4 hq4 fun eq_2 hvs eq_3 hD => ?_
    clear hq1 hq4
    subst eq_2
    subst eq_3
    subst hm0
    obtain ⟨ws, hws⟩ : ∃ ws, ws = wordsP ls cs i := ⟨_, rfl⟩
    rw [← hws] at hvs
    have hwlen : ws.length ≤ 729 := by
      rw [hws]
      refine Nat.le_trans (words_len ls cs i) (Nat.le_trans (Nat.pow_le_pow_right (by decide) (show i ≤ 6 by omega)) (by decide))
    have hvl := hvs.length
    simp only [List.cons_append] at N8
    ktr_unf
    k_dflt (refine' assignComp2 (h₀ := g') (n := vs.length) (P := fun i v => vs[i]? = some v) (cl := ?clv) (J := WdJ1 ls cs ws ((D, LO vs k) :: (L' + 1 + 1, oK) :: (L' + 1, oW) :: (news ++ own))) ?sw ?cl ?ce ?ki ?na ?hy ?hp ?ht ?src)
    case sw => exact rfl
    case cl => exact rfl
    case ce => decide
    case ki => rfl
    case na => decide
    case hy => rfl
    case hp => rfl
    case ht => intro _ _; rfl
    case src =>
      ktr_unf
      (with_reducible rename Fr _ _ _ _ => F6); (with_reducible rename News _ _ _ _ => N6)
      k_dflt (refine srcList rfl (.head _) F6 N6 ?_)
      intro h3 tk3 I3 hS3
      refine CSrc.intro hS3 ⟨rfl, .nil, Nat.le_refl _⟩ ?_ ?_
      · intro g C D' hlD hsg j v ys nx m1 h5 tk5 own5 k5 hj hv hq7 hoff hD5 hfp5 hwr5 F5 N5
        refine an3 hq7 fun eq_9 hiy hyl => ?_
        clear hq7
        subst eq_9
        refine ex2 (hvs.get hv) fun wd tw hq11 => an2 hq11 fun eq_10 hw => ?_
        clear hq11
        subst eq_10
        have Tg := T'.keeps hsg
        have Xg := X'.keeps hsg
        simp only [List.cons_append, List.append_assoc] at N5
        ktr_unf
        rename_i hr4 F4 N4 _
        k_dflt (refine srcRange rfl hr4 (rngSmall (by omega) (by omega) (by omega)) (n := 3) (rngSize (by omega)) F4 N4 ?_)
        intro h6 tk6 I5 hS5
        have hoff5 := hS5.off
        refine NSrc.intro 3 k5 (WdJ2 ls cs ws wd tw j ((D, LO vs k) :: (L' + 1 + 1, oK) :: (L' + 1, oW) :: (news ++ (own ++ own5)))) hS5 ?_ ?_ ⟨_, _, rfl⟩ (fun _ _ => rfl) ⟨⟨_, rfl⟩, rfl, ?_, ?_, by omega⟩ ?_ ?_ ?_
        · exact hoff5 _ (.head _)
        · intro p hp
          rw [← List.append_assoc, ← List.cons_append, ← List.cons_append, ← List.cons_append] at hp
          rcases List.mem_append.mp hp with hp | hp
          · exact (hoff p hp).2
          · exact hD5 p hp
        · rw [show innerW ls cs wd 0 = [] from rfl, List.append_nil]; exact hiy
        · omega
        · intro i0 ys0 m0 nx0 hq13
          refine an5 hq13 fun _ _ _ h1 h2 => ?_
          clear hq13
          rw [sizeLine_eq]; omega
        · intro jj v2 ys2 nx2 m2 h7 tk7 own7 k7 hjj hq14 hq15 hoff7 hD7 hfp7 hwr7 F7 N7
          refine an2 hq14 fun _ hq16 => ?_
          clear hq14
          refine ex1 hq16 fun t7 eq_17 => ?_
          clear hq16
          subst eq_17
          refine an5 hq15 fun hq18 eq_19 hiy2 hyl2 _ => ?_
          clear hq15
          subst eq_19
          refine ex1 hq18 fun u7 eq_20 => ?_
          clear hq18
          subst eq_20
          simp only [List.cons_append, List.append_assoc] at N7
          ktr_unf
          (with_reducible rename News _ _ _ _ => N8)
          refine ex1 (hcv.get jj (cs.getD jj 0) (by rw [List.getD_eq_getElem?_getD, List.getElem?_eq_getElem (by omega)]; rfl)) fun tc hx => ?_
          k_dflt (refine itemT N8 (k := kc) (.tail _ (.tail _ (.tail _ (.tail _ (List.mem_append_left _ hc))))) (by omega) (by omega) (v := .int (cs.getD jj 0) tc) (by rw [show (0 + (jj : Int)).toNat = jj by omega]; exact hx) ?_)
          rw [Int.zero_add, sItem (show jj < ls.length by omega), sCount]
          ktr_unf
          · have hlt' : ((wd.count (ls.getD jj 0) : Nat) : Int) < cs.getD jj 0 := by first | assumption | omega
            rw [Int.zero_add, sItem (show jj < ls.length by omega)]
            have hb1 : PySem.Str.length (S wd) ≤ 6 := by rw [sLen, words_each ls cs i wd (hws ▸ List.mem_of_getElem? hw)]; omega
            have hb2 : PySem.Str.length (⟨#[ls.getD jj 0]⟩ : PySem.Str) ≤ 1 := Nat.le_refl _
            ktr_unf
            (with_reducible rename Fr _ _ _ _ => F9); (with_reducible rename News _ _ _ _ => N9)
            refine CEndI.intro ((D, LO vs k) :: (L' + 1 + 1, oK) :: (L' + 1, oW) :: (news ++ (own ++ own5))) F9 N9 (.head _) ?_ ?_ hoff7 ⟨mapW rfl, rfl, ?_, ?_, by omega⟩
            · exact (sub_skip (sub_keep (sub_keep (sub_keep (sub_app (sub_inl sub_refl) (sub_inr (sub_app (sub_inl sub_refl) (sub_inr (sub_inl sub_refl)))))))))
            · exact (sub_skip (sub_skip (sub_skip (sub_skip (sub_inr (sub_inr (sub_inr sub_refl)))))))
            · rw [innerW_succ, if_pos hlt', ← List.append_assoc, show S wd ++ (⟨#[ls.getD jj 0]⟩ : PySem.Str) = S (wd ++ [ls.getD jj 0]) from sApp wd [ls.getD jj 0]]
              exact hiy2.append (.cons (wd ++ [ls.getD jj 0]) _ .nil)
            · rw [List.length_append]; simp; omega
          · have hlt' : ¬ ((wd.count (ls.getD jj 0) : Nat) : Int) < cs.getD jj 0 := by first | assumption | omega
            (with_reducible rename Fr _ _ _ _ => F9); (with_reducible rename News _ _ _ _ => N9)
            refine CEndI.intro ((D, LO vs k) :: (L' + 1 + 1, oK) :: (L' + 1, oW) :: (news ++ (own ++ own5))) F9 N9 (.head _) ?_ ?_ hoff7 ⟨mapW rfl, rfl, ?_, by omega, by omega⟩
            · exact (sub_skip (sub_keep (sub_keep (sub_keep (sub_app (sub_inl sub_refl) (sub_inr (sub_app (sub_inl sub_refl) (sub_inr (sub_inl sub_refl)))))))))
            · exact (sub_skip (sub_skip (sub_skip (sub_skip (sub_inr (sub_inr (sub_inr sub_refl)))))))
            · rw [innerW_succ, if_neg hlt', List.append_nil]
              exact hiy2
        · intro ys2 mm2 nx2 hq21
          refine an5 hq21 fun _ eq_22 hiy2 hyl2 _ => ?_
          clear hq21
          subst eq_22
          refine ⟨?_, (D, LO vs k) :: (L' + 1 + 1, oK) :: (L' + 1, oW) :: (news ++ own), ?_, hoff, rfl, ?_, by omega⟩
          · exact (sub_skip (sub_skip (sub_skip (sub_inr (sub_inr sub_refl)))))
          · exact (sub_keep (sub_keep (sub_keep (sub_app (sub_inl sub_refl) (sub_inr (sub_inl sub_refl))))))
          · rw [wordsStep_take hw]; exact hiy2
      · intro D' h4 tk4 ys nx k4 hoD hlD F4 N4 hq23
        refine an3 hq23 fun eq_24 hiy hyl => ?_
        clear hq23
        subst eq_24
        ktr_unf
        refine TEnd.intro ((D', LO ys k4) :: (L' + 1 + 1, oK) :: (L' + 1, oW) :: news) F4 N4 ?_ ?_ (fun p hp => ?_) ⟨D', ys, k4, _, map2' rfl (fun z h1 h2 => by simp only [if_neg h1, if_neg h2]), ?_, rfl, ?_⟩
        · exact (sub_keep (sub_skip (sub_keep (sub_keep (sub_inl sub_refl)))))
        · exact (sub_skip (sub_skip (sub_skip (sub_skip (sub_inr sub_refl)))))
        · intro hI
          have hI := List.mem_singleton.mp hI
          rcases List.mem_cons.mp hp with rfl | hp
          · obtain ⟨oI, hIo⟩ := hIo
            have h5 : @LT.lt Nat _ I D' := hlD (I, oI) (.tail _ (.tail _ (.tail _ (List.mem_append_right _ hIo))))
            rw [show D' = I from hI] at h5
            exact absurd h5 (Nat.lt_irrefl _)
          · exact hoI p (.tail _ hp) hI
        · rw [hvl, List.take_length] at hiy
          rw [wordsP, ← hws]
          exact hiy
        · exact fun p hp => hlD p ((show ∀ p ∈ (L' + 1 + 1, oK) :: (L' + 1, oW) :: news, p ∈ (D, LO vs k) :: (L' + 1 + 1, oK) :: (L' + 1, oW) :: (news ++ own) from (sub_skip (sub_keep (sub_keep (sub_inl sub_refl))))) p hp)
  · intro m₁ news₁ h9 tk9 hq25 F8 N8
    refine ex4 hq25 fun D vs k u hq28 => an4 hq28 fun eq_26 hvs eq_27 hD => ?_
    clear hq25 hq28
    subst eq_26
    subst eq_27
    subst hm0
    k_steps
    have hr := BK'.use F8 (newsSub N8 (news' := (D, LO vs k) :: news) fun p hp => (List.mem_cons.mp hp).elim (fun e => e ▸ .head _) fun hp => .tail _ (.tail _ (.tail _ hp)))
    exact hret _ _ _ _ _ hr.1 hvs hr.2 fun p hp => hD p (.tail _ (.tail _ hp))
end
section
-- after: 15_tup 08_rules2
def bagP : Nat → List Int
  | 0 => [2, 1, 1] | 1 => [4, 2, 0] | 2 => [3, 3, 0] | 3 => [4, 1, 1] | 4 => [2, 2, 0] | 5 => [1, 1, 1] | 6 => [5, 1, 0] | _ => [3, 1, 0]
theorem headTO {h₀ h : Heap} {L D : Addr} {vs : List Value} {k : Nat} {r : List (Addr × Obj)} (N : News h₀ L h ((D, TO vs k) :: r)) : ∃ vs' r', vs' = vs ∧ r' = r ∧ News h₀ L h ((D, TO vs' k) :: r') := ⟨vs, r, rfl, rfl, N⟩
def rotP (r q : Nat) : List Int := (bagP r).drop q ++ (bagP r).take q
theorem keepHd {h₀ h : Heap} {L D : Addr} {o : Obj} {r r' : List (Addr × Obj)} (N : News h₀ L h ((D, o) :: r)) (hs : ∀ p ∈ r', p ∈ r) : News h₀ L h ((D, o) :: r') :=
  newsSub N fun p hp => (List.mem_cons.mp hp).elim (fun e => e ▸ .head _) fun hp => .tail _ (hs p hp)
theorem bag_call {w : World} {p : Program} {loose : List PySem.Str} {mean : ExcName → Option Value} {mg mb : PySem.Str → Option Value} {news : List (Addr × Obj)} (a b : Nat) (ta tb : Tok)
  (dp un : Nat) (fr : Option (List Env)) (gd : Option (List Code)) (h₀ : Heap) (L : Addr) (m : PySem.Str → Option Value) (s : Shared) (Q E : Value → Shared → Prop)
  (F : Fr h₀ L s.heap m) (X : (KF w.params).In h₀) (N : News h₀ L s.heap news) (T : Top p loose mean mg mb h₀) (hdp : dp + 200 < recursionLimit) (hun : un + 2000 < cLine)
  (hret : ∀ D cv k h' tk', Fr h₀ L h' m → IntsAre cv (rotP (a % 8) (b % 3)) → News h₀ L h' ((D, TO cv k) :: news) → (∀ p ∈ news, p.1 < D) → Q (.ref D) { s with heap := h', toks := tk' }) :
    wpAny (model PySem.Challenge.rw_sn0069_01.row.prog w) (Ar dp un fr gd) (call (.ref 157) [.int a ta, .int b tb]) Q E s := by
  revert X; k_fill; intro X
  k_dflt (refine' enterP (binds := [(PySem.Str.ofString "kind", .int a ta), (PySem.Str.ofString "turn", .int b tb)]) ?F ?X ?N ?T ?k6 ?k7 ?k8 ?k9 ?kB ?_ ?c2 ?c3 ?c4 ?c5; (case F => exact F); (case X => exact X); (case N => exact N); (case T => exact T); (case k6 => k_is); (case k7 => k_is); (case k8 => ktr_room); (case k9 => exact BindsTo.of_eq rfl); (case c5 => decide); (case kB => exact locs rfl); (case c2 => exact rfl); (case c3 => exact rfl); (case c4 => exact rfl))
  intro g' L' h' BK' F' N' X' T' l1
  clear F X N T
  (try dsimp only)
  (with_reducible show wpAny _ _ _ _ _ _)
  k_fold
  ktr_unf
  (with_reducible rename Fr _ _ _ _ => F9); (with_reducible rename News _ _ _ _ => N9)
  have e8 : ((a : Int)).fmod 8 = ((a % 8 : Nat) : Int) := (fdivmod_nat a 8).2
  have e3 : ((b : Int)).fmod 3 = ((b % 3 : Nat) : Int) := (fdivmod_nat b 3).2
  obtain ⟨r, hr⟩ : ∃ r, r = a % 8 := ⟨_, rfl⟩
  have hr8 : r < 8 := by omega
  obtain ⟨q, hq⟩ : ∃ q, q = b % 3 := ⟨_, rfl⟩
  have hq3 : q < 3 := by omega
  rw [← hr] at e8
  rw [← hq] at e3
  obtain ⟨vt, led, hvt, hled, N9⟩ := headTO N9
  have hel : ∃ (Bt : Addr) (x0 x1 x2 : Int) (t0 t1 t2 : Tok), vt[r]? = some (.ref Bt) ∧ (Bt, TO [.int x0 t0, .int x1 t1, .int x2 t2] 0) ∈ led ∧ bagP r = [x0, x1, x2] ∧ (∀ p ∈ news, p.1 < Bt) := by
    have h8 : r = 0 ∨ r = 1 ∨ r = 2 ∨ r = 3 ∨ r = 4 ∨ r = 5 ∨ r = 6 ∨ r = 7 := by omega
    rw [hvt, hled]
    rcases h8 with h | h | h | h | h | h | h | h <;> rw [h]
    · exact ⟨_, _, _, _, _, _, _, rfl, .tail _ (.tail _ (.tail _ (.tail _ (.tail _ (.tail _ (.tail _ (.head _))))))), rfl, fun p hp => by (with_reducible rename (∀ p ∈ news, p.1 < _) => q0); first | exact q0 p hp | exact ltOf (by assumption) p hp | exact ltOf (And.right (by assumption)) p hp | exact ltOf (And.right (And.right (by assumption))) p hp | exact ltOf (And.right (And.right (And.right (by assumption)))) p hp | exact ltOf (And.right (And.right (And.right (And.right (by assumption))))) p hp | exact ltOf (And.right (And.right (And.right (And.right (And.right (by assumption)))))) p hp | exact ltOf (And.right (And.right (And.right (And.right (And.right (And.right (by assumption))))))) p hp | exact ltOf (And.right (And.right (And.right (And.right (And.right (And.right (And.right (by assumption)))))))) p hp⟩
    · exact ⟨_, _, _, _, _, _, _, rfl, .tail _ (.tail _ (.tail _ (.tail _ (.tail _ (.tail _ (.head _)))))), rfl, fun p hp => by (with_reducible rename (∀ p ∈ news, p.1 < _) => q0); first | exact q0 p hp | exact ltOf (by assumption) p hp | exact ltOf (And.right (by assumption)) p hp | exact ltOf (And.right (And.right (by assumption))) p hp | exact ltOf (And.right (And.right (And.right (by assumption)))) p hp | exact ltOf (And.right (And.right (And.right (And.right (by assumption))))) p hp | exact ltOf (And.right (And.right (And.right (And.right (And.right (by assumption)))))) p hp | exact ltOf (And.right (And.right (And.right (And.right (And.right (And.right (by assumption))))))) p hp | exact ltOf (And.right (And.right (And.right (And.right (And.right (And.right (And.right (by assumption)))))))) p hp⟩
    · exact ⟨_, _, _, _, _, _, _, rfl, .tail _ (.tail _ (.tail _ (.tail _ (.tail _ (.head _))))), rfl, fun p hp => by (with_reducible rename (∀ p ∈ news, p.1 < _) => q0); first | exact q0 p hp | exact ltOf (by assumption) p hp | exact ltOf (And.right (by assumption)) p hp | exact ltOf (And.right (And.right (by assumption))) p hp | exact ltOf (And.right (And.right (And.right (by assumption)))) p hp | exact ltOf (And.right (And.right (And.right (And.right (by assumption))))) p hp | exact ltOf (And.right (And.right (And.right (And.right (And.right (by assumption)))))) p hp | exact ltOf (And.right (And.right (And.right (And.right (And.right (And.right (by assumption))))))) p hp | exact ltOf (And.right (And.right (And.right (And.right (And.right (And.right (And.right (by assumption)))))))) p hp⟩
    · exact ⟨_, _, _, _, _, _, _, rfl, .tail _ (.tail _ (.tail _ (.tail _ (.head _)))), rfl, fun p hp => by (with_reducible rename (∀ p ∈ news, p.1 < _) => q0); first | exact q0 p hp | exact ltOf (by assumption) p hp | exact ltOf (And.right (by assumption)) p hp | exact ltOf (And.right (And.right (by assumption))) p hp | exact ltOf (And.right (And.right (And.right (by assumption)))) p hp | exact ltOf (And.right (And.right (And.right (And.right (by assumption))))) p hp | exact ltOf (And.right (And.right (And.right (And.right (And.right (by assumption)))))) p hp | exact ltOf (And.right (And.right (And.right (And.right (And.right (And.right (by assumption))))))) p hp | exact ltOf (And.right (And.right (And.right (And.right (And.right (And.right (And.right (by assumption)))))))) p hp⟩
    · exact ⟨_, _, _, _, _, _, _, rfl, .tail _ (.tail _ (.tail _ (.head _))), rfl, fun p hp => by (with_reducible rename (∀ p ∈ news, p.1 < _) => q0); first | exact q0 p hp | exact ltOf (by assumption) p hp | exact ltOf (And.right (by assumption)) p hp | exact ltOf (And.right (And.right (by assumption))) p hp | exact ltOf (And.right (And.right (And.right (by assumption)))) p hp | exact ltOf (And.right (And.right (And.right (And.right (by assumption))))) p hp | exact ltOf (And.right (And.right (And.right (And.right (And.right (by assumption)))))) p hp | exact ltOf (And.right (And.right (And.right (And.right (And.right (And.right (by assumption))))))) p hp | exact ltOf (And.right (And.right (And.right (And.right (And.right (And.right (And.right (by assumption)))))))) p hp⟩
    · exact ⟨_, _, _, _, _, _, _, rfl, .tail _ (.tail _ (.head _)), rfl, fun p hp => by (with_reducible rename (∀ p ∈ news, p.1 < _) => q0); first | exact q0 p hp | exact ltOf (by assumption) p hp | exact ltOf (And.right (by assumption)) p hp | exact ltOf (And.right (And.right (by assumption))) p hp | exact ltOf (And.right (And.right (And.right (by assumption)))) p hp | exact ltOf (And.right (And.right (And.right (And.right (by assumption))))) p hp | exact ltOf (And.right (And.right (And.right (And.right (And.right (by assumption)))))) p hp | exact ltOf (And.right (And.right (And.right (And.right (And.right (And.right (by assumption))))))) p hp | exact ltOf (And.right (And.right (And.right (And.right (And.right (And.right (And.right (by assumption)))))))) p hp⟩
    · exact ⟨_, _, _, _, _, _, _, rfl, .tail _ (.head _), rfl, fun p hp => by (with_reducible rename (∀ p ∈ news, p.1 < _) => q0); first | exact q0 p hp | exact ltOf (by assumption) p hp | exact ltOf (And.right (by assumption)) p hp | exact ltOf (And.right (And.right (by assumption))) p hp | exact ltOf (And.right (And.right (And.right (by assumption)))) p hp | exact ltOf (And.right (And.right (And.right (And.right (by assumption))))) p hp | exact ltOf (And.right (And.right (And.right (And.right (And.right (by assumption)))))) p hp | exact ltOf (And.right (And.right (And.right (And.right (And.right (And.right (by assumption))))))) p hp | exact ltOf (And.right (And.right (And.right (And.right (And.right (And.right (And.right (by assumption)))))))) p hp⟩
    · exact ⟨_, _, _, _, _, _, _, rfl, .head _, rfl, fun p hp => by (with_reducible rename (∀ p ∈ news, p.1 < _) => q0); first | exact q0 p hp | exact ltOf (by assumption) p hp | exact ltOf (And.right (by assumption)) p hp | exact ltOf (And.right (And.right (by assumption))) p hp | exact ltOf (And.right (And.right (And.right (by assumption)))) p hp | exact ltOf (And.right (And.right (And.right (And.right (by assumption))))) p hp | exact ltOf (And.right (And.right (And.right (And.right (And.right (by assumption)))))) p hp | exact ltOf (And.right (And.right (And.right (And.right (And.right (And.right (by assumption))))))) p hp | exact ltOf (And.right (And.right (And.right (And.right (And.right (And.right (And.right (by assumption)))))))) p hp⟩
  have hsub : ∀ p ∈ news, p ∈ led := fun p hp => by rw [hled]; simp [hp]
  clear hvt hled
  obtain ⟨Bt, x0, x1, x2, t0, t1, t2, hx, hB, hbag, hlt⟩ := hel
  rw [e8]
  k_dflt (refine itemT N9 (.head _) (by omega) (by omega) (v := .ref Bt) (by rw [Int.toNat_natCast]; exact hx) ?_)
  have hq' : q = 0 ∨ q = 1 ∨ q = 2 := by omega
  ktr_unf
  rw [e3]
  have hrot : rotP (a % 8) (b % 3) = [x0, x1, x2].drop q ++ [x0, x1, x2].take q := by unfold rotP; rw [← hr, ← hq, hbag]
  rw [hrot] at hret
  (with_reducible rename Fr _ _ _ _ => F8); (with_reducible rename News _ _ _ _ => N8)
  rcases hq' with h | h | h <;> rw [h] at hret ⊢
  · k_dflt (refine tsliceAll F8 N8 (.tail _ hB) (.int _ _) .none rfl ?_ (by simp))
    intro h7 F7 N7
    ktr_unf
    rw [e3, h]
    (with_reducible rename Fr _ _ _ _ => F6); (with_reducible rename News _ _ _ _ => N6)
    k_dflt (refine tsliceNew (x := 0) (y := 0) (c := 0) (ys := []) F6 N6 (.tail _ hB) .none (.int _ _) rfl rfl (Nat.zero_lt_succ _) rfl ?_ (by simp))
    intro D5 h5 F5 N5 l5
    ktr_unf
    (with_reducible rename Fr _ _ _ _ => F4); (with_reducible rename News _ _ _ _ => N4)
    k_dflt (refine addT_nil N4 (.tail _ (.tail _ hB)) (.head _) (List.cons_ne_nil _ _) ?_)
    k_steps
    have hr := BK'.use F4 (newsSub N4 (news' := (Bt, TO [.int x0 t0, .int x1 t1, .int x2 t2] 0) :: news) fun p hp => ?_)
    · exact hret _ _ _ _ _ hr.1 (.cons _ _ (.cons _ _ (.cons _ _ .nil))) hr.2 hlt
    · rcases List.mem_cons.mp hp with rfl | hp
      · exact .tail _ (.tail _ hB)
      · exact .tail _ (.tail _ (hsub p hp))
  · k_dflt (refine tsliceNew (x := 1) (y := 3) (c := 2) (ys := [.int x1 t1, .int x2 t2]) F8 N8 (.tail _ hB) (.int _ _) .none rfl rfl (by simp) rfl ?_ (by simp))
    intro D7 h7 F7 N7 l7
    ktr_unf
    rw [e3, h]
    (with_reducible rename Fr _ _ _ _ => F6); (with_reducible rename News _ _ _ _ => N6)
    k_dflt (refine tsliceNew (x := 0) (y := 1) (c := 1) (ys := [.int x0 t0]) F6 N6 (.tail _ (.tail _ hB)) .none (.int _ _) rfl rfl (by simp) rfl ?_ (by simp))
    intro D5 h5 F5 N5 l5
    k_steps
    (with_reducible rename Fr _ _ _ _ => F4); (with_reducible rename News _ _ _ _ => N4)
    have hr := BK'.use F4 (keepHd N4 (r' := news) fun p hp => .tail _ (.tail _ (.tail _ (hsub p hp))))
    exact hret _ _ _ _ _ hr.1 (.cons _ _ (.cons _ _ (.cons _ _ .nil))) hr.2 (fun p hp => ltOf (And.right (And.right (And.right (by assumption)))) p (hsub p hp))
  · k_dflt (refine tsliceNew (x := 2) (y := 3) (c := 1) (ys := [.int x2 t2]) F8 N8 (.tail _ hB) (.int _ _) .none rfl rfl (by simp) rfl ?_ (by simp))
    intro D7 h7 F7 N7 l7
    ktr_unf
    rw [e3, h]
    (with_reducible rename Fr _ _ _ _ => F6); (with_reducible rename News _ _ _ _ => N6)
    k_dflt (refine tsliceNew (x := 0) (y := 2) (c := 2) (ys := [.int x0 t0, .int x1 t1]) F6 N6 (.tail _ (.tail _ hB)) .none (.int _ _) rfl rfl (by simp) rfl ?_ (by simp))
    intro D5 h5 F5 N5 l5
    k_steps
    (with_reducible rename Fr _ _ _ _ => F4); (with_reducible rename News _ _ _ _ => N4)
    have hr := BK'.use F4 (keepHd N4 (r' := news) fun p hp => .tail _ (.tail _ (.tail _ (hsub p hp))))
    exact hret _ _ _ _ _ hr.1 (.cons _ _ (.cons _ _ (.cons _ _ .nil))) hr.2 (fun p hp => ltOf (And.right (And.right (And.right (by assumption)))) p (hsub p hp))
end
section
-- after: 15_ell 14_table 12_nest
def sizeGo (w : List Nat) : Nat → Nat → Nat
  | 0, s => s
  | f + 1, s => if s < w.length ∧ ¬ w = ((w ++ w).drop s).take w.length then sizeGo w f (s + 1) else s
def sizeP (w : List Nat) : Nat := sizeGo w w.length 1
def ringP (w : List Nat) : List (List Nat) := (List.range (sizeP w)).map fun k => ((w ++ w).drop k).take w.length
def leftP (w : List Nat) (ws : List (List Nat)) : List (List Nat) := ws.filter fun o => !(ringP w).contains o
def ringsGo : Nat → List (List Nat) → List Int
  | 0, _ => []
  | _ + 1, [] => []
  | f + 1, w :: r => (sizeP w : Int) :: ringsGo f (leftP w (w :: r))
def ringsP (ws : List (List Nat)) : List Int := ringsGo ws.length ws
theorem sizeGo_ge (w : List Nat) : ∀ f s, s ≤ sizeGo w f s
  | 0, s => Nat.le_refl _
  | f + 1, s => by
    rw [sizeGo]
    split
    · exact Nat.le_trans (Nat.le_succ _) (sizeGo_ge w f (s + 1))
    · exact Nat.le_refl _
theorem sizeGo_le (w : List Nat) : ∀ f s, s ≤ w.length → sizeGo w f s ≤ w.length
  | 0, s, h => h
  | f + 1, s, h => by
    rw [sizeGo]
    split
    · rename_i h1; exact sizeGo_le w f (s + 1) h1.1
    · exact h
theorem left_lt (w : List Nat) (r : List (List Nat)) (h : w ≠ []) : (leftP w (w :: r)).length < (w :: r).length := by
  have hm : w ∈ ringP w := by
    unfold ringP
    refine List.mem_map.mpr ⟨0, List.mem_range.mpr (Nat.lt_of_lt_of_le Nat.zero_lt_one (sizeGo_ge w _ 1)), ?_⟩
    simp
  unfold leftP
  rw [List.filter_cons]
  have : (ringP w).contains w = true := List.contains_iff_mem.mpr hm
  rw [this]
  simp only [Bool.not_true, Bool.false_eq_true, if_false, List.length_cons]
  exact Nat.lt_succ_of_le (List.length_filter_le _ _)
theorem map1' {m m0 : PySem.Str → Option Value} {a : PySem.Str} {ua : Value} (ha : m a = some ua) (hm : ∀ z, z ≠ a → m z = m0 z) : m = fun z => if z = a then some ua else m0 z := by
  funext z
  by_cases h1 : z = a
  · rw [if_pos h1, h1]; exact ha
  · rw [if_neg h1]; exact hm z h1
theorem eqS (a b : List Nat) : (S a == S b) = (a == b) := by
  by_cases h : a = b
  · subst h; simp
  · have h2 : S a ≠ S b := fun e => h (by have := congrArg (fun x => x.cps.toList) e; simpa using this)
    rw [beq_eq_false_iff_ne.mpr h2, beq_eq_false_iff_ne.mpr h]
theorem WAre.strs : ∀ {vs : List Value} {ws : List (List Nat)}, WAre vs ws → StrsAre vs (ws.map S)
  | _, _, .nil => .nil
  | _, _, .cons w t h => .cons (S w) t h.strs
theorem anyS (o : List Nat) : ∀ ws : List (List Nat), (ws.map S).any (· == S o) = ws.contains o
  | [] => rfl
  | a :: r => by
    rw [List.map_cons, List.any_cons, anyS o r, eqS, List.contains_cons]
    congr 1
    by_cases h : a = o
    · subst h; rfl
    · rw [beq_eq_false_iff_ne.mpr h, beq_eq_false_iff_ne.mpr (Ne.symm h)]
theorem mapRL {m : PySem.Str → Option Value} {a b c : PySem.Str} {ua ub : Value} (ha : m a = some ua) (hb : m b = some ub) :
    m = fun z => if z = a then some ua else if z = b then some ub else if z = c then m z else m z := by
  funext z
  split
  · rename_i h; rw [h]; exact ha
  · split
    · rename_i h; rw [h]; exact hb
    · split <;> rfl
theorem mapRL' {m m0 : PySem.Str → Option Value} {a b c : PySem.Str} {ua ub : Value} (ha : m a = some ua) (hb : m b = some ub) (hm : ∀ z, z ≠ a → z ≠ b → z ≠ c → m z = m0 z) :
    m = fun z => if z = a then some ua else if z = b then some ub else if z = c then m z else m0 z := by
  funext z
  by_cases h1 : z = a
  · rw [if_pos h1, h1]; exact ha
  · rw [if_neg h1]
    by_cases h2 : z = b
    · rw [if_pos h2, h2]; exact hb
    · rw [if_neg h2]
      by_cases h3 : z = c
      · rw [if_pos h3]
      · rw [if_neg h3]; exact hm z h1 h2 h3
theorem rot4 {h₀ h : Heap} {L : Addr} {a b c d : Addr × Obj} {r : List (Addr × Obj)} (N : News h₀ L h (a :: b :: c :: d :: r)) : News h₀ L h (b :: c :: d :: a :: ([] ++ r)) := newsSub N fun p hp => by
  simp only [List.mem_cons, List.nil_append] at hp ⊢
  rcases hp with h | h | h | h | h <;> simp [h]
def SizeEnd (h₀ : Heap) (L : Addr) (led : List (Addr × Obj)) (m1 : PySem.Str → Option Value) (sz : Nat) (s : Shared) (f : Flow) (s₂ : Shared) : Prop :=
  f = .next ∧ ∃ h tk tz, s₂ = { s with heap := h, toks := tk } ∧ Fr h₀ L h (fun z => if z = PySem.Str.ofString "size" then some (.int (sz : Nat) tz) else m1 z) ∧ News h₀ L h led
abbrev RgInv (ws : List (List Nat)) (L' : Addr) (m0 : PySem.Str → Option Value) (news : List (Addr × Obj)) (n : Nat) (m₁ : PySem.Str → Option Value) (news₁ : List (Addr × Obj)) : Prop :=
  ∃ (R : Addr) (rv : List Value) (kr : Nat) (Ll : Addr) (lv : List Value) (kl : Nat) (left : List (List Nat)) (rs : List Int) (ob1 ob2 ob3 : Obj) (c1 c2 c3 : Option Value) (ext : List (Addr × Obj)) (u : PySem.Str → Option Value),
    m₁ = (fun z => if z = PySem.Str.ofString "left" then some (.ref Ll) else if z = PySem.Str.ofString "rings" then some (.ref R) else if z = PySem.Str.ofString "size" then u z else m0 z) ∧
    news₁ = (L' + 1 + 1 + 1, ob1) :: (L' + 1 + 1, ob2) :: (L' + 1, ob3) :: (R, LO rv kr) :: (ext ++ news) ∧
    ob1.data = .cell c1 ∧ ob2.data = .cell c2 ∧ ob3.data = .cell c3 ∧
    (Ll, LO lv kl) ∈ ext ++ news ∧ WAre lv left ∧ (∀ o ∈ left, o ∈ ws) ∧ left.length ≤ n ∧ IntsAre rv rs ∧ rs ++ ringsGo n left = ringsP ws ∧ rs.length + n ≤ 1000 ∧ L' + 1 + 1 + 1 < R ∧ (∀ p ∈ ext, R < p.1)
abbrev RgSz (wd : List Nat) (m1 : PySem.Str → Option Value) (led : List (Addr × Obj)) (n : Nat) (m₁ : PySem.Str → Option Value) (news₁ : List (Addr × Obj)) : Prop :=
  ∃ (sz : Nat) (tz : Tok), m₁ = (fun z => if z = PySem.Str.ofString "size" then some (.int (sz : Int) tz) else m1 z) ∧ news₁ = led ∧ 1 ≤ sz ∧ sz + n = wd.length + 1 ∧ sizeGo wd n sz = sizeP wd
abbrev RgJ1 (wd : List Nat) (led : List (Addr × Obj)) (j : Nat) (ys : List Value) (nx : List (Addr × Obj)) : Prop := nx = led ∧ WAre ys ((List.range j).map fun k => ((wd ++ wd).drop k).take wd.length)
abbrev RgJ2 (wd : List Nat) (lw2 : List (List Nat)) (led : List (Addr × Obj)) (j : Nat) (zs : List Value) (nx : List (Addr × Obj)) : Prop := nx = led ∧ WAre zs ((lw2.take j).filter fun o => !(ringP wd).contains o)
theorem rings_call {w : World} {p : Program} {loose : List PySem.Str} {mean : ExcName → Option Value} {mg mb : PySem.Str → Option Value} {news : List (Addr × Obj)} {lw : Addr} {vs : List Value} {k : Nat} (ws : List (List Nat)) (N : Nat)
  (hl : (lw, LO vs k) ∈ news) (hvs : WAre vs ws) (hwd : ∀ w ∈ ws, (∀ c ∈ w, c ≠ 46) ∧ w.length = N) (hN : 0 < N) (hN2 : N ≤ 10) (hwn : ws.length ≤ 1000)
  (dp un : Nat) (fr : Option (List Env)) (gd : Option (List Code)) (h₀ : Heap) (L : Addr) (m : PySem.Str → Option Value) (s : Shared) (Q E : Value → Shared → Prop)
  (F : Fr h₀ L s.heap m) (X : (KF w.params).In h₀) (N₀ : News h₀ L s.heap news) (T : Top p loose mean mg mb h₀) (hdp : dp + 300 < recursionLimit) (hun : un + 3000 < cLine)
  (hret : ∀ D xs k' h' tk', Fr h₀ L h' m → IntsAre xs (ringsP ws) → News h₀ L h' ((D, LO xs k') :: news) → (∀ p ∈ news, p.1 < D) → Q (.ref D) { s with heap := h', toks := tk' }) :
    wpAny (model PySem.Challenge.rw_sn0069_01.row.prog w) (Ar dp un fr gd) (call (.ref 179) [.ref lw]) Q E s := by
  revert X; k_fill; intro X
  k_dflt (refine' enterC (binds := [(PySem.Str.ofString "words", .ref lw)]) ?F ?X ?N ?T ?k6 ?k7 ?k8 ?k9 ?kB ?kD ?_ ?c2 ?c3 ?c4; (case F => exact F); (case X => exact X); (case N => exact N₀); (case T => exact T); (case k6 => k_is); (case k7 => k_is); (case k8 => ktr_room); (case k9 => exact BindsTo.of_eq rfl); (case kB => exact rfl); (case kD => decide +kernel); (case c2 => exact rfl); (case c3 => exact rfl); (case c4 => exact rfl))
  intro g' L' h' tk' cells' BK' F' N' Y' X' T' l1
  k_cells Y'
  rename_i o1 o2 o3 d1 d2 d3
  have e1 : o1.data = .cell none := d1
  have e2 : o2.data = .cell none := d2
  have e3 : o3.data = .cell none := d3
  clear d1 d2 d3
  simp only [List.cons_append, List.nil_append] at N'
  clear F X N₀ T
  (try dsimp only)
  (with_reducible show wpAny _ _ _ _ _ _)
  k_fold
  ktr_unf
  (with_reducible rename Fr _ _ _ _ => F9); (with_reducible rename News _ _ _ _ => N9)
  (with_reducible rename (L' + 1 + 1 + 1 < _ ∧ _) => lD)
  obtain ⟨m0, hm0, F9⟩ := namedMap F9
  k_dflt (refine While_inv (L := L') (n₀ := ws.length) (RgInv ws L' m0 news) F9 (rot4 N9) ?_ ?_)
  · subst hm0
    exact ⟨_, [], 0, lw, vs, k, ws, [], o1, o2, o3, _, _, _, [], _, mapRL rfl rfl, rfl, e1, e2, e3, hl, hvs, fun _ h => h, Nat.le_refl _, .nil, rfl, by simpa using hwn, lD.1, fun p hp => nomatch hp⟩
  · intro n m₁ news₁ h9 tk9 F8 N8 hq1
    refine ex8 hq1 fun R rv kr Ll lv kl left rs hq4 => ?_; refine ex8 hq4 fun ob1 ob2 ob3 c1 c2 c3 ext u hq5 => an14 hq5 fun eq_2 eq_3 hc1 hc2 hc3 hLl hlv hsub hln hrv hrs hrn hR hext => ?_
    clear hq1 hq4 hq5
    subst eq_2
    subst eq_3
    subst hm0
    have hLm : (Ll, LO lv kl) ∈ (L' + 1 + 1 + 1, ob1) :: (L' + 1 + 1, ob2) :: (L' + 1, ob3) :: (R, LO rv kr) :: (ext ++ news) := .tail _ (.tail _ (.tail _ (.tail _ hLl)))
    have hlvl := hlv.length
    ktr_unf
    · (with_reducible rename List.isEmpty _ = true => hne)
      (with_reducible rename Fr _ _ _ _ => F7); (with_reducible rename News _ _ _ _ => N7)
      have hl0 : left = [] := by
        cases hlv with
        | nil => rfl
        | cons wd tw h => cases hne
      subst hl0
      have hrg : ringsGo n [] = [] := by cases n <;> rfl
      rw [hrg, List.append_nil] at hrs
      subst hrs
      have hr := BK'.use F7 (newsSub N7 (news' := (R, LO rv kr) :: news) fun p hp => (List.mem_cons.mp hp).elim (fun e => e ▸ .tail _ (.tail _ (.tail _ (.head _)))) fun hp => .tail _ (.tail _ (.tail _ (.tail _ (List.mem_append_right _ hp)))))
      exact hret _ _ _ _ _ hr.1 hrv hr.2 fun p hp => Nat.lt_of_lt_of_le (l1 p hp) (Nat.le_of_lt (Nat.lt_trans (Nat.lt_succ_of_lt (Nat.lt_succ_of_lt (Nat.lt_succ_self _))) hR))
    · (with_reducible rename List.isEmpty _ = false => hne)
      (with_reducible rename Fr _ _ _ _ => F7); (with_reducible rename News _ _ _ _ => N7)
      obtain ⟨wd, tw, r, lvr, rfl, rfl⟩ : ∃ wd tw r lvr, left = wd :: r ∧ lv = .str (S wd) tw :: lvr := by
        cases hlv with
        | nil => cases hne
        | cons wd tw h => exact ⟨wd, tw, _, _, rfl, rfl⟩
      have hwm := hsub wd (.head _)
      obtain ⟨h46, hwl⟩ := hwd wd hwm
      have hlS : PySem.Str.length (S wd) = wd.length := sLen wd
      replace hR := ltN hR
      have hlt : ∀ p ∈ ext ++ news, p.1 < L' ∨ R < p.1 := fun p hp => (List.mem_append.mp hp).elim (fun h => .inr (hext p h)) fun h => .inl (l1 p h)
      have hx1 : ∀ p ∈ ext ++ news, p.1 ≠ L' + 1 := fun p hp e => by have h := hlt p hp; rw [e] at h; exact h.elim (fun h => absurd (ltN h) (by omega)) fun h => absurd (ltN h) (by omega)
      have hx2 : ∀ p ∈ ext ++ news, p.1 ≠ L' + 1 + 1 := fun p hp e => by have h := hlt p hp; rw [e] at h; exact h.elim (fun h => absurd (ltN h) (by omega)) fun h => absurd (ltN h) (by omega)
      have hx3 : ∀ p ∈ ext ++ news, p.1 ≠ L' + 1 + 1 + 1 := fun p hp e => by have h := hlt p hp; rw [e] at h; exact h.elim (fun h => absurd (ltN h) (by omega)) fun h => absurd (ltN h) (by omega)
      have hx4 : ∀ p ∈ ext ++ news, p.1 ≠ R := fun p hp e => by have h := hlt p hp; rw [e] at h; exact h.elim (fun h => absurd (ltN h) (by omega)) fun h => absurd (ltN h) (by omega)
      k_dflt (refine itemL N7 hLm (by omega) (by omega) (v := .str (S wd) tw) rfl ?_)
      ktr_unf
      rename_i oT dT tT _ _ _ oW dW _ _ _
      rw [sApp] at dW
      (with_reducible rename Fr _ _ _ _ => F6); (with_reducible rename News _ _ _ _ => N6)
      obtain ⟨m1, hm1, F6⟩ := namedMap F6
      obtain ⟨led, hled⟩ : ∃ led, led = (L' + 1 + 1 + 1, ob1) :: (L' + 1 + 1, oW) :: (L' + 1, oT) :: (R, LO rv kr) :: (ext ++ news) := ⟨_, rfl⟩
      rw [← hled] at N6
      k_dflt (refine wpAny_mono (While_inv (L := L') (n₀ := wd.length) (RgSz wd m1 led)
        (Q := SizeEnd g' L' led m1 (sizeP wd) s) F6 N6 ?_ ?_) (fun f s₂ hQ => ?_) (fun _ _ e => e))
      · subst hm1
        exact ⟨1, _, mapOne rfl [], rfl, Nat.le_refl _, by omega, rfl⟩
      · clear F6 N6
        intro n2 m₁ news₁ h5 tk5 F5 N5 hq6
        refine ex2 hq6 fun sz tz hq9 => an5 hq9 fun eq_7 eq_8 hz1 hz2 hz3 => ?_
        clear hq6 hq9
        subst eq_7
        subst eq_8
        subst hm1
        rw [hled] at N5
        have hlW : PySem.Str.length (S (wd ++ wd)) = wd.length + wd.length := by rw [sLen, List.length_append]
        have hn1 : n2 = (n2 - 1) + 1 ∨ n2 = 0 := by omega
        have hdr : ((wd ++ wd).drop sz).length = wd.length + wd.length - sz := by rw [List.length_drop, List.length_append]
        ktr_unf
        · rw [dotsS, sApp, sFrom (show sz ≤ (wd ++ wd).length by rw [List.length_append]; omega)]
          (with_reducible rename Fr _ _ _ _ => F4); (with_reducible rename News _ _ _ _ => N4)
          k_dflt (refine ell_call wd ((wd ++ wd).drop sz) _ _ h46 (fun e => by rw [e] at hwl; simp at hwl; omega) (by omega) (by rw [hdr]; omega) (by rw [hdr]; omega) _ _ _ _ _ _ _ _ _ _ F4 X' N4 T' (by ktr_room) (by ktr_units) ?_)
          intro h3 tk3 F3 N3
          have hzl : sz < wd.length := by (with_reducible rename (sz : Int) < _ => q); omega
          obtain ⟨n3, rfl⟩ : ∃ n3, n2 = n3 + 1 := ⟨n2 - 1, by omega⟩
          rw [sizeGo] at hz3
          ktr_unf
          · (with_reducible rename wd = List.take _ _ => hyes)
            rw [if_neg (fun h => h.2 hyes)] at hz3
            rw [← hz3]
            exact ⟨rfl, _, _, _, rfl, F3, by rw [hled]; exact N3⟩
          · (with_reducible rename ¬ wd = List.take _ _ => hno)
            rw [if_pos ⟨hzl, hno⟩] at hz3
            (with_reducible rename Fr _ _ _ _ => F2); (with_reducible rename News _ _ _ _ => N2)
            exact WhileStep.intro F2 (by rw [hled]; exact N2) (Nat.lt_succ_self _) ⟨sz + 1, _, map1' rfl (fun z h1 => by simp only [if_neg h1]), rfl, by omega, by omega, hz3⟩
        · (with_reducible rename Fr _ _ _ _ => F4); (with_reducible rename News _ _ _ _ => N4)
          have hsz : sz = sizeP wd := by
            rw [← hz3]
            cases n2 with
            | zero => rfl
            | succ n3 => rw [sizeGo, if_neg (fun h => by omega)]
          rw [← hsz]
          exact ⟨rfl, _, _, _, rfl, F4, by rw [hled]; exact N4⟩
      · clear F6 N6
        refine an2 hQ fun eq_10 hq11 => ?_
        clear hQ
        subst eq_10
        refine ex3 hq11 fun h5 tk5 tz hq13 => an3 hq13 fun eq_12 F5 N5 => ?_
        clear hq11 hq13
        subst eq_12
        subst hm1
        rw [hled] at N5
        have hz1 : 1 ≤ sizeP wd := sizeGo_ge wd _ 1
        have hz2 : sizeP wd ≤ wd.length := sizeGo_le wd _ 1 (by omega)
        ktr_unf
        (with_reducible rename Fr _ _ _ _ => F4); (with_reducible rename News _ _ _ _ => N4)
        rw [List.push_toArray] at N4
        obtain ⟨szw, hszw⟩ : ∃ szw, szw = sizeP wd := ⟨_, rfl⟩
        rw [← hszw] at F4 N4 hz1 hz2
        k_dflt (refine' wpAny_Assign_Name ?_ ?hsw)
        case hsw => exact rfl
        have hlW : PySem.Str.length (S (wd ++ wd)) = wd.length + wd.length := by rw [sLen, List.length_append]
        k_dflt (refine' evalComp (h₀ := g') (L := L') (n := szw) (P := fun i v => i < szw ∧ ∃ t, v = .int ((0 : Int) + (i : Int)) t) (cl := ?clv) (J := RgJ1 wd ((L' + 1 + 1 + 1, ob1) :: (L' + 1 + 1, oW) :: (L' + 1, oT) :: (R, LO (rv ++ [.int (szw : Nat) tz]) (kr + 1)) :: (ext ++ news))) ?cl ?ce ?ki ?na ?ht ?sz ?src)
        case cl => exact rfl
        case ce => decide
        case ki => rfl
        case na => decide
        case ht => intro _ _; rfl
        case sz => rw [sizeLine_eq]; omega
        case src =>
          ktr_unf
          rename_i hr3 F3 N3 _
          k_dflt (refine srcRange rfl hr3 (rngSmall (by omega) (by omega) (by omega)) (n := szw) (rngSize (by omega)) F3 N3 ?_)
          intro h3 tk3 I3 hS3
          refine CSrc.intro hS3 ⟨rfl, .nil⟩ ?_ ?_
          · intro g C D hlD hsg j v ys nx mm h2 tk2 own2 k2 hj hjl hq16 hq17 hoff hD2 hfp2 hwr2 F2 N2
            refine an2 hq16 fun _ hq19 => ?_
            clear hq16
            refine ex1 hq19 fun t2 eq_20 => ?_
            clear hq19
            subst eq_20
            refine an2 hq17 fun eq_21 hy => ?_
            clear hq17
            subst eq_21
            have Tg := T'.keeps hsg
            have Xg := X'.keeps hsg
            simp only [List.cons_append, List.append_assoc] at N2
            ktr_unf
            (with_reducible rename Fr _ _ _ _ => F1); (with_reducible rename News _ _ _ _ => N1)
            rw [show (0 : Int) + (j : Int) + ((S wd).length : Int) = ((j + wd.length : Nat) : Int) by rw [sLen]; omega, Int.zero_add, sFT (show j ≤ j + wd.length by omega) (by rw [List.length_append]; omega), show j + wd.length - j = wd.length by omega]
            refine CEnd.intro ((L' + 1 + 1 + 1, ob1) :: (L' + 1 + 1, oW) :: (L' + 1, oT) :: (R, LO (rv ++ [.int (szw : Nat) tz]) (kr + 1)) :: (ext ++ news)) F1 N1 (.head _) ?_ ?_ hoff ⟨rfl, ?_⟩
            · exact (sub_skip (sub_keep (sub_keep (sub_keep (sub_keep (sub_app (sub_inl sub_refl) (sub_inr (sub_inl sub_refl))))))))
            · exact (sub_skip (sub_skip (sub_skip (sub_skip (sub_skip (sub_inr (sub_inr sub_refl)))))))
            · rw [List.range_succ, List.map_append]
              exact hy.append (.cons _ _ .nil)
          · intro D h2 tk2 ys nx k2 hoD hlD F2 N2 hq22
            refine an2 hq22 fun eq_23 hy => ?_
            clear hq22
            subst eq_23
            have hDr := hlD
            k_lt hlD
            ktr_unf
            rename_i oR F1 N1 dR
            have hyR : WAre ys (ringP wd) := by unfold ringP; rw [← hszw]; exact hy
            obtain ⟨lv, hlve⟩ : ∃ lv, lv = .str (S wd) tw :: lvr := ⟨_, rfl⟩
            obtain ⟨lw2, hlwe⟩ : ∃ lw2, lw2 = wd :: r := ⟨_, rfl⟩
            rw [← hlve] at hlvl hLl hlv
            rw [← hlwe] at hlvl hlv hsub hln
            have hlw1 : lw2.length ≤ 1000 := by omega
            k_dflt (refine' assignComp (h₀ := g') (n := lv.length) (P := fun i v => lv[i]? = some v) (cl := ?clw) (J := RgJ2 wd lw2 ((D, LO ys k2) :: (L' + 1 + 1 + 1, oR) :: (L' + 1 + 1, oW) :: (L' + 1, oT) :: (R, LO (rv ++ [.int (szw : Nat) tz]) (kr + 1)) :: (ext ++ news))) ?sw ?cl ?ce ?ki ?na ?hy ?hp ?ht ?sz ?src)
            case sw => exact rfl
            case cl => exact rfl
            case ce => decide
            case ki => rfl
            case na => decide
            case hy => rfl
            case hp => rfl
            case ht => intro _ _; rfl
            case sz => rw [sizeLine_eq]; omega
            case src =>
              ktr_unf
              k_dflt (refine srcList rfl (.tail _ (.tail _ (.tail _ (.tail _ (.tail _ hLl))))) F1 N1 ?_)
              intro h7 tk7 I3 hS3
              refine CSrc.intro hS3 ⟨rfl, .nil⟩ ?_ ?_
              · intro g C D2 hlD2 hsg j v zs nx mm h4 tk4 own4 k4 hj hjl hv hq26 hoff hD4 hfp4 hwr4 F4 N4
                refine an2 hq26 fun eq_28 hz => ?_
                clear hq26
                subst eq_28
                have Tg := T'.keeps hsg
                have Xg := X'.keeps hsg
                refine ex2 (hlv.get hv) fun o to hq30 => an2 hq30 fun eq_29 ho => ?_
                clear hq30
                subst eq_29
                simp only [List.cons_append, List.append_assoc] at N4
                ktr_unf
                (with_reducible rename News _ _ _ _ => N8)
                k_dflt (refine notin_list_strs (isL N8 (.tail _ (.head _))) hyR.strs ?_)
                rw [anyS]
                have htk : (lw2.take (j + 1)).filter (fun o => !(ringP wd).contains o) = (lw2.take j).filter (fun o => !(ringP wd).contains o) ++ [o].filter (fun o => !(ringP wd).contains o) := by rw [List.take_add_one, ho, Option.toList_some, List.filter_append]
                cases hb : (ringP wd).contains o
                · rw [List.filter_cons, hb] at htk
                  ktr_unf
                  (with_reducible rename Fr _ _ _ _ => F2); (with_reducible rename News _ _ _ _ => N2)
                  refine CEnd.intro ((D, LO ys k2) :: (L' + 1 + 1 + 1, oR) :: (L' + 1 + 1, oW) :: (L' + 1, oT) :: (R, LO (rv ++ [.int (szw : Nat) tz]) (kr + 1)) :: (ext ++ news)) F2 N2 (.head _) ?_ ?_ hoff ⟨rfl, ?_⟩
                  · exact (sub_skip (sub_keep (sub_keep (sub_keep (sub_keep (sub_keep (sub_app (sub_inl sub_refl) (sub_inr (sub_inl sub_refl)))))))))
                  · exact (sub_skip (sub_skip (sub_skip (sub_skip (sub_skip (sub_skip (sub_inr (sub_inr sub_refl))))))))
                  · rw [htk]
                    exact hz.append (.cons _ _ .nil)
                · rw [List.filter_cons, hb] at htk
                  ktr_unf
                  (with_reducible rename Fr _ _ _ _ => F2); (with_reducible rename News _ _ _ _ => N2)
                  refine CEnd.intro ((D, LO ys k2) :: (L' + 1 + 1 + 1, oR) :: (L' + 1 + 1, oW) :: (L' + 1, oT) :: (R, LO (rv ++ [.int (szw : Nat) tz]) (kr + 1)) :: (ext ++ news)) F2 N2 (.head _) ?_ ?_ hoff ⟨rfl, ?_⟩
                  · exact (sub_skip (sub_keep (sub_keep (sub_keep (sub_keep (sub_keep (sub_app (sub_inl sub_refl) (sub_inr (sub_inl sub_refl)))))))))
                  · exact (sub_skip (sub_skip (sub_skip (sub_skip (sub_skip (sub_skip (sub_inr (sub_inr sub_refl))))))))
                  · rw [htk]
                    simpa using hz
              · intro D2 h4 tk4 zs nx k4 hoD2 hlD2 F4 N4 hq31
                refine an2 hq31 fun eq_32 hz => ?_
                clear hq31
                subst eq_32
                ktr_unf
                obtain ⟨n3, rfl⟩ : ∃ n3, n = n3 + 1 := ⟨n - 1, by rw [hlwe] at hln; simp at hln; omega⟩
                rw [hlvl, List.take_length] at hz
                have hlf : lw2.filter (fun o => !(ringP wd).contains o) = leftP wd (wd :: r) := by rw [hlwe]; rfl
                rw [hlf] at hz
                have hRD : R < D2 := hlD2 (R, LO (rv ++ [.int (szw : Nat) tz]) (kr + 1)) (.tail _ (.tail _ (.tail _ (.tail _ (.head _)))))
                refine WhileStep.intro F4 (newsSub N4 (news' := (L' + 1 + 1 + 1, oR) :: (L' + 1 + 1, oW) :: (L' + 1, oT) :: (R, LO (rv ++ [.int (szw : Nat) tz]) (kr + 1)) :: ([(D2, LO zs k4)] ++ news)) (sub_cons (.tail _ (.tail _ (.head _))) (sub_cons (.tail _ (.tail _ (.tail _ (.head _)))) (sub_cons (.tail _ (.tail _ (.tail _ (.tail _ (.head _))))) (sub_cons (.tail _ (.tail _ (.tail _ (.tail _ (.tail _ (.head _)))))) (sub_app (sub_keep sub_nil) (sub_skip (sub_skip (sub_skip (sub_skip (sub_skip (sub_skip (sub_inr sub_refl))))))))))))) (Nat.lt_succ_self n3) ⟨R, _, _, D2, zs, k4, leftP wd (wd :: r), rs ++ [(szw : Int)], oR, oW, oT, _, _, _, [(D2, LO zs k4)], _, mapRL' rfl rfl (fun z h1 h2 h3 => by simp only [if_neg h1, if_neg h2, if_neg h3]), rfl, dR, dW, dT, .head _, hz, ?_, ?_, ?_, ?_, ?_, hR, ?_⟩
                · intro o ho
                  exact hsub o (hlwe ▸ (List.mem_filter.mp ho).1)
                · have h1 := left_lt wd r (fun e => by rw [e] at hwl; simp at hwl; omega)
                  rw [hlwe] at hln
                  omega
                · exact hrv.append (.cons _ _ .nil)
                · rw [← hrs, ringsGo, List.append_assoc, hszw]; rfl
                · rw [List.length_append]; simp; omega
                · intro p hp
                  rw [List.mem_singleton.mp hp]
                  exact hRD
end
section
-- after: 14_rules5
open PySem.Flt
def fmx (x y : UInt64) : UInt64 := if (Float64.cmp x y == some .lt) = true then y else x
def fmn (x y : UInt64) : UInt64 := if (Float64.cmp y x == some .lt) = true then y else x
section
variable {prog : Program} {w : World} {A : Around} {E : Value → Shared → Prop} {s : Shared}
theorem max_three_num {Q : Value → Shared → Prop} {a b c : Value} (hh : A.handled = none) (ha : NumV a) (hb : NumV b) (hc : NumV c)
    (h : ∀ h' tk, (∀ c o, s.heap.get? c = some o → h'.get? c = some o) → Q (if ltV a b then (if ltV b c then c else b) else (if ltV a c then c else a)) { s with heap := h', toks := tk }) :
    wpAny (model prog w) A (call (.builtin "max") [a, b, c]) Q E s := by
  have hT : (s.heap.push { cls := .type "tuple", data := .seq #[a, b, c] }).IsTuple s.heap.objs.size #[a, b, c] := ⟨_, Heap.get?_push_size _ rfl, rfl, 0, rfl⟩
  refine call_max_three (wpAny_pyIter_tuple hT ?_)
  have hsz : (s.heap.push { cls := .type "tuple", data := .seq #[a, b, c] }).objs.size = s.heap.objs.size + 1 := Heap.size_push ..
  refine ⟨_, [_, s.heap.objs.size], [_], _, _, _, _, rfl, Walks.tuple (A := A.in1) hh _ s.heap.objs.size (by rw [hsz]; exact Nat.ne_of_lt (Nat.lt_succ_self _)) #[a, b, c],
    ⟨⟨_, Heap.get?_push_size _ rfl, rfl, rfl⟩, hT.push _⟩, fun c hc => ?_, by simp, cmpOf_gt #[a, b, c] (by simp [ha, hb, hc]), fun v h' tk hP hk => ?_⟩
  · show c < ((s.heap.push _).push _).objs.size
    rw [Heap.size_push, hsz]
    rcases List.mem_cons.mp hc with rfl | hc
    · rw [hsz]; exact Nat.lt_succ_self _
    · rcases List.mem_cons.mp hc with rfl | hc
      · exact Nat.lt_succ_of_lt (Nat.lt_succ_self _)
      · cases hc
  · have hold : ∀ c o, s.heap.get? c = some o → h'.get? c = some o := fun c o e => by
      refine hk c o (fun hm => ?_) (Heap.get?_push_of_some _ (Heap.get?_push_of_some _ e))
      rcases List.mem_cons.mp hm with e1 | hm
      · have := Heap.lt_size e; rw [e1, hsz] at this; exact Nat.lt_irrefl _ (Nat.lt_of_succ_lt this)
      · cases hm
    have := h h' tk hold
    have hv : v = if ltV a b then (if ltV b c then c else b) else (if ltV a c then c else a) := by
      cases h1 : ltV a b <;> cases h2 : ltV b c <;> cases h3 : ltV a c <;> simp [argBest, h1, h2, h3] at hP <;> simp [hP]
    rw [hv]; exact this
theorem min_three_num {Q : Value → Shared → Prop} {a b c : Value} (hh : A.handled = none) (ha : NumV a) (hb : NumV b) (hc : NumV c)
    (h : ∀ h' tk, (∀ c o, s.heap.get? c = some o → h'.get? c = some o) → Q (if ltV b a then (if ltV c b then c else b) else (if ltV c a then c else a)) { s with heap := h', toks := tk }) :
    wpAny (model prog w) A (call (.builtin "min") [a, b, c]) Q E s := by
  have hT : (s.heap.push { cls := .type "tuple", data := .seq #[a, b, c] }).IsTuple s.heap.objs.size #[a, b, c] := ⟨_, Heap.get?_push_size _ rfl, rfl, 0, rfl⟩
  refine call_min_three (wpAny_pyIter_tuple hT ?_)
  have hsz : (s.heap.push { cls := .type "tuple", data := .seq #[a, b, c] }).objs.size = s.heap.objs.size + 1 := Heap.size_push ..
  refine ⟨_, [_, s.heap.objs.size], [_], _, _, _, _, rfl, Walks.tuple (A := A.in1) hh _ s.heap.objs.size (by rw [hsz]; exact Nat.ne_of_lt (Nat.lt_succ_self _)) #[a, b, c],
    ⟨⟨_, Heap.get?_push_size _ rfl, rfl, rfl⟩, hT.push _⟩, fun c hc => ?_, by simp, cmpOf_lt #[a, b, c] (by simp [ha, hb, hc]), fun v h' tk hP hk => ?_⟩
  · show c < ((s.heap.push _).push _).objs.size
    rw [Heap.size_push, hsz]
    rcases List.mem_cons.mp hc with rfl | hc
    · rw [hsz]; exact Nat.lt_succ_self _
    · rcases List.mem_cons.mp hc with rfl | hc
      · exact Nat.lt_succ_of_lt (Nat.lt_succ_self _)
      · cases hc
  · have hold : ∀ c o, s.heap.get? c = some o → h'.get? c = some o := fun c o e => by
      refine hk c o (fun hm => ?_) (Heap.get?_push_of_some _ (Heap.get?_push_of_some _ e))
      rcases List.mem_cons.mp hm with e1 | hm
      · have := Heap.lt_size e; rw [e1, hsz] at this; exact Nat.lt_irrefl _ (Nat.lt_of_succ_lt this)
      · cases hm
    have := h h' tk hold
    have hv : v = if ltV b a then (if ltV c b then c else b) else (if ltV c a then c else a) := by
      cases h1 : ltV b a <;> cases h2 : ltV c b <;> cases h3 : ltV c a <;> simp [argBest, h1, h2, h3] at hP <;> simp [hP]
    rw [hv]; exact this
end
section
variable {prog : Program} {w : World} {A : Around} {E : Value → Shared → Prop} {s : Shared} {h₀ : Heap} {L : Addr} {m : PySem.Str → Option Value} {news : List (Addr × Obj)} {x y z : UInt64} {t u v : Tok} {Q : Value → Shared → Prop}
theorem max3f (hh : A.handled = none) (F : Fr h₀ L s.heap m) (N : News h₀ L s.heap news) (h : ∀ h' tk v, ((Float64.cmp x y == some .lt) = false → (Float64.cmp x z == some .lt) = false → v = t) → Fr h₀ L h' m → News h₀ L h' news → Q (.float (fmx (fmx x y) z) v) { s with heap := h', toks := tk }) :
    wpAny (model prog w) A (call (.builtin "max") [.float x t, .float y u, .float z v]) Q E s := by
  refine max_three_num hh (.float x t) (.float y u) (.float z v) fun h' tk kp => ?_
  have h1 := fun v hv => h h' tk v hv (F.grownK kp) (N.grown kp)
  unfold fmx at h1
  by_cases c1 : ltV (.float x t) (.float y u) = true
  · rw [if_pos c1]; rw [if_pos (show (Float64.cmp x y == some .lt) = true from c1)] at h1
    have hn : ∀ {v : Tok}, (Float64.cmp x y == some .lt) = false → (Float64.cmp x z == some .lt) = false → v = t := fun q _ => absurd (show (Float64.cmp x y == some .lt) = true from c1) (by rw [q]; decide)
    by_cases c2 : ltV (.float y u) (.float z v) = true
    · rw [if_pos c2]; rw [if_pos (show (Float64.cmp y z == some .lt) = true from c2)] at h1; exact h1 _ hn
    · rw [if_neg c2]; rw [if_neg (show ¬ (Float64.cmp y z == some .lt) = true from c2)] at h1; exact h1 _ hn
  · rw [if_neg c1]; rw [if_neg (show ¬ (Float64.cmp x y == some .lt) = true from c1)] at h1
    by_cases c2 : ltV (.float x t) (.float z v) = true
    · rw [if_pos c2]; rw [if_pos (show (Float64.cmp x z == some .lt) = true from c2)] at h1
      exact h1 _ fun _ q => absurd (show (Float64.cmp x z == some .lt) = true from c2) (by rw [q]; decide)
    · rw [if_neg c2]; rw [if_neg (show ¬ (Float64.cmp x z == some .lt) = true from c2)] at h1; exact h1 _ fun _ _ => rfl
theorem min3f (hh : A.handled = none) (F : Fr h₀ L s.heap m) (N : News h₀ L s.heap news) (h : ∀ h' tk v, Fr h₀ L h' m → News h₀ L h' news → Q (.float (fmn (fmn x y) z) v) { s with heap := h', toks := tk }) :
    wpAny (model prog w) A (call (.builtin "min") [.float x t, .float y u, .float z v]) Q E s := by
  refine min_three_num hh (.float x t) (.float y u) (.float z v) fun h' tk kp => ?_
  have h1 := fun v => h h' tk v (F.grownK kp) (N.grown kp)
  unfold fmn at h1
  by_cases c1 : ltV (.float y u) (.float x t) = true
  · rw [if_pos c1]; rw [if_pos (show (Float64.cmp y x == some .lt) = true from c1)] at h1
    by_cases c2 : ltV (.float z v) (.float y u) = true
    · rw [if_pos c2]; rw [if_pos (show (Float64.cmp z y == some .lt) = true from c2)] at h1; exact h1 _
    · rw [if_neg c2]; rw [if_neg (show ¬ (Float64.cmp z y == some .lt) = true from c2)] at h1; exact h1 _
  · rw [if_neg c1]; rw [if_neg (show ¬ (Float64.cmp y x == some .lt) = true from c1)] at h1
    by_cases c2 : ltV (.float z v) (.float x t) = true
    · rw [if_pos c2]; rw [if_pos (show (Float64.cmp z x == some .lt) = true from c2)] at h1; exact h1 _
    · rw [if_neg c2]; rw [if_neg (show ¬ (Float64.cmp z x == some .lt) = true from c2)] at h1; exact h1 _
end
end
section
-- after: 14_rules5
def hsvI (x : UInt64) : Int := Flt.toInt Float64.truncOf (Float64.mul x 4618441417868443648)
def hsvP (x : UInt64) : UInt64 × UInt64 × UInt64 :=
  if (hsvI x).fmod 6 = 0 then (4607182418800017408, Float64.mul 4607182418800017408 (Float64.sub 4607182418800017408 (Float64.mul 4607182418800017408 (Float64.sub 4607182418800017408 (Float64.sub (Float64.mul x 4618441417868443648) (Float64.ofInt (hsvI x)))))), Float64.mul 4607182418800017408 (Float64.sub 4607182418800017408 4607182418800017408))
  else if (hsvI x).fmod 6 = 1 then (Float64.mul 4607182418800017408 (Float64.sub 4607182418800017408 (Float64.mul 4607182418800017408 (Float64.sub (Float64.mul x 4618441417868443648) (Float64.ofInt (hsvI x))))), 4607182418800017408, Float64.mul 4607182418800017408 (Float64.sub 4607182418800017408 4607182418800017408))
  else if (hsvI x).fmod 6 = 2 then (Float64.mul 4607182418800017408 (Float64.sub 4607182418800017408 4607182418800017408), 4607182418800017408, Float64.mul 4607182418800017408 (Float64.sub 4607182418800017408 (Float64.mul 4607182418800017408 (Float64.sub 4607182418800017408 (Float64.sub (Float64.mul x 4618441417868443648) (Float64.ofInt (hsvI x)))))))
  else if (hsvI x).fmod 6 = 3 then (Float64.mul 4607182418800017408 (Float64.sub 4607182418800017408 4607182418800017408), Float64.mul 4607182418800017408 (Float64.sub 4607182418800017408 (Float64.mul 4607182418800017408 (Float64.sub (Float64.mul x 4618441417868443648) (Float64.ofInt (hsvI x))))), 4607182418800017408)
  else if (hsvI x).fmod 6 = 4 then (Float64.mul 4607182418800017408 (Float64.sub 4607182418800017408 (Float64.mul 4607182418800017408 (Float64.sub 4607182418800017408 (Float64.sub (Float64.mul x 4618441417868443648) (Float64.ofInt (hsvI x)))))), Float64.mul 4607182418800017408 (Float64.sub 4607182418800017408 4607182418800017408), 4607182418800017408)
  else (4607182418800017408, Float64.mul 4607182418800017408 (Float64.sub 4607182418800017408 4607182418800017408), Float64.mul 4607182418800017408 (Float64.sub 4607182418800017408 (Float64.mul 4607182418800017408 (Float64.sub (Float64.mul x 4618441417868443648) (Float64.ofInt (hsvI x))))))
def hsvOk (x : UInt64) : Bool := Float64.isFinite (Float64.mul x 4618441417868443648) && !Float64.isNaN (Float64.mul x 4618441417868443648) && !Float64.isInf (Float64.mul x 4618441417868443648) && decide ((hsvI x).natAbs < 1000)
theorem hsv_call {w : World} {p : Program} {loose : List PySem.Str} {mean : ExcName → Option Value} {mg mb : PySem.Str → Option Value} {news : List (Addr × Obj)} (x : UInt64) (tx t1 t2 : Tok)
  (dp un : Nat) (fr : Option (List Env)) (gd : Option (List Code)) (h₀ : Heap) (L : Addr) (m : PySem.Str → Option Value) (s : Shared) (Q E : Value → Shared → Prop)
  (F : Fr h₀ L s.heap m) (X : (KF w.params).In h₀) (N : News h₀ L s.heap news) (T : Top p loose mean mg mb h₀) (hdp : dp + 200 < recursionLimit) (hun : un + 2000 < cLine) (hok : hsvOk x = true)
  (hret : ∀ a b c, hsvP x = (a, b, c) → ∀ D u0 u1 u2 h' tk', Fr h₀ L h' m → News h₀ L h' ((D, TO [.float a u0, .float b u1, .float c u2] 0) :: news) → (∀ p ∈ news, p.1 < D) → Q (.ref D) { s with heap := h', toks := tk' }) :
    wpAny (model PySem.Challenge.rw_sn0069_01.row.prog w) (Ar dp un fr gd) (call (.ref 77) [.float x tx, .float 0x3FF0000000000000 t1, .float 0x3FF0000000000000 t2]) Q E s := by
  revert X; k_fill; intro X
  k_dflt (refine' enterP (binds := [(PySem.Str.ofString "h", .float x tx), (PySem.Str.ofString "s", .float 0x3FF0000000000000 t1), (PySem.Str.ofString "v", .float 0x3FF0000000000000 t2)]) ?F ?X ?N ?T ?k6 ?k7 ?k8 ?k9 ?kB ?_ ?c2 ?c3 ?c4 ?c5; (case F => exact F); (case X => exact X); (case N => exact N); (case T => exact T); (case k6 => k_is); (case k7 => k_is); (case k8 => ktr_room); (case k9 => exact BindsTo.of_eq rfl); (case c5 => decide); (case kB => exact locs rfl); (case c2 => exact rfl); (case c3 => exact rfl); (case c4 => exact rfl))
  intro g' L' h' BK' F' N' X' T' l1
  clear F X N T
  (try dsimp only)
  (with_reducible show wpAny _ _ _ _ _ _)
  k_fold
  simp only [hsvOk, Bool.and_eq_true, Bool.not_eq_true', decide_eq_true_eq] at hok
  obtain ⟨⟨⟨ok1, ok2⟩, ok3⟩, ok4⟩ := hok
  have hbig : (1000 : Nat) ≤ 2 ^ 1024 - 2 ^ 970 := by decide +kernel
  have hm0 : 0 ≤ (hsvI x).fmod 6 := Int.fmod_nonneg_of_pos _ (by decide)
  have hm6 : (hsvI x).fmod 6 < 6 := Int.fmod_lt_of_pos _ (by decide)
  k_steps
  · exfalso
    (with_reducible rename (_ == some Ordering.eq) = true => q)
    revert q; decide +kernel
  all_goals (try (exfalso; (with_reducible rename 2 ^ 1024 - 2 ^ 970 ≤ _ => q); exact Nat.lt_irrefl _ (Nat.lt_of_lt_of_le ok4 (Nat.le_trans hbig q))))
  all_goals (try (
    (with_reducible rename Fr _ _ _ _ => F9); (with_reducible rename News _ _ _ _ => N9)
    have hr := BK'.use F9 N9
    refine hret _ _ _ ?_ _ _ _ _ _ _ hr.1 hr.2 (by assumption)
    unfold hsvP hsvI
    first
      | rw [if_pos (by assumption)]
      | rw [if_neg (by assumption), if_pos (by assumption)]
      | rw [if_neg (by assumption), if_neg (by assumption), if_pos (by assumption)]
      | rw [if_neg (by assumption), if_neg (by assumption), if_neg (by assumption), if_pos (by assumption)]
      | rw [if_neg (by assumption), if_neg (by assumption), if_neg (by assumption), if_neg (by assumption), if_pos (by assumption)]
      | rw [if_neg (by assumption), if_neg (by assumption), if_neg (by assumption), if_neg (by assumption), if_neg (by assumption)]))
  all_goals (exfalso; unfold hsvI at hm0 hm6; omega)
end
section
-- after: 14_rules5
section
variable {prog : Program} {w : World} {A : Around} {E : Value → Shared → Prop} {s : Shared}
theorem isSame_float {a : UInt64} {t u : Tok} {Q : Bool → Shared → Prop} (h0 : (t == 0 || u == 0) = false) (hb : NoneBooked s.heap) (hq : ∀ b, Q b s) : wpAny (model prog w) A (isSame (.float a t) (.float a u)) Q E s := by
  show wpAny (model prog w) A (isSame.created (a == a && !Float64.isNaN a) t u) Q E s
  unfold isSame.created
  refine wpAny_ite ?_
  split
  · rename_i h; rw [h0] at h; exact absurd h Bool.false_ne_true
  refine wpAny_ite ?_
  split
  · exact wpAny_pure (hq _)
  refine wpAny_ite ?_
  split
  · exact wpAny_pure (hq _)
  refine wpAny_bind (wpAny_sharingNotTold_none hb ?_)
  first | rw [if_neg Bool.false_ne_true] | simp only [Bool.false_eq_true, if_false]
  refine wpAny_bind (wpAny_sharingNotTold_none hb ?_)
  first | rw [if_neg Bool.false_ne_true] | simp only [Bool.false_eq_true, if_false]
  exact wpAny_bind (wpAny_rule (wpAny_bind (wpAny_askSetting (wpAny_pure (hq _)))))
theorem eqBool_float {a : UInt64} {t u : Tok} {Q : Bool → Shared → Prop} (h0 : (t == 0 || u == 0) = false) (hb : NoneBooked s.heap) (hc : (Float64.cmp a a == some .eq) = true) (h : Q true s) : wpAny (model prog w) A (eqBool (.float a t) (.float a u)) Q E s := by
  unfold eqBool
  show wpAny _ _ (if (Value.float a t == Value.float a u) = true then _ else _) Q E s
  by_cases hab : (Value.float a t == Value.float a u) = true
  · rw [if_pos hab]
    exact wpAny_bind (wpAny_rule (wpAny_pure h))
  · rw [if_neg hab]
    refine wpAny_bind (isSame_float h0 hb fun b => ?_)
    cases b
    · refine wpAny_bind (AutoFloatOps.eq_0 ?_)
      rw [hc]
      exact wpAny_truthy_bool h
    · exact wpAny_pure h
theorem eqBool_float_self {a : UInt64} {t : Tok} {Q : Bool → Shared → Prop} (h : Q true s) : wpAny (model prog w) A (eqBool (.float a t) (.float a t)) Q E s := by
  unfold eqBool
  show wpAny _ _ (if (Value.float a t == Value.float a t) = true then _ else _) Q E s
  rw [if_pos (beq_self_eq_true _)]
  exact wpAny_bind (wpAny_rule (wpAny_pure h))
end
theorem noneBooked {w : World} {h₀ h : Heap} {L : Addr} {m : PySem.Str → Option Value} (X : (KF w.params).In h₀) (F : Fr h₀ L h m) : NoneBooked h := by
  have e : h₀.get? 2 = some { cls := .none, data := .dict #[] } := X 2 _ rfl
  exact ⟨fun _ => none, ⟨_, _, _, F.keep _ _ e, rfl, (fun i hi => by simp at hi), fun _ => rfl⟩, rfl⟩
theorem ne3f {prog : Program} {w w' : World} {A : Around} {E : Value → Shared → Prop} {s : Shared} {h₀ : Heap} {L D D' : Addr} {m : PySem.Str → Option Value} {news : List (Addr × Obj)} {a b c : UInt64} {t0 t1 t2 u0 u1 : Tok} {k k' : Nat} {Q : Value → Shared → Prop}
    (X : (KF w'.params).In h₀) (F : Fr h₀ L s.heap m) (N : News h₀ L s.heap news) (h1 : (D, TO [.float a t0, .float b t1, .float c t2] k) ∈ news) (h2 : (D', TO [.float a u0, .float b u1, .float c t2] k') ∈ news)
    (ha : (Float64.cmp a a == some .eq) = true) (hb : (Float64.cmp b b == some .eq) = true) (e0 : t0 ≠ 0) (e1 : t1 ≠ 0) (e2 : u0 ≠ 0) (e3 : u1 ≠ 0) (hu : A.units < cLine) (h : Q (.bool false) s) :
    wpAny (model prog w) A (compareOp .NotEq (.ref D) (.ref D')) Q E s := by
  have nb := noneBooked X F
  have z : ∀ {x y : Tok}, x ≠ 0 → y ≠ 0 → (x == 0 || y == 0) = false := fun hx hy => by simp [hx, hy]
  refine PySem.SeqAt.RcNeAt.tuples (e := fun _ => true) (isT N h1) (isT N h2) hu (fun j hj1 hj2 => ?_) prog w E Q (by exact h)
  intro prog w E Q hq
  match j, hj1, hj2 with
  | 0, _, _ => exact eqBool_float (z e0 e2) nb ha hq
  | 1, _, _ => exact eqBool_float (z e1 e3) nb hb hq
  | 2, _, _ => exact eqBool_float_self hq
  | n + 3, h, _ => exact absurd h (by simp)
end
section
-- after: 17_flt3
def rgbV (r g b mx mn : UInt64) : UInt64 × UInt64 × UInt64 :=
  if (Float64.cmp mn mx == some Ordering.eq) = true then (0, 0, mx)
  else if (Float64.cmp r mx == some Ordering.eq) = true then ((Float64.divmod (Float64.div (Float64.sub (Float64.div (Float64.sub mx b) (Float64.sub mx mn)) (Float64.div (Float64.sub mx g) (Float64.sub mx mn))) 4618441417868443648) 4607182418800017408).snd, Float64.div (Float64.sub mx mn) mx, mx)
  else if (Float64.cmp g mx == some Ordering.eq) = true then ((Float64.divmod (Float64.div (Float64.sub (Float64.add 4611686018427387904 (Float64.div (Float64.sub mx r) (Float64.sub mx mn))) (Float64.div (Float64.sub mx b) (Float64.sub mx mn))) 4618441417868443648) 4607182418800017408).snd, Float64.div (Float64.sub mx mn) mx, mx)
  else ((Float64.divmod (Float64.div (Float64.sub (Float64.add 4616189618054758400 (Float64.div (Float64.sub mx g) (Float64.sub mx mn))) (Float64.div (Float64.sub mx r) (Float64.sub mx mn))) 4618441417868443648) 4607182418800017408).snd, Float64.div (Float64.sub mx mn) mx, mx)
def rgbP (r g b : UInt64) : UInt64 × UInt64 × UInt64 := rgbV r g b (fmx (fmx r g) b) (fmn (fmn r g) b)
def rgbOkV (mx mn : UInt64) : Bool := (Float64.cmp mn mx == some Ordering.eq) || (!Float64.isZero mx && !Float64.isZero (Float64.sub mx mn))
def rgbOk (r g b : UInt64) : Bool := rgbOkV (fmx (fmx r g) b) (fmn (fmn r g) b)
local macro_rules | `(tactic| walk_at "execs cons") => `(tactic| ((with_reducible refine wpAny_execs_cons ?_); try dsimp only))
local macro_rules | `(tactic| walk_at "execs nil") => `(tactic| refine wpAny_execs_nil ?_)
theorem rgb_call {w : World} {p : Program} {loose : List PySem.Str} {mean : ExcName → Option Value} {mg mb : PySem.Str → Option Value} {news : List (Addr × Obj)} (r g b : UInt64) (tr tg tb : Tok)
  (dp un : Nat) (fr : Option (List Env)) (gd : Option (List Code)) (h₀ : Heap) (L : Addr) (m : PySem.Str → Option Value) (s : Shared) (Q E : Value → Shared → Prop)
  (F : Fr h₀ L s.heap m) (X : (KF w.params).In h₀) (N : News h₀ L s.heap news) (T : Top p loose mean mg mb h₀) (hdp : dp + 200 < recursionLimit) (hun : un + 2000 < cLine) (hok : rgbOk r g b = true)
  (hret : ∀ x y z, rgbP r g b = (x, y, z) → ∀ D (u0 u1 u2 : Tok) h' (tk' : Nat), u0 ≠ 0 → u1 ≠ 0 → tk' ≠ 0 → ((Float64.cmp r g == some .lt) = false → (Float64.cmp r b == some .lt) = false → u2 = tr) → Fr h₀ L h' m → News h₀ L h' ((D, TO [.float x u0, .float y u1, .float z u2] 0) :: news) → (∀ p ∈ news, p.1 < D) → Q (.ref D) { s with heap := h', toks := tk' }) :
    wpAny (model PySem.Challenge.rw_sn0069_01.row.prog w) (Ar dp un fr gd) (call (.ref 70) [.float r tr, .float g tg, .float b tb]) Q E s := by
  revert X; k_fill; intro X
  k_dflt (refine' enterP (binds := [(PySem.Str.ofString "r", .float r tr), (PySem.Str.ofString "g", .float g tg), (PySem.Str.ofString "b", .float b tb)]) ?F ?X ?N ?T ?k6 ?k7 ?k8 ?k9 ?kB ?_ ?c2 ?c3 ?c4 ?c5; (case F => exact F); (case X => exact X); (case N => exact N); (case T => exact T); (case k6 => k_is); (case k7 => k_is); (case k8 => ktr_room); (case k9 => exact BindsTo.of_eq rfl); (case c5 => decide); (case kB => exact locs rfl); (case c2 => exact rfl); (case c3 => exact rfl); (case c4 => exact rfl))
  intro g' L' h' BK' F' N' X' T' l1
  clear F X N T
  (try dsimp only)
  (with_reducible show wpAny _ _ _ _ _ _)
  k_fold
  k_steps
  k_dflt (refine max3f rfl F' N' ?_)
  intro h9 tk9 v9 hv9 F9 N9
  k_steps
  (with_reducible rename Fr _ _ _ _ => F8); (with_reducible rename News _ _ _ _ => N8)
  k_dflt (refine min3f rfl F8 N8 ?_)
  intro h7 tk7 v7 F7 N7
  unfold rgbOk at hok
  unfold rgbP at hret
  generalize fmx (fmx r g) b = mx at hok hret F8 F7 ⊢
  generalize fmn (fmn r g) b = mn at hok hret F7 ⊢
  k_steps
  all_goals (try (exfalso; simp only [rgbOkV, Bool.or_eq_true, Bool.and_eq_true, Bool.not_eq_true'] at hok; simp_all; done))
  all_goals (
    (with_reducible rename Fr _ _ _ _ => F5); (with_reducible rename News _ _ _ _ => N5)
    have hr := BK'.use F5 N5
    refine hret _ _ _ ?_ _ _ _ _ _ _ (Nat.succ_ne_zero _) (Nat.succ_ne_zero _) (Nat.succ_ne_zero _) hv9 hr.1 hr.2 (by assumption)
    unfold rgbV
    first
      | rw [if_pos (by assumption)]
      | rw [if_neg (Bool.eq_false_iff.mp (by assumption)), if_pos (by assumption)]
      | rw [if_neg (Bool.eq_false_iff.mp (by assumption)), if_neg (Bool.eq_false_iff.mp (by assumption)), if_pos (by assumption)]
      | rw [if_neg (Bool.eq_false_iff.mp (by assumption)), if_neg (Bool.eq_false_iff.mp (by assumption)), if_neg (Bool.eq_false_iff.mp (by assumption))])
end
section
-- after: 12_ccell 14_rules5 08_rules2 17_flt3
open PySem.Flt
def LampsAre (led : List (Addr × Obj)) (lv : List Value) (ls : List (UInt64 × UInt64 × UInt64)) : Prop :=
  lv.length = ls.length ∧ ∀ (i : Nat) (x : UInt64 × UInt64 × UInt64), ls[i]? = some x → ∃ (Li : Addr) (t0 t1 t2 : Tok), lv[i]? = some (.ref Li) ∧ (Li, TO [.float x.1 t0, .float x.2.1 t1, .float x.2.2 t2] 0) ∈ led
theorem LampsAre.mono {led led' : List (Addr × Obj)} {lv : List Value} {ls : List (UInt64 × UInt64 × UInt64)} (h : LampsAre led lv ls) (hs : ∀ p ∈ led, p ∈ led') : LampsAre led' lv ls :=
  ⟨h.1, fun i x hx => let ⟨a, b, c, d, e, f⟩ := h.2 i x hx; ⟨a, b, c, d, e, hs _ f⟩⟩
def part3 (x : UInt64 × UInt64 × UInt64) : Nat → UInt64
  | 0 => x.1 | 1 => x.2.1 | _ => x.2.2
def mixT (tab : List Int) (ls : List (UInt64 × UInt64 × UInt64)) (t part : Nat) (k : Nat) : UInt64 := Float64.mul (Float64.ofInt (tab.getD k 0)) (part3 (ls.getD (k * t % ls.length) (0, 0, 0)) part)
def mixP (tab : List Int) (ls : List (UInt64 × UInt64 × UInt64)) (t part : Nat) : UInt64 := sumOf ((List.range tab.length).map (mixT tab ls t part))
theorem sumF {prog : Program} {w : World} {A : Around} {E : Value → Shared → Prop} {s : Shared} {Q : Value → Shared → Prop} {h₀ : Heap} {L l : Addr} {m : PySem.Str → Option Value} {news : List (Addr × Obj)} {vs : List Value} {bs : List UInt64} {k : Nat} (hh : A.handled = none) (F : Fr h₀ L s.heap m) (N : News h₀ L s.heap news) (hm : (l, LO vs k) ∈ news) (hf : FloatsAre vs bs) (h0 : bs.length ≠ 0)
    (h1 : ∀ h' tk t, Fr h₀ L h' m → News h₀ L h' news → Q (.float (sumOf bs) t) { s with heap := h', toks := tk }) :
    wpAny (model prog w) A (call (.builtin "sum") [.ref l]) Q E s := by
  have hls : s.heap.IsList l vs.toArray := isL N hm
  refine call_sum_walkF (sumInts_map h0) (iter_list_ hls fun s₂ e st hfp hlI => ?_)
  subst e
  have W := (Walks.list (prog := prog) (w := w) (A := A.in1) hh _ l hlI vs.toArray).toS
  have hlen : vs.toArray.size = (bs.map WData.float).length := by simpa using hf.length
  rw [hlen] at W
  refine ⟨_, _, _, _, _, _, rfl, W, st, hfp, fun i v hP => ?_, fun s' v hv hm => ?_⟩
  · obtain ⟨b, t, rfl, e⟩ := hf.at i v (by simpa using hP)
    exact ⟨.float b, by simp [e], .float b t⟩
  · obtain ⟨hp, g, d, tk, os⟩ := s'
    have kp := PySem.Flt.kept_iter hm.heap
    cases hv
    have := fun t => h1 hp tk t (F.grownK kp) (N.grown kp)
    have e1 : g = s.gens := hm.gens
    have e2 : d = s.drawn := hm.drawn
    have e3 : os = s.os := hm.os
    subst e1 e2 e3
    exact this _
theorem floatsApp : ∀ {vs vs' : List Value} {ws ws' : List UInt64}, FloatsAre vs ws → FloatsAre vs' ws' → FloatsAre (vs ++ vs') (ws ++ ws')
  | _, _, _, _, .nil, h => h
  | _, _, _, _, .cons w t h, h' => .cons w t (floatsApp h h')
abbrev MxJ (tab : List Int) (ls : List (UInt64 × UInt64 × UInt64)) (t : Nat) (led : List (Addr × Obj)) (C : Addr) (j : Nat) (ys : List Value) (nx : List (Addr × Obj)) : Prop :=
  ∃ ok cv, nx = (C + 1, ok) :: led ∧ ok.data = .cell cv ∧ FloatsAre ys ((List.range j).map (mixP tab ls t))
abbrev MxJ2 (tab : List Int) (ls : List (UInt64 × UInt64 × UInt64)) (t j : Nat) (led : List (Addr × Obj)) (jj : Nat) (ys2 : List Value) (nx2 : List (Addr × Obj)) : Prop :=
  nx2 = led ∧ FloatsAre ys2 ((List.range jj).map (mixT tab ls t j))
theorem mix_call {w : World} {p : Program} {loose : List PySem.Str} {mean : ExcName → Option Value} {mg mb : PySem.Str → Option Value} {news : List (Addr × Obj)} {tb la : Addr} {tv lv : List Value} {kt kl : Nat} (tab : List Int) (ls : List (UInt64 × UInt64 × UInt64)) (t : Nat) (tt : Tok)
  (htb : (tb, LO tv kt) ∈ news) (htv : IntsAre tv tab) (hla : (la, LO lv kl) ∈ news) (hlam : LampsAre news lv ls) (hpos : 0 < tab.length) (htl : tab.length ≤ 100) (hlpos : 0 < ls.length) (hll : ls.length ≤ 100) (hb : ∀ x ∈ tab, 0 ≤ x ∧ x ≤ 1000) (ht : t ≤ 100)
  (dp un : Nat) (fr : Option (List Env)) (gd : Option (List Code)) (h₀ : Heap) (L : Addr) (m : PySem.Str → Option Value) (s : Shared) (Q E : Value → Shared → Prop)
  (F : Fr h₀ L s.heap m) (X : (KF w.params).In h₀) (N : News h₀ L s.heap news) (T : Top p loose mean mg mb h₀) (hdp : dp + 200 < recursionLimit) (hun : un + 2000 < cLine)
  (hret : ∀ D vs k' h' tk', Fr h₀ L h' m → FloatsAre vs [mixP tab ls t 0, mixP tab ls t 1, mixP tab ls t 2] → News h₀ L h' ((D, LO vs k') :: news) → (∀ p ∈ news, p.1 < D) → Q (.ref D) { s with heap := h', toks := tk' }) :
    wpAny (model PySem.Challenge.rw_sn0069_01.row.prog w) (Ar dp un fr gd) (call (.ref 191) [.ref tb, .ref la, .int t tt]) Q E s := by
  revert X; k_fill; intro X
  k_dflt (refine' enterC (binds := [(PySem.Str.ofString "table", .ref tb), (PySem.Str.ofString "lamps", .ref la), (PySem.Str.ofString "turn", .int t tt)]) ?F ?X ?N ?T ?k6 ?k7 ?k8 ?k9 ?kB ?kD ?_ ?c2 ?c3 ?c4; (case F => exact F); (case X => exact X); (case N => exact N); (case T => exact T); (case k6 => k_is); (case k7 => k_is); (case k8 => ktr_room); (case k9 => exact BindsTo.of_eq rfl); (case kB => exact rfl); (case kD => decide +kernel); (case c2 => exact rfl); (case c3 => exact rfl); (case c4 => exact rfl))
  intro g' L' h' tk' cells' BK' F' N' Y' X' T' l1
  k_cells Y'
  rename_i o1 o2 o3 o4 d1 d2 d3 d4
  have e1 : o1.data = .cell none := d1
  have e2 : o2.data = .cell (some (.int t tt)) := d2
  have e3 : o3.data = .cell (some (.ref la)) := d3
  have e4 : o4.data = .cell (some (.ref tb)) := d4
  clear d1 d2 d3 d4
  simp only [List.cons_append, List.nil_append] at N'
  clear F X N T
  (try dsimp only)
  (with_reducible show wpAny _ _ _ _ _ _)
  k_fold
  have hlvl := hlam.1
  have htvl := htv.length
  have hget : ∀ jj, jj < tab.length → ∃ tq, tv[jj]? = some (.int (tab.getD jj 0) tq) := fun jj hjj => htv.get jj (tab.getD jj 0) (by rw [List.getD_eq_getElem?_getD, List.getElem?_eq_getElem hjj]; rfl)
  ktr_unf
  (with_reducible rename Fr _ _ _ _ => F9); (with_reducible rename News _ _ _ _ => N9)
  rename_i oS dS
  k_dflt (refine' evalCompC (h₀ := g') (L := L') (n := 3) (P := fun i v => i < 3 ∧ ∃ t, v = .int ((0 : Int) + (i : Int)) t) (cl := ?clv) (x := PySem.Str.ofString "part") (J := MxJ tab ls t ((L' + 1 + 1 + 1 + 1, oS) :: (L' + 1 + 1 + 1, o2) :: (L' + 1 + 1, o3) :: (L' + 1, o4) :: news)) ?cl ?cf ?pc ?ki ?na ?ht ?sz ?src)
  case cl => exact rfl
  case cf => exact fun _ _ => rfl
  case pc => exact fun _ => rfl
  case ki => rfl
  case na => decide
  case ht => intro _ _; rfl
  case sz => rw [sizeLine_eq]; omega
  case src =>
    ktr_unf
    rename_i hr8 F8 N8 _
    k_dflt (refine srcRange rfl hr8 (rngSmall (by omega) (by omega) (by omega)) (n := 3) (rngSize (by omega)) F8 N8 ?_)
    intro h3 tk3 I3 hS3
    refine CSrc.intro hS3 (fun C _ => ⟨_, _, rfl, rfl, .nil⟩) ?_ ?_
    · intro g C D hlD hDC hsg j v ys nx m1 h5 tk5 own5 k5 hj hjl hq3 hq4 hoff hD5 hfp5 hwr5 F5 N5
      refine an2 hq3 fun _ hq6 => ?_
      clear hq3
      refine ex1 hq6 fun t5 eq_7 => ?_
      clear hq6
      subst eq_7
      refine ex2 hq4 fun ok cv hq9 => an3 hq9 fun eq_8 hok hfy => ?_
      clear hq4 hq9
      subst eq_8
      have Tg := T'.keeps hsg
      have Xg := X'.keeps hsg
      obtain ⟨led, hled⟩ : ∃ led, led = (L' + 1 + 1 + 1 + 1, oS) :: (L' + 1 + 1 + 1, o2) :: (L' + 1 + 1, o3) :: (L' + 1, o4) :: news := ⟨_, rfl⟩
      have hoffC : ∀ p ∈ (D, LO ys k5) :: (led ++ own5), p.1 ≠ C + 1 := fun p hp => by
        rcases List.mem_cons.mp hp with rfl | hp
        · exact Nat.ne_of_lt (Nat.lt_succ_of_lt hDC)
        · rcases List.mem_append.mp hp with hp | hp
          · rw [hled] at hp
            exact Nat.ne_of_lt (Nat.lt_succ_of_lt (Nat.lt_trans (hlD p hp) hDC))
          · intro e
            exact (hoff _ (.head _)).1 (e ▸ hfp5 p hp)
      rw [← hled] at N5
      refine wpAny_assign_Name ?_
      k_dflt (refine storeCC F5 (newsSub N5 (news' := (C + 1, ok) :: (D, LO ys k5) :: (led ++ own5)) ?_) hoffC rfl hok ?_)
      · exact sub_cons (.tail _ (.head _)) (sub_cons (.head _) (sub_skip (sub_skip sub_refl)))
      intro h7 ok7 F7 N7 eK7
      rw [hled] at N7
      simp only [List.cons_append, List.append_assoc] at N7
      simp only [Int.zero_add] at eK7
      clear F5 N5
      ktr_unf
      (with_reducible rename Fr _ _ _ _ => F6); (with_reducible rename News _ _ _ _ => N6)
      k_dflt (refine' evalComp (h₀ := g) (L := C) (n := tab.length) (P := fun i v => i < tab.length ∧ ∃ t, v = .int ((0 : Int) + (i : Int)) t) (cl := [(PySem.Str.ofString "turn", L' + 1 + 1 + 1), (PySem.Str.ofString "table", L' + 1), (PySem.Str.ofString "size", L' + 1 + 1 + 1 + 1), (PySem.Str.ofString "part", C + 1), (PySem.Str.ofString "lamps", L' + 1 + 1)]) (J := MxJ2 tab ls t j ((C + 1, ok7) :: (D, LO ys k5) :: (L' + 1 + 1 + 1 + 1, oS) :: (L' + 1 + 1 + 1, o2) :: (L' + 1 + 1, o3) :: (L' + 1, o4) :: (news ++ own5))) ?cl ?ce ?ki ?na ?ht ?sz ?src)
      case cl => first | rfl | (with_unfolding_all rfl)
      case ce => decide
      case ki => rfl
      case na => decide
      case ht => intro _ _; rfl
      case sz => rw [sizeLine_eq]; omega
      case src =>
        ktr_unf
        have htbm : (tb, LO tv kt) ∈ (C + 1, ok7) :: (D, LO ys k5) :: (L' + 1 + 1 + 1 + 1, oS) :: (L' + 1 + 1 + 1, o2) :: (L' + 1 + 1, o3) :: (L' + 1, o4) :: (news ++ own5) := .tail _ (.tail _ (.tail _ (.tail _ (.tail _ (.tail _ (List.mem_append_left _ htb))))))
        k_dflt (refine lenL N6 htbm (by omega) ?_)
        ktr_unf
        rename_i hr4 F4 N4 _
        k_dflt (refine srcRange rfl hr4 (rngSmall (by omega) (by omega) (by omega)) (n := tab.length) (rngSize (by omega)) F4 N4 ?_)
        intro h8 tk8 I5 hS5
        refine CSrc.intro hS5 ⟨rfl, .nil⟩ ?_ ?_
        · intro g2 C2 D2 hlD2 hsg2 jj v2 ys2 nx2 m2 h6 tk6 own7 k7 hjj hjl2 hq12 hq13 hoff7 hD7 hfp7 hwr7 F5 N5
          refine an2 hq12 fun _ hq15 => ?_
          clear hq12
          refine ex1 hq15 fun t7 eq_16 => ?_
          clear hq15
          subst eq_16
          refine an2 hq13 fun eq_17 hfy2 => ?_
          clear hq13
          subst eq_17
          have Tg2 := Tg.keeps hsg2
          have Xg2 := Xg.keeps hsg2
          simp only [List.cons_append, List.append_assoc] at N5
          ktr_unf
          (with_reducible rename News _ _ _ _ => N8)
          have htm2 : (tb, LO tv kt) ∈ (D2, LO ys2 k7) :: (C + 1, ok7) :: (D, LO ys k5) :: (L' + 1 + 1 + 1 + 1, oS) :: (L' + 1 + 1 + 1, o2) :: (L' + 1 + 1, o3) :: (L' + 1, o4) :: (news ++ (own5 ++ own7)) := .tail _ (.tail _ (.tail _ (.tail _ (.tail _ (.tail _ (.tail _ (List.mem_append_left _ htb)))))))
          have hlm2 : (la, LO lv kl) ∈ (D2, LO ys2 k7) :: (C + 1, ok7) :: (D, LO ys k5) :: (L' + 1 + 1 + 1 + 1, oS) :: (L' + 1 + 1 + 1, o2) :: (L' + 1 + 1, o3) :: (L' + 1, o4) :: (news ++ (own5 ++ own7)) := .tail _ (.tail _ (.tail _ (.tail _ (.tail _ (.tail _ (.tail _ (List.mem_append_left _ hla)))))))
          refine ex1 (hget jj hjj) fun tq hx1 => ?_
          have hxb := hb (tab.getD jj 0) (by rw [List.getD_eq_getElem?_getD, List.getElem?_eq_getElem hjj]; exact List.getElem_mem _)
          k_dflt (refine itemL N8 htm2 (by omega) (by omega) (v := .int (tab.getD jj 0) tq) (by rw [show (0 + (jj : Int)).toNat = jj by omega]; exact hx1) ?_)
          ktr_unf
          have eix : ((0 + (jj : Int)) * (t : Int)).fmod (lv.length : Int) = ((jj * t % ls.length : Nat) : Int) := by
            rw [Int.zero_add, hlvl, ← Int.natCast_mul]; exact (fdivmod_nat _ _).2
          have hil : jj * t % ls.length < ls.length := Nat.mod_lt _ hlpos
          refine ex4 (hlam.2 (jj * t % ls.length) (ls.getD (jj * t % ls.length) (0, 0, 0)) (by rw [List.getD_eq_getElem?_getD, List.getElem?_eq_getElem hil]; rfl)) fun Li u0 u1 u2 hq18 => an2 hq18 fun hLi hLm => ?_
          clear hq18
          obtain ⟨lx, hlx⟩ : ∃ lx, lx = ls.getD (jj * t % ls.length) (0, 0, 0) := ⟨_, rfl⟩
          rw [← hlx] at hLm
          have hlim : (Li, TO [.float lx.1 u0, .float lx.2.1 u1, .float lx.2.2 u2] 0) ∈ (D2, LO ys2 k7) :: (C + 1, ok7) :: (D, LO ys k5) :: (L' + 1 + 1 + 1 + 1, oS) :: (L' + 1 + 1 + 1, o2) :: (L' + 1 + 1, o3) :: (L' + 1, o4) :: (news ++ (own5 ++ own7)) := .tail _ (.tail _ (.tail _ (.tail _ (.tail _ (.tail _ (.tail _ (List.mem_append_left _ hLm)))))))
          have hpt : ∃ u, ([.float lx.1 u0, .float lx.2.1 u1, .float lx.2.2 u2] : List Value)[j]? = some (.float (part3 lx j) u) := by
            have h3 : j = 0 ∨ j = 1 ∨ j = 2 := by omega
            rcases h3 with rfl | rfl | rfl
            · exact ⟨_, rfl⟩
            · exact ⟨_, rfl⟩
            · exact ⟨_, rfl⟩
          obtain ⟨up, hup⟩ := hpt
          have hil2 : jj * t % ls.length < 2 ^ 62 := by omega
          (with_reducible rename News _ _ _ _ => N6)
          rw [eix]
          k_dflt (refine itemL N6 hlm2 (Int.natCast_nonneg _) (by omega) (v := .ref Li) (by rw [Int.toNat_natCast]; exact hLi) ?_)
          ktr_unf
          (with_reducible rename News _ _ _ _ => N6)
          k_dflt (refine itemT N6 hlim (Int.natCast_nonneg _) (by omega) (v := .float (part3 lx j) up) (by rw [Int.toNat_natCast]; exact hup) ?_)
          have hty : Float64.mul (Float64.ofInt (tab.getD jj 0)) (part3 lx j) = mixT tab ls t j jj := by unfold mixT; rw [hlx]
          ktr_unf
          (with_reducible rename Fr _ _ _ _ => F1); (with_reducible rename News _ _ _ _ => N1)
          rw [hty]
          refine CEnd.intro ((C + 1, ok7) :: (D, LO ys k5) :: (L' + 1 + 1 + 1 + 1, oS) :: (L' + 1 + 1 + 1, o2) :: (L' + 1 + 1, o3) :: (L' + 1, o4) :: (news ++ own5)) F1 N1 (.head _) ?_ ?_ hoff7 ⟨rfl, ?_⟩
          · kqd_sub
          · kqd_sub
          · rw [List.range_succ, List.map_append]
            exact floatsApp hfy2 (.cons _ _ .nil)
        · intro D2 h9 tk9 ys2 nx2 k7 hoD2 hlD2 F5 N5 hq19
          refine an2 hq19 fun eq_20 hfy2 => ?_
          clear hq19
          subst eq_20
          ktr_unf
          (with_reducible rename Fr _ _ _ _ => F1); (with_reducible rename News _ _ _ _ => N1)
          k_dflt (refine sumF rfl F1 N1 (.head _) hfy2 (by rw [List.length_map, List.length_range]; omega) ?_)
          intro h1 tk1 t1 F2 N2
          ktr_unf
          refine CEnd.intro ((C + 1, ok7) :: (L' + 1 + 1 + 1 + 1, oS) :: (L' + 1 + 1 + 1, o2) :: (L' + 1 + 1, o3) :: (L' + 1, o4) :: news) F2 N2 (.tail _ (.tail _ (.head _))) ?_ ?_ (fun p hp => ?_) ⟨ok7, _, rfl, eK7, ?_⟩
          · kqd_sub
          · kqd_sub
          · rcases List.mem_cons.mp hp with rfl | hp
            · exact hoff (C + 1, ok) (.head _)
            · exact hoff p (.tail _ hp)
          · rw [List.range_succ, List.map_append]
            exact floatsApp hfy (.cons _ _ .nil)
    · intro D C h4 tk4 ys nx k4 hoD hlD F4 N4 hq21
      refine ex2 hq21 fun ok cv hq23 => an3 hq23 fun eq_22 hok hfy => ?_
      clear hq21 hq23
      subst eq_22
      ktr_unf
      have hr := BK'.use F4 (newsSub N4 (news' := (D, LO ys k4) :: news) fun p hp => (List.mem_cons.mp hp).elim (fun e => e ▸ .head _) fun hp => .tail _ (.tail _ (.tail _ (.tail _ (.tail _ (.tail _ hp))))))
      exact hret _ _ _ _ _ hr.1 hfy hr.2 fun p hp => hlD p (.tail _ (.tail _ (.tail _ (.tail _ hp))))
end
section
-- after: 14_rules5 08_rules2 12_nest
theorem SrcAt.weak {prog : Program} {w : World} {A : Around} {h₀ : Heap} {L : Addr} {m : PySem.Str → Option Value} {news : List (Addr × Obj)} {n : Nat} {P P' : Nat → Value → Prop} {s s₂ : Shared} {I : Addr} {wr fp : List Addr} (h : SrcAt prog w A h₀ L m news n P s s₂ I wr fp) (hP : ∀ i v, P i v → P' i v) :
    SrcAt prog w A h₀ L m news n P' s s₂ I wr fp := by
  obtain ⟨St, W, h1⟩ := h
  exact ⟨St, ⟨W.sub, W.frame, fun i s Q E hi st hQ => W.item i s Q E hi st fun v h' tk hp st' hk => hQ v h' tk (hP i v hp) st' hk, W.done, W.self⟩, h1⟩
/-- a table's objects and a cell or a list of one ledger lie apart -/
theorem tab_off {P : Addr} {pos : Pos} {q : PySem.Str} {t l : List (Addr × Obj)} {h₀ h : Heap} {L c : Addr} {o : Obj} (ht : TabP P pos q t) (N : News h₀ L h l) (h1 : ∀ p ∈ t, p ∈ l) (hm : (c, o) ∈ l) (h2 : c ≠ P) (h3 : ∀ vs, o.data ≠ .fields vs) :
    ∀ p ∈ t, p.1 ≠ c := by
  rcases ht with rfl | ⟨c', oc, vs, tk, rfl, hd, hv⟩
  · intro p hp
    rw [List.mem_singleton.mp hp]
    exact Ne.symm h2
  · intro p hp e
    rcases List.mem_cons.mp hp with rfl | hp'
    · exact h2 e.symm
    · have hp2 := List.mem_singleton.mp hp'
      subst hp2
      have g1 := (N _ (h1 _ hp)).1
      have g2 := (N _ hm).1
      dsimp only at e g1 g2
      rw [e, g2] at g1
      have g3 := Option.some.inj g1
      exact h3 vs (by rw [g3]; exact hd)
theorem ints4 {ys : List Value} {ns : List Int} (h : IntsAre ys ns) (hl : ys.length = 4) : ∃ a b c d ta tb tc td, ys = [.int a ta, .int b tb, .int c tc, .int d td] ∧ ns = [a, b, c, d] := by
  cases h with
  | nil => cases hl
  | cons a ta h =>
    cases h with
    | nil => cases hl
    | cons b tb h =>
      cases h with
      | nil => cases hl
      | cons c tc h =>
        cases h with
        | nil => cases hl
        | cons d td h =>
          cases h with
          | nil => exact ⟨_, _, _, _, _, _, _, _, rfl, rfl⟩
          | cons e te h => cases hl
theorem pickMem {ns : List Int} {lo hi st : Option Int} {d : Int} (h : d ∈ pickNums ns lo hi st) : d ∈ ns := by
  unfold pickNums at h
  obtain ⟨i, _, hi⟩ := List.mem_filterMap.mp h
  exact List.mem_of_getElem? hi
theorem sumBnd {B : Int} (hB : 0 ≤ B) : ∀ {l : List Int}, (∀ d ∈ l, 0 ≤ d ∧ d < B) → 0 ≤ l.sum ∧ l.sum ≤ B * (l.length : Int)
  | [], _ => by simp
  | a :: r, h => by
    obtain ⟨h1, h2⟩ := sumBnd hB (l := r) fun d hd => h d (.tail _ hd)
    obtain ⟨h3, h4⟩ := h a (.head _)
    rw [List.sum_cons, List.length_cons]
    refine ⟨by omega, ?_⟩
    have : B * ((r.length + 1 : Nat) : Int) = B * (r.length : Int) + B := by push_cast; rw [Int.mul_add, Int.mul_one]
    rw [this]; omega
theorem ints3 {ys : List Value} {ns : List Int} (h : IntsAre ys ns) (hl : ys.length = 3) : ∃ a b c ta tb tc, ys = [.int a ta, .int b tb, .int c tc] ∧ ns = [a, b, c] := by
  cases h with
  | nil => cases hl
  | cons a ta h =>
    cases h with
    | nil => cases hl
    | cons b tb h =>
      cases h with
      | nil => cases hl
      | cons c tc h =>
        cases h with
        | nil => exact ⟨_, _, _, _, _, _, rfl, rfl⟩
        | cons e te h => cases hl
theorem mulFits {x y : Int} {a b : Nat} (hx : 0 ≤ x ∧ x < 2 ^ a) (hy : 0 ≤ y ∧ y < 2 ^ b) (ha : a ≤ 1000000) (hb : b ≤ 1000000) : IntMulOk x y :=
  .of_bits (Nat.le_trans (bits_le' hx.1 hx.2) (by omega)) (Nat.le_trans (bits_le' hy.1 hy.2) (by omega))
theorem mulBnd {x y : Int} {a b : Nat} (hx : 0 ≤ x ∧ x < 2 ^ a) (hy : 0 ≤ y ∧ y < 2 ^ b) : 0 ≤ x * y ∧ x * y < 2 ^ (a + b) := by
  refine ⟨Int.mul_nonneg hx.1 hy.1, ?_⟩
  rw [Int.pow_add]
  have hp : (0 : Int) < 2 ^ b := Int.pow_pos (by decide)
  have hq : (0 : Int) < 2 ^ a := Int.pow_pos (by decide)
  calc x * y ≤ x * 2 ^ b := Int.mul_le_mul_of_nonneg_left (Int.le_of_lt hy.2) hx.1
    _ < 2 ^ a * 2 ^ b := Int.mul_lt_mul_of_pos_right hx.2 hp
theorem natOf {x : Int} (h : 0 ≤ x) : ∃ n : Nat, x = n := Int.eq_ofNat_of_zero_le h
theorem fdivPos {x : Int} {n : Nat} (h1 : 1 ≤ x) (h2 : x ≤ (n : Int)) : 0 < (n : Int).fdiv x := by
  rw [Int.fdiv_eq_ediv_of_nonneg _ (by omega)]
  exact Int.le_ediv_of_mul_le (by omega) (by omega)
theorem fullB {w : Nat} (h : w ≤ 12) : (0 : Int) ≤ 2 ^ w - 1 ∧ (2 : Int) ^ w - 1 < 2 ^ 4096 := by
  have h1 : 1 ≤ 2 ^ w := Nat.one_le_two_pow
  have h2 : 2 ^ w ≤ 2 ^ 12 := Nat.pow_le_pow_right (by decide) h
  have e : ((2 : Int) ^ w) = ((2 ^ w : Nat) : Int) := by simp
  rw [e]
  have h3 : (4096 : Int) < 2 ^ 4096 := by decide +kernel
  generalize (2 : Int) ^ 4096 = B at h3 ⊢
  omega
theorem TabP.tab {P : Addr} {pos : Pos} {q : PySem.Str} {t : List (Addr × Obj)} (ht : TabP P pos q t) : ∃ ps, (P, tabObj ps) ∈ t := by
  rcases ht with rfl | ⟨_, _, _, _, rfl, _⟩
  · exact ⟨_, .head _⟩
  · exact ⟨_, .head _⟩
theorem map4s (m : PySem.Str → Option Value) {a b c d : PySem.Str} : m = fun z => if z = a then m z else if z = b then m z else if z = c then m z else if z = d then m z else m z := by
  funext z
  repeat' split
  all_goals rfl
theorem map4z {m m0 : PySem.Str → Option Value} {a b c d : PySem.Str} (hm : ∀ z, z ≠ a → z ≠ b → z ≠ c → z ≠ d → m z = m0 z) : m = fun z => if z = a then m z else if z = b then m z else if z = c then m z else if z = d then m z else m0 z := by
  funext z
  by_cases h1 : z = a
  · rw [if_pos h1]
  · by_cases h2 : z = b
    · rw [if_neg h1, if_pos h2]
    · by_cases h3 : z = c
      · rw [if_neg h1, if_neg h2, if_pos h3]
      · by_cases h4 : z = d
        · rw [if_neg h1, if_neg h2, if_neg h3, if_pos h4]
        · rw [if_neg h1, if_neg h2, if_neg h3, if_neg h4]; exact hm z h1 h2 h3 h4
theorem floats3 {vs : List Value} {a b c : UInt64} (h : PySem.Flt.FloatsAre vs [a, b, c]) : ∃ t0 t1 t2, vs = [.float a t0, .float b t1, .float c t2] := by
  cases h with
  | cons _ t0 h => cases h with
    | cons _ t1 h => cases h with
      | cons _ t2 h => cases h; exact ⟨_, _, _, rfl⟩
end
section
-- after: 16_rings 16_bag 15_words 14_table 11_prod 17_hsv 18_rgb 19_mix
open PySem.Flt
def lettersP (b : Nat) : List Nat := ([97, 98, 35, 58, 59, 45, 120, 122].drop b).take 3
def nK (r : Nat) : Nat := (bagP r).sum.toNat
def tabK : Nat → List Int
  | 0 => [1, 2, 3, 3, 2, 1] | 1 => [1, 1, 2, 2, 3, 2, 2, 1, 1] | 2 => [1, 1, 2, 3, 3, 3, 3, 2, 1, 1] | 3 => [1, 2, 3, 4, 5, 5, 4, 3, 2, 1]
  | 4 => [1, 1, 2, 1, 1] | 5 => [1, 2, 2, 1] | 6 => [1, 1, 1, 1, 1, 1] | _ => [1, 1, 1, 1]
def ringsK : Nat → List Int
  | 0 => [4, 4, 4] | 1 => [6, 6, 3] | 2 => [6, 6, 6, 2] | 3 => [6, 6, 6, 6, 6] | 4 => [4, 2] | 5 => [3, 3] | 6 => [6] | _ => [4]
def okW (r q b : Nat) : Bool :=
  (wordsP (lettersP b) (rotP r q) (nK r)).all (fun w => w.all fun c => (lettersP b).contains c) && tabP (lettersP b) (wordsP (lettersP b) (rotP r q) (nK r)) == tabK r && ringsP (wordsP (lettersP b) (rotP r q) (nK r)) == ringsK r && (wordsP (lettersP b) (rotP r q) (nK r)).length == (ringsK r).sum.toNat
def okB (r q : Nat) : Bool :=
  (rotP r q).length == 3 && (rotP r q).sum == (nK r : Int) && decide (3 ≤ nK r) && decide (nK r ≤ 6) && (rotP r q).all (fun x => decide (0 ≤ x ∧ x ≤ 6)) && (tabK r).all (fun x => decide (0 ≤ x ∧ x ≤ 1000)) && decide (0 < (tabK r).length) && decide ((tabK r).length ≤ 64) && (ringsK r).all (fun x => decide (1 ≤ x ∧ x ≤ (nK r : Int))) && decide ((ringsK r).length ≤ 10)
theorem okB_all : ∀ r, r < 8 → ∀ q, q < 3 → okB r q = true := by decide +kernel
theorem okB2 : ∀ r, r < 8 → ∀ q, q < 3 → ∀ i, i < 3 → ((rotP r q).getD i 0).toNat ≤ 6 := by decide +kernel
theorem okL : ∀ b, b < 6 → (lettersP b).length = 3 ∧ ∀ c ∈ lettersP b, c ≠ 46 := by decide +kernel
/-- how many rings come round -/
def dueP (rs : List Int) (n : Nat) (k : Nat) : Int := ((rs.filter fun r => decide ((k : Int).fmod ((n : Int).fdiv r) = 0)).length : Nat)
def dueL (rs : List Int) (n : Nat) : List Int := (List.range n).map (dueP rs n)
def denP (r q w : Nat) : Int := prodP w ((rotP r q).getD 0 0).toNat * prodP w ((rotP r q).getD 1 0).toNat * prodP w ((rotP r q).getD 2 0).toNat
def fullP (n w : Nat) : Int := d2iP w (List.replicate n (2 ^ w - 1))
def okN (r q w : Nat) : Bool :=
  (prodP w (nK r)).toNat % (denP r q w).toNat == 0 && (((prodP w (nK r)).toNat / (denP r q w).toNat : Nat) : Int) == d2iP w (tabK r) &&
  (((d2iP w (tabK r)).toNat % (fullP (nK r) w).toNat : Nat) : Int) == d2iP w (dueL (ringsK r) (nK r)) && decide (0 < denP r q w) && decide (0 < fullP (nK r) w) &&
  decide (Builtin.Int.intBits (denP r q w) ≤ 4000) && decide (Builtin.Int.intBits (prodP w (nK r)) ≤ 40 * Builtin.Int.intBits (denP r q w)) && decide (Builtin.Int.intBits (fullP (nK r) w) ≤ 4000) && decide (Builtin.Int.intBits (d2iP w (tabK r)) ≤ 40 * Builtin.Int.intBits (fullP (nK r) w))
theorem okN_all : ∀ r, r < 8 → ∀ q, q < 3 → ∀ w, w < 6 → okN r q (7 + w) = true := by decide +kernel
def hueP (n k : Nat) : UInt64 := Float64.ofFrac (decide ((0 : Int) + (k : Int) < 0) != decide (((n : Nat) : Int) < 0)) ((0 : Int) + (k : Int)).natAbs ((n : Nat) : Int).natAbs
def lampsP (n : Nat) : List (UInt64 × UInt64 × UInt64) := (List.range n).map fun k => hsvP (hueP n k)
def stayP (rs : List Int) (t : Nat) : Int := (rs.filter fun r => decide ((t : Int).fmod r = 0)).sum
theorem ringsSum : ∀ r, r < 8 → 0 ≤ (ringsK r).sum := by decide +kernel
theorem dueBnd {rs : List Int} {n : Nat} (d : Int) (h : d ∈ List.map (dueP rs n) (List.range n)) (h2 : rs.length ≤ 10) : 0 ≤ d ∧ d < 2 ^ 4096 := by
  obtain ⟨k, _, rfl⟩ := List.mem_map.mp h
  unfold dueP
  have h1 := List.length_filter_le (fun r => decide ((k : Int).fmod ((n : Int).fdiv r) = 0)) rs
  have h3 : (4096 : Int) < 2 ^ 4096 := by decide +kernel
  generalize (2 : Int) ^ 4096 = B at h3 ⊢
  omega
theorem lampsSnoc {f : Nat → UInt64 × UInt64 × UInt64} {led : List (Addr × Obj)} {lv : List Value} {j : Nat} {D : Addr} {a b c : UInt64} {t0 t1 t2 : Tok} (h : LampsAre led lv ((List.range j).map f)) (hf : f j = (a, b, c)) :
    LampsAre (led ++ [(D, TO [.float a t0, .float b t1, .float c t2] 0)]) (lv ++ [.ref D]) ((List.range (j + 1)).map f) := by
  have hl : lv.length = j := by rw [h.1, List.length_map, List.length_range]
  refine ⟨by simp [hl], fun i x hx => ?_⟩
  rw [List.getElem?_map] at hx
  rcases Nat.lt_trichotomy i j with q | q | q
  · rw [List.getElem?_range (by omega)] at hx
    obtain ⟨Li, t0, t1, t2, h1, h2⟩ := h.2 i x (by rw [List.getElem?_map, List.getElem?_range q]; exact hx)
    exact ⟨Li, t0, t1, t2, by rw [List.getElem?_append_left (by omega)]; exact h1, List.mem_append_left _ h2⟩
  · subst q
    rw [List.getElem?_range (by omega)] at hx
    simp only [Option.map_some, Option.some.injEq] at hx
    rw [hf] at hx
    subst hx
    exact ⟨D, t0, t1, t2, by rw [List.getElem?_append_right (by omega), hl]; simp, List.mem_append_right _ (.head _)⟩
  · rw [List.getElem?_eq_none (by simp; omega)] at hx
    cases hx
theorem stayB : ∀ r, r < 8 → ∀ t, t < 6 → (stayP (ringsK r) t).natAbs ≤ 100 := by decide +kernel
theorem notOver {n : Int} (h : n.natAbs ≤ 100) : ¬ PySem.Flt.Over n := fun h2 => by
  have h3 : 100 < 2 ^ 1024 - 2 ^ 970 := by decide +kernel
  exact absurd (Nat.lt_of_lt_of_le h3 (Nat.le_trans h2 h)) (Nat.lt_irrefl _)
end
section
-- after: 20_pure
open PySem.Flt
def lampsK : Nat → List (UInt64 × UInt64 × UInt64)
  | 3 => [(4607182418800017408, 0, 0), (0, 4607182418800017408, 0), (0, 0, 4607182418800017408)]
  | 4 => [(4607182418800017408, 0, 0), (4602678819172646912, 4607182418800017408, 0), (0, 4607182418800017408, 4607182418800017408), (4602678819172646912, 0, 4607182418800017408)]
  | _ => [(4607182418800017408, 0, 0), (4607182418800017408, 4607182418800017408, 0), (0, 4607182418800017408, 0), (0, 4607182418800017408, 4607182418800017408), (0, 0, 4607182418800017408), (4607182418800017408, 0, 4607182418800017408)]
def redK : Nat → List (UInt64 × UInt64 × UInt64)
  | 0 => [(4622945017495814144, 0, 0), (4618441417868443648, 4618441417868443648, 4618441417868443648), (4618441417868443648, 4618441417868443648, 4618441417868443648), (4618441417868443648, 4618441417868443648, 4618441417868443648)]
  | 1 => [(4624633867356078080, 0, 0), (4619567317775286272, 4619567317775286272, 4619567317775286272), (4617315517961601024, 4617315517961601024, 4617315517961601024), (4621256167635550208, 4618441417868443648, 4618441417868443648), (4617315517961601024, 4617315517961601024, 4617315517961601024), (4619567317775286272, 4619567317775286272, 4619567317775286272)]
  | 2 => [(4626322717216342016, 0, 0), (4621819117588971520, 4621819117588971520, 4621819117588971520), (4620693217682128896, 4618441417868443648, 4618441417868443648), (4621819117588971520, 4621819117588971520, 4621819117588971520), (4620693217682128896, 4618441417868443648, 4618441417868443648), (4621819117588971520, 4621819117588971520, 4621819117588971520)]
  | 3 => [(4629137466983448576, 0, 0), (4624633867356078080, 4624633867356078080, 4624633867356078080), (4621819117588971520, 4621819117588971520, 4621819117588971520), (4624633867356078080, 4624633867356078080, 4624633867356078080), (4621819117588971520, 4621819117588971520, 4621819117588971520), (4624633867356078080, 4624633867356078080, 4624633867356078080)]
  | 4 => [(4618441417868443648, 0, 0), (4613937818241073152, 4613937818241073152, 4613937818241073152), (4616189618054758400, 4611686018427387904, 4611686018427387904), (4613937818241073152, 4613937818241073152, 4613937818241073152)]
  | 5 => [(4618441417868443648, 0, 0), (4611686018427387904, 4611686018427387904, 4611686018427387904), (4611686018427387904, 4611686018427387904, 4611686018427387904)]
  | 6 => [(4618441417868443648, 0, 0), (4613937818241073152, 4613937818241073152, 4613937818241073152), (4611686018427387904, 4611686018427387904, 4611686018427387904), (4613937818241073152, 4613937818241073152, 4613937818241073152), (4611686018427387904, 4611686018427387904, 4611686018427387904), (4613937818241073152, 4613937818241073152, 4613937818241073152)]
  | _ => [(4616189618054758400, 0, 0), (4611686018427387904, 4611686018427387904, 4611686018427387904), (4611686018427387904, 4611686018427387904, 4611686018427387904), (4611686018427387904, 4611686018427387904, 4611686018427387904)]
theorem lampsK3 : lampsP 3 = lampsK 3 := by decide +kernel
theorem lampsK4 : lampsP 4 = lampsK 4 := by decide +kernel
theorem lampsK6 : lampsP 6 = lampsK 6 := by decide +kernel
theorem nK_cases : ∀ r, r < 8 → nK r = 3 ∨ nK r = 4 ∨ nK r = 6 := by decide +kernel
theorem lampsK_eq {n : Nat} (h : n = 3 ∨ n = 4 ∨ n = 6) : lampsP n = lampsK n := by
  rcases h with rfl | rfl | rfl
  · exact lampsK3
  · exact lampsK4
  · exact lampsK6
def okR (r t k : Nat) : Bool := mixP (tabK r) (lampsK (nK r)) t k == part3 ((redK r).getD t (0, 0, 0)) k
theorem okR_all_0 : ∀ t, t < nK 0 → ∀ k, k < 3 → okR 0 t k = true := by decide +kernel
theorem okR_all_1 : ∀ t, t < nK 1 → ∀ k, k < 3 → okR 1 t k = true := by decide +kernel
theorem okR_all_2 : ∀ t, t < nK 2 → ∀ k, k < 3 → okR 2 t k = true := by decide +kernel
theorem okR_all_3 : ∀ t, t < nK 3 → ∀ k, k < 3 → okR 3 t k = true := by decide +kernel
theorem okR_all_4 : ∀ t, t < nK 4 → ∀ k, k < 3 → okR 4 t k = true := by decide +kernel
theorem okR_all_5 : ∀ t, t < nK 5 → ∀ k, k < 3 → okR 5 t k = true := by decide +kernel
theorem okR_all_6 : ∀ t, t < nK 6 → ∀ k, k < 3 → okR 6 t k = true := by decide +kernel
theorem okR_all_7 : ∀ t, t < nK 7 → ∀ k, k < 3 → okR 7 t k = true := by decide +kernel
theorem okR_all : ∀ r, r < 8 → ∀ t, t < nK r → ∀ k, k < 3 → okR r t k = true := fun r hr => match r, hr with
  | 0, _ => okR_all_0
  | 1, _ => okR_all_1
  | 2, _ => okR_all_2
  | 3, _ => okR_all_3
  | 4, _ => okR_all_4
  | 5, _ => okR_all_5
  | 6, _ => okR_all_6
  | 7, _ => okR_all_7
  | k + 8, h => absurd h (Nat.not_lt_of_le (Nat.le_add_left 8 k))
def okF (r t : Nat) (x : UInt64 × UInt64 × UInt64) : Bool :=
  rgbOk x.1 x.2.1 x.2.2 && rgbP x.1 x.2.1 x.2.2 == (0, Float64.div (Float64.ofInt (stayP (ringsK r) t)) x.1, x.1) && !Float64.isZero x.1 && (Float64.cmp (Float64.div (Float64.ofInt (stayP (ringsK r) t)) x.1) (Float64.div (Float64.ofInt (stayP (ringsK r) t)) x.1) == some .eq) && !(Float64.cmp x.1 x.2.1 == some .lt) && !(Float64.cmp x.1 x.2.2 == some .lt)
theorem okF_all_0 : ∀ t, t < nK 0 → okF 0 t ((redK 0).getD t (0, 0, 0)) = true := by decide +kernel
theorem okF_all_1 : ∀ t, t < nK 1 → okF 1 t ((redK 1).getD t (0, 0, 0)) = true := by decide +kernel
theorem okF_all_2 : ∀ t, t < nK 2 → okF 2 t ((redK 2).getD t (0, 0, 0)) = true := by decide +kernel
theorem okF_all_3 : ∀ t, t < nK 3 → okF 3 t ((redK 3).getD t (0, 0, 0)) = true := by decide +kernel
theorem okF_all_4 : ∀ t, t < nK 4 → okF 4 t ((redK 4).getD t (0, 0, 0)) = true := by decide +kernel
theorem okF_all_5 : ∀ t, t < nK 5 → okF 5 t ((redK 5).getD t (0, 0, 0)) = true := by decide +kernel
theorem okF_all_6 : ∀ t, t < nK 6 → okF 6 t ((redK 6).getD t (0, 0, 0)) = true := by decide +kernel
theorem okF_all_7 : ∀ t, t < nK 7 → okF 7 t ((redK 7).getD t (0, 0, 0)) = true := by decide +kernel
theorem okF_all : ∀ r, r < 8 → ∀ t, t < nK r → okF r t ((redK r).getD t (0, 0, 0)) = true := fun r hr => match r, hr with
  | 0, _ => okF_all_0
  | 1, _ => okF_all_1
  | 2, _ => okF_all_2
  | 3, _ => okF_all_3
  | 4, _ => okF_all_4
  | 5, _ => okF_all_5
  | 6, _ => okF_all_6
  | 7, _ => okF_all_7
  | k + 8, h => absurd h (Nat.not_lt_of_le (Nat.le_add_left 8 k))
def okH (n k : Nat) : Bool := hsvOk (hueP n k)
theorem okH_all : ∀ n, n < 7 → 3 ≤ n → ∀ k, k < n → okH n k = true := by decide +kernel
theorem cmp00 : (Float64.cmp 0 0 == some .eq) = true := by decide +kernel
end
section
-- after: 20_pure
theorem okW_0 : ∀ q, q < 3 → ∀ b, b < 6 → okW 0 q b = true := by decide +kernel
theorem okW_1_0 : ∀ b, b < 6 → okW 1 0 b = true := by decide +kernel
theorem okW_1_1 : ∀ b, b < 6 → okW 1 1 b = true := by decide +kernel
theorem okW_1_2 : ∀ b, b < 6 → okW 1 2 b = true := by decide +kernel
theorem okW_1 : ∀ q, q < 3 → ∀ b, b < 6 → okW 1 q b = true := fun q hq => match q, hq with
  | 0, _ => okW_1_0
  | 1, _ => okW_1_1
  | 2, _ => okW_1_2
  | k + 3, h => absurd h (Nat.not_lt_of_le (Nat.le_add_left 3 k))
theorem okW_2_0 : ∀ b, b < 6 → okW 2 0 b = true := by decide +kernel
theorem okW_2_1 : ∀ b, b < 6 → okW 2 1 b = true := by decide +kernel
theorem okW_2_2 : ∀ b, b < 6 → okW 2 2 b = true := by decide +kernel
theorem okW_2 : ∀ q, q < 3 → ∀ b, b < 6 → okW 2 q b = true := fun q hq => match q, hq with
  | 0, _ => okW_2_0
  | 1, _ => okW_2_1
  | 2, _ => okW_2_2
  | k + 3, h => absurd h (Nat.not_lt_of_le (Nat.le_add_left 3 k))
theorem okW_3_0 : ∀ b, b < 6 → okW 3 0 b = true := by decide +kernel
theorem okW_3_1 : ∀ b, b < 6 → okW 3 1 b = true := by decide +kernel
theorem okW_3_2 : ∀ b, b < 6 → okW 3 2 b = true := by decide +kernel
theorem okW_3 : ∀ q, q < 3 → ∀ b, b < 6 → okW 3 q b = true := fun q hq => match q, hq with
  | 0, _ => okW_3_0
  | 1, _ => okW_3_1
  | 2, _ => okW_3_2
  | k + 3, h => absurd h (Nat.not_lt_of_le (Nat.le_add_left 3 k))
theorem okW_4 : ∀ q, q < 3 → ∀ b, b < 6 → okW 4 q b = true := by decide +kernel
theorem okW_5 : ∀ q, q < 3 → ∀ b, b < 6 → okW 5 q b = true := by decide +kernel
theorem okW_6 : ∀ q, q < 3 → ∀ b, b < 6 → okW 6 q b = true := by decide +kernel
theorem okW_7 : ∀ q, q < 3 → ∀ b, b < 6 → okW 7 q b = true := by decide +kernel
theorem okW_all : ∀ r, r < 8 → ∀ q, q < 3 → ∀ b, b < 6 → okW r q b = true := fun r hr => match r, hr with
  | 0, _ => okW_0
  | 1, _ => okW_1
  | 2, _ => okW_2
  | 3, _ => okW_3
  | 4, _ => okW_4
  | 5, _ => okW_5
  | 6, _ => okW_6
  | 7, _ => okW_7
  | k + 8, h => absurd h (Nat.not_lt_of_le (Nat.le_add_left 8 k))
end
section
-- after: 20_pure 21_purew 21_puref 20_lawr 16_rings 16_bag 15_words 14_table 19_mix 18_rgb 17_hsv 10_idm 11_prod 14_rules5 18_feq
open PySem.Flt
theorem lan4 {A1 A2 A3 A4 G : Prop} (h : ((A1 ∧ A2) ∧ A3) ∧ A4) (k : A1 → A2 → A3 → A4 → G) : G := k h.1.1.1 h.1.1.2 h.1.2 h.2
theorem lan6 {A1 A2 A3 A4 A5 A6 G : Prop} (h : ((((A1 ∧ A2) ∧ A3) ∧ A4) ∧ A5) ∧ A6) (k : A1 → A2 → A3 → A4 → A5 → A6 → G) : G := k h.1.1.1.1.1 h.1.1.1.1.2 h.1.1.1.2 h.1.1.2 h.1.2 h.2
theorem lan9 {A1 A2 A3 A4 A5 A6 A7 A8 A9 G : Prop} (h : (((((((A1 ∧ A2) ∧ A3) ∧ A4) ∧ A5) ∧ A6) ∧ A7) ∧ A8) ∧ A9) (k : A1 → A2 → A3 → A4 → A5 → A6 → A7 → A8 → A9 → G) : G := k h.1.1.1.1.1.1.1.1 h.1.1.1.1.1.1.1.2 h.1.1.1.1.1.1.2 h.1.1.1.1.1.2 h.1.1.1.1.2 h.1.1.1.2 h.1.1.2 h.1.2 h.2
theorem lan10 {A1 A2 A3 A4 A5 A6 A7 A8 A9 A10 G : Prop} (h : ((((((((A1 ∧ A2) ∧ A3) ∧ A4) ∧ A5) ∧ A6) ∧ A7) ∧ A8) ∧ A9) ∧ A10) (k : A1 → A2 → A3 → A4 → A5 → A6 → A7 → A8 → A9 → A10 → G) : G := k h.1.1.1.1.1.1.1.1.1 h.1.1.1.1.1.1.1.1.2 h.1.1.1.1.1.1.1.2 h.1.1.1.1.1.1.2 h.1.1.1.1.1.2 h.1.1.1.1.2 h.1.1.1.2 h.1.1.2 h.1.2 h.2
abbrev LwJ1 (L' : Addr) (o5 o4 o3 o2 o1 : Obj) (j : Nat) (ys : List Value) (nx : List (Addr × Obj)) : Prop :=
  (∃ Dw ow, nx = [(Dw, ow), (L' + 1 + 1 + 1 + 1 + 1, o5), (L' + 1 + 1 + 1 + 1, o4), (L' + 1 + 1 + 1, o3), (L' + 1 + 1, o2), (L' + 1, o1), (37, tabObj #[]), (44, tabObj #[])]) ∧ ∃ ds : List Int, IntsAre ys ds ∧ ys.length ≤ j ∧ ∀ d ∈ ds, 0 ≤ d ∧ d < 5040
abbrev LwJ2 (led : List (Addr × Obj)) (j : Nat) (zs : List Value) (nx : List (Addr × Obj)) : Prop :=
  nx = led ∧ ∃ es : List Int, IntsAre zs es ∧ zs.length = j ∧ ∀ d ∈ es, 0 ≤ d ∧ d < 1000000
abbrev LwJ4 (Tb : Addr) (tv : List Value) (ktb : Nat) (W : Addr) (wv : List Value) (kw : Nat) (C : Addr) (cv : List Value) (kcv : Nat) (L' : Addr) (o5 o4 oSz oWd oD : Obj) (r q wdt : Nat) (j : Nat) (ys : List Value) (nx : List (Addr × Obj)) : Prop :=
  ∃ t44i, T44 t44i ∧ nx = (Tb, LO tv ktb) :: (W, LO wv kw) :: (C, TO cv kcv) :: (L' + 1 + 1 + 1 + 1 + 1, o5) :: (L' + 1 + 1 + 1 + 1, o4) :: (L' + 1 + 1 + 1, oSz) :: (L' + 1 + 1, oWd) :: (L' + 1, oD) :: (37, tabObj #[]) :: t44i ∧ IntsAre ys (((rotP r q).take j).map fun c => prodP wdt c.toNat)
abbrev LwJ7 (led : List (Addr × Obj)) (r : Nat) (C : Addr) (j : Nat) (ys : List Value) (nx : List (Addr × Obj)) : Prop :=
  ∃ ok cv, nx = (C + 1, ok) :: led ∧ ok.data = .cell cv ∧ IntsAre ys ((List.range j).map (dueP (ringsK r) (nK r)))
abbrev LwJ7b (led : List (Addr × Obj)) (r j : Nat) (jj : Nat) (ys2 : List Value) (nx2 : List (Addr × Obj)) : Prop :=
  nx2 = led ∧ IntsAre ys2 (((ringsK r).take jj).filter fun q => decide ((j : Int).fmod ((nK r : Int).fdiv q) = 0))
abbrev LwJ9 (R : Addr) (rv : List Value) (kr : Nat) (Tb : Addr) (tv : List Value) (ktb : Nat) (L' : Addr) (o5 oRg oSz oWd oD : Obj) (p37 p44 : Array Value) (r : Nat) (j : Nat) (ys : List Value) (nx : List (Addr × Obj)) : Prop :=
  ∃ ext, nx = (R, LO rv kr) :: (Tb, LO tv ktb) :: (L' + 1 + 1 + 1 + 1 + 1, o5) :: (L' + 1 + 1 + 1 + 1, oRg) :: (L' + 1 + 1 + 1, oSz) :: (L' + 1 + 1, oWd) :: (L' + 1, oD) :: (37, tabObj p37) :: (44, tabObj p44) :: ext ∧ LampsAre ext ys ((List.range j).map fun k => hsvP (hueP (nK r) k)) ∧ ∀ p ∈ ext, p.1 ≠ L' + 1 + 1 + 1 + 1 + 1
abbrev LwJ10 (L' : Addr) (mz : PySem.Str → Option Value) (bse : List (Addr × Obj)) (i : Nat) (m₁ : PySem.Str → Option Value) (nx : List (Addr × Obj)) : Prop :=
  ∃ (u : PySem.Str → Option Value) (o6 : Obj) (c6 : Option Value), m₁ = (fun z => if z = PySem.Str.ofString "stay" then u z else if z = PySem.Str.ofString "blue" then u z else if z = PySem.Str.ofString "green" then u z else if z = PySem.Str.ofString "red" then u z else mz z) ∧ o6.data = .cell c6 ∧ nx = (L' + 1 + 1 + 1 + 1 + 1, o6) :: bse
abbrev LwJ10b (led : List (Addr × Obj)) (r i : Nat) (jj : Nat) (ys2 : List Value) (nx2 : List (Addr × Obj)) : Prop :=
  nx2 = led ∧ IntsAre ys2 (((ringsK r).take jj).filter fun q => decide ((i : Int).fmod q = 0))
end
section
-- after: 00_left 20_pure 21_purew 21_puref 20_lawr 16_rings 16_bag 15_words 14_table 19_mix 18_rgb 17_hsv 10_idm 11_prod 14_rules5 18_feq 22_lawj
theorem law1 : PySem.Challenge.rw_sn0069_01.Holds := by
  w_on
  refine holds_law said0 fun said => ?_
  refine holds_open (q := view) (loose := [PySem.Str.ofString "Whitespace"]) (Xt := fun s => xlAt view [] s && recOk (RowW.records rW) s) (XP := XL view []) (Yf := Hook.obs HK) (Ya := Hook.val HK) (YP := Hook.says HK) (N := 2374) left1 (Hook.of HK) (Hook.keeps HK) (fun s e => xl_of s (Bool.and_eq_true_iff.mp e).1) XL.keeps (by rfl) (by rfl) (by rfl) (fun s e => recFacts_of (Bool.and_eq_true_iff.mp e).2) (by rfl) (by first | assumption | decide +kernel) (by decide +kernel) ⟨rfl, rfl, rfl, rfl, rfl, by decide +kernel⟩ ?hw ?hc
  case hw => w_witness2
  clear said
  delta HK
  w_strict (k_go0; (all_goals try k_fold))
  (with_reducible rename Fr _ _ _ _ => F0); (with_reducible rename News _ _ _ _ => N0); (with_reducible rename Top _ _ _ _ _ _ => T0); (with_reducible rename Frag.In _ _ => X0)
  (with_reducible rename IntsAre _ _ => hI); (with_reducible rename Shared => s₁); (with_reducible rename World => w)
  rename_i mg mb G Y fa ob pm cd doc ho hcd hg XM V T1 B TE TW ns hs hlay hL1 hr1 hl2 q9 q8 sc sv q5 hL ra w1 r0 hr hc63 hct hD h1 tk1 o5 o4 o3 o2 o1 d5 d4 d3 d2 d1 CA K1 cH l0
  have e5 : o5.data = .cell none := d5
  have e4 : o4.data = .cell none := d4
  have e3 : o3.data = .cell none := d3
  have e2 : o2.data = .cell none := d2
  have e1 : o1.data = .cell none := d1
  generalize ghostOf s₁.heap [(41, 37), (48, 44)] = g' at *
  generalize s₁.heap.objs.size = L' at *
  (try dsimp only)
  (with_reducible show wpAny _ _ _ _ _ _)
  k_fold
  clear d5 d4 d3 d2 d1 CA K1 cH codeHd hD hct hr r0 w1 ra hL q5 hl2 hr1 hL1 hlay hs hT9 TW TE B T1 V XM hT8 hcd ho Y G
  replace l0 : @LT.lt Nat _ 37 L' ∧ @LT.lt Nat _ 44 L' := l0
  ktr_unf
  k_dflt (refine' wpAny_Assign_Name ?_ ?hsw)
  case hsw => exact rfl
  have hsvl := hI.length
  k_dflt (refine' evalComp (h₀ := g') (L := L') (n := (ns.take 16).length) (P := fun _ v => ∃ x t, v = .int x t) (cl := ?clv) (J := LwJ1 L' o5 o4 o3 o2 o1) ?cl ?ce ?ki ?na ?ht ?sz ?src)
  case cl => exact rfl
  case ce => decide
  case ki => rfl
  case na => decide
  case ht => intro _ _; rfl
  case sz => rw [sizeLine_eq, List.length_take]; omega
  case src =>
    ktr_unf
    rename_i Dw wsl _ F1 N1 hI1 _ _ lw
    k_dflt (refine srcList rfl (.head _) F1 N1 ?_)
    intro h3 tk3 I3 hS3
    rw [hI1.length] at hS3
    refine CSrc.intro (hS3.weak fun i v hv => (by
      obtain ⟨x, t, e, _⟩ := hI1.at i v hv
      exact ⟨x, t, e⟩)) ⟨⟨_, _, rfl⟩, [], .nil, Nat.le_refl _, fun _ h => nomatch h⟩ ?_ ?_
    · intro g C D hlD hsg j v ys nx mm h4 tk4 own4 k4 hj hjl hq3 hq4 hoff hD4 hfp4 hwr4 F4 N4
      refine ex2 hq3 fun x tx eq_6 => ?_
      clear hq3
      subst eq_6
      refine an2 hq4 fun hq7 hq8 => ?_
      clear hq4
      refine ex2 hq7 fun Dw' ow eq_9 => ?_
      clear hq7
      subst eq_9
      refine ex1 hq8 fun ds hq10 => an3 hq10 fun hds hyl hdb => ?_
      clear hq8 hq10
      have Tg := T0.keeps hsg
      have Xg := X0.keeps hsg
      simp only [List.cons_append, List.nil_append] at N4
      ktr_unf
      (with_reducible rename Fr _ _ _ _ => F5); (with_reducible rename News _ _ _ _ => N5)
      refine CEnd.intro [(Dw', ow), (L' + 1 + 1 + 1 + 1 + 1, o5), (L' + 1 + 1 + 1 + 1, o4), (L' + 1 + 1 + 1, o3), (L' + 1 + 1, o2), (L' + 1, o1), (37, tabObj #[]), (44, tabObj #[])] F5 N5 (.head _) (by kqd_sub) (by kqd_sub) hoff ⟨⟨_, _, rfl⟩, ds ++ [x.fmod 5040], hds.append (.cons _ _ .nil), ?_, ?_⟩
      · rw [List.length_append]; simp; omega
      · intro d hd
        rcases List.mem_append.mp hd with hd | hd
        · exact hdb d hd
        · rw [List.mem_singleton.mp hd]
          exact ⟨Int.fmod_nonneg_of_pos _ (by decide), Int.fmod_lt_of_pos _ (by decide)⟩
    · intro D h4 tk4 ys nx k4 hoD hlD F4 N4 hq11
      refine an2 hq11 fun hq12 hq13 => ?_
      clear hq11
      refine ex2 hq12 fun Dw' ow eq_14 => ?_
      clear hq12
      subst eq_14
      refine ex1 hq13 fun ds hq15 => an3 hq15 fun hds hyl hdb => ?_
      clear hq13 hq15
      k_lt hlD
      obtain ⟨_, hlD⟩ := hlD
      replace N4 := newsSub N4 (news' := [(D, LO ys k4), (L' + 1 + 1 + 1 + 1 + 1, o5), (L' + 1 + 1 + 1 + 1, o4), (L' + 1 + 1 + 1, o3), (L' + 1 + 1, o2), (L' + 1, o1), (37, tabObj #[]), (44, tabObj #[])]) (by kqd_sub)
      have hyl2 : ys.length ≤ 16 := by rw [List.length_take] at hyl; omega
      ktr_unf
      rename_i oD F1 N1 eD
      (with_reducible rename Fr _ _ _ _ => F1)
      obtain ⟨m0, hm0, F1⟩ := namedMap F1
      clear hm0 hS3 hoD hI1 hyl hc63 lw lifted
      k_dflt (refine' Assign_Tuple ?_ ?hsw1)
      case hsw1 => exact rfl
      k_dflt (refine' evalComp (h₀ := g') (L := L') (n := 4) (P := fun i v => i < 4 ∧ ∃ t, v = .int ((0 : Int) + (i : Int)) t) (cl := ?clw) (J := LwJ2 [(D, LO ys k4), (L' + 1 + 1 + 1 + 1 + 1, o5), (L' + 1 + 1 + 1 + 1, o4), (L' + 1 + 1 + 1, o3), (L' + 1 + 1, o2), (L' + 1, oD), (37, tabObj #[]), (44, tabObj #[])]) ?cl ?ce ?ki ?na ?ht ?sz ?src)
      case cl => exact rfl
      case ce => decide
      case ki => rfl
      case na => decide
      case ht => intro _ _; rfl
      case sz => rw [sizeLine_eq]; omega
      case src =>
        ktr_unf
        rename_i hr4 F4 N4 _
        k_dflt (refine srcRange rfl hr4 (rngSmall (by omega) (by omega) (by omega)) (n := 4) (rngSize (by omega)) F4 N4 ?_)
        intro h3 tk3 I3 hS3
        refine CSrc.intro hS3 ⟨rfl, [], .nil, rfl, fun _ h => nomatch h⟩ ?_ ?_
        · intro g C D2 hlD2 hsg j v zs nx mm h4 tk4 own4 k4' hj hjl hq3 hq4 hoff hD4 hfp4 hwr4 F4 N4
          refine an2 hq3 fun _ hq6 => ?_
          clear hq3
          refine ex1 hq6 fun tx eq_7 => ?_
          clear hq6
          subst eq_7
          refine an2 hq4 fun eq_8 hq9 => ?_
          clear hq4
          subst eq_8
          refine ex1 hq9 fun es hq10 => an3 hq10 fun hes hzl heb => ?_
          clear hq9 hq10
          have Tg := T0.keeps hsg
          have Xg := X0.keeps hsg
          simp only [List.cons_append, List.nil_append] at N4
          ktr_unf
          (with_reducible rename Fr _ _ _ _ => F5); (with_reducible rename News _ _ _ _ => N5)
          have hpk := hds.pick (some (0 + (j : Int))) none (some 4)
          k_dflt (refine sumL (vs := (slicePick ys.toArray (some (0 + (j : Int))) none (some 4)).toList) rfl F5 N5 (.head _) hpk ?_)
          intro h6 tk6 t6 F6 N6
          have hpl := length_pickNums_le hds (some (0 + (j : Int))) none (some 4)
          have hdl := hds.length
          obtain ⟨hb1, hb2⟩ := sumBnd (B := 5040) (by decide) (l := pickNums ds (some (0 + (j : Int))) none (some 4)) fun d hd => hdb d (pickMem hd)
          refine CEnd.intro [(D, LO ys k4), (L' + 1 + 1 + 1 + 1 + 1, o5), (L' + 1 + 1 + 1 + 1, o4), (L' + 1 + 1 + 1, o3), (L' + 1 + 1, o2), (L' + 1, oD), (37, tabObj #[]), (44, tabObj #[])] F6 N6 (.tail _ (.head _)) (by kqd_sub) (by kqd_sub) hoff ⟨rfl, es ++ [_], hes.append (.cons _ _ .nil), ?_, ?_⟩
          · rw [List.length_append, hzl]; rfl
          · intro d hd
            rcases List.mem_append.mp hd with hd | hd
            · exact heb d hd
            · rw [List.mem_singleton.mp hd]
              omega
        · intro D2 h4 tk4 zs nx k4' hoD2 hlD2 F4 N4 hq11
          refine an2 hq11 fun eq_12 hq13 => ?_
          clear hq11
          subst eq_12
          refine ex1 hq13 fun es hq14 => an3 hq14 fun hes hzl heb => ?_
          clear hq13 hq14
          refine ex8 (ints4 hes hzl) fun ka kb kc kd ta tb tc td hq17 => an2 hq17 fun eq_15 eq_16 => ?_
          clear hq17
          subst eq_15
          subst eq_16
          obtain ⟨ka, rfl⟩ : ∃ n : Nat, ka = n := Int.eq_ofNat_of_zero_le (heb ka (by simp)).1
          obtain ⟨kb, rfl⟩ : ∃ n : Nat, kb = n := Int.eq_ofNat_of_zero_le (heb kb (by simp)).1
          obtain ⟨kc, rfl⟩ : ∃ n : Nat, kc = n := Int.eq_ofNat_of_zero_le (heb kc (by simp)).1
          obtain ⟨kd, rfl⟩ : ∃ n : Nat, kd = n := Int.eq_ofNat_of_zero_le (heb kd (by simp)).1
          ktr_unf
          (with_reducible rename Fr _ _ _ _ => F5); (with_reducible rename News _ _ _ _ => N5)
          obtain ⟨led, hled⟩ : ∃ led : List (Addr × Obj), led = [(L' + 1 + 1 + 1 + 1 + 1, o5), (L' + 1 + 1 + 1 + 1, o4), (L' + 1 + 1 + 1, o3), (L' + 1 + 1, o2), (L' + 1, oD), (37, tabObj #[]), (44, tabObj #[])] := ⟨_, rfl⟩
          replace N5 := newsSub N5 (news' := led) fun p hp => by
            rw [hled] at hp
            exact .tail _ (.tail _ hp)
          clear hes heb hzl hoD2 hlD2 hS3 hr4 hyl2 hlD hdb hds
          k_dflt (refine bag_call ka kb _ _ _ _ _ _ _ _ _ _ _ _ F5 X0 N5 T0 (by ktr_room) (by ktr_units) ?_)
          intro C cv kcv h3 tk3 F4 hcv N4 lC
          rw [hled] at N4 lC
          k_lt lC
          obtain ⟨r, hr⟩ : ∃ r, r = ka % 8 := ⟨_, rfl⟩
          obtain ⟨q, hq⟩ : ∃ q, q = kb % 3 := ⟨_, rfl⟩
          obtain ⟨be, hbe⟩ : ∃ b, b = kc % 6 := ⟨_, rfl⟩
          obtain ⟨om, hom⟩ : ∃ b, b = kd % 6 := ⟨_, rfl⟩
          have hr8 : r < 8 := by omega
          have hq3 : q < 3 := by omega
          have hbe6 : be < 6 := by omega
          have hom6 : om < 6 := by omega
          rw [← hr, ← hq] at hcv
          have hB := okB_all r hr8 q hq3
          simp only [okB, Bool.and_eq_true, beq_iff_eq, decide_eq_true_eq, List.all_eq_true] at hB
          refine lan10 hB fun hB1 hB2 hB3 hB4 hB5 hB6 hB7 hB8 hB9 hB10 => ?_
          clear hB
          obtain ⟨hL1, hL2⟩ := okL be hbe6
          have hW := okW_all r hr8 q hq3 be hbe6
          simp only [okW, Bool.and_eq_true, beq_iff_eq, List.all_eq_true] at hW
          refine lan4 hW fun hW1 hW2 hW3 hW4 => ?_
          clear hW
          have hfc : ((kc : Nat) : Int).fmod 6 = ((be : Nat) : Int) := by rw [hbe]; exact (fdivmod_nat kc 6).2
          have hfd : ((kd : Nat) : Int).fmod 6 = ((om : Nat) : Int) := by rw [hom]; exact (fdivmod_nat kd 6).2
          have hlet : Txt.slice (PySem.Str.ofString "ab#:;-xz") (some ((be : Nat) : Int)) (some ((be : Nat) + 3 : Int)) = S (lettersP be) := by
            have e : PySem.Str.ofString "ab#:;-xz" = S [97, 98, 35, 58, 59, 45, 120, 122] := by decide +kernel
            rw [e, show ((be : Nat) + 3 : Int) = ((be + 3 : Nat) : Int) by omega, sFT (by omega) (by simp; omega)]
            unfold lettersP
            rw [show be + 3 - be = 3 by omega]
          ktr_unf
          rename_i oWd F3 N3 eWd
          rw [hfc, hlet] at F3
          rw [hfd, show (7 : Int) + (om : Nat) = ((7 + om : Nat) : Int) by omega] at eWd
          obtain ⟨wdt, hwdt⟩ : ∃ x, x = 7 + om := ⟨_, rfl⟩
          rw [← hwdt] at eWd
          have hwd1 : 7 ≤ wdt ∧ wdt ≤ 12 := by omega
          k_dflt (refine sumT rfl F3 N3 (.head _) hcv ?_)
          intro h2 tk2 t2 F2 N2
          rw [hB2]
          ktr_unf
          rename_i oSz F1 N1 eSz
          k_dflt (refine words_call (lettersP be) (rotP r q) (nK r) _ (.head _) hcv hB1 hL1 hB2 hB4 _ _ _ _ _ _ _ _ _ _ F1 X0 N1 T0 (by ktr_room) (by ktr_units) ?_)
          intro W wv kw h9 tk9 F9 hwv N9 lW
          k_lt lW
          ktr_unf
          (with_reducible rename Fr _ _ _ _ => F8); (with_reducible rename News _ _ _ _ => N8)
          obtain ⟨ws, hws⟩ : ∃ ws, ws = wordsP (lettersP be) (rotP r q) (nK r) := ⟨_, rfl⟩
          have hwe : ∀ w ∈ ws, w.length = nK r := fun w hw => words_each _ _ _ w (hws ▸ hw)
          rw [← hws] at hwv hW1 hW2 hW3 hW4
          have hcl : ∀ w ∈ ws, ∀ c ∈ w, c ∈ lettersP be := fun w hw c hc => List.contains_iff_mem.mp (hW1 w hw c hc)
          have hwn : ws.length ≤ 729 := by rw [hws]; exact Nat.le_trans (words_len _ _ _) (Nat.le_trans (Nat.pow_le_pow_right (by decide) hB4) (by decide))
          k_dflt (refine table_call (lettersP be) ws _ (.head _) hwv hcl (by omega) (fun w hw => by rw [hwe w hw]; omega) (by omega) _ _ _ _ _ _ _ _ _ _ F8 X0 N8 T0 (by ktr_room) (by ktr_units) ?_)
          intro Tb tv ktb h7 tk7 F7 htv N7 lT
          rw [hW2] at htv
          k_lt lT
          ktr_unf
          (with_reducible rename Fr _ _ _ _ => F6); (with_reducible rename News _ _ _ _ => N6)
          have hcvl := hcv.length
          have g1 : @LT.lt Nat _ 44 (L' + 1) := by omega
          have g2 : @LT.lt Nat _ 44 (L' + 1 + 1) := Nat.lt_succ_of_lt g1
          have g3 : @LT.lt Nat _ 44 (L' + 1 + 1 + 1) := Nat.lt_succ_of_lt g2
          have g4 : @LT.lt Nat _ 44 (L' + 1 + 1 + 1 + 1) := Nat.lt_succ_of_lt g3
          have g5 : @LT.lt Nat _ 44 (L' + 1 + 1 + 1 + 1 + 1) := Nat.lt_succ_of_lt g4
          have gC : @LT.lt Nat _ 44 C := by omega
          have gW : @LT.lt Nat _ 44 W := by omega
          have gT : @LT.lt Nat _ 44 Tb := by omega
          have h44r : ∀ p ∈ [(Tb, LO tv ktb), (W, LO wv kw), (C, TO cv kcv), (L' + 1 + 1 + 1 + 1 + 1, o5), (L' + 1 + 1 + 1 + 1, o4), (L' + 1 + 1 + 1, oSz), (L' + 1 + 1, oWd), (L' + 1, oD), (37, tabObj #[])], p.1 ≠ 44 := ne_cons (gt_ne gT) (ne_cons (gt_ne gW) (ne_cons (gt_ne gC) (ne_cons (gt_ne g5) (ne_cons (gt_ne g4) (ne_cons (gt_ne g3) (ne_cons (gt_ne g2) (ne_cons (gt_ne g1) (ne_cons (by decide) ne_nil))))))))
          k_dflt (refine' assignComp (h₀ := g') (n := cv.length) (P := fun i v => cv[i]? = some v) (cl := ?clx) (J := LwJ4 Tb tv ktb W wv kw C cv kcv L' o5 o4 oSz oWd oD r q wdt) ?sw ?cl ?ce ?ki ?na ?hy ?hp ?ht ?sz ?src)
          case sw => exact rfl
          case cl => exact rfl
          case ce => decide
          case ki => rfl
          case na => decide
          case hy => rfl
          case hp => rfl
          case ht => intro _ _; rfl
          case sz => rw [sizeLine_eq]; omega
          case src =>
            ktr_unf
            k_dflt (refine srcTuple rfl (.tail _ (.tail _ (.head _))) F6 N6 ?_)
            intro h3 tk3 I3 hS3
            refine CSrc.intro hS3 ⟨[(44, tabObj #[])], .inl rfl, rfl, .nil⟩ ?_ ?_
            · intro g C' D' hlD hsg j v ys nx mm h5 tk5 own5 k5 hj hjl hv hq3 hoff hD5 hfp5 hwr5 F5 N5
              refine ex1 hq3 fun t44i hq6 => an3 hq6 fun ht44 eq_5 hys => ?_
              clear hq3 hq6
              subst eq_5
              have Tg := T0.keeps hsg
              have Xg := X0.keeps hsg
              refine ex2 (hcv.at j v hv) fun x tx hq8 => an2 hq8 fun eq_7 hx => ?_
              clear hq8
              subst eq_7
              have hxb := hB5 x (List.mem_of_getElem? hx)
              obtain ⟨xn, rfl⟩ : ∃ n : Nat, x = n := Int.eq_ofNat_of_zero_le hxb.1
              simp only [List.cons_append] at N5
              ktr_unf
              (with_reducible rename Fr _ _ _ _ => F4); (with_reducible rename News _ _ _ _ => N4)
              have hI44 : I3 ≠ 44 := fun e => by
                obtain ⟨o, ho⟩ := ht44.has
                exact (hoff (44, o) (by kqd_in)).1 (by rw [e]; exact List.mem_singleton.mpr rfl)
              have hD44 : 44 < D' := hlD (44, tabObj #[]) (by kqd_in)
              k_dflt (refine prod_call (news := (D', LO ys k5) :: (Tb, LO tv ktb) :: (W, LO wv kw) :: (C, TO cv kcv) :: (L' + 1 + 1 + 1 + 1 + 1, o5) :: (L' + 1 + 1 + 1 + 1, o4) :: (L' + 1 + 1 + 1, oSz) :: (L' + 1 + 1, oWd) :: (L' + 1, oD) :: (37, tabObj #[]) :: own5) xn wdt _ _ (by omega) (by omega) _ _ _ _ _ _ _ _ _ _ ht44 ?_ F4 Xg (newsSub N4 (sub_app (sub_skip (sub_skip (sub_skip (sub_skip (sub_skip (sub_skip (sub_skip (sub_skip (sub_skip (sub_skip (sub_inl sub_refl))))))))))) (sub_keep (sub_keep (sub_keep (sub_keep (sub_keep (sub_keep (sub_keep (sub_keep (sub_keep (sub_keep (sub_inr sub_refl))))))))))))) Tg (by ktr_room) (by ktr_units) ?_)
              · refine ne_cons (Nat.ne_of_gt hD44) fun p hp => ?_
                rcases (List.mem_append (s := [(Tb, LO tv ktb), (W, LO wv kw), (C, TO cv kcv), (L' + 1 + 1 + 1 + 1 + 1, o5), (L' + 1 + 1 + 1 + 1, o4), (L' + 1 + 1 + 1, oSz), (L' + 1 + 1, oWd), (L' + 1, oD), (37, tabObj #[])])).mp hp with hp | hp
                · exact h44r p hp
                · rcases List.mem_cons.mp (hfp5 p hp) with e | e
                  · rw [e]; exact hI44
                  · rw [List.mem_singleton.mp e]
                    exact h44r (C, TO cv kcv) (by kqd_in)
              intro tp h6 tk6 t44' ht44' hsep F3 N3
              obtain ⟨oI, hoI⟩ := hwr5 I3 (List.mem_singleton.mpr rfl)
              refine CEnd.intro ((Tb, LO tv ktb) :: (W, LO wv kw) :: (C, TO cv kcv) :: (L' + 1 + 1 + 1 + 1 + 1, o5) :: (L' + 1 + 1 + 1 + 1, o4) :: (L' + 1 + 1 + 1, oSz) :: (L' + 1 + 1, oWd) :: (L' + 1, oD) :: (37, tabObj #[]) :: t44') F3 N3 (List.mem_append_right _ (.head _)) (by kqd_sub) (by kqd_sub) (fun p hp => ?_) ⟨t44', ht44', rfl, ?_⟩
              · rcases (List.mem_append (s := [(Tb, LO tv ktb), (W, LO wv kw), (C, TO cv kcv), (L' + 1 + 1 + 1 + 1 + 1, o5), (L' + 1 + 1 + 1 + 1, o4), (L' + 1 + 1 + 1, oSz), (L' + 1 + 1, oWd), (L' + 1, oD), (37, tabObj #[])]) (t := t44')).mp hp with hp | hp
                · exact hoff p ((show ∀ q ∈ [(Tb, LO tv ktb), (W, LO wv kw), (C, TO cv kcv), (L' + 1 + 1 + 1 + 1 + 1, o5), (L' + 1 + 1 + 1 + 1, o4), (L' + 1 + 1 + 1, oSz), (L' + 1 + 1, oWd), (L' + 1, oD), (37, tabObj #[])], q ∈ (Tb, LO tv ktb) :: (W, LO wv kw) :: (C, TO cv kcv) :: (L' + 1 + 1 + 1 + 1 + 1, o5) :: (L' + 1 + 1 + 1 + 1, o4) :: (L' + 1 + 1 + 1, oSz) :: (L' + 1 + 1, oWd) :: (L' + 1, oD) :: (37, tabObj #[]) :: t44i by kqd_sub) p hp)
                · refine ⟨fun hI => ?_, ?_⟩
                  · exact hsep I3 oI (by kqd_in) (fun q hq e => (hoff q (by kqd_in)).1 (List.mem_singleton.mpr e)) p hp (List.mem_singleton.mp hI)
                  · exact hsep D' _ (.head _) (fun q hq => (hoff q (by kqd_in)).2) p hp
              · have hx' : (rotP r q)[j]? = some (xn : Int) := hx
                rw [List.take_add_one, hx', Option.toList_some, List.map_append]
                exact hys.append (.cons _ _ .nil)
            · intro D' h5 tk5 ys nx k5 hoD hlD F5 N5 hq9
              refine ex1 hq9 fun t44i hq11 => an3 hq11 fun ht44 eq_10 hys => ?_
              clear hq9 hq11
              subst eq_10
              have hDc := hlD
              k_lt hDc
              ktr_unf
              (with_reducible rename Fr _ _ _ _ => F4); (with_reducible rename News _ _ _ _ => N4)
              clear hS3 hoD hlD
              have hN := okN_all r hr8 q hq3 om hom6
              rw [← hwdt] at hN
              simp only [okN, Bool.and_eq_true, beq_iff_eq, decide_eq_true_eq] at hN
              refine lan9 hN fun hN1 hN2 hN3 hN4 hN5 hN6 hN7 hN8 hN9 => ?_
              clear hN
              have hpw : wdt ≤ 40 := by omega
              have hb0 := prod_bound (w := wdt) hpw (i := ((rotP r q).getD 0 0).toNat) (Nat.le_trans (okB2 r hr8 q hq3 0 (by decide)) (by decide))
              have hb1 := prod_bound (w := wdt) hpw (i := ((rotP r q).getD 1 0).toNat) (Nat.le_trans (okB2 r hr8 q hq3 1 (by decide)) (by decide))
              have hb2 := prod_bound (w := wdt) hpw (i := ((rotP r q).getD 2 0).toNat) (Nat.le_trans (okB2 r hr8 q hq3 2 (by decide)) (by decide))
              have hbn := prod_bound (w := wdt) hpw (i := nK r) (by omega)
              have hz0 := okB2 r hr8 q hq3 0 (by decide)
              have hz1 := okB2 r hr8 q hq3 1 (by decide)
              have hz2 := okB2 r hr8 q hq3 2 (by decide)
              unfold denP at hN1 hN2 hN4 hN6 hN7
              have hys2 : (((rotP r q).take cv.length).map fun c => prodP wdt c.toNat) = [prodP wdt ((rotP r q).getD 0 0).toNat, prodP wdt ((rotP r q).getD 1 0).toNat, prodP wdt ((rotP r q).getD 2 0).toNat] := by
                rw [hcvl, List.take_length]
                obtain ⟨x0, x1, x2, _, _, _, _, e⟩ := ints3 hcv (by rw [hcvl]; exact hB1)
                rw [e]; rfl
              rw [hys2] at hys
              refine ex6 (ints3 hys (by rw [hys.length]; rfl)) fun P0 P1 P2 u0 u1 u2 hq1 => an2 hq1 fun hyse e => ?_
              clear hq1
              injection e with e0 e
              injection e with e1' e
              injection e with e2' _
              rw [e0] at hb0 hN1 hN2 hN4 hN6 hN7
              rw [e1'] at hb1 hN1 hN2 hN4 hN6 hN7
              rw [e2'] at hb2 hN1 hN2 hN4 hN6 hN7
              subst hyse
              clear hys
              have hm1 : IntMulOk P0 P1 := mulFits hb0 hb1 (by omega) (by omega)
              have hb01 := mulBnd hb0 hb1
              have hm2 : IntMulOk (P0 * P1) P2 := mulFits hb01 hb2 (by omega) (by omega)
              have hb012 := mulBnd hb01 hb2
              obtain ⟨An, hAn⟩ := natOf hbn.1
              obtain ⟨Bn, hBn⟩ := natOf hb012.1
              have gD : @LT.lt Nat _ 44 D' := by omega
              k_dflt (refine prod_call (news := [(D', LO [.int P0 u0, .int P1 u1, .int P2 u2] k5), (Tb, LO tv ktb), (W, LO wv kw), (C, TO cv kcv), (L' + 1 + 1 + 1 + 1 + 1, o5), (L' + 1 + 1 + 1 + 1, o4), (L' + 1 + 1 + 1, oSz), (L' + 1 + 1, oWd), (L' + 1, oD), (37, tabObj #[])]) (nK r) wdt _ _ (by omega) (by omega) _ _ _ _ _ _ _ _ _ _ ht44 (ne_cons (gt_ne gD) h44r) F4 X0 (newsSub N4 (sub_app (sub_skip (sub_skip (sub_skip (sub_skip (sub_skip (sub_skip (sub_skip (sub_skip (sub_skip (sub_skip sub_refl)))))))))) (sub_keep (sub_keep (sub_keep (sub_keep (sub_keep (sub_keep (sub_keep (sub_keep (sub_keep (sub_keep sub_nil)))))))))))) T0 (by ktr_room) (by ktr_units) ?_)
              intro tp h6 tk6 t44a ht44a hsepa F3 N3
              clear F4 N4
              replace N3 := newsSub N3 (news' := (D', LO [.int P0 u0, .int P1 u1, .int P2 u2] k5) :: (Tb, LO tv ktb) :: (W, LO wv kw) :: (C, TO cv kcv) :: (L' + 1 + 1 + 1 + 1 + 1, o5) :: (L' + 1 + 1 + 1 + 1, o4) :: (L' + 1 + 1 + 1, oSz) :: (L' + 1 + 1, oWd) :: (L' + 1, oD) :: (37, tabObj #[]) :: t44a) (sub_cons (List.mem_append_right _ (.head _)) (sub_cons (List.mem_append_right _ (.tail _ (.head _))) (sub_cons (List.mem_append_right _ (.tail _ (.tail _ (.head _)))) (sub_cons (List.mem_append_right _ (.tail _ (.tail _ (.tail _ (.head _))))) (sub_cons (List.mem_append_right _ (.tail _ (.tail _ (.tail _ (.tail _ (.head _)))))) (sub_cons (List.mem_append_right _ (.tail _ (.tail _ (.tail _ (.tail _ (.tail _ (.head _))))))) (sub_cons (List.mem_append_right _ (.tail _ (.tail _ (.tail _ (.tail _ (.tail _ (.tail _ (.head _)))))))) (sub_cons (List.mem_append_right _ (.tail _ (.tail _ (.tail _ (.tail _ (.tail _ (.tail _ (.tail _ (.head _))))))))) (sub_cons (List.mem_append_right _ (.tail _ (.tail _ (.tail _ (.tail _ (.tail _ (.tail _ (.tail _ (.tail _ (.head _)))))))))) (sub_cons (List.mem_append_right _ (.tail _ (.tail _ (.tail _ (.tail _ (.tail _ (.tail _ (.tail _ (.tail _ (.tail _ (.head _))))))))))) (sub_inl sub_refl)))))))))))
              ktr_unf
              rw [show ([P0, P1, P2].getD (Int.toNat 0) 0) = P0 from rfl, show ([P0, P1, P2].getD (Int.toNat 1) 0) = P1 from rfl]
              ktr_unf
              rw [show ([P0, P1, P2].getD (Int.toNat 2) 0) = P2 from rfl]
              ktr_unf
              (with_reducible rename Fr _ _ _ _ => F4); (with_reducible rename News _ _ _ _ => N4)
              rw [hAn, hBn]
              rw [hAn, hBn] at hN1 hN2 hN7
              rw [hBn] at hN4 hN6
              simp only [Int.toNat_natCast] at hN1 hN2
              have h37r : ∀ p ∈ [(D', LO [.int P0 u0, .int P1 u1, .int P2 u2] k5), (Tb, LO tv ktb), (W, LO wv kw), (C, TO cv kcv), (L' + 1 + 1 + 1 + 1 + 1, o5), (L' + 1 + 1 + 1 + 1, o4), (L' + 1 + 1 + 1, oSz), (L' + 1 + 1, oWd), (L' + 1, oD)], p.1 ≠ 37 ∧ p.1 ≠ 44 := ne2_cons gD (ne2_cons gT (ne2_cons gW (ne2_cons gC (ne2_cons g5 (ne2_cons g4 (ne2_cons g3 (ne2_cons g2 (ne2_cons g1 (ne2_nil)))))))))
              k_dflt (refine idm_call (news := [(D', LO [.int P0 u0, .int P1 u1, .int P2 u2] k5), (Tb, LO tv ktb), (W, LO wv kw), (C, TO cv kcv), (L' + 1 + 1 + 1 + 1 + 1, o5), (L' + 1 + 1 + 1 + 1, o4), (L' + 1 + 1 + 1, oSz), (L' + 1 + 1, oWd), (L' + 1, oD)]) (t37 := [(37, tabObj #[])]) An Bn _ _ (by omega) hN6 hN7 _ _ _ _ _ _ _ _ _ _ (.inl rfl) ht44a h37r F4 X0 (newsSub N4 (sub_app (sub_skip (sub_skip (sub_skip (sub_skip (sub_skip (sub_skip (sub_skip (sub_skip (sub_skip (sub_keep sub_nil)))))))))) (sub_app (sub_skip (sub_skip (sub_skip (sub_skip (sub_skip (sub_skip (sub_skip (sub_skip (sub_skip (sub_skip sub_refl)))))))))) (sub_keep (sub_keep (sub_keep (sub_keep (sub_keep (sub_keep (sub_keep (sub_keep (sub_keep sub_nil)))))))))))) T0 (by ktr_room) (by ktr_units) ?_)
              intro Dq t1 t2' kq h4 tk4' t37b t44b ht37b ht44b F3 N3 lq
              clear F4 N4
              rw [hN1] at N3
              obtain ⟨Qn, hQn⟩ : ∃ x, x = An / Bn := ⟨_, rfl⟩
              rw [← hQn] at N3 hN2
              have hlq : ∀ c o, (c, o) ∈ [(D', LO [.int P0 u0, .int P1 u1, .int P2 u2] k5), (Tb, LO tv ktb), (W, LO wv kw), (C, TO cv kcv), (L' + 1 + 1 + 1 + 1 + 1, o5), (L' + 1 + 1 + 1 + 1, o4), (L' + 1 + 1 + 1, oSz), (L' + 1 + 1, oWd), (L' + 1, oD)] → @LT.lt Nat _ c Dq := fun c o hm => lq (c, o) (List.mem_append_right _ (List.mem_append_right _ hm))
              have q1 := hlq Tb (LO tv ktb) (by kqd_in)
              have q2 := hlq W (LO wv kw) (by kqd_in)
              have q3 := hlq (L' + 1 + 1 + 1 + 1 + 1) o5 (by kqd_in)
              have q4 := hlq (L' + 1 + 1 + 1 + 1) o4 (by kqd_in)
              have hcells : ∀ p ∈ t37b ++ t44b, p.1 ≠ L' + 1 + 1 + 1 + 1 + 1 ∧ p.1 ≠ L' + 1 + 1 + 1 + 1 := by
                have n37 : ∀ x : Nat, 37 < L' → (L' + 1 + x ≠ 37) := fun x h => by omega
                intro p hp
                rcases List.mem_append.mp hp with hp | hp
                · exact ⟨tab_off ht37b N3 (fun p hp => .tail _ (List.mem_append_left _ hp)) (o := o5) (by kqd_in) (neN (by omega)) (by rw [e5]; intro vs e; cases e) p hp, tab_off ht37b N3 (fun p hp => .tail _ (List.mem_append_left _ hp)) (o := o4) (by kqd_in) (neN (by omega)) (by rw [e4]; intro vs e; cases e) p hp⟩
                · exact ⟨tab_off ht44b N3 (fun p hp => .tail _ (List.mem_append_right _ (List.mem_append_left _ hp))) (o := o5) (by kqd_in) (neN (by omega)) (by rw [e5]; intro vs e; cases e) p hp, tab_off ht44b N3 (fun p hp => .tail _ (List.mem_append_right _ (List.mem_append_left _ hp))) (o := o4) (by kqd_in) (neN (by omega)) (by rw [e4]; intro vs e; cases e) p hp⟩
              replace N3 := newsSub N3 (news' := (Dq, TO [.int ((Qn : Nat) : Int) t1, .int ((0 : Nat) : Int) t2'] kq) :: (Tb, LO tv ktb) :: (W, LO wv kw) :: (L' + 1 + 1 + 1 + 1 + 1, o5) :: (L' + 1 + 1 + 1 + 1, o4) :: (L' + 1 + 1 + 1, oSz) :: (L' + 1 + 1, oWd) :: (L' + 1, oD) :: (t37b ++ t44b)) (sub_keep (sub_cons (List.mem_append_right _ (List.mem_append_right _ (.tail _ (.head _)))) (sub_cons (List.mem_append_right _ (List.mem_append_right _ (.tail _ (.tail _ (.head _))))) (sub_cons (List.mem_append_right _ (List.mem_append_right _ (.tail _ (.tail _ (.tail _ (.tail _ (.head _))))))) (sub_cons (List.mem_append_right _ (List.mem_append_right _ (.tail _ (.tail _ (.tail _ (.tail _ (.tail _ (.head _)))))))) (sub_cons (List.mem_append_right _ (List.mem_append_right _ (.tail _ (.tail _ (.tail _ (.tail _ (.tail _ (.tail _ (.head _))))))))) (sub_cons (List.mem_append_right _ (List.mem_append_right _ (.tail _ (.tail _ (.tail _ (.tail _ (.tail _ (.tail _ (.tail _ (.head _)))))))))) (sub_cons (List.mem_append_right _ (List.mem_append_right _ (.tail _ (.tail _ (.tail _ (.tail _ (.tail _ (.tail _ (.tail _ (.tail _ (.head _))))))))))) (sub_app (sub_inl sub_refl) (sub_inr (sub_inl sub_refl)))))))))))
              ktr_unf
              (with_reducible rename Fr _ _ _ _ => F5); (with_reducible rename News _ _ _ _ => N5)
              clear hlq lq h37r hsepa hb012 hm2 hb01 hm1
              have htl := htv.length
              replace N5 := newsSub N5 (news' := (Tb, LO tv ktb) :: (W, LO wv kw) :: (L' + 1 + 1 + 1 + 1 + 1, o5) :: (L' + 1 + 1 + 1 + 1, o4) :: (L' + 1 + 1 + 1, oSz) :: (L' + 1 + 1, oWd) :: (L' + 1, oD) :: (t37b ++ t44b)) fun p hp => .tail _ hp
              have h3744 : ∀ p ∈ t37b, p.1 ≠ 44 := tab_apart ht37b ht44b N5 (sub_skip (sub_skip (sub_skip (sub_skip (sub_skip (sub_skip (sub_skip (sub_inl sub_refl)))))))) (sub_skip (sub_skip (sub_skip (sub_skip (sub_skip (sub_skip (sub_skip (sub_inr sub_refl)))))))) (by decide)
              have hr44 : ∀ p ∈ [(Tb, LO tv ktb), (W, LO wv kw), (L' + 1 + 1 + 1 + 1 + 1, o5), (L' + 1 + 1 + 1 + 1, o4), (L' + 1 + 1 + 1, oSz), (L' + 1 + 1, oWd), (L' + 1, oD)], p.1 ≠ 37 ∧ p.1 ≠ 44 := ne2_cons gT (ne2_cons gW (ne2_cons g5 (ne2_cons g4 (ne2_cons g3 (ne2_cons g2 (ne2_cons g1 (ne2_nil)))))))
              k_dflt (refine d2i_call (news := [(Tb, LO tv ktb), (W, LO wv kw), (L' + 1 + 1 + 1 + 1 + 1, o5), (L' + 1 + 1 + 1 + 1, o4), (L' + 1 + 1 + 1, oSz), (L' + 1 + 1, oWd), (L' + 1, oD)] ++ t37b) (wdt : Int) _ (.head _) htv (by omega) (fun d hd => ⟨(hB6 d hd).1, Int.lt_of_le_of_lt (hB6 d hd).2 (by decide +kernel)⟩) (by omega) (by omega) _ _ _ _ _ _ _ _ _ _ ht44b (fun p hp => (List.mem_append.mp hp).elim (fun h => (hr44 p h).2) (h3744 p)) F5 X0 (newsSub N5 (sub_app (sub_skip (sub_skip (sub_skip (sub_skip (sub_skip (sub_skip (sub_skip (sub_inr sub_refl)))))))) (sub_app (sub_keep (sub_keep (sub_keep (sub_keep (sub_keep (sub_keep (sub_keep sub_nil))))))) (sub_skip (sub_skip (sub_skip (sub_skip (sub_skip (sub_skip (sub_skip (sub_inl sub_refl))))))))))) T0 (by ktr_room) (by ktr_units) ?_)
              intro td2 h4 tk4' t44c ht44c hsepc F4 N4
              rw [Int.toNat_natCast, ← hN2]
              have hcells2 : ∀ p ∈ t37b ++ t44c, p.1 ≠ L' + 1 + 1 + 1 + 1 + 1 ∧ p.1 ≠ L' + 1 + 1 + 1 + 1 := by
                intro p hp
                rcases List.mem_append.mp hp with hp | hp
                · exact hcells p (List.mem_append_left _ hp)
                · exact ⟨hsepc _ o5 (by kqd_in) (fun q hq => (hcells q (List.mem_append_right _ hq)).1) p hp, hsepc _ o4 (by kqd_in) (fun q hq => (hcells q (List.mem_append_right _ hq)).2) p hp⟩
              replace N4 := newsSub N4 (news' := (Tb, LO tv ktb) :: (W, LO wv kw) :: (L' + 1 + 1 + 1 + 1 + 1, o5) :: (L' + 1 + 1 + 1 + 1, o4) :: (L' + 1 + 1 + 1, oSz) :: (L' + 1 + 1, oWd) :: (L' + 1, oD) :: (t37b ++ t44c)) (sub_cons (List.mem_append_right _ (List.mem_append_left _ (.head _))) (sub_cons (List.mem_append_right _ (List.mem_append_left _ (.tail _ (.head _)))) (sub_cons (List.mem_append_right _ (List.mem_append_left _ (.tail _ (.tail _ (.head _))))) (sub_cons (List.mem_append_right _ (List.mem_append_left _ (.tail _ (.tail _ (.tail _ (.head _)))))) (sub_cons (List.mem_append_right _ (List.mem_append_left _ (.tail _ (.tail _ (.tail _ (.tail _ (.head _))))))) (sub_cons (List.mem_append_right _ (List.mem_append_left _ (.tail _ (.tail _ (.tail _ (.tail _ (.tail _ (.head _)))))))) (sub_cons (List.mem_append_right _ (List.mem_append_left _ (.tail _ (.tail _ (.tail _ (.tail _ (.tail _ (.tail _ (.head _))))))))) (sub_app (sub_inr (sub_inr sub_refl)) (sub_inl sub_refl)))))))))
              clear F5 N5
              iterate 3 (first | (k_unfold; (try dsimp only)) | (k_end; kc_close) | walk1 | (dsimp only; walk1) | (leave1; walk_say "STEP leave1"; (try dsimp only)) | fail "no step")
              (rename_i hc; exact absurd rfl hc)
              rename_i hc; clear hc
              ktr_unf
              (with_reducible rename Fr _ _ _ _ => F5); (with_reducible rename News _ _ _ _ => N5)
              k_dflt (refine rings_call ws (nK r) (.tail _ (.head _)) hwv (fun w hw => ⟨fun c hc => hL2 c (hcl w hw c hc), hwe w hw⟩) (by omega) (by omega) (by omega) _ _ _ _ _ _ _ _ _ _ F5 X0 N5 T0 (by ktr_room) (by ktr_units) ?_)
              intro R rv kr h5 tk5 F4 hrv N4 lR
              clear F5 N5
              rw [hW3] at hrv
              k_lt lR
              have hc5 : ∀ p ∈ t37b ++ t44c, p.1 ≠ L' + 1 + 1 + 1 + 1 + 1 := fun p hp => (hcells2 p hp).1
              have hc4 : ∀ p ∈ t37b ++ t44c, p.1 ≠ L' + 1 + 1 + 1 + 1 := fun p hp => (hcells2 p hp).2
              ktr_unf
              rename_i oRg F1 N1 eRg
              have hrvl := hrv.length
              k_dflt (refine' assignCompC (h₀ := g') (n := nK r) (P := fun i v => i < nK r ∧ ∃ t, v = .int ((0 : Int) + (i : Int)) t) (cl := ?cl7) (x := PySem.Str.ofString "k") (J := LwJ7 ((R, LO rv kr) :: (Tb, LO tv ktb) :: (W, LO wv kw) :: (L' + 1 + 1 + 1 + 1 + 1, o5) :: (L' + 1 + 1 + 1 + 1, oRg) :: (L' + 1 + 1 + 1, oSz) :: (L' + 1 + 1, oWd) :: (L' + 1, oD) :: (t37b ++ t44c)) r) ?sw ?cl ?cf ?pc ?ki ?na ?hy ?hp ?ht ?sz ?src)
              case sw => exact rfl
              case cl => exact rfl
              case cf => exact fun _ _ => rfl
              case pc => exact fun _ => rfl
              case ki => rfl
              case na => decide
              case hy => rfl
              case hp => rfl
              case ht => intro _ _; rfl
              case sz => rw [sizeLine_eq]; omega
              case src =>
                ktr_unf
                rename_i hrg F8 N8 _
                k_dflt (refine srcRange rfl hrg (rngSmall (by omega) (by omega) (by omega)) (n := nK r) (rngSize (by omega)) F8 N8 ?_)
                intro h3 tk3 I3 hS3
                refine CSrc.intro hS3 (fun C _ => ⟨_, _, rfl, rfl, .nil⟩) ?_ ?_
                · intro g C D2 hlD hDC hsg j v ys nx m1 h5 tk5 own5 k5 hj hjl hq3 hq4 hoff hD5 hfp5 hwr5 F5 N5
                  refine an2 hq3 fun _ hq6 => ?_
                  clear hq3
                  refine ex1 hq6 fun t5 eq_7 => ?_
                  clear hq6
                  subst eq_7
                  refine ex2 hq4 fun ok cv2 hq9 => an3 hq9 fun eq_8 hok hfy => ?_
                  clear hq4 hq9
                  subst eq_8
                  have Tg := T0.keeps hsg
                  have Xg := X0.keeps hsg
                  obtain ⟨led, hled⟩ : ∃ led, led = (R, LO rv kr) :: (Tb, LO tv ktb) :: (W, LO wv kw) :: (L' + 1 + 1 + 1 + 1 + 1, o5) :: (L' + 1 + 1 + 1 + 1, oRg) :: (L' + 1 + 1 + 1, oSz) :: (L' + 1 + 1, oWd) :: (L' + 1, oD) :: (t37b ++ t44c) := ⟨_, rfl⟩
                  have hoffC : ∀ p ∈ (D2, LO ys k5) :: (led ++ own5), p.1 ≠ C + 1 := fun p hp => by
                    rcases List.mem_cons.mp hp with rfl | hp
                    · exact Nat.ne_of_lt (Nat.lt_succ_of_lt hDC)
                    · rcases List.mem_append.mp hp with hp | hp
                      · rw [hled] at hp
                        exact Nat.ne_of_lt (Nat.lt_succ_of_lt (Nat.lt_trans (hlD p hp) hDC))
                      · intro e
                        exact (hoff _ (.head _)).1 (e ▸ hfp5 p hp)
                  rw [← hled] at N5
                  refine wpAny_assign_Name ?_
                  k_dflt (refine storeCC F5 (newsSub N5 (news' := (C + 1, ok) :: (D2, LO ys k5) :: (led ++ own5)) (sub_cons (.tail _ (List.mem_append_left _ (.head _))) (sub_keep (sub_app (sub_inl (sub_skip sub_refl)) (sub_inr sub_refl))))) hoffC rfl hok ?_)
                  intro h7 ok7 F7 N7 eK7
                  rw [hled] at N7
                  simp only [List.cons_append, List.append_assoc] at N7
                  simp only [Int.zero_add] at eK7
                  clear F5 N5
                  ktr_unf
                  (with_reducible rename Fr _ _ _ _ => F6); (with_reducible rename News _ _ _ _ => N6)
                  k_dflt (refine' evalComp (h₀ := g) (L := C) (n := rv.length) (P := fun i v => rv[i]? = some v) (cl := [(PySem.Str.ofString "size", L' + 1 + 1 + 1), (PySem.Str.ofString "k", C + 1)]) (J := LwJ7b ((C + 1, ok7) :: (D2, LO ys k5) :: (R, LO rv kr) :: (Tb, LO tv ktb) :: (W, LO wv kw) :: (L' + 1 + 1 + 1 + 1 + 1, o5) :: (L' + 1 + 1 + 1 + 1, oRg) :: (L' + 1 + 1 + 1, oSz) :: (L' + 1 + 1, oWd) :: (L' + 1, oD) :: (t37b ++ (t44c ++ own5))) r j) ?cl ?ce ?ki ?na ?ht ?sz ?src)
                  case cl => first | rfl | (with_unfolding_all rfl)
                  case ce => decide
                  case ki => rfl
                  case na => decide
                  case ht => intro _ _; rfl
                  case sz => rw [sizeLine_eq]; omega
                  case src =>
                    ktr_unf
                    (with_reducible rename Fr _ _ _ _ => F4); (with_reducible rename News _ _ _ _ => N4)
                    k_dflt (refine srcList rfl (.tail _ (.tail _ (.head _))) F4 N4 ?_)
                    intro h8 tk8 I5 hS5
                    refine CSrc.intro hS5 ⟨rfl, .nil⟩ ?_ ?_
                    · intro g2 C2 D3 hlD2 hsg2 jj v2 ys2 nx2 m2 h6 tk6 own7 k7 hjj hjl2 hv2 hq12 hoff7 hD7 hfp7 hwr7 F5 N5
                      refine an2 hq12 fun eq_14 hfy2 => ?_
                      clear hq12
                      subst eq_14
                      have Tg2 := Tg.keeps hsg2
                      have Xg2 := Xg.keeps hsg2
                      refine ex2 (hrv.at jj v2 hv2) fun x tx hq16 => an2 hq16 fun eq_15 hx => ?_
                      clear hq16
                      subst eq_15
                      have hxb := hB9 x (List.mem_of_getElem? hx)
                      have hfd1 : 0 < ((nK r : Nat) : Int).fdiv x := fdivPos hxb.1 hxb.2
                      have hfd0 : ((nK r : Nat) : Int).fdiv x ≠ 0 := by omega
                      have hx0 : x ≠ 0 := by omega
                      simp only [List.cons_append, List.append_assoc] at N5
                      ktr_unf
                      · (with_reducible rename Fr _ _ _ _ => F3); (with_reducible rename News _ _ _ _ => N3)
                        rename_i hc
                        refine CEnd.intro ((C + 1, ok7) :: (D2, LO ys k5) :: (R, LO rv kr) :: (Tb, LO tv ktb) :: (W, LO wv kw) :: (L' + 1 + 1 + 1 + 1 + 1, o5) :: (L' + 1 + 1 + 1 + 1, oRg) :: (L' + 1 + 1 + 1, oSz) :: (L' + 1 + 1, oWd) :: (L' + 1, oD) :: (t37b ++ (t44c ++ own5))) F3 N3 (.head _) (sub_skip (sub_keep (sub_keep (sub_keep (sub_keep (sub_keep (sub_keep (sub_keep (sub_keep (sub_keep (sub_keep (sub_app (sub_inl sub_refl) (sub_inr (sub_app (sub_inl sub_refl) (sub_inr (sub_inl sub_refl)))))))))))))))) (sub_skip (sub_skip (sub_skip (sub_skip (sub_skip (sub_skip (sub_skip (sub_skip (sub_skip (sub_skip (sub_skip (sub_inr (sub_inr (sub_inr sub_refl)))))))))))))) hoff7 ⟨rfl, ?_⟩
                        · rw [List.take_add_one, hx, Option.toList_some, List.filter_append]
                          rw [List.filter_cons, if_pos (by rw [hc]; rfl)]
                          exact hfy2.append (.cons _ _ .nil)
                      · (with_reducible rename Fr _ _ _ _ => F3); (with_reducible rename News _ _ _ _ => N3)
                        rename_i hc
                        refine CEnd.intro ((C + 1, ok7) :: (D2, LO ys k5) :: (R, LO rv kr) :: (Tb, LO tv ktb) :: (W, LO wv kw) :: (L' + 1 + 1 + 1 + 1 + 1, o5) :: (L' + 1 + 1 + 1 + 1, oRg) :: (L' + 1 + 1 + 1, oSz) :: (L' + 1 + 1, oWd) :: (L' + 1, oD) :: (t37b ++ (t44c ++ own5))) F3 N3 (.head _) (sub_skip (sub_keep (sub_keep (sub_keep (sub_keep (sub_keep (sub_keep (sub_keep (sub_keep (sub_keep (sub_keep (sub_app (sub_inl sub_refl) (sub_inr (sub_app (sub_inl sub_refl) (sub_inr (sub_inl sub_refl)))))))))))))))) (sub_skip (sub_skip (sub_skip (sub_skip (sub_skip (sub_skip (sub_skip (sub_skip (sub_skip (sub_skip (sub_skip (sub_inr (sub_inr (sub_inr sub_refl)))))))))))))) hoff7 ⟨rfl, ?_⟩
                        · rw [List.take_add_one, hx, Option.toList_some, List.filter_append]
                          rw [List.filter_cons, if_neg (by simpa using hc)]
                          simpa using hfy2
                    · intro D3 h9 tk9 ys2 nx2 k7 hoD2 hlD2 F5 N5 hq17
                      refine an2 hq17 fun eq_18 hfy2 => ?_
                      clear hq17
                      subst eq_18
                      have hyl2 := hfy2.length
                      have hfl := List.length_filter_le (fun q => decide ((j : Int).fmod ((nK r : Int).fdiv q) = 0)) ((ringsK r).take rv.length)
                      rw [List.length_take] at hfl
                      iterate 1 (first | (k_unfold; (try dsimp only)) | (k_end; kc_close) | walk1 | (dsimp only; walk1) | (leave1; walk_say "STEP leave1"; (try dsimp only)) | fail "no step")
                      (with_reducible rename Fr _ _ _ _ => F1); (with_reducible rename News _ _ _ _ => N1)
                      k_dflt (refine lenL N1 (.head _) (by omega) ?_)
                      ktr_unf
                      rw [hyl2, hrvl, List.take_length]
                      refine CEnd.intro ((C + 1, ok7) :: (R, LO rv kr) :: (Tb, LO tv ktb) :: (W, LO wv kw) :: (L' + 1 + 1 + 1 + 1 + 1, o5) :: (L' + 1 + 1 + 1 + 1, oRg) :: (L' + 1 + 1 + 1, oSz) :: (L' + 1 + 1, oWd) :: (L' + 1, oD) :: (t37b ++ t44c)) F1 N1 (.tail _ (.tail _ (.head _))) (sub_skip (sub_keep (sub_skip (sub_keep (sub_keep (sub_keep (sub_keep (sub_keep (sub_keep (sub_keep (sub_keep (sub_app (sub_inl sub_refl) (sub_inr (sub_inl sub_refl)))))))))))))) (sub_skip (sub_skip (sub_skip (sub_skip (sub_skip (sub_skip (sub_skip (sub_skip (sub_skip (sub_skip (sub_skip (sub_inr (sub_inr sub_refl))))))))))))) (fun p hp => ?_) ⟨ok7, _, rfl, eK7, ?_⟩
                      · rcases List.mem_cons.mp hp with rfl | hp
                        · exact hoff (C + 1, ok) (.head _)
                        · exact hoff p (.tail _ hp)
                      · rw [List.range_succ, List.map_append]
                        exact hfy.append (.cons _ _ .nil)
                · intro Du C hdu tkd dv nx kdu hoD hlD F5 N5 hq19
                  refine ex2 hq19 fun ok cv2 hq21 => an3 hq21 fun eq_20 hok hdue => ?_
                  clear hq19 hq21
                  subst eq_20
                  have hDuc := hlD
                  k_lt hDuc
                  replace N5 := newsSub N5 (news' := (Du, LO dv kdu) :: (R, LO rv kr) :: (Tb, LO tv ktb) :: (L' + 1 + 1 + 1 + 1 + 1, o5) :: (L' + 1 + 1 + 1 + 1, oRg) :: (L' + 1 + 1 + 1, oSz) :: (L' + 1 + 1, oWd) :: (L' + 1, oD) :: (W, LO wv kw) :: (t37b ++ t44c)) (sub_keep (sub_skip (sub_keep (sub_keep (sub_cons (.tail _ (.head _)) (sub_cons (.tail _ (.tail _ (.head _))) (sub_cons (.tail _ (.tail _ (.tail _ (.head _)))) (sub_cons (.tail _ (.tail _ (.tail _ (.tail _ (.head _))))) (sub_cons (.tail _ (.tail _ (.tail _ (.tail _ (.tail _ (.head _)))))) (sub_keep (sub_skip (sub_skip (sub_skip (sub_skip (sub_skip sub_refl)))))))))))))))
                  ktr_unf
                  rename_i Df h3f kf F3 N3 l3
                  replace N3 := newsSub N3 (news' := (Df, LO (List.replicate ((nK r : Nat) : Int).toNat (.int (2 ^ ((wdt : Nat) : Int).toNat - 1) (tkd + 1 + 1 + 1))) kf) :: (Du, LO dv kdu) :: (R, LO rv kr) :: (Tb, LO tv ktb) :: (L' + 1 + 1 + 1 + 1 + 1, o5) :: (L' + 1 + 1 + 1 + 1, oRg) :: (L' + 1 + 1 + 1, oSz) :: (L' + 1 + 1, oWd) :: (L' + 1, oD) :: (W, LO wv kw) :: (t37b ++ t44c)) fun p hp => by
                    rcases List.mem_cons.mp hp with h | h
                    · exact h ▸ .head _
                    · exact .tail _ (.tail _ h)
                  clear hS3 hlD
                  have gR : @LT.lt Nat _ 44 R := by omega
                  have gDu : @LT.lt Nat _ 44 Du := by omega
                  have gDf : @LT.lt Nat _ 44 Df := by omega
                  have hfw : (0 : Int) ≤ 2 ^ wdt - 1 ∧ (2 : Int) ^ wdt - 1 < 2 ^ 4096 := fullB (by omega)
                  have hr44b : ∀ p ∈ [(Df, LO (List.replicate ((nK r : Nat) : Int).toNat (.int (2 ^ ((wdt : Nat) : Int).toNat - 1) (tkd + 1 + 1 + 1))) kf), (Du, LO dv kdu), (R, LO rv kr), (Tb, LO tv ktb), (L' + 1 + 1 + 1 + 1 + 1, o5), (L' + 1 + 1 + 1 + 1, oRg), (L' + 1 + 1 + 1, oSz), (L' + 1 + 1, oWd), (L' + 1, oD), (W, LO wv kw)], p.1 ≠ 37 ∧ p.1 ≠ 44 := by
                    exact ne2_cons gDf (ne2_cons gDu (ne2_cons gR (ne2_cons gT (ne2_cons g5 (ne2_cons g4 (ne2_cons g3 (ne2_cons g2 (ne2_cons g1 (ne2_cons gW (ne2_nil))))))))))
                  obtain ⟨rst, hrst⟩ : ∃ rst, rst = [(Df, LO (List.replicate ((nK r : Nat) : Int).toNat (.int (2 ^ ((wdt : Nat) : Int).toNat - 1) (tkd + 1 + 1 + 1))) kf), (Du, LO dv kdu), (R, LO rv kr), (Tb, LO tv ktb), (L' + 1 + 1 + 1 + 1 + 1, o5), (L' + 1 + 1 + 1 + 1, oRg), (L' + 1 + 1 + 1, oSz), (L' + 1 + 1, oWd), (L' + 1, oD), (W, LO wv kw)] := ⟨_, rfl⟩
                  have hmDf : (Df, LO (List.replicate ((nK r : Nat) : Int).toNat (.int (2 ^ ((wdt : Nat) : Int).toNat - 1) (tkd + 1 + 1 + 1))) kf) ∈ rst := by rw [hrst]; exact .head _
                  have hmDu : (Du, LO dv kdu) ∈ rst := by rw [hrst]; exact .tail _ (.head _)
                  have hm5 : (L' + 1 + 1 + 1 + 1 + 1, o5) ∈ rst := by rw [hrst]; kqd_in
                  have hmW : (W, LO wv kw) ∈ rst := by rw [hrst]; kqd_in
                  have hmR : (R, LO rv kr) ∈ rst := by rw [hrst]; kqd_in
                  rw [← hrst] at hr44b
                  replace N3 := newsSub N3 (news' := t44c ++ (rst ++ t37b)) (by rw [hrst]; exact (sub_app (sub_skip (sub_skip (sub_skip (sub_skip (sub_skip (sub_skip (sub_skip (sub_skip (sub_skip (sub_skip (sub_inr sub_refl))))))))))) (sub_app (sub_keep (sub_keep (sub_keep (sub_keep (sub_keep (sub_keep (sub_keep (sub_keep (sub_keep (sub_keep sub_nil)))))))))) (sub_skip (sub_skip (sub_skip (sub_skip (sub_skip (sub_skip (sub_skip (sub_skip (sub_skip (sub_skip (sub_inl sub_refl))))))))))))))
                  have h3744b : ∀ p ∈ t37b, p.1 ≠ 44 := tab_apart ht37b ht44c N3 (sub_inr (sub_inr sub_refl)) (sub_inl sub_refl) (by decide)
                  k_dflt (refine d2i_call (news := rst ++ t37b) (wdt : Int) _ (List.mem_append_left _ hmDf) (intsRep _ _ _) (by rw [List.length_replicate]; omega) (fun d hd => by rw [List.eq_of_mem_replicate hd, Int.toNat_natCast]; exact hfw) (by omega) (by omega) _ _ _ _ _ _ _ _ _ _ ht44c (fun p hp => (List.mem_append.mp hp).elim (fun h => (hr44b p h).2) (h3744b p)) F3 X0 N3 T0 (by ktr_room) (by ktr_units) ?_)
                  intro td3 h5 tk5 t44d ht44d hsepd F4 N4
                  rw [Int.toNat_natCast, Int.toNat_natCast, show d2iP wdt (List.replicate (nK r) (2 ^ wdt - 1)) = fullP (nK r) wdt from rfl]
                  obtain ⟨Fn, hFn⟩ := natOf (Int.le_of_lt hN5)
                  rw [hFn] at hN3 hN5 hN8 hN9
                  rw [← hN2] at hN3 hN9
                  rw [Int.toNat_natCast, Int.toNat_natCast] at hN3
                  rw [hFn]
                  replace N4 := newsSub N4 (news' := t37b ++ (t44d ++ rst)) (sub_app (sub_inr (sub_inr sub_refl)) (sub_app (sub_inl sub_refl) (sub_inr (sub_inl sub_refl))))
                  ktr_unf
                  k_dflt (refine idm_call (news := rst) Qn Fn _ _ (by omega) hN8 hN9 _ _ _ _ _ _ _ _ _ _ ht37b ht44d hr44b F4 X0 N4 T0 (by ktr_room) (by ktr_units) ?_)
                  intro Dl tl1 tl2 kl h6 tk6 t37c t44e ht37c ht44e F3 N3 ll
                  clear F4 N4
                  iterate 2 (first | (k_unfold; (try dsimp only)) | (k_end; kc_close) | walk1 | (dsimp only; walk1) | (leave1; walk_say "STEP leave1"; (try dsimp only)) | fail "no step")
                  have hcells3 : ∀ p ∈ t37c ++ t44e, p.1 ≠ L' + 1 + 1 + 1 + 1 + 1 := by
                    intro p hp
                    rcases List.mem_append.mp hp with hp | hp
                    · exact tab_off ht37c N3 (fun p hp => .tail _ (List.mem_append_left _ hp)) (o := o5) (.tail _ (List.mem_append_right _ (List.mem_append_right _ hm5))) (neN (by omega)) (by rw [e5]; intro vs e; cases e) p hp
                    · exact tab_off ht44e N3 (fun p hp => .tail _ (List.mem_append_right _ (List.mem_append_left _ hp))) (o := o5) (.tail _ (List.mem_append_right _ (List.mem_append_right _ hm5))) (neN (by omega)) (by rw [e5]; intro vs e; cases e) p hp
                  replace N3 := newsSub N3 (news' := (Du, LO dv kdu) :: (R, LO rv kr) :: (Tb, LO tv ktb) :: (L' + 1 + 1 + 1 + 1 + 1, o5) :: (L' + 1 + 1 + 1 + 1, oRg) :: (L' + 1 + 1 + 1, oSz) :: (L' + 1 + 1, oWd) :: (L' + 1, oD) :: (W, LO wv kw) :: (t37c ++ t44e)) (by rw [hrst]; exact (sub_skip (sub_cons (List.mem_append_right _ (List.mem_append_right _ (.tail _ (.head _)))) (sub_cons (List.mem_append_right _ (List.mem_append_right _ (.tail _ (.tail _ (.head _))))) (sub_cons (List.mem_append_right _ (List.mem_append_right _ (.tail _ (.tail _ (.tail _ (.head _)))))) (sub_cons (List.mem_append_right _ (List.mem_append_right _ (.tail _ (.tail _ (.tail _ (.tail _ (.head _))))))) (sub_cons (List.mem_append_right _ (List.mem_append_right _ (.tail _ (.tail _ (.tail _ (.tail _ (.tail _ (.head _)))))))) (sub_cons (List.mem_append_right _ (List.mem_append_right _ (.tail _ (.tail _ (.tail _ (.tail _ (.tail _ (.tail _ (.head _))))))))) (sub_cons (List.mem_append_right _ (List.mem_append_right _ (.tail _ (.tail _ (.tail _ (.tail _ (.tail _ (.tail _ (.tail _ (.head _)))))))))) (sub_cons (List.mem_append_right _ (List.mem_append_right _ (.tail _ (.tail _ (.tail _ (.tail _ (.tail _ (.tail _ (.tail _ (.tail _ (.head _))))))))))) (sub_cons (List.mem_append_right _ (List.mem_append_right _ (.tail _ (.tail _ (.tail _ (.tail _ (.tail _ (.tail _ (.tail _ (.tail _ (.tail _ (.head _)))))))))))) (sub_app (sub_inl sub_refl) (sub_inr (sub_inl sub_refl))))))))))))))
                  iterate 19 (first | (k_unfold; (try dsimp only)) | (k_end; kc_close) | walk1 | (dsimp only; walk1) | (leave1; walk_say "STEP leave1"; (try dsimp only)) | fail "no step")
                  (with_reducible rename Fr _ _ _ _ => F4); (with_reducible rename News _ _ _ _ => N4)
                  clear F3 N3
                  have hwvl := hwv.length
                  have hsumN : (ringsK r).sum = ((wv.length : Nat) : Int) := by
                    have h1 := ringsSum r hr8
                    rw [hwvl, hW4]; omega
                  k_dflt (refine lenL N4 (.tail _ (.tail _ (.tail _ (.tail _ (.tail _ (.tail _ (.tail _ (.tail _ (.head _))))))))) (by omega) ?_)
                  rw [hsumN]
                  iterate 3 (first | (k_unfold; (try dsimp only)) | (k_end; kc_close) | walk1 | (dsimp only; walk1) | (leave1; walk_say "STEP leave1"; (try dsimp only)) | fail "no step")
                  (rename_i hc; exact absurd rfl hc)
                  rename_i hc; clear hc
                  ktr_unf
                  have hdvl := hdue.length
                  rw [List.length_map, List.length_range] at hdvl
                  obtain ⟨rs2, hrs2⟩ : ∃ rs2, rs2 = [(Du, LO dv kdu), (R, LO rv kr), (Tb, LO tv ktb), (L' + 1 + 1 + 1 + 1 + 1, o5), (L' + 1 + 1 + 1 + 1, oRg), (L' + 1 + 1 + 1, oSz), (L' + 1 + 1, oWd), (L' + 1, oD), (W, LO wv kw)] := ⟨_, rfl⟩
                  have hr44c : ∀ p ∈ rs2, p.1 ≠ 37 ∧ p.1 ≠ 44 := by
                    intro p hp
                    rw [hrs2] at hp
                    exact hr44b p (by rw [hrst]; exact .tail _ hp)
                  replace N4 := newsSub N4 (news' := t44e ++ (rs2 ++ t37c)) (by rw [hrs2]; exact (sub_app (sub_skip (sub_skip (sub_skip (sub_skip (sub_skip (sub_skip (sub_skip (sub_skip (sub_skip (sub_inr sub_refl)))))))))) (sub_app (sub_keep (sub_keep (sub_keep (sub_keep (sub_keep (sub_keep (sub_keep (sub_keep (sub_keep sub_nil))))))))) (sub_skip (sub_skip (sub_skip (sub_skip (sub_skip (sub_skip (sub_skip (sub_skip (sub_skip (sub_inl sub_refl)))))))))))))
                  have h3744c : ∀ p ∈ t37c, p.1 ≠ 44 := tab_apart ht37c ht44e N4 (sub_inr (sub_inr sub_refl)) (sub_inl sub_refl) (by decide)
                  k_dflt (refine d2i_call (news := rs2 ++ t37c) (wdt : Int) _ (List.mem_append_left _ (by rw [hrs2]; exact .head _)) hdue (by omega) (fun d hd => dueBnd d hd hB10) (by omega) (by omega) _ _ _ _ _ _ _ _ _ _ ht44e (fun p hp => (List.mem_append.mp hp).elim (fun h => (hr44c p h).2) (h3744c p)) F4 X0 N4 T0 (by ktr_room) (by ktr_units) ?_)
                  intro td4 h5 tk5 t44f ht44f hsepf F3 N3
                  rw [Int.toNat_natCast, show d2iP wdt (List.map (dueP (ringsK r) (nK r)) (List.range (nK r))) = ((Qn % Fn : Nat) : Int) from hN3.symm]
                  have hc5f : ∀ p ∈ t44f, p.1 ≠ L' + 1 + 1 + 1 + 1 + 1 := hsepf _ o5 (List.mem_append_left _ (by rw [hrs2]; kqd_in)) (fun q hq => hcells3 q (List.mem_append_right _ hq))
                  rw [hrs2] at N3
                  obtain ⟨p37, hp37⟩ := ht37c.tab
                  obtain ⟨p44, hp44⟩ := ht44f.tab
                  replace N3 := newsSub N3 (news' := (R, LO rv kr) :: (Tb, LO tv ktb) :: (L' + 1 + 1 + 1 + 1 + 1, o5) :: (L' + 1 + 1 + 1 + 1, oRg) :: (L' + 1 + 1 + 1, oSz) :: (L' + 1 + 1, oWd) :: (L' + 1, oD) :: (37, tabObj p37) :: (44, tabObj p44) :: []) (sub_cons (List.mem_append_right _ (List.mem_append_left _ (.tail _ (.head _)))) (sub_cons (List.mem_append_right _ (List.mem_append_left _ (.tail _ (.tail _ (.head _))))) (sub_cons (List.mem_append_right _ (List.mem_append_left _ (.tail _ (.tail _ (.tail _ (.head _)))))) (sub_cons (List.mem_append_right _ (List.mem_append_left _ (.tail _ (.tail _ (.tail _ (.tail _ (.head _))))))) (sub_cons (List.mem_append_right _ (List.mem_append_left _ (.tail _ (.tail _ (.tail _ (.tail _ (.tail _ (.head _)))))))) (sub_cons (List.mem_append_right _ (List.mem_append_left _ (.tail _ (.tail _ (.tail _ (.tail _ (.tail _ (.tail _ (.head _))))))))) (sub_cons (List.mem_append_right _ (List.mem_append_left _ (.tail _ (.tail _ (.tail _ (.tail _ (.tail _ (.tail _ (.tail _ (.head _)))))))))) (sub_cons (List.mem_append_right _ (List.mem_append_right _ hp37)) (sub_cons (List.mem_append_left _ hp44) sub_nil)))))))))
                  clear F4 N4
                  iterate 3 (first | (k_unfold; (try dsimp only)) | (k_end; kc_close) | walk1 | (dsimp only; walk1) | (leave1; walk_say "STEP leave1"; (try dsimp only)) | fail "no step")
                  (rename_i hc; exact absurd rfl hc)
                  rename_i hc; clear hc
                  ktr_unf
                  have hr8n : r < 8 := hr8
                  k_dflt (refine' assignComp (h₀ := g') (n := nK r) (P := fun i v => i < nK r ∧ ∃ t, v = .int ((0 : Int) + (i : Int)) t) (cl := ?cl9) (J := LwJ9 R rv kr Tb tv ktb L' o5 oRg oSz oWd oD p37 p44 r) ?sw ?cl ?ce ?ki ?na ?hy ?hp ?ht ?sz ?src)
                  case sw => exact rfl
                  case cl => exact rfl
                  case ce => decide
                  case ki => rfl
                  case na => decide
                  case hy => rfl
                  case hp => rfl
                  case ht => intro _ _; rfl
                  case sz => rw [sizeLine_eq]; omega
                  case src =>
                    ktr_unf
                    rename_i hrg F8 N8 _
                    k_dflt (refine srcRange rfl hrg (rngSmall (by omega) (by omega) (by omega)) (n := nK r) (rngSize (by omega)) F8 N8 ?_)
                    intro h3 tk3 I3 hS3
                    refine CSrc.intro hS3 ⟨[], rfl, ⟨rfl, fun i x h => by simp at h⟩, fun p hp => nomatch hp⟩ ?_ ?_
                    · intro g C Dz hlD hsg j v ys nx mm h2 tk2 own2 k2 hj hjl hq3 hq4 hoff hD2 hfp2 hwr2 F2 N2
                      refine an2 hq3 fun _ hq6 => ?_
                      clear hq3
                      refine ex1 hq6 fun t2 eq_7 => ?_
                      clear hq6
                      subst eq_7
                      refine ex1 hq4 fun ext hq9 => an3 hq9 fun eq_8 hla hext => ?_
                      clear hq4 hq9
                      subst eq_8
                      have Tg := T0.keeps hsg
                      have Xg := X0.keeps hsg
                      simp only [List.cons_append, List.append_assoc] at N2
                      ktr_unf
                      (with_reducible rename Fr _ _ _ _ => F3); (with_reducible rename News _ _ _ _ => N3)
                      k_dflt (refine hsv_call (hueP (nK r) j) _ _ _ _ _ _ _ _ _ _ _ _ _ F3 Xg N3 Tg (by ktr_room) (by ktr_units) (okH_all (nK r) (by omega) (by omega) j hj) ?_)
                      intro ca cb cc hcc D6 u0 u1 u2 h6 tk6 F6 N6 l6
                      have h6a := l6 (L' + 1 + 1 + 1 + 1 + 1, o5) (.tail _ (.tail _ (.tail _ (.head _))))
                      have h6b := l6 (Dz, LO ys k2) (.head _)
                      refine CEnd.intro ((R, LO rv kr) :: (Tb, LO tv ktb) :: (L' + 1 + 1 + 1 + 1 + 1, o5) :: (L' + 1 + 1 + 1 + 1, oRg) :: (L' + 1 + 1 + 1, oSz) :: (L' + 1 + 1, oWd) :: (L' + 1, oD) :: (37, tabObj p37) :: (44, tabObj p44) :: (ext ++ [(D6, TO [.float ca u0, .float cb u1, .float cc u2] 0)])) F6 N6 (.tail _ (.head _)) (sub_cons (.tail _ (.tail _ (.head _))) (sub_cons (.tail _ (.tail _ (.tail _ (.head _)))) (sub_cons (.tail _ (.tail _ (.tail _ (.tail _ (.head _))))) (sub_cons (.tail _ (.tail _ (.tail _ (.tail _ (.tail _ (.head _)))))) (sub_cons (.tail _ (.tail _ (.tail _ (.tail _ (.tail _ (.tail _ (.head _))))))) (sub_cons (.tail _ (.tail _ (.tail _ (.tail _ (.tail _ (.tail _ (.tail _ (.head _)))))))) (sub_cons (.tail _ (.tail _ (.tail _ (.tail _ (.tail _ (.tail _ (.tail _ (.tail _ (.head _))))))))) (sub_cons (.tail _ (.tail _ (.tail _ (.tail _ (.tail _ (.tail _ (.tail _ (.tail _ (.tail _ (.head _)))))))))) (sub_cons (.tail _ (.tail _ (.tail _ (.tail _ (.tail _ (.tail _ (.tail _ (.tail _ (.tail _ (.tail _ (.head _))))))))))) (sub_app (sub_skip (sub_skip (sub_skip (sub_skip (sub_skip (sub_skip (sub_skip (sub_skip (sub_skip (sub_skip (sub_skip (sub_inl sub_refl)))))))))))) (sub_keep sub_nil))))))))))) (sub_skip (sub_skip (sub_skip (sub_skip (sub_skip (sub_skip (sub_skip (sub_skip (sub_skip (sub_skip (sub_skip (sub_inr sub_refl)))))))))))) (fun p hp => ?_) ⟨_, rfl, lampsSnoc (f := fun k => hsvP (hueP (nK r) k)) hla hcc, fun p hp => ?_⟩
                      · rw [show (R, LO rv kr) :: (Tb, LO tv ktb) :: (L' + 1 + 1 + 1 + 1 + 1, o5) :: (L' + 1 + 1 + 1 + 1, oRg) :: (L' + 1 + 1 + 1, oSz) :: (L' + 1 + 1, oWd) :: (L' + 1, oD) :: (37, tabObj p37) :: (44, tabObj p44) :: (ext ++ [(D6, TO [.float ca u0, .float cb u1, .float cc u2] 0)]) = ((R, LO rv kr) :: (Tb, LO tv ktb) :: (L' + 1 + 1 + 1 + 1 + 1, o5) :: (L' + 1 + 1 + 1 + 1, oRg) :: (L' + 1 + 1 + 1, oSz) :: (L' + 1 + 1, oWd) :: (L' + 1, oD) :: (37, tabObj p37) :: (44, tabObj p44) :: ext) ++ [(D6, TO [.float ca u0, .float cb u1, .float cc u2] 0)] from rfl] at hp
                        rcases List.mem_append.mp hp with hp | hp
                        · exact hoff p hp
                        · rw [List.mem_singleton.mp hp]
                          refine ⟨fun e => ?_, Nat.ne_of_gt h6b⟩
                          obtain ⟨oI, hoI⟩ := hwr2 D6 e
                          exact Nat.lt_irrefl _ (l6 (D6, oI) (by kqd_in))
                      · rcases List.mem_append.mp hp with hp | hp
                        · exact hext p hp
                        · rw [List.mem_singleton.mp hp]
                          exact Nat.ne_of_gt h6a
                    · intro La hlp tkl lv nx kla hoD hlD F2 N2 hq10
                      refine ex1 hq10 fun ext hq12 => an3 hq12 fun eq_11 hla hext => ?_
                      clear hq10 hq12
                      subst eq_11
                      have hl5 := hlD (L' + 1 + 1 + 1 + 1 + 1, o5) (.tail _ (.tail _ (.head _)))
                      have hll : (lampsK (nK r)).length = nK r := by rw [← lampsK_eq (nK_cases r hr8n)]; simp [lampsP]
                      have hlam : LampsAre ext lv (lampsK (nK r)) := by rw [← lampsK_eq (nK_cases r hr8n)]; exact hla
                      have htbl := htv.length
                      obtain ⟨mz, hmz, Fz⟩ := namedMap F2
                      clear F2
                      obtain ⟨bse, hbse⟩ : ∃ bse, bse = (La, LO lv kla) :: (R, LO rv kr) :: (Tb, LO tv ktb) :: (L' + 1 + 1 + 1 + 1, oRg) :: (L' + 1 + 1 + 1, oSz) :: (L' + 1 + 1, oWd) :: (L' + 1, oD) :: (37, tabObj p37) :: (44, tabObj p44) :: ext := ⟨_, rfl⟩
                      replace N2 := newsSub N2 (news' := (L' + 1 + 1 + 1 + 1 + 1, o5) :: bse) (by rw [hbse]; exact (sub_cons (.tail _ (.tail _ (.tail _ (.head _)))) (sub_keep (sub_keep (sub_keep (sub_skip sub_refl))))))
                      have hbo : ∀ p ∈ bse, p.1 ≠ L' + 1 + 1 + 1 + 1 + 1 := fun p hp => by
                        rw [hbse] at hp
                        simp only [List.mem_cons] at hp
                        rcases hp with rfl | rfl | rfl | rfl | rfl | rfl | rfl | rfl | rfl | h
                        all_goals first | exact hext _ h | exact Nat.ne_of_gt hl5 | (refine neN ?_; dsimp only; omega)
                      (first | (k_unfold; (try dsimp only)) | (k_end; kc_close) | walk1 | (dsimp only; walk1) | (leave1; walk_say "STEP leave1"; (try dsimp only)) | fail "no step")
                      k_dflt (refine forX (h₀ := g') (n := nK r) (P := fun i v => i < nK r ∧ ∃ t, v = .int ((0 : Int) + (i : Int)) t) (J := LwJ10 L' mz bse) ?_)
                      subst hmz
                      rw [hbse] at N2
                      ktr_unf
                      rename_i hr7 F7 N7 _
                      rw [← hbse] at N7
                      k_dflt (refine srcRange rfl hr7 (rngSmall (by omega) (by omega) (by omega)) (n := nK r) (rngSize (by omega)) F7 N7 ?_)
                      intro h2 tk2 I hS
                      refine CSrc.intro hS ⟨_, o5, _, map4s _, e5, rfl⟩ ?_ ?_
                      · intro i v m₁ news₁ h9 tk9 own hi hq2 hq3 hoI hown hIo F8 N8
                        refine an2 hq2 fun _ hq4 => ?_
                        clear hq2
                        refine ex1 hq4 fun t9 eq_5 => ?_
                        clear hq4
                        subst eq_5
                        refine ex3 hq3 fun u o6 c6 hq8 => an3 hq8 fun eq_6 ho6 eq_7 => ?_
                        clear hq3 hq8
                        subst eq_6
                        subst eq_7
                        have hob : ∀ p ∈ own, p.1 ≠ L' + 1 + 1 + 1 + 1 + 1 := fun p hp e => hoI _ (.head _) (e ▸ hown p hp)
                        simp only [List.cons_append] at N8
                        refine wpAny_assign_Name ?_
                        k_dflt (refine' storeX_C F8 N8 ?qc (UpdF.head ?qoff) ho6 ?_ ?qa ?qb; (case qa => rfl); (case qb => rfl); (case qc => rfl))
                        · intro p hp
                          exact (List.mem_append.mp hp).elim (hbo p) (hob p)
                        intro h7 o7 F7 N7 e7
                        clear N8 F8
                        simp only [Int.zero_add] at e7
                        rw [hbse] at N7
                        simp only [List.cons_append] at N7
                        ktr_unf
                        (with_reducible rename Fr _ _ _ _ => F6); (with_reducible rename News _ _ _ _ => N6)
                        have hlam2 : LampsAre ((L' + 1 + 1 + 1 + 1 + 1, o7) :: (La, LO lv kla) :: (R, LO rv kr) :: (Tb, LO tv ktb) :: (L' + 1 + 1 + 1 + 1, oRg) :: (L' + 1 + 1 + 1, oSz) :: (L' + 1 + 1, oWd) :: (L' + 1, oD) :: (37, tabObj p37) :: (44, tabObj p44) :: (ext ++ own)) lv (lampsK (nK r)) := hlam.mono (by kqd_sub)
                        k_dflt (refine mix_call (tabK r) (lampsK (nK r)) i t9 (.tail _ (.tail _ (.tail _ (.head _)))) htv (.tail _ (.head _)) hlam2 (by omega) (by omega) (by omega) (by omega) hB6 (by omega) _ _ _ _ _ _ _ _ _ _ F6 X0 N6 T0 (by ktr_room) (by ktr_units) ?_)
                        intro Dm fv km h5 tk5 F5 hfv N5 lm
                        clear F6 N6
                        have hR0 := eq_of_beq (okR_all r hr8n i hi 0 (by decide))
                        have hR1 := eq_of_beq (okR_all r hr8n i hi 1 (by decide))
                        have hR2 := eq_of_beq (okR_all r hr8n i hi 2 (by decide))
                        have hF := okF_all r hr8n i hi
                        obtain ⟨rd, hrd⟩ : ∃ rd, rd = (redK r).getD i (0, 0, 0) := ⟨_, rfl⟩
                        rw [← hrd] at hR0 hR1 hR2 hF
                        obtain ⟨x0, x1, x2⟩ := rd
                        rw [hR0, hR1, hR2] at hfv
                        refine ex3 (floats3 hfv) fun f0 f1 f2 eq_9 => ?_
                        subst eq_9
                        simp only [part3, okF, Bool.and_eq_true, beq_iff_eq, Bool.not_eq_true'] at hF N5
                        ktr_unf
                        (with_reducible rename Fr _ _ _ _ => F5); (with_reducible rename News _ _ _ _ => N5)
                        replace N5 := newsSub N5 (news' := (L' + 1 + 1 + 1 + 1 + 1, o7) :: (La, LO lv kla) :: (R, LO rv kr) :: (Tb, LO tv ktb) :: (L' + 1 + 1 + 1 + 1, oRg) :: (L' + 1 + 1 + 1, oSz) :: (L' + 1 + 1, oWd) :: (L' + 1, oD) :: (37, tabObj p37) :: (44, tabObj p44) :: (ext ++ own)) fun p hp => .tail _ hp
                        k_dflt (refine' evalComp (h₀ := g') (L := L') (n := rv.length) (P := fun i v => rv[i]? = some v) (cl := ?cls) (J := LwJ10b ((L' + 1 + 1 + 1 + 1 + 1, o7) :: (La, LO lv kla) :: (R, LO rv kr) :: (Tb, LO tv ktb) :: (L' + 1 + 1 + 1 + 1, oRg) :: (L' + 1 + 1 + 1, oSz) :: (L' + 1 + 1, oWd) :: (L' + 1, oD) :: (37, tabObj p37) :: (44, tabObj p44) :: (ext ++ own)) r i) ?cl ?ce ?ki ?na ?ht ?sz ?src)
                        case cl => exact rfl
                        case ce => decide
                        case ki => rfl
                        case na => decide
                        case ht => intro _ _; rfl
                        case sz => rw [sizeLine_eq]; omega
                        case src =>
                          ktr_unf
                          (with_reducible rename Fr _ _ _ _ => F4); (with_reducible rename News _ _ _ _ => N4)
                          k_dflt (refine srcList rfl (.tail _ (.tail _ (.head _))) F4 N4 ?_)
                          intro h8 tk8 I5 hS5
                          refine CSrc.intro hS5 ⟨rfl, .nil⟩ ?_ ?_
                          · intro g2 C2 D3 hlD2 hsg2 jj v2 ys2 nx2 m2 h6 tk6 own7 k7 hjj hjl2 hv2 hq12 hoff5 hD7 hfp7 hwr7 F2 N2
                            refine an2 hq12 fun eq_14 hfy2 => ?_
                            clear hq12
                            subst eq_14
                            have Tg2 := T0.keeps hsg2
                            have Xg2 := X0.keeps hsg2
                            refine ex2 (hrv.at jj v2 hv2) fun x tx hq16 => an2 hq16 fun eq_15 hx => ?_
                            clear hq16
                            subst eq_15
                            have hxb := hB9 x (List.mem_of_getElem? hx)
                            have hxz : x ≠ 0 := by omega
                            simp only [List.cons_append, List.append_assoc] at N2
                            ktr_unf
                            · (with_reducible rename Fr _ _ _ _ => F3); (with_reducible rename News _ _ _ _ => N3)
                              rename_i hc
                              refine CEnd.intro ((L' + 1 + 1 + 1 + 1 + 1, o7) :: (La, LO lv kla) :: (R, LO rv kr) :: (Tb, LO tv ktb) :: (L' + 1 + 1 + 1 + 1, oRg) :: (L' + 1 + 1 + 1, oSz) :: (L' + 1 + 1, oWd) :: (L' + 1, oD) :: (37, tabObj p37) :: (44, tabObj p44) :: (ext ++ own)) F3 N3 (.head _) (sub_skip (sub_keep (sub_keep (sub_keep (sub_keep (sub_keep (sub_keep (sub_keep (sub_keep (sub_keep (sub_keep (sub_app (sub_inl sub_refl) (sub_inr (sub_inl sub_refl)))))))))))))) (sub_skip (sub_skip (sub_skip (sub_skip (sub_skip (sub_skip (sub_skip (sub_skip (sub_skip (sub_skip (sub_skip (sub_inr (sub_inr sub_refl))))))))))))) hoff5 ⟨rfl, ?_⟩
                              · rw [List.take_add_one, hx, Option.toList_some, List.filter_append]
                                rw [List.filter_cons, if_pos (by rw [hc]; rfl)]
                                exact hfy2.append (.cons _ _ .nil)
                            · (with_reducible rename Fr _ _ _ _ => F3); (with_reducible rename News _ _ _ _ => N3)
                              rename_i hc
                              refine CEnd.intro ((L' + 1 + 1 + 1 + 1 + 1, o7) :: (La, LO lv kla) :: (R, LO rv kr) :: (Tb, LO tv ktb) :: (L' + 1 + 1 + 1 + 1, oRg) :: (L' + 1 + 1 + 1, oSz) :: (L' + 1 + 1, oWd) :: (L' + 1, oD) :: (37, tabObj p37) :: (44, tabObj p44) :: (ext ++ own)) F3 N3 (.head _) (sub_skip (sub_keep (sub_keep (sub_keep (sub_keep (sub_keep (sub_keep (sub_keep (sub_keep (sub_keep (sub_keep (sub_app (sub_inl sub_refl) (sub_inr (sub_inl sub_refl)))))))))))))) (sub_skip (sub_skip (sub_skip (sub_skip (sub_skip (sub_skip (sub_skip (sub_skip (sub_skip (sub_skip (sub_skip (sub_inr (sub_inr sub_refl))))))))))))) hoff5 ⟨rfl, ?_⟩
                              · rw [List.take_add_one, hx, Option.toList_some, List.filter_append]
                                rw [List.filter_cons, if_neg (by simpa using hc)]
                                simpa using hfy2
                          · intro D3 h9 tk9 ys2 nx2 k7 hoD2 hlD2 F2 N2 hq17
                            refine an2 hq17 fun eq_18 hfy2 => ?_
                            clear hq17
                            subst eq_18
                            rw [hrvl, List.take_length] at hfy2
                            have hyl2 := hfy2.length
                            have hfl := List.length_filter_le (fun q => decide ((i : Int).fmod q = 0)) (ringsK r)
                            ktr_unf
                            (with_reducible rename Fr _ _ _ _ => F5); (with_reducible rename News _ _ _ _ => N5)
                            replace N5 := newsSub N5 (news' := (L' + 1 + 1 + 1 + 1 + 1, o7) :: (La, LO lv kla) :: (R, LO rv kr) :: (Tb, LO tv ktb) :: (L' + 1 + 1 + 1 + 1, oRg) :: (L' + 1 + 1 + 1, oSz) :: (L' + 1 + 1, oWd) :: (L' + 1, oD) :: (37, tabObj p37) :: (44, tabObj p44) :: (ext ++ own)) fun p hp => .tail _ hp
                            rw [show (List.filter (fun q => decide ((i : Int).fmod q = 0)) (ringsK r)).sum = stayP (ringsK r) i from rfl] at F5
                            refine lan6 hF fun hF1 hF2 hF3 hF5 hF6 hF7 => ?_
                            clear hF
                            k_dflt (refine rgb_call x0 x1 x2 _ _ _ _ _ _ _ _ _ _ _ _ _ F5 X0 N5 T0 (by ktr_room) (by ktr_units) hF1 ?_)
                            intro y0 y1 y2 hy Dr v0 v1 v2 h5 tk5 hv0 hv1 htk5 hv2 F4 N4 lr
                            have hv3 := hv2 hF6 hF7
                            subst hv3
                            clear F5 N5
                            rw [hF2] at hy
                            injection hy with hy0 hy
                            injection hy with hy1 hy2
                            rw [← hy0, ← hy1, ← hy2] at N4
                            obtain ⟨qd, hqd⟩ : ∃ qd, qd = Float64.div (Float64.ofInt (stayP (ringsK r) i)) x0 := ⟨_, rfl⟩
                            rw [← hqd] at N4 hF5
                            have hov := notOver (stayB r hr8n i (by omega))
                            iterate 7 (first | (k_unfold; (try dsimp only)) | (k_end; kc_close) | walk1 | (dsimp only; walk1) | (leave1; walk_say "STEP leave1"; (try dsimp only)) | fail "no step")
                            k_dflt (refine PySem.Flt.truediv_if rfl (fun h => absurd h hov) (fun _ h => absurd h (by rw [hF3]; decide)) (fun _ _ => ?_))
                            rw [← hqd]
                            iterate 4 (first | (k_unfold; (try dsimp only)) | (k_end; kc_close) | walk1 | (dsimp only; walk1) | (leave1; walk_say "STEP leave1"; (try dsimp only)) | fail "no step")
                            (with_reducible rename Fr _ _ _ _ => F2b); (with_reducible rename News _ _ _ _ => N2b)
                            k_dflt (refine ne3f X0 F2b N2b (.tail _ (.head _)) (.head _) cmp00 (beq_iff_eq.mpr hF5) hv0 hv1 htk5 (Nat.succ_ne_zero _) (by ktr_units) ?_)
                            k_steps
                            (with_reducible rename Fr _ _ _ _ => F1); (with_reducible rename News _ _ _ _ => N1)
                            refine TEnd.intro ((L' + 1 + 1 + 1 + 1 + 1, o7) :: bse) F1 N1 (by rw [hbse]; exact (sub_skip (sub_skip (sub_keep (sub_keep (sub_keep (sub_keep (sub_keep (sub_keep (sub_keep (sub_keep (sub_keep (sub_keep (sub_inl sub_refl)))))))))))))) (sub_skip (sub_skip (sub_skip (sub_skip (sub_skip (sub_skip (sub_skip (sub_skip (sub_skip (sub_skip (sub_skip (sub_skip (sub_inr sub_refl))))))))))))) (fun p hp => ?_) ⟨_, o7, _, map4z (fun z h1 h2 h3 h4 => by simp only [if_neg h1, if_neg h2, if_neg h3, if_neg h4]), e7, rfl⟩
                            · rcases List.mem_cons.mp hp with rfl | hp
                              · exact hoI (L' + 1 + 1 + 1 + 1 + 1, o6) (.head _)
                              · exact hoI p (.tail _ hp)
                      · intro m₁ news₁ h9 tk9 hq19 F8 N8
                        refine ex3 hq19 fun u o6 c6 hq22 => an3 hq22 fun eq_20 ho6 eq_21 => ?_
                        clear hq19 hq22
                        subst eq_20
                        subst eq_21
                        rw [hbse] at N8
                        k_steps
end
end Mine
theorem PySem.Challenge.cw_sn0069_01_holds : PySem.Challenge.rw_sn0069_01.Holds :=
  Mine.law1
