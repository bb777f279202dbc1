import PyProof.Rows.All
import Wide.All
import OpenK.AllK
import Wide.FinOn
import Lean
import PySem.Challenge.RW_ta0019_01
open PySem PySem.W PySem.Spec PySem.Calls PyProof.Rows PyProof.Rows.LCg
set_option Elab.async false
set_option maxRecDepth 100000
set_option maxHeartbeats 8000000
set_option linter.all false
namespace Mine
section

inductive Sm2 {α0 α1 : Type} (p : α0 → α1 → Prop) : Prop where
  | mk (x0 : α0) (x1 : α1) (h : p x0 x1) : Sm2 p
inductive Sm3 {α0 α1 α2 : Type} (p : α0 → α1 → α2 → Prop) : Prop where
  | mk (x0 : α0) (x1 : α1) (x2 : α2) (h : p x0 x1 x2) : Sm3 p
inductive Sm4 {α0 α1 α2 α3 : Type} (p : α0 → α1 → α2 → α3 → Prop) : Prop where
  | mk (x0 : α0) (x1 : α1) (x2 : α2) (x3 : α3) (h : p x0 x1 x2 x3) : Sm4 p
inductive Sm5 {α0 α1 α2 α3 α4 : Type} (p : α0 → α1 → α2 → α3 → α4 → Prop) : Prop where
  | mk (x0 : α0) (x1 : α1) (x2 : α2) (x3 : α3) (x4 : α4) (h : p x0 x1 x2 x3 x4) : Sm5 p
inductive Sm6 {α0 α1 α2 α3 α4 α5 : Type} (p : α0 → α1 → α2 → α3 → α4 → α5 → Prop) : Prop where
  | mk (x0 : α0) (x1 : α1) (x2 : α2) (x3 : α3) (x4 : α4) (x5 : α5) (h : p x0 x1 x2 x3 x4 x5) : Sm6 p
inductive Sm7 {α0 α1 α2 α3 α4 α5 α6 : Type} (p : α0 → α1 → α2 → α3 → α4 → α5 → α6 → Prop) : Prop where
  | mk (x0 : α0) (x1 : α1) (x2 : α2) (x3 : α3) (x4 : α4) (x5 : α5) (x6 : α6) (h : p x0 x1 x2 x3 x4 x5 x6) : Sm7 p
inductive Sm8 {α0 α1 α2 α3 α4 α5 α6 α7 : Type} (p : α0 → α1 → α2 → α3 → α4 → α5 → α6 → α7 → Prop) : Prop where
  | mk (x0 : α0) (x1 : α1) (x2 : α2) (x3 : α3) (x4 : α4) (x5 : α5) (x6 : α6) (x7 : α7) (h : p x0 x1 x2 x3 x4 x5 x6 x7) : Sm8 p
inductive Sm9 {α0 α1 α2 α3 α4 α5 α6 α7 α8 : Type} (p : α0 → α1 → α2 → α3 → α4 → α5 → α6 → α7 → α8 → Prop) : Prop where
  | mk (x0 : α0) (x1 : α1) (x2 : α2) (x3 : α3) (x4 : α4) (x5 : α5) (x6 : α6) (x7 : α7) (x8 : α8) (h : p x0 x1 x2 x3 x4 x5 x6 x7 x8) : Sm9 p
inductive Sm10 {α0 α1 α2 α3 α4 α5 α6 α7 α8 α9 : Type} (p : α0 → α1 → α2 → α3 → α4 → α5 → α6 → α7 → α8 → α9 → Prop) : Prop where
  | mk (x0 : α0) (x1 : α1) (x2 : α2) (x3 : α3) (x4 : α4) (x5 : α5) (x6 : α6) (x7 : α7) (x8 : α8) (x9 : α9) (h : p x0 x1 x2 x3 x4 x5 x6 x7 x8 x9) : Sm10 p
inductive Sm13 {α0 α1 α2 α3 α4 α5 α6 α7 α8 α9 α10 α11 α12 : Type} (p : α0 → α1 → α2 → α3 → α4 → α5 → α6 → α7 → α8 → α9 → α10 → α11 → α12 → Prop) : Prop where
  | mk (x0 : α0) (x1 : α1) (x2 : α2) (x3 : α3) (x4 : α4) (x5 : α5) (x6 : α6) (x7 : α7) (x8 : α8) (x9 : α9) (x10 : α10) (x11 : α11) (x12 : α12) (h : p x0 x1 x2 x3 x4 x5 x6 x7 x8 x9 x10 x11 x12) : Sm13 p
inductive Sm14 {α0 α1 α2 α3 α4 α5 α6 α7 α8 α9 α10 α11 α12 α13 : Type} (p : α0 → α1 → α2 → α3 → α4 → α5 → α6 → α7 → α8 → α9 → α10 → α11 → α12 → α13 → Prop) : Prop where
  | mk (x0 : α0) (x1 : α1) (x2 : α2) (x3 : α3) (x4 : α4) (x5 : α5) (x6 : α6) (x7 : α7) (x8 : α8) (x9 : α9) (x10 : α10) (x11 : α11) (x12 : α12) (x13 : α13) (h : p x0 x1 x2 x3 x4 x5 x6 x7 x8 x9 x10 x11 x12 x13) : Sm14 p
inductive Sm15 {α0 α1 α2 α3 α4 α5 α6 α7 α8 α9 α10 α11 α12 α13 α14 : Type} (p : α0 → α1 → α2 → α3 → α4 → α5 → α6 → α7 → α8 → α9 → α10 → α11 → α12 → α13 → α14 → Prop) : Prop where
  | mk (x0 : α0) (x1 : α1) (x2 : α2) (x3 : α3) (x4 : α4) (x5 : α5) (x6 : α6) (x7 : α7) (x8 : α8) (x9 : α9) (x10 : α10) (x11 : α11) (x12 : α12) (x13 : α13) (x14 : α14) (h : p x0 x1 x2 x3 x4 x5 x6 x7 x8 x9 x10 x11 x12 x13 x14) : Sm15 p
inductive Sm16 {α0 α1 α2 α3 α4 α5 α6 α7 α8 α9 α10 α11 α12 α13 α14 α15 : Type} (p : α0 → α1 → α2 → α3 → α4 → α5 → α6 → α7 → α8 → α9 → α10 → α11 → α12 → α13 → α14 → α15 → Prop) : Prop where
  | mk (x0 : α0) (x1 : α1) (x2 : α2) (x3 : α3) (x4 : α4) (x5 : α5) (x6 : α6) (x7 : α7) (x8 : α8) (x9 : α9) (x10 : α10) (x11 : α11) (x12 : α12) (x13 : α13) (x14 : α14) (x15 : α15) (h : p x0 x1 x2 x3 x4 x5 x6 x7 x8 x9 x10 x11 x12 x13 x14 x15) : Sm16 p
inductive Sm18 {α0 α1 α2 α3 α4 α5 α6 α7 α8 α9 α10 α11 α12 α13 α14 α15 α16 α17 : Type} (p : α0 → α1 → α2 → α3 → α4 → α5 → α6 → α7 → α8 → α9 → α10 → α11 → α12 → α13 → α14 → α15 → α16 → α17 → Prop) : Prop where
  | mk (x0 : α0) (x1 : α1) (x2 : α2) (x3 : α3) (x4 : α4) (x5 : α5) (x6 : α6) (x7 : α7) (x8 : α8) (x9 : α9) (x10 : α10) (x11 : α11) (x12 : α12) (x13 : α13) (x14 : α14) (x15 : α15) (x16 : α16) (x17 : α17) (h : p x0 x1 x2 x3 x4 x5 x6 x7 x8 x9 x10 x11 x12 x13 x14 x15 x16 x17) : Sm18 p
inductive Al3 (p0 p1 p2 : Prop) : Prop where
  | mk (h0 : p0) (h1 : p1) (h2 : p2) : Al3 p0 p1 p2
inductive Al4 (p0 p1 p2 p3 : Prop) : Prop where
  | mk (h0 : p0) (h1 : p1) (h2 : p2) (h3 : p3) : Al4 p0 p1 p2 p3
inductive Al5 (p0 p1 p2 p3 p4 : Prop) : Prop where
  | mk (h0 : p0) (h1 : p1) (h2 : p2) (h3 : p3) (h4 : p4) : Al5 p0 p1 p2 p3 p4
inductive Al6 (p0 p1 p2 p3 p4 p5 : Prop) : Prop where
  | mk (h0 : p0) (h1 : p1) (h2 : p2) (h3 : p3) (h4 : p4) (h5 : p5) : Al6 p0 p1 p2 p3 p4 p5
inductive Al7 (p0 p1 p2 p3 p4 p5 p6 : Prop) : Prop where
  | mk (h0 : p0) (h1 : p1) (h2 : p2) (h3 : p3) (h4 : p4) (h5 : p5) (h6 : p6) : Al7 p0 p1 p2 p3 p4 p5 p6
inductive Al8 (p0 p1 p2 p3 p4 p5 p6 p7 : Prop) : Prop where
  | mk (h0 : p0) (h1 : p1) (h2 : p2) (h3 : p3) (h4 : p4) (h5 : p5) (h6 : p6) (h7 : p7) : Al8 p0 p1 p2 p3 p4 p5 p6 p7
inductive Al9 (p0 p1 p2 p3 p4 p5 p6 p7 p8 : Prop) : Prop where
  | mk (h0 : p0) (h1 : p1) (h2 : p2) (h3 : p3) (h4 : p4) (h5 : p5) (h6 : p6) (h7 : p7) (h8 : p8) : Al9 p0 p1 p2 p3 p4 p5 p6 p7 p8
inductive Al10 (p0 p1 p2 p3 p4 p5 p6 p7 p8 p9 : Prop) : Prop where
  | mk (h0 : p0) (h1 : p1) (h2 : p2) (h3 : p3) (h4 : p4) (h5 : p5) (h6 : p6) (h7 : p7) (h8 : p8) (h9 : p9) : Al10 p0 p1 p2 p3 p4 p5 p6 p7 p8 p9
inductive Al11 (p0 p1 p2 p3 p4 p5 p6 p7 p8 p9 p10 : Prop) : Prop where
  | mk (h0 : p0) (h1 : p1) (h2 : p2) (h3 : p3) (h4 : p4) (h5 : p5) (h6 : p6) (h7 : p7) (h8 : p8) (h9 : p9) (h10 : p10) : Al11 p0 p1 p2 p3 p4 p5 p6 p7 p8 p9 p10
inductive Al12 (p0 p1 p2 p3 p4 p5 p6 p7 p8 p9 p10 p11 : Prop) : Prop where
  | mk (h0 : p0) (h1 : p1) (h2 : p2) (h3 : p3) (h4 : p4) (h5 : p5) (h6 : p6) (h7 : p7) (h8 : p8) (h9 : p9) (h10 : p10) (h11 : p11) : Al12 p0 p1 p2 p3 p4 p5 p6 p7 p8 p9 p10 p11
end
section
open PySem PySem.W PySem.Spec PySem.Calls PyProof.Rows
noncomputable abbrev pwP : Program := PySem.Challenge.pw_ta0019_01
noncomputable def mkF (q : Stmt) (qual pm : Str) (t c : Nat) : Obj := match q with
  | .FunctionDef n a b _ _ _ s _ _ _ => { cls := .type "function", data := .func { name := n, qualname := qual, params := a, body := .stmts b, scope := s, globals := 3, closure := [], defaults := .none, kwdefaults := .none, pyModule := .str pm t, code := .ref c } }
  | _ => { cls := .none, data := .seq #[] }
noncomputable def inCls (q : Stmt) (i : Nat) : Stmt := match q with
  | .ClassDef _ _ _ b _ _ _ _ _ _ _ => b.getD i q
  | _ => q
noncomputable def topAt (i : Nat) : Stmt := pwP.main.body.getD i (.Pass default)
@[reducible] noncomputable def o2 : Obj := { cls := Value.none, data := Data.dict #[] }
@[reducible] noncomputable def o3 (P : Params) : Obj := { cls := Value.type "dict", data := Data.dict #[{ hash := PyData.keyHash P (Str.ofString "__name__"), key := Value.str (Str.ofString "__name__") 165, val := Value.str (Str.ofString "law_ta0019_01") 463 }, { hash := PyData.keyHash P (Str.ofString "__doc__"), key := Value.str (Str.ofString "__doc__") 166, val := Value.none }, { hash := PyData.keyHash P (Str.ofString "__package__"), key := Value.str (Str.ofString "__package__") 167, val := Value.none }, { hash := PyData.keyHash P (Str.ofString "__loader__"), key := Value.str (Str.ofString "__loader__") 168, val := Value.builtin "__main__.__loader__#opaque" }, { hash := PyData.keyHash P (Str.ofString "__spec__"), key := Value.str (Str.ofString "__spec__") 169, val := Value.none }, { hash := PyData.keyHash P (Str.ofString "__annotations__"), key := Value.str (Str.ofString "__annotations__") 170, val := Value.ref 6 }, { hash := PyData.keyHash P (Str.ofString "__builtins__"), key := Value.str (Str.ofString "__builtins__") 171, val := Value.ref 4 }, { hash := PyData.keyHash P (Str.ofString "__file__"), key := Value.str (Str.ofString "__file__") 173, val := Value.str (Str.ofString "/claim/cut.py") 172 }, { hash := PyData.keyHash P (Str.ofString "__cached__"), key := Value.str (Str.ofString "__cached__") 174, val := Value.none }, { hash := PyData.keyHash P (Str.ofString "ENDMARKER"), key := Value.str (Str.ofString "ENDMARKER") 190, val := Value.int 0 189 }, { hash := PyData.keyHash P (Str.ofString "LPAR"), key := Value.str (Str.ofString "LPAR") 192, val := Value.int 7 191 }, { hash := PyData.keyHash P (Str.ofString "RPAR"), key := Value.str (Str.ofString "RPAR") 194, val := Value.int 8 193 }, { hash := PyData.keyHash P (Str.ofString "LSQB"), key := Value.str (Str.ofString "LSQB") 196, val := Value.int 9 195 }, { hash := PyData.keyHash P (Str.ofString "RSQB"), key := Value.str (Str.ofString "RSQB") 198, val := Value.int 10 197 }, { hash := PyData.keyHash P (Str.ofString "COLON"), key := Value.str (Str.ofString "COLON") 200, val := Value.int 11 199 }, { hash := PyData.keyHash P (Str.ofString "COMMA"), key := Value.str (Str.ofString "COMMA") 202, val := Value.int 12 201 }, { hash := PyData.keyHash P (Str.ofString "SEMI"), key := Value.str (Str.ofString "SEMI") 204, val := Value.int 13 203 }, { hash := PyData.keyHash P (Str.ofString "PLUS"), key := Value.str (Str.ofString "PLUS") 206, val := Value.int 14 205 }, { hash := PyData.keyHash P (Str.ofString "MINUS"), key := Value.str (Str.ofString "MINUS") 208, val := Value.int 15 207 }, { hash := PyData.keyHash P (Str.ofString "STAR"), key := Value.str (Str.ofString "STAR") 210, val := Value.int 16 209 }, { hash := PyData.keyHash P (Str.ofString "SLASH"), key := Value.str (Str.ofString "SLASH") 212, val := Value.int 17 211 }, { hash := PyData.keyHash P (Str.ofString "VBAR"), key := Value.str (Str.ofString "VBAR") 214, val := Value.int 18 213 }, { hash := PyData.keyHash P (Str.ofString "AMPER"), key := Value.str (Str.ofString "AMPER") 216, val := Value.int 19 215 }, { hash := PyData.keyHash P (Str.ofString "LESS"), key := Value.str (Str.ofString "LESS") 218, val := Value.int 20 217 }, { hash := PyData.keyHash P (Str.ofString "GREATER"), key := Value.str (Str.ofString "GREATER") 220, val := Value.int 21 219 }, { hash := PyData.keyHash P (Str.ofString "EQUAL"), key := Value.str (Str.ofString "EQUAL") 222, val := Value.int 22 221 }, { hash := PyData.keyHash P (Str.ofString "DOT"), key := Value.str (Str.ofString "DOT") 224, val := Value.int 23 223 }, { hash := PyData.keyHash P (Str.ofString "PERCENT"), key := Value.str (Str.ofString "PERCENT") 226, val := Value.int 24 225 }, { hash := PyData.keyHash P (Str.ofString "LBRACE"), key := Value.str (Str.ofString "LBRACE") 228, val := Value.int 25 227 }, { hash := PyData.keyHash P (Str.ofString "RBRACE"), key := Value.str (Str.ofString "RBRACE") 230, val := Value.int 26 229 }, { hash := PyData.keyHash P (Str.ofString "EQEQUAL"), key := Value.str (Str.ofString "EQEQUAL") 232, val := Value.int 27 231 }, { hash := PyData.keyHash P (Str.ofString "NOTEQUAL"), key := Value.str (Str.ofString "NOTEQUAL") 234, val := Value.int 28 233 }, { hash := PyData.keyHash P (Str.ofString "LESSEQUAL"), key := Value.str (Str.ofString "LESSEQUAL") 236, val := Value.int 29 235 }, { hash := PyData.keyHash P (Str.ofString "GREATEREQUAL"), key := Value.str (Str.ofString "GREATEREQUAL") 238, val := Value.int 30 237 }, { hash := PyData.keyHash P (Str.ofString "TILDE"), key := Value.str (Str.ofString "TILDE") 240, val := Value.int 31 239 }, { hash := PyData.keyHash P (Str.ofString "CIRCUMFLEX"), key := Value.str (Str.ofString "CIRCUMFLEX") 242, val := Value.int 32 241 }, { hash := PyData.keyHash P (Str.ofString "LEFTSHIFT"), key := Value.str (Str.ofString "LEFTSHIFT") 244, val := Value.int 33 243 }, { hash := PyData.keyHash P (Str.ofString "RIGHTSHIFT"), key := Value.str (Str.ofString "RIGHTSHIFT") 246, val := Value.int 34 245 }, { hash := PyData.keyHash P (Str.ofString "DOUBLESTAR"), key := Value.str (Str.ofString "DOUBLESTAR") 248, val := Value.int 35 247 }, { hash := PyData.keyHash P (Str.ofString "PLUSEQUAL"), key := Value.str (Str.ofString "PLUSEQUAL") 250, val := Value.int 36 249 }, { hash := PyData.keyHash P (Str.ofString "MINEQUAL"), key := Value.str (Str.ofString "MINEQUAL") 252, val := Value.int 37 251 }, { hash := PyData.keyHash P (Str.ofString "STAREQUAL"), key := Value.str (Str.ofString "STAREQUAL") 254, val := Value.int 38 253 }, { hash := PyData.keyHash P (Str.ofString "SLASHEQUAL"), key := Value.str (Str.ofString "SLASHEQUAL") 256, val := Value.int 39 255 }, { hash := PyData.keyHash P (Str.ofString "PERCENTEQUAL"), key := Value.str (Str.ofString "PERCENTEQUAL") 258, val := Value.int 40 257 }, { hash := PyData.keyHash P (Str.ofString "AMPEREQUAL"), key := Value.str (Str.ofString "AMPEREQUAL") 260, val := Value.int 41 259 }, { hash := PyData.keyHash P (Str.ofString "VBAREQUAL"), key := Value.str (Str.ofString "VBAREQUAL") 262, val := Value.int 42 261 }, { hash := PyData.keyHash P (Str.ofString "CIRCUMFLEXEQUAL"), key := Value.str (Str.ofString "CIRCUMFLEXEQUAL") 264, val := Value.int 43 263 }, { hash := PyData.keyHash P (Str.ofString "LEFTSHIFTEQUAL"), key := Value.str (Str.ofString "LEFTSHIFTEQUAL") 266, val := Value.int 44 265 }, { hash := PyData.keyHash P (Str.ofString "RIGHTSHIFTEQUAL"), key := Value.str (Str.ofString "RIGHTSHIFTEQUAL") 268, val := Value.int 45 267 }, { hash := PyData.keyHash P (Str.ofString "DOUBLESTAREQUAL"), key := Value.str (Str.ofString "DOUBLESTAREQUAL") 270, val := Value.int 46 269 }, { hash := PyData.keyHash P (Str.ofString "DOUBLESLASH"), key := Value.str (Str.ofString "DOUBLESLASH") 272, val := Value.int 47 271 }, { hash := PyData.keyHash P (Str.ofString "DOUBLESLASHEQUAL"), key := Value.str (Str.ofString "DOUBLESLASHEQUAL") 274, val := Value.int 48 273 }, { hash := PyData.keyHash P (Str.ofString "AT"), key := Value.str (Str.ofString "AT") 276, val := Value.int 49 275 }, { hash := PyData.keyHash P (Str.ofString "ATEQUAL"), key := Value.str (Str.ofString "ATEQUAL") 278, val := Value.int 50 277 }, { hash := PyData.keyHash P (Str.ofString "RARROW"), key := Value.str (Str.ofString "RARROW") 280, val := Value.int 51 279 }, { hash := PyData.keyHash P (Str.ofString "ELLIPSIS"), key := Value.str (Str.ofString "ELLIPSIS") 282, val := Value.int 52 281 }, { hash := PyData.keyHash P (Str.ofString "COLONEQUAL"), key := Value.str (Str.ofString "COLONEQUAL") 284, val := Value.int 53 283 }, { hash := PyData.keyHash P (Str.ofString "EXCLAMATION"), key := Value.str (Str.ofString "EXCLAMATION") 286, val := Value.int 54 285 }, { hash := PyData.keyHash P (Str.ofString "EXACT_TOKEN_TYPES"), key := Value.str (Str.ofString "EXACT_TOKEN_TYPES") 383, val := Value.ref 15 }, { hash := PyData.keyHash P (Str.ofString "ISEOF"), key := Value.str (Str.ofString "ISEOF") 390, val := Value.ref 24 }, { hash := PyData.keyHash P (Str.ofString "Int2AP"), key := Value.str (Str.ofString "Int2AP") 402, val := Value.ref 31 }, { hash := PyData.keyHash P (Str.ofString "_netrclex"), key := Value.str (Str.ofString "_netrclex") 462, val := Value.ref 69 }, { hash := PyData.keyHash P (Str.ofString "_law_stream"), key := Value.str (Str.ofString "_law_stream") 475, val := Value.ref 80 }, { hash := PyData.keyHash P (Str.ofString "_law_word"), key := Value.str (Str.ofString "_law_word") 481, val := Value.ref 85 }, { hash := PyData.keyHash P (Str.ofString "_law_number"), key := Value.str (Str.ofString "_law_number") 490, val := Value.ref 92 }, { hash := PyData.keyHash P (Str.ofString "_law_written"), key := Value.str (Str.ofString "_law_written") 496, val := Value.ref 97 }, { hash := PyData.keyHash P (Str.ofString "_law_operators"), key := Value.str (Str.ofString "_law_operators") 502, val := Value.ref 104 }, { hash := PyData.keyHash P (Str.ofString "_law_wishes"), key := Value.str (Str.ofString "_law_wishes") 508, val := Value.ref 109 }, { hash := PyData.keyHash P (Str.ofString "_law_codes"), key := Value.str (Str.ofString "_law_codes") 526, val := Value.ref 116 }, { hash := PyData.keyHash P (Str.ofString "_law_node"), key := Value.str (Str.ofString "_law_node") 537, val := Value.ref 123 }, { hash := PyData.keyHash P (Str.ofString "_law_due"), key := Value.str (Str.ofString "_law_due") 543, val := Value.ref 128 }, { hash := PyData.keyHash P (Str.ofString "law"), key := Value.str (Str.ofString "law") 549, val := Value.ref 133 }] 72 }
@[reducible] noncomputable def o6 : Obj := { cls := Value.type "dict", data := Data.dict #[] }
@[reducible] noncomputable def o15 (P : Params) : Obj := { cls := Value.type "dict", data := Data.dict #[{ hash := PyData.keyHash P (Str.ofString "!"), key := Value.str (Str.ofString "!") 287, val := Value.int 54 285 }, { hash := PyData.keyHash P (Str.ofString "!="), key := Value.str (Str.ofString "!=") 289, val := Value.int 28 233 }, { hash := PyData.keyHash P (Str.ofString "%"), key := Value.str (Str.ofString "%") 291, val := Value.int 24 225 }, { hash := PyData.keyHash P (Str.ofString "%="), key := Value.str (Str.ofString "%=") 293, val := Value.int 40 257 }, { hash := PyData.keyHash P (Str.ofString "&"), key := Value.str (Str.ofString "&") 295, val := Value.int 19 215 }, { hash := PyData.keyHash P (Str.ofString "&="), key := Value.str (Str.ofString "&=") 297, val := Value.int 41 259 }, { hash := PyData.keyHash P (Str.ofString "("), key := Value.str (Str.ofString "(") 299, val := Value.int 7 191 }, { hash := PyData.keyHash P (Str.ofString ")"), key := Value.str (Str.ofString ")") 301, val := Value.int 8 193 }, { hash := PyData.keyHash P (Str.ofString "*"), key := Value.str (Str.ofString "*") 303, val := Value.int 16 209 }, { hash := PyData.keyHash P (Str.ofString "**"), key := Value.str (Str.ofString "**") 305, val := Value.int 35 247 }, { hash := PyData.keyHash P (Str.ofString "**="), key := Value.str (Str.ofString "**=") 307, val := Value.int 46 269 }, { hash := PyData.keyHash P (Str.ofString "*="), key := Value.str (Str.ofString "*=") 309, val := Value.int 38 253 }, { hash := PyData.keyHash P (Str.ofString "+"), key := Value.str (Str.ofString "+") 311, val := Value.int 14 205 }, { hash := PyData.keyHash P (Str.ofString "+="), key := Value.str (Str.ofString "+=") 313, val := Value.int 36 249 }, { hash := PyData.keyHash P (Str.ofString ","), key := Value.str (Str.ofString ",") 315, val := Value.int 12 201 }, { hash := PyData.keyHash P (Str.ofString "-"), key := Value.str (Str.ofString "-") 317, val := Value.int 15 207 }, { hash := PyData.keyHash P (Str.ofString "-="), key := Value.str (Str.ofString "-=") 319, val := Value.int 37 251 }, { hash := PyData.keyHash P (Str.ofString "->"), key := Value.str (Str.ofString "->") 321, val := Value.int 51 279 }, { hash := PyData.keyHash P (Str.ofString "."), key := Value.str (Str.ofString ".") 323, val := Value.int 23 223 }, { hash := PyData.keyHash P (Str.ofString "..."), key := Value.str (Str.ofString "...") 325, val := Value.int 52 281 }, { hash := PyData.keyHash P (Str.ofString "/"), key := Value.str (Str.ofString "/") 327, val := Value.int 17 211 }, { hash := PyData.keyHash P (Str.ofString "//"), key := Value.str (Str.ofString "//") 329, val := Value.int 47 271 }, { hash := PyData.keyHash P (Str.ofString "//="), key := Value.str (Str.ofString "//=") 331, val := Value.int 48 273 }, { hash := PyData.keyHash P (Str.ofString "/="), key := Value.str (Str.ofString "/=") 333, val := Value.int 39 255 }, { hash := PyData.keyHash P (Str.ofString ":"), key := Value.str (Str.ofString ":") 335, val := Value.int 11 199 }, { hash := PyData.keyHash P (Str.ofString ":="), key := Value.str (Str.ofString ":=") 337, val := Value.int 53 283 }, { hash := PyData.keyHash P (Str.ofString ";"), key := Value.str (Str.ofString ";") 339, val := Value.int 13 203 }, { hash := PyData.keyHash P (Str.ofString "<"), key := Value.str (Str.ofString "<") 341, val := Value.int 20 217 }, { hash := PyData.keyHash P (Str.ofString "<<"), key := Value.str (Str.ofString "<<") 343, val := Value.int 33 243 }, { hash := PyData.keyHash P (Str.ofString "<<="), key := Value.str (Str.ofString "<<=") 345, val := Value.int 44 265 }, { hash := PyData.keyHash P (Str.ofString "<="), key := Value.str (Str.ofString "<=") 347, val := Value.int 29 235 }, { hash := PyData.keyHash P (Str.ofString "="), key := Value.str (Str.ofString "=") 349, val := Value.int 22 221 }, { hash := PyData.keyHash P (Str.ofString "=="), key := Value.str (Str.ofString "==") 351, val := Value.int 27 231 }, { hash := PyData.keyHash P (Str.ofString ">"), key := Value.str (Str.ofString ">") 353, val := Value.int 21 219 }, { hash := PyData.keyHash P (Str.ofString ">="), key := Value.str (Str.ofString ">=") 355, val := Value.int 30 237 }, { hash := PyData.keyHash P (Str.ofString ">>"), key := Value.str (Str.ofString ">>") 356, val := Value.int 34 245 }, { hash := PyData.keyHash P (Str.ofString ">>="), key := Value.str (Str.ofString ">>=") 357, val := Value.int 45 267 }, { hash := PyData.keyHash P (Str.ofString "@"), key := Value.str (Str.ofString "@") 358, val := Value.int 49 275 }, { hash := PyData.keyHash P (Str.ofString "@="), key := Value.str (Str.ofString "@=") 359, val := Value.int 50 277 }, { hash := PyData.keyHash P (Str.ofString "["), key := Value.str (Str.ofString "[") 360, val := Value.int 9 195 }, { hash := PyData.keyHash P (Str.ofString "]"), key := Value.str (Str.ofString "]") 361, val := Value.int 10 197 }, { hash := PyData.keyHash P (Str.ofString "^"), key := Value.str (Str.ofString "^") 362, val := Value.int 32 241 }, { hash := PyData.keyHash P (Str.ofString "^="), key := Value.str (Str.ofString "^=") 363, val := Value.int 43 263 }, { hash := PyData.keyHash P (Str.ofString "{"), key := Value.str (Str.ofString "{") 364, val := Value.int 25 227 }, { hash := PyData.keyHash P (Str.ofString "|"), key := Value.str (Str.ofString "|") 365, val := Value.int 18 213 }, { hash := PyData.keyHash P (Str.ofString "|="), key := Value.str (Str.ofString "|=") 366, val := Value.int 42 261 }, { hash := PyData.keyHash P (Str.ofString "}"), key := Value.str (Str.ofString "}") 367, val := Value.int 26 229 }, { hash := PyData.keyHash P (Str.ofString "~"), key := Value.str (Str.ofString "~") 368, val := Value.int 31 239 }] 48 }
@[reducible] noncomputable def o18 : Obj := { cls := Value.type "tuple", data := Data.seq #[] }
@[reducible] noncomputable def o20 : Obj := { cls := Value.type "tuple", data := Data.seq #[Value.str (Str.ofString "x") 387] }
@[reducible] noncomputable def o21 : Obj := { cls := Value.type "tuple", data := Data.seq #[] }
@[reducible] noncomputable def o23 : Obj := { cls := Value.type "code", data := Data.fields #[Value.str (Str.ofString "ISEOF") 384, Value.str (Str.ofString "ISEOF") 385, Value.str (Str.ofString "/claim/cut.py") 386, Value.int 52 0, Value.int 1 0, Value.int 0 0, Value.int 0 0, Value.int 3 0, Value.ref 18, Value.bool true, Value.int 181 0, Value.ref 19, Value.none, Value.ref 20, Value.ref 21, Value.ref 22, Value.int 388 0, Value.int 52 0, Value.str (Str.ofString "/claim/cut.py") 389] }
@[reducible] noncomputable def O24 : (x : Obj) ×' (mkF (topAt 51) (Str.ofString "ISEOF") (Str.ofString "cpy313.token") 187 23 = x) := ⟨_, by conv => lhs; whnf⟩
@[reducible] noncomputable def o25 : Obj := { cls := Value.type "tuple", data := Data.seq #[] }
@[reducible] noncomputable def o27 : Obj := { cls := Value.type "tuple", data := Data.seq #[Value.str (Str.ofString "num") 396, Value.str (Str.ofString "val") 397, Value.str (Str.ofString "AP") 398, Value.str (Str.ofString "mod") 399] }
@[reducible] noncomputable def o28 : Obj := { cls := Value.type "tuple", data := Data.seq #[] }
@[reducible] noncomputable def o30 : Obj := { cls := Value.type "code", data := Data.fields #[Value.str (Str.ofString "Int2AP") 393, Value.str (Str.ofString "Int2AP") 394, Value.str (Str.ofString "/claim/cut.py") 395, Value.int 55 0, Value.int 1 0, Value.int 0 0, Value.int 0 0, Value.int 3 0, Value.ref 25, Value.bool true, Value.int 181 0, Value.ref 26, Value.none, Value.ref 27, Value.ref 28, Value.ref 29, Value.int 400 0, Value.int 55 0, Value.str (Str.ofString "/claim/cut.py") 401] }
@[reducible] noncomputable def O31 : (x : Obj) ×' (mkF (topAt 53) (Str.ofString "Int2AP") (Str.ofString "cpy313.imaplib") 391 30 = x) := ⟨_, by conv => lhs; whnf⟩
@[reducible] noncomputable def o39 : Obj := { cls := Value.type "tuple", data := Data.seq #[] }
@[reducible] noncomputable def o41 : Obj := { cls := Value.type "tuple", data := Data.seq #[Value.str (Str.ofString "self") 420, Value.str (Str.ofString "fp") 421] }
@[reducible] noncomputable def o42 : Obj := { cls := Value.type "tuple", data := Data.seq #[] }
@[reducible] noncomputable def o44 : Obj := { cls := Value.type "code", data := Data.fields #[Value.str (Str.ofString "__init__") 417, Value.str (Str.ofString "_netrclex.__init__") 418, Value.str (Str.ofString "/claim/cut.py") 419, Value.int 66 0, Value.int 2 0, Value.int 0 0, Value.int 0 0, Value.int 3 0, Value.ref 39, Value.bool true, Value.int 181 0, Value.ref 40, Value.none, Value.ref 41, Value.ref 42, Value.ref 43, Value.int 422 0, Value.int 66 0, Value.str (Str.ofString "/claim/cut.py") 423] }
@[reducible] noncomputable def O45 : (x : Obj) ×' (mkF (inCls (topAt 55) 0) (Str.ofString "_netrclex.__init__") (Str.ofString "cpy313.netrc") 403 44 = x) := ⟨_, by conv => lhs; whnf⟩
@[reducible] noncomputable def o46 : Obj := { cls := Value.type "tuple", data := Data.seq #[] }
@[reducible] noncomputable def o48 : Obj := { cls := Value.type "tuple", data := Data.seq #[Value.str (Str.ofString "self") 428, Value.str (Str.ofString "ch") 429] }
@[reducible] noncomputable def o49 : Obj := { cls := Value.type "tuple", data := Data.seq #[] }
@[reducible] noncomputable def o51 : Obj := { cls := Value.type "code", data := Data.fields #[Value.str (Str.ofString "_read_char") 425, Value.str (Str.ofString "_netrclex._read_char") 426, Value.str (Str.ofString "/claim/cut.py") 427, Value.int 72 0, Value.int 1 0, Value.int 0 0, Value.int 0 0, Value.int 3 0, Value.ref 46, Value.bool true, Value.int 181 0, Value.ref 47, Value.none, Value.ref 48, Value.ref 49, Value.ref 50, Value.int 430 0, Value.int 72 0, Value.str (Str.ofString "/claim/cut.py") 431] }
@[reducible] noncomputable def O52 : (x : Obj) ×' (mkF (inCls (topAt 55) 1) (Str.ofString "_netrclex._read_char") (Str.ofString "cpy313.netrc") 403 51 = x) := ⟨_, by conv => lhs; whnf⟩
@[reducible] noncomputable def o53 : Obj := { cls := Value.type "tuple", data := Data.seq #[] }
@[reducible] noncomputable def o55 : Obj := { cls := Value.type "tuple", data := Data.seq #[Value.str (Str.ofString "self") 436, Value.str (Str.ofString "token") 437, Value.str (Str.ofString "fiter") 438, Value.str (Str.ofString "ch") 439] }
@[reducible] noncomputable def o56 : Obj := { cls := Value.type "tuple", data := Data.seq #[] }
@[reducible] noncomputable def o58 : Obj := { cls := Value.type "code", data := Data.fields #[Value.str (Str.ofString "get_token") 433, Value.str (Str.ofString "_netrclex.get_token") 434, Value.str (Str.ofString "/claim/cut.py") 435, Value.int 78 0, Value.int 1 0, Value.int 0 0, Value.int 0 0, Value.int 3 0, Value.ref 53, Value.bool true, Value.int 181 0, Value.ref 54, Value.none, Value.ref 55, Value.ref 56, Value.ref 57, Value.int 440 0, Value.int 78 0, Value.str (Str.ofString "/claim/cut.py") 441] }
@[reducible] noncomputable def O59 : (x : Obj) ×' (mkF (inCls (topAt 55) 2) (Str.ofString "_netrclex.get_token") (Str.ofString "cpy313.netrc") 403 58 = x) := ⟨_, by conv => lhs; whnf⟩
@[reducible] noncomputable def o60 : Obj := { cls := Value.type "tuple", data := Data.seq #[] }
@[reducible] noncomputable def o62 : Obj := { cls := Value.type "tuple", data := Data.seq #[Value.str (Str.ofString "self") 446, Value.str (Str.ofString "token") 447] }
@[reducible] noncomputable def o63 : Obj := { cls := Value.type "tuple", data := Data.seq #[] }
@[reducible] noncomputable def o65 : Obj := { cls := Value.type "code", data := Data.fields #[Value.str (Str.ofString "push_token") 443, Value.str (Str.ofString "_netrclex.push_token") 444, Value.str (Str.ofString "/claim/cut.py") 445, Value.int 105 0, Value.int 2 0, Value.int 0 0, Value.int 0 0, Value.int 3 0, Value.ref 60, Value.bool true, Value.int 181 0, Value.ref 61, Value.none, Value.ref 62, Value.ref 63, Value.ref 64, Value.int 448 0, Value.int 105 0, Value.str (Str.ofString "/claim/cut.py") 449] }
@[reducible] noncomputable def O66 : (x : Obj) ×' (mkF (inCls (topAt 55) 3) (Str.ofString "_netrclex.push_token") (Str.ofString "cpy313.netrc") 403 65 = x) := ⟨_, by conv => lhs; whnf⟩
@[reducible] noncomputable def o67 : Obj := { cls := Value.type "tuple", data := Data.seq #[Value.str (Str.ofString "instream") 451, Value.str (Str.ofString "lineno") 452, Value.str (Str.ofString "pushback") 453, Value.str (Str.ofString "whitespace") 454] }
@[reducible] noncomputable def o68 (P : Params) : Obj := { cls := Value.type "dict", data := Data.dict #[{ hash := PyData.keyHash P (Str.ofString "__module__"), key := Value.str (Str.ofString "__module__") 412, val := Value.str (Str.ofString "cpy313.netrc") 403 }, { hash := PyData.keyHash P (Str.ofString "__firstlineno__"), key := Value.str (Str.ofString "__firstlineno__") 416, val := Value.int 64 415 }, { hash := PyData.keyHash P (Str.ofString "__init__"), key := Value.str (Str.ofString "__init__") 424, val := Value.ref 45 }, { hash := PyData.keyHash P (Str.ofString "_read_char"), key := Value.str (Str.ofString "_read_char") 432, val := Value.ref 52 }, { hash := PyData.keyHash P (Str.ofString "get_token"), key := Value.str (Str.ofString "get_token") 442, val := Value.ref 59 }, { hash := PyData.keyHash P (Str.ofString "push_token"), key := Value.str (Str.ofString "push_token") 450, val := Value.ref 66 }, { hash := PyData.keyHash P (Str.ofString "__static_attributes__"), key := Value.str (Str.ofString "__static_attributes__") 455, val := Value.ref 67 }, { hash := PyData.keyHash P (Str.ofString "__dict__"), key := Value.str (Str.ofString "__dict__") 457, val := Value.ref 70 }, { hash := PyData.keyHash P (Str.ofString "__weakref__"), key := Value.str (Str.ofString "__weakref__") 459, val := Value.ref 71 }, { hash := PyData.keyHash P (Str.ofString "__doc__"), key := Value.str (Str.ofString "__doc__") 460, val := Value.none }] 4 }
@[reducible] noncomputable def o69 : Obj := { cls := Value.type "type", data := Data.cls { name := Str.ofString "_netrclex", bases := [Value.type "object"], mro := [Value.ref 69, Value.type "object"], ns := 68, qualname := Str.ofString "_netrclex" }, slots := #[none, none, some (Value.str (Str.ofString "_netrclex") 405), some (Value.str (Str.ofString "_netrclex") 413), some (Value.builtin "object.__new__"), some (Value.bool true)] }
@[reducible] noncomputable def o70 : Obj := { cls := Value.type "getset_descriptor", data := Data.fields #[Value.str (Str.ofString "__dict__") 456, Value.ref 69, Value.builtin "function.__dict__", Value.builtin "function.__dict__#set"] }
@[reducible] noncomputable def o71 : Obj := { cls := Value.type "getset_descriptor", data := Data.fields #[Value.str (Str.ofString "__weakref__") 458, Value.ref 69, Value.builtin "ExceptionGroup.__weakref__", Value.none] }
@[reducible] noncomputable def o74 : Obj := { cls := Value.type "tuple", data := Data.seq #[] }
@[reducible] noncomputable def o76 : Obj := { cls := Value.type "tuple", data := Data.seq #[Value.str (Str.ofString "text") 468, Value.str (Str.ofString "read") 469, Value.str (Str.ofString "stream") 470] }
@[reducible] noncomputable def o77 : Obj := { cls := Value.type "tuple", data := Data.seq #[Value.str (Str.ofString "text") 471, Value.str (Str.ofString "place") 472] }
@[reducible] noncomputable def o79 : Obj := { cls := Value.type "code", data := Data.fields #[Value.str (Str.ofString "_law_stream") 465, Value.str (Str.ofString "_law_stream") 466, Value.str (Str.ofString "/claim/cut.py") 467, Value.int 108 0, Value.int 1 0, Value.int 0 0, Value.int 0 0, Value.int 3 0, Value.ref 74, Value.bool true, Value.int 181 0, Value.ref 75, Value.none, Value.ref 76, Value.ref 77, Value.ref 78, Value.int 473 0, Value.int 108 0, Value.str (Str.ofString "/claim/cut.py") 474] }
@[reducible] noncomputable def O80 : (x : Obj) ×' (mkF (topAt 57) (Str.ofString "_law_stream") (Str.ofString "law_ta0019_01") 463 79 = x) := ⟨_, by conv => lhs; whnf⟩
@[reducible] noncomputable def o81 : Obj := { cls := Value.type "tuple", data := Data.seq #[] }
@[reducible] noncomputable def o84 : Obj := { cls := Value.type "code", data := Data.fields #[Value.str (Str.ofString "_law_word") 476, Value.str (Str.ofString "_law_word") 477, Value.str (Str.ofString "/claim/cut.py") 478, Value.int 117 0, Value.int 1 0, Value.int 0 0, Value.int 0 0, Value.int 3 0, Value.ref 81, Value.bool true, Value.int 181 0, Value.ref 82, Value.none, Value.none, Value.none, Value.ref 83, Value.int 479 0, Value.int 117 0, Value.str (Str.ofString "/claim/cut.py") 480] }
@[reducible] noncomputable def O85 : (x : Obj) ×' (mkF (topAt 58) (Str.ofString "_law_word") (Str.ofString "law_ta0019_01") 463 84 = x) := ⟨_, by conv => lhs; whnf⟩
@[reducible] noncomputable def o86 : Obj := { cls := Value.type "tuple", data := Data.seq #[] }
@[reducible] noncomputable def o88 : Obj := { cls := Value.type "tuple", data := Data.seq #[Value.str (Str.ofString "word") 485, Value.str (Str.ofString "number") 486, Value.str (Str.ofString "sign") 487] }
@[reducible] noncomputable def o89 : Obj := { cls := Value.type "tuple", data := Data.seq #[] }
@[reducible] noncomputable def o91 : Obj := { cls := Value.type "code", data := Data.fields #[Value.str (Str.ofString "_law_number") 482, Value.str (Str.ofString "_law_number") 483, Value.str (Str.ofString "/claim/cut.py") 484, Value.int 119 0, Value.int 1 0, Value.int 0 0, Value.int 0 0, Value.int 3 0, Value.ref 86, Value.bool true, Value.int 181 0, Value.ref 87, Value.none, Value.ref 88, Value.ref 89, Value.ref 90, Value.int 488 0, Value.int 119 0, Value.str (Str.ofString "/claim/cut.py") 489] }
@[reducible] noncomputable def O92 : (x : Obj) ×' (mkF (topAt 59) (Str.ofString "_law_number") (Str.ofString "law_ta0019_01") 463 91 = x) := ⟨_, by conv => lhs; whnf⟩
@[reducible] noncomputable def o93 : Obj := { cls := Value.type "tuple", data := Data.seq #[] }
@[reducible] noncomputable def o96 : Obj := { cls := Value.type "code", data := Data.fields #[Value.str (Str.ofString "_law_written") 491, Value.str (Str.ofString "_law_written") 492, Value.str (Str.ofString "/claim/cut.py") 493, Value.int 126 0, Value.int 2 0, Value.int 0 0, Value.int 0 0, Value.int 3 0, Value.ref 93, Value.bool true, Value.int 181 0, Value.ref 94, Value.none, Value.none, Value.none, Value.ref 95, Value.int 494 0, Value.int 126 0, Value.str (Str.ofString "/claim/cut.py") 495] }
@[reducible] noncomputable def O97 : (x : Obj) ×' (mkF (topAt 60) (Str.ofString "_law_written") (Str.ofString "law_ta0019_01") 463 96 = x) := ⟨_, by conv => lhs; whnf⟩
@[reducible] noncomputable def o98 : Obj := { cls := Value.type "tuple", data := Data.seq #[] }
@[reducible] noncomputable def o100 : Obj := { cls := Value.type "tuple", data := Data.seq #[] }
@[reducible] noncomputable def o101 : Obj := { cls := Value.type "tuple", data := Data.seq #[] }
@[reducible] noncomputable def o103 : Obj := { cls := Value.type "code", data := Data.fields #[Value.str (Str.ofString "_law_operators") 497, Value.str (Str.ofString "_law_operators") 498, Value.str (Str.ofString "/claim/cut.py") 499, Value.int 134 0, Value.int 0 0, Value.int 0 0, Value.int 0 0, Value.int 3 0, Value.ref 98, Value.bool true, Value.int 181 0, Value.ref 99, Value.none, Value.ref 100, Value.ref 101, Value.ref 102, Value.int 500 0, Value.int 134 0, Value.str (Str.ofString "/claim/cut.py") 501] }
@[reducible] noncomputable def O104 : (x : Obj) ×' (mkF (topAt 61) (Str.ofString "_law_operators") (Str.ofString "law_ta0019_01") 463 103 = x) := ⟨_, by conv => lhs; whnf⟩
@[reducible] noncomputable def o105 : Obj := { cls := Value.type "tuple", data := Data.seq #[] }
@[reducible] noncomputable def o108 : Obj := { cls := Value.type "code", data := Data.fields #[Value.str (Str.ofString "_law_wishes") 503, Value.str (Str.ofString "_law_wishes") 504, Value.str (Str.ofString "/claim/cut.py") 505, Value.int 136 0, Value.int 2 0, Value.int 0 0, Value.int 0 0, Value.int 3 0, Value.ref 105, Value.bool true, Value.int 181 0, Value.ref 106, Value.none, Value.none, Value.none, Value.ref 107, Value.int 506 0, Value.int 136 0, Value.str (Str.ofString "/claim/cut.py") 507] }
@[reducible] noncomputable def O109 : (x : Obj) ×' (mkF (topAt 62) (Str.ofString "_law_wishes") (Str.ofString "law_ta0019_01") 463 108 = x) := ⟨_, by conv => lhs; whnf⟩
@[reducible] noncomputable def o110 : Obj := { cls := Value.type "tuple", data := Data.seq #[] }
@[reducible] noncomputable def o112 : Obj := { cls := Value.type "tuple", data := Data.seq #[Value.str (Str.ofString "lexer") 512, Value.str (Str.ofString "base") 513, Value.str (Str.ofString "count") 514, Value.str (Str.ofString "wishes") 515, Value.str (Str.ofString "k") 516, Value.str (Str.ofString "name") 517, Value.str (Str.ofString "codes") 518, Value.str (Str.ofString "size") 519, Value.str (Str.ofString "kind") 520, Value.str (Str.ofString "node") 521, Value.str (Str.ofString "figure") 522, Value.str (Str.ofString "left") 523] }
@[reducible] noncomputable def o113 : Obj := { cls := Value.type "tuple", data := Data.seq #[] }
@[reducible] noncomputable def o115 : Obj := { cls := Value.type "code", data := Data.fields #[Value.str (Str.ofString "_law_codes") 509, Value.str (Str.ofString "_law_codes") 510, Value.str (Str.ofString "/claim/cut.py") 511, Value.int 146 0, Value.int 3 0, Value.int 0 0, Value.int 0 0, Value.int 3 0, Value.ref 110, Value.bool true, Value.int 181 0, Value.ref 111, Value.none, Value.ref 112, Value.ref 113, Value.ref 114, Value.int 524 0, Value.int 146 0, Value.str (Str.ofString "/claim/cut.py") 525] }
@[reducible] noncomputable def O116 : (x : Obj) ×' (mkF (topAt 63) (Str.ofString "_law_codes") (Str.ofString "law_ta0019_01") 463 115 = x) := ⟨_, by conv => lhs; whnf⟩
@[reducible] noncomputable def o117 : Obj := { cls := Value.type "tuple", data := Data.seq #[] }
@[reducible] noncomputable def o119 : Obj := { cls := Value.type "tuple", data := Data.seq #[Value.str (Str.ofString "value") 530, Value.str (Str.ofString "size") 531, Value.str (Str.ofString "base") 532, Value.str (Str.ofString "node") 533, Value.str (Str.ofString "place") 534] }
@[reducible] noncomputable def o120 : Obj := { cls := Value.type "tuple", data := Data.seq #[] }
@[reducible] noncomputable def o122 : Obj := { cls := Value.type "code", data := Data.fields #[Value.str (Str.ofString "_law_node") 527, Value.str (Str.ofString "_law_node") 528, Value.str (Str.ofString "/claim/cut.py") 529, Value.int 166 0, Value.int 3 0, Value.int 0 0, Value.int 0 0, Value.int 3 0, Value.ref 117, Value.bool true, Value.int 181 0, Value.ref 118, Value.none, Value.ref 119, Value.ref 120, Value.ref 121, Value.int 535 0, Value.int 166 0, Value.str (Str.ofString "/claim/cut.py") 536] }
@[reducible] noncomputable def O123 : (x : Obj) ×' (mkF (topAt 64) (Str.ofString "_law_node") (Str.ofString "law_ta0019_01") 463 122 = x) := ⟨_, by conv => lhs; whnf⟩
@[reducible] noncomputable def o124 : Obj := { cls := Value.type "tuple", data := Data.seq #[] }
@[reducible] noncomputable def o127 : Obj := { cls := Value.type "code", data := Data.fields #[Value.str (Str.ofString "_law_due") 538, Value.str (Str.ofString "_law_due") 539, Value.str (Str.ofString "/claim/cut.py") 540, Value.int 171 0, Value.int 2 0, Value.int 0 0, Value.int 0 0, Value.int 3 0, Value.ref 124, Value.bool true, Value.int 181 0, Value.ref 125, Value.none, Value.none, Value.none, Value.ref 126, Value.int 541 0, Value.int 171 0, Value.str (Str.ofString "/claim/cut.py") 542] }
@[reducible] noncomputable def O128 : (x : Obj) ×' (mkF (topAt 65) (Str.ofString "_law_due") (Str.ofString "law_ta0019_01") 463 127 = x) := ⟨_, by conv => lhs; whnf⟩
@[reducible] noncomputable def o129 : Obj := { cls := Value.type "tuple", data := Data.seq #[] }
@[reducible] noncomputable def o132 : Obj := { cls := Value.type "code", data := Data.fields #[Value.str (Str.ofString "law") 544, Value.str (Str.ofString "law") 545, Value.str (Str.ofString "/claim/cut.py") 546, Value.int 183 0, Value.int 1 0, Value.int 0 0, Value.int 0 0, Value.int 3 0, Value.ref 129, Value.bool true, Value.int 181 0, Value.ref 130, Value.none, Value.none, Value.none, Value.ref 131, Value.int 547 0, Value.int 183 0, Value.str (Str.ofString "/claim/cut.py") 548] }
@[reducible] noncomputable def O133 : (x : Obj) ×' (mkF (topAt 66) (Str.ofString "law") (Str.ofString "law_ta0019_01") 463 132 = x) := ⟨_, by conv => lhs; whnf⟩
noncomputable def heapK (P : Params) : Frag := (nat_lit 2, o2) :: (nat_lit 3, o3 P) :: (nat_lit 6, o6) :: (nat_lit 15, o15 P) :: (nat_lit 18, o18) :: (nat_lit 20, o20) :: (nat_lit 21, o21) :: (nat_lit 23, o23) :: (nat_lit 24, O24.1) :: (nat_lit 25, o25) :: (nat_lit 27, o27) :: (nat_lit 28, o28) :: (nat_lit 30, o30) :: (nat_lit 31, O31.1) :: (nat_lit 39, o39) :: (nat_lit 41, o41) :: (nat_lit 42, o42) :: (nat_lit 44, o44) :: (nat_lit 45, O45.1) :: (nat_lit 46, o46) :: (nat_lit 48, o48) :: (nat_lit 49, o49) :: (nat_lit 51, o51) :: (nat_lit 52, O52.1) :: (nat_lit 53, o53) :: (nat_lit 55, o55) :: (nat_lit 56, o56) :: (nat_lit 58, o58) :: (nat_lit 59, O59.1) :: (nat_lit 60, o60) :: (nat_lit 62, o62) :: (nat_lit 63, o63) :: (nat_lit 65, o65) :: (nat_lit 66, O66.1) :: (nat_lit 67, o67) :: (nat_lit 68, o68 P) :: (nat_lit 69, o69) :: (nat_lit 70, o70) :: (nat_lit 71, o71) :: (nat_lit 74, o74) :: (nat_lit 76, o76) :: (nat_lit 77, o77) :: (nat_lit 79, o79) :: (nat_lit 80, O80.1) :: (nat_lit 81, o81) :: (nat_lit 84, o84) :: (nat_lit 85, O85.1) :: (nat_lit 86, o86) :: (nat_lit 88, o88) :: (nat_lit 89, o89) :: (nat_lit 91, o91) :: (nat_lit 92, O92.1) :: (nat_lit 93, o93) :: (nat_lit 96, o96) :: (nat_lit 97, O97.1) :: (nat_lit 98, o98) :: (nat_lit 100, o100) :: (nat_lit 101, o101) :: (nat_lit 103, o103) :: (nat_lit 104, O104.1) :: (nat_lit 105, o105) :: (nat_lit 108, o108) :: (nat_lit 109, O109.1) :: (nat_lit 110, o110) :: (nat_lit 112, o112) :: (nat_lit 113, o113) :: (nat_lit 115, o115) :: (nat_lit 116, O116.1) :: (nat_lit 117, o117) :: (nat_lit 119, o119) :: (nat_lit 120, o120) :: (nat_lit 122, o122) :: (nat_lit 123, O123.1) :: (nat_lit 124, o124) :: (nat_lit 127, o127) :: (nat_lit 128, O128.1) :: (nat_lit 129, o129) :: (nat_lit 132, o132) :: (nat_lit 133, O133.1) :: []
noncomputable def heapAs : List Addr := [2, 3, 6, 15, 18, 20, 21, 23, 24, 25, 27, 28, 30, 31, 39, 41, 42, 44, 45, 46, 48, 49, 51, 52, 53, 55, 56, 58, 59, 60, 62, 63, 65, 66, 67, 68, 69, 70, 71, 74, 76, 77, 79, 80, 81, 84, 85, 86, 88, 89, 91, 92, 93, 96, 97, 98, 100, 101, 103, 104, 105, 108, 109, 110, 112, 113, 115, 116, 117, 119, 120, 122, 123, 124, 127, 128, 129, 132, 133]
noncomputable def looseN : List Str := [Str.ofString "ENDMARKER", Str.ofString "LPAR", Str.ofString "RPAR", Str.ofString "LSQB", Str.ofString "RSQB", Str.ofString "COLON", Str.ofString "COMMA", Str.ofString "SEMI", Str.ofString "PLUS", Str.ofString "MINUS", Str.ofString "STAR", Str.ofString "SLASH", Str.ofString "VBAR", Str.ofString "AMPER", Str.ofString "LESS", Str.ofString "GREATER", Str.ofString "EQUAL", Str.ofString "DOT", Str.ofString "PERCENT", Str.ofString "LBRACE", Str.ofString "RBRACE", Str.ofString "EQEQUAL", Str.ofString "NOTEQUAL", Str.ofString "LESSEQUAL", Str.ofString "GREATEREQUAL", Str.ofString "TILDE", Str.ofString "CIRCUMFLEX", Str.ofString "LEFTSHIFT", Str.ofString "RIGHTSHIFT", Str.ofString "DOUBLESTAR", Str.ofString "PLUSEQUAL", Str.ofString "MINEQUAL", Str.ofString "STAREQUAL", Str.ofString "SLASHEQUAL", Str.ofString "PERCENTEQUAL", Str.ofString "AMPEREQUAL", Str.ofString "VBAREQUAL", Str.ofString "CIRCUMFLEXEQUAL", Str.ofString "LEFTSHIFTEQUAL", Str.ofString "RIGHTSHIFTEQUAL", Str.ofString "DOUBLESTAREQUAL", Str.ofString "DOUBLESLASH", Str.ofString "DOUBLESLASHEQUAL", Str.ofString "AT", Str.ofString "ATEQUAL", Str.ofString "RARROW", Str.ofString "ELLIPSIS", Str.ofString "COLONEQUAL", Str.ofString "EXCLAMATION", Str.ofString "EXACT_TOKEN_TYPES", Str.ofString "ISEOF", Str.ofString "Int2AP", Str.ofString "_netrclex", Str.ofString "_law_stream", Str.ofString "_law_word", Str.ofString "_law_number", Str.ofString "_law_written", Str.ofString "_law_operators", Str.ofString "_law_wishes", Str.ofString "_law_codes", Str.ofString "_law_node", Str.ofString "_law_due"]
noncomputable def viewQ : Program := view pwP [66]
end
section
open PySem PySem.W PySem.Spec PySem.Calls PyProof.Rows
theorem heapK_as : ∀ P, heapAs = (heapK P).map (·.1) := fun _ => by kernel_rfl
noncomputable abbrev HK : Hook := kmHook heapK heapAs heapK_as [75]
noncomputable abbrev XtQ : Shared → Bool := fun s => xlAt viewQ [] s && recOk PySem.Challenge.rw_ta0019_01.row.records s
noncomputable abbrev seenQ (s : Shared) := (openSeen viewQ looseN (importedModules PySem.Challenge.rw_ta0019_01.row.prog.main.body) XtQ true s, HK.obs s)
theorem half_no : ∀ w : World, ((fencedOpening treeTable PySem.Challenge.rw_ta0019_01.row.prog w 4394).bind (topFrom treeTable PySem.Challenge.rw_ta0019_01.row.prog (w.withFollow "special-get-raises" false) 4394)).map seenQ = some (openGood viewQ looseN, HK.val (w.withFollow "special-get-raises" false)) := fun w => by kernel_rfl
theorem half_yes : ∀ w : World, ((fencedOpening treeTable PySem.Challenge.rw_ta0019_01.row.prog w 4394).bind (topFrom treeTable PySem.Challenge.rw_ta0019_01.row.prog (w.withFollow "special-get-raises" true) 4394)).map seenQ = some (openGood viewQ looseN, HK.val (w.withFollow "special-get-raises" true)) := fun w => by kernel_rfl
theorem left_all : LeftO PySem.Challenge.rw_ta0019_01.row.prog viewQ looseN XtQ HK.obs HK.val 4394 := fun w => by
  have e := World.withFollow_self w "special-get-raises"
  cases hb : w.params.followText "special-get-raises" <;> rw [hb] at e
  · have h := half_no w
    rw [e] at h
    exact h
  · have h := half_yes w
    rw [e] at h
    exact h
end
section
open PySem PySem.W PySem.Spec PySem.Calls PyProof.Rows
theorem fresh_LBase : True := by w_top off; k_with_none; trivial
abbrev Led := List (Addr × Obj)
abbrev VAddr := Addr


/-- the names that the head leaves loose -/
noncomputable abbrev LOO : List Str := looseW viewQ looseN ++ List.map (fun x => x.name) (recsOf viewQ) ++ List.map (fun x => x.fst) (litsOf viewQ) ++ List.map (fun x => x.name) (clssOf viewQ (looseW viewQ looseN))

/-- what a call of a def of the text gives, from whatever frame it is called -/
noncomputable def Gives (w : World) (mean : ExcName → Option Value) (mg mb : Str → Option Value) (need : Nat) (f : Addr) (vs : List Value) (news : Led) (post : Value → Led → Heap → Prop) : Prop :=
  ∀ (dp un : Nat) (gd : Option (List Code)) (cn : Str) (cs : Scope) (a : Addr) (ccd : Value) (cl : List (Str × Addr)) (outer : List Env) (A₀ : Around) (base h₀ : Heap) (L : Addr) (m : Str → Option Value) (s : Shared) (Q E : Value → Shared → Prop),
    Below A₀ base outer h₀ → Fr h₀ L s.heap m → (heapK w.params).In h₀ → News h₀ L s.heap news → Top topProg LOO mean mg mb h₀ → cs.kind = .function → dp + need < recursionLimit → un + 8 * need < cLine →
    (∀ r news' h' tk', Fr h₀ L h' m → News h₀ L h' news' → post r news' h' → Q r { s with heap := h', toks := tk' }) →
    wpAny (model PySem.Challenge.rw_ta0019_01.row.prog w) (ktrTop dp un gd cn cs L a ccd cl outer) (call (.ref f) vs) Q E s
theorem Gives.use {w : World} {mean : ExcName → Option Value} {mg mb : Str → Option Value} {need : Nat} {f : Addr} {vs : List Value} {news : Led} {post : Value → Led → Heap → Prop} {dp un : Nat} {gd : Option (List Code)} {cn : Str} {cs : Scope} {a : Addr} {ccd : Value} {cl : List (Str × Addr)} {outer : List Env} {A₀ : Around} {base h₀ : Heap} {L : Addr} {m : Str → Option Value} {s : Shared} {Q E : Value → Shared → Prop}
    (G : Gives w mean mg mb need f vs news post)
    (B : Below A₀ base outer h₀) (F : Fr h₀ L s.heap m) (X : (heapK w.params).In h₀) (N : News h₀ L s.heap news) (T : Top topProg LOO mean mg mb h₀) (hk : cs.kind = .function) (hd' : dp + need < recursionLimit) (hu : un + 8 * need < cLine)
    (ret : ∀ r news' h' tk', Fr h₀ L h' m → News h₀ L h' news' → post r news' h' → Q r { s with heap := h', toks := tk' }) :
    wpAny (model PySem.Challenge.rw_ta0019_01.row.prog w) (ktrTop dp un gd cn cs L a ccd cl outer) (call (.ref f) vs) Q E s :=
  G _ _ _ _ _ _ _ _ _ _ _ _ _ _ _ _ _ B F X N T hk hd' hu ret
theorem fill : (fun (_ : OpenLaw) (_ : Params → Frag) => True) PySem.Challenge.rw_ta0019_01 heapK := by k_fill; trivial
end
section
open PySem PySem.W PySem.Spec PySem.Calls PyProof.Rows PyProof.Rows.LCg
section
variable {prog : Program} {w : World} {A : Around} {E : Value → Shared → Prop} {s : Shared} {h₀ : Heap} {L : Addr} {m : Str → Option Value} {env : Env}

abbrev testsOf (ifs : List Expr) (env : Env) : Sem Bool := forIn ifs true fun c r => if r = true then do let ok ← isTrue c env (eval c env); pure (ForInStep.yield ok) else pure (ForInStep.yield r)

/-- one turn of a list comprehension over any target -/
theorem compLoop_all {elt target iter : Expr} {ifs : List Expr} {scope : Scope} {pos : Pos} {it acc : Value} {env : Env} {R : Result → Shared → Prop} (I : Nat → Shared → Prop)
    (turn : ∀ n s, I n s → wpAny (model prog w) A (pyNext it) (fun r s₁ => match r with
      | none => R (.ok .next) s₁
      | some v => wpAny (model prog w) A (letOwnedTupleGo target it v) (fun _ s₁' => wpAny (model prog w) A (assign target env v) (fun _ s₂ =>
          wpAny (model prog w) A (testsOf ifs env) (fun ok s₃ =>
            if ok = true then wpAny (model prog w) A (eval elt env) (fun x s₄ =>
              wpAny (model prog w) A (call (.builtin "list.append") [acc, x]) (fun _ s₅ => ∃ m, m < n ∧ I m s₅) (notedBy (model prog w) A env fun e s' => R (.error e) s') s₄) (notedBy (model prog w) A env fun e s' => R (.error e) s') s₃
            else ∃ m, m < n ∧ I m s₃) (notedBy (model prog w) A env fun e s' => R (.error e) s') s₂) (notedBy (model prog w) A env fun e s' => R (.error e) s') s₁') (notedBy (model prog w) A env fun e s' => R (.error e) s') s₁) (notedBy (model prog w) A env fun e s' => R (.error e) s') s)
    (n : Nat) (h : I n s) :
    codeAny (model prog w) A (.compLoop (.ListComp elt [⟨target, iter, ifs, 0⟩] scope pos) 0 it acc env) R s := by
  refine codeAny_loop rfl I (fun n s hI => ?_) n h
  show wpAny _ A ((compTurn (.ListComp elt [⟨target, iter, ifs, 0⟩] scope pos) 0 it acc env).onRaise (fun x => do noteFrame x env; theTreesLotGoes x)) _ _ s
  refine wpAny_noted ?_
  rw [compTurn_list]
  refine wpAny_bind (wpAny_standAt (wpAny_bind (wpAny_mono (turn n s hI) (fun r s₁ h₁ => ?_) fun _ _ h' => h')))
  cases r with
  | none => exact wpAny_pure h₁
  | some v =>
    refine wpAny_bind (wpAny_mono h₁ (fun _ s₁' h₁' => ?_) fun _ _ h' => h')
    refine wpAny_bind (wpAny_mono h₁' (fun _ s₂ h₂ => wpAny_bind (wpAny_mono h₂ (fun ok s₃ h₃ => ?_) fun _ _ h' => h')) fun _ _ h' => h')
    cases ok with
    | false => exact wpAny_pure ⟨rfl, h₃⟩
    | true =>
      exact wpAny_bind (wpAny_bind (wpAny_mono h₃ (fun x s₄ h₄ => wpAny_bind (wpAny_mono h₄ (fun _ s₅ h₅ => wpAny_pure (wpAny_pure ⟨rfl, h₅⟩)) fun _ _ h' => h')) fun _ _ h' => h'))

/-- the state between two turns of a block: its iterator, its frame, its list -/
noncomputable def CEnd (h₀ : Heap) (L : Addr) (m : Str → Option Value) (s₁ : Shared) (I : Addr) (oI : Obj) (C D : Addr) (oD : Obj) (J : List (Addr × Obj) → Prop) (s₂ : Shared) : Prop :=
  Sm5 fun h' tk oC m' news' => Al6 (s₂ = { s₁ with heap := h', toks := tk }) (Fr h₀ L h' m) (NsObj oC m') (News h₀ L h' ((I, oI) :: (C, oC) :: (D, oD) :: news')) (Off3 I C D news') (J news')

/-- what a target binds of a value -/
noncomputable def Binds (prog : Program) (w : World) (A : Around) (h₀ : Heap) (L : Addr) (env : Env) (scope : Scope) (cl : List (Str × Addr)) (target : Expr) (v : Value) (news : List (Addr × Obj)) (locs : List (Str × Value)) : Prop :=
  ∀ (C : Addr) (s₁ : Shared) (m₁ : Str → Option Value) (Q : Unit → Shared → Prop) (E : Value → Shared → Prop), News h₀ L s₁.heap news → (∀ p ∈ news, p.1 ≠ C) → s₁.heap.Ns C m₁ →
    (∀ h' tk m', h'.Ns C m' → Heap.ExtBut C s₁.heap h' → (∀ p ∈ locs, m' p.1 = some p.2) → Q () { s₁ with heap := h', toks := tk }) →
    wpAny (model prog w) A (assign target (compEnvC scope cl C env) v) Q E s₁

theorem fr_extBut {h h' : Heap} {C : Addr} (F : Fr h₀ L h m) (hs : Heap.ExtBut C h h') (hCL : C ≠ L) (hC₀ : h₀.get? C = none) : Fr h₀ L h' m := ⟨F.ns.extBut hs (Ne.symm hCL), fun b o e => hs b o (fun q => by rw [q, hC₀] at e; cases e) (F.keep b o e), F.above⟩
structure Src (prog : Program) (w : World) (A : Around) (h₀ : Heap) (L : Addr) (m : Str → Option Value) (env : Env) (target : Expr) (scope : Scope) (cl : List (Str × Addr)) (I : Addr) (fp : List Addr) (n : Nat) (P : Nat → Value → Prop) (St : Nat → Heap → Prop) (news : List (Addr × Obj)) (J : Nat → List Value → List (Addr × Obj) → Prop) (s₂ : Shared) : Prop where
  W : Walks prog w A I fp [I] n P St
  hsz : n ≤ sizeLine
  hIo : ∀ i h, St i h → ∃ o, h.get? I = some o
  hLet : ∀ i s v Q E, St i s.heap → Q () s → wpAny (model prog w) A (letOwnedTupleGo target (.ref I) v) Q E s
  hSt : ∀ i j ys h h' o nw, St i h → h.get? I = some o → h'.get? I = some o → (∀ b o, h₀.get? b = some o → h'.get? b = some o) → News h₀ L h' nw → J j ys nw → St i h'
  hst : St 0 s₂.heap
  hfp : ∀ b ∈ fp, b < s₂.heap.objs.size
  F : Fr h₀ L s₂.heap m
  N : News h₀ L s₂.heap news
  hIL : L ≠ I
  hI₀ : h₀.get? I = none
  off : ∀ p ∈ news, p.1 ≠ I
  hJ : J 0 [] news

theorem block_G {elt target iter : Expr} {ifs : List Expr} {scope : Scope} {cl : List (Str × Addr)} {pos : Pos} {s₂ : Shared} {I : Addr} {fp : List Addr} {n : Nat} {P : Nat → Value → Prop} {St : Nat → Heap → Prop} {news : List (Addr × Obj)}
    {J : Nat → List Value → List (Addr × Obj) → Prop} {RR : Value → Addr → Result → Shared → Prop}
    (X : Src prog w A h₀ L m env target scope cl I fp n P St news J s₂) (hcell : ∀ y ∈ scope.names, y.2 ≠ .cell) (hkind : scope.kind = .function)
    (turn : ∀ i v ys nw, i < n → P i v → J i ys nw → ∃ locs, Binds prog w A h₀ L env scope cl target v nw locs ∧ ∀ oI C oC D m₂ h tk E', NsObj oC m₂ → (∀ p ∈ locs, m₂ p.1 = some p.2) → Fr h₀ L h m →
      News h₀ L h ((I, oI) :: (C, oC) :: (D, lst ys) :: nw) → Off3 I C D nw → ((@Ne Nat I C) ∧ (@Ne Nat I D) ∧ (@Ne Nat C D)) → wpAny (model prog w) A (testsOf ifs (compEnvC scope cl C env)) (fun ok s' => if ok = true then
        wpAny (model prog w) A (eval elt (compEnvC scope cl C env)) (fun y => CEnd h₀ L m { s₂ with heap := h, toks := tk } I oI C D (lst ys) (J (i + 1) (ys ++ [y]))) E' s'
        else CEnd h₀ L m { s₂ with heap := h, toks := tk } I oI C D (lst ys) (J (i + 1) ys) s') E' { s₂ with heap := h, toks := tk })
    (hRR : ∀ D C h tk m' ys news', Fr h₀ L h m → News h₀ L h ((D, lst ys) :: news') → Off1 D news' → h.Ns C m' → h₀.get? C = none → h₀.get? D = none → C ≠ L → D ≠ L → C ≠ D → (∀ p ∈ news', p.1 ≠ C) → J n ys news' → RR (.ref D) C (.ok .next) { s₂ with heap := h, toks := tk }) :
    wpAny (model prog w) A (newList []) (fun acc s₃ => wpAny (model prog w) A (newFunctionEnv scope env.globals cl [] env.qual none .none (some env)) (fun cenv s₄ =>
      codeAny (model prog w) A (.compStart (.ListComp elt [⟨target, iter, ifs, 0⟩] scope pos) 0 (.ref I) acc { cenv with scope := relabel scope env }) (RR acc cenv.locals) s₄) E s₃) E s₂ := by
  obtain ⟨W, hsz, hIo, hLet, hSt, hst, hfp, F, N, hIL, hI₀, off, hJ⟩ := X
  refine wpAny_newObj_type (wpAny_newFunctionEnv hcell (by intro y hy; simp at hy) (fun h₁ hns₁ hsb₁ => ?_) hkind)
  dsimp only at hns₁ hsb₁ ⊢
  generalize hH2 : s₂.heap.push { cls := .type "list", dict := none, data := .seq ([] : List Value).toArray } = H2 at hns₁ hsb₁ ⊢
  have hC : H2.objs.size = s₂.heap.objs.size + 1 := by rw [← hH2, Heap.size_push]
  have hDC : s₂.heap.objs.size ≠ H2.objs.size := by rw [hC]; exact Nat.ne_of_lt (Nat.lt_succ_self _)
  have below : ∀ b, b < s₂.heap.objs.size → b ≠ H2.objs.size ∧ b ≠ s₂.heap.objs.size := fun b hb => ⟨by rw [hC]; exact Nat.ne_of_lt (Nat.lt_succ_of_lt hb), Nat.ne_of_lt hb⟩
  have hDf : s₂.heap.objs.size ∉ fp := fun hm => Nat.lt_irrefl _ (hfp _ hm)
  have hCf : H2.objs.size ∉ fp := fun hm => by have := hfp _ hm; rw [hC] at this; exact Nat.lt_irrefl _ (Nat.lt_of_succ_lt this)
  have hIf : I ∈ fp := W.sub I (List.mem_singleton.mpr rfl)
  have hIlt : I < s₂.heap.objs.size := hfp I hIf
  have old : ∀ b o, s₂.heap.get? b = some o → h₁.get? b = some o := fun b o e => hsb₁.extBut b o (below b (Heap.lt_size e)).1 (Heap.get?_push_of_some _ (hH2 ▸ Heap.get?_push_of_some _ e))
  have hacc : h₁.get? s₂.heap.objs.size = some (lst []) := hsb₁.extBut _ _ hDC (Heap.get?_push_of_some _ (hH2 ▸ Heap.get?_push_size _ rfl))
  have hst₁ : St 0 h₁ := W.frame _ _ _ hst fun b _ o e => old b o e
  have fresh₀ : ∀ a, s₂.heap.objs.size ≤ a → h₀.get? a = none := fun a ha => by
    cases e : h₀.get? a with
    | none => rfl
    | some o' => exact absurd (Heap.lt_size (F.keep a o' e)) (Nat.not_lt.mpr ha)
  have hD₀ : h₀.get? s₂.heap.objs.size = none := fresh₀ _ (Nat.le_refl _)
  have hC₀ : h₀.get? H2.objs.size = none := fresh₀ _ (by rw [hC]; exact Nat.le_succ _)
  have hLlt : L < s₂.heap.objs.size := F.ns.lt
  have hDL : s₂.heap.objs.size ≠ L := Ne.symm (below L hLlt).2
  have hCL : H2.objs.size ≠ L := Ne.symm (below L hLlt).1
  have hCI : I ≠ H2.objs.size := (below I hIlt).1
  have hDI : I ≠ s₂.heap.objs.size := (below I hIlt).2
  have off₀ : Off3 I H2.objs.size s₂.heap.objs.size news := Off3.of fun p hp => ⟨off p hp, (below _ (Heap.lt_size (N p hp).1)).1, (below _ (Heap.lt_size (N p hp).1)).2⟩
  have loop : ∀ s₃ : Shared, s₃ = { s₂ with heap := h₁, toks := s₂.toks + ([] : List (Str × Value)).length } →
      codeAny (model prog w) A (.compLoop (.ListComp elt [⟨target, iter, ifs, 0⟩] scope pos) 0 (.ref I) (.ref s₂.heap.objs.size) (compEnvC scope cl H2.objs.size env))
        (RR (.ref s₂.heap.objs.size) H2.objs.size) s₃ := by
    rintro s₃ rfl
    refine compLoop_all
      (fun k s' => Sm6 fun h' tk i ys m' news' => Al10 (s' = { s₂ with heap := h', toks := tk }) (i ≤ n) (k = n + 1 - i) (ys.length ≤ i) (St i h') (Fr h₀ L h' m) (h'.Ns H2.objs.size m') (News h₀ L h' ((s₂.heap.objs.size, lst ys) :: news')) (Off3 I H2.objs.size s₂.heap.objs.size news') (J i ys news')) ?_ (n + 1)
      ⟨h₁, _, 0, [], _, news, rfl, Nat.zero_le _, rfl, Nat.le_refl _, hst₁, F.keeps old, hns₁, fun p hp => ?_, off₀, hJ⟩
    · rintro k s' ⟨h', tk, i, ys, m', news', rfl, hi, rfl, hyl, hst', F', hn', N', off', hJ'⟩
      by_cases hlt : i < n
      · refine W.item i _ _ _ hlt hst' fun v h₂ tk₂ hPv hst₂ hk₂ => ?_
        refine hLet _ _ _ _ _ hst₂ ?_
        obtain ⟨locs, hB, hT⟩ := turn i v ys news' hlt hPv hJ'
        have off3 := off'.mem
        have N₂ : News h₀ L h₂ ((s₂.heap.objs.size, lst ys) :: news') := news_but N' hk₂ fun p hp => by
          rcases List.mem_cons.mp hp with rfl | hp
          · exact Ne.symm hDI
          · exact (off3 p hp).1
        have hn₂ : h₂.Ns H2.objs.size m' := hn'.at' fun o e => hk₂ _ o (by simpa using Ne.symm hCI) e
        refine hB H2.objs.size _ m' _ _ (fun p hp => N₂ p (List.mem_cons_of_mem _ hp)) (fun p hp => (off3 p hp).2.1) hn₂ fun h₃ tk₃ m₃ hn₃ hs₃ hloc => ?_
        have hst₃ : St (i + 1) h₃ := W.frame _ _ _ hst₂ fun b hb o e => hs₃ b o (fun q => hCf (by have q' : b = H2.objs.size := q; rw [← q']; exact hb)) e
        obtain ⟨oI, heI⟩ := hIo _ _ hst₃
        obtain ⟨oC, heC, hoC⟩ := ns_obj hn₃
        have F₃ : Fr h₀ L h₃ m := fr_extBut (fr_but F' hk₂ hIL hI₀) hs₃ hCL hC₀
        have N₃ : News h₀ L h₃ ((I, oI) :: (H2.objs.size, oC) :: (s₂.heap.objs.size, lst ys) :: news') := fun p hp => by
          rcases List.mem_cons.mp hp with rfl | hp
          · exact ⟨heI, Ne.symm hIL, hI₀⟩
          · rcases List.mem_cons.mp hp with rfl | hp
            · exact ⟨heC, hCL, hC₀⟩
            · have z := N₂ p hp
              refine ⟨hs₃ _ _ ?_ z.1, z.2⟩
              rcases List.mem_cons.mp hp with rfl | hp
              · exact hDC
              · exact (off3 p hp).2.1
        refine wpAny_mono (hT oI H2.objs.size oC s₂.heap.objs.size _ h₃ _ _ hoC hloc F₃ N₃ off' ⟨hCI, hDI, Ne.symm hDC⟩) (fun ok s₄ h₄ => ?_) fun _ _ e => e
        have after : ∀ {J' : List (Addr × Obj) → Prop} {ys' : List Value}, CEnd h₀ L m { s₂ with heap := h₃, toks := tk₃ } I oI H2.objs.size s₂.heap.objs.size (lst ys) J' s₄ → True := fun _ => trivial
        cases ok with
        | true =>
          simp only [if_true] at h₄ ⊢
          refine wpAny_mono h₄ (fun y s₅ h₅ => ?_) fun _ _ e => e
          obtain ⟨h₄, tk₄, oC₄, m₄, news₄, rfl, F₄, hoC₄, N₄, off₄, R₄⟩ := h₅
          have zI := (N₄ (I, oI) List.mem_cons_self).1
          have zC := (N₄ (H2.objs.size, oC₄) (List.mem_cons_of_mem _ List.mem_cons_self)).1
          have zD := (N₄ (s₂.heap.objs.size, lst ys) (List.mem_cons_of_mem _ (List.mem_cons_of_mem _ List.mem_cons_self))).1
          have N₄' : News h₀ L h₄ news₄ := fun p hp => N₄ p (List.mem_cons_of_mem _ (List.mem_cons_of_mem _ (List.mem_cons_of_mem _ hp)))
          have hst₄ : St (i + 1) h₄ := hSt _ _ _ _ _ _ _ hst₃ heI zI F₄.keep N₄' R₄
          refine append_at (hsz := by show ys.toArray.size ≤ sizeLine; rw [List.size_toArray]; exact Nat.le_trans (Nat.le_trans hyl hi) hsz) zD fun h₅ hs₅ hD₅ => ?_
          have off4 := off₄.mem
          refine ⟨n + 1 - (i + 1), by omega, h₅, tk₄, i + 1, ys ++ [y], _, news₄, rfl, hlt, rfl, by rw [List.length_append, List.length_singleton]; exact Nat.succ_le_succ hyl, W.frame _ _ _ hst₄ fun b hb o e => hs₅.extBut b o (fun q => hDf (q ▸ hb)) e, F₄.change hs₅ hDL hD₀,
            (hoC₄.ns zC).sameBut hs₅ (Ne.symm hDC), fun p hp => ?_, off₄, R₄⟩
          rcases List.mem_cons.mp hp with rfl | hp
          · exact ⟨hD₅.trans (congrArg some (lst_snoc ys y)), hDL, hD₀⟩
          · exact ⟨hs₅.extBut _ _ (off4 p hp).2.2 (N₄' p hp).1, (N₄' p hp).2⟩
        | false =>
          simp only [Bool.false_eq_true, if_false] at h₄ ⊢
          obtain ⟨h₅, tk₄, oC₄, m₄, news₄, rfl, F₄, hoC₄, N₄, off₄, R₄⟩ := h₄
          have zI := (N₄ (I, oI) List.mem_cons_self).1
          have zC := (N₄ (H2.objs.size, oC₄) (List.mem_cons_of_mem _ List.mem_cons_self)).1
          have N₄' : News h₀ L h₅ news₄ := fun p hp => N₄ p (List.mem_cons_of_mem _ (List.mem_cons_of_mem _ (List.mem_cons_of_mem _ hp)))
          have hst₄ : St (i + 1) h₅ := hSt _ _ _ _ _ _ _ hst₃ heI zI F₄.keep N₄' R₄
          refine ⟨n + 1 - (i + 1), by omega, h₅, tk₄, i + 1, ys, _, news₄, rfl, hlt, rfl, Nat.le_succ_of_le hyl, hst₄, F₄, hoC₄.ns zC, fun p hp => ?_, off₄, R₄⟩
          rcases List.mem_cons.mp hp with rfl | hp
          · exact N₄ _ (List.mem_cons_of_mem _ (List.mem_cons_of_mem _ List.mem_cons_self))
          · exact N₄' p hp
      · obtain rfl : i = n := Nat.le_antisymm hi (Nat.not_lt.mp hlt)
        refine W.done _ _ _ hst' fun h₂ tk₂ hk₂ => ?_
        have off3 := off'.mem
        exact hRR _ _ h₂ tk₂ _ ys news' (fr_but F' hk₂ hIL hI₀) (news_but N' hk₂ fun p hp => by
          rcases List.mem_cons.mp hp with rfl | hp
          · exact Ne.symm hDI
          · exact (off3 p hp).1) off'.one (hn'.at' fun o e => hk₂ _ o (by simpa using Ne.symm hCI) e) hC₀ hD₀ hCL hDL (Ne.symm hDC) (fun p hp => (off3 p hp).2.1) hJ'
    · rcases List.mem_cons.mp hp with rfl | hp
      · exact ⟨hacc, hDL, hD₀⟩
      · exact ⟨old _ _ (N p hp).1, (N p hp).2⟩
  exact codeAny_compStart_list (loop _ rfl) (W.self 0 _ _ _ hst₁ (loop _ rfl))

/-- what a comprehension asks where its iterator stands -/
inductive CompG (prog : Program) (w : World) (A : Around) (h₀ : Heap) (L : Addr) (m : Str → Option Value) (env : Env) (elt target : Expr) (ifs : List Expr) (scope : Scope) (cl : List (Str × Addr)) (Q : Value → Shared → Prop) (it : Value) (s₂ : Shared) : Prop where
  | mk (I : Addr) (fp : List Addr) (n : Nat) (P : Nat → Value → Prop) (St : Nat → Heap → Prop) (news : List (Addr × Obj)) (J : Nat → List Value → List (Addr × Obj) → Prop) (f0 : it = .ref I) (f1 : Src prog w A h₀ L m env target scope cl I fp n P St news J s₂) (f2 : (∀ i v ys nw, i < n → P i v → J i ys nw → ∃ locs, Binds prog w A h₀ L env scope cl target v nw locs ∧ ∀ oI C oC D m₂ h tk E', NsObj oC m₂ → (∀ p ∈ locs, m₂ p.1 = some p.2) → Fr h₀ L h m →
        News h₀ L h ((I, oI) :: (C, oC) :: (D, lst ys) :: nw) → Off3 I C D nw → ((@Ne Nat I C) ∧ (@Ne Nat I D) ∧ (@Ne Nat C D)) → wpAny (model prog w) A (testsOf ifs (compEnvC scope cl C env)) (fun ok s' => if ok = true then
          wpAny (model prog w) A (eval elt (compEnvC scope cl C env)) (fun y => CEnd h₀ L m { s₂ with heap := h, toks := tk } I oI C D (lst ys) (J (i + 1) (ys ++ [y]))) E' s'
          else CEnd h₀ L m { s₂ with heap := h, toks := tk } I oI C D (lst ys) (J (i + 1) ys) s') E' { s₂ with heap := h, toks := tk })) (f3 : (∀ D h tk ys news', Fr h₀ L h m → News h₀ L h ((D, lst ys) :: news') → Off1 D news' → J n ys news' → Q (.ref D) { s₂ with heap := h, toks := tk })) : CompG prog w A h₀ L m env elt target ifs scope cl Q it s₂
/-- `[elt for target in iter if ..]`, at the point where its iterator is made -/
theorem ListComp_G {elt target iter : Expr} {ifs : List Expr} {scope : Scope} {cl : List (Str × Addr)} {pos : Pos} {Q : Value → Shared → Prop} (_F₀ : Fr h₀ L s.heap m)
    (hclos : closureFor scope env = pure cl) (hcell : ∀ y ∈ scope.names, y.2 ≠ .cell) (hkind : scope.kind = .function)
    (hnames : ∀ y ∈ scope.names, y.2 = .local → scope.names.lookup y.1 = some .local)
    (h : wpAny (model prog w) A (eval iter env) (fun xv s₁ => wpAny (model prog w) A (pyIter xv) (fun it s₂ => CompG prog w A h₀ L m env elt target ifs scope cl Q it s₂) E s₁) E s)
    (hs : ∀ x, foldedSetIterable iter env x = pure x := by intro _; rfl) :
    wpAny (model prog w) A (eval (.ListComp elt [⟨target, iter, ifs, 0⟩] scope pos) env) Q E s := by
  rw [eval_ListComp]
  refine wpAny_comprehension_free (use := none) rfl hs hclos hkind hnames (wpAny_mono h (fun xv s₁ h₁ => wpAny_mono h₁ (fun it s₂ h₂ => ?_) fun _ _ e => e) fun _ _ e => e)
  obtain ⟨I, fp, n, P, St, news, J, rfl, X, turn, fin⟩ := h₂
  refine block_G X hcell hkind turn ?_
  intro D C h tk m' ys news' F' N' o1 hn hC₀ hD₀ hCL hDL hCD offC hJ'
  refine ⟨m', hn, fun h'' hs'' => fin D h'' tk ys news' (F'.change hs'' hCL hC₀) (fun p hp => ?_) o1 hJ'⟩
  refine ⟨hs''.extBut _ _ ?_ (N' p hp).1, (N' p hp).2⟩
  rcases List.mem_cons.mp hp with rfl | hp
  · exact Ne.symm hCD
  · exact offC p hp

theorem Binds.name {scope : Scope} {cl : List (Str × Addr)} {x : Str} {px : Pos} {v : Value} {news : List (Addr × Obj)} (hx : scope.names.lookup x = some .local) (hkind : scope.kind = .function) :
    Binds prog w A h₀ L env scope cl (.Name x px) v news [(x, v)] := by
  intro C s₁ m₁ Q E _ _ hn h
  refine wpAny_assign_Name (wpAny_storeName_local (lookup_relabel_local hx) hn (fun h₃ hn₃ hs₃ => ?_) (by simp [compEnvC, relabel, hkind]))
  exact h h₃ _ _ hn₃ hs₃.extBut (by intro p hp; rw [List.mem_singleton.mp hp]; simp)

theorem Binds.tup3 {scope : Scope} {cl : List (Str × Addr)} {x y z : Str} {px py pz p : Pos} {k} {a : Addr} {u v v' : Value} {n : Nat} {news : List (Addr × Obj)} (hh : A.handled = none) (hm : (a, ({ cls := .type "tuple", data := .seq (List.toArray [u, v, v']) n } : Obj)) ∈ news) (hx : scope.names.lookup x = some .local) (hy : scope.names.lookup y = some .local) (hz : scope.names.lookup z = some .local) (hxy : x ≠ y) (hxz : x ≠ z) (hyz : y ≠ z) (hkind : scope.kind = .function) :
    Binds prog w A h₀ L env scope cl (.Tuple [.Name x px, .Name y py, .Name z pz] k p) (.ref a) news [(x, u), (y, v), (z, v')] := by
  intro C s₁ m₁ Q E N off hn h
  refine assign_Tuple_tuple hh ⟨_, (N _ hm).1, rfl, n, rfl⟩ (by rfl) (by rfl) fun h₂ he => ?_
  have hn₂ : h₂.Ns C m₁ := hn.at' fun o e => he _ _ (Nat.ne_of_lt (Heap.lt_size e)) e
  refine assignInOrder_cons (wpAny_assign_Name (wpAny_storeName_local (lookup_relabel_local hx) hn₂ (fun h₃ hn₃ hs₃ => ?_) (by simp [compEnvC, relabel, hkind])))
  refine assignInOrder_cons (wpAny_assign_Name (wpAny_storeName_local (lookup_relabel_local hy) hn₃ (fun h₄ hn₄ hs₄ => ?_) (by simp [compEnvC, relabel, hkind])))
  refine assignInOrder_cons (wpAny_assign_Name (wpAny_storeName_local (lookup_relabel_local hz) hn₄ (fun h₅ hn₅ hs₅ => ?_) (by simp [compEnvC, relabel, hkind])))
  refine assignInOrder_nil (h h₅ _ _ hn₅ (fun b o hb e => hs₅.extBut b o hb (hs₄.extBut b o hb (hs₃.extBut b o hb (he b o (Nat.ne_of_lt (Heap.lt_size e)) e)))) ?_)
  intro p hp
  simp only [List.mem_cons, List.not_mem_nil, or_false] at hp
  rcases hp with rfl | rfl | rfl
  · simp [hxy, hxz]
  · simp [hyz]
  · simp
theorem Binds.tup2 {scope : Scope} {cl : List (Str × Addr)} {x y : Str} {px py p : Pos} {k} {a : Addr} {u v : Value} {n : Nat} {news : List (Addr × Obj)} (hh : A.handled = none) (hm : (a, ({ cls := .type "tuple", data := .seq (List.toArray [u, v]) n } : Obj)) ∈ news) (hx : scope.names.lookup x = some .local) (hy : scope.names.lookup y = some .local) (hxy : x ≠ y) (hkind : scope.kind = .function) :
    Binds prog w A h₀ L env scope cl (.Tuple [.Name x px, .Name y py] k p) (.ref a) news [(x, u), (y, v)] := by
  intro C s₁ m₁ Q E N off hn h
  refine assign_Tuple_tuple hh ⟨_, (N _ hm).1, rfl, n, rfl⟩ (by rfl) (by rfl) fun h₂ he => ?_
  have hn₂ : h₂.Ns C m₁ := hn.at' fun o e => he _ _ (Nat.ne_of_lt (Heap.lt_size e)) e
  refine assignInOrder_cons (wpAny_assign_Name (wpAny_storeName_local (lookup_relabel_local hx) hn₂ (fun h₃ hn₃ hs₃ => ?_) (by simp [compEnvC, relabel, hkind])))
  refine assignInOrder_cons (wpAny_assign_Name (wpAny_storeName_local (lookup_relabel_local hy) hn₃ (fun h₄ hn₄ hs₄ => ?_) (by simp [compEnvC, relabel, hkind])))
  refine assignInOrder_nil (h h₄ _ _ hn₄ (fun b o hb e => hs₄.extBut b o hb (hs₃.extBut b o hb (he b o (Nat.ne_of_lt (Heap.lt_size e)) e))) ?_)
  intro p hp
  simp only [List.mem_cons, List.not_mem_nil, or_false] at hp
  rcases hp with rfl | rfl
  · simp [hxy]
  · simp

theorem let_name {x : Str} {px : Pos} {it v : Value} {Q : Unit → Shared → Prop} (h : Q () s) : wpAny (model prog w) A (letOwnedTupleGo (.Name x px) it v) Q E s := wpAny_pure h
end
end
section
open PySem PySem.W PySem.Spec PySem.Calls PyProof.Rows PyProof.Rows.LCg
section
variable {prog : Program} {w : World} {A : Around} {E : Value → Shared → Prop} {s : Shared} {h₀ : Heap} {L : Addr} {m : Str → Option Value} {env : Env} {scope : Scope} {cl : List (Str × Addr)} {news : List (Addr × Obj)} {J : Nat → List Value → List (Addr × Obj) → Prop} {R : Value → Shared → Prop}

theorem src_push {target : Expr} {o : Obj} {n : Nat} {P : Nat → Value → Prop} {St : Nat → Heap → Prop} (W : Walks prog w A s.heap.objs.size [s.heap.objs.size] [s.heap.objs.size] n P St) (hsz : n ≤ sizeLine)
    (hIo : ∀ i h, St i h → ∃ o, h.get? s.heap.objs.size = some o) (hLet : ∀ i s₁ v Q E, St i s₁.heap → Q () s₁ → wpAny (model prog w) A (letOwnedTupleGo target (.ref s.heap.objs.size) v) Q E s₁)
    (hSt : ∀ i h h' o, St i h → h.get? s.heap.objs.size = some o → h'.get? s.heap.objs.size = some o → St i h') (hst : St 0 (s.heap.push o)) (F : Fr h₀ L s.heap m) (N : News h₀ L s.heap news) (hJ : J 0 [] news) :
    Src prog w A h₀ L m env target scope cl s.heap.objs.size [s.heap.objs.size] n P St news J { s with heap := s.heap.push o } where
  W := W
  hsz := hsz
  hIo := hIo
  hLet := hLet
  hSt := fun i _ _ h h' o _ a b c _ _ _ => hSt i h h' o a b c
  hst := hst
  hfp := fun b hb => by rw [List.mem_singleton.mp hb]; show _ < (s.heap.push o).objs.size; rw [Heap.size_push]; exact Nat.lt_succ_self _
  F := F.push _
  N := N.grown fun b x e => Heap.get?_push_of_some _ e
  hIL := Nat.ne_of_lt F.ns.lt
  hI₀ := next_is_new F
  off := fun p hp => Nat.ne_of_lt (Heap.lt_size (N p hp).1)
  hJ := hJ

theorem src_bytes {x : Str} {px : Pos} {b : Array UInt8} {t : Tok} (hh : A.handled = none) (hsz : b.size ≤ sizeLine) (F : Fr h₀ L s.heap m) (N : News h₀ L s.heap news) (hJ : J 0 [] news)
    (k : ∀ o, Src prog w A h₀ L m env (.Name x px) scope cl s.heap.objs.size [s.heap.objs.size] b.size (fun i v => ∃ c u, b[i]? = some c ∧ v = .int (c.toNat : Int) u) (fun i h => KBw.IsBytesIter h s.heap.objs.size b t i) news J { s with heap := s.heap.push o } → R (.ref s.heap.objs.size) { s with heap := s.heap.push o }) :
    wpAny (model prog w) A (pyIter (.bytes b t)) R E s := by
  refine KBw.pyIter_bytes (k _ ?_)
  exact src_push (KBw.walks hh _ b t) hsz (fun i h st => by obtain ⟨o, e, _⟩ := st; exact ⟨o, e⟩) (fun i s₁ v Q E _ h => let_name h)
    (fun i h h' o st e e' => by obtain ⟨o', q, r⟩ := st; rw [e] at q; cases q; exact ⟨o, e', r⟩) ⟨_, Heap.get?_push_size _ rfl, rfl, rfl⟩ F N hJ

theorem src_str {x : Str} {px : Pos} {y : Str} {t : Tok} (hh : A.handled = none) (hsz : y.cps.size ≤ sizeLine) (F : Fr h₀ L s.heap m) (N : News h₀ L s.heap news) (hJ : J 0 [] news)
    (k : ∀ o St, Src prog w A h₀ L m env (.Name x px) scope cl s.heap.objs.size [s.heap.objs.size] y.cps.size (SignAt y) St news J { s with heap := s.heap.push o } → R (.ref s.heap.objs.size) { s with heap := s.heap.push o }) :
    wpAny (model prog w) A (pyIter (.str y t)) R E s := by
  cases ha : y.cps.all (· < 128)
  · refine wpAny_pyIter_wide ha (k _ (fun i h => h.IsStrIter s.heap.objs.size "str_iterator" y t i) ?_)
    exact src_push (Walks.strWide hh _ y t) hsz (fun i h st => by obtain ⟨o, e, _⟩ := st; exact ⟨o, e⟩) (fun i s₁ v Q E _ h => let_name h)
      (fun i h h' o st e e' => by obtain ⟨o', q, r⟩ := st; rw [e] at q; cases q; exact ⟨o, e', r⟩) ⟨_, Heap.get?_push_size _ rfl, rfl, rfl⟩ F N hJ
  · refine wpAny_pyIter_ascii ha (k _ (fun i h => h.IsStrIter s.heap.objs.size "str_ascii_iterator" y t i) ?_)
    exact src_push (Walks.strAscii hh _ y t) hsz (fun i h st => by obtain ⟨o, e, _⟩ := st; exact ⟨o, e⟩) (fun i s₁ v Q E _ h => let_name h)
      (fun i h h' o st e e' => by obtain ⟨o', q, r⟩ := st; rw [e] at q; cases q; exact ⟨o, e', r⟩) ⟨_, Heap.get?_push_size _ rfl, rfl, rfl⟩ F N hJ

theorem src_range {x : Str} {px : Pos} {r : Addr} {a b : Int} {t u v : Tok} {n : Nat} (hh : A.handled = none) (F : Fr h₀ L s.heap m) (N : News h₀ L s.heap news) (hJ : J 0 [] news) (hr : IsRange s.heap r a b 1 t u v) (hsm : Builtin.Range.small a b 1 = true) (hn : Builtin.Range.rangeSize a b 1 = ((n : Nat) : Int)) (hsz : n ≤ sizeLine)
    (k : ∀ o, Src prog w A h₀ L m env (.Name x px) scope cl s.heap.objs.size [s.heap.objs.size] n (fun i v => ∃ t, v = .int (a + (i : Int)) t) (fun i h => IsRangeIter h s.heap.objs.size (a + (i : Nat) * 1) ((n : Int) - (i : Nat)) 1) news J { s with heap := s.heap.push o } → R (.ref s.heap.objs.size) { s with heap := s.heap.push o }) :
    wpAny (model prog w) A (pyIter (.ref r)) R E s := by
  refine wpAny_pyIter_range hr hsm (k _ ?_)
  exact src_push (range_walks hh a n) hsz (fun i h st => ⟨_, st⟩) (fun i s₁ v Q E _ h => let_name h)
    (fun i h h' o st e e' => by
      have st' : h.get? s.heap.objs.size = some _ := st
      show h'.get? _ = some _
      rw [e', ← e]; exact st') (by show IsRangeIter _ _ _ _ _; rw [hn]; simpa using Heap.get?_push_size _ rfl) F N hJ

theorem let_list {target : Expr} {it l : Addr} {i : Nat} {v : Value} {Q : Unit → Shared → Prop} (hit : s.heap.IsListIter it l i) (h : Q () s) : wpAny (model prog w) A (letOwnedTupleGo target (.ref it) v) Q E s := by
  obtain ⟨o, ho, hc, hd⟩ := hit
  unfold letOwnedTupleGo
  split
  · split
    · rename_i r a e
      cases e
      refine wpAny_bind (wpAny_load ho ?_)
      rw [hc, hd]
      dsimp only
      rw [if_neg (by simp)]
      exact wpAny_pure h
    · exact wpAny_pure h
  · split
    · rename_i r a e
      cases e
      refine wpAny_bind (wpAny_load ho ?_)
      rw [hc, hd]
      dsimp only
      rw [if_neg (by simp)]
      exact wpAny_pure h
    · exact wpAny_pure h
  · exact wpAny_pure h

theorem src_list {target : Expr} {l : Addr} {vs : List Value} (hh : A.handled = none) (hsz : vs.length ≤ sizeLine) (F : Fr h₀ L s.heap m) (N : News h₀ L s.heap news) (hJ : J 0 [] news) (hJl : ∀ i ys nw, J i ys nw → SrcAt h₀ l vs.toArray nw)
    (k : ∀ o St, Src prog w A h₀ L m env target scope cl s.heap.objs.size [s.heap.objs.size, l] vs.length (fun i v => vs[i]? = some v) St news J { s with heap := s.heap.push o } → R (.ref s.heap.objs.size) { s with heap := s.heap.push o }) :
    wpAny (model prog w) A (pyIter (.ref l)) R E s := by
  have hl : s.heap.IsList l vs.toArray := (hJl _ _ _ hJ).list F.keep N
  have hlt : l < s.heap.objs.size := by obtain ⟨_, e, _⟩ := hl; exact Heap.lt_size e
  have W := Walks.list (prog := prog) (w := w) hh s.heap.objs.size l (Nat.ne_of_lt hlt) vs.toArray
  rw [List.size_toArray] at W
  refine wpAny_pyIter_list hl (k _ (fun i h => h.IsListIter s.heap.objs.size l i ∧ h.IsList l vs.toArray) ?_)
  refine ⟨{ W with item := fun i s Q E hi st hQ => W.item i s Q E hi st fun v h' tk hv => hQ v h' tk (by simpa using hv) }, hsz, fun i h st => by obtain ⟨o, e, _⟩ := st.1; exact ⟨o, e⟩, fun i s₁ v Q E st h => let_list st.1 h,
    fun i j ys h h' o nw st e e' kk N' hj => ⟨by obtain ⟨o', q, r⟩ := st.1; rw [e] at q; cases q; exact ⟨o, e', r⟩, (hJl _ _ _ hj).list kk N'⟩,
    ⟨⟨_, Heap.get?_push_size _ rfl, rfl, rfl⟩, hl.push _⟩, fun b hb => ?_, F.push _, N.grown fun b x e => Heap.get?_push_of_some _ e, Nat.ne_of_lt F.ns.lt, next_is_new F, fun p hp => Nat.ne_of_lt (Heap.lt_size (N p hp).1), hJ⟩
  show b < (s.heap.push _).objs.size
  rw [Heap.size_push]
  rcases List.mem_cons.mp hb with rfl | hb
  · exact Nat.lt_succ_self _
  · rw [List.mem_singleton.mp hb]; exact Nat.lt_succ_of_lt hlt
end
end
section
open PySem PySem.W PySem.Spec PySem.Calls PyProof.Rows PyProof.Rows.LCg
/-- what comes behind, under a name of its own: it is not copied at each step -/
theorem hide {M : Model} {A : Around} {α : Type} {t : Sem α} {Q : α → Shared → Prop} {E : Value → Shared → Prop} {s : Shared} (h : ∀ (Q' : α → Shared → Prop) (E' : Value → Shared → Prop), (∀ v s', Q v s' → Q' v s') → wpAny M A t Q' E' s) : wpAny M A t Q E s := h Q E fun _ _ x => x
theorem hideF {M : Model} {A : Around} {α : Type} {t : Sem α} {Q : α → Shared → Prop} {E : Value → Shared → Prop} {s : Shared} (h : ∀ Q' : α → Shared → Prop, (∀ v s', Q v s' → Q' v s') → wpAny M A t Q' (fun _ _ => False) s) : wpAny M A t Q E s := wpAny_noRaise (h Q fun _ _ x => x)
inductive Cut (P : Shared → Prop) : Flow → Shared → Prop
  | mk (s' : Shared) (h : P s') : Cut P .next s'
theorem execs_cut {M : Model} {A : Around} {st : Stmt} {rest : List Stmt} {env : Env} {Q : Flow → Shared → Prop} {E : Value → Shared → Prop} {s : Shared} {P : Shared → Prop} (h1 : wpAny M A (exec st env) (Cut P) (fun _ _ => False) s) (h2 : ∀ s', P s' → wpAny M A (execs rest env) Q E s') : wpAny M A (execs (st :: rest) env) Q E s := by
  refine wpAny_execs_cons (wpAny_mono (wpAny_noRaise h1) (fun f s' h => ?_) fun _ _ x => x)
  cases h with | mk _ h => exact h2 s' h
section
variable {prog : Program} {w : World} {A₀ A : Around} {s : Shared} {base h₀ : Heap} {outer : List Env} {L : Addr} {m : Str → Option Value} {env : Env} {news : List (Addr × Obj)} {K : Frag} {p : Program} {loose : List Str} {mean : ExcName → Option Value} {mg mb : Str → Option Value} {R : Result → Shared → Prop}
/-- a def with cells is entered; the ground holds all that is off the ledger -/
theorem def_cells {name qual : Str} {params : Arguments} {body : List Stmt} {scope : Scope} {dV kV doc pm cdv ct oc : Value} {an od : Option Addr} {osl : Array (Option Value)} {f : Addr} {args : Args} {binds : List (Str × Value)}
    (B : Below A₀ base outer h₀) (F : Fr h₀ L s.heap m) (X₀ : K.In h₀) (N : News h₀ L s.heap news) (T : Top p loose mean mg mb h₀) (hA : A.frames = some (env :: outer)) (hf : env.frame = some L) (hke : env.scope.kind = .function)
    (ho : K.lookup f = some ⟨oc, od, .func (fnOf name qual params body scope dV kV doc pm an cdv ct), osl⟩) (hcd : codeIn K cdv qual = true) (hroom : A.depth < recursionLimit)
    (hbind : BindsTo s (fnOf name qual params body scope dV kV doc pm an cdv ct) args binds) (hkind : (binds.all fun y => scope.names.lookup y.1 == some .local || scope.names.lookup y.1 == some .cell) = true)
    (hnd : ((cellsFrom 0 scope.names []).map (·.1)).Nodup)
    (h : ∀ g L' h₁ tk cells, Fr h₀ L g m → Fr g L' h₁ (bindL (envOfC qual scope L' f cdv).kindOf binds fun _ => none) → News g L' h₁ (cells ++ news) →
      CellsAre (bindC (envOfC qual scope L' f cdv).kindOf binds fun _ => none) (cellsFrom (L' + 1) scope.names []) cells → Below A base (env :: outer) g → K.In g → Top p loose mean mg mb g → (∀ p ∈ news, p.1 < L') → GSub s.heap g (news.map (·.1)) →
      wpAny (model prog w) (A.deeper (envOfC qual scope L' f cdv)) (execs body (envOfC qual scope L' f cdv))
        (fun fl s' => LeaveK h₀ L m g R (match fl with | .ret v => v | _ => .none) s')
        (fun e s' => wpAny (model prog w) (A.deeper (envOfC qual scope L' f cdv)) (leaving (envOfC qual scope L' f cdv) e) (fun _ s'' => R (.error e) s'') (fun e' s'' => R (.error e') s'') s')
        { s with heap := h₁, toks := tk })
    (hco : scope.isCoroutine = false) (hgen : scope.isGenerator = false) (hk : scope.kind = .function) : codeAny (model prog w) A (.call (.ref f) args) R s := by
  obtain ⟨FG, BG, st, lv⟩ := groundX (R := R) B F N hA hf hke
  refine codeAny_call_function hroom ((X₀.keeps F.keep) _ _ ho) rfl hco hgen rfl (codeRec_of (X₀.keeps F.keep) hcd) (hbind _ _ _ _ ?_)
  refine wpAny_newFunctionEnv_cells hk (kindsX hkind _) fun env' he s' x => ?_
  subst he
  refine ⟨(T.nolimit.keeps F.keep).keeps x.toInCall.keep, codeAny_func ?_⟩
  obtain ⟨h₁, tk, rfl, _⟩ := x.done
  have hk₁ := x.toInCall.keep
  obtain ⟨cells, NC, Y⟩ := Cl.news (h₀ := s.heap) (Nat.le_refl _) fun n c hm => ⟨x.cell n c (lookup_of_mem_nodup (cellsFrom_names scope.names 0 (s.heap.objs.size + 1) [] [] rfl ▸ hnd) hm), x.above n c hm⟩
  refine wpAny_mono (h _ s.heap.objs.size h₁ tk cells FG ⟨x.toInCall.ns, fun b o e => hk₁ b o (of_hideAll _ e), Nat.le_of_eq (hideAll_size _ _)⟩ (fun p hp => ?_) Y BG (X₀.keeps st) (T.keeps st) (fun p hp => Heap.lt_size (N p hp).1) (fun b o e n => hideAll_get _ e n)) (fun fl s' hl => lv _ _ hl) fun _ _ y => y
  rcases List.mem_append.mp hp with hp | hp
  · refine ⟨(NC p hp).1, (NC p hp).2.1, ?_⟩
    cases q : (hideAll s.heap (news.map (·.1))).get? p.1 with
    | none => rfl
    | some o => have := of_hideAll _ q; rw [(NC p hp).2.2] at this; cases this
  · exact ⟨hk₁ _ _ (N p hp).1, Nat.ne_of_lt (Heap.lt_size (N p hp).1), hideAll_none _ (List.mem_map_of_mem hp)⟩
end

/-- what a call of a def does: `mu` is what it may turn; all else stays as it stood; `nw` is what it turned and made -/
noncomputable def Does (w : World) (mean : ExcName → Option Value) (mg mb : Str → Option Value) (need : Nat) (f : Addr) (vs : List Value) (mu : Led) (pre : Heap → Prop) (post : Value → Led → Prop) : Prop :=
  ∀ (dp un : Nat) (gd : Option (List Code)) (cn : Str) (cs : Scope) (a : Addr) (ccd : Value) (cl : List (Str × Addr)) (outer : List Env) (A₀ : Around) (base h₀ : Heap) (L : Addr) (m : Str → Option Value) (s : Shared) (Q E : Value → Shared → Prop),
    Below A₀ base outer h₀ → Fr h₀ L s.heap m → (heapK w.params).In h₀ → News h₀ L s.heap mu → Top topProg LOO mean mg mb h₀ → cs.kind = .function → dp + need < recursionLimit → un + 8 * need < cLine → pre s.heap →
    (∀ r h' tk' nw, (∀ b o, s.heap.get? b = some o → b ∉ mu.map (·.1) → h'.get? b = some o) → Fr h₀ L h' m → News h₀ L h' nw → (∀ p ∈ nw, p.1 ∈ mu.map (·.1) ∨ s.heap.get? p.1 = none) → post r nw → Q r { s with heap := h', toks := tk' }) →
    wpAny (model PySem.Challenge.rw_ta0019_01.row.prog w) (ktrTop dp un gd cn cs L a ccd cl outer) (call (.ref f) vs) Q E s
theorem Does.use {w : World} {mean : ExcName → Option Value} {mg mb : Str → Option Value} {need : Nat} {f : Addr} {vs : List Value} {mu : Led} {pre : Heap → Prop} {post : Value → Led → Prop} {dp un : Nat} {gd : Option (List Code)} {cn : Str} {cs : Scope} {a : Addr} {ccd : Value} {cl : List (Str × Addr)} {outer : List Env} {A₀ : Around} {base h₀ : Heap} {L : Addr} {m : Str → Option Value} {s : Shared} {Q E : Value → Shared → Prop}
    (G : Does w mean mg mb need f vs mu pre post)
    (B : Below A₀ base outer h₀) (F : Fr h₀ L s.heap m) (X : (heapK w.params).In h₀) (N : News h₀ L s.heap mu) (T : Top topProg LOO mean mg mb h₀) (hk : cs.kind = .function) (hd' : dp + need < recursionLimit) (hu : un + 8 * need < cLine) (hp : pre s.heap)
    (ret : ∀ r h' tk' nw, (∀ b o, s.heap.get? b = some o → b ∉ mu.map (·.1) → h'.get? b = some o) → Fr h₀ L h' m → News h₀ L h' nw → (∀ p ∈ nw, p.1 ∈ mu.map (·.1) ∨ s.heap.get? p.1 = none) → post r nw → Q r { s with heap := h', toks := tk' }) :
    wpAny (model PySem.Challenge.rw_ta0019_01.row.prog w) (ktrTop dp un gd cn cs L a ccd cl outer) (call (.ref f) vs) Q E s :=
  G _ _ _ _ _ _ _ _ _ _ _ _ _ _ _ _ _ B F X N T hk hd' hu hp ret

/-- the ledger of the caller behind a call: what was turned and made, then what stayed -/
theorem news_after {h₀ h h' : Heap} {L : Addr} {mu nw rest : Led} (N : News h₀ L h rest) (k : ∀ b o, h.get? b = some o → b ∉ mu.map (·.1) → h'.get? b = some o) (hr : ∀ p ∈ rest, p.1 ∉ mu.map (·.1)) (N' : News h₀ L h' nw) : News h₀ L h' (nw ++ rest) := fun p hp => by
  rcases List.mem_append.mp hp with hp | hp
  · exact N' p hp
  · exact ⟨k _ _ (N p hp).1 (hr p hp), (N p hp).2⟩
/-- what a def made or turned is off what stayed -/
theorem off_after {h₀ h : Heap} {L : Addr} {mu nw rest : Led} (N : News h₀ L h rest) (hr : ∀ p ∈ rest, p.1 ∉ mu.map (·.1)) (hn : ∀ p ∈ nw, p.1 ∈ mu.map (·.1) ∨ h.get? p.1 = none) : ∀ p ∈ nw, ∀ q ∈ rest, p.1 ≠ q.1 := fun p hp q hq e => by
  rcases hn p hp with h1 | h1
  · exact hr q hq (e ▸ h1)
  · rw [e, (N q hq).1] at h1; cases h1

theorem Does.gives {w : World} {mean : ExcName → Option Value} {mg mb : Str → Option Value} {need : Nat} {f : Addr} {vs : List Value} {post : Value → Led → Prop} {news : Led} (G : Does w mean mg mb need f vs [] (fun _ => True) post) :
    Gives w mean mg mb need f vs news (fun r n' _ => ∃ nw, n' = nw ++ news ∧ post r nw ∧ ∀ p ∈ nw, ∀ q ∈ news, p.1 ≠ q.1) := by
  intro dp un gd cn cs a ccd cl outer A₀ base h₀ L m s Q E hB hF hK hN hT hcs hdp hun hret
  refine G.use hB hF hK (fun _ hp => nomatch hp) hT hcs hdp hun trivial fun r h' tk' nw k F' N' hn hp => ?_
  exact hret r _ h' tk' F' (news_after (mu := []) hN k (fun _ _ h => nomatch h) N') ⟨nw, rfl, hp, off_after (mu := []) hN (fun _ _ h => nomatch h) hn⟩

/-- the end of a def's body: what is told of the ground -/
theorem does_end {g h h' : Heap} {L' : Addr} {m' : Str → Option Value} {mu nw : Led} (F : Fr g L' h' m') (N : News g L' h' nw) (G : GSub h g (mu.map (·.1))) :
    (∀ b o, h.get? b = some o → b ∉ mu.map (·.1) → h'.get? b = some o) ∧ (∀ p ∈ nw, p.1 ∈ mu.map (·.1) ∨ h.get? p.1 = none) :=
  ⟨fun b o e n => F.keep b o (G b o e n), fun p hp => by
    by_cases hm : p.1 ∈ mu.map (·.1)
    · exact .inl hm
    · cases q : h.get? p.1 with
      | none => exact .inr rfl
      | some o => have := (N p hp).2.2; rw [G _ _ q hm] at this; cases this⟩
end
section
open PySem PySem.W PySem.Spec PySem.Calls PyProof.Rows PyProof.Rows.LCg
section
variable {prog : Program} {w : World} {A₀ A : Around} {s : Shared} {base h₀ : Heap} {outer : List Env} {L : Addr} {m : Str → Option Value} {env : Env} {news : List (Addr × Obj)} {K : Frag} {p : Program} {loose : List Str} {mean : ExcName → Option Value} {mg mb : Str → Option Value} {R : Result → Shared → Prop}
/-- a def made in a body is entered; the ground holds all that is off the ledger -/
theorem nest_G {name qual : Str} {params : Arguments} {body : List Stmt} {scope : Scope} {cl : List (Str × Addr)} {doc pm ctv : Value} {c' : Addr} {f : Addr} {args : Args} {binds : List (Str × Value)}
    (B : Below A₀ base outer h₀) (F : Fr h₀ L s.heap m) (X₀ : K.In h₀) (N : News h₀ L s.heap news) (T : Top p loose mean mg mb h₀) (hA : A.frames = some (env :: outer)) (hf : env.frame = some L) (hke : env.scope.kind = .function)
    (ho : (f, fnMade name qual params body scope cl doc pm c' ctv) ∈ news) (hcd : s.heap.CodeRec (.ref c') qual) (hroom : A.depth < recursionLimit)
    (hbind : BindsTo s (fnX name qual params body scope cl .none .none doc pm none (.ref c') ctv) args binds) (hloc : ∀ y ∈ binds, scope.names.lookup y.1 = some .local)
    (h : ∀ g L' h₁, Fr h₀ L g m → Fr g L' h₁ (fun y => binds.reverse.lookup y) → News g L' h₁ news → Below A base (env :: outer) g → K.In g → Top p loose mean mg mb g → GSub s.heap g (news.map (·.1)) →
      wpAny (model prog w) (A.deeper (envX qual scope L' f (.ref c') cl)) (execs body (envX qual scope L' f (.ref c') cl))
        (fun fl s' => LeaveK h₀ L m g R (match fl with | .ret v => v | _ => .none) s')
        (fun e s' => wpAny (model prog w) (A.deeper (envX qual scope L' f (.ref c') cl)) (leaving (envX qual scope L' f (.ref c') cl) e) (fun _ s'' => R (.error e) s'') (fun e' s'' => R (.error e') s'') s')
        { s with heap := h₁, toks := s.toks + binds.length })
    (hco : scope.isCoroutine = false) (hgen : scope.isGenerator = false) (hk : scope.kind = .function)
    (hcell : ∀ x ∈ scope.names, x.2 ≠ .cell) : codeAny (model prog w) A (.call (.ref f) args) R s := by
  obtain ⟨FG, BG, st, lv⟩ := groundX (R := R) B F N hA hf hke
  refine codeAny_call_def (fd := fnX name qual params body scope cl .none .none doc pm none (.ref c') ctv) (body := body) (binds := binds) hroom (N _ ho).1 rfl (T.nolimit.keeps F.keep) hcd rfl hbind hcell hloc (fun h₁ hns hk₁ => ?_) hco hgen hk
  exact wpAny_mono (h _ s.heap.objs.size h₁ FG ⟨hns, fun b o e => hk₁ b o (of_hideAll _ e), Nat.le_of_eq (hideAll_size _ _)⟩
    (fun p hp => ⟨hk₁ _ _ (N p hp).1, Nat.ne_of_lt (Heap.lt_size (N p hp).1), hideAll_none _ (List.mem_map_of_mem hp)⟩) BG (X₀.keeps st) (T.keeps st) (fun b o e n => hideAll_get _ e n)) (fun fl s' hl => lv _ _ hl) fun _ _ y => y
theorem call_clsG {E : Value → Shared → Prop} {C : Addr} {Q : Value → Shared → Prop} {pos : List Value} {kw : List (Str × Value)} {fI : Addr} (F : Fr h₀ L s.heap m) (X₀ : K.In h₀) (N : News h₀ L s.heap news) (hm : makesIn K C = true) (hi : findIn K (.ref C) "__init__" = some (some (.ref fI))) (hf : isFn K (.ref fI) = true)
    (h : ∀ x dx h', Fr h₀ L h' m → News h₀ L h' ((x, instObj C dx) :: (dx, dictOf [] 0) :: news) → (∀ p ∈ news, p.1 < dx) → dx < x → (∀ b o, s.heap.get? b = some o → h'.get? b = some o) → (∀ b o, s.heap.get? b = some o → b < dx) →
      codeAny (model prog w) (A.under (.builtin "type.__call__" ⟨.ref C :: pos, kw⟩)) (.call (.ref fI) ⟨.ref x :: pos, kw⟩) (InitBack x fun r s' => match r with | .ok (.ret v) => Q v s' | .ok _ => False | .error e => E e s') { s with heap := h' }) :
    wpAny (model prog w) A (call (.ref C) pos kw) Q E s := by
  have X := X₀.keeps F.keep
  refine wpAny_call ?_
  obtain ⟨hh, g, d, t, os⟩ := s
  refine make_core (makes_of X hm) (looks_findIn X hi) (fun self => bind_fn X self (beq_iff_eq.mp hf)) (.inl rfl) (h _ hh.objs.size _ ((F.push _).push _) ?_ (fun p hp => Heap.lt_size (N p hp).1) (Nat.lt_succ_self _) (fun b o e => Heap.get?_push_of_some _ (Heap.get?_push_of_some _ e)) fun b o e => Heap.lt_size e)
  have := (N.push F emptyDict).push (F.push _) (instObj C hh.objs.size)
  rwa [Heap.size_push] at this
end
/-- the same as a code: what a call of a def does, from a built-in's hand -/
noncomputable def DoesC (w : World) (mean : ExcName → Option Value) (mg mb : Str → Option Value) (need : Nat) (f : Addr) (vs : List Value) (mu : Led) (pre : Heap → Prop) (post : Value → Led → Prop) : Prop :=
  ∀ (dp un : Nat) (gd : Option (List Code)) (cn : Str) (cs : Scope) (a : Addr) (ccd : Value) (cl : List (Str × Addr)) (outer : List Env) (A₀ : Around) (base h₀ : Heap) (L : Addr) (m : Str → Option Value) (s : Shared) (Q E : Value → Shared → Prop),
    Below A₀ base outer h₀ → Fr h₀ L s.heap m → (heapK w.params).In h₀ → News h₀ L s.heap mu → Top topProg LOO mean mg mb h₀ → cs.kind = .function → dp + need < recursionLimit → un + 8 * need < cLine → pre s.heap →
    (∀ r h' tk' nw, (∀ b o, s.heap.get? b = some o → b ∉ mu.map (·.1) → h'.get? b = some o) → Fr h₀ L h' m → News h₀ L h' nw → (∀ p ∈ nw, p.1 ∈ mu.map (·.1) ∨ s.heap.get? p.1 = none) → post r nw → Q r { s with heap := h', toks := tk' }) →
    codeAny (model PySem.Challenge.rw_ta0019_01.row.prog w) (ktrTop dp un gd cn cs L a ccd cl outer) (.call (.ref f) ⟨vs, []⟩) (fun r s' => match r with | .ok (.ret v) => Q v s' | .ok _ => False | .error e => E e s') s
theorem DoesC.does {w : World} {mean : ExcName → Option Value} {mg mb : Str → Option Value} {need : Nat} {f : Addr} {vs : List Value} {mu : Led} {pre : Heap → Prop} {post : Value → Led → Prop} (G : DoesC w mean mg mb need f vs mu pre post) : Does w mean mg mb need f vs mu pre post :=
  fun _ _ _ _ _ _ _ _ _ _ _ _ _ _ _ _ _ a1 a2 a3 a4 a5 a6 a7 a8 a9 a10 => wpAny_call (G _ _ _ _ _ _ _ _ _ _ _ _ _ _ _ _ _ a1 a2 a3 a4 a5 a6 a7 a8 a9 a10)
end
section
open PySem PySem.W PySem.Spec PySem.Calls PyProof.Rows PyProof.Rows.LCg
noncomputable def Apart (rest mu : Led) : Prop := ∀ p ∈ rest, ∀ q ∈ mu, q.1 ≠ p.1
theorem Apart.nil {mu : Led} : Apart [] mu := fun _ h => nomatch h
/-- the places of a ledger fall -/
noncomputable def Down : Nat → Led → Prop
  | _, [] => True
  | n, p :: l => Nat.le p.1 n ∧ Down p.1 l
theorem Down.le : ∀ {l : Led} {n : Nat}, Down n l → ∀ q ∈ l, Nat.le q.1 n := by
  intro l
  induction l with
  | nil => intro n _ q hq; cases hq
  | cons p l ih =>
    intro n h q hq
    cases hq with
    | head => exact h.1
    | tail _ hq => exact Nat.le_trans (ih h.2 q hq) h.1
theorem Down.apart {rest mu : Led} {n : Nat} (h : Down n mu) (hr : ∀ p ∈ rest, Nat.lt n p.1) : Apart rest mu := fun p hp q hq e => by
  have h1 := Down.le h q hq
  rw [e] at h1
  exact Nat.lt_irrefl _ (Nat.lt_of_lt_of_le (hr p hp) h1)
theorem Apart.cons {p : Addr × Obj} {rest mu : Led} (a : ∀ q ∈ mu, q.1 ≠ p.1) (b : Apart rest mu) : Apart (p :: rest) mu := List.forall_mem_cons.mpr ⟨a, b⟩
theorem Apart.not {rest mu : Led} (a : Apart rest mu) : ∀ p ∈ rest, p.1 ∉ mu.map (·.1) := fun p hp hq => by
  obtain ⟨q, hq, e⟩ := List.mem_map.mp hq
  exact a p hp q hq e
/-- the whole ledger behind a call that turned its hinder part -/
theorem news_turn {h₀ h h' : Heap} {L : Addr} {mu nw rest : Led} (N : News h₀ L h (rest ++ mu)) (a : Apart rest mu) (k : ∀ b o, h.get? b = some o → b ∉ mu.map (·.1) → h'.get? b = some o) (N' : News h₀ L h' nw) : News h₀ L h' (rest ++ nw) := fun p hp => by
  rcases List.mem_append.mp hp with hp | hp
  · have z := N p (List.mem_append_left _ hp)
    exact ⟨k _ _ z.1 (a.not p hp), z.2⟩
  · exact N' p hp
theorem news_tail {h₀ h : Heap} {L : Addr} {mu rest : Led} (N : News h₀ L h (rest ++ mu)) : News h₀ L h mu := fun p hp => N p (List.mem_append_right _ hp)
end
section
open PySem PySem.W PySem.Spec PySem.Calls PyProof.Rows PyProof.Rows.LCg
/-- the state between two turns of a for -/
noncomputable def ForGo (h₀ : Heap) (L : Addr) (s : Shared) (I : Addr) (oI : Obj) (J : (Str → Option Value) → Led → Prop) (s₃ : Shared) : Prop :=
  Sm4 fun h' tk m nw => Al5 (s₃ = { s with heap := h', toks := tk }) (Fr h₀ L h' m) (News h₀ L h' ((I, oI) :: nw)) ((∀ p ∈ nw, p.1 ≠ I)) (J m nw)
theorem ForGo.of {h₀ : Heap} {L : Addr} {s : Shared} {I : Addr} {oI : Obj} {J : (Str → Option Value) → Led → Prop} {h' : Heap} {tk : Nat} {m : Str → Option Value} {nw : Led} (F : Fr h₀ L h' m) (N : News h₀ L h' ((I, oI) :: nw)) (off : ∀ p ∈ nw, p.1 ≠ I) (j : J m nw) : ForGo h₀ L s I oI J { s with heap := h', toks := tk } := ⟨h', tk, m, nw, rfl, F, N, off, j⟩
section
variable {prog : Program} {w : World} {A : Around} {s : Shared} {h₀ : Heap} {L : Addr} {m : Str → Option Value} {env : Env} {news : Led} {R : Result → Shared → Prop}
theorem for_G {target : Expr} {body : List Stmt} {I : Addr} {fp : List Addr} {n : Nat} {P : Nat → Value → Prop} {St : Nat → Heap → Prop} {J : Nat → (Str → Option Value) → Led → Prop} (W : Walks prog w A I fp [I] n P St) (hIo : ∀ i h, St i h → ∃ o, h.get? I = some o)
    (hLet : ∀ i s v Q E, St i s.heap → Q () s → wpAny (model prog w) A (letOwnedTupleGo target (.ref I) v) Q E s)
    (hSt : ∀ i h h' o m nw, St i h → h.get? I = some o → h'.get? I = some o → (∀ b o, h₀.get? b = some o → h'.get? b = some o) → News h₀ L h' nw → J i m nw → St i h')
    (hIL : L ≠ I) (hI₀ : h₀.get? I = none) (hst : St 0 s.heap) (F : Fr h₀ L s.heap m) (N : News h₀ L s.heap news) (off : ∀ p ∈ news, p.1 ≠ I) (hJ : J 0 m news)
    (turn : ∀ i v m nw oI h tk, i < n → P i v → J i m nw → Fr h₀ L h m → News h₀ L h ((I, oI) :: nw) → (∀ p ∈ nw, p.1 ≠ I) →
      wpAny (model prog w) A (assign target env v) (fun _ s₂ => wpAny (model prog w) A (execs body env) (fun f s₃ => match f with
        | .next | .cont => ForGo h₀ L s I oI (J (i + 1)) s₃
        | .brk => R (.ok .next) s₃
        | .ret v => R (.ok (.ret v)) s₃) (notedBy (model prog w) A env fun e s' => R (.error e) s') s₂) (notedBy (model prog w) A env fun e s' => R (.error e) s') { s with heap := h, toks := tk })
    (fin : ∀ m nw h tk, Fr h₀ L h m → News h₀ L h nw → J n m nw → R (.ok .next) { s with heap := h, toks := tk }) :
    codeAny (model prog w) A (.forLoop target (.ref I) body [] env) R s := by
  refine codeAny_forLoop_any (fun k s' => Sm5 fun h' tk i m nw => Al8 (s' = { s with heap := h', toks := tk }) (i ≤ n) (k = n - i) (St i h') (Fr h₀ L h' m) (News h₀ L h' nw) ((∀ p ∈ nw, p.1 ≠ I)) (J i m nw)) ?_ n
    ⟨s.heap, s.toks, 0, m, news, rfl, Nat.zero_le _, rfl, hst, F, N, off, hJ⟩
  rintro k s' ⟨h', tk, i, m', nw, rfl, hi, rfl, hst', F', N', off', hJ'⟩
  by_cases hlt : i < n
  · refine W.item i _ _ _ hlt hst' fun v h₂ tk₂ hPv hst₂ hk₂ => ?_
    refine hLet _ _ _ _ _ hst₂ ?_
    obtain ⟨oI, heI⟩ := hIo _ _ hst₂
    have F₂ := fr_but F' hk₂ hIL hI₀
    have N₂ : News h₀ L h₂ ((I, oI) :: nw) := fun p hp => by
      rcases List.mem_cons.mp hp with rfl | hp
      · exact ⟨heI, Ne.symm hIL, hI₀⟩
      · exact news_but N' hk₂ off' p hp
    refine wpAny_mono (turn i v m' nw oI h₂ tk₂ hlt hPv hJ' F₂ N₂ off') (fun _ s₂ h₂' => wpAny_mono h₂' (fun f s₃ h₉ => ?_) fun _ _ e => e) fun _ _ e => e
    have go : ForGo h₀ L s I oI (J (i + 1)) s₃ → ∃ m, m < n - i ∧ Sm5 fun h' tk i' m' nw => Al8 (s₃ = { s with heap := h', toks := tk }) (i' ≤ n) (m = n - i') (St i' h') (Fr h₀ L h' m') (News h₀ L h' nw) ((∀ p ∈ nw, p.1 ≠ I)) (J i' m' nw) := by
      rintro ⟨h₃, tk₃, m₃, nw₃, rfl, F₃, N₃, off₃, J₃⟩
      have N₃' : News h₀ L h₃ nw₃ := fun p hp => N₃ p (List.mem_cons_of_mem _ hp)
      exact ⟨n - (i + 1), by omega, h₃, tk₃, i + 1, m₃, nw₃, rfl, hlt, rfl, hSt _ _ _ _ _ _ hst₂ heI (N₃ _ (.head _)).1 F₃.keep N₃' J₃, F₃, N₃', off₃, J₃⟩
    cases f with
    | next => exact go h₉
    | cont => exact go h₉
    | brk => exact h₉
    | ret v => exact h₉
  · obtain rfl : i = n := Nat.le_antisymm hi (Nat.not_lt.mp hlt)
    refine W.done _ _ _ hst' fun h₂ tk₂ hk₂ => ?_
    exact wpAny_pure (fin m' nw h₂ tk₂ (fr_but F' hk₂ hIL hI₀) (news_but N' hk₂ off') hJ')

theorem for_range {Q : Value → Shared → Prop} {E : Value → Shared → Prop} {x : Str} {px : Pos} {body : List Stmt} {r : Addr} {a b : Int} {t u v : Tok} {n : Nat} {RR : Addr → Result → Shared → Prop} (hh : A.handled = none) (F : Fr h₀ L s.heap m) (N : News h₀ L s.heap news) (hr : IsRange s.heap r a b 1 t u v) (hsm : Builtin.Range.small a b 1 = true) (hn : Builtin.Range.rangeSize a b 1 = ((n : Nat) : Int))
    (J : Nat → (Str → Option Value) → Led → Prop) (hJ : J 0 m news)
    (turn : ∀ I i t m nw oI h tk, i < n → J i m nw → Fr h₀ L h m → News h₀ L h ((I, oI) :: nw) → (∀ p ∈ nw, p.1 ≠ I) → (∀ p ∈ news, p.1 < I) → ∀ s', s' = { s with heap := h, toks := tk } →
      wpAny (model prog w) A (assign (.Name x px) env (.int (a + (i : Int)) t)) (fun _ s₂ => wpAny (model prog w) A (execs body env) (fun f s₃ => match f with
        | .next | .cont => ForGo h₀ L s I oI (J (i + 1)) s₃
        | .brk => RR I (.ok .next) s₃
        | .ret v => RR I (.ok (.ret v)) s₃) (notedBy (model prog w) A env fun e s' => RR I (.error e) s') s₂) (notedBy (model prog w) A env fun e s' => RR I (.error e) s') s')
    (fin : ∀ I m nw h tk, Fr h₀ L h m → News h₀ L h nw → J n m nw → RR I (.ok .next) { s with heap := h, toks := tk })
    (k : ∀ I h', codeAny (model prog w) A (.forLoop (.Name x px) (.ref I) body [] env) (RR I) { s with heap := h' } → Q (.ref I) { s with heap := h' }) :
    wpAny (model prog w) A (pyIter (.ref r)) Q E s := by
  refine wpAny_pyIter_range hr hsm (k _ _ ?_)
  have W := range_walks (prog := prog) (w := w) (I := s.heap.objs.size) hh a n
  refine for_G (s := { s with heap := s.heap.push _ }) (J := J) W (fun i h st => ⟨_, st⟩) (fun i s₁ v Q E _ h => let_name h) (fun i h h' o m nw st e e' _ _ _ => by
      have st' : h.get? s.heap.objs.size = some _ := st
      show h'.get? _ = some _
      rw [e', ← e]; exact st') (Nat.ne_of_lt F.ns.lt) (next_is_new F) (by show IsRangeIter _ _ _ _ _; rw [hn]; simpa using Heap.get?_push_size _ rfl) (F.push _) (N.grown fun b x e => Heap.get?_push_of_some _ e) (fun p hp => Nat.ne_of_lt (Heap.lt_size (N p hp).1)) hJ ?_ ?_
  · rintro i v m nw oI h tk hi ⟨t, rfl⟩ hj F' N' off
    exact turn _ i t m nw oI h tk hi hj F' N' off (fun p hp => Heap.lt_size (N p hp).1) _ rfl
  · intro m nw h tk F' N' hj
    exact fin _ m nw h tk F' N' hj
end
end
section
open PySem PySem.W PySem.Spec PySem.Calls PyProof.Rows PyProof.Rows.LCg
theorem fn_mro : mroOf (.type "function") = pure [.type "function", .type "object"] := by kernel_rfl
theorem fn_slot_sa : Slot "function" "__setattr__" "object.__setattr__" := .of (owner := "object") (n := "__setattr__") (by rw [typeLookup_type, builtinLookup_eq_fast]; kernel_rfl) (by decide +kernel) (by decide +kernel) (by decide +kernel)
    (by first | exact .inl (by decide +kernel) | exact .inr (by decide +kernel)) (by rw [isSubtype_type]; kernel_rfl)
theorem fn_slot_ga : Slot "function" "__getattribute__" "object.__getattribute__" := .of (owner := "object") (n := "__getattribute__") (by rw [typeLookup_type, builtinLookup_eq_fast]; kernel_rfl) (by decide +kernel) (by decide +kernel) (by decide +kernel)
    (by first | exact .inl (by decide +kernel) | exact .inr (by decide +kernel)) (by rw [isSubtype_type]; kernel_rfl)
theorem fn_pass (self : Value) : refuseLoop self "__setattr__" [.type "function", .type "object"] = pure () := by kernel_rfl
theorem fn_no_read : typeLookup (.type "function") "read" = pure none := by rw [typeLookup_type, builtinLookup_eq_fast]; kernel_rfl
theorem fn_no_ga2 : typeLookup (.type "function") "__getattr__" = pure none := by rw [typeLookup_type, builtinLookup_eq_fast]; kernel_rfl
section
variable {prog : Program} {w : World} {A : Around} {E : Value → Shared → Prop} {h : Heap} {g : Array GenState} {dr : Drawn} {t : Nat} {os : OsState} {f : Addr} {fd : FuncData} {sl : Array (Option Value)} {v : Value} {name : Str}
theorem set_fn_entry {tk : Tok} {Q : Fin → Shared → Prop} (hx : h.get? f = some ⟨.type "function", none, .func fd, sl⟩) (hna : typeLookup (.type "function") name = pure none)
    (hq : ∀ h' tk' d, h'.Ns d (fun y => if y = name then some v else none) → h'.get? f = some ⟨.type "function", some d, .func fd, sl⟩ → h.objs.size ≤ d → (∀ b o, b ≠ f → h.get? b = some o → h'.get? b = some o) → Q (.done (.ret .none)) ⟨h', g, dr, tk', os⟩) :
    wpAny (model prog w) A (Builtin.«object.__setattr__» ⟨[.ref f, .str name tk, v], []⟩) Q E ⟨h, g, dr, t, os⟩ := by
  have hT : (⟨h, g, dr, t, os⟩ : Shared).TypeIs (.ref f) "function" := ⟨_, hx, rfl⟩
  have f2 := fn_mro
  have f3 := fn_pass (.ref f)
  have hx₁ : (h.push { cls := .type "dict", data := .dict #[] }).get? f = some ⟨.type "function", none, .func fd, sl⟩ := Heap.get?_push_of_some _ hx
  have hxs : f ≠ h.objs.size := Nat.ne_of_lt (Heap.lt_size hx)
  rw [osa_eq, refuse_eq]
  repeat (any_goals (first | assumption | with_reducible refine wpAny_loadPart_at hx ?_ | ((fail_if_success with_reducible show wpAny _ _ (nsSet _ _ _) _ _ _); wp_step)))
  have hgd : ((h.push { cls := .type "dict", data := .dict #[] }).update f fun o => { cls := o.cls, dict := some h.objs.size, data := o.data, slots := o.slots }).get? h.objs.size = some { cls := .type "dict", data := .dict #[] } :=
    (Heap.get?_update_ne _ _ _ _ hxs.symm).trans (Heap.get?_push_at rfl rfl)
  have hnd : ((h.push { cls := .type "dict", data := .dict #[] }).update f fun o => { cls := o.cls, dict := some h.objs.size, data := o.data, slots := o.slots }).Ns h.objs.size (fun _ => none) :=
    ⟨_, #[], _, hgd, rfl, fun e he => absurd he (by simp), fun _ => rfl⟩
  refine wpAny_nsSet1 (Heap.Ns1.of_empty hnd) fun h' hn' hs => ?_
  obtain ⟨oD, esD, epD, hoD, hdD, hcD⟩ := hn'.count (Within.cons name v Within.nil)
  refine wpAny_bind (wpAny_lookBehind hoD (by rw [hdD]; exact pastItsLine_dict (Nat.le_trans hcD (by rw [List.length_cons, List.length_nil, sizeLine_eq]; lia))) ?_)
  wp_walk
  refine hq h' _ h.objs.size hn'.ns ((hs.2 f hxs).trans (Heap.get?_update_self _ hx₁ ?_)) (Nat.le_refl _) fun b ob hbx hb => ?_
  · rfl
  · exact (hs.2 b (Nat.ne_of_lt (Heap.lt_size hb))).trans ((Heap.get?_update_ne _ _ _ _ hbx).trans (Heap.get?_push_of_some _ hb))

theorem set_fn0 {Q : Unit → Shared → Prop} (hx : h.get? f = some ⟨.type "function", none, .func fd, sl⟩) (hna : typeLookup (.type "function") name = pure none)
    (hq : ∀ h' tk' d, h'.Ns d (fun y => if y = name then some v else none) → h'.get? f = some ⟨.type "function", some d, .func fd, sl⟩ → h.objs.size ≤ d → (∀ b o, b ≠ f → h.get? b = some o → h'.get? b = some o) → Q () ⟨h', g, dr, tk', os⟩) :
    wpAny (model prog w) A (setAttr (.ref f) name v) Q E ⟨h, g, dr, t, os⟩ := by
  have hT : (⟨h, g, dr, t, os⟩ : Shared).TypeIs (.ref f) "function" := ⟨_, hx, rfl⟩
  have hT1 : (⟨h, g, dr, t + 1, os⟩ : Shared).TypeIs (.ref f) "function" := ⟨_, hx, rfl⟩
  have f3 := fn_slot_sa.bind (.ref f)
  have f4 := fn_slot_sa.lookup
  unfold setAttr callSpecial? specialOf
  repeat (any_goals (first | assumption | with_reducible refine wpAny_loadPart_at hx ?_ | wp_step))
  refine codeAny_call_builtin fn_slot_sa.plain F.entry_object_sa (fn_slot_sa.check _ _ _ _ _ _ _ _ hT1 (PySem.F.store_object.args _ _ _) (set_fn_entry hx hna fun h' tk' d a b c e => ?_))
  repeat (any_goals (first | assumption | wp_step))
  exact hq h' tk' d a b c e
end
theorem fn_entry_ga : entryFor table "object.__getattribute__" = some Builtin.«object.__getattribute__» := entryFor_of_tree (by kernel_rfl)
theorem fn_args_ga (a b : Value) : argsOk "object.__getattribute__" ⟨[a, b], []⟩ := by unfold argsOk; kernel_rfl
section
variable {prog : Program} {w : World} {A : Around} {E : Value → Shared → Prop} {s : Shared} {h₀ : Heap} {L : Addr} {m : Str → Option Value} {f d : Addr} {fd : FuncData} {sl : Array (Option Value)} {v : Value} {name : Str} {rest : List (Addr × Obj)}
theorem set_fn {Q : Unit → Shared → Prop} (F : Fr h₀ L s.heap m) (N : News h₀ L s.heap ((f, ⟨.type "function", none, .func fd, sl⟩) :: rest)) (hoff : ∀ p ∈ rest, p.1 ≠ f) (hna : typeLookup (.type "function") name = pure none)
    (h : ∀ h' tk' d oD, Fr h₀ L h' m → News h₀ L h' ((d, oD) :: (f, ⟨.type "function", some d, .func fd, sl⟩) :: rest) → NsObj oD (fun y => if y = name then some v else none) → (∀ b o, s.heap.get? b = some o → b < d) → Q () { s with heap := h', toks := tk' }) :
    wpAny (model prog w) A (setAttr (.ref f) name v) Q E s := by
  have hf := N _ (.head _)
  refine set_fn0 (f := f) (fd := fd) (sl := sl) hf.1 hna fun h' tk' d hn hf' hd hk => ?_
  obtain ⟨oD, heD, hoD⟩ := ns_obj hn
  have fresh : ∀ a, s.heap.objs.size ≤ a → h₀.get? a = none := fun a ha => by
    cases e : h₀.get? a with
    | none => rfl
    | some o' => exact absurd (Heap.lt_size (F.keep a o' e)) (Nat.not_lt.mpr ha)
  have hL : d ≠ L := Nat.ne_of_gt (Nat.lt_of_lt_of_le F.ns.lt hd)
  refine h h' tk' d oD ⟨F.ns.at' fun o e => hk _ _ (Ne.symm hf.2.1) e, fun b o e => hk b o (fun q => by rw [q, hf.2.2] at e; cases e) (F.keep b o e), F.above⟩ (fun p hp => ?_) hoD fun b o e => Nat.lt_of_lt_of_le (Heap.lt_size e) hd
  rcases List.mem_cons.mp hp with rfl | hp
  · exact ⟨heD, hL, fresh _ hd⟩
  · rcases List.mem_cons.mp hp with rfl | hp
    · exact ⟨hf', hf.2⟩
    · have z := N p (List.mem_cons_of_mem _ hp)
      exact ⟨hk _ _ (hoff p hp) z.1, z.2⟩

theorem fn_find {Q : PySem.Builtin.ObjectAttr.Found → Shared → Prop} {h : Heap} {g : Array GenState} {dr : Drawn} {t : Nat} {os : OsState} (hx : h.get? f = some ⟨.type "function", some d, .func fd, sl⟩) (hna : typeLookup (.type "function") name = pure none) {mA : Str → Option Value} (hn : h.Ns d mA) (hv : mA name = some v)
    (hq : Q (.value v) ⟨h, g, dr, t, os⟩) : wpAny (model prog w) A (PySem.Builtin.ObjectAttr.find (.ref f) (.type "function") name) Q E ⟨h, g, dr, t, os⟩ := by
  unfold PySem.Builtin.ObjectAttr.find
  repeat (any_goals (first | assumption | with_reducible refine wpAny_loadPart_at hx ?_ | ((fail_if_success with_reducible show wpAny _ _ (nsGet _ _) _ _ _); wp_step)))
  refine wpAny_nsGet hn ?_
  rw [hv]
  repeat (any_goals (first | assumption | wp_step))

theorem fn_ga_entry {r : Addr} {tk : Tok} {Q : PySem.Fin → Shared → Prop} {h : Heap} {g : Array GenState} {dr : Drawn} {t : Nat} {os : OsState} (hx : h.get? f = some ⟨.type "function", some d, .func fd, sl⟩) (hna : typeLookup (.type "function") name = pure none) {mA : Str → Option Value} (hn : h.Ns d mA) (hv : mA name = some (.ref r))
    (hq : Q (.done (.ret (.ref r))) ⟨h, g, dr, t, os⟩) : wpAny (model prog w) A (Builtin.«object.__getattribute__» ⟨[.ref f, .str name tk], []⟩) Q E ⟨h, g, dr, t, os⟩ := by
  have hT : (⟨h, g, dr, t, os⟩ : Shared).TypeIs (.ref f) "function" := ⟨_, hx, rfl⟩
  unfold Builtin.«object.__getattribute__»
  repeat (any_goals (first | assumption | with_reducible refine fn_find hx hna hn hv ?_ | wp_step))

theorem fn_get {r : Addr} {expr : Bool} {Q : Value → Shared → Prop} {h : Heap} {g : Array GenState} {dr : Drawn} {t : Nat} {os : OsState} (hx : h.get? f = some ⟨.type "function", some d, .func fd, sl⟩) (hna : typeLookup (.type "function") name = pure none) {mA : Str → Option Value} (hn : h.Ns d mA) (hv : mA name = some (.ref r))
    (hq : Q (.ref r) ⟨h, g, dr, t + 1, os⟩) : wpAny (model prog w) A (getAttr (.ref f) name expr) Q E ⟨h, g, dr, t, os⟩ := by
  have hT : (⟨h, g, dr, t, os⟩ : Shared).TypeIs (.ref f) "function" := ⟨_, hx, rfl⟩
  have hT1 : (⟨h, g, dr, t + 1, os⟩ : Shared).TypeIs (.ref f) "function" := ⟨_, hx, rfl⟩
  have f3 := fn_slot_ga.bind (.ref f)
  have f4 := fn_slot_ga.lookup
  unfold getAttr getAttrBy
  repeat (any_goals (first | assumption | with_reducible refine wpAny_loadPart_at hx ?_ | wp_step))
  rw [show (expr && onTheHeap (Value.builtin "object.__getattribute__")) = false by cases expr <;> rfl]
  simp only [Bool.false_eq_true, if_false]
  unfold boundAndCalled
  repeat (any_goals (first | assumption | with_reducible refine wpAny_loadPart_at hx ?_ | wp_step))
  refine codeAny_call_builtin fn_slot_ga.plain fn_entry_ga (fn_slot_ga.check _ _ _ _ _ _ _ _ hT1 (fn_args_ga _ _) (fn_ga_entry hx hna hn hv ?_))
  repeat (any_goals (first | assumption | wp_step))

theorem fn_method {r : Addr} {pl : Sem Bool} {Q : Value × List Value → Shared → Prop} {h : Heap} {g : Array GenState} {dr : Drawn} {t : Nat} {os : OsState} (hx : h.get? f = some ⟨.type "function", some d, .func fd, sl⟩) (hna : typeLookup (.type "function") name = pure none) {mA : Str → Option Value} (hn : h.Ns d mA) (hv : mA name = some (.ref r))
    (hq : Q (.ref r, []) ⟨h, g, dr, t + 1, os⟩) : wpAny (model prog w) A (getMethod (.ref f) name pl) Q E ⟨h, g, dr, t, os⟩ := by
  have hT : (⟨h, g, dr, t, os⟩ : Shared).TypeIs (.ref f) "function" := ⟨_, hx, rfl⟩
  have f4 := fn_slot_ga.lookup
  have f5 := fn_no_ga2
  have hcan := PySem.F.canon_object_ga
  unfold getMethod
  repeat (any_goals (first | assumption | (rw [hcan]; simp only [Bool.false_eq_true, if_false]) | with_reducible refine fn_get hx hna hn hv ?_ | wp_step))
end
end
section
open PySem PySem.W PySem.Spec PySem.Calls PyProof.Rows PyProof.Rows.LCg
theorem me_call : typeLookup (.type "method") "__call__" = pure (some (.builtin "method.__call__")) := by rw [typeLookup_type, builtinLookup_eq_fast]; kernel_rfl
theorem ci_slot_next : Slot "callable_iterator" "__next__" "callable_iterator.__next__" := .of (owner := "callable_iterator") (n := "__next__") (by rw [typeLookup_type, builtinLookup_eq_fast]; kernel_rfl) (by decide +kernel) (by decide +kernel) (by decide +kernel)
    (by first | exact .inl (by decide +kernel) | exact .inr (by decide +kernel)) (by rw [isSubtype_type]; kernel_rfl)
theorem ci_entry_next : entryFor table "callable_iterator.__next__" = some Builtin.«callable_iterator.__next__» := entryFor_of_fast (by kernel_rfl)
theorem ci_args_next (a : Value) : argsOk "callable_iterator.__next__" ⟨[a], []⟩ := by unfold argsOk; kernel_rfl
theorem ci_slot_iter : Slot "callable_iterator" "__iter__" "callable_iterator.__iter__" := .of (owner := "callable_iterator") (n := "__iter__") (by rw [typeLookup_type, builtinLookup_eq_fast]; kernel_rfl) (by decide +kernel) (by decide +kernel) (by decide +kernel)
    (by first | exact .inl (by decide +kernel) | exact .inr (by decide +kernel)) (by rw [isSubtype_type]; kernel_rfl)
theorem ci_entry_iter : entryFor table "callable_iterator.__iter__" = some Builtin.«dict_keyiterator.__iter__» :=
  entryFor_alias (id' := "dict_keyiterator.__iter__") (by kernel_rfl) (by first | rfl | decide +kernel) (by decide +kernel) (by kernel_rfl)
theorem ci_args_iter (a : Value) : argsOk "callable_iterator.__iter__" ⟨[a], []⟩ := by unfold argsOk; kernel_rfl
theorem iter_args2 (a b : Value) : argsOk "iter" ⟨[a, b], []⟩ := by unfold argsOk; kernel_rfl
abbrev citObj (f x : Value) (e : Bool) : Obj := { cls := .type "callable_iterator", data := .fields #[f, x, .bool e] }
section
variable {prog : Program} {w : World} {A : Around} {E : Value → Shared → Prop} {s : Shared} {q it : Addr} {fn x : Value} {self : Value}
theorem cit_iter {Q : Value → Shared → Prop} (hq : s.heap.get? q = some (methodObj fn self))
    (h : Q (.ref s.heap.objs.size) { s with heap := s.heap.push (citObj (.ref q) x false) }) : wpAny (model prog w) A (call (.builtin "iter") [.ref q, x]) Q E s := by
  refine call_function_entry (by decide +kernel) (by decide +kernel) kdk_entry_iter (iter_args2 _ _) ?_
  have hT : s.TypeIs (.ref q) "method" := ⟨_, hq, rfl⟩
  have f2 := me_call
  unfold Builtin.«iter»
  refine wpAny_bind (m := someArgs "iter" 1 2 _) (wpAny_of_eq (a := [Value.ref q, x]) (by first | rfl | kernel_rfl!) ?_)
  dsimp only
  repeat (any_goals (first | assumption | wp_step))
  exact ⟨_, rfl, h⟩
theorem cit_pyIter {Q : Value → Shared → Prop} {o : Obj} (hit : s.heap.get? it = some o) (hc : o.cls = .type "callable_iterator") (h : Q (.ref it) s) : wpAny (model prog w) A (pyIter (.ref it)) Q E s := by
  have hT : s.TypeIs (.ref it) "callable_iterator" := ⟨_, hit, hc⟩
  have f2 := ci_slot_next.lookup
  refine wpAny_pyIter_slot hT ci_slot_iter (wpAny_call_entry ci_slot_iter hT ci_entry_iter ?_ (ci_args_iter _))
  unfold Builtin.«dict_keyiterator.__iter__»
  repeat (any_goals (first | assumption | wp_step))
  exact ⟨_, rfl, _, _, hT, f2, h⟩

theorem wpAny_callB {M : Model} {f : Value} {pos : List Value} {Q : Value → Shared → Prop} (hc : codeAny M A (.call f ⟨pos, []⟩) (fun r s' => match r with | .ok (.ret v) => Q v s' | .ok _ => False | .error e => E e s') s) :
    wpAny M A (callBorrowed f pos) Q E s := fun Γ p hΓ => by
  have h1 := wpAny_runValue hc Γ p hΓ
  rw [Sem.wp_runValue] at h1
  unfold callBorrowed
  show wpCode M (Γ.enter _ none p) _ p s
  refine cast ?_ h1
  congr 1
  funext r s'
  rcases r with e | (v | _ | _ | _) <;> rfl
theorem cit_stop {α : Type} {Q : α → Shared → Prop} {E' : Value → Shared → Prop} (hh : A.handled = none)
    (h : ∀ h' tk e oe, (∀ b o, s.heap.get? b = some o → h'.get? b = some o) → h'.get? e = some oe → oe.cls = .type "StopIteration" → E' (.ref e) { s with heap := h', toks := tk }) : wpAny (model prog w) A (Builtin.SmallTypes.stopIteration : Sem α) Q E' s := by
  unfold Builtin.SmallTypes.stopIteration
  refine wpAny_bind ?_
  simp only [newExc, newTuple]
  refine wpAny_bind (wpAny_newObj_type ?_ (by size_fits))
  refine wpAny_bind (m := firstArgMember _ _) (wpAny_of_eq (a := Value.none) (by first | rfl | (simp only [firstArgMember]; rfl)) ?_)
  refine wpAny_newObj_type ?_ (by size_fits)
  simp only [raiseNew]
  refine wpAny_bind (wpAny_handled ?_)
  rw [hh]
  refine wpAny_bind (wpAny_pure (wpAny_throw ?_))
  exact h _ _ _ _ (fun b o e => Heap.get?_push_of_some _ (Heap.get?_push_of_some _ e)) (Heap.get?_push_size _ rfl) rfl
theorem cit_next {Q : Option Value → Shared → Prop} {f : Addr} {y : Str} {u : Tok} {oc : Value} {od : Option Addr} {fd : FuncData} {sl : Array (Option Value)} (hh : A.handled = none) (hit : s.heap.get? it = some (citObj (.ref q) (.str y u) false)) (hq : s.heap.get? q = some (methodObj (.ref f) self)) (hf : s.heap.get? f = some ⟨oc, od, .func fd, sl⟩)
    (h : codeAny (model prog w) A.in1 (.call (.ref f) ⟨[self], []⟩) (fun r s' => match r with
      | .ok (.ret v) => Sm2 fun z t => Al5 (v = .str z t) (s'.heap.get? it = some (citObj (.ref q) (.str y u) false)) (s'.heap.get? q = some (methodObj (.ref f) self)) (s'.heap.get? f = some ⟨oc, od, .func fd, sl⟩) ((if y = z then ∀ h' tk, (∀ b o, b ≠ it → s'.heap.get? b = some o → h'.get? b = some o) → h'.get? it = some (citObj .none .none true) → Q none { s' with heap := h', toks := tk } else Q (some v) s'))
      | .ok _ => False | .error _ => False) s) :
    wpAny (model prog w) A (pyNext (.ref it)) Q E s := by
  have hT : s.TypeIs (.ref it) "callable_iterator" := ⟨_, hit, rfl⟩
  unfold pyNext
  refine wpAny_bind (wpAny_attempt (wpAny_callSpecial?_slot (name := Str.ofString "__next__") hT ci_slot_next
    (wpAny_call_entry ci_slot_next hT ci_entry_next ?_ (ci_args_next _))))
  unfold Builtin.«callable_iterator.__next__»
  repeat (any_goals (first | assumption | ((fail_if_success with_reducible show wpAny _ _ (callBorrowed _ _) _ _ _); wp_step)))
  refine wpAny_callB (method_call hq (codeAny_mono h fun r s' z => ?_))
  have hz : ∃ v, r = .ok (.ret v) := by
    cases r with
    | error e => exact z.elim
    | ok fl => cases fl with
      | ret v => exact ⟨v, rfl⟩
      | _ => exact z.elim
  obtain ⟨v, rfl⟩ := hz
  obtain ⟨z1, t1, rfl, i1, q1, f1, z⟩ := z
  have hT1 : s'.TypeIs (.ref it) "callable_iterator" := ⟨_, i1, rfl⟩
  dsimp only
  repeat (any_goals (first | assumption | with_reducible refine wpAny_eqBool_str ?_ | ((fail_if_success with_reducible show wpAny _ _ (eqBool _ _) _ _ _); wp_step)))
  show wpAny _ _ (eqBool (.str y u) (.str z1 t1)) _ _ _
  refine PySem.wpAny_eqBool_str ?_
  by_cases hyz : y = z1
  · rw [if_pos hyz] at z
    rw [show (decide (y = z1)) = true from decide_eq_true hyz]
    simp only [Bool.not_true, Bool.false_eq_true, if_false]
    repeat (any_goals (first | assumption | ((fail_if_success with_reducible show wpAny _ _ (Builtin.SmallTypes.stopIteration) _ _ _); (fail_if_success with_reducible show wpAny _ _ (setField _ _ _) _ _ _); wp_step)))
    refine wpAny_setField_rec i1 (by simp) fun h1 e1 b1 => ?_
    refine wpAny_bind (wpAny_setField_rec e1 (by simp) fun h2 e2 b2 => ?_)
    refine wpAny_setField_rec e2 (by simp) fun h3 e3 b3 => ?_
    refine cit_stop hh fun h4 tk e oe k4 he hc => ?_
    refine wpAny_bind (wpAny_isInstance (T := "StopIteration") (b := true) ⟨_, he, hc⟩ isSubtype_stop ?_)
    exact wpAny_pure (z h4 tk (fun b o n e0 => k4 _ _ (((b3.2 b n).trans ((b2.2 b n).trans ((b1.2 b n)))).trans e0)) (k4 _ _ e3))
  · rw [if_neg hyz] at z
    rw [show (decide (y = z1)) = false from decide_eq_false hyz]
    simp only [Bool.not_false, if_true]
    exact wpAny_pure ⟨_, rfl, wpAny_pure z⟩
theorem cit_over {Q : Option Value → Shared → Prop} (hh : A.handled = none) (hit : s.heap.get? it = some (citObj .none .none true))
    (h : ∀ h' tk, (∀ b o, s.heap.get? b = some o → h'.get? b = some o) → Q none { s with heap := h', toks := tk }) :
    wpAny (model prog w) A (pyNext (.ref it)) Q E s := by
  have hT : s.TypeIs (.ref it) "callable_iterator" := ⟨_, hit, rfl⟩
  unfold pyNext
  refine wpAny_bind (wpAny_attempt (wpAny_callSpecial?_slot (name := Str.ofString "__next__") hT ci_slot_next
    (wpAny_call_entry ci_slot_next hT ci_entry_next ?_ (ci_args_next _))))
  unfold Builtin.«callable_iterator.__next__»
  repeat (any_goals (first | assumption | ((fail_if_success with_reducible show wpAny _ _ (Builtin.SmallTypes.stopIteration) _ _ _); wp_step)))
  refine cit_stop hh fun h4 tk e oe k4 he hc => ?_
  dsimp only
  refine wpAny_bind (wpAny_isInstance (T := "StopIteration") (b := true) ⟨_, he, hc⟩ isSubtype_stop ?_)
  exact wpAny_pure (h h4 tk k4)
end
end
section
open PySem PySem.W PySem.Spec PySem.Calls PyProof.Rows PyProof.Rows.LCg
section
variable {prog : Program} {w : World} {A : Around} {E : Value → Shared → Prop} {s : Shared} {h₀ : Heap} {L : Addr} {m : Str → Option Value} {env : Env}
/-- one turn of a dict comprehension over any target -/
theorem compLoop_allD {kx vx target iter : Expr} {ifs : List Expr} {scope : Scope} {pos : Pos} {it : Value} {D : Addr} {env : Env} {R : Result → Shared → Prop} (I : Nat → Shared → Prop)
    (turn : ∀ n s, I n s → wpAny (model prog w) A (pyNext it) (fun r s₁ => match r with
      | none => R (.ok .next) s₁
      | some v => wpAny (model prog w) A (letOwnedTupleGo target it v) (fun _ s₁' => wpAny (model prog w) A (assign target env v) (fun _ s₂ =>
          wpAny (model prog w) A (testsOf ifs env) (fun ok s₃ =>
            if ok = true then wpAny (model prog w) A (eval kx env) (fun kv s₄ => wpAny (model prog w) A (eval vx env) (fun vv s₅ =>
              wpAny (model prog w) A (dictSet D kv vv) (fun _ s₆ => ∃ m, m < n ∧ I m s₆) (notedBy (model prog w) A env fun e s' => R (.error e) s') s₅) (notedBy (model prog w) A env fun e s' => R (.error e) s') s₄) (notedBy (model prog w) A env fun e s' => R (.error e) s') s₃
            else ∃ m, m < n ∧ I m s₃) (notedBy (model prog w) A env fun e s' => R (.error e) s') s₂) (notedBy (model prog w) A env fun e s' => R (.error e) s') s₁') (notedBy (model prog w) A env fun e s' => R (.error e) s') s₁) (notedBy (model prog w) A env fun e s' => R (.error e) s') s)
    (n : Nat) (h : I n s) :
    codeAny (model prog w) A (.compLoop (.DictComp kx vx [⟨target, iter, ifs, 0⟩] scope pos) 0 it (.ref D) env) R s := by
  refine codeAny_loop rfl I (fun n s hI => ?_) n h
  show wpAny _ A ((compTurn (.DictComp kx vx [⟨target, iter, ifs, 0⟩] scope pos) 0 it (.ref D) env).onRaise (fun x => do noteFrame x env; theTreesLotGoes x)) _ _ s
  refine wpAny_noted ?_
  rw [compTurn_dict]
  refine wpAny_bind (wpAny_standAt (wpAny_bind (wpAny_mono (turn n s hI) (fun r s₁ h₁ => ?_) fun _ _ h' => h')))
  cases r with
  | none => exact wpAny_pure h₁
  | some v =>
    refine wpAny_bind (wpAny_mono h₁ (fun _ s₁' h₁' => ?_) fun _ _ h' => h')
    refine wpAny_bind (wpAny_mono h₁' (fun _ s₂ h₂ => wpAny_bind (wpAny_mono h₂ (fun ok s₃ h₃ => ?_) fun _ _ h' => h')) fun _ _ h' => h')
    cases ok with
    | false => exact wpAny_pure ⟨rfl, h₃⟩
    | true =>
      exact wpAny_bind (wpAny_bind (wpAny_mono h₃ (fun kv s₄ h₄ => wpAny_bind (wpAny_holding (wpAny_mono h₄ (fun vv s₅ h₅ => wpAny_bind (wpAny_standAt (wpAny_holding (wpAny_mono h₅ (fun _ s₆ h₆ => wpAny_pure ⟨rfl, h₆⟩) fun _ _ h' => h')))) fun _ _ h' => h'))) fun _ _ h' => h'))

theorem block_D {kx vx target iter : Expr} {ifs : List Expr} {scope : Scope} {cl : List (Str × Addr)} {pos : Pos} {s₂ : Shared} {I : Addr} {fp : List Addr} {n : Nat} {P : Nat → Value → Prop} {St : Nat → Heap → Prop} {news : List (Addr × Obj)}
    {J : Nat → List (Str × Value) → List (Addr × Obj) → Prop} {RR : Value → Addr → Result → Shared → Prop}
    (X : Src prog w A h₀ L m env target scope cl I fp n P St news (fun i _ nw => ∃ kvs, J i kvs nw) s₂) (hJ₀ : J 0 [] news) (hcell : ∀ y ∈ scope.names, y.2 ≠ .cell) (hkind : scope.kind = .function)
    (turn : ∀ i v ys nw, i < n → P i v → J i ys nw → ys.length ≤ i → ∃ locs, Binds prog w A h₀ L env scope cl target v nw locs ∧ ∀ oI C oC D oD m₂ h tk E', oD.IsDictOf (PySem.strKind prog w) ys → NsObj oC m₂ → (∀ p ∈ locs, m₂ p.1 = some p.2) → Fr h₀ L h m →
      News h₀ L h ((I, oI) :: (C, oC) :: (D, oD) :: nw) → Off3 I C D nw → ((@Ne Nat I C) ∧ (@Ne Nat I D) ∧ (@Ne Nat C D)) → wpAny (model prog w) A (testsOf ifs (compEnvC scope cl C env)) (fun ok s' => if ok = true then
        wpAny (model prog w) A (eval kx (compEnvC scope cl C env)) (fun kv s₅ => wpAny (model prog w) A (eval vx (compEnvC scope cl C env)) (fun vv s₆ => ∃ k, (PySem.strKind prog w).is k kv = true ∧ CEnd h₀ L m { s₂ with heap := h, toks := tk } I oI C D oD (J (i + 1) (stored ys k vv)) s₆) E' s₅) E' s'
        else CEnd h₀ L m { s₂ with heap := h, toks := tk } I oI C D oD (J (i + 1) ys) s') E' { s₂ with heap := h, toks := tk })
    (hRR : ∀ D C h tk m' ys oD news', oD.IsDictOf (PySem.strKind prog w) ys → (∀ p ∈ news, p.1 < D) → s₂.heap.objs.size ≤ D → Fr h₀ L h m → News h₀ L h ((D, oD) :: news') → Off1 D news' → h.Ns C m' → h₀.get? C = none → h₀.get? D = none → C ≠ L → D ≠ L → C ≠ D → (∀ p ∈ news', p.1 ≠ C) → J n ys news' → RR (.ref D) C (.ok .next) { s₂ with heap := h, toks := tk }) :
    wpAny (model prog w) A newDict (fun acc s₃ => wpAny (model prog w) A (newFunctionEnv scope env.globals cl [] env.qual none .none (some env)) (fun cenv s₄ =>
      codeAny (model prog w) A (.compStart (.DictComp kx vx [⟨target, iter, ifs, 0⟩] scope pos) 0 (.ref I) acc { cenv with scope := relabel scope env }) (RR acc cenv.locals) s₄) E s₃) E s₂ := by
  obtain ⟨W, hsz, hIo, hLet, hSt, hst, hfp, F, N, hIL, hI₀, off, _⟩ := X
  have hJ := hJ₀
  refine wpAny_newObj_type (wpAny_newFunctionEnv hcell (by intro y hy; simp at hy) (fun h₁ hns₁ hsb₁ => ?_) hkind)
  dsimp only at hns₁ hsb₁ ⊢
  have hnew : (s₂.heap.push { cls := .type "dict", dict := none, data := .dict #[] }).DictOf (PySem.strKind prog w) s₂.heap.objs.size [] := Heap.DictOf.new s₂.heap
  generalize hH2 : s₂.heap.push { cls := .type "dict", dict := none, data := .dict #[] } = H2 at hns₁ hsb₁ hnew ⊢
  have hC : H2.objs.size = s₂.heap.objs.size + 1 := by rw [← hH2, Heap.size_push]
  have hDC : s₂.heap.objs.size ≠ H2.objs.size := by rw [hC]; exact Nat.ne_of_lt (Nat.lt_succ_self _)
  have below : ∀ b, b < s₂.heap.objs.size → b ≠ H2.objs.size ∧ b ≠ s₂.heap.objs.size := fun b hb => ⟨by rw [hC]; exact Nat.ne_of_lt (Nat.lt_succ_of_lt hb), Nat.ne_of_lt hb⟩
  have hDf : s₂.heap.objs.size ∉ fp := fun hm => Nat.lt_irrefl _ (hfp _ hm)
  have hCf : H2.objs.size ∉ fp := fun hm => by have := hfp _ hm; rw [hC] at this; exact Nat.lt_irrefl _ (Nat.lt_of_succ_lt this)
  have hIf : I ∈ fp := W.sub I (List.mem_singleton.mpr rfl)
  have hIlt : I < s₂.heap.objs.size := hfp I hIf
  have old : ∀ b o, s₂.heap.get? b = some o → h₁.get? b = some o := fun b o e => hsb₁.extBut b o (below b (Heap.lt_size e)).1 (Heap.get?_push_of_some _ (hH2 ▸ Heap.get?_push_of_some _ e))
  obtain ⟨oD₀, hacc, hdic₀⟩ : ∃ o, h₁.get? s₂.heap.objs.size = some o ∧ o.IsDictOf (PySem.strKind prog w) [] := by
    obtain ⟨o, e, r⟩ := Heap.dictOf_iff.mp hnew
    exact ⟨o, hsb₁.extBut _ _ hDC (Heap.get?_push_of_some _ e), r⟩
  have hst₁ : St 0 h₁ := W.frame _ _ _ hst fun b _ o e => old b o e
  have fresh₀ : ∀ a, s₂.heap.objs.size ≤ a → h₀.get? a = none := fun a ha => by
    cases e : h₀.get? a with
    | none => rfl
    | some o' => exact absurd (Heap.lt_size (F.keep a o' e)) (Nat.not_lt.mpr ha)
  have hD₀ : h₀.get? s₂.heap.objs.size = none := fresh₀ _ (Nat.le_refl _)
  have hC₀ : h₀.get? H2.objs.size = none := fresh₀ _ (by rw [hC]; exact Nat.le_succ _)
  have hLlt : L < s₂.heap.objs.size := F.ns.lt
  have hDL : s₂.heap.objs.size ≠ L := Ne.symm (below L hLlt).2
  have hCL : H2.objs.size ≠ L := Ne.symm (below L hLlt).1
  have hCI : I ≠ H2.objs.size := (below I hIlt).1
  have hDI : I ≠ s₂.heap.objs.size := (below I hIlt).2
  have off₀ : Off3 I H2.objs.size s₂.heap.objs.size news := Off3.of fun p hp => ⟨off p hp, (below _ (Heap.lt_size (N p hp).1)).1, (below _ (Heap.lt_size (N p hp).1)).2⟩
  have loop : ∀ s₃ : Shared, s₃ = { s₂ with heap := h₁, toks := s₂.toks + ([] : List (Str × Value)).length } →
      codeAny (model prog w) A (.compLoop (.DictComp kx vx [⟨target, iter, ifs, 0⟩] scope pos) 0 (.ref I) (.ref s₂.heap.objs.size) (compEnvC scope cl H2.objs.size env))
        (RR (.ref s₂.heap.objs.size) H2.objs.size) s₃ := by
    rintro s₃ rfl
    refine compLoop_allD
      (fun k s' => Sm7 fun h' tk i ys oD m' news' => Al11 (s' = { s₂ with heap := h', toks := tk }) (oD.IsDictOf (PySem.strKind prog w) ys) (i ≤ n) (k = n + 1 - i) (ys.length ≤ i) (St i h') (Fr h₀ L h' m) (h'.Ns H2.objs.size m') (News h₀ L h' ((s₂.heap.objs.size, oD) :: news')) (Off3 I H2.objs.size s₂.heap.objs.size news') (J i ys news')) ?_ (n + 1)
      ⟨h₁, _, 0, [], oD₀, _, news, rfl, hdic₀, Nat.zero_le _, rfl, Nat.le_refl _, hst₁, F.keeps old, hns₁, fun p hp => ?_, off₀, hJ⟩
    · rintro k s' ⟨h', tk, i, ys, oD, m', news', rfl, hdic, hi, rfl, hyl, hst', F', hn', N', off', hJ'⟩
      by_cases hlt : i < n
      · refine W.item i _ _ _ hlt hst' fun v h₂ tk₂ hPv hst₂ hk₂ => ?_
        refine hLet _ _ _ _ _ hst₂ ?_
        obtain ⟨locs, hB, hT⟩ := turn i v ys news' hlt hPv hJ' hyl
        have off3 := off'.mem
        have N₂ : News h₀ L h₂ ((s₂.heap.objs.size, oD) :: news') := news_but N' hk₂ fun p hp => by
          rcases List.mem_cons.mp hp with rfl | hp
          · exact Ne.symm hDI
          · exact (off3 p hp).1
        have hn₂ : h₂.Ns H2.objs.size m' := hn'.at' fun o e => hk₂ _ o (by simpa using Ne.symm hCI) e
        refine hB H2.objs.size _ m' _ _ (fun p hp => N₂ p (List.mem_cons_of_mem _ hp)) (fun p hp => (off3 p hp).2.1) hn₂ fun h₃ tk₃ m₃ hn₃ hs₃ hloc => ?_
        have hst₃ : St (i + 1) h₃ := W.frame _ _ _ hst₂ fun b hb o e => hs₃ b o (fun q => hCf (by have q' : b = H2.objs.size := q; rw [← q']; exact hb)) e
        obtain ⟨oI, heI⟩ := hIo _ _ hst₃
        obtain ⟨oC, heC, hoC⟩ := ns_obj hn₃
        have F₃ : Fr h₀ L h₃ m := fr_extBut (fr_but F' hk₂ hIL hI₀) hs₃ hCL hC₀
        have N₃ : News h₀ L h₃ ((I, oI) :: (H2.objs.size, oC) :: (s₂.heap.objs.size, oD) :: news') := fun p hp => by
          rcases List.mem_cons.mp hp with rfl | hp
          · exact ⟨heI, Ne.symm hIL, hI₀⟩
          · rcases List.mem_cons.mp hp with rfl | hp
            · exact ⟨heC, hCL, hC₀⟩
            · have z := N₂ p hp
              refine ⟨hs₃ _ _ ?_ z.1, z.2⟩
              rcases List.mem_cons.mp hp with rfl | hp
              · exact hDC
              · exact (off3 p hp).2.1
        refine wpAny_mono (hT oI H2.objs.size oC s₂.heap.objs.size oD _ h₃ _ _ hdic hoC hloc F₃ N₃ off' ⟨hCI, hDI, Ne.symm hDC⟩) (fun ok s₄ h₄ => ?_) fun _ _ e => e
        cases ok with
        | true =>
          simp only [if_true] at h₄ ⊢
          refine wpAny_mono h₄ (fun kv s₅ h₅ => ?_) fun _ _ e => e
          refine wpAny_mono h₅ (fun vv s₆ h₆ => ?_) fun _ _ e => e
          obtain ⟨kk, hkk, h₄, tk₄, oC₄, m₄, news₄, rfl, F₄, hoC₄, N₄, off₄, R₄⟩ := h₆
          have zI := (N₄ (I, oI) List.mem_cons_self).1
          have zC := (N₄ (H2.objs.size, oC₄) (List.mem_cons_of_mem _ List.mem_cons_self)).1
          have zD := (N₄ (s₂.heap.objs.size, oD) (List.mem_cons_of_mem _ (List.mem_cons_of_mem _ List.mem_cons_self))).1
          have N₄' : News h₀ L h₄ news₄ := fun p hp => N₄ p (List.mem_cons_of_mem _ (List.mem_cons_of_mem _ (List.mem_cons_of_mem _ hp)))
          have hst₄ : St (i + 1) h₄ := hSt _ _ [] _ _ _ _ hst₃ heI zI F₄.keep N₄' ⟨_, R₄⟩
          refine wpAny_dictSet_pairs (hsz := Nat.le_trans (Nat.le_trans hyl hi) hsz) hkk (Heap.dictOf_iff.mpr ⟨oD, zD, hdic⟩) fun h₅ hD₅ hs₅ => ?_
          obtain ⟨oD', heD', hdic'⟩ := Heap.dictOf_iff.mp hD₅
          have off4 := off₄.mem
          refine ⟨n + 1 - (i + 1), by omega, h₅, _, i + 1, stored ys kk vv, oD', _, news₄, rfl, hdic', hlt, rfl, Nat.le_trans (stored_length_le _ _ _) (Nat.succ_le_succ hyl), W.frame _ _ _ hst₄ fun b hb o e => hs₅.extBut b o (fun q => hDf (q ▸ hb)) e, F₄.change hs₅ hDL hD₀,
            (hoC₄.ns zC).sameBut hs₅ (Ne.symm hDC), fun p hp => ?_, off₄, R₄⟩
          rcases List.mem_cons.mp hp with rfl | hp
          · exact ⟨heD', hDL, hD₀⟩
          · exact ⟨hs₅.extBut _ _ (off4 p hp).2.2 (N₄' p hp).1, (N₄' p hp).2⟩
        | false =>
          simp only [Bool.false_eq_true, if_false] at h₄ ⊢
          obtain ⟨h₅, tk₄, oC₄, m₄, news₄, rfl, F₄, hoC₄, N₄, off₄, R₄⟩ := h₄
          have zI := (N₄ (I, oI) List.mem_cons_self).1
          have zC := (N₄ (H2.objs.size, oC₄) (List.mem_cons_of_mem _ List.mem_cons_self)).1
          have N₄' : News h₀ L h₅ news₄ := fun p hp => N₄ p (List.mem_cons_of_mem _ (List.mem_cons_of_mem _ (List.mem_cons_of_mem _ hp)))
          have hst₄ : St (i + 1) h₅ := hSt _ _ [] _ _ _ _ hst₃ heI zI F₄.keep N₄' ⟨_, R₄⟩
          refine ⟨n + 1 - (i + 1), by omega, h₅, tk₄, i + 1, ys, oD, _, news₄, rfl, hdic, hlt, rfl, Nat.le_succ_of_le hyl, hst₄, F₄, hoC₄.ns zC, fun p hp => ?_, off₄, R₄⟩
          rcases List.mem_cons.mp hp with rfl | hp
          · exact N₄ _ (List.mem_cons_of_mem _ (List.mem_cons_of_mem _ List.mem_cons_self))
          · exact N₄' p hp
      · obtain rfl : i = n := Nat.le_antisymm hi (Nat.not_lt.mp hlt)
        refine W.done _ _ _ hst' fun h₂ tk₂ hk₂ => ?_
        have off3 := off'.mem
        exact hRR _ _ h₂ tk₂ _ ys oD news' hdic (fun p hp => Heap.lt_size (N p hp).1) (Nat.le_refl _) (fr_but F' hk₂ hIL hI₀) (news_but N' hk₂ fun p hp => by
          rcases List.mem_cons.mp hp with rfl | hp
          · exact Ne.symm hDI
          · exact (off3 p hp).1) off'.one (hn'.at' fun o e => hk₂ _ o (by simpa using Ne.symm hCI) e) hC₀ hD₀ hCL hDL (Ne.symm hDC) (fun p hp => (off3 p hp).2.1) hJ'
    · rcases List.mem_cons.mp hp with rfl | hp
      · exact ⟨hacc, hDL, hD₀⟩
      · exact ⟨old _ _ (N p hp).1, (N p hp).2⟩
  exact codeAny_compStart_dict (loop _ rfl) (W.self 0 _ _ _ hst₁ (loop _ rfl))


/-- what a comprehension asks where its iterator stands -/
inductive CompD0 (prog : Program) (w : World) (A : Around) (h₀ : Heap) (L : Addr) (m : Str → Option Value) (env : Env) (kx vx target : Expr) (ifs : List Expr) (scope : Scope) (cl : List (Str × Addr)) (Q : Value → Shared → Prop) (it : Value) (s₂ : Shared) : Prop where
  | mk (I : Addr) (fp : List Addr) (n : Nat) (P : Nat → Value → Prop) (St : Nat → Heap → Prop) (news : List (Addr × Obj)) (J : Nat → List (Str × Value) → List (Addr × Obj) → Prop) (f0 : it = .ref I) (f1 : Src prog w A h₀ L m env target scope cl I fp n P St news (fun i _ nw => ∃ kvs, J i kvs nw) s₂) (f2 : J 0 [] news) (f3 : (∀ i v ys nw, i < n → P i v → J i ys nw → ys.length ≤ i → ∃ locs, Binds prog w A h₀ L env scope cl target v nw locs ∧ ∀ oI C oC D oD m₂ h tk E', oD.IsDictOf (PySem.strKind prog w) ys → NsObj oC m₂ → (∀ p ∈ locs, m₂ p.1 = some p.2) → Fr h₀ L h m →
        News h₀ L h ((I, oI) :: (C, oC) :: (D, oD) :: nw) → Off3 I C D nw → ((@Ne Nat I C) ∧ (@Ne Nat I D) ∧ (@Ne Nat C D)) → wpAny (model prog w) A (testsOf ifs (compEnvC scope cl C env)) (fun ok s' => if ok = true then
          wpAny (model prog w) A (eval kx (compEnvC scope cl C env)) (fun kv s₅ => wpAny (model prog w) A (eval vx (compEnvC scope cl C env)) (fun vv s₆ => ∃ k, (PySem.strKind prog w).is k kv = true ∧ CEnd h₀ L m { s₂ with heap := h, toks := tk } I oI C D oD (J (i + 1) (stored ys k vv)) s₆) E' s₅) E' s'
          else CEnd h₀ L m { s₂ with heap := h, toks := tk } I oI C D oD (J (i + 1) ys) s') E' { s₂ with heap := h, toks := tk })) (f4 : (∀ D h tk ys oD news', oD.IsDictOf (PySem.strKind prog w) ys → (∀ p ∈ news, p.1 < D) → Fr h₀ L h m → News h₀ L h ((D, oD) :: news') → Off1 D news' → J n ys news' → Q (.ref D) { s₂ with heap := h, toks := tk })) : CompD0 prog w A h₀ L m env kx vx target ifs scope cl Q it s₂
/-- `{kx: vx for target in iter if ..}` -/
theorem DictComp_G {kx vx target iter : Expr} {ifs : List Expr} {scope : Scope} {cl : List (Str × Addr)} {pos : Pos} {Q : Value → Shared → Prop} (_F₀ : Fr h₀ L s.heap m)
    (hclos : closureFor scope env = Pure.pure cl) (hcell : ∀ y ∈ scope.names, y.2 ≠ .cell) (hkind : scope.kind = .function)
    (hnames : ∀ y ∈ scope.names, y.2 = .local → scope.names.lookup y.1 = some .local)
    (h : wpAny (model prog w) A (eval iter env) (fun xv s₁ => wpAny (model prog w) A (pyIter xv) (fun it s₂ => CompD0 prog w A h₀ L m env kx vx target ifs scope cl Q it s₂) E s₁) E s)
    (hs : ∀ x, foldedSetIterable iter env x = Pure.pure x := by intro _; rfl) :
    wpAny (model prog w) A (eval (.DictComp kx vx [⟨target, iter, ifs, 0⟩] scope pos) env) Q E s := by
  rw [arm_eval_DictComp]
  refine wpAny_comprehension_free (use := none) rfl hs hclos hkind hnames (wpAny_mono h (fun xv s₁ h₁ => wpAny_mono h₁ (fun it s₂ h₂ => ?_) fun _ _ e => e) fun _ _ e => e)
  obtain ⟨I, fp, n, P, St, news, J, rfl, X, hJ₀, turn, fin⟩ := h₂
  refine block_D X hJ₀ hcell hkind turn ?_
  intro D C h tk m' ys oD news' hdic lN _ F' N' o1 hn hC₀ hD₀ hCL hDL hCD offC hJ'
  refine ⟨m', hn, fun h'' hs'' => fin D h'' tk ys oD news' hdic lN (F'.change hs'' hCL hC₀) (fun p hp => ?_) o1 hJ'⟩
  refine ⟨hs''.extBut _ _ ?_ (N' p hp).1, (N' p hp).2⟩
  rcases List.mem_cons.mp hp with rfl | hp
  · exact Ne.symm hCD
  · exact offC p hp
/-- what a comprehension asks where its iterator stands -/
inductive CompD (prog : Program) (w : World) (A : Around) (h₀ : Heap) (L : Addr) (m : Str → Option Value) (env : Env) (kx vx target : Expr) (ifs : List Expr) (scope : Scope) (cl : List (Str × Addr)) (y : Str) (Q : Flow → Shared → Prop) (it : Value) (s₂ : Shared) : Prop where
  | mk (I : Addr) (fp : List Addr) (n : Nat) (P : Nat → Value → Prop) (St : Nat → Heap → Prop) (news : List (Addr × Obj)) (J : Nat → List (Str × Value) → List (Addr × Obj) → Prop) (f0 : it = .ref I) (f1 : Src prog w A h₀ L m env target scope cl I fp n P St news (fun i _ nw => ∃ kvs, J i kvs nw) s₂) (f2 : J 0 [] news) (f3 : (∀ i v ys nw, i < n → P i v → J i ys nw → ys.length ≤ i → ∃ locs, Binds prog w A h₀ L env scope cl target v nw locs ∧ ∀ oI C oC D oD m₂ h tk E', oD.IsDictOf (PySem.strKind prog w) ys → NsObj oC m₂ → (∀ p ∈ locs, m₂ p.1 = some p.2) → Fr h₀ L h m →
        News h₀ L h ((I, oI) :: (C, oC) :: (D, oD) :: nw) → Off3 I C D nw → ((@Ne Nat I C) ∧ (@Ne Nat I D) ∧ (@Ne Nat C D)) → wpAny (model prog w) A (testsOf ifs (compEnvC scope cl C env)) (fun ok s' => if ok = true then
          wpAny (model prog w) A (eval kx (compEnvC scope cl C env)) (fun kv s₅ => wpAny (model prog w) A (eval vx (compEnvC scope cl C env)) (fun vv s₆ => ∃ k, (PySem.strKind prog w).is k kv = true ∧ CEnd h₀ L m { s₂ with heap := h, toks := tk } I oI C D oD (J (i + 1) (stored ys k vv)) s₆) E' s₅) E' s'
          else CEnd h₀ L m { s₂ with heap := h, toks := tk } I oI C D oD (J (i + 1) ys) s') E' { s₂ with heap := h, toks := tk })) (f4 : (∀ D h tk ys oD news', oD.IsDictOf (PySem.strKind prog w) ys → (∀ p ∈ news, p.1 < D) → Fr h₀ L h (fun z => if z = y then some (.ref D) else m z) → News h₀ L h ((D, oD) :: news') → Off1 D news' → J n ys news' → Q .next { s₂ with heap := h, toks := tk })) : CompD prog w A h₀ L m env kx vx target ifs scope cl y Q it s₂
theorem Assign_DictComp_G {kx vx target iter : Expr} {ifs : List Expr} {y : Str} {py : Pos} {scope : Scope} {cl : List (Str × Addr)} {pos spos : Pos} {Q : Flow → Shared → Prop} (F₀ : Fr h₀ L s.heap m) (hLe : env.locals = L)
    (hsw : swapsWith (.DictComp kx vx [⟨target, iter, ifs, 0⟩] scope pos) (some (.Name y py)) spos.line env = Pure.pure true)
    (hclos : closureFor scope env = Pure.pure cl) (hcell : ∀ y ∈ scope.names, y.2 ≠ .cell) (hkind : scope.kind = .function)
    (hnames : ∀ y ∈ scope.names, y.2 = .local → scope.names.lookup y.1 = some .local)
    (hy : env.kindOf y = some .local) (hp : (env.scope.kind == .class || (env.scope.kind == .module && env.locals != env.globals)) = false)
    (h : wpAny (model prog w) A (eval iter env) (fun xv s₁ => wpAny (model prog w) A (pyIter xv) (fun it s₂ => CompD prog w A h₀ L m env kx vx target ifs scope cl y Q it s₂) E s₁) E s)
    (hs : ∀ x, foldedSetIterable iter env x = Pure.pure x := by intro _; rfl) :
    wpAny (model prog w) A (exec (.Assign [.Name y py] (.DictComp kx vx [⟨target, iter, ifs, 0⟩] scope pos) spos) env) Q E s := by
  subst hLe
  rw [exec_Assign_Name_used _ _ _ _ hsw]
  refine wpAny_bind (wpAny_standAt (wpAny_bind ?_))
  show wpAny _ A (do let _ ← comprehension (.DictComp kx vx [⟨target, iter, ifs, 0⟩] scope pos) scope env _ newDict false (eval iter env) (some (assign (.Name y py) env))) _ _ s
  refine wpAny_bind (wpAny_mono (wpAny_comprehension_free (use := some (assign (.Name y py) env)) (Q := fun _ s' => Q .next s') rfl hs hclos hkind hnames
    (wpAny_mono h (fun xv s₁ h₁ => wpAny_mono h₁ (fun it s₂ h₂ => ?_) fun _ _ e => e) fun _ _ e => e)) (fun _ s' hq => wpAny_pure (wpAny_pure hq)) fun _ _ e => e)
  obtain ⟨I, fp, n, P, St, news, J, rfl, X, hJ₀, turn, fin⟩ := h₂
  refine block_D X hJ₀ hcell hkind turn ?_
  intro D C h' tk m' ys oD news' hdic lN _ F' N' o1 hn hC₀ hD₀ hCL hDL hCD offC hJ'
  show wpAny _ A (assign (.Name y py) env (.ref D)) _ _ _
  refine wpAny_assign_Name (wpAny_storeName_local hy F'.ns (fun h₂ hn₂ hs₂ => ?_) hp)
  have hL₀ : h₀.get? env.locals = none := Heap.get?_none_of_le F'.above
  have F₂ : Fr h₀ env.locals h₂ (fun z => if z = y then some (.ref D) else m z) := ⟨hn₂, fun b o e => hs₂.extBut b o (fun q => by rw [q, hL₀] at e; cases e) (F'.keep b o e), F'.above⟩
  refine ⟨m', hn.sameBut hs₂ hCL, fun h'' hs'' => fin D h'' _ ys oD news' hdic lN (F₂.change hs'' hCL hC₀) (fun p hp => ?_) o1 hJ'⟩
  have z : h₂.get? p.1 = some p.2 := hs₂.extBut _ _ (N' p hp).2.1 (N' p hp).1
  refine ⟨hs''.extBut _ _ ?_ z, (N' p hp).2⟩
  rcases List.mem_cons.mp hp with rfl | hp
  · exact Ne.symm hCD
  · exact offC p hp
end
end
section
open PySem PySem.W PySem.Spec PySem.Calls PyProof.Rows PyProof.Rows.LCg
section
variable {prog : Program} {w : World} {A : Around} {E : Value → Shared → Prop} {s : Shared} {h₀ : Heap} {L : Addr} {m : Str → Option Value} {env : Env}
/-- what a comprehension asks where its iterator stands -/
inductive CompA (prog : Program) (w : World) (A : Around) (h₀ : Heap) (L : Addr) (m : Str → Option Value) (env : Env) (elt target : Expr) (ifs : List Expr) (scope : Scope) (cl : List (Str × Addr)) (y : Str) (Q : Flow → Shared → Prop) (it : Value) (s₂ : Shared) : Prop where
  | mk (I : Addr) (fp : List Addr) (n : Nat) (P : Nat → Value → Prop) (St : Nat → Heap → Prop) (news : List (Addr × Obj)) (J : Nat → List Value → List (Addr × Obj) → Prop) (f0 : it = .ref I) (f1 : Src prog w A h₀ L m env target scope cl I fp n P St news J s₂) (f2 : (∀ i v ys nw, i < n → P i v → J i ys nw → ∃ locs, Binds prog w A h₀ L env scope cl target v nw locs ∧ ∀ oI C oC D m₂ h tk E', NsObj oC m₂ → (∀ p ∈ locs, m₂ p.1 = some p.2) → Fr h₀ L h m →
        News h₀ L h ((I, oI) :: (C, oC) :: (D, lst ys) :: nw) → Off3 I C D nw → ((@Ne Nat I C) ∧ (@Ne Nat I D) ∧ (@Ne Nat C D)) → wpAny (model prog w) A (testsOf ifs (compEnvC scope cl C env)) (fun ok s' => if ok = true then
          wpAny (model prog w) A (eval elt (compEnvC scope cl C env)) (fun y => CEnd h₀ L m { s₂ with heap := h, toks := tk } I oI C D (lst ys) (J (i + 1) (ys ++ [y]))) E' s'
          else CEnd h₀ L m { s₂ with heap := h, toks := tk } I oI C D (lst ys) (J (i + 1) ys) s') E' { s₂ with heap := h, toks := tk })) (f3 : (∀ D h tk ys news', Fr h₀ L h (fun z => if z = y then some (.ref D) else m z) → News h₀ L h ((D, lst ys) :: news') → Off1 D news' → J n ys news' → Q .next { s₂ with heap := h, toks := tk })) : CompA prog w A h₀ L m env elt target ifs scope cl y Q it s₂
/-- `y = [elt for target in iter if ..]` with a local name, at the point where its iterator is made -/
theorem Assign_ListComp_G {elt target iter : Expr} {ifs : List Expr} {y : Str} {py : Pos} {scope : Scope} {cl : List (Str × Addr)} {pos spos : Pos} {Q : Flow → Shared → Prop} (F₀ : Fr h₀ L s.heap m) (hLe : env.locals = L)
    (hsw : swapsWith (.ListComp elt [⟨target, iter, ifs, 0⟩] scope pos) (some (.Name y py)) spos.line env = Pure.pure true)
    (hclos : closureFor scope env = Pure.pure cl) (hcell : ∀ y ∈ scope.names, y.2 ≠ .cell) (hkind : scope.kind = .function)
    (hnames : ∀ y ∈ scope.names, y.2 = .local → scope.names.lookup y.1 = some .local)
    (hy : env.kindOf y = some .local) (hp : (env.scope.kind == .class || (env.scope.kind == .module && env.locals != env.globals)) = false)
    (h : wpAny (model prog w) A (eval iter env) (fun xv s₁ => wpAny (model prog w) A (pyIter xv) (fun it s₂ => CompA prog w A h₀ L m env elt target ifs scope cl y Q it s₂) E s₁) E s)
    (hs : ∀ x, foldedSetIterable iter env x = Pure.pure x := by intro _; rfl) :
    wpAny (model prog w) A (exec (.Assign [.Name y py] (.ListComp elt [⟨target, iter, ifs, 0⟩] scope pos) spos) env) Q E s := by
  subst hLe
  rw [exec_Assign_Name_used _ _ _ _ hsw]
  refine wpAny_bind (wpAny_standAt (wpAny_bind ?_))
  show wpAny _ A (do let _ ← comprehension (.ListComp elt [⟨target, iter, ifs, 0⟩] scope pos) scope env _ (newList []) false (eval iter env) (some (assign (.Name y py) env))) _ _ s
  refine wpAny_bind (wpAny_mono (wpAny_comprehension_free (use := some (assign (.Name y py) env)) (Q := fun _ s' => Q .next s') rfl hs hclos hkind hnames
    (wpAny_mono h (fun xv s₁ h₁ => wpAny_mono h₁ (fun it s₂ h₂ => ?_) fun _ _ e => e) fun _ _ e => e)) (fun _ s' hq => wpAny_pure (wpAny_pure hq)) fun _ _ e => e)
  obtain ⟨I, fp, n, P, St, news, J, rfl, X, turn, fin⟩ := h₂
  refine block_G X hcell hkind turn ?_
  intro D C h' tk m' ys news' F' N' o1 hn hC₀ hD₀ hCL hDL hCD offC hJ'
  show wpAny _ A (assign (.Name y py) env (.ref D)) _ _ _
  refine wpAny_assign_Name (wpAny_storeName_local hy F'.ns (fun h₂ hn₂ hs₂ => ?_) hp)
  have hL₀ : h₀.get? env.locals = none := Heap.get?_none_of_le F'.above
  have F₂ : Fr h₀ env.locals h₂ (fun z => if z = y then some (.ref D) else m z) := ⟨hn₂, fun b o e => hs₂.extBut b o (fun q => by rw [q, hL₀] at e; cases e) (F'.keep b o e), F'.above⟩
  refine ⟨m', hn.sameBut hs₂ hCL, fun h'' hs'' => fin D h'' _ ys news' (F₂.change hs'' hCL hC₀) (fun p hp => ?_) o1 hJ'⟩
  have z : h₂.get? p.1 = some p.2 := hs₂.extBut _ _ (N' p hp).2.1 (N' p hp).1
  refine ⟨hs''.extBut _ _ ?_ z, (N' p hp).2⟩
  rcases List.mem_cons.mp hp with rfl | hp
  · exact Ne.symm hCD
  · exact offC p hp
end
end
local macro_rules | `(tactic| walk_at "binaryOp Add bytes bytes") => `(tactic| k_extra "my binaryOp Add bytes bytes")
local macro_rules | `(tactic| walk_at "subscriptTail") => `(tactic| k_extra "my subscriptTail")
local macro_rules | `(tactic| walk_at "gives") => `(tactic| (refine' Gives.use ?sp ?k1 ?k2 ?k3 ?k4 ?k5 ?kK ?kd ?ku ?_; (case k1 => k_asm); (case k2 => k_asm); (case k3 => k_asm); (case k4 => k_asm); (case k5 => k_asm); (case sp => k_extra "spec"); (case kK => first | exact rfl | assumption); (case kd => ktr_room); (case ku => ktr_units)))
local macro_rules | `(tactic| walk_at "call ref") => `(tactic| k_extra "my call ref")
local macro_rules | `(tactic| walk_at "binaryOp FloorDiv int int") => `(tactic| k_extra "my binaryOp FloorDiv int int")
local macro_rules | `(tactic| walk_at "my enter") => `(tactic| (refine' code_defG ?k1 ?k2 ?k3 ?k4 ?k5 ?kA ?kF ?kK ?k6 ?k7 ?k8 ?k9 ?kB ?_ ?c2 ?c3 ?c4 ?c5; (case kA => exact rfl); (case kF => exact rfl); (case kK => assumption); (case k1 => k_asm); (case k2 => k_asm); (case k3 => k_asm); (case k4 => k_asm); (case k5 => k_asm); (case k6 => k_is); (case k7 => k_is); (case k8 => ktr_room); (case k9 => exact BindsTo.of_eq rfl); (case c5 => decide); (case kB => exact locs rfl); (case c2 => exact rfl); (case c3 => exact rfl); (case c4 => exact rfl); k_whole; intro g' L' h' FG' F' N' B' X' T' G'; (try dsimp only); (try k_lift B'); (try k_fold)))
local macro_rules | `(tactic| walk_at "binaryOp Add str str") => `(tactic| k_extra "my binaryOp Add str str")
local macro_rules | `(tactic| walk_at "my enter cells") => `(tactic| (refine' def_cells ?k1 ?k2 ?k3 ?k4 ?k5 ?kA ?kF ?kK ?k6 ?k7 ?k8 ?k9 ?kB ?kD ?_ ?c2 ?c3 ?c4; (case kA => exact rfl); (case kF => exact rfl); (case kK => assumption); (case k1 => k_asm); (case k2 => k_asm); (case k3 => k_asm); (case k4 => k_asm); (case k5 => k_asm); (case k6 => k_is); (case k7 => k_is); (case k8 => ktr_room); (case k9 => exact BindsTo.of_eq rfl); (case kB => exact rfl); (case kD => decide +kernel); (case c2 => exact rfl); (case c3 => exact rfl); (case c4 => exact rfl); k_whole; intro g' L' h' tk' cells' FG' F' N' Y' B' X' T' l1 G'; (try k_lt l1); k_cells Y'; (try simp only [List.cons_append, List.nil_append] at N'); (try dsimp only); (try k_lift B'); (try k_fold)))
local macro_rules | `(tactic| walk_at "my nest") => `(tactic| (refine' nest_G ?k1 ?k2 ?k3 ?k4 ?k5 ?kA ?kF ?kK ?k6 ?k7 ?k8 ?k9 ?kB ?_ ?c2 ?c3 ?c4 ?c5; (case kA => exact rfl); (case kF => exact rfl); (case kK => assumption); (case k1 => k_asm); (case k2 => k_asm); (case k3 => k_asm); (case k4 => k_asm); (case k5 => k_asm); (case k6 => k_mem); (case k7 => exact codeRec_news (by k_asm) (by k_mem) (by assumption) (by assumption)); (case k8 => ktr_room); (case k9 => exact BindsTo.of_eq rfl); (case c5 => decide); (case kB => exact locs rfl); (case c2 => exact rfl); (case c3 => exact rfl); (case c4 => exact rfl); k_whole; intro g' L' h' FG' F' N' B' X' T' G'; (try dsimp only); (try k_lift B'); (try k_fold)))
local macro_rules | `(tactic| walk_at "my call cls") => `(tactic| (refine' call_clsG ?k1 ?k2 ?k3 ?k4 ?k5 ?k6 ?_; (case k1 => k_asm); (case k2 => k_asm); (case k3 => k_asm); (case k4 => k_is); (case k5 => k_is); (case k6 => k_is); k_whole; intro x' d' h' F' N' l1 l2 kp' kq'; (try k_lt l1); (try k_lt2 l2); (try k_sweep); walk_at "my enter"))
local macro_rules | `(tactic| walk_at "callWith ref") => `(tactic| k_extra "my callWith ref")
local macro_rules | `(tactic| walk_at "getMethod ref") => `(tactic| k_extra "my getMethod ref")
local macro_rules | `(tactic| walk_at "in iter") => `(tactic| (intro I' h' F' N' l1; (try k_lt l1)))
local macro_rules | `(tactic| walk_at "call builtin:iter") => `(tactic| k_extra "my call builtin:iter")
local macro_rules | `(tactic| walk_at "inplaceOp Add str str") => `(tactic| k_extra "my inplaceOp Add str str")
local macro_rules | `(tactic| walk_at "pyIter ref") => `(tactic| k_extra "my pyIter ref")
local macro_rules | `(tactic| walk_at "in ops") => `(tactic| (rintro r9 n9 h9 tk9 F9 N9 ⟨D9, vs9, e9, e8, hv9, l9⟩; subst e9 e8; (try k_lt l9)))
local macro_rules | `(tactic| walk_at "call builtin:list.index") => `(tactic| k_extra "my call builtin:list.index")
local macro_rules | `(tactic| walk_at "binaryOp Mult int int") => `(tactic| k_extra "my binaryOp Mult int int")
local macro_rules | `(tactic| walk_at "binaryOp Pow int int") => `(tactic| k_extra "my binaryOp Pow int int")
local macro_rules | `(tactic| walk_at "call builtin:len") => `(tactic| k_extra "my call builtin:len")
local macro_rules | `(tactic| walk_at "compareOp In str ref") => `(tactic| k_extra "my compareOp In str ref")
section
open PySem PySem.W PySem.Spec PySem.Calls PyProof.Rows
/-- the answers of a fixed order: what a sort that asks comes to, and that it asks of its own items only -/
noncomputable def krun {α : Type} (n : Nat) (lt : Nat → Nat → Bool) : KasT α → Option α
  | .ret a => some a
  | .ask i j k => if i < n ∧ j < n then krun n lt (k (lt i j)) else none
theorem krun_wp {α : Type} {n : Nat} {lt : Nat → Nat → Bool} {cmp : Nat → Nat → (Bool → Shared → Prop) → Shared → Prop} {Q : α → Shared → Prop} {I : Shared → Prop} (hc : ∀ i j C s, i < n → j < n → I s → (∀ s', I s' → C (lt i j) s') → cmp i j C s) :
    ∀ (t : KasT α) (a : α) (s : Shared), krun n lt t = some a → I s → (∀ s', I s' → Q a s') → t.kasWp cmp Q s
  | .ret b, a, s, h, hi, hq => by
    cases h; exact hq s hi
  | .ask i j k, a, s, h, hi, hq => by
    unfold krun at h
    split at h
    · rename_i hb
      exact hc i j _ s hb.1 hb.2 hi fun s' hi' => krun_wp hc (k (lt i j)) a s' h hi' hq
    · cases h
noncomputable def rlt (r : List Nat) (i j : Nat) : Bool := decide (r.getD i 0 < r.getD j 0)
/-- all lists of n out of those below k -/
noncomputable def ins (x : Nat) : List Nat → List (List Nat)
  | [] => [[x]]
  | y :: l => (x :: y :: l) :: (ins x l).map (y :: ·)
noncomputable def perms : Nat → List (List Nat)
  | 0 => [[]]
  | n + 1 => (perms n).flatMap (ins n)
noncomputable def sortOk (n : Nat) (r : List Nat) : Bool := match krun n (rlt r) (kas_sort n) with
  | some p => p.toList.map (fun i => r.getD i 0) == List.range n && p.size == n && p.toList.all (· < n)
  | none => false
theorem sort3 : (perms 3).all (sortOk 3) = true := by decide +kernel
theorem sort4 : (perms 4).all (sortOk 4) = true := by decide +kernel
theorem sort5 : (perms 5).all (sortOk 5) = true := by decide +kernel
theorem sort6 : (perms 6).all (sortOk 6) = true := by decide +kernel
theorem ins_mem (x : Nat) : ∀ (a b : List Nat), a ++ x :: b ∈ ins x (a ++ b)
  | [], [] => by simp [ins]
  | [], y :: b => by simp [ins]
  | z :: a, b => by
    show z :: (a ++ x :: b) ∈ ins x (z :: (a ++ b))
    unfold ins
    exact List.mem_cons_of_mem _ (List.mem_map_of_mem (ins_mem x a b))
theorem nodup_sub' {α : Type} [BEq α] [LawfulBEq α] : ∀ {l T : List α}, l.Nodup → (∀ x ∈ l, x ∈ T) → l.length ≤ T.length
  | [], _, _, _ => Nat.zero_le _
  | a :: l, T, hn, h => by
    have hn' := List.nodup_cons.mp hn
    have ha : a ∈ T := h a (.head _)
    have h2 : ∀ x ∈ l, x ∈ T.erase a := fun x hx => by
      have hne : x ≠ a := fun e => hn'.1 (e ▸ hx)
      exact (List.mem_erase_of_ne hne).mpr (h x (.tail _ hx))
    have h3 := nodup_sub' hn'.2 h2
    have h4 := List.length_erase_of_mem ha
    have h5 : 0 < T.length := List.length_pos_of_mem ha
    rw [List.length_cons]; lia
theorem mem_perms : ∀ (n : Nat) (l : List Nat), l.length = n → l.Nodup → (∀ x ∈ l, x < n) → l ∈ perms n
  | 0, l, hl, _, _ => by rw [List.length_eq_zero_iff.mp hl]; simp [perms]
  | n + 1, l, hl, hn, hb => by
    have hmem : n ∈ l := Classical.byContradiction fun hc => by
      have := nodup_sub' (T := List.range n) hn fun x hx => by
        have h1 := hb x hx
        have h2 : x ≠ n := fun e => hc (e ▸ hx)
        exact List.mem_range.mpr (by lia)
      rw [List.length_range] at this; lia
    obtain ⟨a, b, rfl⟩ := List.append_of_mem hmem
    have hn2 : (a ++ b).Nodup ∧ n ∉ a ++ b := by
      have h1 := List.nodup_append.mp hn
      have h2 := List.nodup_cons.mp h1.2.1
      refine ⟨List.nodup_append.mpr ⟨h1.1, h2.2, fun x hx y hy => h1.2.2 x hx y (.tail _ hy)⟩, fun hm => ?_⟩
      rcases List.mem_append.mp hm with hm | hm
      · exact h1.2.2 n hm n (.head _) rfl
      · exact h2.1 hm
    unfold perms
    refine List.mem_flatMap.mpr ⟨a ++ b, mem_perms n (a ++ b) (by simp at hl ⊢; lia) hn2.1 fun x hx => ?_, ins_mem n a b⟩
    have h1 := hb x (by rcases List.mem_append.mp hx with h | h <;> simp [h])
    have h2 : x ≠ n := fun e => hn2.2 (e ▸ hx)
    lia
theorem sort_perm {n : Nat} (h3 : 3 ≤ n) (h6 : n ≤ 6) (r : List Nat) (hl : r.length = n) (hn : r.Nodup) (hb : ∀ x ∈ r, x < n) : sortOk n r = true := by
  have hm := mem_perms n r hl hn hb
  have : n = 3 ∨ n = 4 ∨ n = 5 ∨ n = 6 := by lia
  rcases this with rfl | rfl | rfl | rfl
  · exact List.all_eq_true.mp sort3 r hm
  · exact List.all_eq_true.mp sort4 r hm
  · exact List.all_eq_true.mp sort5 r hm
  · exact List.all_eq_true.mp sort6 r hm
theorem krun_congr {α : Type} {n : Nat} {lt lt' : Nat → Nat → Bool} (h : ∀ i j, i < n → j < n → lt i j = lt' i j) : ∀ t : KasT α, krun n lt t = krun n lt' t
  | .ret a => rfl
  | .ask i j k => by
    unfold krun
    by_cases hb : i < n ∧ j < n
    · rw [if_pos hb, if_pos hb, h i j hb.1 hb.2]; exact krun_congr h (k (lt' i j))
    · rw [if_neg hb, if_neg hb]
noncomputable def rk (n : Nat) (K : Nat → Nat) (i : Nat) : Nat := ((List.range n).filter fun j => decide (K j < K i)).length
theorem rk_lt {n : Nat} {K : Nat → Nat} {i : Nat} (hi : i < n) : rk n K i < n := by
  have h1 : (i :: (List.range n).filter fun j => decide (K j < K i)).length ≤ (List.range n).length := by
    refine nodup_sub' (List.nodup_cons.mpr ⟨fun h => ?_, List.nodup_range.filter _⟩) fun x hx => ?_
    · have := (List.mem_filter.mp h).2
      simp at this
    · rcases List.mem_cons.mp hx with rfl | hx
      · exact List.mem_range.mpr hi
      · exact (List.mem_filter.mp hx).1
  rw [List.length_cons, List.length_range] at h1
  exact h1
theorem rk_mono {n : Nat} {K : Nat → Nat} {i j : Nat} (hi : i < n) (h : K i < K j) : rk n K i < rk n K j := by
  have h1 : (i :: (List.range n).filter fun k => decide (K k < K i)).length ≤ ((List.range n).filter fun k => decide (K k < K j)).length := by
    refine nodup_sub' (List.nodup_cons.mpr ⟨fun h => ?_, List.nodup_range.filter _⟩) fun x hx => ?_
    · have := (List.mem_filter.mp h).2
      simp at this
    · rcases List.mem_cons.mp hx with rfl | hx
      · exact List.mem_filter.mpr ⟨List.mem_range.mpr hi, by simpa using h⟩
      · have h2 := List.mem_filter.mp hx
        have h3 : K x < K i := by simpa using h2.2
        exact List.mem_filter.mpr ⟨h2.1, by simpa using Nat.lt_trans h3 h⟩
  rw [List.length_cons] at h1
  exact h1
theorem rk_iff {n : Nat} {K : Nat → Nat} (hK : ∀ i j, i < n → j < n → K i = K j → i = j) {i j : Nat} (hi : i < n) (hj : j < n) : rk n K i < rk n K j ↔ K i < K j := by
  refine ⟨fun h => ?_, rk_mono hi⟩
  rcases Nat.lt_trichotomy (K i) (K j) with h1 | h1 | h1
  · exact h1
  · have := hK i j hi hj h1
    subst this
    exact absurd h (Nat.lt_irrefl _)
  · exact absurd (Nat.lt_trans h (rk_mono hj h1)) (Nat.lt_irrefl _)
theorem sort_by {n : Nat} (h3 : 3 ≤ n) (h6 : n ≤ 6) (K : Nat → Nat) (hK : ∀ i j, i < n → j < n → K i = K j → i = j) :
    ∃ p : List Nat, krun n (fun i j => decide (K i < K j)) (kas_sort n) = some p.toArray ∧ p.length = n ∧ (∀ x ∈ p, x < n) ∧ p.Nodup ∧ (p.map K).Pairwise (· < ·) := by
  let r : List Nat := (List.range n).map (rk n K)
  have hget : ∀ i, i < n → r.getD i 0 = rk n K i := fun i hi => by
    rw [List.getD_eq_getElem?_getD, List.getElem?_map, List.getElem?_range hi]; rfl
  have hr : sortOk n r = true := by
    refine sort_perm h3 h6 r (by simp [r]) ?_ fun x hx => ?_
    · refine List.pairwise_map.mpr ?_
      refine List.Pairwise.imp_of_mem ?_ List.nodup_range
      intro a b ha hb hab e
      have ha' := List.mem_range.mp ha
      have hb' := List.mem_range.mp hb
      rcases Nat.lt_trichotomy (K a) (K b) with h1 | h1 | h1
      · have := rk_mono (n := n) ha' h1; lia
      · exact hab (hK a b ha' hb' h1)
      · have := rk_mono (n := n) hb' h1; lia
    · obtain ⟨i, hi, rfl⟩ := List.mem_map.mp hx
      exact rk_lt (List.mem_range.mp hi)
  have hc : krun n (fun i j => decide (K i < K j)) (kas_sort n) = krun n (rlt r) (kas_sort n) := krun_congr (fun i j hi hj => by
    unfold rlt
    rw [hget i hi, hget j hj]
    exact decide_eq_decide.mpr (rk_iff hK hi hj).symm) _
  unfold sortOk at hr
  split at hr
  · rename_i p hp
    simp only [Bool.and_eq_true, beq_iff_eq, List.all_eq_true, decide_eq_true_eq] at hr
    obtain ⟨⟨hm, hs⟩, hall⟩ := hr
    have hb : ∀ x ∈ p.toList, x < n := hall
    have hpw : p.toList.Pairwise fun x y => r.getD x 0 < r.getD y 0 := List.pairwise_map.mp (hm ▸ List.pairwise_lt_range)
    refine ⟨p.toList, by rw [hc, hp], by rw [Array.length_toList, hs], hb, ?_, List.pairwise_map.mpr ?_⟩
    · refine hpw.imp ?_
      intro a b h e
      rw [e] at h
      exact Nat.lt_irrefl _ h
    · refine List.Pairwise.imp_of_mem ?_ hpw
      intro a b ha hb' h
      rw [hget a (hb a ha), hget b (hb b hb')] at h
      exact (rk_iff hK (hb a ha) (hb b hb')).mp h
  · cases hr
end
section
open PySem PySem.W PySem.Spec PySem.Calls PyProof.Rows
abbrev Key := Int × Int × Str
/-- what a tuple told by data is made of -/
theorem tup_inv {tl : List (Addr × Obj)} {v : Value} {ds : List Dat} (h : DatIn tl v (.tuple ds)) : Sm3 fun a vs n => Al3 (v = .ref a) ((a, ({ cls := .type "tuple", data := .seq (List.toArray vs) n } : Obj)) ∈ tl) (DatAll tl vs ds) := by
  cases h with
  | tuple hm hd => exact ⟨_, _, _, rfl, hm, hd⟩
theorem all_inv {tl : List (Addr × Obj)} {vs : List Value} {d : Dat} {ds : List Dat} (h : DatAll tl vs (d :: ds)) : Sm2 fun v ws => Al3 (vs = v :: ws) (DatIn tl v d) (DatAll tl ws ds) := by
  cases h with
  | cons h1 h2 => exact ⟨_, _, rfl, h1, h2⟩
theorem nil_inv {tl : List (Addr × Obj)} {vs : List Value} (h : DatAll tl vs []) : vs = [] := by
  cases h; rfl
theorem int_inv {tl : List (Addr × Obj)} {v : Value} {i : Int} (h : DatIn tl v (.int i)) : ∃ t, v = .int i t := by
  cases h; exact ⟨_, rfl⟩
theorem str_inv {tl : List (Addr × Obj)} {v : Value} {x : Str} (h : DatIn tl v (.str x)) : ∃ t, v = .str x t := by
  cases h; exact ⟨_, rfl⟩
noncomputable def kdat (x : Key) : Dat := .tuple [.int x.1, .int x.2.1, .str x.2.2]
theorem kdat_tup {tl : List (Addr × Obj)} {v : Value} {x : Key} (h : DatIn tl v (kdat x)) : Sm5 fun a t1 t2 t3 n => v = .ref a ∧ (a, ({ cls := .type "tuple", data := .seq (List.toArray [.int x.1 t1, .int x.2.1 t2, .str x.2.2 t3]) n } : Obj)) ∈ tl := by
  unfold kdat at h
  obtain ⟨a, vs, n, rfl, hm, hd⟩ := tup_inv h
  obtain ⟨v0, vs0, rfl, h0, hd0⟩ := all_inv hd
  obtain ⟨v1, vs1, rfl, h1, hd1⟩ := all_inv hd0
  obtain ⟨v2, vs2, rfl, h2, hd2⟩ := all_inv hd1
  obtain ⟨t0, rfl⟩ := int_inv h0
  obtain ⟨t1, rfl⟩ := int_inv h1
  obtain ⟨t2, rfl⟩ := str_inv h2
  obtain rfl := nil_inv hd2
  exact ⟨a, t0, t1, t2, n, rfl, hm⟩
section
variable {prog : Program} {w : World} {A : Around} {E : Value → Shared → Prop} {s : Shared} {h₀ : Heap} {L : Addr} {m : Str → Option Value} {news : List (Addr × Obj)}
theorem kat_tups (N : News h₀ L s.heap news) : ∀ (vs : List Value) (ks : List Key), DatAll news vs (ks.map kdat) → ∃ fs, KatTups s.heap vs fs ∧ fs.length = ks.length ∧ ∀ v ∈ fs, ∃ i t, v = .int i t
  | [], [], _ => ⟨[], .nil, rfl, fun _ h => nomatch h⟩
  | [], _ :: _, h => nomatch h
  | _ :: _, [], h => nomatch h
  | v :: vs, k :: ks, h => by
    cases h with
    | cons h1 r =>
      obtain ⟨fs, a, b, c⟩ := kat_tups N vs ks r
      obtain ⟨a9, t1, t2, t3, n, rfl, hm⟩ := kdat_tup h1
      refine ⟨.int k.1 t1 :: fs, .cons (N _ hm).1 rfl rfl rfl a, by rw [List.length_cons, b, List.length_cons], fun v hv => ?_⟩
      rcases List.mem_cons.mp hv with rfl | hv
      · exact ⟨_, _, rfl⟩
      · exact c v hv
theorem ask_keys {vs : List Value} {ks : List Key} (N : News h₀ L s.heap news) (hD : DatAll news vs (ks.map kdat)) {i j : Nat} (hi : i < ks.length) (hj : j < ks.length) {C : Bool → Shared → Prop}
    (h : C (decide (ks[i].1 < ks[j].1 ∨ (ks[i].1 = ks[j].1 ∧ ks[i].2.1 < ks[j].2.1))) s) (hne : i = j ∨ ks[i].2.1 ≠ ks[j].2.1) : kas_ask prog w A (tuples' true) vs i j C s := by
  obtain ⟨v, hv, hd⟩ := hD.get (k := i) (by simpa using hi)
  obtain ⟨v', hv', hd'⟩ := hD.get (k := j) (by simpa using hj)
  rw [List.getElem_map] at hd hd'
  obtain ⟨a, t1, t2, t3, n, rfl, hm⟩ := kdat_tup hd
  obtain ⟨a', u1, u2, u3, n', rfl, hm'⟩ := kdat_tup hd'
  unfold kas_ask
  rw [List.getD_eq_getElem?_getD, List.getD_eq_getElem?_getD, hv, hv']
  refine kat_lt (N _ hm).1 rfl (N _ hm').1 rfl ?_
  refine kat_cons (wpAny_eqBool_int (kat_go (fun e => ?_) fun e => ?_))
  · have e1 : ks[i].1 = ks[j].1 := by simpa using e
    refine kat_yes ?_
    refine kat_cons (wpAny_eqBool_int (kat_go (fun e => ?_) fun e => ?_))
    · have e2 : ks[i].2.1 = ks[j].2.1 := by simpa using e
      have hij : i = j := hne.resolve_right fun h => h e2
      subst hij
      refine kat_yes ?_
      refine kat_cons (wpAny_eqBool_str (kat_go (fun e => ?_) fun e => ?_))
      · refine kat_yes (kat_nil ?_)
        have : decide (ks[i].1 < ks[i].1 ∨ (ks[i].1 = ks[i].1 ∧ ks[i].2.1 < ks[i].2.1)) = false := by simp
        rw [this] at h
        exact h
      · simp at e
    · refine kat_no ?_
      have e2 : ¬ ks[i].2.1 = ks[j].2.1 := by simpa using e
      refine kat_one _ _ ?_
      have hh : decide (ks[i].1 < ks[j].1 ∨ (ks[i].1 = ks[j].1 ∧ ks[i].2.1 < ks[j].2.1)) = decide (ks[i].2.1 < ks[j].2.1) := by
        rw [decide_eq_decide]; omega
      rw [hh] at h
      exact wpAny_lt_int (by dsimp only [W.BoolBack]; exact h)
  · refine kat_no ?_
    have e1 : ¬ ks[i].1 = ks[j].1 := by simpa using e
    refine oneLt_int ?_
    have hh : decide (ks[i].1 < ks[j].1 ∨ (ks[i].1 = ks[j].1 ∧ ks[i].2.1 < ks[j].2.1)) = decide (ks[i].1 < ks[j].1) := by
      rw [decide_eq_decide]; omega
    rw [hh] at h
    exact h
/-- sorted of a ledger's list of (int, int, str) -/
theorem sorted_keys {l : Addr} {vs : List Value} {n : Nat} {ks : List Key} {Q : Value → Shared → Prop} (F : Fr h₀ L s.heap m) (N : News h₀ L s.heap news) (hl : (l, W.listOf vs.toArray n) ∈ news) (hD : DatAll news vs (ks.map kdat)) (h3 : 3 ≤ ks.length) (h6 : ks.length ≤ 6)
    (K : Nat → Nat) (hinj : ∀ i j, i < ks.length → j < ks.length → K i = K j → i = j) (hne : ∀ i j (hi : i < ks.length) (hj : j < ks.length), i = j ∨ ks[i].2.1 ≠ ks[j].2.1)
    (hK : ∀ i j (hi : i < ks.length) (hj : j < ks.length), (ks[i].1 < ks[j].1 ∨ (ks[i].1 = ks[j].1 ∧ ks[i].2.1 < ks[j].2.1)) ↔ K i < K j)
    (h : ∀ (p : List Nat) D e h' tk, krun ks.length (fun i j => decide (K i < K j)) (kas_sort ks.length) = some p.toArray → p.length = ks.length → (∀ x ∈ p, x < ks.length) → p.Nodup → (p.map K).Pairwise (· < ·) → Fr h₀ L h' m →
      News h₀ L h' ((D, W.listOf (p.map fun i => vs.getD i Value.none).toArray e) :: news) → (∀ q ∈ news, q.1 < D) → Q (.ref D) { s with heap := h', toks := tk }) :
    wpAny (model prog w) A (call (.builtin "sorted") [.ref l]) Q E s := by
  have hlen : vs.length = ks.length := by rw [hD.length, List.length_map]
  obtain ⟨p, hp, hpl, hpb, hpn, hpw⟩ := sort_by h3 h6 K hinj
  refine kat_sorted F N ⟨_, (N _ hl).1, rfl, n, rfl⟩ (by omega) (by omega) fun D e1 h' F' N' lD => ?_
  have N₂ : News h₀ L h' news := fun q hq => N' q (List.mem_cons_of_mem _ hq)
  obtain ⟨fs, ht, hfl, hfi⟩ := kat_tups (s := { s with heap := h' }) N₂ vs ks hD
  refine kat_kind (T := .type "int") ht (by omega) (fun v hv => ?_) (by decide) ?_
  · obtain ⟨i, t, rfl⟩ := hfi v hv
    exact .now
  show (kas_sort vs.length).kasWp (kas_ask prog w A.in1.in1 (tuples' true) vs) _ _
  rw [hlen]
  refine krun_wp (I := fun s' => s' = { s with heap := h' }) (lt := fun i j => decide (K i < K j)) (n := ks.length) (fun i j C s' hi hj hI hC => ?_) _ _ _ hp rfl (fun s' hI => ?_)
  · subst hI
    refine ask_keys (s := { s with heap := h' }) N₂ hD hi hj ?_ (hne i j hi hj)
    have e : decide (ks[i].1 < ks[j].1 ∨ (ks[i].1 = ks[j].1 ∧ ks[i].2.1 < ks[j].2.1)) = decide (K i < K j) := decide_eq_decide.mpr (hK i j hi hj)
    rw [e]
    exact hC _ rfl
  · subst hI
    refine KasFin.intro (g := fun o => (D, o) :: news) F' N' (UpdF.head fun q hq => Nat.ne_of_lt (lD q hq)) fun h'' c F'' N'' => ?_
    exact h p D c h'' _ hp hpl hpb hpn hpw F'' N'' lD
end
end
section

/-- what comes of the line: nought where it is empty -/
noncomputable def qpop : List Nat → Nat × List Nat
  | [] => (0, [])
  | v :: q => (v, q)
noncomputable def qgo (b size : Nat) : Nat → Nat → List Nat → Option (Nat × List Nat)
  | 0, _, _ => none
  | f + 1, node, q => if node ≠ 0 ∧ node < 16 ^ size then qgo b size f (qpop (q ++ (List.range b).map (16 * node + ·))).1 (qpop (q ++ (List.range b).map (16 * node + ·))).2 else some (node, q)
noncomputable def qcodes (b : Nat) : List Nat → List Nat → Option (List Nat × List Nat)
  | [], q => some ([], q)
  | s :: l, q => match qgo b s 100 (qpop q).1 (qpop q).2 with
    | none => none
    | some (node, q') => match qcodes b l q' with
      | none => none
      | some (c, q'') => some (node :: c, q'')
/-- a value in so many figures, a one ahead -/
noncomputable def nodeP (b v size : Nat) : Nat := (List.range size).foldl (fun node place => 16 * node + v / b ^ (size - 1 - place) % b) 1
noncomputable def dueP (b : Nat) : List Nat → Nat → List Nat
  | [], _ => []
  | s :: l, taken => (if taken < b ^ (6 - b) then nodeP b (taken / b ^ (6 - b - s)) s else 0) :: dueP b l (taken + b ^ (6 - b - s))
noncomputable def takenP (b : Nat) : List Nat → Nat → Nat
  | [], t => t
  | s :: l, t => takenP b l (t + b ^ (6 - b - s))
noncomputable def leftP (b : Nat) (l : List Nat) : List Nat :=
  (List.range' (takenP b l 0 / b ^ (6 - b - l.getLast?.getD 0)) (b ^ l.getLast?.getD 0 - takenP b l 0 / b ^ (6 - b - l.getLast?.getD 0))).map fun v => nodeP b v (l.getLast?.getD 0)
/-- all rising lists of n sizes from a to m -/
noncomputable def rising (m : Nat) : Nat → Nat → List (List Nat)
  | 0, _ => [[]]
  | n + 1, a => (List.range' a (m + 1 - a)).flatMap fun x => (rising m n x).map (x :: ·)
noncomputable def agree (b : Nat) (l : List Nat) : Bool := match qcodes b l [1] with
  | some (c, q) => c == dueP b l 0 && q == leftP b l && q.all (· != 0)
  | none => false
/-- no code begins another; a code of size s is a one and s figures -/
noncomputable def freeP (l c : List Nat) : Bool := c.length == l.length && c.headD 0 != 0 && (List.range c.length).all fun k => c.getD k 0 == 0 ||
  (c.getD k 0 / 16 ^ l.getD k 0 == 1 && (List.range c.length).all fun j => j == k || c.getD j 0 == 0 || (List.range 5).all fun i => c.getD k 0 / 16 ^ i != c.getD j 0)
noncomputable def freeD (b : Nat) (l : List Nat) : Bool := freeP l (dueP b l 0)
theorem free2 : ((rising 4 3 1) ++ (rising 4 4 1) ++ (rising 4 5 1) ++ (rising 4 6 1)).all (freeD 2) = true := by decide +kernel
theorem free3 : ((rising 3 3 1) ++ (rising 3 4 1) ++ (rising 3 5 1) ++ (rising 3 6 1)).all (freeD 3) = true := by decide +kernel
theorem agree2 : ((rising 4 3 1) ++ (rising 4 4 1) ++ (rising 4 5 1) ++ (rising 4 6 1)).all (agree 2) = true := by decide +kernel
theorem agree3 : ((rising 3 3 1) ++ (rising 3 4 1) ++ (rising 3 5 1) ++ (rising 3 6 1)).all (agree 3) = true := by decide +kernel
theorem mem_rising (m : Nat) : ∀ (n a : Nat) (l : List Nat), l.length = n → (∀ x ∈ l, a ≤ x ∧ x ≤ m) → l.Pairwise (· ≤ ·) → l ∈ rising m n a
  | 0, a, l, hl, _, _ => by rw [List.length_eq_zero_iff.mp hl]; simp [rising]
  | n + 1, a, l, hl, hb, hp => by
    match l, hl with
    | x :: r, hl =>
      have hx := hb x (.head _)
      have hp' := List.pairwise_cons.mp hp
      unfold rising
      refine List.mem_flatMap.mpr ⟨x, List.mem_range'_1.mpr (by lia), List.mem_map_of_mem (mem_rising m n x r (by simpa using hl) (fun y hy => ⟨hp'.1 y hy, (hb y (.tail _ hy)).2⟩) hp'.2)⟩
theorem agree_free {b : Nat} (hb : b = 2 ∨ b = 3) {l : List Nat} (h3 : 3 ≤ l.length) (h6 : l.length ≤ 6) (hl : ∀ x ∈ l, 1 ≤ x ∧ x ≤ 6 - b) (hp : l.Pairwise (· ≤ ·)) : agree b l = true ∧ freeD b l = true := by
  have hlen : l.length = 3 ∨ l.length = 4 ∨ l.length = 5 ∨ l.length = 6 := by lia
  rcases hb with rfl | rfl
  · have hm : l ∈ (rising 4 3 1) ++ (rising 4 4 1) ++ (rising 4 5 1) ++ (rising 4 6 1) := by
      simp only [List.mem_append]
      rcases hlen with h | h | h | h
      · exact .inl (.inl (.inl (mem_rising 4 3 1 l h hl hp)))
      · exact .inl (.inl (.inr (mem_rising 4 4 1 l h hl hp)))
      · exact .inl (.inr (mem_rising 4 5 1 l h hl hp))
      · exact .inr (mem_rising 4 6 1 l h hl hp)
    exact ⟨List.all_eq_true.mp agree2 l hm, List.all_eq_true.mp free2 l hm⟩
  · have hm : l ∈ (rising 3 3 1) ++ (rising 3 4 1) ++ (rising 3 5 1) ++ (rising 3 6 1) := by
      simp only [List.mem_append]
      rcases hlen with h | h | h | h
      · exact .inl (.inl (.inl (mem_rising 3 3 1 l h hl hp)))
      · exact .inl (.inl (.inr (mem_rising 3 4 1 l h hl hp)))
      · exact .inl (.inr (mem_rising 3 5 1 l h hl hp))
      · exact .inr (mem_rising 3 6 1 l h hl hp)
    exact ⟨List.all_eq_true.mp agree3 l hm, List.all_eq_true.mp free3 l hm⟩
end
section

/-- a number's last s figures, to sixteen -/
noncomputable def dg : Nat → Nat → List Nat
  | 0, _ => []
  | s + 1, c => dg s (c / 16) ++ [c % 16]
noncomputable def valN (x : Nat) (l : List Nat) : Nat := l.foldl (fun x d => 16 * x + d) x
theorem valN_app (x : Nat) (a b : List Nat) : valN x (a ++ b) = valN (valN x a) b := by unfold valN; rw [List.foldl_append]
theorem valN_snoc (x : Nat) (a : List Nat) (d : Nat) : valN x (a ++ [d]) = 16 * valN x a + d := by rw [valN_app]; rfl
theorem dg_len : ∀ s c, (dg s c).length = s
  | 0, _ => rfl
  | s + 1, c => by rw [dg, List.length_append, dg_len s]; rfl
theorem dg_lt : ∀ s c, ∀ d ∈ dg s c, d < 16
  | 0, _, d, h => nomatch h
  | s + 1, c, d, h => by
    rcases List.mem_append.mp h with h | h
    · exact dg_lt s _ d h
    · rw [List.mem_singleton.mp h]; exact Nat.mod_lt _ (by decide)
theorem val_dg (x : Nat) : ∀ s c, c / 16 ^ s = x → valN x (dg s c) = c
  | 0, c, h => by rw [Nat.pow_zero, Nat.div_one] at h; exact h.symm
  | s + 1, c, h => by
    rw [dg, valN_snoc, val_dg x s (c / 16) (by rw [Nat.div_div_eq_div_mul, Nat.mul_comm, ← Nat.pow_succ]; exact h)]
    lia
theorem val_add (T : Nat) : ∀ l : List Nat, valN T l = T * 16 ^ l.length + valN 0 l := by
  intro l
  induction l generalizing T with
  | nil => show T = T * 1 + 0; lia
  | cons d l ih =>
    show valN (16 * T + d) l = T * 16 ^ (l.length + 1) + valN (16 * 0 + d) l
    rw [ih (16 * T + d), ih (16 * 0 + d), Nat.pow_succ, Nat.mul_zero, Nat.zero_add, Nat.add_mul, Nat.add_assoc]
    congr 1
    rw [Nat.mul_comm 16 T, Nat.mul_assoc, Nat.mul_comm 16]
theorem val_pos {T : Nat} (hT : 1 ≤ T) (l : List Nat) : 1 ≤ valN T l := by
  have := val_add T l
  have h2 : 1 ≤ T * 16 ^ l.length := Nat.mul_pos hT (Nat.pow_pos (by decide))
  lia
theorem val_zero_lt : ∀ l : List Nat, (∀ d ∈ l, d < 16) → valN 0 l < 16 ^ l.length := by
  intro l h
  have : ∀ (l : List Nat) (x : Nat), (∀ d ∈ l, d < 16) → valN x l < (x + 1) * 16 ^ l.length := by
    intro l
    induction l with
    | nil => intro x _; show x < (x + 1) * 1; lia
    | cons d l ih =>
      intro x hd
      have h1 := ih (16 * x + d) fun e he => hd e (.tail _ he)
      have h2 := hd d (.head _)
      refine Nat.lt_of_lt_of_le h1 ?_
      rw [List.length_cons, Nat.pow_succ, Nat.mul_comm (16 ^ l.length) 16, ← Nat.mul_assoc]
      exact Nat.mul_le_mul_right _ (by lia)
  have h2 := this l 0 h
  rw [Nat.zero_add, Nat.one_mul] at h2
  exact h2
theorem val_step {T c s : Nat} (hT : 1 ≤ T) (h : c / 16 ^ s = 1) : (T - 1) * 16 ^ s + c = valN T (dg s c) := by
  have h1 := val_dg 1 s c h
  rw [val_add, dg_len] at h1
  rw [val_add, dg_len]
  obtain ⟨t, rfl⟩ : ∃ t, T = t + 1 := ⟨T - 1, by lia⟩
  rw [Nat.add_sub_cancel, Nat.add_mul]
  lia
/-- the inner loop, over the dict's pairs -/
noncomputable def inn {α : Type} (l : List (α × Nat)) (st : Nat × List α) : Nat × List α := l.foldl (fun st p => if p.2 = st.1 then (1, st.2 ++ [p.1]) else st) st
/-- the outer loop, over the figures -/
noncomputable def decN {α : Type} (l : List (α × Nat)) (st : Nat × List α) (ds : List Nat) : Nat × List α := ds.foldl (fun st d => inn l (16 * st.1 + d, st.2)) st
theorem inn_none {α : Type} {x : Nat} {t : List α} : ∀ l : List (α × Nat), (∀ p ∈ l, p.2 ≠ x) → inn l (x, t) = (x, t)
  | [], _ => rfl
  | p :: l, h => by
    unfold inn
    rw [List.foldl_cons, if_neg (h p (.head _))]
    exact inn_none l fun q hq => h q (.tail _ hq)
theorem inn_one {α : Type} {c : Nat} {a : α} {t : List α} : ∀ l : List (α × Nat), (∀ p ∈ l, p.2 ≠ 1) → (l.map (·.2)).Nodup → (a, c) ∈ l → inn l (c, t) = (1, t ++ [a])
  | [], _, _, h => nomatch h
  | p :: l, h1, hn, h => by
    unfold inn
    rw [List.foldl_cons]
    rcases List.mem_cons.mp h with rfl | h
    · rw [if_pos rfl]
      exact inn_none l fun q hq => h1 q (.tail _ hq)
    · rw [List.map_cons] at hn
      have hn' := List.nodup_cons.mp hn
      rw [if_neg (fun e => hn'.1 (by rw [e]; exact List.mem_map_of_mem h))]
      exact inn_one l (fun q hq => h1 q (.tail _ hq)) hn'.2 h
theorem dec_none {α : Type} {l : List (α × Nat)} {t : List α} : ∀ s c, c / 16 ^ s = 1 → (∀ e, e < s → ∀ p ∈ l, p.2 ≠ c / 16 ^ e) → decN l (1, t) (dg s c) = (c, t)
  | 0, c, h, _ => by rw [Nat.pow_zero, Nat.div_one] at h; rw [h]; rfl
  | s + 1, c, h, hp => by
    have h' : c / 16 / 16 ^ s = 1 := by rw [Nat.div_div_eq_div_mul, Nat.mul_comm, ← Nat.pow_succ]; exact h
    unfold decN
    rw [dg, List.foldl_append]
    have ih := dec_none (l := l) (t := t) s (c / 16) h' (fun e he p hm => by
      rw [Nat.div_div_eq_div_mul, Nat.mul_comm, ← Nat.pow_succ]; exact hp (e + 1) (by lia) p hm)
    unfold decN at ih
    rw [ih, List.foldl_cons, List.foldl_nil]
    dsimp only
    rw [show 16 * (c / 16) + c % 16 = c by lia]
    exact inn_none l fun p hm => by have := hp 0 (by lia) p hm; rwa [Nat.pow_zero, Nat.div_one] at this
theorem dec_one {α : Type} {l : List (α × Nat)} {t : List α} {a : α} {s c : Nat} (h : c / 16 ^ s = 1) (hs : 1 ≤ s) (hp : ∀ e, 1 ≤ e → e < s → ∀ p ∈ l, p.2 ≠ c / 16 ^ e) (h1 : ∀ p ∈ l, p.2 ≠ 1) (hn : (l.map (·.2)).Nodup) (hm : (a, c) ∈ l) : decN l (1, t) (dg s c) = (1, t ++ [a]) := by
  obtain ⟨s, rfl⟩ : ∃ s', s = s' + 1 := ⟨s - 1, by lia⟩
  have h' : c / 16 / 16 ^ s = 1 := by rw [Nat.div_div_eq_div_mul, Nat.mul_comm, ← Nat.pow_succ]; exact h
  unfold decN
  rw [dg, List.foldl_append]
  have ih := dec_none (l := l) (t := t) s (c / 16) h' (fun e he p hm => by
    rw [Nat.div_div_eq_div_mul, Nat.mul_comm, ← Nat.pow_succ]; exact hp (e + 1) (by lia) (by lia) p hm)
  unfold decN at ih
  rw [ih, List.foldl_cons, List.foldl_nil]
  dsimp only
  rw [show 16 * (c / 16) + c % 16 = c by lia]
  exact inn_one l h1 hn hm
theorem dec_all {α κ : Type} {l : List (α × Nat)} {sz c : κ → Nat} {nm : κ → α} (h1 : ∀ p ∈ l, p.2 ≠ 1) (hn : (l.map (·.2)).Nodup) : ∀ (M : List κ) (t : List α),
    (∀ k ∈ M, c k / 16 ^ sz k = 1 ∧ 1 ≤ sz k ∧ (∀ e, 1 ≤ e → e < sz k → ∀ p ∈ l, p.2 ≠ c k / 16 ^ e) ∧ (nm k, c k) ∈ l) → decN l (1, t) (M.flatMap fun k => dg (sz k) (c k)) = (1, t ++ M.map nm)
  | [], t, _ => by simp [decN]
  | k :: M, t, h => by
    have hk := h k (.head _)
    rw [List.flatMap_cons]
    unfold decN
    rw [List.foldl_append]
    have e := dec_one (t := t) hk.1 hk.2.1 hk.2.2.1 h1 hn hk.2.2.2
    unfold decN at e
    rw [e]
    have ih := dec_all (l := l) (sz := sz) (c := c) (nm := nm) h1 hn M (t ++ [nm k]) fun j hj => h j (.tail _ hj)
    unfold decN at ih
    rw [ih, List.map_cons, List.append_assoc]
    rfl
/-- the whole number -/
theorem tot_step {κ : Type} (sz c : κ → Nat) (M : List κ) (k : κ) (h : c k / 16 ^ sz k = 1) : valN 1 ((M ++ [k]).flatMap fun k => dg (sz k) (c k)) = (valN 1 (M.flatMap fun k => dg (sz k) (c k)) - 1) * 16 ^ sz k + c k := by
  rw [List.flatMap_append, valN_app, List.flatMap_cons, List.flatMap_nil, List.append_nil]
  exact (val_step (val_pos (Nat.le_refl 1) _) h).symm
theorem fm_len {κ : Type} (sz c : κ → Nat) : ∀ M : List κ, (∀ k ∈ M, sz k ≤ 4) → (M.flatMap fun k => dg (sz k) (c k)).length ≤ 4 * M.length
  | [], _ => by simp
  | k :: M, h => by
    have := fm_len sz c M fun j hj => h j (.tail _ hj)
    have := h k (.head _)
    rw [List.flatMap_cons, List.length_append, dg_len, List.length_cons]; lia
theorem fm_lt {κ : Type} (sz c : κ → Nat) (M : List κ) : ∀ d ∈ M.flatMap fun k => dg (sz k) (c k), d < 16 := by
  intro d hd
  obtain ⟨k, _, h⟩ := List.mem_flatMap.mp hd
  exact dg_lt _ _ d h
theorem tot_lt {κ : Type} (sz c : κ → Nat) (M : List κ) (h4 : ∀ k ∈ M, sz k ≤ 4) (hM : M.length ≤ 12) : valN 1 (M.flatMap fun k => dg (sz k) (c k)) < 2 * 16 ^ 48 := by
  have h1 := fm_len sz c M h4
  have h2 := val_zero_lt _ (fm_lt sz c M)
  have h3 : (16:Nat) ^ (M.flatMap fun k => dg (sz k) (c k)).length ≤ 16 ^ 48 := Nat.pow_le_pow_right (by decide) (by lia)
  rw [val_add, Nat.one_mul]
  lia
end
section
open PySem PySem.W PySem.Spec PySem.Calls PyProof.Rows PyProof.Rows.LCg
section
variable {prog : Program} {w : World} {A : Around} {s : Shared} {h₀ : Heap} {L : Addr} {m : Str → Option Value} {env : Env} {news : Led}
/-- a for over a dict's names -/
theorem for_keys {Q : Value → Shared → Prop} {E : Value → Shared → Prop} {target : Expr} {body : List Stmt} {d : Addr} {oD : Obj} {kvs : List (Str × Value)} {RR : Addr → Result → Shared → Prop} (hh : A.handled = none) (F : Fr h₀ L s.heap m) (N : News h₀ L s.heap news)
    (lo : (d == sysModules) = false) (hD : oD.IsDictOf (PySem.strKind prog w) kvs)
    (J : Nat → (Str → Option Value) → Led → Prop) (hJ : J 0 m news) (hJl : ∀ i m nw, J i m nw → (d, oD) ∈ nw)
    (turn : ∀ I i k xv t m nw oI h tk, kvs[i]? = some (k, xv) → J i m nw → Fr h₀ L h m → News h₀ L h ((I, oI) :: nw) → (∀ p ∈ nw, p.1 ≠ I) → (∀ p ∈ news, p.1 < I) → ∀ s', s' = { s with heap := h, toks := tk } →
      wpAny (model prog w) A (assign target env (.str k t)) (fun _ s₂ => wpAny (model prog w) A (execs body env) (fun f s₃ => match f with
        | .next | .cont => ForGo h₀ L s I oI (J (i + 1)) s₃
        | .brk => RR I (.ok .next) s₃
        | .ret v => RR I (.ok (.ret v)) s₃) (notedBy (model prog w) A env fun e s' => RR I (.error e) s') s₂) (notedBy (model prog w) A env fun e s' => RR I (.error e) s') s')
    (fin : ∀ I m nw h tk, Fr h₀ L h m → News h₀ L h nw → J kvs.length m nw → (∀ p ∈ news, p.1 < I) → RR I (.ok .next) { s with heap := h, toks := tk })
    (k : ∀ I h', codeAny (model prog w) A (.forLoop target (.ref I) body [] env) (RR I) { s with heap := h' } → Q (.ref I) { s with heap := h' }) :
    wpAny (model prog w) A (pyIter (.ref d)) Q E s := by
  obtain ⟨es, ep, h1, h2, h3, h4, h5⟩ := id hD
  have hat : ∀ h : Heap, h.get? d = some oD → h.DictAt (PySem.strKind prog w) d kvs ep := fun h e => ⟨oD, es, e, h1, h2, h3, h4, h5⟩
  have hax := N _ (hJl _ _ _ hJ)
  have hne : d ≠ s.heap.objs.size := Nat.ne_of_lt (Heap.lt_size hax.1)
  refine wpAny_pyIter_dict lo (hat _ hax.1) (k _ _ ?_)
  have W := Walks.dictKeys (prog := prog) (w := w) (knd := PySem.strKind prog w) hh s.heap.objs.size d hne kvs ep
  have lI : ∀ p ∈ news, p.1 < s.heap.objs.size := fun p hp => Heap.lt_size (N p hp).1
  refine for_G (s := { s with heap := s.heap.push _ }) (J := J) W (fun i h st => by obtain ⟨o, e, _⟩ := st.1; exact ⟨o, e⟩) (fun i s₁ v Q E st h => letGo_keyiter st.1 h)
    (fun i h h' o m nw st e e' kk N' hj => ⟨by obtain ⟨o', q, r⟩ := st.1; rw [e] at q; cases q; exact ⟨o, e', r⟩, hat _ (N' _ (hJl _ _ _ hj)).1⟩)
    (Nat.ne_of_lt F.ns.lt) (next_is_new F) ⟨⟨_, Heap.get?_push_size _ rfl, rfl, rfl⟩, (hat _ hax.1).push _⟩ (F.push _) (N.grown fun b x e => Heap.get?_push_of_some _ e) (fun p hp => Nat.ne_of_lt (lI p hp)) hJ ?_ ?_
  · rintro i v m nw oI h tk hi ⟨k', x', hx, hk⟩ hj F' N' off
    obtain ⟨t, rfl⟩ := Value.isStrOf_shape hk
    exact turn _ i k' x' t m nw oI h tk hx hj F' N' off lI _ rfl
  · intro m nw h tk F' N' hj
    exact fin _ m nw h tk F' N' hj lI
/-- a for over a text's signs -/
theorem for_str {Q : Value → Shared → Prop} {E : Value → Shared → Prop} {x : Str} {px : Pos} {body : List Stmt} {y : Str} {ty : Tok} {RR : Addr → Result → Shared → Prop} (hh : A.handled = none) (F : Fr h₀ L s.heap m) (N : News h₀ L s.heap news)
    (J : Nat → (Str → Option Value) → Led → Prop) (hJ : J 0 m news)
    (turn : ∀ I i v m nw oI h tk, i < y.cps.size → SignAt y i v → J i m nw → Fr h₀ L h m → News h₀ L h ((I, oI) :: nw) → (∀ p ∈ nw, p.1 ≠ I) → (∀ p ∈ news, p.1 < I) → ∀ s', s' = { s with heap := h, toks := tk } →
      wpAny (model prog w) A (assign (.Name x px) env v) (fun _ s₂ => wpAny (model prog w) A (execs body env) (fun f s₃ => match f with
        | .next | .cont => ForGo h₀ L s I oI (J (i + 1)) s₃
        | .brk => RR I (.ok .next) s₃
        | .ret v => RR I (.ok (.ret v)) s₃) (notedBy (model prog w) A env fun e s' => RR I (.error e) s') s₂) (notedBy (model prog w) A env fun e s' => RR I (.error e) s') s')
    (fin : ∀ I m nw h tk, Fr h₀ L h m → News h₀ L h nw → J y.cps.size m nw → (∀ p ∈ news, p.1 < I) → RR I (.ok .next) { s with heap := h, toks := tk })
    (k : ∀ I h', codeAny (model prog w) A (.forLoop (.Name x px) (.ref I) body [] env) (RR I) { s with heap := h' } → Q (.ref I) { s with heap := h' }) :
    wpAny (model prog w) A (pyIter (.str y ty)) Q E s := by
  have lI : ∀ p ∈ news, p.1 < s.heap.objs.size := fun p hp => Heap.lt_size (N p hp).1
  cases ha : y.cps.all (· < 128)
  · refine wpAny_pyIter_wide ha (k _ _ ?_)
    refine for_G (s := { s with heap := s.heap.push _ }) (J := J) (Walks.strWide hh _ y ty) (fun i h st => by obtain ⟨o, e, _⟩ := st; exact ⟨o, e⟩) (fun i s₁ v Q E _ h => let_name h)
      (fun i h h' o m nw st e e' kk N' hj => by obtain ⟨o', q, r⟩ := st; rw [e] at q; cases q; exact ⟨o, e', r⟩)
      (Nat.ne_of_lt F.ns.lt) (next_is_new F) ⟨_, Heap.get?_push_size _ rfl, rfl, rfl⟩ (F.push _) (N.grown fun b x e => Heap.get?_push_of_some _ e) (fun p hp => Nat.ne_of_lt (lI p hp)) hJ ?_ ?_
    · rintro i v m nw oI h tk hi hv hj F' N' off
      exact turn _ i v m nw oI h tk hi hv hj F' N' off lI _ rfl
    · intro m nw h tk F' N' hj
      exact fin _ m nw h tk F' N' hj lI
  · refine wpAny_pyIter_ascii ha (k _ _ ?_)
    refine for_G (s := { s with heap := s.heap.push _ }) (J := J) (Walks.strAscii hh _ y ty) (fun i h st => by obtain ⟨o, e, _⟩ := st; exact ⟨o, e⟩) (fun i s₁ v Q E _ h => let_name h)
      (fun i h h' o m nw st e e' kk N' hj => by obtain ⟨o', q, r⟩ := st; rw [e] at q; cases q; exact ⟨o, e', r⟩)
      (Nat.ne_of_lt F.ns.lt) (next_is_new F) ⟨_, Heap.get?_push_size _ rfl, rfl, rfl⟩ (F.push _) (N.grown fun b x e => Heap.get?_push_of_some _ e) (fun p hp => Nat.ne_of_lt (lI p hp)) hJ ?_ ?_
    · rintro i v m nw oI h tk hi hv hj F' N' off
      exact turn _ i v m nw oI h tk hi hv hj F' N' off lI _ rfl
    · intro m nw h tk F' N' hj
      exact fin _ m nw h tk F' N' hj lI
end
end
section
open PySem PySem.W PySem.Spec PySem.Calls PyProof.Rows
theorem fresh_F1 : True := by w_top off; k_with_none; trivial
theorem fillX : (fun (_ : OpenLaw) (_ : Params → Frag) => True) PySem.Challenge.rw_ta0019_01 heapK := by k_fill; trivial
noncomputable def apL (n : Nat) : List UInt8 := if h : n = 0 then [] else apL (n / 16) ++ [UInt8.ofNat (65 + n % 16)]
decreasing_by omega
theorem apL_eq (n : Nat) (h : n ≠ 0) : apL n = apL (n / 16) ++ [UInt8.ofNat (65 + n % 16)] := by
  rw [apL]; simp [h]
theorem apL_zero : apL 0 = [] := by rw [apL]; simp
theorem apL_len : ∀ (k n : Nat), n < 16 ^ k → (apL n).length ≤ k
  | 0, n, h => by have : n = 0 := by simpa using h
                  subst this; rw [apL_zero]; simp
  | k + 1, n, h => by
    by_cases h0 : n = 0
    · subst h0; rw [apL_zero]; simp
    · rw [apL_eq n h0, List.length_append]
      have := apL_len k (n / 16) (by rw [Nat.pow_succ] at h; lia)
      simp; lia
theorem ap_size {x n : Int} {v : Array UInt8} {lo hi : Option Int} (hx : x.natAbs < 2 ^ 200) (h : apL n.toNat ++ v.toList = apL x.natAbs) : (KBy.picked #[65, 66, 67, 68, 69, 70, 71, 72, 73, 74, 75, 76, 77, 78, 79, 80] lo hi).size + v.size ≤ 16777216 := by
  have h1 := KBc.size_picked_le #[65, 66, 67, 68, 69, 70, 71, 72, 73, 74, 75, 76, 77, 78, 79, 80] lo hi
  have h2 := apL_len 50 x.natAbs (Nat.lt_of_lt_of_le hx (by decide))
  have h3 := congrArg List.length h
  simp only [List.length_append, Array.length_toList] at h3
  have h4 : (#[65, 66, 67, 68, 69, 70, 71, 72, 73, 74, 75, 76, 77, 78, 79, 80] : Array UInt8).size = 16 := rfl
  lia
theorem ap_pick (k : Nat) (hk : k < 16) : KBy.picked #[65, 66, 67, 68, 69, 70, 71, 72, 73, 74, 75, 76, 77, 78, 79, 80] (some (k : Int)) (some ((k : Int) + 1)) = #[UInt8.ofNat (65 + k)] := by
  have : ∀ k : Fin 16, KBy.picked #[65, 66, 67, 68, 69, 70, 71, 72, 73, 74, 75, 76, 77, 78, 79, 80] (some ((k.val : Nat) : Int)) (some (((k.val : Nat) : Int) + 1)) = #[UInt8.ofNat (65 + k.val)] := by decide +kernel
  exact this ⟨k, hk⟩
theorem ap_turn {x n : Int} {v : Array UInt8} (h0 : 0 ≤ n) (hn : ¬ n = 0) (h : apL n.toNat ++ v.toList = apL x.natAbs) :
    0 ≤ n.fdiv 16 ∧ apL (n.fdiv 16).toNat ++ (KBy.picked #[65, 66, 67, 68, 69, 70, 71, 72, 73, 74, 75, 76, 77, 78, 79, 80] (some (n.fmod 16)) (some (n.fmod 16 + 1)) ++ v).toList = apL x.natAbs := by
  obtain ⟨k, rfl⟩ := Int.eq_ofNat_of_zero_le h0
  have e1 : ((k : Int).fdiv 16) = ((k / 16 : Nat) : Int) := by
    rw [Int.fdiv_eq_ediv_of_nonneg _ (by decide)]; rfl
  have e2 : ((k : Int).fmod 16) = ((k % 16 : Nat) : Int) := by
    rw [Int.fmod_eq_emod_of_nonneg _ (by decide)]; rfl
  rw [e1, e2, ap_pick _ (Nat.mod_lt _ (by decide))]
  refine ⟨by lia, ?_⟩
  rw [← h, Int.toNat_natCast, Int.toNat_natCast, apL_eq k (by lia)]
  simp
theorem ap_end {x n : Int} {v : Array UInt8} (hn : n = 0) (h : apL n.toNat ++ v.toList = apL x.natAbs) : v = (apL x.natAbs).toArray := by
  subst hn
  rw [Int.toNat_zero, apL_zero, List.nil_append] at h
  rw [← h]
theorem ap_less {n : Int} (h0 : 0 ≤ n) (hn : n ≠ 0) : (n.fdiv 16).toNat < n.toNat := by
  rw [Int.fdiv_eq_ediv_of_nonneg _ (by decide)]; lia
theorem ap_start (x : Int) : 0 ≤ (if x < 0 then -x else x) ∧ apL (if x < 0 then -x else x).toNat ++ (#[] : Array UInt8).toList = apL x.natAbs := by
  have e : (if x < 0 then -x else x).toNat = x.natAbs := by split <;> lia
  rw [e]; simp; split <;> lia
theorem ap_spec (w mean mg mb) (news : Led) (x : Int) (t : Tok) (hx : x.natAbs < 2^200) :
    Gives w mean mg mb 1 31 [.int x t] news (fun r n' _ => news = n' ∧ ∃ tk, r = .bytes (apL x.natAbs).toArray tk) := by
  k_with_none
  k_with "my subscriptTail" => (k_here; (with_reducible show wpAny _ _ (subscriptTail _ (PySem.Expr.Slice _ _ none _) (Value.bytes _ _) (Value.ref _)) _ _ _); (with_reducible rename Fr _ _ _ _ => F'); (with_reducible rename News _ _ _ _ => N'); (refine KBc.slice_K (ks := KBw.bInts _) (s := ⟨_, _, _, _, _⟩) F' N' rfl (by constructor) (by constructor) (by decide) ?_); intro _ _ _ _ _ _)
  k_with "my binaryOp Add bytes bytes" => ((with_reducible show wpAny _ _ (binaryOp Operator.Add (Value.bytes _ _) (Value.bytes _ _)) _ _ _); (refine KBy.add_bytes (ap_size (by assumption) (by assumption)) ?_); intro _ _)
  unfold Gives
  intro dp un gd cn cs a ccd cl outer A₀ base h₀ L m s Q E hB hF hK hN hT hcs hdp hun hret
  refine wpAny_call ?_
  k_dflt cell_enter
  k_with "state" => exact ap_start x
  k_with "state" => exact ap_turn (by assumption) (by assumption) (by assumption)
  k_with "measure" => exact ap_less (by assumption) (by assumption)
  k_with "exec While Name cons nil" => k_while (fun _ n v => 0 ≤ n ∧ apL n.toNat ++ v.toList = apL x.natAbs) (fun _ n _ => n.toNat) "num" "val"
  k_steps
  all_goals (
    have e9 := ap_end (x := x) (by first | assumption | lia) (by assumption)
    subst e9
    exact hret _ _ _ _ (by assumption) (by assumption) ⟨rfl, _, rfl⟩)
end
section
open PySem PySem.W PySem.Spec PySem.Calls PyProof.Rows PyProof.Rows.LCg
theorem fresh_F2 : True := by w_top off; k_with_none; trivial
theorem fill2 : (fun (_ : OpenLaw) (_ : Params → Frag) => True) PySem.Challenge.rw_ta0019_01 heapK := by k_fill; trivial
noncomputable def wordOf (n : Nat) : Str := ⟨((apL n).map (·.toNat)).toArray⟩
theorem strs_snoc {vs : List Value} {ys : List Str} (h : StrsAre vs ys) (y : Str) (t : Tok) : StrsAre (vs ++ [.str y t]) (ys ++ [y]) := by
  induction h with
  | nil => exact .cons y t .nil
  | cons z u _ ih => exact .cons z u ih
theorem news_drop {h₀ h : Heap} {L : Addr} {p : Addr × Obj} {l : List (Addr × Obj)} (N : News h₀ L h (p :: l)) : News h₀ L h l := fun q hq => N q (List.mem_cons_of_mem _ hq)
theorem take_snoc {α : Type} {l : List α} {i : Nat} {c : α} (h : l[i]? = some c) : l.take (i + 1) = l.take i ++ [c] := by
  rw [List.take_add_one, h]; rfl
theorem word_line {x : Int} (hx : x.natAbs < 2 ^ 200) : (apL x.natAbs).toArray.size ≤ sizeLine := by
  have h2 := apL_len 50 x.natAbs (Nat.lt_of_lt_of_le hx (by decide))
  rw [List.size_toArray, sizeLine_eq]; lia
theorem word_weight {x : Int} (hx : x.natAbs < 2 ^ 200) : (((apL x.natAbs).map fun c => (⟨#[c.toNat]⟩ : Str)).map (·.length)).sum + ((apL x.natAbs).map fun c => (⟨#[c.toNat]⟩ : Str)).length ≤ 1048576 := by
  have h2 := apL_len 50 x.natAbs (Nat.lt_of_lt_of_le hx (by decide))
  have h3 := sumLen_of_ones ((apL x.natAbs).map fun c => (⟨#[c.toNat]⟩ : Str)) (by
    intro a ha
    obtain ⟨c, _, rfl⟩ := List.mem_map.mp ha
    rfl)
  rw [h3, List.length_map]; lia
theorem join_nil : Txt.join (Str.ofString "") [] = ⟨#[]⟩ := by
  unfold Txt.join; rw [StrLaws.glued_eq_join]; rfl
theorem empty_cps : (Str.ofString "") = ⟨#[]⟩ := by decide +kernel
theorem sjoin_cons (y : Str) : ∀ l : List Str, Str.join (Str.ofString "") (y :: l) = y ++ Str.join (Str.ofString "") l
  | [] => by
    apply Str.ext'
    simp [Str.join, Str.cps_append, Str.empty]
  | z :: l => by
    apply Str.ext'
    simp [Str.join, Str.cps_append, empty_cps]
theorem join_cons (y : Str) (l : List Str) : Txt.join (Str.ofString "") (y :: l) = y ++ Txt.join (Str.ofString "") l := by
  unfold Txt.join; rw [StrLaws.glued_eq_join, StrLaws.glued_eq_join]; exact sjoin_cons y l
theorem join_ones : ∀ l : List Nat, Txt.join (Str.ofString "") (l.map fun n => (⟨#[n]⟩ : Str)) = ⟨l.toArray⟩
  | [] => join_nil
  | n :: l => by
    rw [List.map_cons, join_cons, join_ones l]
    apply Str.ext'
    simp [Str.cps_append]
theorem join_signs (l : List UInt8) : Txt.join (Str.ofString "") (l.map fun c => (⟨#[c.toNat]⟩ : Str)) = ⟨(l.map (·.toNat)).toArray⟩ := by
  rw [show (l.map fun c => (⟨#[c.toNat]⟩ : Str)) = (l.map (·.toNat)).map fun n => (⟨#[n]⟩ : Str) by simp]
  exact join_ones _
theorem word_join (n : Nat) : Txt.join (Str.ofString "") ((apL n).map fun c => (⟨#[c.toNat]⟩ : Str)) = wordOf n := join_signs _
theorem word_spec (w mean mg mb) (news : Led) (x : Int) (t : Tok) (hx : x.natAbs < 2^200) :
    Gives w mean mg mb 3 85 [.int x t] news (fun r n' _ => news = n' ∧ ∃ tk, r = .str (wordOf x.natAbs) tk) := by
  k_with_none
  k_with "spec" => (exact ap_spec _ _ _ _ _ _ _ (by assumption))
  k_with "my call ref" => (k_here; (with_reducible show wpAny _ _ (call (Value.ref 31) _) _ _ _); k_dflt (walk_at "gives"); rintro _ _ _ _ _ _ ⟨rfl, _, rfl⟩; (try dsimp only); (try k_fold))
  unfold Gives
  intro dp un gd cn cs a ccd cl outer A₀ base h₀ L m s Q E hB hF hK hN hT hcs hdp hun hret
  refine wpAny_call ?_
  k_dflt cell_enter
  repeat' (first | (k_unfold; (try dsimp only)) | (k_end; wrow_close) | ((fail_if_success (with_reducible show wpAny _ _ (eval (Expr.ListComp _ _ _ _) _) _ _ _)); (fail_if_success (with_reducible show wpAny _ _ (pyIter _) _ _ _)); (first | walk1 | (dsimp only; walk1) | (leave1; walk_say "STEP leave1"; try dsimp only))) | fail "no step")
  refine' ListComp_G (cl := []) ?q0 ?q1 ?q2 ?q3 ?q4 ?q5 ?q6
  (case q0 => k_asm)
  (case q1 => rfl)
  (case q2 => decide)
  (case q3 => rfl)
  (case q4 => decide)
  (case q6 => intro _; rfl)
  repeat' (first | (k_unfold; (try dsimp only)) | (k_end; wrow_close) | ((fail_if_success (with_reducible show wpAny _ _ (eval (Expr.ListComp _ _ _ _) _) _ _ _)); (fail_if_success (with_reducible show wpAny _ _ (pyIter _) _ _ _)); (first | walk1 | (dsimp only; walk1) | (leave1; walk_say "STEP leave1"; try dsimp only))) | fail "no step")
  rename Fr _ _ _ _ => F1
  rename News _ _ _ _ => N1
  refine' src_bytes (J := fun i ys nw => news = nw ∧ StrsAre ys (((apL x.natAbs).take i).map fun c => (⟨#[c.toNat]⟩ : Str))) rfl (word_line hx) F1 N1 ⟨rfl, StrsAre.nil⟩ ?kk
  case kk =>
    intro o X
    k_unfold
    refine ⟨_, _, _, _, _, _, _, rfl, X, ?_, ?_⟩
    · rintro i v ys nw hi ⟨c, u, hc, e⟩ ⟨e2, hys⟩
      subst e e2
      refine ⟨_, Binds.name rfl rfl, ?_⟩
      intro oI C oC D m₂ h tk E' hoC hloc F2 N2 off ne
      have hx2 := hloc _ (List.mem_singleton.mpr rfl)
      refine wpAny_tests_nil ?_
      simp only [if_true]
      dsimp only at hx2
      repeat' (first | (k_unfold; (try dsimp only)) | (k_end; wrow_close) | ((fail_if_success (with_reducible show wpAny _ _ (eval (Expr.ListComp _ _ _ _) _) _ _ _)); (fail_if_success (with_reducible show wpAny _ _ (pyIter _) _ _ _)); (first | walk1 | (dsimp only; walk1) | (leave1; walk_say "STEP leave1"; try dsimp only))) | fail "no step")
      have hc9 : c.toNat < 256 := c.toNat_lt
      refine chr_of_range (by lia) (by lia) ?_
      k_unfold
      refine ⟨_, _, _, _, _, rfl, F2, hoC, N2, off, rfl, ?_⟩
      rw [take_snoc (c := c) (by simpa using hc), List.map_append]
      exact strs_snoc hys _ _
    · rintro D h tk ys nw F2 N2 o1 ⟨e2, hys⟩
      subst e2
      repeat' (first | (k_unfold; (try dsimp only)) | (k_end; wrow_close) | ((fail_if_success (with_reducible show wpAny _ _ (eval (Expr.ListComp _ _ _ _) _) _ _ _)); (fail_if_success (with_reducible show wpAny _ _ (pyIter _) _ _ _)); (first | walk1 | (dsimp only; walk1) | (leave1; walk_say "STEP leave1"; try dsimp only))) | fail "no step")
      rw [List.size_toArray, List.take_length] at hys
      refine join_listW (News.isList N2 (.head _)) hys (by decide) (word_weight hx) ?_
      intro t' k'
      rw [word_join]
      repeat' (first | (k_unfold; (try dsimp only)) | (k_end; wrow_close) | ((fail_if_success (with_reducible show wpAny _ _ (eval (Expr.ListComp _ _ _ _) _) _ _ _)); (fail_if_success (with_reducible show wpAny _ _ (pyIter _) _ _ _)); (first | walk1 | (dsimp only; walk1) | (leave1; walk_say "STEP leave1"; try dsimp only))) | fail "no step")
      exact hret _ _ _ _ (by assumption) (by first | assumption | exact news_drop (by assumption)) ⟨rfl, _, rfl⟩
end
section
open PySem PySem.W PySem.Spec PySem.Calls PyProof.Rows PyProof.Rows.LCg
theorem fresh_F3 : True := by w_top off; k_with_none; trivial
theorem fill3 : (fun (_ : OpenLaw) (_ : Params → Frag) => True) PySem.Challenge.rw_ta0019_01 heapK := by k_fill; trivial
noncomputable def numOf (l : List Int) : Int := l.foldl (fun a c => a * 16 + c - 65) 0
theorem numOf_snoc (l : List Int) (c : Int) : numOf (l ++ [c]) = numOf l * 16 + c - 65 := by simp [numOf]
/-- what _law_number reads -/
noncomputable def numT (x : Str) : Int := if (Txt.slice x none (some 1) == Str.ofString "A") = true then -1 else numOf (KStt.codes x)
theorem numT_A {x : Str} (h : (Txt.slice x none (some 1) == Str.ofString "A") = true) : numT x = -1 := if_pos h
theorem numT_n {x : Str} {k : Int} (h : (Txt.slice x none (some 1) == Str.ofString "A") = false) (hk : k = numOf (KStt.codes x)) : numT x = k := by
  unfold numT; rw [if_neg (by rw [h]; decide), hk]
theorem num_spec (w mean mg mb) (news : Led) (x : Str) (t : Tok) (hx : x.cps.size ≤ 64) :
    Gives w mean mg mb 1 92 [.str x t] news (fun r n' _ => news = n' ∧ ∃ tk, r = .int (numT x) tk) := by
  k_with_none
  unfold Gives
  intro dp un gd cn cs a ccd cl outer A₀ base h₀ L m s Q E hB hF hK hN hT hcs hdp hun hret
  refine wpAny_call ?_
  k_dflt cell_enter
  k_with "state" => (simp only [numOf_snoc] at *; lia)
  k_with "pyIter str" => k_state (fun pre k => k = numOf pre) "number"
  k_steps
  · exact hret _ _ _ _ (by assumption) (by assumption) ⟨rfl, _, by rw [numT_A (by assumption)]⟩
  · have e9 := numT_n (by assumption) kInv
    exact hret _ _ _ _ (by assumption) (by assumption) ⟨rfl, _, by rw [e9]⟩
end
section
open PySem PySem.W PySem.Spec PySem.Calls PyProof.Rows PyProof.Rows.LCg
theorem fresh_F4 : True := by w_top off; k_with_none; trivial
theorem fill4 : (fun (_ : OpenLaw) (_ : Params → Frag) => True) PySem.Challenge.rw_ta0019_01 heapK := by k_fill; trivial
theorem iseof_spec (w mean mg mb) (news : Led) (v : Int) (t : Tok) :
    Gives w mean mg mb 1 24 [.int v t] news (fun r n' _ => news = n' ∧ r = .bool (v == 0)) := by
  k_with_none
  unfold Gives
  intro dp un gd cn cs a ccd cl outer A₀ base h₀ L m s Q E hB hF hK hN hT hcs hdp hun hret
  refine wpAny_call ?_
  k_dflt cell_enter
  k_steps
  exact hret _ _ _ _ (by assumption) (by assumption) ⟨rfl, rfl⟩
/-- the operators, in the order of the law's own row -/
noncomputable def OPS : List Str := (["(", ")", "[", "]", ":", ",", ";", "+", "-", "*", "/", "|", "&", "<", ">", "=", ".", "%", "{", "}", "==", "!=", "<=", ">=", "~", "^", "<<", ">>", "**", "+=", "-=", "*=", "/=", "%=", "&=", "|=", "^=", "<<=", ">>=", "**=", "//", "//=", "@", "@=", "->", "...", ":=", "!"] : List String).map Str.ofString
theorem ops_split : Txt.split (Str.ofString "( ) [ ] : , ; + - * / | & < > = . % { } == != <= >= ~ ^ << >> ** += -= *= /= %= &= |= ^= <<= >>= **= // //= @ @= -> ... := !") (Str.ofString " ") = OPS := by decide +kernel
theorem ops_spec (w mean mg mb) (news : Led) :
    Gives w mean mg mb 1 104 [] news (fun r n' _ => Sm2 fun D vs => Al4 (r = .ref D) ((D, W.listOf vs.toArray 0) :: news = n') (StrsAre vs OPS) (∀ p ∈ news, p.1 < D)) := by
  k_with_none
  unfold Gives
  intro dp un gd cn cs a ccd cl outer A₀ base h₀ L m s Q E hB hF hK hN hT hcs hdp hun hret
  refine wpAny_call ?_
  k_dflt cell_enter
  k_steps
  rename StrsAre _ _ => hS
  rename _ = Txt.split _ _ => hE
  rw [hE, ops_split] at hS
  exact hret _ _ _ _ (by assumption) (by assumption) ⟨_, _, rfl, rfl, hS, by assumption⟩
end
section
open PySem PySem.W PySem.Spec PySem.Calls PyProof.Rows PyProof.Rows.LCg
theorem fill5 : (fun (_ : OpenLaw) (_ : Params → Frag) => True) PySem.Challenge.rw_ta0019_01 heapK := by k_fill; trivial
theorem words_F5 : True := by
  w_top off
  k_with_none
  k_with "go" => (first | walk1 | (dsimp only; walk1) | (leave1; walk_say "STEP leave1"; try dsimp only))
  k_with "no comp" => ((fail_if_success (with_reducible show wpAny _ _ (eval (PySem.Expr.ListComp _ _ _ _) _) _ _ _)); (fail_if_success (with_reducible show wpAny _ _ (eval (PySem.Expr.DictComp _ _ _ _ _) _) _ _ _)))
  k_with "no for" => ((fail_if_success (with_reducible show wpAny _ _ (exec (PySem.Stmt.For _ _ _ _ _) _) _ _ _)))
  k_with "no while" => ((fail_if_success (with_reducible show wpAny _ _ (exec (PySem.Stmt.While _ _ _ _) _) _ _ _)))
  k_with "no iter" => ((fail_if_success (with_reducible show wpAny _ _ (pyIter _) _ _ _)))
  k_with "my steps" => (repeat' (first | ((fail_if_success (with_reducible show LeaveK _ _ _ _ _ _ _)); (first | (k_unfold; (try dsimp only)) | (k_end; wrow_close) | (k_extra "no comp"; k_extra "go"))) | fail "no step"))
  k_with "my steps for" => (repeat' (first | ((fail_if_success (with_reducible show LeaveK _ _ _ _ _ _ _)); (first | (k_unfold; (try dsimp only)) | (k_end; wrow_close) | (k_extra "no for"; k_extra "no while"; k_extra "no comp"; k_extra "go"))) | fail "no step"))
  k_with "my steps iter" => (repeat' (first | ((fail_if_success (with_reducible show LeaveK _ _ _ _ _ _ _)); (first | (k_unfold; (try dsimp only)) | (k_end; wrow_close) | (k_extra "no comp"; k_extra "no iter"; k_extra "go"))) | fail "no step"))
  k_with "my binaryOp FloorDiv int int" => ((with_reducible show wpAny _ _ (binaryOp Operator.FloorDiv (Value.int _ _) (Value.int _ _)) _ _ _); (refine floordiv_int (by exact bpow_ne (by assumption) _) ?_ (Or.inl (by exact nopy (by assumption) (by assumption) (by lia)))))
  trivial
/-- n of the z figures of v to base b, read behind a 1 to base 16 -/
noncomputable def nodeN (v z b : Int) : Nat → Int
  | 0 => 1
  | n + 1 => 16 * nodeN v z b n + (v.fdiv (b ^ (z - 1 - (n : Int)).toNat)).fmod b
theorem bpow_ne {b : Int} (h : 2 ≤ b) (k : Nat) : b ^ k ≠ 0 := fun e => by have := Int.pow_pos (n := b) (m := k) (by lia); lia
theorem nopy {a b : Int} {k : Nat} (h1 : 2 ≤ b) (h2 : b ≤ 3) (hk : k ≤ 4) : Builtin.divisionGoesByPylong a (b ^ k) = false := by
  have hb : b = 2 ∨ b = 3 := by lia
  have hk : k = 0 ∨ k = 1 ∨ k = 2 ∨ k = 3 ∨ k = 4 := by lia
  rcases hb with rfl | rfl <;> rcases hk with rfl | rfl | rfl | rfl | rfl <;> exact PyProof.noPylong_small (by decide)
noncomputable abbrev mN (v z b nd : Int) (t u q tn : Tok) (c0 : Option Value) : Str → Option Value := fun y => if y = Str.ofString "value" then some (.int v t) else if y = Str.ofString "size" then some (.int z u) else if y = Str.ofString "base" then some (.int b q) else if y = Str.ofString "node" then some (.int nd tn) else if y = Str.ofString "place" then c0 else none
theorem mN_norm {m' : Str → Option Value} {v z b nd : Int} {t u q tn : Tok} {c0 : Option Value} (h0 : m' (Str.ofString "value") = some (.int v t)) (h1 : m' (Str.ofString "size") = some (.int z u)) (h2 : m' (Str.ofString "base") = some (.int b q)) (h3 : m' (Str.ofString "node") = some (.int nd tn)) (h4 : m' (Str.ofString "place") = c0)
    (hz : ∀ y, y ≠ Str.ofString "value" → y ≠ Str.ofString "size" → y ≠ Str.ofString "base" → y ≠ Str.ofString "node" → y ≠ Str.ofString "place" → m' y = none) : ∀ y, m' y = mN v z b nd t u q tn c0 y := by
  intro y
  by_cases e0 : y = Str.ofString "value"
  · subst e0; exact h0
  by_cases e1 : y = Str.ofString "size"
  · subst e1; exact h1
  by_cases e2 : y = Str.ofString "base"
  · subst e2; exact h2
  by_cases e3 : y = Str.ofString "node"
  · subst e3; exact h3
  by_cases e4 : y = Str.ofString "place"
  · subst e4; exact h4
  rw [hz y e0 e1 e2 e3 e4]; simp [mN, e0, e1, e2, e3, e4]
theorem fr_eq {g h : Heap} {L : Addr} {m m' : Str → Option Value} (F : Fr g L h m') (e : ∀ y, m' y = m y) : Fr g L h m := by rw [← funext e]; exact F
theorem node_lookup {y a b c : Str} {u v x : Value} (h1 : y ≠ a) (h2 : y ≠ b) (h3 : y ≠ c) : List.lookup y [(c, x), (b, v), (a, u)] = none := by simp [List.lookup, beq_false_of_ne h1, beq_false_of_ne h2, beq_false_of_ne h3]
theorem node_does (w mean mg mb) (v z b : Int) (t u q : Tok) (hz : 1 ≤ z) (hz2 : z ≤ 4) (hb : 2 ≤ b) (hb2 : b ≤ 3) :
    Does w mean mg mb 1 123 [.int v t, .int z u, .int b q] [] (fun _ => True) (fun r _ => ∃ tk, r = .int (nodeN v z b z.toNat) tk) := by
  unfold Does
  intro dp un gd cn cs a ccd cl outer A₀ base h₀ L m s Q E hB hF hK hN hT hcs hdp hun hpre hret
  refine wpAny_call ?_
  k_dflt walk_at "my enter"
  rename GSub _ _ _ => G9
  k_extra "my steps for"
  refine wpAny_For ?_
  k_extra "my steps iter"
  rename IsRange _ _ _ _ _ _ _ _ => hR
  rename Fr _ _ _ _ => F1
  rename News _ _ _ _ => N1
  refine for_range (a := 0) (n := z.toNat) (RR := fun _ => _) rfl F1 N1 hR (small_one (by decide) (by decide) (by lia) (by lia)) (by simp [Builtin.Range.rangeSize]; lia) (fun i m nw => Sm2 fun tn c => m = mN v z b (nodeN v z b i) t u q tn c ∧ nw = []) ?j0 ?turn ?fin (fun _ _ z => z)
  case j0 => exact ⟨_, none, funext (mN_norm rfl rfl rfl rfl rfl (by intro y e0 e1 e2 e3 e4; rw [if_neg e3]; exact node_lookup e0 e1 e2)), rfl⟩
  case turn =>
    clear F1 N1
    rintro I i t9 m' nw oI h9 tk' hi ⟨tn, c, rfl, rfl⟩ F2 N2 off2 lI2 s' rfl
    have hi2 : (i : Int) < z := by lia
    k_extra "my steps for"
    rename Fr _ _ _ _ => F3
    rename News _ _ _ _ => N3
    have e9 : 16 * nodeN v z b i + (v.fdiv (b ^ (z - 1 - (0 + (i : Int))).toNat)).fmod b = nodeN v z b (i + 1) := by rw [Int.zero_add]; rfl
    rw [e9] at F3
    exact ForGo.of (fr_eq F3 (mN_norm rfl rfl rfl rfl rfl (by intro y e0 e1 e2 e3 e4; simp [mN, e0, e1, e2, e3, e4]))) N3 off2 ⟨_, _, rfl, rfl⟩
  case fin =>
    clear F1 N1
    rintro I m' nw h9 tk F2 N2 ⟨tn, c, rfl, rfl⟩
    dsimp only
    k_extra "my steps"
    rename Fr _ _ _ _ => F9
    rename News _ _ _ _ => N9
    refine leaveK_ F9 N9 ?_
    intro kF kN
    obtain ⟨k9, n9⟩ := does_end F9 N9 G9
    exact hret _ _ _ _ k9 kF kN n9 ⟨_, rfl⟩
end
section
open PySem PySem.W PySem.Spec PySem.Calls PyProof.Rows PyProof.Rows.LCg
theorem fill_6 : (fun (_ : OpenLaw) (_ : Params → Frag) => True) PySem.Challenge.rw_ta0019_01 heapK := by k_fill; trivial
theorem words_F6 : True := by
  w_top off
  k_with_none
  k_with "go" => (first | walk1 | (dsimp only; walk1) | (leave1; walk_say "STEP leave1"; try dsimp only))
  k_with "no comp" => ((fail_if_success (with_reducible show wpAny _ _ (eval (PySem.Expr.ListComp _ _ _ _) _) _ _ _)); (fail_if_success (with_reducible show wpAny _ _ (eval (PySem.Expr.DictComp _ _ _ _ _) _) _ _ _)))
  k_with "no iter" => ((fail_if_success (with_reducible show wpAny _ _ (pyIter _) _ _ _)))
  k_with "my steps" => (repeat' (first | ((fail_if_success (with_reducible show LeaveK _ _ _ _ _ _ _)); (first | (k_unfold; (try dsimp only)) | (k_end; wrow_close) | (k_extra "no comp"; k_extra "go"))) | fail "no step"))
  k_with "my steps iter" => (repeat' (first | ((fail_if_success (with_reducible show LeaveK _ _ _ _ _ _ _)); (first | (k_unfold; (try dsimp only)) | (k_end; wrow_close) | (k_extra "no comp"; k_extra "no iter"; k_extra "go"))) | fail "no step"))
  k_with "my len" => ((try simp only [Str.length_append, len_quo, len_bs, len_one, len_esc]); (rw [sizeLine_eq]); lia)
  k_with "my binaryOp Add str str" => ((with_reducible show wpAny _ _ (binaryOp Operator.Add (Value.str _ _) (Value.str _ _)) _ _ _); (refine PyProof.Rows.add_str (hsz := by k_extra "my len") ?_); intro _ _)
  trivial

noncomputable def escS (x : Str) : Str := ⟨(x.cps.toList.flatMap fun c => [92, c]).toArray⟩
noncomputable def wsS (n : Int) : Str := Txt.item (Str.ofString " \n\t\r") ((n.fdiv 3).fmod 4)
/-- how a word is written -/
noncomputable def writtenS (x : Str) (n : Int) : Str := (if n.fmod 3 = 2 then Str.ofString "\"" ++ x ++ Str.ofString "\"" else if n.fmod 3 = 1 then escS x else x) ++ wsS n
theorem len_quo : (Str.ofString "\"").length = 1 := by decide +kernel
theorem len_bs : (Str.ofString "\\").length = 1 := by decide +kernel
theorem len_one (c : Nat) : Str.length ⟨#[c]⟩ = 1 := rfl
theorem len_ws (n : Int) : (wsS n).length ≤ 1 := by
  unfold wsS
  have h0 := fmod_lo (n.fdiv 3) (n := 4) (by decide)
  have h1 := fmod_hi (n.fdiv 3) (n := 4) (by decide)
  generalize (n.fdiv 3).fmod 4 = k at *
  have : k = 0 ∨ k = 1 ∨ k = 2 ∨ k = 3 := by lia
  rcases this with rfl | rfl | rfl | rfl <;> decide +kernel
theorem len_esc (x : Str) : (escS x).length = 2 * x.length := by
  show (x.cps.toList.flatMap fun c => [92, c]).toArray.size = 2 * x.cps.size
  rw [List.size_toArray, ← Array.length_toList]
  induction x.cps.toList with
  | nil => rfl
  | cons c l ih => rw [List.flatMap_cons, List.length_append, ih, List.length_cons]; simp; lia
theorem join_esc (x : Str) : Txt.join (Str.ofString "") (x.cps.toList.map fun c => Str.ofString "\\" ++ (⟨#[c]⟩ : Str)) = escS x := by
  unfold escS
  induction x.cps.toList with
  | nil => exact join_nil
  | cons c l ih =>
    rw [List.map_cons, join_cons, ih]
    apply Str.ext'
    simp [Str.cps_append, show (Str.ofString "\\").cps = #[92] by decide +kernel]
theorem esc_weight (x : Str) (hx : x.length ≤ 8) : ((x.cps.toList.map fun c => Str.ofString "\\" ++ (⟨#[c]⟩ : Str)).map (·.length)).sum + (x.cps.toList.map fun c => Str.ofString "\\" ++ (⟨#[c]⟩ : Str)).length ≤ 1048576 := by
  have : ∀ l : List Nat, ((l.map fun c => Str.ofString "\\" ++ (⟨#[c]⟩ : Str)).map (·.length)).sum = 2 * l.length := by
    intro l
    induction l with
    | nil => rfl
    | cons c l ih => rw [List.map_cons, List.map_cons, List.sum_cons, ih, Str.length_append, len_bs, len_one, List.length_cons]; lia
  rw [this, List.length_map, Array.length_toList]
  have : x.cps.size ≤ 8 := hx
  lia
theorem written_does (w mean mg mb) (x : Str) (t : Tok) (n : Int) (u : Tok) (hx : 1 ≤ x.length) (hx2 : x.length ≤ 8) (hn : 0 ≤ n) :
    Does w mean mg mb 1 97 [.str x t, .int n u] [] (fun _ => True) (fun r _ => ∃ tk, r = .str (writtenS x n) tk) := by
  have hne : (x == Str.ofString "") = false := by
    rw [beq_eq_false_iff_ne]; intro e; subst e; revert hx; decide +kernel
  have hws := len_ws n
  unfold wsS at hws
  unfold Does
  intro dp un gd cn cs a ccd cl outer A₀ base h₀ L m s Q E hB hF hK hN hT hcs hdp hun hpre hret
  refine wpAny_call ?_
  k_dflt walk_at "my enter"
  k_extra "my steps"
  · rename Fr _ _ _ _ => F9
    rename News _ _ _ _ => N9
    rename GSub _ _ _ => G9
    refine leaveK_ F9 N9 ?_
    intro kF kN
    obtain ⟨k9, n9⟩ := does_end F9 N9 G9
    exact hret _ _ _ _ k9 kF kN n9 ⟨_, by unfold writtenS wsS; rw [if_pos (by assumption)]⟩
  · refine' ListComp_G (cl := []) ?q0 ?q1 ?q2 ?q3 ?q4 ?q5 ?q6
    (case q0 => k_asm)
    (case q1 => rfl)
    (case q2 => decide)
    (case q3 => rfl)
    (case q4 => decide)
    (case q6 => intro _; rfl)
    k_extra "my steps iter"
    rename Fr _ _ _ _ => F1
    rename News _ _ _ _ => N1
    refine' src_str (J := fun i ys nw => nw = [] ∧ StrsAre ys ((x.cps.toList.take i).map fun c => Str.ofString "\\" ++ (⟨#[c]⟩ : Str))) rfl (by rw [sizeLine_eq]; exact Nat.le_trans hx2 (by decide)) F1 N1 ⟨rfl, StrsAre.nil⟩ ?kk
    case kk =>
      intro o St X
      (try k_unfold)
      refine ⟨_, _, _, _, _, _, _, rfl, X, ?_, ?_⟩
      · rintro i v ys nw hi ⟨c, u, hc, e⟩ ⟨e2, hys⟩
        subst e e2
        refine ⟨_, Binds.name rfl rfl, ?_⟩
        intro oI C oC D m₂ h tk E' hoC hloc F2 N2 off ne
        have hx3 := hloc _ (List.mem_singleton.mpr rfl)
        refine wpAny_tests_nil ?_
        simp only [if_true]
        dsimp only at hx3
        k_extra "my steps"
        refine ⟨_, _, _, _, _, rfl, F2, hoC, N2, off, rfl, ?_⟩
        rw [take_snoc (c := c) (by simpa using hc), List.map_append]
        exact strs_snoc hys _ _
      · rintro D h tk ys nw F2 N2 o1 ⟨e2, hys⟩
        subst e2
        k_extra "my steps"
        have hsz : x.cps.toList.take x.cps.size = x.cps.toList := by rw [← Array.length_toList, List.take_length]
        rw [hsz] at hys
        refine join_listW (News.isList N2 (.head _)) hys (by decide) (esc_weight x hx2) ?_
        intro t' k'
        rw [join_esc]
        k_extra "my steps"
        rename GSub _ _ _ => G9
        rename Fr _ _ _ _ => F9
        rename News _ _ _ _ => N9
        refine leaveK_ F9 N9 ?_
        intro kF kN
        obtain ⟨k9, n9⟩ := does_end F9 N9 G9
        exact hret _ _ _ _ k9 kF kN n9 ⟨_, by unfold writtenS wsS; rw [if_neg (by assumption), if_pos (by assumption)]⟩
  · rename Fr _ _ _ _ => F9
    rename News _ _ _ _ => N9
    rename GSub _ _ _ => G9
    refine leaveK_ F9 N9 ?_
    intro kF kN
    obtain ⟨k9, n9⟩ := does_end F9 N9 G9
    exact hret _ _ _ _ k9 kF kN n9 ⟨_, by unfold writtenS wsS; rw [if_neg (by assumption), if_neg (by assumption)]⟩
end
section
open PySem PySem.W PySem.Spec PySem.Calls PyProof.Rows PyProof.Rows.LCg
theorem fill_7 : (fun (_ : OpenLaw) (_ : Params → Frag) => True) PySem.Challenge.rw_ta0019_01 heapK := by k_fill; trivial
theorem words_F7 : True := by
  w_top off
  k_with_none
  k_with "go" => (first | walk1 | (dsimp only; walk1) | (leave1; walk_say "STEP leave1"; try dsimp only))
  k_with "no comp" => ((fail_if_success (with_reducible show wpAny _ _ (eval (PySem.Expr.ListComp _ _ _ _) _) _ _ _)); (fail_if_success (with_reducible show wpAny _ _ (eval (PySem.Expr.DictComp _ _ _ _ _) _) _ _ _)))
  k_with "my steps" => (repeat' (first | ((fail_if_success (with_reducible show LeaveK _ _ _ _ _ _ _)); (first | (k_unfold; (try dsimp only)) | (k_end; wrow_close) | (k_extra "no comp"; k_extra "go"))) | fail "no step"))
  trivial

theorem codehd_sub {H g : Heap} {adr : List Addr} {c P : Addr} (C : CodeHd H c P) (G : GSub H g adr) (hc : c ∉ adr) : CodeHd g c P :=
  let ⟨o, vs, file, tf, flags, tg, inF, text, tt, e, r⟩ := C; ⟨o, vs, file, tf, flags, tg, inF, text, tt, G _ _ e hc, r⟩
/-- the objects of a stream -/
structure Strm where
  d : Addr
  oD : Obj
  st : Addr
  oS : Obj
  c2 : Addr
  o1 : Obj
  rd : Addr
  oR : Obj
  c1 : Addr
  o2 : Obj
  pl : Addr
  cp : Addr
  o3 : Obj
  ct : Addr
  o4 : Obj
  o5 : Obj
abbrev Strm.led (σ : Strm) (i : Int) (t : Tok) : Led := [(σ.d, σ.oD), (σ.st, σ.oS), (σ.c2, σ.o1), (σ.rd, σ.oR), (σ.c1, σ.o2), (σ.pl, W.listOf #[.int i t] 0), (σ.cp, σ.o3), (σ.ct, σ.o4), (75, σ.o5)]
noncomputable def readS (x : Str) (i : Int) : Str := Txt.slice x (some i) (some (i + 1))
structure Strm.Ok (σ : Strm) (w : World) (mean : ExcName → Option Value) (mg mb : Str → Option Value) (x : Str) : Prop where
  hS : ∃ fd, σ.oS = ⟨.type "function", some σ.d, .func fd, #[]⟩
  hD : NsObj σ.oD (fun y => if y = Str.ofString "read" then some (.ref σ.rd) else none)
  hR : ∃ fd, σ.oR = ⟨.type "function", none, .func fd, #[]⟩
  tab : ∃ ps, σ.o5 = tabObj ps
  ord : 75 < σ.ct ∧ σ.ct < σ.cp ∧ σ.cp < σ.pl ∧ σ.pl < σ.c1 ∧ σ.c1 < σ.rd ∧ σ.rd < σ.c2 ∧ σ.c2 < σ.st ∧ σ.st < σ.d
  read : ∀ (i : Int) (t u : Tok), 0 ≤ i → i < 100000 → Does w mean mg mb 1 σ.rd [.int 1 u] (σ.led i t) (fun _ => True) (fun r nw => ∃ t' tk, nw = σ.led (i + 1) t' ∧ r = .str (readS x i) tk)
theorem led_down {σ : Strm} {w : World} {mean : ExcName → Option Value} {mg mb : Str → Option Value} {x : Str} (hσ : σ.Ok w mean mg mb x) (i : Int) (t : Tok) : Down σ.d (σ.led i t) := by
  obtain ⟨a1, a2, a3, a4, a5, a6, a7, a8⟩ := hσ.ord
  exact ⟨Nat.le_refl _, Nat.le_of_lt a8, Nat.le_of_lt a7, Nat.le_of_lt a6, Nat.le_of_lt a5, Nat.le_of_lt a4, Nat.le_of_lt a3, Nat.le_of_lt a2, Nat.le_of_lt a1, trivial⟩
theorem stream_does (w mean mg mb) (x : Str) (t : Tok) (hx : x.length ≤ 4096) :
    Does w mean mg mb 3 80 [.str x t] [(75, tabObj #[])] (fun h => CodeHd h 79 75) (fun r nw => Sm2 fun σ t => Al3 (r = .ref σ.st) (nw = Strm.led σ 0 t) (σ.Ok w mean mg mb x)) := by
  unfold Does
  intro dp un gd cn cs a ccd cl outer A₀ base h₀ L m s Q E hB hF hK hN hT hcs hdp hun hpre hret
  refine wpAny_call ?_
  k_dflt walk_at "my enter cells"
  rename GSub _ _ _ => G9
  have C9 := codehd_sub hpre G9 (by decide)
  k_extra "my steps"
  rename Fr _ _ _ _ => F1
  rename News _ _ _ _ => N1
  refine set_fn F1 N1 (by k_all) fn_no_read ?_
  intro h' tk' d oD F2 N2 hoD ld
  k_extra "my steps"
  rename Fr _ _ _ _ => F9
  rename News _ _ _ _ => N9
  refine leaveK_ F9 N9 ?_
  intro kF kN
  obtain ⟨k9, n9⟩ := does_end F9 N9 G9
  refine hret _ _ _ _ k9 kF kN n9 ?_
  have ld' := ltN (ld _ _ (N1 _ (.head _)).1)
  dsimp only at ld'
  refine ⟨⟨_, _, _, _, _, _, _, _, _, _, _, _, _, _, _, _⟩, _, rfl, rfl, ⟨⟨_, rfl⟩, hoD, ⟨_, rfl⟩, ⟨_, rfl⟩, ?_, ?_⟩⟩
  · dsimp only
    clear hret
    refine ⟨ltN ?_, ltN ?_, ltN ?_, ltN ?_, ltN ?_, ltN ?_, ltN ?_, ltN ?_⟩ <;> (try dsimp only) <;> omega
  · clear hret k9 n9 kF kN F9 N9 F1 N1 hF hN hK hT hB
    intro i t' u hi hi2
    unfold Does
    intro dp un gd cn cs a ccd cl outer A₀ base h₀ L m s Q E hB hF hK hN hT hcs hdp hun hpre hret
    refine wpAny_call ?_
    k_dflt walk_at "my nest"
    k_extra "my steps"
    rename Fr _ _ _ _ => F9
    rename News _ _ _ _ => N9
    rename GSub _ _ (List.map _ (Strm.led _ _ _)) => G8
    refine leaveK_ F9 N9 ?_
    intro kF kN
    obtain ⟨k9, n9⟩ := does_end F9 N9 G8
    have ei : ([i + 1].getD (Int.toNat 0) 0) = i + 1 := rfl
    rw [ei, Int.add_sub_cancel]
    exact hret _ _ _ _ k9 kF kN n9 ⟨_, _, rfl, rfl⟩
end
section
open PySem PySem.W PySem.Spec PySem.Calls PyProof.Rows PyProof.Rows.LCg
theorem fill_8 : (fun (_ : OpenLaw) (_ : Params → Frag) => True) PySem.Challenge.rw_ta0019_01 heapK := by k_fill; trivial
theorem words_F8 : True := by
  w_top off
  k_with_none
  k_with "go" => (first | walk1 | (dsimp only; walk1) | (leave1; walk_say "STEP leave1"; try dsimp only))
  k_with "no comp" => ((fail_if_success (with_reducible show wpAny _ _ (eval (PySem.Expr.ListComp _ _ _ _) _) _ _ _)); (fail_if_success (with_reducible show wpAny _ _ (eval (PySem.Expr.DictComp _ _ _ _ _) _) _ _ _)))
  k_with "my steps" => (repeat' (first | ((fail_if_success (with_reducible show LeaveK _ _ _ _ _ _ _)); (first | (k_unfold; (try dsimp only)) | (k_end; wrow_close) | (k_extra "no comp"; k_extra "go"))) | fail "no step"))
  trivial

/-- the objects of a lexer -/
structure Lx where
  pb : Addr
  x : Addr
  dx : Addr
  k1 : Tok
  k2 : Tok
  k3 : Tok
  k4 : Tok
  t3 : Tok
abbrev wsp : Str := Str.ofString "\n\t\r "
abbrev Lx.dict (χ : Lx) (w : World) (st : Addr) (n : Int) (t : Tok) : Obj := dictOf [⟨PyData.keyHash w.params (Str.ofString "lineno"), .str (Str.ofString "lineno") χ.k1, .int n t⟩, ⟨PyData.keyHash w.params (Str.ofString "instream"), .str (Str.ofString "instream") χ.k2, .ref st⟩, ⟨PyData.keyHash w.params (Str.ofString "whitespace"), .str (Str.ofString "whitespace") χ.k3, .str wsp χ.t3⟩, ⟨PyData.keyHash w.params (Str.ofString "pushback"), .str (Str.ofString "pushback") χ.k4, .ref χ.pb⟩] 4
theorem lexer_does (w mean mg mb) (st : Addr) :
    Does w mean mg mb 3 69 [.ref st] [] (fun _ => True) (fun r nw => Sm2 fun (χ : Lx) (t : Tok) => Al4 (r = .ref χ.x) (nw = [(χ.pb, W.listOf #[] 0), (χ.x, instObj 69 χ.dx), (χ.dx, χ.dict w st 1 t)]) (χ.dx < χ.x) (χ.x < χ.pb)) := by
  unfold Does
  intro dp un gd cn cs a ccd cl outer A₀ base h₀ L m s Q E hB hF hK hN hT hcs hdp hun hpre hret
  k_dflt walk_at "my call cls"
  k_extra "my steps"
  rename Fr _ _ _ _ => F9
  rename News _ _ _ _ => N9
  rename GSub _ _ _ => G9
  refine leaveK_ F9 N9 ?_
  intro kF kN
  obtain ⟨k9, n9⟩ := does_end F9 N9 G9
  rename (∀ (b : Addr) (o : Obj), s.heap.get? b = some o → b < _) => kq
  rename (∀ (b : Addr) (o : Obj), s.heap.get? b = some o → Heap.get? _ b = some o) => kp
  refine ⟨rfl, ?_⟩
  refine hret _ _ _ _ (fun b o e _ => k9 b o (kp b o e) ?_) kF kN (fun p hp => ?_) ⟨⟨_, _, _, _, _, _, _, _⟩, _, rfl, rfl, ?_, ?_⟩
  · intro hb
    have l3 := kq b o e
    rcases List.mem_cons.mp hb with q | hb
    · have q' : b = _ := q
      rw [q'] at l3; exact absurd (Nat.lt_trans l3 (by assumption)) (Nat.lt_irrefl _)
    · have q' : b = _ := List.mem_singleton.mp hb
      rw [q'] at l3; exact Nat.lt_irrefl _ l3
  · right
    rcases n9 p hp with q | q
    · cases e : s.heap.get? p.1 with
      | none => rfl
      | some o =>
        have l3 := kq _ _ e
        rcases List.mem_cons.mp q with q | hb
        · rw [q] at l3; exact absurd (Nat.lt_trans l3 (by assumption)) (Nat.lt_irrefl _)
        · have q' : p.1 = _ := List.mem_singleton.mp hb
          rw [q'] at l3; exact absurd l3 (Nat.lt_irrefl _)
    · cases e : s.heap.get? p.1 with
      | none => rfl
      | some o => have := kp _ _ e; rw [show _ = _ from q] at this; cases this
  · assumption
  · exact And.left (by assumption)
end
section
open PySem PySem.W PySem.Spec PySem.Calls PyProof.Rows PyProof.Rows.LCg
theorem fill_9 : (fun (_ : OpenLaw) (_ : Params → Frag) => True) PySem.Challenge.rw_ta0019_01 heapK := by k_fill; trivial
theorem words_F9 : True := by
  w_top off
  k_with_none
  k_with "go" => (first | walk1 | (dsimp only; walk1) | (leave1; walk_say "STEP leave1"; try dsimp only))
  k_with "no comp" => ((fail_if_success (with_reducible show wpAny _ _ (eval (PySem.Expr.ListComp _ _ _ _) _) _ _ _)); (fail_if_success (with_reducible show wpAny _ _ (eval (PySem.Expr.DictComp _ _ _ _ _) _) _ _ _)))
  k_with "my steps" => (repeat' (first | ((fail_if_success (with_reducible show LeaveK _ _ _ _ _ _ _)); (first | (k_unfold; (try dsimp only)) | (k_end; wrow_close) | (k_extra "no comp"; k_extra "go"))) | fail "no step"))
  k_with "my apart" => (first | exact Apart.nil | (refine' Apart.cons ?_ ?_; (focus (k_all; done)); k_extra "my apart"))
  k_with "my getMethod ref" => (k_here; k_dflt (refine fn_method (News.get (by k_asm) (by k_mem)) fn_no_read (NsObj.ns (by assumption) (News.get (by k_asm) (by k_mem))) (by rfl) ?_))
  k_with "my callWith ref" => (k_here; k_dflt (refine callWith_F (by exact FnAt.of (by k_asm) (by k_mem)) ?_; k_whole))
  trivial

noncomputable abbrev LX (χ : Lx) (σ : Strm) (w : World) (n : Int) (tn : Tok) (pbs : Array Value) (k : Nat) (i : Int) (ti : Tok) : Led :=
  (χ.pb, W.listOf pbs k) :: (χ.x, instObj 69 χ.dx) :: (χ.dx, χ.dict w σ.st n tn) :: σ.led i ti
theorem read_char (w mean mg mb) (χ : Lx) (σ : Strm) (x : Str) (hσ : σ.Ok w mean mg mb x) (h1 : σ.d < χ.dx) (h2 : χ.dx < χ.x) (h3 : χ.x < χ.pb) (n : Int) (tn : Tok) (pbs : Array Value) (k : Nat) (i : Int) (ti : Tok) (hi : 0 ≤ i) (hi2 : i < 100000) :
    DoesC w mean mg mb 2 52 [.ref χ.x] (LX χ σ w n tn pbs k i ti) (fun _ => True) (fun r nw => Sm3 fun tn' ti' tk => nw = LX χ σ w (if readS x i = Str.ofString "\n" then n + 1 else n) tn' pbs k (i + 1) ti' ∧ r = .str (readS x i) tk) := by
  have hrd := hσ.read i ti
  obtain ⟨⟨fdS, hS⟩, hoD, ⟨fdR, hR⟩, -, ord, -⟩ := hσ
  obtain ⟨d, oD, st, oS, c2, o1, rd, oR, c1, o2, pl, cp, o3, ct, o4, o5⟩ := σ
  obtain ⟨pb, xx, dx, k1, k2, k3, k4, t3⟩ := χ
  dsimp only at hS hR hoD ord h1 h2 h3 hrd ⊢
  subst hS hR
  replace ord := And.intro (ltN h1) (And.intro (ltN h2) (And.intro (ltN h3) ord))
  obtain ⟨o1a, o1b, o1c, o1d, o1e, o1f, o1g, o1h, o1i, o1j, o1k⟩ := ord
  replace o1d := ltN o1d
  replace o1e := ltN o1e
  replace o1f := ltN o1f
  replace o1g := ltN o1g
  replace o1h := ltN o1h
  replace o1i := ltN o1i
  replace o1j := ltN o1j
  replace o1k := ltN o1k
  clear h1 h2 h3
  unfold DoesC
  intro dp un gd cn cs a ccd cl outer A₀ base h₀ L m s Q E hB hF hK hN hT hcs hdp hun hpre hret
  k_dflt walk_at "my enter"
  k_extra "my steps"
  rename Fr _ _ _ _ => F1
  rename News _ _ _ _ => N1
  have N2 := news_tail (rest := [_, _, _]) N1
  refine' Does.use (hrd _ hi hi2) ?k1 F1 ?k3 N2 ?k5 ?kK ?kd ?ku trivial ?_
  (case k1 => k_asm)
  (case k3 => k_asm)
  (case k5 => k_asm)
  (case kK => exact rfl)
  (case kd => ktr_room)
  (case ku => ktr_units)
  rintro r h' tk' nw k9 F3 N3 n9 ⟨t', tk3, rfl, rfl⟩
  have N4 := news_turn (rest := [_, _, _]) N1 (Down.apart (n := d) ⟨Nat.le_refl _, Nat.le_of_lt o1k, Nat.le_of_lt o1j, Nat.le_of_lt o1i, Nat.le_of_lt o1h, Nat.le_of_lt o1g, Nat.le_of_lt o1f, Nat.le_of_lt o1e, Nat.le_of_lt o1d, trivial⟩ (List.forall_mem_cons.mpr ⟨Nat.lt_trans o1a (Nat.lt_trans o1b o1c), List.forall_mem_cons.mpr ⟨Nat.lt_trans o1a o1b, List.forall_mem_cons.mpr ⟨o1a, List.forall_mem_nil _⟩⟩⟩)) k9 N3
  clear N1 N2 N3 F1 k9 n9 hrd
  dsimp only [List.cons_append, List.nil_append] at N4
  k_extra "my steps"
  all_goals
    rename Fr _ _ _ _ => F9
    rename News _ _ _ _ => N9
    rename GSub _ _ _ => G9
    refine leaveK_ F9 N9 ?_
    intro kF kN
    obtain ⟨k9, n9⟩ := does_end F9 N9 G9
    skip
  · simp only [if_pos (beq_iff_eq.mp (by assumption : (readS x i == Str.ofString "
") = true))] at hret
    exact hret _ _ _ _ k9 kF kN n9 ⟨_, _, _, rfl, rfl⟩
  · have e : ¬ readS x i = Str.ofString "
" := fun e => by rename (_ == _) = false => e2; rw [beq_iff_eq.mpr e] at e2; cases e2
    simp only [if_neg e] at hret
    exact hret _ _ _ _ k9 kF kN n9 ⟨_, _, _, rfl, rfl⟩
end
section
open PySem PySem.W PySem.Spec PySem.Calls PyProof.Rows PyProof.Rows.LCg
theorem fill_10 : (fun (_ : OpenLaw) (_ : Params → Frag) => True) PySem.Challenge.rw_ta0019_01 heapK := by k_fill; trivial
theorem words_F10 : True := by
  w_top off
  k_with_none
  k_with "go" => (first | walk1 | (dsimp only; walk1) | (leave1; walk_say "STEP leave1"; try dsimp only))
  k_with "no comp" => ((fail_if_success (with_reducible show wpAny _ _ (eval (PySem.Expr.ListComp _ _ _ _) _) _ _ _)); (fail_if_success (with_reducible show wpAny _ _ (eval (PySem.Expr.DictComp _ _ _ _ _) _) _ _ _)))
  k_with "my steps" => (repeat' (first | ((fail_if_success (with_reducible show LeaveK _ _ _ _ _ _ _)); (first | (k_unfold; (try dsimp only)) | (k_end; wrow_close) | (k_extra "no comp"; k_extra "go"))) | fail "no step"))
  trivial

noncomputable abbrev LXh (χ : Lx) (st : Addr) (w : World) (n : Int) (tn : Tok) (pbs : Array Value) (k : Nat) : Led :=
  [(χ.pb, W.listOf pbs k), (χ.x, instObj 69 χ.dx), (χ.dx, χ.dict w st n tn)]
theorem push_token (w mean mg mb) (χ : Lx) (st : Addr) (h2 : χ.dx < χ.x) (h3 : χ.x < χ.pb) (n : Int) (tn : Tok) (pbs : Array Value) (k : Nat) (y : Str) (u : Tok) (hl : pbs.size ≤ 100000) :
    Does w mean mg mb 1 66 [.ref χ.x, .str y u] (LXh χ st w n tn pbs k) (fun _ => True) (fun r nw => ∃ k', nw = LXh χ st w n tn (pbs.push (.str y u)) k' ∧ r = .none) := by
  obtain ⟨pb, xx, dx, k1, k2, k3, k4, t3⟩ := χ
  dsimp only at h2 h3 ⊢
  replace h2 := ltN h2
  replace h3 := ltN h3
  unfold Does
  intro dp un gd cn cs a ccd cl outer A₀ base h₀ L m s Q E hB hF hK hN hT hcs hdp hun hpre hret
  refine wpAny_call ?_
  k_dflt walk_at "my enter"
  k_extra "my steps"
  rename Fr _ _ _ _ => F9
  rename News _ _ _ _ => N9
  rename GSub _ _ _ => G9
  refine leaveK_ F9 N9 ?_
  intro kF kN
  obtain ⟨k9, n9⟩ := does_end F9 N9 G9
  exact hret _ _ _ _ k9 kF kN n9 ⟨_, rfl, rfl⟩
/-- a token that was pushed back comes -/
theorem get_pushed (w mean mg mb) (χ : Lx) (st : Addr) (h2 : χ.dx < χ.x) (h3 : χ.x < χ.pb) (n : Int) (tn : Tok) (k : Nat) (v : Value) (vs : List Value) (hl : vs.length ≤ 100000) :
    Does w mean mg mb 1 59 [.ref χ.x] (LXh χ st w n tn (v :: vs).toArray k) (fun _ => True) (fun r nw => ∃ k', nw = LXh χ st w n tn vs.toArray k' ∧ r = v) := by
  obtain ⟨pb, xx, dx, k1, k2, k3, k4, t3⟩ := χ
  dsimp only at h2 h3 ⊢
  replace h2 := ltN h2
  replace h3 := ltN h3
  unfold Does
  intro dp un gd cn cs a ccd cl outer A₀ base h₀ L m s Q E hB hF hK hN hT hcs hdp hun hpre hret
  refine wpAny_call ?_
  k_dflt walk_at "my enter"
  k_extra "my steps"
  · rename Fr _ _ _ _ => F1
    rename News _ _ _ _ => N1
    dsimp only [LXh] at N1
    refine kl_popAt (its := (v :: vs).toArray) (k := 0) (p := []) (q := vs) (y := v) F1 N1 (by decide) (seqIndex_of (by decide) (by rw [List.size_toArray, List.length_cons]; omega)) rfl (by k_upd) (by rw [sizeLine_eq]; show vs.length + 1 ≤ _; omega) ?_
    intro h' F9 N9
    rename GSub _ _ _ => G9
    refine leaveK_ F9 N9 ?_
    intro kF kN
    obtain ⟨k9, n9⟩ := does_end F9 N9 G9
    exact hret _ _ _ _ k9 kF kN n9 ⟨_, rfl, rfl⟩
end
section
open PySem PySem.W PySem.Spec PySem.Calls PyProof.Rows PyProof.Rows.LCg
theorem fill_11 : (fun (_ : OpenLaw) (_ : Params → Frag) => True) PySem.Challenge.rw_ta0019_01 heapK := by k_fill; trivial
theorem words_F11 : True := by
  w_top off
  k_with_none
  k_with "my apart" => (first | exact Apart.nil | (refine' Apart.cons ?_ ?_; (focus (k_all; done)); k_extra "my apart"))
  trivial

noncomputable def lnS (x : Str) : Nat → Int
  | 0 => 1
  | i + 1 => if readS x (i : Int) = Str.ofString "\n" then lnS x i + 1 else lnS x i
noncomputable abbrev LXi (χ : Lx) (σ : Strm) (w : World) (x : Str) (pbs : Array Value) (k : Nat) (i : Nat) (tn ti : Tok) : Led := LX χ σ w (lnS x i) tn pbs k (i : Int) ti
theorem lxi_down {w : World} {mean : ExcName → Option Value} {mg mb : Str → Option Value} {χ : Lx} {σ : Strm} {x : Str} (hσ : σ.Ok w mean mg mb x) (h1 : σ.d < χ.dx) (h2 : χ.dx < χ.x) (h3 : χ.x < χ.pb) (pbs : Array Value) (k i : Nat) (tn ti : Tok) : Down χ.pb (LXi χ σ w x pbs k i tn ti) :=
  ⟨Nat.le_refl _, Nat.le_of_lt h3, Nat.le_of_lt h2, Nat.le_of_lt h1, (led_down hσ i ti).2⟩
theorem lxi_le {w : World} {mean : ExcName → Option Value} {mg mb : Str → Option Value} {χ : Lx} {σ : Strm} {x : Str} (hσ : σ.Ok w mean mg mb x) (h1 : σ.d < χ.dx) (h2 : χ.dx < χ.x) (h3 : χ.x < χ.pb) (pbs : Array Value) (k i : Nat) (tn ti : Tok) : ∀ q ∈ LXi χ σ w x pbs k i tn ti, q.1 ≤ χ.pb := (lxi_down hσ h1 h2 h3 pbs k i tn ti).le
theorem two_above {n : Nat} {a b : Addr × Obj} (h1 : Nat.lt n b.1) (h2 : Nat.lt b.1 a.1) : ∀ p ∈ [a, b], Nat.lt n p.1 := List.forall_mem_cons.mpr ⟨Nat.lt_trans h1 h2, List.forall_mem_cons.mpr ⟨h1, List.forall_mem_nil _⟩⟩
theorem read_at (w mean mg mb) (χ : Lx) (σ : Strm) (x : Str) (hσ : σ.Ok w mean mg mb x) (h1 : σ.d < χ.dx) (h2 : χ.dx < χ.x) (h3 : χ.x < χ.pb) (pbs : Array Value) (k : Nat) (i : Nat) (tn ti : Tok) (hi : i < 100000) :
    DoesC w mean mg mb 2 52 [.ref χ.x] (LXi χ σ w x pbs k i tn ti) (fun _ => True) (fun r nw => Sm3 fun tn' ti' tk => nw = LXi χ σ w x pbs k (i + 1) tn' ti' ∧ r = .str (readS x i) tk) :=
  read_char w mean mg mb χ σ x hσ h1 h2 h3 (lnS x i) tn pbs k i ti (Int.natCast_nonneg _) (by lia)
noncomputable abbrev itB (q : Addr) (u : Tok) : Obj := citObj (.ref q) (.str (Str.ofString "") u) false
noncomputable abbrev itE : Obj := citObj .none .none true
theorem rc_at (w : World) : Sm4 fun oc od fd sl => (heapK w.params).lookup 52 = some ⟨oc, od, .func fd, sl⟩ := ⟨_, _, _, _, rfl⟩
section
variable {w : World} {mean : ExcName → Option Value} {mg mb : Str → Option Value} {dp un : Nat} {gd : Option (List Code)} {cn : Str} {cs : Scope} {a : Addr} {ccd : Value} {cl : List (Str × Addr)} {outer : List Env} {A₀ : Around} {base h₀ : Heap} {L : Addr} {m : Str → Option Value} {s : Shared} {E : Value → Shared → Prop}
theorem next_L {Q : Option Value → Shared → Prop} {χ : Lx} {σ : Strm} {x : Str} {pbs : Array Value} {k : Nat} {i : Nat} {tn ti : Tok} {it q : Addr} {u : Tok} (hσ : σ.Ok w mean mg mb x) (h1 : σ.d < χ.dx) (h2 : χ.dx < χ.x) (h3 : χ.x < χ.pb) (h4 : χ.pb < q) (h5 : q < it) (hi : i < 100000)
    (B : Below A₀ base outer h₀) (F : Fr h₀ L s.heap m) (X : (heapK w.params).In h₀) (N : News h₀ L s.heap ((it, itB q u) :: (q, methodObj (.ref 52) (.ref χ.x)) :: LXi χ σ w x pbs k i tn ti)) (T : Top topProg LOO mean mg mb h₀) (hk : cs.kind = .function) (hd' : dp + 2 < recursionLimit) (hu : un + 24 < cLine)
    (hE : readS x i = Str.ofString "" → ∀ h' tk' tn' ti', Fr h₀ L h' m → News h₀ L h' ((it, itE) :: (q, methodObj (.ref 52) (.ref χ.x)) :: LXi χ σ w x pbs k (i + 1) tn' ti') → Q none { s with heap := h', toks := tk' })
    (hN : readS x i ≠ Str.ofString "" → ∀ h' tk' tn' ti' tk, Fr h₀ L h' m → News h₀ L h' ((it, itB q u) :: (q, methodObj (.ref 52) (.ref χ.x)) :: LXi χ σ w x pbs k (i + 1) tn' ti') → Q (some (.str (readS x i) tk)) { s with heap := h', toks := tk' }) :
    wpAny (model PySem.Challenge.rw_ta0019_01.row.prog w) (ktrTop dp un gd cn cs L a ccd cl outer) (pyNext (.ref it)) Q E s := by
  obtain ⟨oc, od, fd, sl, hf⟩ := rc_at w
  have hap : ∀ i tn ti, Apart [(it, itB q u), (q, methodObj (.ref 52) (.ref χ.x))] (LXi χ σ w x pbs k i tn ti) := fun i tn ti => (lxi_down hσ h1 h2 h3 pbs k i tn ti).apart (two_above h4 h5)
  refine cit_next rfl (N _ (.head _)).1 (N _ (.tail _ (.head _))).1 (F.keep _ _ (X _ _ hf)) (codeAny_mono (read_at w mean mg mb χ σ x hσ h1 h2 h3 pbs k i tn ti hi _ _ _ _ _ _ _ _ _ _ _ _ _ _ _
    (fun v s' => Sm5 fun h' tk' tn' ti' tk => Al4 (v = .str (readS x i) tk) (s' = { s with heap := h', toks := tk' }) (Fr h₀ L h' m) (News h₀ L h' ((it, itB q u) :: (q, methodObj (.ref 52) (.ref χ.x)) :: LXi χ σ w x pbs k (i + 1) tn' ti'))) (fun _ _ => False) B F X (news_tail (rest := [_, _]) N) T hk hd' ?_ trivial ?_) fun r s' z => ?_)
  · show un + 1 + 8 * 2 < cLine; lia
  · rintro r h' tk' nw k9 F' N' n9 ⟨tn', ti', tk, rfl, rfl⟩
    exact ⟨h', tk', tn', ti', tk, rfl, rfl, F', news_turn (rest := [_, _]) N (hap _ _ _) k9 N'⟩
  · cases r with
    | error e => exact z
    | ok fl => cases fl with
      | ret v =>
        obtain ⟨h', tk', tn', ti', tk, rfl, rfl, F', N'⟩ := z
        refine ⟨_, _, rfl, (N' _ (.head _)).1, (N' _ (.tail _ (.head _))).1, F'.keep _ _ (X _ _ hf), ?_⟩
        by_cases he : readS x i = Str.ofString ""
        · rw [if_pos he.symm]
          intro h'' tk'' kp hit
          have zi := N' _ (.head _)
          refine hE he h'' tk'' tn' ti' ?_ fun p hp => ?_
          · refine ⟨F'.ns.at' fun o e => kp _ _ (Ne.symm zi.2.1) e, fun b o e => kp b o (fun q => by rw [q, zi.2.2] at e; cases e) (F'.keep b o e), F'.above⟩
          · rcases List.mem_cons.mp hp with rfl | hp
            · exact ⟨hit, zi.2⟩
            · have z := N' p (List.mem_cons_of_mem _ hp)
              refine ⟨kp _ _ ?_ z.1, z.2⟩
              rcases List.mem_cons.mp hp with rfl | hp
              · exact Nat.ne_of_lt h5
              · exact hap (i + 1) tn' ti' (it, itB q u) (.head _) p hp
        · rw [if_neg (Ne.symm he)]
          exact hN he h' tk' tn' ti' tk F' N'
      | _ => exact z
theorem over_L {Q : Option Value → Shared → Prop} {it : Addr} {rest : Led} (F : Fr h₀ L s.heap m) (N : News h₀ L s.heap ((it, itE) :: rest))
    (h : ∀ h' tk', Fr h₀ L h' m → News h₀ L h' ((it, itE) :: rest) → Q none { s with heap := h', toks := tk' }) :
    wpAny (model PySem.Challenge.rw_ta0019_01.row.prog w) (ktrTop dp un gd cn cs L a ccd cl outer) (pyNext (.ref it)) Q E s :=
  cit_over rfl (N _ (.head _)).1 fun h' tk k => h h' tk (F.keeps k) (N.grown k)
end
end
section
open PySem PySem.W PySem.Spec PySem.Calls PyProof.Rows PyProof.Rows.LCg
theorem fill_12 : (fun (_ : OpenLaw) (_ : Params → Frag) => True) PySem.Challenge.rw_ta0019_01 heapK := by k_fill; trivial
theorem words_F12 : True := by
  w_top off
  k_with_none
  k_with "go" => (first | walk1 | (dsimp only; walk1) | (leave1; walk_say "STEP leave1"; try dsimp only))
  k_with "no comp" => ((fail_if_success (with_reducible show wpAny _ _ (eval (PySem.Expr.ListComp _ _ _ _) _) _ _ _)); (fail_if_success (with_reducible show wpAny _ _ (eval (PySem.Expr.DictComp _ _ _ _ _) _) _ _ _)))
  k_with "no for" => ((fail_if_success (with_reducible show wpAny _ _ (exec (PySem.Stmt.For _ _ _ _ _) _) _ _ _)))
  k_with "my steps" => (repeat' (first | ((fail_if_success (with_reducible show LeaveK _ _ _ _ _ _ _)); (first | (k_unfold; (try dsimp only)) | (k_end; wrow_close) | (k_extra "no comp"; k_extra "go"))) | fail "no step"))
  k_with "no two" => ((fail_if_success (with_reducible show wpAny _ _ (execs (Stmt.If _ _ [] _ :: Stmt.AugAssign _ _ _ _ :: _) _) _ _ _)))
  k_with "my steps two" => (repeat' (first | ((fail_if_success (with_reducible show LeaveK _ _ _ _ _ _ _)); (first | (k_unfold; (try dsimp only)) | (k_end; wrow_close) | (k_extra "no for"; k_extra "no two"; k_extra "no comp"; k_extra "go"))) | fail "no step"))
  k_with "my steps for1" => (repeat' (first | ((fail_if_success (with_reducible show LeaveK _ _ _ _ _ _ _)); (first | (k_unfold; (try dsimp only)) | (k_end; wrow_close) | (k_extra "no for"; k_extra "no comp"; k_extra "go"))) | fail "no step"))
  k_with "my apart" => (first | exact Apart.nil | (refine' Apart.cons ?_ ?_; (focus (k_all; done)); k_extra "my apart"))
  k_with "my call builtin:iter" => (k_here; k_dflt (refine cit_iterN (by k_asm) (by k_asm) (by k_mem) ?_); walk_at "in iter")
  k_with "my pyIter ref" => (k_here; k_dflt (refine cit_pyIter (News.get (by k_asm) (by k_mem)) rfl ?_))
  k_with "my inplaceOp Add str str" => ((with_reducible show wpAny _ _ (inplaceOp Operator.Add (Value.str _ _) (Value.str _ _)) _ _ _); (refine PyProof.Rows.iadd_str (hsz := by refine Nat.le_trans (Nat.add_le_add (by first | assumption | exact len_emp) (readS_le5 _ _)) ?_; rw [sizeLine_eq]; lia) ?_; intro _ _))
  trivial
theorem readS_eq (x : Str) (i : Nat) : readS x i = ⟨((x.cps.toList.drop i).take 1).toArray⟩ := by
  by_cases h : i + 1 ≤ x.length
  · have := slice_closesL (x := x) (i := (i : Int)) (j := (i : Int) + 1) (by lia) (by lia) (by lia)
    have e := beq_iff_eq.mp this
    unfold readS
    rw [e]
    congr 4
    · lia
  · have hl : x.cps.toList.length ≤ i := by
      rw [Array.length_toList]; have : x.length = x.cps.size := rfl; lia
    rw [List.drop_eq_nil_of_le hl]
    have hx : x.length = x.cps.size := rfl
    have e : PySem.Builtin.Str.strSliceIndices (some (i : Int)) (some ((i : Int) + 1)) 1 x.length = [] := by
      unfold PySem.Builtin.Str.strSliceIndices PySem.sliceRange
      have hl' : x.length ≤ i := by lia
      have a1 : ¬ ((i : Int) < 0) := by lia
      have a2 : ¬ ((i : Int) + 1 < 0) := by lia
      simp only [a1, a2, if_false, show (1 : Int) > 0 by decide, if_true]
      rw [show max (0 : Int) (min (i : Int) (x.length : Int)) = x.length by lia, show max (0 : Int) (min ((i : Int) + 1) (x.length : Int)) = x.length by lia]
      simp
    unfold readS Txt.slice
    rw [e]
    by_cases h0 : x.length = 0
    · simp [h0]
      apply Str.ext'
      exact Array.eq_empty_of_size_eq_zero h0
    · have : ¬ (([] : List Nat).length == x.length) = true := by simp; lia
      simp only [this, Bool.and_false]
      rfl
theorem readS_one (x : Str) (i : Nat) : (readS x i).length ≤ 1 := by
  rw [readS_eq]
  show (List.toArray _).size ≤ 1
  rw [List.size_toArray, List.length_take]; lia
theorem read_end {x : Str} {i : Nat} (h : x.length ≤ i) : readS x i = Str.ofString "" := by
  rw [readS_eq, List.drop_eq_nil_of_le (by rw [Array.length_toList]; exact h), empty_cps]; rfl

theorem cit_iterN {prog : Program} {w : World} {A : Around} {E : Value → Shared → Prop} {s : Shared} {h₀ : Heap} {L q : Addr} {m : Str → Option Value} {fn self x : Value} {news : Led} {Q : Value → Shared → Prop} (F : Fr h₀ L s.heap m) (N : News h₀ L s.heap news) (hq : (q, methodObj fn self) ∈ news)
    (h : ∀ I h', Fr h₀ L h' m → News h₀ L h' ((I, citObj (.ref q) x false) :: news) → (∀ p ∈ news, p.1 < I) → Q (.ref I) { s with heap := h' }) : wpAny (model prog w) A (call (.builtin "iter") [.ref q, x]) Q E s :=
  cit_iter (N _ hq).1 (h _ _ (F.push _) (N.push F _) fun p hp => Heap.lt_size (N p hp).1)
noncomputable def Again (I : Nat → Shared → Prop) (n : Nat) (s : Shared) : Prop := ∃ m, m < n ∧ I m s
theorem Again.of {I : Nat → Shared → Prop} {n : Nat} {s : Shared} (m : Nat) (h : m < n) (hI : I m s) : Again I n s := ⟨m, h, hI⟩
theorem codeAny_forLoop_op {prog : Program} {w : World} {A : Around} {s : Shared} {R : Result → Shared → Prop} {target it body orelse env} (I : Nat → Shared → Prop)
    (turn : ∀ n s, I n s → wpAny (model prog w) A (pyNext it) (fun r s₁ => match r with
      | none => wpAny (model prog w) A (execs orelse env) (fun f s₃ => R (.ok f) s₃) (notedBy (model prog w) A env fun e s' => R (.error e) s') s₁
      | some v => wpAny (model prog w) A (letOwnedTupleGo target it v) (fun _ s₁' =>
          wpAny (model prog w) A (assign target env v) (fun _ s₂ => wpAny (model prog w) A (execs body env) (fun f s₃ => match f with
            | .next | .cont => Again I n s₃
            | .brk => R (.ok .next) s₃
            | .ret v => R (.ok (.ret v)) s₃) (notedBy (model prog w) A env fun e s' => R (.error e) s') s₂) (notedBy (model prog w) A env fun e s' => R (.error e) s') s₁') (notedBy (model prog w) A env fun e s' => R (.error e) s') s₁) (notedBy (model prog w) A env fun e s' => R (.error e) s') s)
    (n : Nat) (h : I n s) : codeAny (model prog w) A (.forLoop target it body orelse env) R s := codeAny_forLoop_any I turn n h
section
variable {w : World} {mean : ExcName → Option Value} {mg mb : Str → Option Value} {dp un : Nat} {gd : Option (List Code)} {cn : Str} {cs : Scope} {a : Addr} {ccd : Value} {cl : List (Str × Addr)} {outer : List Env} {A₀ : Around} {base h₀ : Heap} {L : Addr} {m : Str → Option Value} {s : Shared} {E : Value → Shared → Prop}
theorem rc_use {Q : Value → Shared → Prop} {χ : Lx} {σ : Strm} {x : Str} {pbs : Array Value} {k : Nat} {i : Nat} {tn ti : Tok} {it q : Addr} {io : Obj} (hσ : σ.Ok w mean mg mb x) (h1 : σ.d < χ.dx) (h2 : χ.dx < χ.x) (h3 : χ.x < χ.pb) (h4 : χ.pb < q) (h5 : q < it) (hi : i < 100000)
    (B : Below A₀ base outer h₀) (F : Fr h₀ L s.heap m) (X : (heapK w.params).In h₀) (N : News h₀ L s.heap ((it, io) :: (q, methodObj (.ref 52) (.ref χ.x)) :: LXi χ σ w x pbs k i tn ti)) (T : Top topProg LOO mean mg mb h₀) (hk : cs.kind = .function) (hd' : dp + 2 < recursionLimit) (hu : un + 16 < cLine)
    (ret : ∀ h' tk' tn' ti' tk, Fr h₀ L h' m → News h₀ L h' ((it, io) :: (q, methodObj (.ref 52) (.ref χ.x)) :: LXi χ σ w x pbs k (i + 1) tn' ti') → Q (.str (readS x i) tk) { s with heap := h', toks := tk' }) :
    wpAny (model PySem.Challenge.rw_ta0019_01.row.prog w) (ktrTop dp un gd cn cs L a ccd cl outer) (call (.ref 52) [.ref χ.x]) Q E s := by
  have hap : Apart [(it, io), (q, methodObj (.ref 52) (.ref χ.x))] (LXi χ σ w x pbs k i tn ti) := (lxi_down hσ h1 h2 h3 pbs k i tn ti).apart (two_above h4 h5)
  refine Does.use (read_at w mean mg mb χ σ x hσ h1 h2 h3 pbs k i tn ti hi).does B F X (news_tail (rest := [_, _]) N) T hk hd' hu trivial ?_
  rintro r h' tk' nw k9 F' N' n9 ⟨tn', ti', tk, rfl, rfl⟩
  exact ret h' tk' tn' ti' tk F' (news_turn (rest := [_, _]) N hap k9 N')
end
local macro_rules | `(tactic| walk_at "call ref") => `(tactic| (k_here; (try dsimp only [List.append_nil]); (with_reducible show wpAny _ _ (call (Value.ref 52) _) _ _ _); k_dflt (refine' rc_use (cn := _) (cs := _) (by assumption) ?z1 ?z2 ?z3 ?z4 ?z5 ?z6 ?k1 ?k2 ?k3 ?k4 ?k5 ?kK ?kd ?ku ?_; (case k1 => k_asm); (case k2 => k_asm); (case k3 => k_asm); (case k4 => k_asm); (case k5 => k_asm); (case z1 => refine ltN ?_; lia); (case z2 => refine ltN ?_; lia); (case z3 => refine ltN ?_; lia); (case z4 => refine ltN ?_; lia); (case z5 => refine ltN ?_; lia); (case z6 => lia); (case kK => exact rfl); (case kd => ktr_room); (case ku => ktr_units)); intro h' tk' tn' ti' tk F' N'))
theorem readS_le5 (x : Str) (i : Int) : (readS x i).length ≤ x.length := by unfold readS; exact Txt.slice_le _ _ _
theorem len_emp : (Str.ofString "").length ≤ 0 := by decide +kernel
noncomputable def wsB (c : Str) : Bool := !(Builtin.Str.occurrences wsp c 0 wsp.length 1).isEmpty
noncomputable def lexQ (x : Str) : Nat → Nat → Str → Str × Nat
  | 0, i, t => (t, i + 1)
  | f + 1, i, t => if readS x i = Str.ofString "" then (t, i + 1) else if (readS x i == Str.ofString "\"") = true then (t, i + 1) else if (readS x i == Str.ofString "\\") = true then lexQ x f (i + 2) (t ++ readS x (i + 1 : Nat)) else lexQ x f (i + 1) (t ++ readS x i)
noncomputable def lexP (x : Str) : Nat → Nat → Str → Str × Nat
  | 0, i, t => (t, i + 1)
  | f + 1, i, t => if readS x i = Str.ofString "" then (t, i + 1) else if wsB (readS x i) = true then (t, i + 1) else if (readS x i == Str.ofString "\\") = true then lexP x f (i + 2) (t ++ readS x (i + 1 : Nat)) else lexP x f (i + 1) (t ++ readS x i)
noncomputable def lexF (x : Str) : Nat → Nat → Str × Nat
  | 0, i => (Str.ofString "", i + 1)
  | f + 1, i => if readS x i = Str.ofString "" then (Str.ofString "", i + 1) else if wsB (readS x i) = true then lexF x f (i + 1) else if (readS x i == Str.ofString "\"") = true then lexQ x f (i + 1) (Str.ofString "") else if (readS x i == Str.ofString "\\") = true then lexP x f (i + 2) (Str.ofString "" ++ readS x (i + 1 : Nat)) else lexP x f (i + 1) (Str.ofString "" ++ readS x i)
theorem lexQ_end {x : Str} {f i : Nat} {t : Str} (h : readS x i = Str.ofString "") : lexQ x f i t = (t, i + 1) := by
  cases f with
  | zero => rfl
  | succ f => unfold lexQ; rw [if_pos h]
theorem lexP_end {x : Str} {f i : Nat} {t : Str} (h : readS x i = Str.ofString "") : lexP x f i t = (t, i + 1) := by
  cases f with
  | zero => rfl
  | succ f => unfold lexP; rw [if_pos h]
theorem lexF_end {x : Str} {f i : Nat} (h : readS x i = Str.ofString "") : lexF x f i = (Str.ofString "", i + 1) := by
  cases f with
  | zero => rfl
  | succ f => unfold lexF; rw [if_pos h]
theorem fuel_pos {x : Str} {f i : Nat} (h : readS x i ≠ Str.ofString "") (hf : x.length ≤ i + f) : ∃ f', f = f' + 1 := by
  cases f with
  | zero => exact absurd (read_end hf) h
  | succ f => exact ⟨f, rfl⟩
theorem tok_len {x : Str} {tok : Str} {i j : Nat} (h : tok.length ≤ i) : (tok ++ readS x j).length ≤ i + 1 := by
  rw [Str.length_append]; exact Nat.add_le_add h (readS_one x j)
noncomputable abbrev mG (xa it : Addr) (tok : Str) (tt : Tok) (ch : Option Value) : Str → Option Value := fun y => if y = Str.ofString "token" then some (.str tok tt) else if y = Str.ofString "fiter" then some (.ref it) else if y = Str.ofString "self" then some (.ref xa) else if y = Str.ofString "ch" then ch else none
theorem mG_of {g h : Heap} {L xa it : Addr} {tt : Tok} (F : Fr g L h (fun y => if y = Str.ofString "fiter" then some (.ref it) else if y = Str.ofString "token" then some (.str (Str.ofString "") tt) else List.lookup y [(Str.ofString "self", .ref xa)])) : Fr g L h (mG xa it (Str.ofString "") tt none) := by
  refine cast (congrArg (Fr g L h) (funext fun y => ?_)) F
  by_cases e1 : y = Str.ofString "token"
  · subst e1; rfl
  · by_cases e2 : y = Str.ofString "fiter"
    · subst e2; rfl
    · by_cases e3 : y = Str.ofString "self"
      · subst e3; rfl
      · simp [mG, e1, e2, e3, List.lookup, beq_false_of_ne e3]
theorem mG_ch {g h : Heap} {L xa it : Addr} {tok : Str} {tt : Tok} {c : Option Value} {v : Value} (F : Fr g L h (fun y => if y = Str.ofString "ch" then some v else mG xa it tok tt c y)) : Fr g L h (mG xa it tok tt (some v)) := by
  refine cast (congrArg (Fr g L h) (funext fun y => ?_)) F
  by_cases e1 : y = Str.ofString "token"
  · subst e1; rfl
  · by_cases e2 : y = Str.ofString "fiter"
    · subst e2; rfl
    · by_cases e3 : y = Str.ofString "self"
      · subst e3; rfl
      · by_cases e4 : y = Str.ofString "ch"
        · subst e4; rfl
        · simp [mG, e1, e2, e3, e4]
theorem mG_tok {g h : Heap} {L xa it : Addr} {tok tok' : Str} {tt tt' : Tok} {c : Option Value} (F : Fr g L h (fun y => if y = Str.ofString "token" then some (.str tok' tt') else mG xa it tok tt c y)) : Fr g L h (mG xa it tok' tt' c) := by
  refine cast (congrArg (Fr g L h) (funext fun y => ?_)) F
  by_cases e1 : y = Str.ofString "token"
  · subst e1; rfl
  · simp [mG, e1]
theorem mg_norm {m' : Str → Option Value} {xa it : Addr} {tok : Str} {tt : Tok} {c : Option Value} (h1 : m' (Str.ofString "token") = some (.str tok tt)) (h2 : m' (Str.ofString "fiter") = some (.ref it)) (h3 : m' (Str.ofString "self") = some (.ref xa)) (h4 : m' (Str.ofString "ch") = c)
    (h5 : ∀ y, y ≠ Str.ofString "token" → y ≠ Str.ofString "fiter" → y ≠ Str.ofString "self" → y ≠ Str.ofString "ch" → m' y = none) : ∀ y, m' y = mG xa it tok tt c y := by
  intro y
  by_cases e1 : y = Str.ofString "token"
  · subst e1; exact h1
  · by_cases e2 : y = Str.ofString "fiter"
    · subst e2; exact h2
    · by_cases e3 : y = Str.ofString "self"
      · subst e3; exact h3
      · by_cases e4 : y = Str.ofString "ch"
        · subst e4; exact h4
        · rw [h5 y e1 e2 e3 e4]; simp [mG, e1, e2, e3, e4]
theorem get_read (w mean mg mb) (χ : Lx) (σ : Strm) (x : Str) (hσ : σ.Ok w mean mg mb x) (h1 : σ.d < χ.dx) (h2 : χ.dx < χ.x) (h3 : χ.x < χ.pb) (k : Nat) (i : Nat) (tn ti : Tok) (hi : i ≤ 5000) (hx : x.length ≤ 5000) :
    Does w mean mg mb 4 59 [.ref χ.x] (LXi χ σ w x #[] k i tn ti) (fun _ => True) (fun r nw => Sm3 fun tn' ti' tk => nw = LXi χ σ w x #[] k (lexF x x.length i).2 tn' ti' ∧ r = .str (lexF x x.length i).1 tk) := by
  have ord := hσ.ord
  obtain ⟨o1d, o1e, o1f, o1g, o1h, o1i, o1j, o1k⟩ := ord
  replace o1d := ltN o1d
  replace o1e := ltN o1e
  replace o1f := ltN o1f
  replace o1g := ltN o1g
  replace o1h := ltN o1h
  replace o1i := ltN o1i
  replace o1j := ltN o1j
  replace o1k := ltN o1k
  replace h1 := ltN h1
  replace h2 := ltN h2
  replace h3 := ltN h3
  generalize hres : lexF x x.length i = res
  unfold Does
  intro dp un gd cn cs a ccd cl outer A₀ base h₀ L m s Q E hB hF hK hN hT hcs hdp hun hpre hret
  refine wpAny_call ?_
  k_dflt walk_at "my enter"
  k_extra "my steps for1"
  refine wpAny_For ?_
  k_extra "my steps"
  rename Fr _ _ _ _ => F1
  rename News _ _ _ _ => N1
  rename GSub _ _ _ => G9
  rename_i g L' h02 FG BB XX TT tk1 tk0 h01 q h03 l1 it h04 l2 h05
  generalize hu : tk0 + 1 + 1 + 1 = u at N1
  refine codeAny_forLoop_op (fun n s' => Sm9 fun h' tk i' tn ti tt tok chv io => Al4 (s' = { s with heap := h', toks := tk }) (Fr g L' h' (mG χ.x it tok tt chv)) (News g L' h' ((it, io) :: (q, methodObj (.ref 52) (.ref χ.x)) :: LXi χ σ w x #[] k i' tn ti)) (((∃ f, Al6 (io = itB q u) (tok = Str.ofString "") (n = f + 2) (x.length ≤ i' + f) (i' + 2 * f ≤ 90000) (lexF x f i' = res)) ∨ (n = 1 ∧ io = itE ∧ tok = res.1 ∧ i' = res.2)))) ?turn (x.length + 2) ?init
  case init =>
    refine ⟨_, _, i, _, _, ?tt, _, none, _, rfl, ?ff, N1, .inl ⟨x.length, rfl, rfl, rfl, by lia, by lia, hres⟩⟩
    case ff => (refine mG_of ?_; with_unfolding_all exact F1)
  case turn =>
    rintro n s' ⟨h', tk, i', tn, ti, tt, tok, chv, io, rfl, F2, N2, hA | hB⟩
    · obtain ⟨f, rfl, rfl, rfl, hf1, hf2, hf3⟩ := hA
      clear F1 N1
      refine next_L (cn := _) (cs := _) hσ h1 h2 h3 (ltN (by lia)) (ltN (by lia)) (by lia) BB F2 XX N2 TT rfl ?kd ?ku ?hE ?hN
      case kd => ktr_room
      case ku => ktr_units
      case hE =>
        intro he h' tk' tn' ti' F3 N3
        rw [lexF_end he] at hf3
        subst hf3
        clear F2 N2
        dsimp only
        k_extra "my steps for1"
        have N9 := news_tail (rest := [_, _]) N3
        refine leaveK_ F3 N9 ?_
        intro kF kN
        obtain ⟨k9, n9⟩ := does_end F3 N9 G9
        exact hret _ _ _ _ k9 kF kN n9 ⟨_, _, _, rfl, rfl⟩

      case hN =>
        intro he h' tk' tn' ti' tk F3 N3
        obtain ⟨f, rfl⟩ := fuel_pos he hf1
        clear F2 N2
        dsimp only
        refine let_name ?_
        refine hideF ?_
        intro QA hQA
        k_extra "my steps"
        refine hQA _ _ ?_
        refine hideF ?_
        intro QB hQB
        k_extra "my steps two"
        · rename (_ == Str.ofString "\"") = true => e2
          rename List.isEmpty _ = true => e1
          unfold lexF at hf3
          rw [if_neg he, if_neg (by unfold wsB; rw [e1]; decide), if_pos e2] at hf3
          refine wpAny_For ?_
          k_extra "my steps"
          rename Fr _ _ _ _ => F1
          rename News _ _ _ _ => N1
          refine codeAny_forLoop_op (fun n s' => Sm9 fun h' tk i' tn ti tt tok chv f => Al8 (s' = { s with heap := h', toks := tk }) (Fr g L' h' (mG χ.x it tok tt chv)) (News g L' h' ((it, itB q u) :: (q, methodObj (.ref 52) (.ref χ.x)) :: LXi χ σ w x #[] k i' tn ti)) (n = f + 1) (tok.length ≤ i') (x.length ≤ i' + f) (i' + 2 * f ≤ 90000) (lexQ x f i' tok = res)) ?turn (f + 1) ?init
          case init =>
            obtain ⟨tt', c', F5⟩ : ∃ tt c, Fr g L' _ (mG χ.x it (Str.ofString "") tt c) := ⟨_, _, fr_eq F1 (mg_norm rfl rfl rfl rfl (by intro y e1 e2 e3 e4; simp [mG, e1, e2, e3, e4]))⟩
            exact ⟨_, _, i' + 1, _, _, tt', Str.ofString "", c', f, rfl, F5, N1, rfl, Nat.le_trans len_emp (Nat.zero_le _), by lia, by lia, hf3⟩
          case turn =>
            clear F1 N1
            rintro n s' ⟨h', tk, i', tn, ti, tt, tok, chv, f, rfl, F2, N2, rfl, hl, hf1, hf2, hf3⟩
            refine next_L (cn := _) (cs := _) hσ h1 h2 h3 (ltN (by lia)) (ltN (by lia)) (by lia) BB F2 XX N2 TT rfl ?kd ?ku ?hE ?hN
            case kd => ktr_room
            case ku => ktr_units
            case hE =>
              intro he h' tk' tn' ti' F3 N3
              rw [lexQ_end he] at hf3
              subst hf3
              clear F2 N2
              dsimp only
              k_extra "my steps for1"
              rename Fr _ _ _ _ => F3
              rename News _ _ _ _ => N3
              exact hQB _ _ (Again.of 1 (by lia) ⟨_, _, _, _, _, _, _, _, _, rfl, F3, N3, .inr ⟨rfl, rfl, rfl, rfl⟩⟩)
            case hN =>
              intro he h' tk' tn' ti' tk F3 N3
              obtain ⟨f, rfl⟩ := fuel_pos he hf1
              dsimp only
              refine let_name ?_
              clear F2 N2
              refine hideF ?_
              intro QC hQC
              k_extra "my steps"
              refine hQC _ _ ?_
              refine hideF ?_
              intro QD hQD
              k_extra "my steps for1"
              · rename (_ == Str.ofString "\"") = true => e1
                unfold lexQ at hf3
                rw [if_neg he, if_pos e1] at hf3
                subst hf3
                refine hQD _ _ ?_
                dsimp only
                refine hQB _ _ ?_
                dsimp only
                k_extra "my steps for1"
                rename Fr _ _ _ _ => F3
                rename News _ _ _ _ => N3
                have N9 := news_tail (rest := [_, _]) N3
                refine leaveK_ F3 N9 ?_
                intro kF kN
                obtain ⟨k9, n9⟩ := does_end F3 N9 G9
                exact hret _ _ _ _ k9 kF kN n9 ⟨_, _, _, rfl, rfl⟩
              · rename (_ == Str.ofString "\"") = false => e1
                rename (_ == Str.ofString "\\") = true => e2
                unfold lexQ at hf3
                rw [if_neg he, if_neg (by rw [e1]; decide), if_pos e2] at hf3
                rename Fr _ _ _ _ => F3
                rename News _ _ _ _ => N3
                dsimp only
                obtain ⟨tt', c', F5⟩ : ∃ tt c, Fr g L' _ (mG χ.x it (tok ++ readS x (i' + 1 : Nat)) tt c) := ⟨_, _, fr_eq F3 (mg_norm rfl rfl rfl rfl (by intro y e1 e2 e3 e4; simp [mG, e1, e2, e3, e4]))⟩
                exact hQD _ _ (Again.of (f + 1) (by lia) ⟨_, _, i' + 2, _, _, tt', tok ++ readS x (i' + 1 : Nat), c', f, rfl, F5, N3, rfl, Nat.le_succ_of_le (tok_len hl), by lia, by lia, hf3⟩)
              · rename (_ == Str.ofString "\"") = false => e1
                rename (_ == Str.ofString "\\") = false => e2
                unfold lexQ at hf3
                rw [if_neg he, if_neg (by rw [e1]; decide), if_neg (by rw [e2]; decide)] at hf3
                rename Fr _ _ _ _ => F3
                rename News _ _ _ _ => N3
                dsimp only
                obtain ⟨tt', c', F5⟩ : ∃ tt c, Fr g L' _ (mG χ.x it (tok ++ readS x (i' : Nat)) tt c) := ⟨_, _, fr_eq F3 (mg_norm rfl rfl rfl rfl (by intro y e1 e2 e3 e4; simp [mG, e1, e2, e3, e4]))⟩
                exact hQD _ _ (Again.of (f + 1) (by lia) ⟨_, _, i' + 1, _, _, tt', tok ++ readS x (i' : Nat), c', f, rfl, F5, N3, rfl, tok_len hl, by lia, by lia, hf3⟩)
        · rename (_ == Str.ofString "\"") = false => e2
          rename List.isEmpty _ = true => e1
          refine execs_cut (P := fun s9 => Sm5 fun (j : Int) (tc : Tok) (i2 : Nat) (tn : Tok) (ti : Tok) => Al9 (s9.gens = s.gens) (s9.drawn = s.drawn) (s9.os = s.os) (Fr g L' s9.heap (mG χ.x it (Str.ofString "") tt (some (.str (readS x j) tc)))) (News g L' s9.heap ((it, itB q u) :: (q, methodObj (.ref 52) (.ref χ.x)) :: LXi χ σ w x #[] k i2 tn ti)) ((Str.ofString "" ++ readS x j).length ≤ i2) (x.length ≤ i2 + f) (i2 + 2 * f ≤ 90000) (lexP x f i2 (Str.ofString "" ++ readS x j) = res)) ?cutA ?cutB
          case cutA =>
            unfold lexF at hf3
            rw [if_neg he, if_neg (by unfold wsB; rw [e1]; decide), if_neg (by rw [e2]; decide)] at hf3
            k_extra "my steps for1"
            · rename (_ == Str.ofString "\\") = true => e3
              rw [if_pos e3] at hf3
              rename Fr _ _ _ _ => F1
              rename News _ _ _ _ => N1
              exact Cut.mk _ ⟨_, _, i' + 2, _, _, rfl, rfl, rfl, fr_eq F1 (mg_norm rfl rfl rfl rfl (by intro y e1 e2 e3 e4; simp [mG, e1, e2, e3, e4])), N1, Nat.le_trans (tok_len len_emp) (by lia), by lia, by lia, hf3⟩
            · rename (_ == Str.ofString "\\") = false => e3
              rw [if_neg (by rw [e3]; decide)] at hf3
              rename Fr _ _ _ _ => F1
              rename News _ _ _ _ => N1
              exact Cut.mk _ ⟨_, _, i' + 1, _, _, rfl, rfl, rfl, fr_eq F1 (mg_norm rfl rfl rfl rfl (by intro y e1 e2 e3 e4; simp [mG, e1, e2, e3, e4])), N1, Nat.le_trans (tok_len len_emp) (by lia), by lia, by lia, hf3⟩
          case cutB =>
          rintro ⟨h9, _, _, tk9, _⟩ ⟨j, tc, i2, tn, ti, rfl, rfl, rfl, F2, N2, hl0, hf1, hf2, hf3⟩
          dsimp only at F2 N2
          k_extra "my steps for1"
          refine wpAny_For ?_
          k_extra "my steps"
          rename Fr _ _ _ _ => F1
          rename News _ _ _ _ => N1
          refine codeAny_forLoop_op (fun n s' => Sm9 fun h' tk i' tn ti tt tok chv f => Al8 (s' = { s with heap := h', toks := tk }) (Fr g L' h' (mG χ.x it tok tt chv)) (News g L' h' ((it, itB q u) :: (q, methodObj (.ref 52) (.ref χ.x)) :: LXi χ σ w x #[] k i' tn ti)) (n = f + 1) (tok.length ≤ i') (x.length ≤ i' + f) (i' + 2 * f ≤ 90000) (lexP x f i' tok = res)) ?turn (f + 1) ?init
          case init =>
            obtain ⟨tt', c', F5⟩ : ∃ tt c, Fr g L' _ (mG χ.x it (Str.ofString "" ++ readS x j) tt c) := ⟨_, _, fr_eq F1 (mg_norm rfl rfl rfl rfl (by intro y e1 e2 e3 e4; simp [mG, e1, e2, e3, e4]))⟩
            exact ⟨_, _, i2, _, _, tt', Str.ofString "" ++ readS x j, c', f, rfl, F5, N1, rfl, hl0, hf1, hf2, hf3⟩
          case turn =>
            clear F1 N1
            rintro n s' ⟨h', tk, i', tn, ti, tt, tok, chv, f, rfl, F2, N2, rfl, hl, hf1, hf2, hf3⟩
            refine next_L (cn := _) (cs := _) hσ h1 h2 h3 (ltN (by lia)) (ltN (by lia)) (by lia) BB F2 XX N2 TT rfl ?kd ?ku ?hE ?hN
            case kd => ktr_room
            case ku => ktr_units
            case hE =>
              intro he h' tk' tn' ti' F3 N3
              rw [lexP_end he] at hf3
              subst hf3
              clear F2 N2
              dsimp only
              k_extra "my steps for1"
              rename Fr _ _ _ _ => F3
              rename News _ _ _ _ => N3
              exact hQB _ _ (Again.of 1 (by lia) ⟨_, _, _, _, _, _, _, _, _, rfl, F3, N3, .inr ⟨rfl, rfl, rfl, rfl⟩⟩)
            case hN =>
              intro he h' tk' tn' ti' tk F3 N3
              obtain ⟨f, rfl⟩ := fuel_pos he hf1
              dsimp only
              refine let_name ?_
              clear F2 N2
              refine hideF ?_
              intro QC hQC
              k_extra "my steps"
              refine hQC _ _ ?_
              refine hideF ?_
              intro QD hQD
              k_extra "my steps for1"
              · rename List.isEmpty _ = true => e1
                rename (_ == Str.ofString "\\") = true => e2
                unfold lexP at hf3
                rw [if_neg he, if_neg (by unfold wsB; rw [e1]; decide), if_pos e2] at hf3
                rename Fr _ _ _ _ => F3
                rename News _ _ _ _ => N3
                dsimp only
                obtain ⟨tt', c', F5⟩ : ∃ tt c, Fr g L' _ (mG χ.x it (tok ++ readS x (i' + 1 : Nat)) tt c) := ⟨_, _, fr_eq F3 (mg_norm rfl rfl rfl rfl (by intro y e1 e2 e3 e4; simp [mG, e1, e2, e3, e4]))⟩
                exact hQD _ _ (Again.of (f + 1) (by lia) ⟨_, _, i' + 2, _, _, tt', tok ++ readS x (i' + 1 : Nat), c', f, rfl, F5, N3, rfl, Nat.le_succ_of_le (tok_len hl), by lia, by lia, hf3⟩)
              · rename List.isEmpty _ = true => e1
                rename (_ == Str.ofString "\\") = false => e2
                unfold lexP at hf3
                rw [if_neg he, if_neg (by unfold wsB; rw [e1]; decide), if_neg (by rw [e2]; decide)] at hf3
                rename Fr _ _ _ _ => F3
                rename News _ _ _ _ => N3
                dsimp only
                obtain ⟨tt', c', F5⟩ : ∃ tt c, Fr g L' _ (mG χ.x it (tok ++ readS x (i' : Nat)) tt c) := ⟨_, _, fr_eq F3 (mg_norm rfl rfl rfl rfl (by intro y e1 e2 e3 e4; simp [mG, e1, e2, e3, e4]))⟩
                exact hQD _ _ (Again.of (f + 1) (by lia) ⟨_, _, i' + 1, _, _, tt', tok ++ readS x (i' : Nat), c', f, rfl, F5, N3, rfl, tok_len hl, by lia, by lia, hf3⟩)
              · rename List.isEmpty _ = false => e1
                unfold lexP at hf3
                rw [if_neg he, if_pos (by unfold wsB; rw [e1]; rfl)] at hf3
                subst hf3
                refine hQD _ _ ?_
                dsimp only
                refine hQB _ _ ?_
                dsimp only
                k_extra "my steps for1"
                rename Fr _ _ _ _ => F3
                rename News _ _ _ _ => N3
                have N9 := news_tail (rest := [_, _]) N3
                refine leaveK_ F3 N9 ?_
                intro kF kN
                obtain ⟨k9, n9⟩ := does_end F3 N9 G9
                exact hret _ _ _ _ k9 kF kN n9 ⟨_, _, _, rfl, rfl⟩
        · rename List.isEmpty _ = false => e1
          unfold lexF at hf3
          rw [if_neg he, if_pos (by unfold wsB; rw [e1]; rfl)] at hf3
          rename Fr _ _ _ _ => F4
          rename News _ _ _ _ => N3
          dsimp only
          obtain ⟨tt', c', F5⟩ : ∃ tt c, Fr g L' _ (mG χ.x it (Str.ofString "") tt c) := ⟨_, _, fr_eq F4 (mg_norm rfl rfl rfl rfl (by intro y e1 e2 e3 e4; simp [mG, e1, e2, e3, e4]))⟩
          exact hQB _ _ (Again.of (f + 2) (by lia) ⟨_, _, i' + 1, _, _, tt', Str.ofString "", c', _, rfl, F5, N3, .inl ⟨f, rfl, rfl, rfl, by lia, by lia, hf3⟩⟩)
    · obtain ⟨rfl, rfl, rfl, rfl⟩ := hB
      clear F1 N1
      refine over_L F2 N2 ?_
      intro h' tk' F3 N3
      clear F2 N2
      dsimp only
      k_extra "my steps for1"
      have N9 := news_tail (rest := [_, _]) N3
      refine leaveK_ F3 N9 ?_
      intro kF kN
      obtain ⟨k9, n9⟩ := does_end F3 N9 G9
      exact hret _ _ _ _ k9 kF kN n9 ⟨_, _, _, rfl, rfl⟩
end
section
open PySem PySem.W PySem.Spec PySem.Calls PyProof.Rows PyProof.Rows.LCg
section
variable {w : World} {mean : ExcName → Option Value} {mg mb : Str → Option Value} {dp un : Nat} {gd : Option (List Code)} {cn : Str} {cs : Scope} {a : Addr} {ccd : Value} {cl : List (Str × Addr)} {outer : List Env} {A₀ : Around} {base h₀ : Heap} {L : Addr} {m : Str → Option Value} {s : Shared} {E : Value → Shared → Prop}
theorem get_use {Q : Value → Shared → Prop} {χ : Lx} {σ : Strm} {x : Str} {k i : Nat} {tn ti : Tok} {rest : Led} (hσ : σ.Ok w mean mg mb x) (h1 : σ.d < χ.dx) (h2 : χ.dx < χ.x) (h3 : χ.x < χ.pb) (hr : ∀ p ∈ rest, χ.pb < p.1) (hi : i ≤ 5000) (hx : x.length ≤ 5000)
    (B : Below A₀ base outer h₀) (F : Fr h₀ L s.heap m) (X : (heapK w.params).In h₀) (N : News h₀ L s.heap (rest ++ LXi χ σ w x #[] k i tn ti)) (T : Top topProg LOO mean mg mb h₀) (hk : cs.kind = .function) (hd' : dp + 4 < recursionLimit) (hu : un + 32 < cLine)
    (ret : ∀ h' tk' tn' ti' tk, Fr h₀ L h' m → News h₀ L h' (rest ++ LXi χ σ w x #[] k (lexF x x.length i).2 tn' ti') → Q (.str (lexF x x.length i).1 tk) { s with heap := h', toks := tk' }) :
    wpAny (model PySem.Challenge.rw_ta0019_01.row.prog w) (ktrTop dp un gd cn cs L a ccd cl outer) (call (.ref 59) [.ref χ.x]) Q E s := by
  refine Does.use (get_read w mean mg mb χ σ x hσ h1 h2 h3 k i tn ti hi hx) B F X (news_tail N) T hk hd' hu trivial ?_
  rintro r h' tk' nw k9 F' N' n9 ⟨tn', ti', tk, rfl, rfl⟩
  exact ret h' tk' tn' ti' tk F' (news_turn N (fun p hp q hq e => by have := lxi_le hσ h1 h2 h3 #[] k i tn ti q hq; rw [e] at this; exact absurd (hr p hp) (Nat.not_lt.mpr this)) k9 N')
theorem lxh_le {χ : Lx} {st : Addr} (h2 : χ.dx < χ.x) (h3 : χ.x < χ.pb) (n : Int) (tn : Tok) (pbs : Array Value) (k : Nat) : ∀ q ∈ LXh χ st w n tn pbs k, q.1 ≤ χ.pb := by
  have hd : Down χ.pb (LXh χ st w n tn pbs k) := ⟨Nat.le_refl _, Nat.le_of_lt h3, Nat.le_of_lt h2, trivial⟩
  exact hd.le
theorem led_lt {mean : ExcName → Option Value} {mg mb : Str → Option Value} {χ : Lx} {σ : Strm} {x : Str} (hσ : σ.Ok w mean mg mb x) (h1 : σ.d < χ.dx) (i : Int) (ti : Tok) : ∀ q ∈ σ.led i ti, q.1 < χ.dx := fun q hq => Nat.lt_of_le_of_lt ((led_down hσ i ti).le q hq) h1
theorem lxh_ge {χ : Lx} {st : Addr} (h2 : χ.dx < χ.x) (h3 : χ.x < χ.pb) (n : Int) (tn : Tok) (pbs : Array Value) (k : Nat) : ∀ q ∈ LXh χ st w n tn pbs k, χ.dx ≤ q.1 := List.forall_mem_cons.mpr ⟨Nat.le_of_lt (Nat.lt_trans h2 h3), List.forall_mem_cons.mpr ⟨Nat.le_of_lt h2, List.forall_mem_cons.mpr ⟨Nat.le_refl _, List.forall_mem_nil _⟩⟩⟩
theorem news_mid {h₀ h h' : Heap} {L : Addr} {mu nw rest tl : Led} (N : News h₀ L h (rest ++ (mu ++ tl))) (a : Apart rest mu) (a2 : Apart tl mu) (k : ∀ b o, h.get? b = some o → b ∉ mu.map (·.1) → h'.get? b = some o) (N' : News h₀ L h' nw) : News h₀ L h' (rest ++ (nw ++ tl)) := fun p hp => by
  rcases List.mem_append.mp hp with hp | hp
  · have z := N p (List.mem_append_left _ hp)
    exact ⟨k _ _ z.1 (a.not p hp), z.2⟩
  · rcases List.mem_append.mp hp with hp | hp
    · exact N' p hp
    · have z := N p (List.mem_append_right _ (List.mem_append_right _ hp))
      exact ⟨k _ _ z.1 (a2.not p hp), z.2⟩
theorem push_use {Q : Value → Shared → Prop} {χ : Lx} {σ : Strm} {x : Str} {k i : Nat} {tn ti : Tok} {rest : Led} {pbs : Array Value} {y : Str} {u : Tok} (hσ : σ.Ok w mean mg mb x) (h1 : σ.d < χ.dx) (h2 : χ.dx < χ.x) (h3 : χ.x < χ.pb) (hr : ∀ p ∈ rest, χ.pb < p.1) (hl : pbs.size ≤ 100000)
    (B : Below A₀ base outer h₀) (F : Fr h₀ L s.heap m) (X : (heapK w.params).In h₀) (N : News h₀ L s.heap (rest ++ LXi χ σ w x pbs k i tn ti)) (T : Top topProg LOO mean mg mb h₀) (hk : cs.kind = .function) (hd' : dp + 1 < recursionLimit) (hu : un + 8 < cLine)
    (ret : ∀ h' tk' k', Fr h₀ L h' m → News h₀ L h' (rest ++ LXi χ σ w x (pbs.push (.str y u)) k' i tn ti) → Q .none { s with heap := h', toks := tk' }) :
    wpAny (model PySem.Challenge.rw_ta0019_01.row.prog w) (ktrTop dp un gd cn cs L a ccd cl outer) (call (.ref 66) [.ref χ.x, .str y u]) Q E s := by
  have N₁ : News h₀ L s.heap (rest ++ (LXh χ σ.st w (lnS x i) tn pbs k ++ σ.led (i : Int) ti)) := N
  refine Does.use (push_token w mean mg mb χ σ.st h2 h3 (lnS x i) tn pbs k y u hl) B F X (fun p hp => N₁ p (List.mem_append_right _ (List.mem_append_left _ hp))) T hk hd' hu trivial ?_
  rintro r h' tk' nw k9 F' N' n9 ⟨k', rfl, rfl⟩
  exact ret h' tk' k' F' (news_mid N₁ (fun p hp q hq e => by have := lxh_le (w := w) (st := σ.st) h2 h3 (lnS x i) tn pbs k q hq; rw [e] at this; exact absurd (hr p hp) (Nat.not_lt.mpr this))
    (fun p hp q hq e => by have := lxh_ge (w := w) (st := σ.st) h2 h3 (lnS x i) tn pbs k q hq; rw [e] at this; exact absurd (led_lt hσ h1 _ _ p hp) (Nat.not_lt.mpr this)) k9 N')
theorem pop_use {Q : Value → Shared → Prop} {χ : Lx} {σ : Strm} {x : Str} {k i : Nat} {tn ti : Tok} {rest : Led} {v : Value} {vs : List Value} (hσ : σ.Ok w mean mg mb x) (h1 : σ.d < χ.dx) (h2 : χ.dx < χ.x) (h3 : χ.x < χ.pb) (hr : ∀ p ∈ rest, χ.pb < p.1) (hl : vs.length ≤ 100000)
    (B : Below A₀ base outer h₀) (F : Fr h₀ L s.heap m) (X : (heapK w.params).In h₀) (N : News h₀ L s.heap (rest ++ LXi χ σ w x (v :: vs).toArray k i tn ti)) (T : Top topProg LOO mean mg mb h₀) (hk : cs.kind = .function) (hd' : dp + 1 < recursionLimit) (hu : un + 8 < cLine)
    (ret : ∀ h' tk' k', Fr h₀ L h' m → News h₀ L h' (rest ++ LXi χ σ w x vs.toArray k' i tn ti) → Q v { s with heap := h', toks := tk' }) :
    wpAny (model PySem.Challenge.rw_ta0019_01.row.prog w) (ktrTop dp un gd cn cs L a ccd cl outer) (call (.ref 59) [.ref χ.x]) Q E s := by
  have N₁ : News h₀ L s.heap (rest ++ (LXh χ σ.st w (lnS x i) tn (v :: vs).toArray k ++ σ.led (i : Int) ti)) := N
  refine Does.use (get_pushed w mean mg mb χ σ.st h2 h3 (lnS x i) tn k v vs hl) B F X (fun p hp => N₁ p (List.mem_append_right _ (List.mem_append_left _ hp))) T hk hd' hu trivial ?_
  rintro r h' tk' nw k9 F' N' n9 ⟨k', rfl, hv⟩
  rw [hv]
  exact ret h' tk' k' F' (news_mid N₁ (fun p hp q hq e => by have := lxh_le (w := w) (st := σ.st) h2 h3 (lnS x i) tn (v :: vs).toArray k q hq; rw [e] at this; exact absurd (hr p hp) (Nat.not_lt.mpr this))
    (fun p hp q hq e => by have := lxh_ge (w := w) (st := σ.st) h2 h3 (lnS x i) tn (v :: vs).toArray k q hq; rw [e] at this; exact absurd (led_lt hσ h1 _ _ p hp) (Nat.not_lt.mpr this)) k9 N')
end
end
section
open PySem PySem.W PySem.Spec PySem.Calls PyProof.Rows PyProof.Rows.LCg
theorem fill_13 : (fun (_ : OpenLaw) (_ : Params → Frag) => True) PySem.Challenge.rw_ta0019_01 heapK := by k_fill; trivial
theorem words_F13 : True := by
  w_top off
  k_with_none
  k_with "go" => (first | walk1 | (dsimp only; walk1) | (leave1; walk_say "STEP leave1"; try dsimp only))
  k_with "no comp" => ((fail_if_success (with_reducible show wpAny _ _ (eval (PySem.Expr.ListComp _ _ _ _) _) _ _ _)); (fail_if_success (with_reducible show wpAny _ _ (eval (PySem.Expr.DictComp _ _ _ _ _) _) _ _ _)))
  k_with "no for" => ((fail_if_success (with_reducible show wpAny _ _ (exec (PySem.Stmt.For _ _ _ _ _) _) _ _ _)))
  k_with "no while" => ((fail_if_success (with_reducible show wpAny _ _ (exec (PySem.Stmt.While _ _ _ _) _) _ _ _)))
  k_with "no iter" => ((fail_if_success (with_reducible show wpAny _ _ (pyIter _) _ _ _)))
  k_with "my steps" => (repeat' (first | ((fail_if_success (with_reducible show LeaveK _ _ _ _ _ _ _)); (first | (k_unfold; (try dsimp only)) | (k_end; wrow_close) | (k_extra "no comp"; k_extra "go"))) | fail "no step"))
  k_with "my steps iter" => (repeat' (first | ((fail_if_success (with_reducible show LeaveK _ _ _ _ _ _ _)); (first | (k_unfold; (try dsimp only)) | (k_end; wrow_close) | (k_extra "no comp"; k_extra "no iter"; k_extra "go"))) | fail "no step"))
  k_with "no cons" => ((fail_if_success (with_reducible show wpAny _ _ (execs (_ :: _) _) _ _ _)))
  k_with "my steps cons" => (repeat' (first | ((fail_if_success (with_reducible show LeaveK _ _ _ _ _ _ _)); (first | (k_unfold; (try dsimp only)) | (k_end; wrow_close) | (k_extra "no cons"; k_extra "go"))) | fail "no step"))
  k_with "my steps for" => (repeat' (first | ((fail_if_success (with_reducible show LeaveK _ _ _ _ _ _ _)); (first | (k_unfold; (try dsimp only)) | (k_end; wrow_close) | (k_extra "no for"; k_extra "no while"; k_extra "no comp"; k_extra "go"))) | fail "no step"))
  k_with "my mem" => (first | assumption | exact List.Mem.head _ | (refine List.Mem.tail _ ?_; k_extra "my mem") | (refine List.mem_append_right _ ?_; k_extra "my mem"))
  k_with "spec" => (exact ops_spec _ _ _ _ _)
  k_with "my call ref" => (k_here; (with_reducible show wpAny _ _ (call (Value.ref 104) _) _ _ _); k_dflt (walk_at "gives"); rintro _ _ _ _ _ _ ⟨_, _, rfl, rfl, _, _⟩; (try dsimp only); (try k_fold))
  k_with "my subscriptTail" => (k_here; (with_reducible show wpAny _ _ (subscriptTail _ _ (Value.ref _) (Value.int 0 _)) _ _ _); k_dflt (refine tup_item (k := 0) (by k_asm) (by k_extra "my mem") (by rfl) (by decide) ?_))
  k_with "my subscriptTail" => (k_here; (with_reducible show wpAny _ _ (subscriptTail _ _ (Value.ref _) (Value.int _ _)) _ _ _); refine ops_item (by k_asm) (by k_extra "my mem") (by assumption) (by assumption) (by assumption) ?_; intro _)
  trivial

/-- a wish: an operator, its length, what was drawn -/
noncomputable abbrev Wish := Str × Int × Int
noncomputable def wdat (x : Wish) : Dat := .tuple [.str x.1, .int x.2.1, .int x.2.2]
structure GoodW (wl : List Wish) (b : Int) : Prop where
  ops : ∀ x ∈ wl, x.1 ∈ OPS ∧ 1 ≤ x.2.1 ∧ x.2.1 ≤ 6 - b ∧ 0 ≤ x.2.2
  nodup : (wl.map (·.1)).Nodup
theorem news_rot {h₀ h : Heap} {L : Addr} {a b c d : Addr × Obj} {tl : Led} (N : News h₀ L h (a :: b :: c :: d :: tl)) : News h₀ L h (b :: c :: d :: a :: tl) := fun p hp => N p (by simp only [List.mem_cons] at hp ⊢; rcases hp with h | h | h | h | h <;> simp [h])
theorem GoodW.snoc {wl : List Wish} {b dv : Int} {op : Str} (h : GoodW wl b) (hop : op ∈ OPS) (hdv : 0 ≤ dv) (hb : b = 2 ∨ b = 3) (hany : (wl.map (·.1)).any (fun x => x == op) = false) : GoodW (wl ++ [(op, 1 + dv.fmod (6 - b), dv)]) b where
  ops x hx := by
    rcases List.mem_append.mp hx with hx | hx
    · exact h.ops x hx
    · rw [List.mem_singleton.mp hx]
      have f0 := fmod_lo dv (n := 6 - b) (by lia)
      have f1 := fmod_hi dv (n := 6 - b) (by lia)
      exact ⟨hop, by dsimp only; lia, by dsimp only; lia, hdv⟩
  nodup := by
    rw [List.map_append]
    refine List.nodup_append.mpr ⟨h.nodup, by simp, fun a ha c hc => ?_⟩
    have hc' : c = op := by simpa using hc
    rw [hc']
    intro e
    have := List.any_eq_false.mp hany a ha
    rw [e] at this
    simp at this
noncomputable abbrev mW (l D W : Addr) (b : Int) (tb : Tok) (c1 c2 c3 : Option Value) : Str → Option Value := fun y => if y = Str.ofString "script" then some (.ref l) else if y = Str.ofString "base" then some (.int b tb) else if y = Str.ofString "operators" then some (.ref D) else if y = Str.ofString "wishes" then some (.ref W) else if y = Str.ofString "k" then c1 else if y = Str.ofString "drawn" then c2 else if y = Str.ofString "place" then c3 else none
theorem mW_norm {m' : Str → Option Value} {l D W : Addr} {b : Int} {tb : Tok} {c1 c2 c3 : Option Value} (h1 : m' (Str.ofString "script") = some (.ref l)) (h2 : m' (Str.ofString "base") = some (.int b tb)) (h3 : m' (Str.ofString "operators") = some (.ref D)) (h4 : m' (Str.ofString "wishes") = some (.ref W)) (h5 : m' (Str.ofString "k") = c1) (h6 : m' (Str.ofString "drawn") = c2) (h7 : m' (Str.ofString "place") = c3)
    (h8 : ∀ y, y ≠ Str.ofString "script" → y ≠ Str.ofString "base" → y ≠ Str.ofString "operators" → y ≠ Str.ofString "wishes" → y ≠ Str.ofString "k" → y ≠ Str.ofString "drawn" → y ≠ Str.ofString "place" → m' y = none) : ∀ y, m' y = mW l D W b tb c1 c2 c3 y := by
  intro y
  by_cases e1 : y = Str.ofString "script"
  · subst e1; exact h1
  by_cases e2 : y = Str.ofString "base"
  · subst e2; exact h2
  by_cases e3 : y = Str.ofString "operators"
  · subst e3; exact h3
  by_cases e4 : y = Str.ofString "wishes"
  · subst e4; exact h4
  by_cases e5 : y = Str.ofString "k"
  · subst e5; exact h5
  by_cases e6 : y = Str.ofString "drawn"
  · subst e6; exact h6
  by_cases e7 : y = Str.ofString "place"
  · subst e7; exact h7
  rw [h8 y e1 e2 e3 e4 e5 e6 e7]; simp [mW, e1, e2, e3, e4, e5, e6, e7]
theorem tup_item {prog : Program} {w : World} {A : Around} {E : Value → Shared → Prop} {s : Shared} {h₀ : Heap} {L a : Addr} {news : Led} {value slice : PySem.Expr} {vs : List Value} {n k : Nat} {u : Tok} {x : Value} {Q : Value → Shared → Prop} (N : News h₀ L s.heap news) (hm : (a, ({ cls := .type "tuple", data := .seq vs.toArray n } : Obj)) ∈ news) (hx : vs[k]? = some x) (hk : k < 1000) (h : Q x s)
    (hs : subscripted slice false (.ref a) (.int k u) = operate [.ref a, .int k u] (getItem (.ref a) (.int k u)) := by with_unfolding_all rfl) :
    wpAny (model prog w) A (subscriptTail value slice (.ref a) (.int k u)) Q E s := by
  have hlt : k < vs.length := by
    rcases Nat.lt_or_ge k vs.length with h | h
    · exact h
    · rw [List.getElem?_eq_none h] at hx; cases hx
  exact item_tupleT (j := k) ⟨_, (N _ hm).1, rfl, n, rfl⟩ (by lia) (by lia) (seqIndex_of (by lia) (by lia)) hx h hs
theorem ops_item {prog : Program} {w : World} {A : Around} {E : Value → Shared → Prop} {s : Shared} {h₀ : Heap} {L D : Addr} {news : Led} {value slice : PySem.Expr} {vs9 : List Value} {n : Nat} {pl : Int} {u : Tok} {Q : Value → Shared → Prop} (N : News h₀ L s.heap news) (hm : (D, W.listOf vs9.toArray n) ∈ news) (hS : StrsAre vs9 OPS) (h0 : 0 ≤ pl) (h1 : pl < 48) (h : ∀ t, Q (.str (OPS.getD pl.toNat (Str.ofString "")) t) s)
    (hs : subscripted slice false (.ref D) (.int pl u) = operate [.ref D, .int pl u] (getItem (.ref D) (.int pl u)) := by with_unfolding_all rfl) :
    wpAny (model prog w) A (subscriptTail value slice (.ref D) (.int pl u)) Q E s := by
  have hlO : OPS.length = 48 := by decide
  have hl : s.heap.IsList D vs9.toArray := ⟨_, (N _ hm).1, rfl, n, rfl⟩
  obtain ⟨t, hx⟩ := hS.get pl.toNat (OPS.getD pl.toNat (Str.ofString "")) (by rw [List.getD_eq_getElem?_getD, List.getElem?_eq_getElem (by lia)]; rfl)
  exact tail_any hl.typeIs slot_list_getitem.lookup (wpAny_getItem_list hl h0 (by lia) (by simpa using hx) (h t)) hs
theorem two_lookup {y a b : Str} {u v : Value} (h1 : y ≠ a) (h2 : y ≠ b) : List.lookup y [(b, v), (a, u)] = none := by simp [List.lookup, beq_false_of_ne h1, beq_false_of_ne h2]
theorem consts_pos (j : Nat) : 0 ≤ ([150, 188, 182, 1, 115, 179] : List Int).getD j 0 := by
  match j with
  | 0 | 1 | 2 | 3 | 4 | 5 => decide
  | j + 6 => simp
theorem OPS_nodup : OPS.Nodup := by decide +kernel
theorem nodup_sub {α : Type} [BEq α] [LawfulBEq α] : ∀ {l T : List α}, l.Nodup → (∀ x ∈ l, x ∈ T) → l.length ≤ T.length
  | [], _, _, _ => Nat.zero_le _
  | a :: l, T, hn, h => by
    have hn' := List.nodup_cons.mp hn
    have ha : a ∈ T := h a (.head _)
    have h2 : ∀ x ∈ l, x ∈ T.erase a := fun x hx => by
      have hne : x ≠ a := fun e => hn'.1 (e ▸ hx)
      exact (List.mem_erase_of_ne hne).mpr (h x (.tail _ hx))
    have h3 := nodup_sub hn'.2 h2
    have h4 := List.length_erase_of_mem ha
    have h5 : 0 < T.length := List.length_pos_of_mem ha
    rw [List.length_cons]; lia
theorem free_place {T : List Str} (hT : T.length ≤ 6) (p : Nat) : ∃ j, OPS.getD ((p + j) % 48) (Str.ofString "") ∉ T := by
  refine Classical.byContradiction fun hc => ?_
  have hall : ∀ j, OPS.getD ((p + j) % 48) (Str.ofString "") ∈ T := fun j => Classical.byContradiction fun h => hc ⟨j, h⟩
  have hl : OPS.length = 48 := by decide
  have : ∀ x ∈ OPS, x ∈ T := by
    intro x hx
    obtain ⟨i, hi, rfl⟩ := List.mem_iff_getElem.mp hx
    have h1 := hall (i + 48 * (p + 1) - p)
    have e : (p + (i + 48 * (p + 1) - p)) % 48 = i := by lia
    rw [e, List.getD_eq_getElem?_getD, List.getElem?_eq_getElem hi] at h1
    exact h1
  have := nodup_sub OPS_nodup this
  lia
theorem dat_tup {tl : Led} {v : Value} {x : Wish} (h : DatIn tl v (wdat x)) : Sm5 fun a t1 t2 t3 n => v = .ref a ∧ (a, ({ cls := .type "tuple", data := .seq (List.toArray [.str x.1 t1, .int x.2.1 t2, .int x.2.2 t3]) n } : Obj)) ∈ tl := by
  unfold wdat at h
  obtain ⟨a, vs, n, rfl, hm, hd⟩ := tup_inv h
  obtain ⟨v0, vs0, rfl, h0, hd0⟩ := all_inv hd
  obtain ⟨v1, vs1, rfl, h1, hd1⟩ := all_inv hd0
  obtain ⟨v2, vs2, rfl, h2, hd2⟩ := all_inv hd1
  obtain ⟨t0, rfl⟩ := str_inv h0
  obtain ⟨t1, rfl⟩ := int_inv h1
  obtain ⟨t2, rfl⟩ := int_inv h2
  obtain rfl := nil_inv hd2
  exact ⟨a, t0, t1, t2, n, rfl, hm⟩
local macro_rules | `(tactic| k_all) => `(tactic| assumption)
theorem wishes_does (w mean mg mb) (l : Addr) (vs : List Value) (ns : List Int) (hI : IntsAre vs ns) (hn : ns.length ≤ 63) (b : Int) (tb : Tok) (hb : b = 2 ∨ b = 3) :
    Does w mean mg mb 3 109 [.ref l, .int b tb] [] (fun h => h.IsList l vs.toArray) (fun r nw => Sm5 fun Wd rs k rest wl => Al6 (r = .ref Wd) (nw = (Wd, W.listOf (List.toArray rs) k) :: rest) (DatAll rest rs (wl.map wdat)) ((∀ p ∈ rest, p.1 ≠ Wd)) (GoodW wl b) (wl.length = 6 - ns.length % 4)) := by
  have hlen := hI.length
  unfold Does
  intro dp un gd cn cs a ccd cl outer A₀ base h₀ L m s Q E hB hF hK hN hT hcs hdp hun hpre hret
  refine wpAny_call ?_
  k_dflt walk_at "my enter"
  rename GSub _ _ _ => G9
  have hL : Heap.IsList _ l vs.toArray := hpre.at fun o e => G9 _ _ e (by simp)
  k_extra "my steps for"
  refine wpAny_For ?_
  k_extra "my steps iter"
  have en : (6 - ((ns.length : Int).fmod 4)) = ((6 - ns.length % 4 : Nat) : Int) := by
    rw [Int.fmod_eq_emod_of_nonneg _ (by decide)]; lia
  rename IsRange _ _ _ _ _ _ _ _ => hR
  rw [en] at hR
  rename Fr _ _ _ _ => F1
  rename News _ _ _ _ => N1
  rename_i g L' h4 FG BB XX TT qq ee h9 tk9 D vs9 hOP l9 h3 tk1 Wd h2 lW h1 F0 N0 h0 tk0 t1 u1 v1 a1
  clear F0 N0 l9 a1
  refine for_range (a := 0) (n := 6 - ns.length % 4) (RR := fun _ => _) rfl F1 N1 hR (small_one (by decide) (by decide) (by lia) (by lia)) (by rw [rangeSize_nat]; lia) (fun i m nw => Sm7 fun c1 c2 c3 rs k tl wl => Al7 (m = mW l D Wd b tb c1 c2 c3) (nw = (Wd, W.listOf (List.toArray rs) k) :: (D, W.listOf vs9.toArray 0) :: tl) (DatAll tl rs (wl.map wdat)) ((∀ p ∈ tl, p.1 ≠ Wd)) ((∀ p ∈ tl, p.1 ≠ D)) (GoodW wl b) (wl.length = i)) ?j0 ?turn ?fin (fun _ _ z => z)
  case j0 => exact ⟨_, _, _, [], _, [], [], funext (mW_norm rfl rfl rfl rfl rfl rfl rfl (by intro y e1 e2 e3 e4 e5 e6 e7; rw [if_neg e4, if_neg e3]; exact two_lookup e1 e2)), rfl, .nil, (fun _ h => nomatch h), (fun _ h => nomatch h), ⟨(fun _ h => nomatch h), List.nodup_nil⟩, rfl⟩
  case turn =>
    clear F1 N1
    rintro I i t m' nw oI h tk' hi ⟨c1, c2, c3, rs, k, tl, wl, rfl, rfl, hDA, oW, oD, hG, hwl⟩ F2 N2 off lI s' rfl
    k_extra "my steps cons"
    refine execs_cut (P := fun s9 => Sm3 fun c1' dv td => Al6 (s9.gens = s.gens) (s9.drawn = s.drawn) (s9.os = s.os) (Fr g L' s9.heap (mW l D Wd b tb c1' (some (.int dv td)) c3)) (News g L' s9.heap ((I, oI) :: (Wd, W.listOf (List.toArray rs) k) :: (D, W.listOf vs9.toArray 0) :: tl)) (0 ≤ dv)) ?cutA ?cutB
    case cutA =>
      k_extra "my steps for"
      all_goals
        rename Fr _ _ _ _ => F3
        rename News _ _ _ _ => N3
        exact Cut.mk _ ⟨_, _, _, rfl, rfl, rfl, fr_eq F3 (mW_norm rfl rfl rfl rfl rfl rfl rfl (by intro y e1 e2 e3 e4 e5 e6 e7; simp [mW, e1, e2, e3, e4, e5, e6, e7])), news_drop N3, by first | exact Int.add_nonneg (consts_pos _) (fmod_lo _ (by decide)) | exact Int.add_nonneg (consts_pos _) (Int.le_refl 0)⟩
    case cutB =>
     rintro ⟨h9, _, _, tk9, _⟩ ⟨c1, dv, td, rfl, rfl, rfl, F2, N2, hdv0⟩
     dsimp only at F2 N2
     refine hideF ?_
     intro QG hQG
     k_extra "my steps for"
     rename Fr _ _ _ _ => F3
     rename News _ _ _ _ => N3
     obtain ⟨c1', dv, td, pl, tp, F5, hdv, hpl0, hpl⟩ : Sm5 fun c1' dv td pl tp => Al4 (Fr g L' _ (mW l D Wd b tb c1' (some (.int dv td)) (some (.int pl tp)))) (0 ≤ dv) (0 ≤ pl) (pl < 48) := ⟨_, _, _, _, _, fr_eq F3 (mW_norm rfl rfl rfl rfl rfl rfl rfl (by intro y e1 e2 e3 e4 e5 e6 e7; simp [mW, e1, e2, e3, e4, e5, e6, e7])), hdv0, fmod_lo _ (by decide), fmod_hi _ (by decide)⟩
     have N5 := N3
     obtain ⟨nj, hnj⟩ := free_place (T := wl.map (·.1)) (by rw [List.length_map]; lia) pl.toNat
     clear F3 N3
     refine While_inv (n₀ := nj) (fun n m nw => Sm2 fun pl tp => Al5 (m = mW l D Wd b tb c1' (some (.int dv td)) (some (.int pl tp))) (nw = (I, oI) :: (Wd, W.listOf rs.toArray k) :: (D, W.listOf vs9.toArray 0) :: tl) (0 ≤ pl) (pl < 48) (OPS.getD ((pl.toNat + n) % 48) (Str.ofString "") ∉ wl.map (·.1))) F5 N5 ⟨_, _, rfl, rfl, hpl0, hpl, hnj⟩ ?_ (by passes_own)
     clear F5 N5 hnj hpl0 hpl
     rintro n m₁ nw₁ h₁ tk₁ F6 N6 ⟨pl, tp, rfl, rfl, hpl0, hpl, hnj⟩
     k_extra "my steps iter"
     refine ListComp_G (cl := []) F6 rfl (by decide) rfl (by decide) ?_ (by intro _; rfl)
     k_extra "my steps iter"
     rename Fr _ _ _ _ => F7
     rename News _ _ _ _ => N7
     refine' src_list (vs := rs) (J := fun i ys nw => nw = (I, oI) :: (Wd, W.listOf rs.toArray k) :: (D, W.listOf vs9.toArray 0) :: tl ∧ StrsAre ys ((wl.map (·.1)).take i)) rfl (by rw [sizeLine_eq, hDA.length, List.length_map]; lia) F7 N7 ⟨rfl, StrsAre.nil⟩ ?hsrcA ?kkA
     case hsrcA =>
       rintro i2 ys nw ⟨e2, _⟩
       subst e2
       exact .inr ⟨W.listOf rs.toArray k, .tail _ (.head _), rfl, _, rfl⟩
     case kkA =>
       intro o St X
       (try k_unfold)
       refine ⟨_, _, _, _, _, _, _, rfl, X, ?_, ?_⟩
       · rintro i2 v ys nw hi2 hv ⟨e2, hys⟩
         subst e2
         have hi3 : i2 < (wl.map wdat).length := by rw [← hDA.length]; exact hi2
         obtain ⟨v', hv', hd⟩ := hDA.get hi3
         rw [hv] at hv'
         cases hv'
         rw [List.getElem_map] at hd
         obtain ⟨a9, t9, t8, t7, n9, rfl, hm9⟩ := dat_tup hd
         refine ⟨_, Binds.name rfl rfl, ?_⟩
         intro oI2 C oC D2 m₂ h tk E' hoC hloc F2 N2 off2 ne
         have hx2 := hloc _ (List.mem_singleton.mpr rfl)
         refine wpAny_tests_nil ?_
         simp only [if_true]
         dsimp only at hx2
         k_extra "my steps"
         refine ⟨_, _, _, _, _, rfl, F2, hoC, N2, off2, rfl, ?_⟩
         rw [take_snoc (c := (wl[i2]'(by simpa using hi3)).1) (by rw [List.getElem?_map, List.getElem?_eq_getElem (by simpa using hi3)]; rfl)]
         exact strs_snoc hys _ _
       · rintro D2 h tk ys nw F2 N2 o1 ⟨e2, hys⟩
         subst e2
         have hfull : (wl.map (·.1)).take rs.length = wl.map (·.1) := List.take_of_length_le (by rw [List.length_map, hDA.length, List.length_map]; exact Nat.le_refl _)
         rw [hfull] at hys
         have lI1 : Wd < I := lI (Wd, W.listOf #[] 0) (.head _)
         replace lI1 := ltN lI1
         have hrs : rs.length = wl.length := by rw [hDA.length, List.length_map]
         have hsz : rs.toArray.size ≤ 1000 := by rw [List.size_toArray]; lia
         k_extra "my steps"
         · rename List.any _ _ = true => hany
           rename Fr _ _ _ _ => F8
           rename News _ _ _ _ => N8
           obtain ⟨y, hy, hye⟩ := List.any_eq_true.mp hany
           have hye' := beq_iff_eq.mp hye
           obtain ⟨n', rfl⟩ : ∃ n', n = n' + 1 := by
             cases n with
             | succ n => exact ⟨n, rfl⟩
             | zero =>
               refine absurd ?_ hnj
               rw [Nat.add_zero, Nat.mod_eq_of_lt (by lia), ← hye']
               exact hy
           refine ⟨rfl, _, _, _, _, n', rfl, fr_eq F8 (mW_norm rfl rfl rfl rfl rfl rfl rfl (by intro y e1 e2 e3 e4 e5 e6 e7; simp [mW, e1, e2, e3, e4, e5, e6, e7])), news_drop N8, Nat.lt_succ_self _, _, _, rfl, rfl, fmod_lo _ (by decide), fmod_hi _ (by decide), ?_⟩
           rw [show ((pl + 1).fmod 48).toNat + n' = (pl + 1).toNat % 48 + n' by rw [Int.fmod_eq_emod_of_nonneg _ (by decide)]; lia, Nat.mod_add_mod]
           rw [show (pl + 1).toNat + n' = pl.toNat + (n' + 1) by lia]
           exact hnj
         · rename List.any _ _ = false => hany
           rename Fr _ _ _ _ => F8
           rename News _ _ _ _ => N8
           rename _ ∧ _ ∧ _ ∧ _ ∧ AllLt _ _ => l8
           rename_i Dn hDn
           have N9 : News g L' _ ((Dn, _) :: (I, oI) :: (Wd, W.listOf rs.toArray k) :: (D, W.listOf vs9.toArray 0) :: tl) := fun p hp => N8 p (by
             rcases List.mem_cons.mp hp with rfl | hp
             · exact .head _
             · exact .tail _ (.tail _ hp))
           obtain ⟨l8a, l8b, l8c, l8d, l8e⟩ := l8
           replace l8b := ltN l8b
           replace l8c := ltN l8c
           clear N8
           refine append_K F8 N9 (by k_upd) ?_ (Nat.le_trans hsz (by rw [sizeLine_eq]; decide))
           intro hA FA NA
           clear N9 F8
           k_extra "my steps for"
           rename Fr _ _ _ _ => FA
           rename News _ _ _ _ => NA
           simp only [List.push_toArray] at NA
           have off1 := off (Wd, W.listOf rs.toArray k) (.head _)
           have off2 := off (D, W.listOf vs9.toArray 0) (.tail _ (.head _))
           refine hQG _ _ ?_
           (try dsimp only)
           refine ForGo.of FA (news_rot NA) (fun p hp => ?_) ⟨_, _, _, rs ++ [Value.ref Dn], _, _, wl ++ [(OPS.getD pl.toNat (Str.ofString ""), 1 + dv.fmod (6 - b), dv)], rfl, rfl, ?_, ?_, ?_, ?_, ?_⟩
           · rcases List.mem_cons.mp hp with rfl | hp
             · exact off1
             rcases List.mem_cons.mp hp with rfl | hp
             · exact off2
             rcases List.mem_cons.mp hp with rfl | hp
             · exact Nat.ne_of_gt l8b
             · exact off p (.tail _ (.tail _ hp))
           · rw [List.map_append]
             exact (hDA.mono (fun p hp => .tail _ hp)).append (.one (.tuple (.head _) (.cons (.str _ _) (.cons (.int _ _) (.cons (.int _ _) .nil)))))
           · intro p hp
             rcases List.mem_cons.mp hp with rfl | hp
             · exact Nat.ne_of_gt l8c
             · exact oW p hp
           · intro p hp
             rcases List.mem_cons.mp hp with rfl | hp
             · exact Nat.ne_of_gt l8d
             · exact oD p hp
           · exact hG.snoc (strs_getD_mem (by rw [show OPS.length = 48 by decide]; lia)) hdv hb hany
           · rw [List.length_append, hwl]; rfl
  case fin =>
    clear F1 N1
    rintro I m' nw h tk F2 N2 ⟨c1, c2, c3, rs, k, tl, wl, rfl, rfl, hDA, oW, oD, hG, hwl⟩
    dsimp only
    k_extra "my steps for"
    refine leaveK_ F2 N2 ?_
    intro kF kN
    obtain ⟨k9, n9⟩ := does_end F2 N2 G9
    refine hret _ _ _ _ k9 kF kN n9 ⟨Wd, rs, k, _, wl, rfl, rfl, hDA.mono (fun p hp => .tail _ hp), ?_, hG, hwl⟩
    intro p hp
    rcases List.mem_cons.mp hp with rfl | hp
    · exact Nat.ne_of_lt lW
    · exact oW p hp
end
section
open PySem PySem.W PySem.Spec PySem.Calls PyProof.Rows PyProof.Rows.LCg
section
variable {prog : Program} {w : World} {A : Around} {s : Shared} {h₀ : Heap} {L : Addr} {m : Str → Option Value} {env : Env} {news : Led}
theorem for_list {Q : Value → Shared → Prop} {E : Value → Shared → Prop} {target : Expr} {body : List Stmt} {l : Addr} {vs : List Value} {RR : Addr → Result → Shared → Prop} (hh : A.handled = none) (F : Fr h₀ L s.heap m) (N : News h₀ L s.heap news)
    (J : Nat → (Str → Option Value) → Led → Prop) (hJ : J 0 m news) (hJl : ∀ i m nw, J i m nw → SrcAt h₀ l vs.toArray nw)
    (turn : ∀ I i v m nw oI h tk, i < vs.length → vs[i]? = some v → J i m nw → Fr h₀ L h m → News h₀ L h ((I, oI) :: nw) → (∀ p ∈ nw, p.1 ≠ I) → (∀ p ∈ news, p.1 < I) → ∀ s', s' = { s with heap := h, toks := tk } →
      wpAny (model prog w) A (assign target env v) (fun _ s₂ => wpAny (model prog w) A (execs body env) (fun f s₃ => match f with
        | .next | .cont => ForGo h₀ L s I oI (J (i + 1)) s₃
        | .brk => RR I (.ok .next) s₃
        | .ret v => RR I (.ok (.ret v)) s₃) (notedBy (model prog w) A env fun e s' => RR I (.error e) s') s₂) (notedBy (model prog w) A env fun e s' => RR I (.error e) s') s')
    (fin : ∀ I m nw h tk, Fr h₀ L h m → News h₀ L h nw → J vs.length m nw → (∀ p ∈ news, p.1 < I) → RR I (.ok .next) { s with heap := h, toks := tk })
    (k : ∀ I h', codeAny (model prog w) A (.forLoop target (.ref I) body [] env) (RR I) { s with heap := h' } → Q (.ref I) { s with heap := h' }) :
    wpAny (model prog w) A (pyIter (.ref l)) Q E s := by
  have hl : s.heap.IsList l vs.toArray := (hJl _ _ _ hJ).list F.keep N
  have hlt : l < s.heap.objs.size := by obtain ⟨_, e, _⟩ := hl; exact Heap.lt_size e
  refine wpAny_pyIter_list hl (k _ _ ?_)
  have W := Walks.list (prog := prog) (w := w) hh s.heap.objs.size l (Nat.ne_of_lt hlt) vs.toArray
  rw [List.size_toArray] at W
  have lI : ∀ p ∈ news, p.1 < s.heap.objs.size := fun p hp => Heap.lt_size (N p hp).1
  refine for_G (s := { s with heap := s.heap.push _ }) (fp := [s.heap.objs.size, l]) (P := fun i v => vs[i]? = some v) (St := fun i h => h.IsListIter s.heap.objs.size l i ∧ h.IsList l vs.toArray) (J := J)
    (n := vs.length) { W with item := fun i s Q E hi st hQ => W.item i s Q E hi st fun v h' tk hv => hQ v h' tk (by simpa using hv) } (fun i h st => by obtain ⟨o, e, _⟩ := st.1; exact ⟨o, e⟩) (fun i s₁ v Q E st h => let_list st.1 h)
    (fun i h h' o m nw st e e' kk N' hj => ⟨by obtain ⟨o', q, r⟩ := st.1; rw [e] at q; cases q; exact ⟨o, e', r⟩, (hJl _ _ _ hj).list kk N'⟩)
    (Nat.ne_of_lt F.ns.lt) (next_is_new F) ⟨⟨_, Heap.get?_push_size _ rfl, rfl, rfl⟩, hl.push _⟩ (F.push _) (N.grown fun b x e => Heap.get?_push_of_some _ e) (fun p hp => Nat.ne_of_lt (lI p hp)) hJ ?_ ?_
  · rintro i v m nw oI h tk hi hv hj F' N' off
    exact turn _ i v m nw oI h tk hi hv hj F' N' off lI _ rfl
  · intro m nw h tk F' N' hj
    exact fin _ m nw h tk F' N' hj lI
end
theorem news_sub {h₀ h : Heap} {L : Addr} {l l' : Led} (N : News h₀ L h l) (hs : ∀ p ∈ l', p ∈ l) : News h₀ L h l' := fun p hp => N p (hs p hp)
theorem rot_app {a b c : Addr × Obj} {t X : Led} : ∀ p ∈ (b :: c :: a :: t) ++ X, p ∈ (a :: b :: c :: t) ++ X := by
  intro p hp
  simp only [List.mem_append, List.mem_cons] at hp ⊢
  rcases hp with (h | h | h | h) | h <;> simp [h]
theorem lxi_ne {w : World} {mean : ExcName → Option Value} {mg mb : Str → Option Value} {χ : Lx} {σ : Strm} {x : Str} (hσ : σ.Ok w mean mg mb x) (h1 : σ.d < χ.dx) (h2 : χ.dx < χ.x) (h3 : χ.x < χ.pb) {pbs : Array Value} {k i : Nat} {tn ti : Tok} {W : Addr} (hW : χ.pb < W) : ∀ q ∈ LXi χ σ w x pbs k i tn ti, q.1 ≠ W := by
  intro q hq e
  have := lxi_le hσ h1 h2 h3 pbs k i tn ti q hq
  rw [e] at this
  exact absurd hW (Nat.not_lt.mpr this)
theorem all_app {W : Addr} {t X : Led} (h1 : ∀ p ∈ t, p.1 ≠ W) (h2 : ∀ p ∈ X, p.1 ≠ W) : ∀ p ∈ t ++ X, p.1 ≠ W := fun p hp => (List.mem_append.mp hp).elim (h1 p) (h2 p)
theorem allLt_all {d : Addr} : ∀ {l : Led}, AllLt d l → ∀ p ∈ l, p.1 < d
  | [], _, _, h => nomatch h
  | _ :: _, h, p, hp => by
    rcases List.mem_cons.mp hp with rfl | hp
    · exact h.1
    · exact allLt_all h.2 p hp
end
section
open PySem PySem.W PySem.Spec PySem.Calls PyProof.Rows PyProof.Rows.LCg
/-- the letters' numbers of a word -/
noncomputable def apN (n : Nat) : List Nat := (apL n).map (·.toNat)
theorem apN_zero : apN 0 = [] := by unfold apN; rw [apL_zero]; rfl
theorem apN_eq (n : Nat) (h : n ≠ 0) : apN n = apN (n / 16) ++ [65 + n % 16] := by
  unfold apN
  rw [apL_eq n h, List.map_append]
  congr 1
  have : n % 16 < 16 := Nat.mod_lt _ (by decide)
  simp
  lia
theorem word_cps (n : Nat) : (wordOf n).cps.toList = apN n := rfl
theorem word_len (n : Nat) : (wordOf n).length = (apN n).length := by show (List.toArray _).size = _; rw [List.size_toArray]; rfl
theorem num_apN (n : Nat) : numOf ((apN n).map fun (c : Nat) => (c : Int)) = (n : Int) := by
  induction n using Nat.strongRecOn with
  | _ n ih =>
    by_cases h : n = 0
    · subst h; rw [apN_zero]; rfl
    · rw [apN_eq n h, List.map_append, List.map_cons, List.map_nil, numOf_snoc, ih (n / 16) (by lia)]
      lia
theorem apN_head (n : Nat) (h : n ≠ 0) : ∃ c l, apN n = c :: l ∧ 66 ≤ c ∧ c ≤ 80 := by
  induction n using Nat.strongRecOn with
  | _ n ih =>
    rw [apN_eq n h]
    by_cases h2 : n / 16 = 0
    · rw [h2, apN_zero]
      exact ⟨_, _, rfl, by lia, by lia⟩
    · obtain ⟨c, l, e, hc⟩ := ih (n / 16) (by lia) h2
      rw [e]
      exact ⟨c, _, rfl, hc⟩
theorem slice_one (x : Str) (c : Nat) (l : List Nat) (h : x.cps.toList = c :: l) : Txt.slice x none (some 1) = ⟨#[c]⟩ := by
  have hl : 1 ≤ x.length := by
    show 1 ≤ x.cps.size
    rw [← Array.length_toList, h]; simp
  rw [beq_iff_eq.mp (slice_closes_toL (x := x) (j := 1) (by decide) (by lia)), h]
  rfl
theorem numT_word (n : Nat) : numT (wordOf n) = (n : Int) := by
  refine numT_n ?_ ?_
  · by_cases h : n = 0
    · subst h; unfold wordOf; rw [apL_zero]; decide +kernel
    · obtain ⟨c, l, e, hc, _⟩ := apN_head n h
      rw [slice_one (wordOf n) c l e, beq_eq_false_iff_ne]
      intro e9
      have := congrArg Str.cps e9
      rw [show (Str.ofString "A").cps = #[65] by decide +kernel] at this
      have e2 : (⟨#[c]⟩ : Str).cps = #[c] := rfl
      rw [e2] at this
      injection this with this
      injection this with this
      lia
  · exact (num_apN n).symm
theorem word_len_le {n : Nat} (h : n < 2 ^ 200) : (wordOf n).cps.size ≤ 64 := by
  have := apL_len 50 n (Nat.lt_of_lt_of_le h (by decide))
  show (List.toArray _).size ≤ 64
  rw [List.size_toArray, List.length_map]; lia
theorem num_word (w mean mg mb) (news : Led) (n : Nat) (t : Tok) (hn : n < 2 ^ 200) :
    Gives w mean mg mb 1 92 [.str (wordOf n) t] news (fun r n' _ => news = n' ∧ ∃ tk, r = .int (n : Int) tk) := by
  have := num_spec w mean mg mb news (wordOf n) t (word_len_le hn)
  rw [numT_word] at this
  exact this
theorem word_natS (w mean mg mb) (news : Led) (n : Nat) (t : Tok) (hn : n < 2 ^ 200) :
    Gives w mean mg mb 3 85 [.int (n : Int) t] news (fun r n' _ => news = n' ∧ ∃ tk, r = .str (wordOf n) tk) := by
  have := word_spec w mean mg mb news (n : Int) t (by rw [Int.natAbs_natCast]; exact hn)
  rw [Int.natAbs_natCast] at this
  exact this
end
section
open PySem PySem.W PySem.Spec PySem.Calls PyProof.Rows PyProof.Rows.LCg
theorem three_lookup {y a b c : Str} {u v z : Value} (h1 : y ≠ a) (h2 : y ≠ b) (h3 : y ≠ c) : List.lookup y [(a, u), (b, v), (c, z)] = none := by simp [List.lookup, beq_false_of_ne h1, beq_false_of_ne h2, beq_false_of_ne h3]
theorem strs_len {vs : List Value} {ys : List Str} (h : StrsAre vs ys) : vs.length = ys.length := by
  induction h with
  | nil => rfl
  | cons y t _ ih => rw [List.length_cons, List.length_cons, ih]
theorem word_zero : wordOf 0 = Str.ofString "" := by unfold wordOf; rw [apL_zero]; decide +kernel
section
variable {w : World} {mean : ExcName → Option Value} {mg mb : Str → Option Value} {dp un : Nat} {gd : Option (List Code)} {cn : Str} {cs : Scope} {a : Addr} {ccd : Value} {cl : List (Str × Addr)} {outer : List Env} {A₀ : Around} {base h₀ : Heap} {L : Addr} {m : Str → Option Value} {s : Shared} {E : Value → Shared → Prop}
/-- what the lexer gives next, out of its line or at the text's end -/
theorem line_use {Q : Value → Shared → Prop} {χ : Lx} {σ : Strm} {x : Str} {k i pn : Nat} {tn ti : Tok} {rest : Led} {vs : List Value} {q : List Nat} (hσ : σ.Ok w mean mg mb x) (h1 : σ.d < χ.dx) (h2 : χ.dx < χ.x) (h3 : χ.x < χ.pb) (hr : ∀ p ∈ rest, χ.pb < p.1)
    (hq : StrsAre vs (q.map wordOf)) (hl : q.length ≤ 100000) (hend : lexF x x.length pn = (Str.ofString "", x.length + 1)) (hi : i = pn ∨ x.length < i) (hi5 : i ≤ 5000) (hx : x.length ≤ 5000)
    (B : Below A₀ base outer h₀) (F : Fr h₀ L s.heap m) (X : (heapK w.params).In h₀) (N : News h₀ L s.heap (rest ++ LXi χ σ w x vs.toArray k i tn ti)) (T : Top topProg LOO mean mg mb h₀) (hk : cs.kind = .function) (hd' : dp + 4 < recursionLimit) (hu : un + 32 < cLine)
    (ret : ∀ h' tk' tn' ti' k' i' u vs', Fr h₀ L h' m → News h₀ L h' (rest ++ LXi χ σ w x vs'.toArray k' i' tn' ti') → StrsAre vs' ((qpop q).2.map wordOf) → (i' = pn ∨ x.length < i') → i' ≤ max i x.length + 1 → (q = [] → x.length < i') → (q ≠ [] → i' = i) → Q (.str (wordOf (qpop q).1) u) { s with heap := h', toks := tk' }) :
    wpAny (model PySem.Challenge.rw_ta0019_01.row.prog w) (ktrTop dp un gd cn cs L a ccd cl outer) (call (.ref 59) [.ref χ.x]) Q E s := by
  match q, vs, hq with
  | [], [], _ =>
    refine get_use hσ h1 h2 h3 hr hi5 hx B F X N T hk hd' hu ?_
    have e : lexF x x.length i = (Str.ofString "", i + 1) ∨ (lexF x x.length i = (Str.ofString "", x.length + 1)) := by
      rcases hi with rfl | hi
      · exact .inr hend
      · exact .inl (lexF_end (read_end (by lia)))
    intro h' tk' tn' ti' tk F' N'
    have e1 : (lexF x x.length i).1 = wordOf 0 := by rw [word_zero]; rcases e with e | e <;> rw [e]
    rw [e1]
    refine ret h' tk' tn' ti' k _ tk [] F' N' .nil (.inr ?_) ?_ (fun _ => ?_) (fun h => absurd rfl h)
    · rcases hi with rfl | hi
      · rw [hend]; show x.length < x.length + 1; lia
      · rcases e with e | e
        · rw [e]; show x.length < i + 1; lia
        · rw [e]; show x.length < x.length + 1; lia
    · rcases e with e | e
      · rw [e]; show i + 1 ≤ _; lia
      · rw [e]; show x.length + 1 ≤ _; lia
    · rcases hi with rfl | hi
      · rw [hend]; show x.length < x.length + 1; lia
      · rcases e with e | e
        · rw [e]; show x.length < i + 1; lia
        · rw [e]; show x.length < x.length + 1; lia
  | n :: q, _ :: vs, .cons _ t hq =>
    have hvl := strs_len hq
    rw [List.length_map] at hvl
    refine pop_use hσ h1 h2 h3 hr (by rw [List.length_cons] at hl; lia) B F X N T hk (Nat.lt_of_le_of_lt (by lia) hd') (Nat.lt_of_le_of_lt (by lia) hu) ?_
    intro h' tk' k' F' N'
    exact ret h' tk' tn ti k' i t vs F' N' hq hi (by lia) (fun h => nomatch h) (fun _ => rfl)
theorem qpush_use {Q : Value → Shared → Prop} {χ : Lx} {σ : Strm} {x : Str} {k i : Nat} {tn ti : Tok} {rest : Led} {vs : List Value} {q : List Nat} {n : Nat} {y : Str} {u : Tok} (hσ : σ.Ok w mean mg mb x) (h1 : σ.d < χ.dx) (h2 : χ.dx < χ.x) (h3 : χ.x < χ.pb) (hr : ∀ p ∈ rest, χ.pb < p.1)
    (hq : StrsAre vs (q.map wordOf)) (hl : q.length ≤ 100000) (hy : y = wordOf n)
    (B : Below A₀ base outer h₀) (F : Fr h₀ L s.heap m) (X : (heapK w.params).In h₀) (N : News h₀ L s.heap (rest ++ LXi χ σ w x vs.toArray k i tn ti)) (T : Top topProg LOO mean mg mb h₀) (hk : cs.kind = .function) (hd' : dp + 1 < recursionLimit) (hu : un + 8 < cLine)
    (ret : ∀ h' tk' k' vs', Fr h₀ L h' m → News h₀ L h' (rest ++ LXi χ σ w x vs'.toArray k' i tn ti) → StrsAre vs' ((q ++ [n]).map wordOf) → Q .none { s with heap := h', toks := tk' }) :
    wpAny (model PySem.Challenge.rw_ta0019_01.row.prog w) (ktrTop dp un gd cn cs L a ccd cl outer) (call (.ref 66) [.ref χ.x, .str y u]) Q E s := by
  subst hy
  have hvl := strs_len hq
  rw [List.length_map] at hvl
  refine push_use hσ h1 h2 h3 hr (by rw [List.size_toArray]; lia) B F X N T hk hd' hu ?_
  intro h' tk' k' F' N'
  rw [List.push_toArray] at N'
  exact ret h' tk' k' _ F' N' (by rw [List.map_append]; exact strs_snoc hq _ _)
end
theorem qgo_go {b s f node : Nat} {q : List Nat} {r : Nat × List Nat} (h : qgo b s (f + 1) node q = some r) (h1 : node ≠ 0) (h2 : node < 16 ^ s) : qgo b s f (qpop (q ++ (List.range b).map (16 * node + ·))).1 (qpop (q ++ (List.range b).map (16 * node + ·))).2 = some r := by
  rw [qgo, if_pos ⟨h1, h2⟩] at h; exact h
theorem qgo_pos {b s f node : Nat} {q : List Nat} {r : Nat × List Nat} (h : qgo b s f node q = some r) : ∃ f', f = f' + 1 := by
  cases f with
  | zero => cases h
  | succ f => exact ⟨f, rfl⟩
theorem qgo_end {b s f node : Nat} {q : List Nat} {r : Nat × List Nat} (h : qgo b s f node q = some r) (h1 : ¬ (node ≠ 0 ∧ node < 16 ^ s)) : r = (node, q) := by
  obtain ⟨f, rfl⟩ := qgo_pos h
  rw [qgo, if_neg h1] at h
  exact (Option.some.inj h).symm
theorem qcodes_cons {b s : Nat} {l q : List Nat} {r : List Nat × List Nat} (h : qcodes b (s :: l) q = some r) : Sm4 fun node q' c q'' => Al3 (qgo b s 100 (qpop q).1 (qpop q).2 = some (node, q')) (qcodes b l q' = some (c, q'')) (r = (node :: c, q'')) := by
  rw [qcodes] at h
  split at h
  · cases h
  · rename_i node q' e1
    split at h
    · cases h
    · rename_i c q'' e2
      exact ⟨node, q', c, q'', e1, e2, (Option.some.inj h).symm⟩
theorem qpop_mem {q : List Nat} {B : Nat} (hB : 0 < B) (h : ∀ v ∈ q, v < B) : (qpop q).1 < B ∧ (∀ v ∈ (qpop q).2, v < B) ∧ (qpop q).2.length ≤ q.length := by
  cases q with
  | nil => exact ⟨hB, h, Nat.le_refl _⟩
  | cons v q => exact ⟨h v (.head _), fun u hu => h u (.tail _ hu), by simp [qpop]⟩
end
section
open PySem PySem.W PySem.Spec PySem.Calls PyProof.Rows
theorem fresh_X1 : True := by w_top off; k_with_none; trivial
theorem fill_x1 : (fun (_ : OpenLaw) (_ : Params → Frag) => True) PySem.Challenge.rw_ta0019_01 heapK := by k_fill; trivial
theorem tok_0 (w : World) : ∃ t, nsIn (heapK w.params) 15 (Str.ofString "(") = some (some (.int 7 t)) := ⟨_, by k_is⟩
theorem tok_1 (w : World) : ∃ t, nsIn (heapK w.params) 15 (Str.ofString ")") = some (some (.int 8 t)) := ⟨_, by k_is⟩
theorem tok_2 (w : World) : ∃ t, nsIn (heapK w.params) 15 (Str.ofString "[") = some (some (.int 9 t)) := ⟨_, by k_is⟩
theorem tok_3 (w : World) : ∃ t, nsIn (heapK w.params) 15 (Str.ofString "]") = some (some (.int 10 t)) := ⟨_, by k_is⟩
theorem tok_4 (w : World) : ∃ t, nsIn (heapK w.params) 15 (Str.ofString ":") = some (some (.int 11 t)) := ⟨_, by k_is⟩
theorem tok_5 (w : World) : ∃ t, nsIn (heapK w.params) 15 (Str.ofString ",") = some (some (.int 12 t)) := ⟨_, by k_is⟩
theorem tok_6 (w : World) : ∃ t, nsIn (heapK w.params) 15 (Str.ofString ";") = some (some (.int 13 t)) := ⟨_, by k_is⟩
theorem tok_7 (w : World) : ∃ t, nsIn (heapK w.params) 15 (Str.ofString "+") = some (some (.int 14 t)) := ⟨_, by k_is⟩
theorem tok_8 (w : World) : ∃ t, nsIn (heapK w.params) 15 (Str.ofString "-") = some (some (.int 15 t)) := ⟨_, by k_is⟩
theorem tok_9 (w : World) : ∃ t, nsIn (heapK w.params) 15 (Str.ofString "*") = some (some (.int 16 t)) := ⟨_, by k_is⟩
theorem tok_10 (w : World) : ∃ t, nsIn (heapK w.params) 15 (Str.ofString "/") = some (some (.int 17 t)) := ⟨_, by k_is⟩
theorem tok_11 (w : World) : ∃ t, nsIn (heapK w.params) 15 (Str.ofString "|") = some (some (.int 18 t)) := ⟨_, by k_is⟩
theorem tok_12 (w : World) : ∃ t, nsIn (heapK w.params) 15 (Str.ofString "&") = some (some (.int 19 t)) := ⟨_, by k_is⟩
theorem tok_13 (w : World) : ∃ t, nsIn (heapK w.params) 15 (Str.ofString "<") = some (some (.int 20 t)) := ⟨_, by k_is⟩
theorem tok_14 (w : World) : ∃ t, nsIn (heapK w.params) 15 (Str.ofString ">") = some (some (.int 21 t)) := ⟨_, by k_is⟩
theorem tok_15 (w : World) : ∃ t, nsIn (heapK w.params) 15 (Str.ofString "=") = some (some (.int 22 t)) := ⟨_, by k_is⟩
theorem tok_16 (w : World) : ∃ t, nsIn (heapK w.params) 15 (Str.ofString ".") = some (some (.int 23 t)) := ⟨_, by k_is⟩
theorem tok_17 (w : World) : ∃ t, nsIn (heapK w.params) 15 (Str.ofString "%") = some (some (.int 24 t)) := ⟨_, by k_is⟩
theorem tok_18 (w : World) : ∃ t, nsIn (heapK w.params) 15 (Str.ofString "{") = some (some (.int 25 t)) := ⟨_, by k_is⟩
theorem tok_19 (w : World) : ∃ t, nsIn (heapK w.params) 15 (Str.ofString "}") = some (some (.int 26 t)) := ⟨_, by k_is⟩
theorem tok_20 (w : World) : ∃ t, nsIn (heapK w.params) 15 (Str.ofString "==") = some (some (.int 27 t)) := ⟨_, by k_is⟩
theorem tok_21 (w : World) : ∃ t, nsIn (heapK w.params) 15 (Str.ofString "!=") = some (some (.int 28 t)) := ⟨_, by k_is⟩
theorem tok_22 (w : World) : ∃ t, nsIn (heapK w.params) 15 (Str.ofString "<=") = some (some (.int 29 t)) := ⟨_, by k_is⟩
theorem tok_23 (w : World) : ∃ t, nsIn (heapK w.params) 15 (Str.ofString ">=") = some (some (.int 30 t)) := ⟨_, by k_is⟩
theorem tok_24 (w : World) : ∃ t, nsIn (heapK w.params) 15 (Str.ofString "~") = some (some (.int 31 t)) := ⟨_, by k_is⟩
theorem tok_25 (w : World) : ∃ t, nsIn (heapK w.params) 15 (Str.ofString "^") = some (some (.int 32 t)) := ⟨_, by k_is⟩
theorem tok_26 (w : World) : ∃ t, nsIn (heapK w.params) 15 (Str.ofString "<<") = some (some (.int 33 t)) := ⟨_, by k_is⟩
theorem tok_27 (w : World) : ∃ t, nsIn (heapK w.params) 15 (Str.ofString ">>") = some (some (.int 34 t)) := ⟨_, by k_is⟩
theorem tok_28 (w : World) : ∃ t, nsIn (heapK w.params) 15 (Str.ofString "**") = some (some (.int 35 t)) := ⟨_, by k_is⟩
theorem tok_29 (w : World) : ∃ t, nsIn (heapK w.params) 15 (Str.ofString "+=") = some (some (.int 36 t)) := ⟨_, by k_is⟩
theorem tok_30 (w : World) : ∃ t, nsIn (heapK w.params) 15 (Str.ofString "-=") = some (some (.int 37 t)) := ⟨_, by k_is⟩
theorem tok_31 (w : World) : ∃ t, nsIn (heapK w.params) 15 (Str.ofString "*=") = some (some (.int 38 t)) := ⟨_, by k_is⟩
theorem tok_32 (w : World) : ∃ t, nsIn (heapK w.params) 15 (Str.ofString "/=") = some (some (.int 39 t)) := ⟨_, by k_is⟩
theorem tok_33 (w : World) : ∃ t, nsIn (heapK w.params) 15 (Str.ofString "%=") = some (some (.int 40 t)) := ⟨_, by k_is⟩
theorem tok_34 (w : World) : ∃ t, nsIn (heapK w.params) 15 (Str.ofString "&=") = some (some (.int 41 t)) := ⟨_, by k_is⟩
theorem tok_35 (w : World) : ∃ t, nsIn (heapK w.params) 15 (Str.ofString "|=") = some (some (.int 42 t)) := ⟨_, by k_is⟩
theorem tok_36 (w : World) : ∃ t, nsIn (heapK w.params) 15 (Str.ofString "^=") = some (some (.int 43 t)) := ⟨_, by k_is⟩
theorem tok_37 (w : World) : ∃ t, nsIn (heapK w.params) 15 (Str.ofString "<<=") = some (some (.int 44 t)) := ⟨_, by k_is⟩
theorem tok_38 (w : World) : ∃ t, nsIn (heapK w.params) 15 (Str.ofString ">>=") = some (some (.int 45 t)) := ⟨_, by k_is⟩
theorem tok_39 (w : World) : ∃ t, nsIn (heapK w.params) 15 (Str.ofString "**=") = some (some (.int 46 t)) := ⟨_, by k_is⟩
theorem tok_40 (w : World) : ∃ t, nsIn (heapK w.params) 15 (Str.ofString "//") = some (some (.int 47 t)) := ⟨_, by k_is⟩
theorem tok_41 (w : World) : ∃ t, nsIn (heapK w.params) 15 (Str.ofString "//=") = some (some (.int 48 t)) := ⟨_, by k_is⟩
theorem tok_42 (w : World) : ∃ t, nsIn (heapK w.params) 15 (Str.ofString "@") = some (some (.int 49 t)) := ⟨_, by k_is⟩
theorem tok_43 (w : World) : ∃ t, nsIn (heapK w.params) 15 (Str.ofString "@=") = some (some (.int 50 t)) := ⟨_, by k_is⟩
theorem tok_44 (w : World) : ∃ t, nsIn (heapK w.params) 15 (Str.ofString "->") = some (some (.int 51 t)) := ⟨_, by k_is⟩
theorem tok_45 (w : World) : ∃ t, nsIn (heapK w.params) 15 (Str.ofString "...") = some (some (.int 52 t)) := ⟨_, by k_is⟩
theorem tok_46 (w : World) : ∃ t, nsIn (heapK w.params) 15 (Str.ofString ":=") = some (some (.int 53 t)) := ⟨_, by k_is⟩
theorem tok_47 (w : World) : ∃ t, nsIn (heapK w.params) 15 (Str.ofString "!") = some (some (.int 54 t)) := ⟨_, by k_is⟩
theorem tok_dict (w : World) : ∃ es n, (heapK w.params).lookup 15 = some ⟨.type "dict", none, .dict es n, #[]⟩ ∧ KeysLit w.params es.toList := ⟨_, _, by k_is, by k_keys⟩
theorem tok_at (w : World) : ∀ j : Nat, j < 48 → ∃ t, nsIn (heapK w.params) 15 (OPS.getD j (Str.ofString "")) = some (some (.int ((j : Int) + 7) t))
  | 0, _ => tok_0 w
  | 1, _ => tok_1 w
  | 2, _ => tok_2 w
  | 3, _ => tok_3 w
  | 4, _ => tok_4 w
  | 5, _ => tok_5 w
  | 6, _ => tok_6 w
  | 7, _ => tok_7 w
  | 8, _ => tok_8 w
  | 9, _ => tok_9 w
  | 10, _ => tok_10 w
  | 11, _ => tok_11 w
  | 12, _ => tok_12 w
  | 13, _ => tok_13 w
  | 14, _ => tok_14 w
  | 15, _ => tok_15 w
  | 16, _ => tok_16 w
  | 17, _ => tok_17 w
  | 18, _ => tok_18 w
  | 19, _ => tok_19 w
  | 20, _ => tok_20 w
  | 21, _ => tok_21 w
  | 22, _ => tok_22 w
  | 23, _ => tok_23 w
  | 24, _ => tok_24 w
  | 25, _ => tok_25 w
  | 26, _ => tok_26 w
  | 27, _ => tok_27 w
  | 28, _ => tok_28 w
  | 29, _ => tok_29 w
  | 30, _ => tok_30 w
  | 31, _ => tok_31 w
  | 32, _ => tok_32 w
  | 33, _ => tok_33 w
  | 34, _ => tok_34 w
  | 35, _ => tok_35 w
  | 36, _ => tok_36 w
  | 37, _ => tok_37 w
  | 38, _ => tok_38 w
  | 39, _ => tok_39 w
  | 40, _ => tok_40 w
  | 41, _ => tok_41 w
  | 42, _ => tok_42 w
  | 43, _ => tok_43 w
  | 44, _ => tok_44 w
  | 45, _ => tok_45 w
  | 46, _ => tok_46 w
  | 47, _ => tok_47 w
  | j + 48, h => absurd h (by lia)
theorem tok_item {w : World} {A : Around} {E : Value → Shared → Prop} {s : Shared} {h₀ : Heap} {L : Addr} {m : Str → Option Value} {value slice : PySem.Expr} {j : Nat} {u : Tok} {Q : Value → Shared → Prop} (F : Fr h₀ L s.heap m) (X : (heapK w.params).In h₀) (hj : j < 48)
    (h : ∀ t, Q (.int ((j : Int) + 7) t) { s with toks := s.toks + 1 })
    (hs : subscripted slice false (.ref 15) (.str (OPS.getD j (Str.ofString "")) u) = operate [.ref 15, .str (OPS.getD j (Str.ofString "")) u] (getItem (.ref 15) (.str (OPS.getD j (Str.ofString "")) u)) := by with_unfolding_all rfl) :
    wpAny (model PySem.Challenge.rw_ta0019_01.row.prog w) A (subscriptTail value slice (.ref 15) (.str (OPS.getD j (Str.ofString "")) u)) Q E s := by
  obtain ⟨es, n, hl, hk⟩ := tok_dict w
  obtain ⟨t, e⟩ := tok_at w j hj
  exact topItem_K F X hl hk e (h t) hs
end
section
open PySem PySem.W PySem.Spec PySem.Calls PyProof.Rows PyProof.Rows.LCg
theorem fill_14 : (fun (_ : OpenLaw) (_ : Params → Frag) => True) PySem.Challenge.rw_ta0019_01 heapK := by k_fill; trivial
theorem words_F14 : True := by
  w_top off
  k_with_none
  k_with "go" => (first | walk1 | (dsimp only; walk1) | (leave1; walk_say "STEP leave1"; try dsimp only))
  k_with "no comp" => ((fail_if_success (with_reducible show wpAny _ _ (eval (PySem.Expr.ListComp _ _ _ _) _) _ _ _)); (fail_if_success (with_reducible show wpAny _ _ (eval (PySem.Expr.DictComp _ _ _ _ _) _) _ _ _)))
  k_with "no for" => ((fail_if_success (with_reducible show wpAny _ _ (exec (PySem.Stmt.For _ _ _ _ _) _) _ _ _)))
  k_with "no while" => ((fail_if_success (with_reducible show wpAny _ _ (exec (PySem.Stmt.While _ _ _ _) _) _ _ _)))
  k_with "no iter" => ((fail_if_success (with_reducible show wpAny _ _ (pyIter _) _ _ _)))
  k_with "my steps iter" => (repeat' (first | ((fail_if_success (with_reducible show LeaveK _ _ _ _ _ _ _)); (first | (k_unfold; (try dsimp only)) | (k_end; wrow_close) | (k_extra "no comp"; k_extra "no iter"; k_extra "go"))) | fail "no step"))
  k_with "my steps for" => (repeat' (first | ((fail_if_success (with_reducible show LeaveK _ _ _ _ _ _ _)); (first | (k_unfold; (try dsimp only)) | (k_end; wrow_close) | (k_extra "no for"; k_extra "no while"; k_extra "no comp"; k_extra "go"))) | fail "no step"))
  k_with "my small" => (first | assumption | lia)
  k_with "spec" => (exact num_word _ _ _ _ _ _ _ (by k_extra "my small"))
  k_with "my call ref" => (k_here; (try dsimp only [List.append_nil]); (with_reducible show wpAny _ _ (call (Value.ref 92) _) _ _ _); k_dflt (walk_at "gives"); rintro _ _ _ _ _ _ ⟨rfl, _, rfl⟩; (try dsimp only); (try k_fold))
  k_with "spec" => (exact word_spec _ _ _ _ _ _ _ (by k_extra "my small"))
  k_with "my call ref" => (k_here; (try dsimp only [List.append_nil]); (with_reducible show wpAny _ _ (call (Value.ref 85) _) _ _ _); k_dflt (walk_at "gives"); rintro _ _ _ _ _ _ ⟨rfl, _, rfl⟩; (try dsimp only); (try k_fold))
  k_with "spec" => (exact iseof_spec _ _ _ _ _ _ _)
  k_with "my call ref" => (k_here; (try dsimp only [List.append_nil]); (with_reducible show wpAny _ _ (call (Value.ref 24) _) _ _ _); k_dflt (walk_at "gives"); rintro _ _ _ _ _ _ ⟨rfl, rfl⟩; (try dsimp only); (try k_fold))
  k_with "my subscriptTail" => (k_here; (with_reducible show wpAny _ _ (subscriptTail _ _ (Value.ref 15) (Value.str _ _)) _ _ _); k_dflt (refine tok_item (by k_asm) (by k_asm) (by assumption) ?_); intro _)
  trivial

noncomputable abbrev mC (χx : Addr) (b : Int) (tb : Tok) (n : Int) (tc : Tok) (Wd : Addr) (c0 c1 c2 c3 c4 c5 c6 c7 : Option Value) : Str → Option Value := fun y => if y = Str.ofString "lexer" then some (.ref χx) else if y = Str.ofString "base" then some (.int b tb) else if y = Str.ofString "count" then some (.int n tc) else if y = Str.ofString "wishes" then some (.ref Wd) else if y = Str.ofString "k" then c0 else if y = Str.ofString "name" then c1 else if y = Str.ofString "codes" then c2 else if y = Str.ofString "size" then c3 else if y = Str.ofString "kind" then c4 else if y = Str.ofString "node" then c5 else if y = Str.ofString "figure" then c6 else if y = Str.ofString "left" then c7 else none
theorem mC_norm {m' : Str → Option Value} {χx : Addr} {b : Int} {tb : Tok} {n : Int} {tc : Tok} {Wd : Addr} {c0 c1 c2 c3 c4 c5 c6 c7 : Option Value} (h0 : m' (Str.ofString "lexer") = some (.ref χx)) (h1 : m' (Str.ofString "base") = some (.int b tb)) (h2 : m' (Str.ofString "count") = some (.int n tc)) (h3 : m' (Str.ofString "wishes") = some (.ref Wd)) (h4 : m' (Str.ofString "k") = c0) (h5 : m' (Str.ofString "name") = c1) (h6 : m' (Str.ofString "codes") = c2) (h7 : m' (Str.ofString "size") = c3) (h8 : m' (Str.ofString "kind") = c4) (h9 : m' (Str.ofString "node") = c5) (h10 : m' (Str.ofString "figure") = c6) (h11 : m' (Str.ofString "left") = c7)
    (hz : ∀ y, y ≠ Str.ofString "lexer" → y ≠ Str.ofString "base" → y ≠ Str.ofString "count" → y ≠ Str.ofString "wishes" → y ≠ Str.ofString "k" → y ≠ Str.ofString "name" → y ≠ Str.ofString "codes" → y ≠ Str.ofString "size" → y ≠ Str.ofString "kind" → y ≠ Str.ofString "node" → y ≠ Str.ofString "figure" → y ≠ Str.ofString "left" → m' y = none) : ∀ y, m' y = mC χx b tb n tc Wd c0 c1 c2 c3 c4 c5 c6 c7 y := by
  intro y
  by_cases e0 : y = Str.ofString "lexer"
  · subst e0; exact h0
  by_cases e1 : y = Str.ofString "base"
  · subst e1; exact h1
  by_cases e2 : y = Str.ofString "count"
  · subst e2; exact h2
  by_cases e3 : y = Str.ofString "wishes"
  · subst e3; exact h3
  by_cases e4 : y = Str.ofString "k"
  · subst e4; exact h4
  by_cases e5 : y = Str.ofString "name"
  · subst e5; exact h5
  by_cases e6 : y = Str.ofString "codes"
  · subst e6; exact h6
  by_cases e7 : y = Str.ofString "size"
  · subst e7; exact h7
  by_cases e8 : y = Str.ofString "kind"
  · subst e8; exact h8
  by_cases e9 : y = Str.ofString "node"
  · subst e9; exact h9
  by_cases e10 : y = Str.ofString "figure"
  · subst e10; exact h10
  by_cases e11 : y = Str.ofString "left"
  · subst e11; exact h11
  rw [hz y e0 e1 e2 e3 e4 e5 e6 e7 e8 e9 e10 e11]; simp [mC, e0, e1, e2, e3, e4, e5, e6, e7, e8, e9, e10, e11]

/-- the text's tokens: an operator and its length's word, in turn -/
structure Toks (x : Str) (ix sz pos pos' : Nat → Nat) (n : Nat) : Prop where
  op : ∀ k, k < n → lexF x x.length (pos k) = (OPS.getD (ix k) (Str.ofString ""), pos' k)
  word : ∀ k, k < n → lexF x x.length (pos' k) = (wordOf (sz k), pos (k + 1))
  lt : ∀ k, k < n → ix k < 48 ∧ 1 ≤ sz k ∧ sz k ≤ 4
  le : ∀ k, k ≤ n → pos k ≤ x.length ∧ pos' k ≤ x.length
  zero : pos 0 = 0
  fin : lexF x x.length (pos n) = (Str.ofString "", x.length + 1)
noncomputable def codesDat (p : List Nat) (ix : Nat → Nat) (C : List Nat) : List Dat := (p.zip C).map fun jc => .tuple [.str (OPS.getD (ix jc.1) (Str.ofString "")), .int (jc.2 : Int)]
theorem pow16 (s : Nat) : (16 : Int) ^ ((s : Int)).toNat = ((16 ^ s : Nat) : Int) := by rw [Int.toNat_natCast]; simp
theorem agree_get {b : Nat} {l : List Nat} (h : agree b l = true) : Sm2 fun c q => Al4 (qcodes b l [1] = some (c, q)) (c = dueP b l 0) (q = leftP b l) (∀ v ∈ q, v ≠ 0) := by
  unfold agree at h
  split at h
  · rename_i c q e
    simp only [Bool.and_eq_true, beq_iff_eq, List.all_eq_true, bne_iff_ne] at h
    exact ⟨c, q, e, h.1.1, h.1.2, h.2⟩
  · cases h
noncomputable def LeftAt (qE done : List Nat) (node : Nat) (q : List Nat) : Prop := done ++ (if node = 0 then [] else node :: q) = qE ∧ (node = 0 → q = [])
theorem left_next {Q done q2 : List Nat} {node : Nat} (h : LeftAt Q done node q2) (hn : node ≠ 0) (hQ : ∀ v ∈ Q, v ≠ 0) : LeftAt Q (done ++ [node]) (qpop q2).1 (qpop q2).2 ∧ ((qpop q2).1 = 0 → q2 = []) ∧ ((qpop q2).1 ≠ 0 → q2 ≠ [] ∧ q2.length = (qpop q2).2.length + 1) := by
  obtain ⟨h1, h2⟩ := h
  rw [if_neg hn] at h1
  cases q2 with
  | nil => exact ⟨⟨by simpa [qpop] using h1, fun _ => rfl⟩, fun _ => rfl, fun h => absurd rfl h⟩
  | cons v q' =>
    have hv : v ≠ 0 := hQ v (by rw [← h1]; simp)
    exact ⟨⟨by simpa [qpop, hv] using h1, fun h => absurd h hv⟩, fun h => absurd h hv, fun _ => ⟨fun h => (nomatch h), rfl⟩⟩
theorem swap_app {a b : Addr × Obj} {t : Led} : ∀ p ∈ b :: a :: t, p ∈ a :: b :: t := by
  intro p hp
  simp only [List.mem_cons] at hp ⊢
  rcases hp with h | h | h <;> simp [h]
theorem codes_snoc {p : List Nat} {ix : Nat → Nat} {c : List Nat} {i pj v : Nat} (hp : p[i]? = some pj) (hc : c.length = i) : codesDat p ix (c ++ [v]) = codesDat p ix c ++ [.tuple [.str (OPS.getD (ix pj) (Str.ofString "")), .int (v : Int)]] := by
  have hi : i < p.length := by
    by_cases h : i < p.length
    · exact h
    · rw [List.getElem?_eq_none (by lia)] at hp; cases hp
  have e : p = p.take i ++ pj :: p.drop (i + 1) := by
    rw [List.getElem?_eq_getElem hi] at hp
    rw [← Option.some.inj hp, List.getElem_cons_drop, List.take_append_drop]
  unfold codesDat
  have hl : (p.take i).length = i := by rw [List.length_take]; lia
  have e2 : p.zip c = (p.take i).zip c := by
    conv => lhs; rw [e]
    rw [← List.append_nil c, List.zip_append (by rw [hl, hc])]
    simp
  have e3 : p.zip (c ++ [v]) = (p.take i).zip c ++ [(pj, v)] := by
    conv => lhs; rw [e]
    rw [List.zip_append (by rw [hl, hc])]
    simp
  rw [e2, e3, List.map_append]; rfl
noncomputable def keyAt (ix sz : Nat → Nat) (k : Nat) : Key := ((sz k : Int), (ix k : Int) + 7, OPS.getD (ix k) (Str.ofString ""))
local macro_rules | `(tactic| k_mem) => `(tactic| (refine List.mem_append_right _ ?_; k_mem))
theorem codes_does (w mean mg mb) (χ : Lx) (σ : Strm) (x : Str) (hσ : σ.Ok w mean mg mb x) (h1 : σ.d < χ.dx) (h2 : χ.dx < χ.x) (h3 : χ.x < χ.pb) (k : Nat) (tn ti : Tok) (b : Int) (tb : Tok) (hb : b = 2 ∨ b = 3) (n : Nat) (tc : Tok) (hn3 : 3 ≤ n) (hn6 : n ≤ 6) (hx : x.length ≤ 4096) (ix sz pos pos' : Nat → Nat) (hT : Toks x ix sz pos pos' n) (hI : ∀ i j, i < n → j < n → ix i = ix j → i = j) (hsz : ∀ k, k < n → sz k ≤ 6 - b.toNat) :
    Does w mean mg mb 6 116 [.ref χ.x, .int b tb, .int (n : Int) tc] (LXi χ σ w x #[] k 0 tn ti) (fun _ => True) (fun r nw => Sm15 fun T Cd Ld cs kc ls kl tn9 FR vs k i tn ti p => Al11 (r = .ref T) (nw = (T, ({ cls := .type "tuple", data := .seq (List.toArray [.ref Cd, .ref Ld]) tn9 } : Obj)) :: (Ld, W.listOf (List.toArray ls) kl) :: (Cd, W.listOf (List.toArray cs) kc) :: FR) (DatAll FR cs (codesDat p ix (dueP b.toNat (p.map sz) 0))) (DatAll ([] : Led) ls ((leftP b.toNat (p.map sz)).map fun (v : Nat) => Dat.int (v : Int))) ((∀ q ∈ LXi χ σ w x vs k i tn ti, q ∈ FR)) (x.length < i) (krun n (fun i j => decide (100 * sz i + ix i < 100 * sz j + ix j)) (kas_sort n) = some p.toArray) (p.length = n) ((∀ y ∈ p, y < n)) (p.Nodup) ((p.map sz).Pairwise (· ≤ ·))) := by
  have ord := hσ.ord
  obtain ⟨o1d, o1e, o1f, o1g, o1h, o1i, o1j, o1k⟩ := ord
  replace o1d := ltN o1d
  replace o1e := ltN o1e
  replace o1f := ltN o1f
  replace o1g := ltN o1g
  replace o1h := ltN o1h
  replace o1i := ltN o1i
  replace o1j := ltN o1j
  replace o1k := ltN o1k
  replace h1 := ltN h1
  replace h2 := ltN h2
  replace h3 := ltN h3
  unfold Does
  intro dp un gd cn cs a ccd cl outer A₀ base h₀ L m s Q E hB hF hK hN hTop hcs hdp hun hpre hret
  refine wpAny_call ?_
  k_dflt walk_at "my enter"
  rename GSub _ _ _ => G9
  k_extra "my steps for"
  refine wpAny_For ?_
  k_extra "my steps iter"
  rename IsRange _ _ _ _ _ _ _ _ => hR
  rename Fr _ _ _ _ => F1
  rename News _ _ _ _ => N1
  rename_i g L' h02 FG BB XX TT Wd h03 lW h04 F0 N0 h0 tk0 t1 u1 v1 a1
  clear F0 N0 a1
  refine for_range (a := 0) (n := n) (RR := fun _ => _) rfl F1 N1 hR (small_one (by decide) (by decide) (by lia) (by lia)) (by rw [rangeSize_nat]; lia) (fun i m nw => Sm14 fun c0 c1 c2 c3 c4 c5 c6 c7 rs kk tl k2 tn ti => Al4 (m = mC χ.x b tb n tc Wd c0 c1 c2 c3 c4 c5 c6 c7) (nw = ((Wd, W.listOf (List.toArray rs) kk) :: tl) ++ LXi χ σ w x #[] k2 (pos i) tn ti) (DatAll tl rs ((List.range i).map fun j => kdat (keyAt ix sz j))) ((∀ p ∈ tl, Wd < p.1))) ?j0 ?turn ?fin (fun _ _ z => z)
  case j0 => exact ⟨_, _, _, _, _, _, _, _, [], _, [], _, _, _, funext (mC_norm rfl rfl rfl rfl rfl rfl rfl rfl rfl rfl rfl rfl (by intro y e0 e1 e2 e3 e4 e5 e6 e7 e8 e9 e10 e11; rw [if_neg e3]; exact three_lookup e2 e1 e0)), (by rw [hT.zero]; rfl), .nil, (fun _ h => nomatch h)⟩
  case turn =>
    clear F1 N1
    rintro I i t m' nw oI h tk' hi ⟨c0, c1, c2, c3, c4, c5, c6, c7, rs, kk, tl, k2, tn, ti, rfl, rfl, hDA, oW⟩ F2 N2 off lI s' rfl
    refine hideF ?_
    intro QA hQA
    k_extra "my steps for"
    refine hQA _ _ ?_
    refine hideF ?_
    intro QB hQB
    k_extra "my steps for"
    rename Fr _ _ _ _ => F3
    rename News _ _ _ _ => N3
    skip
    have lI1 : Wd < I := lI (Wd, W.listOf #[] 0) (.head _)
    have hab : ∀ p ∈ ((I, oI) :: (Wd, W.listOf rs.toArray kk) :: tl), χ.pb < p.1 := by
      intro p hp
      rcases List.mem_cons.mp hp with rfl | hp
      · exact Nat.lt_trans lW.1 lI1
      · rcases List.mem_cons.mp hp with rfl | hp
        · exact lW.1
        · exact Nat.lt_trans lW.1 (oW p hp)
    dsimp only [List.append_nil]
    refine get_use (m := ?mm1) (k := k2) (tn := tn) (ti := ti) (cn := _) (cs := _) (rest := (I, oI) :: (Wd, W.listOf rs.toArray kk) :: tl) hσ h1 h2 h3 hab (Nat.le_trans (hT.le i (Nat.le_of_lt hi)).1 (Nat.le_trans hx (by decide))) (Nat.le_trans hx (by decide)) BB ?kF1 XX ?kN1 TT ?kK1 ?kd1 ?ku1 ?ret1
    case kF1 => exact F3
    case kK1 => exact rfl
    case kN1 => exact N3
    case kd1 => ktr_room
    case ku1 => ktr_units
    case ret1 =>
      rw [hT.op i hi]
      intro h4 tk4 tn4 ti4 u4 F4 N4
      clear F3 N3
      dsimp only
      k_extra "my steps for"
      rename Fr _ _ _ _ => F5
      rename News _ _ _ _ => N5
      dsimp only [List.append_nil]
      refine get_use (m := ?mm2) (k := k2) (tn := tn4) (ti := ti4) (cn := _) (cs := _) (i := pos' i) (rest := (I, oI) :: (Wd, W.listOf rs.toArray kk) :: tl) hσ h1 h2 h3 hab (Nat.le_trans (hT.le i (Nat.le_of_lt hi)).2 (Nat.le_trans hx (by decide))) (Nat.le_trans hx (by decide)) BB ?kF2 XX ?kN2 TT ?kK2 ?kd2 ?ku2 ?ret2
      case kF2 => exact F5
      case kK2 => exact rfl
      case kN2 => exact N5
      case kd2 => ktr_room
      case ku2 => ktr_units
      case ret2 =>
        rw [hT.word i hi]
        intro h6 tk6 tn6 ti6 u6 F6 N6
        clear F5 N5
        obtain ⟨b1, b2, b3⟩ := hT.lt i hi
        have hs6 : sz i < 2 ^ 200 := Nat.lt_of_le_of_lt b3 (by decide)
        dsimp only
        k_extra "my steps for"
        rename Fr _ _ _ _ => F7
        rename News _ _ _ _ => N7
        rename AllLt _ _ => l7
        rename_i Dn hDn
        have a7 := allLt_all l7
        have d1 : I < Dn := a7 (I, oI) (.head _)
        have d2 : Wd < Dn := a7 (Wd, W.listOf rs.toArray kk) (.tail _ (.head _))
        have hrs : rs.length = i := by rw [hDA.length, List.length_map, List.length_range]
        have oWn : ∀ p ∈ tl ++ LXi χ σ w x #[] k2 (pos (i + 1)) tn6 ti6, p.1 ≠ Wd := all_app (fun p hp => Nat.ne_of_gt (oW p hp)) (lxi_ne hσ h1 h2 h3 lW.1)
        refine append_K F7 N7 (.tail (Nat.ne_of_gt d2) (.tail (Nat.ne_of_gt lI1) (.head oWn))) ?_ (by rw [sizeLine_eq, List.size_toArray]; lia)
        intro hA FA NA
        clear N7 F7
        k_extra "my steps for"
        rename Fr _ _ _ _ => FB
        rename News _ _ _ _ => NB
        simp only [List.push_toArray] at NB
        obtain ⟨d0, d1', FC⟩ : ∃ d0 d1, Fr g L' _ (mC χ.x b tb (n : Int) tc Wd d0 d1 c2 c3 c4 c5 c6 c7) := ⟨_, _, fr_eq FB (mC_norm rfl rfl rfl rfl rfl rfl rfl rfl rfl rfl rfl rfl (by intro y e0 e1 e2 e3 e4 e5 e6 e7 e8 e9 e10 e11; simp [mC, e0, e1, e2, e3, e4, e5, e6, e7, e8, e9, e10, e11]))⟩
        refine hQB _ _ ?_
        (try dsimp only)
        refine ForGo.of FC (news_sub (l' := (I, oI) :: (((Wd, _) :: (Dn, _) :: tl) ++ LXi χ σ w x #[] k2 (pos (i + 1)) tn6 ti6)) NB rot_app) (fun p hp => ?_) ⟨_, _, _, _, _, _, _, _, rs ++ [Value.ref Dn], _, _, _, _, _, rfl, rfl, ?_, ?_⟩
        · rcases List.mem_append.mp hp with hp | hp
          · rcases List.mem_cons.mp hp with rfl | hp
            · exact Nat.ne_of_lt lI1
            rcases List.mem_cons.mp hp with rfl | hp
            · exact Nat.ne_of_gt d1
            · exact off p (List.mem_append_left _ (.tail _ hp))
          · exact lxi_ne hσ h1 h2 h3 (Nat.lt_trans lW.1 lI1) p hp
        · rw [List.range_succ, List.map_append]
          exact (hDA.mono (fun p hp => .tail _ hp)).append (.one (.tuple (.head _) (.cons (.int _ _) (.cons (.int _ _) (.cons (.str _ _) .nil)))))
        · intro p hp
          rcases List.mem_cons.mp hp with rfl | hp
          · exact d2
          · exact oW p hp
  case fin =>
    clear F1 N1
    rintro I m' nw h tk F2 N2 ⟨c0, c1, c2, c3, c4, c5, c6, c7, rs, kk, tl, k2, tn, ti, rfl, rfl, hDA, oW⟩
    dsimp only
    k_extra "my steps for"
    rename Fr _ _ _ _ => F3
    rename News _ _ _ _ => N3
    have hab : ∀ p ∈ ((Wd, W.listOf rs.toArray kk) :: tl), χ.pb < p.1 := by
      intro p hp
      rcases List.mem_cons.mp hp with rfl | hp
      · exact lW.1
      · exact Nat.lt_trans lW.1 (oW p hp)
    refine qpush_use (m := ?mm3) (k := k2) (i := pos n) (tn := tn) (ti := ti) (cn := _) (cs := _) (rest := (Wd, W.listOf rs.toArray kk) :: tl) (q := []) (n := 1) (vs := []) hσ h1 h2 h3 hab StrsAre.nil (by decide) rfl BB ?kF3 XX ?kN3 TT ?kK3 ?kd3 ?ku3 ?ret3
    case kF3 => exact F3
    case kK3 => exact rfl
    case kN3 => exact N3
    case kd3 => ktr_room
    case ku3 => ktr_units
    case ret3 =>
      clear N2 F2 N3 F3
      intro h3' tk3 k3 qs F3 N3 hq
      dsimp only
      k_extra "my steps for"
      rename Fr _ _ _ _ => F4
      rename News _ _ _ _ => N4
      rename_i Cd h4 lC h4'
      have lWC : Wd < Cd := lC (Wd, W.listOf rs.toArray kk) (.head _)
      refine wpAny_For ?_
      k_extra "my steps iter"
      have hks : (List.map (fun j => kdat (keyAt ix sz j)) (List.range n)) = ((List.range n).map (keyAt ix sz)).map kdat := by rw [List.map_map]; rfl
      have hkl : ((List.range n).map (keyAt ix sz)).length = n := by rw [List.length_map, List.length_range]
      have hkg : ∀ i (hi : i < ((List.range n).map (keyAt ix sz)).length), ((List.range n).map (keyAt ix sz))[i] = keyAt ix sz i := by
        intro i hi; rw [List.getElem_map, List.getElem_range]
      have hne : ∀ i j, i < n → j < n → i = j ∨ ((ix i : Int) + 7 ≠ (ix j : Int) + 7) := by
        intro i j hi hj
        by_cases e : i = j
        · exact .inl e
        · exact .inr fun h => e (hI i j hi hj (by lia))
      refine sorted_keys (vs := rs) (ks := (List.range n).map (keyAt ix sz)) F4 N4 (.tail _ (.head _)) ((hks ▸ hDA).mono (fun p hp => .tail _ (.tail _ (List.mem_append_left _ hp)))) (by rw [hkl]; exact hn3) (by rw [hkl]; exact hn6) (fun i => 100 * sz i + ix i) ?inj ?ne ?lt ?srt
      case inj =>
        intro i j hi hj e
        rw [hkl] at hi hj
        have := (hT.lt i hi).1
        have := (hT.lt j hj).1
        exact hI i j hi hj (by have e' : 100 * sz i + ix i = 100 * sz j + ix j := e; lia)
      case ne =>
        intro i j hi hj
        rw [hkg, hkg]
        exact hne i j (hkl ▸ hi) (hkl ▸ hj)
      case lt =>
        intro i j hi hj
        rw [hkg, hkg]
        have := (hT.lt i (hkl ▸ hi)).1
        have := (hT.lt j (hkl ▸ hj)).1
        show (((sz i : Int) < sz j ∨ (sz i : Int) = sz j ∧ (ix i : Int) + 7 < (ix j : Int) + 7) ↔ 100 * sz i + ix i < 100 * sz j + ix j)
        lia
      case srt =>
        rw [hkl]
        intro p Dd ee h5 tk5 hrun hpl hpb hpn hpw F5 N5 lD
        have lCD : Cd < Dd := lD (Cd, W.listOf #[] 0) (.head _)
        clear F4 N4
        dsimp only
        k_extra "my steps iter"
        rename Fr _ _ _ _ => F6
        rename News _ _ _ _ => N6
        have hbn : b = (b.toNat : Int) := by lia
        have hmp : ∀ y ∈ p.map sz, 1 ≤ y ∧ y ≤ 6 - b.toNat := by
          intro y hy
          obtain ⟨j, hj, rfl⟩ := List.mem_map.mp hy
          exact ⟨(hT.lt j (hpb j hj)).2.1, hsz j (hpb j hj)⟩
        have hup : (p.map sz).Pairwise (· ≤ ·) := by
          rw [List.pairwise_map] at hpw ⊢
          refine hpw.imp_of_mem fun {i j} hi hj h => ?_
          have := (hT.lt i (hpb i hi)).1
          have := (hT.lt j (hpb j hj)).1
          lia
        obtain ⟨C, qE, hqC, hCE, hqL, hqE⟩ := agree_get (agree_free (b := b.toNat) (by lia) (by rw [List.length_map, hpl]; exact hn3) (by rw [List.length_map, hpl]; exact hn6) hmp hup).1
        have N6' : News g L' _ (((Cd, W.listOf #[] 0) :: ([] ++ (Dd, W.listOf (p.map fun i => rs.getD i Value.none).toArray ee) :: (Wd, W.listOf rs.toArray kk) :: tl)) ++ LXi χ σ w x qs.toArray k3 (pos n) tn ti) := news_sub N6 swap_app
        refine for_list (vs := p.map fun i => rs.getD i Value.none) (RR := fun _ => _) rfl F6 N6' (fun i m nw => Sm18 fun c0 c1 c3 c4 c5 c6 c7 cs kc ct c1' c2' q qs k3 i' tn ti => Al12 (m = mC χ.x b tb n tc Wd c0 c1 (some (.ref Cd)) c3 c4 c5 c6 c7) (nw = ((Cd, W.listOf (List.toArray cs) kc) :: (ct ++ (Dd, W.listOf (p.map fun i => rs.getD i Value.none).toArray ee) :: (Wd, W.listOf rs.toArray kk) :: tl)) ++ LXi χ σ w x (List.toArray qs) k3 i' tn ti) (DatAll ct cs (codesDat p ix c1')) ((∀ q ∈ ct, Dd < q.1)) (StrsAre qs (q.map wordOf)) (c1'.length = i) (qcodes b.toNat ((p.map sz).drop i) q = some (c2', qE)) (c1' ++ c2' = C) ((∀ v ∈ q, v < 2 ^ 21)) (q.length ≤ 1 + 400 * i) ((i' = pos n ∨ x.length < i')) (i' ≤ x.length + i)) ?j2 ?jl2 ?turn2 ?fin2 (fun _ _ z => z)
        case j2 => exact ⟨_, _, _, _, _, _, _, [], _, [], [], C, [1], qs, k3, pos n, tn, ti, funext (mC_norm rfl rfl rfl rfl rfl rfl rfl rfl rfl rfl rfl rfl (by intro y e0 e1 e2 e3 e4 e5 e6 e7 e8 e9 e10 e11; simp [mC, e0, e1, e2, e3, e4, e5, e6, e7, e8, e9, e10, e11])), rfl, (by rw [show codesDat p ix [] = [] by simp [codesDat]]; exact .nil), (fun _ h => nomatch h), hq, rfl, hqC, rfl, (by intro v hv; rw [List.mem_singleton.mp hv]; decide), (by decide), .inl rfl, (hT.le n (Nat.le_refl n)).1⟩
        case jl2 =>
          rintro i m nw ⟨c0, c1, c3, c4, c5, c6, c7, cs, kc, ct, c1', c2', q, qs, k3, i', tn, ti, rfl, rfl, _⟩
          exact .inr ⟨_, .tail _ (List.mem_append_left _ (List.mem_append_right _ (.head _))), rfl, _, rfl⟩
        case turn2 =>
          clear F6 N6 N6'
          rintro I i v m' nw oI h tk' hi hv ⟨c0, c1, c3, c4, c5, c6, c7, cs, kc, ct, c1', c2', q, qs, k3, i', tn, ti, rfl, rfl, hDC, oC, hq, hc1, hqc, hC, hqb, hql, hi1, hi2⟩ F2 N2 off lI s' rfl
          rw [List.length_map, hpl] at hi
          obtain ⟨pj, hpj⟩ : ∃ j, p[i]? = some j := ⟨_, List.getElem?_eq_getElem (by lia)⟩
          have hpn' : pj < n := hpb _ (List.mem_of_getElem? hpj)
          obtain ⟨v', hv', hd⟩ := hDA.get (k := pj) (by simpa using hpn')
          rw [List.getElem?_map, hpj] at hv
          have hv2 : v = v' := by
            have e9 : rs.getD pj Value.none = v := Option.some.inj hv
            rw [← e9, List.getD_eq_getElem?_getD, hv']; rfl
          subst hv2
          rw [List.getElem_map, List.getElem_range] at hd
          obtain ⟨a9, t91, t92, t93, n9, rfl, hm9⟩ := kdat_tup hd
          refine unpackN_ F2 N2 ⟨_, (N2 _ (.tail _ (.tail _ (List.mem_append_left _ (List.mem_append_right _ (.tail _ (.tail _ hm9))))))).1, rfl, _, rfl⟩ rfl rfl rfl ?_
          intro h6 F6 N6
          clear F2 N2
          refine hideF ?_
          intro QA hQA
          k_extra "my steps for"
          refine hQA _ _ ?_
          refine hideF ?_
          intro QG hQG
          k_extra "my steps for"
          rename Fr _ _ _ _ => F7
          rename News _ _ _ _ => N7
          have lDI : Dd < I := lI (Dd, W.listOf (p.map fun i => rs.getD i Value.none).toArray ee) (.tail _ (.head _))
          have hab2 : ∀ p_1 ∈ ((I, oI) :: (Cd, W.listOf cs.toArray kc) :: (ct ++ (Dd, W.listOf (p.map fun i => rs.getD i Value.none).toArray ee) :: (Wd, W.listOf rs.toArray kk) :: tl)), χ.pb < p_1.1 := by
            intro z hz
            have l1 : χ.pb < Cd := Nat.lt_trans lW.1 lWC
            have l2 : χ.pb < Dd := Nat.lt_trans l1 lCD
            rcases List.mem_cons.mp hz with rfl | hz
            · exact Nat.lt_trans l2 lDI
            rcases List.mem_cons.mp hz with rfl | hz
            · exact l1
            rcases List.mem_append.mp hz with hz | hz
            · exact Nat.lt_trans l2 (oC z hz)
            rcases List.mem_cons.mp hz with rfl | hz
            · exact l2
            · exact hab z hz
          have hin : i < 6 := by lia
          refine line_use (m := ?mm4) (k := k3) (i := i') (pn := pos n) (tn := tn) (ti := ti) (cn := _) (cs := _) (rest := (I, oI) :: (Cd, W.listOf cs.toArray kc) :: (ct ++ (Dd, W.listOf (p.map fun i => rs.getD i Value.none).toArray ee) :: (Wd, W.listOf rs.toArray kk) :: tl)) hσ h1 h2 h3 hab2 hq (by lia) hT.fin hi1 (by lia) (by lia) BB ?kF4 XX ?kN4 TT ?kK4 ?kd4 ?ku4 ?ret4
          case kF4 => exact F7
          case kK4 => exact rfl
          case kN4 => exact N7
          case kd4 => ktr_room
          case ku4 => ktr_units
          case ret4 =>
            clear F7 N7
            intro h8 tk8 tn8 ti8 k8 i8 u8 qs8 F8 N8 hq8 hi81 hi82 hi83 hi84
            obtain ⟨hpb1, hpb2, hpb3⟩ := qpop_mem (by decide) hqb
            have hsm : (qpop q).1 < 2 ^ 200 := Nat.lt_of_lt_of_le hpb1 (by decide)
            dsimp only
            k_extra "my steps for"
            rename Fr _ _ _ _ => F9
            rename News _ _ _ _ => N9
            have hdrop : (p.map sz).drop i = sz pj :: (p.map sz).drop (i + 1) := by
              have hl' : i < (p.map sz).length := by rw [List.length_map]; lia
              rw [List.drop_eq_getElem_cons hl', List.getElem_map]
              congr 2
              have := List.getElem?_eq_getElem (l := p) (i := i) (by lia)
              rw [this] at hpj
              exact Option.some.inj hpj
            rw [hdrop] at hqc
            obtain ⟨nd, qn, cn', qn', hgo, hrest, hce⟩ := qcodes_cons hqc
            obtain ⟨rfl, rfl⟩ := Prod.mk.inj hce
            obtain ⟨w0, w1, t2, FW⟩ : ∃ w0 u t2, Fr g L' _ (mC χ.x b tb (n : Int) tc Wd w0 (some (.str (OPS.getD (ix pj) (Str.ofString "")) u)) (some (.ref Cd)) (some (.int (sz pj : Int) t91)) (some (.int ((ix pj : Int) + 7) t92)) (some (.int ((qpop q).1 : Int) t2)) c6 c7) := ⟨_, _, _, fr_eq F9 (mC_norm rfl rfl rfl rfl rfl rfl rfl rfl rfl rfl rfl rfl (by intro y e0 e1 e2 e3 e4 e5 e6 e7 e8 e9 e10 e11; simp [mC, e0, e1, e2, e3, e4, e5, e6, e7, e8, e9, e10, e11]))⟩
            clear F9 hqc
            refine While_inv (n₀ := 100) (fun n' m nw => Sm8 fun c6 node t2 q qs k3 tn ti => Al7 (m = mC χ.x b tb (n : Int) tc Wd w0 (some (.str (OPS.getD (ix pj) (Str.ofString "")) w1)) (some (.ref Cd)) (some (.int (sz pj : Int) t91)) (some (.int ((ix pj : Int) + 7) t92)) (some (.int ((node : Nat) : Int) t2)) c6 c7) (nw = ((I, oI) :: (Cd, W.listOf cs.toArray kc) :: (ct ++ (Dd, W.listOf (p.map fun i => rs.getD i Value.none).toArray ee) :: (Wd, W.listOf rs.toArray kk) :: tl)) ++ LXi χ σ w x (List.toArray qs) k3 i8 tn ti) (StrsAre qs (q.map wordOf)) (qgo b.toNat (sz pj) n' node q = some (nd, qn)) (node < 2 ^ 21) ((∀ v ∈ q, v < 2 ^ 21)) (q.length + 3 * n' ≤ 301 + 400 * i)) FW N9 ⟨_, _, _, _, _, _, _, _, rfl, rfl, hq8, hgo, hpb1, hpb2, by lia⟩ ?_ (by passes_own)
            clear FW N9 hq8 hgo hpb1 hpb2 hpb3 hsm hq hqb hql hi83 hi84
            rintro n' m₁ nw₁ h₁ tk₁ F6 N6 ⟨c6, node, t2, q, qs, k3, tn, ti, rfl, rfl, hq, hgo, hnb, hqb, hql⟩
            obtain ⟨b1, b2, b3⟩ := hT.lt pj hpn'
            have hcl : cs.length = i := by rw [hDC.length, codesDat, List.length_map, List.length_zip, hc1, hpl]; lia
            have lCI : Cd < I := Nat.lt_trans lCD lDI
            have oCn : ∀ z ∈ (ct ++ (Dd, W.listOf (p.map fun i => rs.getD i Value.none).toArray ee) :: (Wd, W.listOf rs.toArray kk) :: tl), z.1 ≠ Cd := by
              intro z hz
              rcases List.mem_append.mp hz with hz | hz
              · exact Nat.ne_of_gt (Nat.lt_trans lCD (oC z hz))
              rcases List.mem_cons.mp hz with rfl | hz
              · exact Nat.ne_of_gt lCD
              · exact Nat.ne_of_lt (lC z (List.mem_append_left _ hz))
            k_extra "my steps for"
            · rename (node : Int) = 0 => hn0
              rename Fr _ _ _ _ => F7
              rename News _ _ _ _ => N7
              rename ∀ q : Addr × Obj, q ∈ _ → _ => l7
              obtain ⟨e8, e7⟩ := Prod.mk.inj (qgo_end hgo (fun z => z.1 (by lia)))
              subst e8 e7
              have d1 := l7 (I, oI) (.head _)
              have d2 := l7 (Cd, W.listOf cs.toArray kc) (.tail _ (.head _))
              have d3 := l7 (Dd, W.listOf (p.map fun i => rs.getD i Value.none).toArray ee) (.tail _ (.tail _ (List.mem_append_left _ (List.mem_append_right _ (.head _)))))
              refine append_K F7 N7 (.tail (Nat.ne_of_gt d2) (.tail (Nat.ne_of_gt lCI) (.head (all_app oCn (lxi_ne hσ h1 h2 h3 (Nat.lt_trans lW.1 lWC)))))) ?_ (by rw [sizeLine_eq, List.size_toArray]; lia)
              intro hA FA NA
              clear N7 F7
              k_extra "my steps for"
              rename Fr _ _ _ _ => FB
              rename News _ _ _ _ => NB
              simp only [List.push_toArray] at NB
              refine hQG _ _ ?_
              (try dsimp only)
              refine ForGo.of FB (news_sub (l' := (I, oI) :: (((Cd, _) :: ((_, _) :: ct ++ (Dd, W.listOf (p.map fun i => rs.getD i Value.none).toArray ee) :: (Wd, W.listOf rs.toArray kk) :: tl)) ++ LXi χ σ w x qs.toArray k3 i8 tn ti)) NB rot_app) (fun z hz => ?_) ⟨_, _, _, _, _, _, _, cs ++ [Value.ref _], _, _, c1' ++ [nd], cn', qn, qs, _, _, _, _, rfl, rfl, ?_, ?_, hq, ?_, hrest, ?_, hqb, ?_, hi81, ?_⟩
              · rcases List.mem_append.mp hz with hz | hz
                · rcases List.mem_cons.mp hz with rfl | hz
                  · exact Nat.ne_of_lt lCI
                  rcases List.mem_cons.mp hz with rfl | hz
                  · exact Nat.ne_of_gt d1
                  · exact off z (List.mem_append_left _ (.tail _ hz))
                · exact lxi_ne hσ h1 h2 h3 (Nat.lt_trans lW.1 (Nat.lt_trans lWC lCI)) z hz
              · rw [codes_snoc hpj hc1]
                exact (hDC.mono (fun p hp => .tail _ hp)).append (.one (.tuple (.head _) (.cons (.str _ _) (.cons (.int _ _) .nil))))
              · intro z hz
                rcases List.mem_cons.mp hz with rfl | hz
                · exact d3
                · exact oC z hz
              · rw [List.length_append, hc1]; rfl
              · rw [← hC, List.append_assoc]; rfl
              · lia
              · lia
            · rename (node : Int) ≠ 0 => hn0
              rename (node : Int) < _ => hn1
              rw [pow16] at hn1
              have hn2 : node < 16 ^ sz pj := Int.ofNat_lt.mp hn1
              have hn9 : node ≠ 0 := by lia
              have hn4 : node < 65536 := Nat.lt_of_lt_of_le hn2 (Nat.pow_le_pow_right (by decide) b3 : 16 ^ sz pj ≤ 16 ^ 4)
              obtain ⟨f, rfl⟩ := qgo_pos hgo
              have hgo2 := qgo_go hgo hn9 hn2
              refine hideF ?_
              intro QC hQC
              refine wpAny_For ?_
              k_extra "my steps iter"
              rename IsRange _ _ _ _ _ _ _ _ => hR2
              rename Fr _ _ _ _ => F8
              rename News _ _ _ _ => N8
              refine for_range (a := 0) (n := b.toNat) (RR := fun _ => _) rfl F8 N8 hR2 (small_one (by decide) (by decide) (by lia) (by lia)) (by rcases hb with rfl | rfl <;> decide +kernel) (fun k m nw => Sm5 fun c6 tn ti k3 qs => Al3 (m = mC χ.x b tb (n : Int) tc Wd w0 (some (.str (OPS.getD (ix pj) (Str.ofString "")) w1)) (some (.ref Cd)) (some (.int (sz pj : Int) t91)) (some (.int ((ix pj : Int) + 7) t92)) (some (.int ((node : Nat) : Int) t2)) c6 c7) (nw = ((I, oI) :: (Cd, W.listOf cs.toArray kc) :: (ct ++ (Dd, W.listOf (p.map fun i => rs.getD i Value.none).toArray ee) :: (Wd, W.listOf rs.toArray kk) :: tl)) ++ LXi χ σ w x (List.toArray qs) k3 i8 tn ti) (StrsAre qs ((q ++ (List.range k).map (16 * node + ·)).map wordOf))) ⟨_, _, _, _, _, rfl, rfl, by simpa using hq⟩ ?turn3 ?fin3 (fun _ _ z => z)
              case turn3 =>
                clear F8 N8 hq
                rintro I2 k9 t m' nw oI2 h tk' hk ⟨c6, tn, ti, k3, qs, rfl, rfl, hq⟩ F2 N2 off2 lI2 s' rfl
                refine hideF ?_
                intro QA hQA
                k_extra "my steps for"
                refine hQA _ _ ?_
                refine hideF ?_
                intro QD hQD
                k_extra "my steps for"
                rename Fr _ _ _ _ => F9
                rename News _ _ _ _ => N9
                have lII : I < I2 := lI2 (I, oI) (.head _)
                have hab3 : ∀ z ∈ ((I2, oI2) :: (I, oI) :: (Cd, W.listOf cs.toArray kc) :: (ct ++ (Dd, W.listOf (p.map fun i => rs.getD i Value.none).toArray ee) :: (Wd, W.listOf rs.toArray kk) :: tl)), χ.pb < z.1 := by
                  intro z hz
                  rcases List.mem_cons.mp hz with rfl | hz
                  · exact Nat.lt_trans lW.1 (Nat.lt_trans lWC (Nat.lt_trans lCI lII))
                  · exact hab2 z hz
                refine qpush_use (m := ?mm5) (k := k3) (i := i8) (tn := tn) (ti := ti) (cn := _) (cs := _) (rest := (I2, oI2) :: (I, oI) :: (Cd, W.listOf cs.toArray kc) :: (ct ++ (Dd, W.listOf (p.map fun i => rs.getD i Value.none).toArray ee) :: (Wd, W.listOf rs.toArray kk) :: tl)) (q := q ++ (List.range k9).map (16 * node + ·)) (n := 16 * node + k9) hσ h1 h2 h3 hab3 hq (by rw [List.length_append, List.length_map, List.length_range]; lia) (by congr 1; lia) BB ?kF5 XX ?kN5 TT ?kK5 ?kd5 ?ku5 ?ret5
                case kF5 => exact F9
                case kK5 => exact rfl
                case kN5 => exact N9
                case kd5 => ktr_room
                case ku5 => ktr_units
                case ret5 =>
                  clear F9 N9 hq
                  intro h10 tk10 k10 qs10 F10 N10 hq10
                  dsimp only
                  k_extra "my steps for"
                  rename Fr _ _ _ _ => FB
                  rename News _ _ _ _ => NB
                  obtain ⟨c6', FC⟩ : ∃ c6, Fr g L' _ (mC χ.x b tb (n : Int) tc Wd w0 (some (.str (OPS.getD (ix pj) (Str.ofString "")) w1)) (some (.ref Cd)) (some (.int (sz pj : Int) t91)) (some (.int ((ix pj : Int) + 7) t92)) (some (.int ((node : Nat) : Int) t2)) c6 c7) := ⟨_, fr_eq FB (mC_norm rfl rfl rfl rfl rfl rfl rfl rfl rfl rfl rfl rfl (by intro y e0 e1 e2 e3 e4 e5 e6 e7 e8 e9 e10 e11; simp [mC, e0, e1, e2, e3, e4, e5, e6, e7, e8, e9, e10, e11]))⟩
                  refine hQD _ _ ?_
                  (try dsimp only)
                  refine ForGo.of FC NB (fun z hz => ?_) ⟨_, _, _, _, _, rfl, rfl, ?_⟩
                  · rcases List.mem_append.mp hz with hz | hz
                    · exact off2 z (List.mem_append_left _ hz)
                    · exact lxi_ne hσ h1 h2 h3 (hab3 _ (.head _)) z hz
                  · have e9 : (List.range (k9 + 1)).map (16 * node + ·) = (List.range k9).map (16 * node + ·) ++ [16 * node + k9] := by rw [List.range_succ, List.map_append]; rfl
                    rw [e9, ← List.append_assoc]
                    exact hq10
              case fin3 =>
                clear F8 N8 hq
                rintro I2 m' nw h tk F2 N2 ⟨c6, tn, ti, k3, qs, rfl, rfl, hq⟩
                dsimp only
                refine hQC _ _ ?_
                (try dsimp only)
                k_extra "my steps for"
                rename Fr _ _ _ _ => F9
                rename News _ _ _ _ => N9
                have hqb2 : ∀ v ∈ (q ++ (List.range b.toNat).map (16 * node + ·)), v < 2 ^ 21 := by
                  intro v hv
                  rcases List.mem_append.mp hv with hv | hv
                  · exact hqb v hv
                  · obtain ⟨j, hj, rfl⟩ := List.mem_map.mp hv
                    have := List.mem_range.mp hj
                    lia
                have hql2 : (q ++ (List.range b.toNat).map (16 * node + ·)).length = q.length + b.toNat := by rw [List.length_append, List.length_map, List.length_range]
                have hb3 : b.toNat ≤ 3 := by lia
                have hq2 : (q ++ (List.range b.toNat).map (16 * node + ·)) ≠ [] := by
                  intro e; rw [e] at hql2; simp at hql2; lia
                refine line_use (m := ?mm6) (k := k3) (i := i8) (pn := pos n) (tn := tn) (ti := ti) (cn := _) (cs := _) (rest := (I, oI) :: (Cd, W.listOf cs.toArray kc) :: (ct ++ (Dd, W.listOf (p.map fun i => rs.getD i Value.none).toArray ee) :: (Wd, W.listOf rs.toArray kk) :: tl)) hσ h1 h2 h3 hab2 hq (by lia) hT.fin hi81 (by lia) (by lia) BB ?kF6 XX ?kN6 TT ?kK6 ?kd6 ?ku6 ?ret6
                case kF6 => exact F9
                case kK6 => exact rfl
                case kN6 => exact N9
                case kd6 => ktr_room
                case ku6 => ktr_units
                case ret6 =>
                  clear F9 N9 hq
                  intro h10 tk10 tn10 ti10 k10 i10 u10 qs10 F10 N10 hq10 _ _ _ hi104
                  obtain rfl := hi104 hq2
                  obtain ⟨hpb1, hpb2, hpb3⟩ := qpop_mem (by decide) hqb2
                  have hql3 : (qpop (q ++ (List.range b.toNat).map (16 * node + ·))).2.length + 1 = q.length + b.toNat := by
                    rw [← hql2]
                    cases e : (q ++ (List.range b.toNat).map (16 * node + ·)) with
                    | nil => exact absurd e hq2
                    | cons v q' => rfl
                  have hsm : (qpop (q ++ (List.range b.toNat).map (16 * node + ·))).1 < 2 ^ 200 := Nat.lt_of_lt_of_le hpb1 (by decide)
                  dsimp only
                  k_extra "my steps for"
                  rename Fr _ _ _ _ => FB
                  rename News _ _ _ _ => NB
                  refine ⟨rfl, _, _, _, _, f, rfl, fr_eq FB (mC_norm rfl rfl rfl rfl rfl rfl rfl rfl rfl rfl rfl rfl (by intro y e0 e1 e2 e3 e4 e5 e6 e7 e8 e9 e10 e11; simp [mC, e0, e1, e2, e3, e4, e5, e6, e7, e8, e9, e10, e11])), NB, Nat.lt_succ_self _, _, _, _, _, _, _, _, _, rfl, rfl, hq10, hgo2, hpb1, hpb2, by lia⟩
            · rename (node : Int) ≠ 0 => hn0
              rename ¬ ((node : Int) < _) => hn1
              rename Fr _ _ _ _ => F7
              rename News _ _ _ _ => N7
              rename ∀ q : Addr × Obj, q ∈ _ → _ => l7
              obtain ⟨e8, e7⟩ := Prod.mk.inj (qgo_end hgo (fun z => hn1 (by rw [pow16]; exact Int.ofNat_lt.mpr z.2)))
              subst e8 e7
              have d1 := l7 (I, oI) (.head _)
              have d2 := l7 (Cd, W.listOf cs.toArray kc) (.tail _ (.head _))
              have d3 := l7 (Dd, W.listOf (p.map fun i => rs.getD i Value.none).toArray ee) (.tail _ (.tail _ (List.mem_append_left _ (List.mem_append_right _ (.head _)))))
              refine append_K F7 N7 (.tail (Nat.ne_of_gt d2) (.tail (Nat.ne_of_gt lCI) (.head (all_app oCn (lxi_ne hσ h1 h2 h3 (Nat.lt_trans lW.1 lWC)))))) ?_ (by rw [sizeLine_eq, List.size_toArray]; lia)
              intro hA FA NA
              clear N7 F7
              k_extra "my steps for"
              rename Fr _ _ _ _ => FB
              rename News _ _ _ _ => NB
              simp only [List.push_toArray] at NB
              refine hQG _ _ ?_
              (try dsimp only)
              refine ForGo.of FB (news_sub (l' := (I, oI) :: (((Cd, _) :: ((_, _) :: ct ++ (Dd, W.listOf (p.map fun i => rs.getD i Value.none).toArray ee) :: (Wd, W.listOf rs.toArray kk) :: tl)) ++ LXi χ σ w x qs.toArray k3 i8 tn ti)) NB rot_app) (fun z hz => ?_) ⟨_, _, _, _, _, _, _, cs ++ [Value.ref _], _, _, c1' ++ [nd], cn', qn, qs, _, _, _, _, rfl, rfl, ?_, ?_, hq, ?_, hrest, ?_, hqb, ?_, hi81, ?_⟩
              · rcases List.mem_append.mp hz with hz | hz
                · rcases List.mem_cons.mp hz with rfl | hz
                  · exact Nat.ne_of_lt lCI
                  rcases List.mem_cons.mp hz with rfl | hz
                  · exact Nat.ne_of_gt d1
                  · exact off z (List.mem_append_left _ (.tail _ hz))
                · exact lxi_ne hσ h1 h2 h3 (Nat.lt_trans lW.1 (Nat.lt_trans lWC lCI)) z hz
              · rw [codes_snoc hpj hc1]
                exact (hDC.mono (fun p hp => .tail _ hp)).append (.one (.tuple (.head _) (.cons (.str _ _) (.cons (.int _ _) .nil))))
              · intro z hz
                rcases List.mem_cons.mp hz with rfl | hz
                · exact d3
                · exact oC z hz
              · rw [List.length_append, hc1]; rfl
              · rw [← hC, List.append_assoc]; rfl
              · lia
              · lia
        case fin2 =>
          clear F6 N6 N6'
          rintro I m' nw h tk' F2 N2 ⟨c0, c1, c3, c4, c5, c6, c7, cs, kc, ct, c1', c2', q, qs, k3, i', tn, ti, rfl, rfl, hDC, oC, hq, hc1, hqc, hC, hqb, hql, hi1, hi2⟩ lI
          rw [List.length_map, hpl] at hc1 hqc hql hi2
          rw [List.drop_eq_nil_of_le (by rw [List.length_map, hpl]; exact Nat.le_refl n)] at hqc
          obtain ⟨hce1, hce2⟩ := Prod.mk.inj (Option.some.inj (show some (([] : List Nat), q) = some (c2', qE) from hqc))
          subst hce1 hce2
          rw [List.append_nil] at hC
          subst hC
          dsimp only
          k_extra "my steps for"
          rename Fr _ _ _ _ => F7
          rename News _ _ _ _ => N7
          rename_i Ld h4 lL h4'
          have lWL : χ.pb < Ld := Nat.lt_trans lW.1 (lL (Wd, W.listOf rs.toArray kk) (.tail _ (List.mem_append_left _ (List.mem_append_right _ (.tail _ (.head _))))))
          have hab1 : ∀ z ∈ ((Cd, W.listOf cs.toArray kc) :: (ct ++ (Dd, W.listOf (p.map fun i => rs.getD i Value.none).toArray ee) :: (Wd, W.listOf rs.toArray kk) :: tl)), χ.pb < z.1 := by
            intro z hz
            have l1 : χ.pb < Cd := Nat.lt_trans lW.1 lWC
            rcases List.mem_cons.mp hz with rfl | hz
            · exact l1
            rcases List.mem_append.mp hz with hz | hz
            · exact Nat.lt_trans (Nat.lt_trans l1 lCD) (oC z hz)
            rcases List.mem_cons.mp hz with rfl | hz
            · exact Nat.lt_trans l1 lCD
            · exact hab z hz
          have hab2 : ∀ lo, ∀ z ∈ ((Ld, lo) :: (Cd, W.listOf cs.toArray kc) :: (ct ++ (Dd, W.listOf (p.map fun i => rs.getD i Value.none).toArray ee) :: (Wd, W.listOf rs.toArray kk) :: tl)), χ.pb < z.1 := by
            intro lo z hz
            rcases List.mem_cons.mp hz with rfl | hz
            · exact lWL
            · exact hab1 z hz
          have hLn : ∀ z ∈ ((Cd, W.listOf cs.toArray kc) :: (ct ++ (Dd, W.listOf (p.map fun i => rs.getD i Value.none).toArray ee) :: (Wd, W.listOf rs.toArray kk) :: tl)), z.1 ≠ Ld := fun z hz => Nat.ne_of_lt (lL z (List.mem_append_left _ hz))
          refine line_use (m := ?mm7) (k := k3) (i := i') (pn := pos n) (tn := tn) (ti := ti) (cn := _) (cs := _) (rest := (Ld, W.listOf #[] 0) :: (Cd, W.listOf cs.toArray kc) :: (ct ++ (Dd, W.listOf (p.map fun i => rs.getD i Value.none).toArray ee) :: (Wd, W.listOf rs.toArray kk) :: tl)) hσ h1 h2 h3 (hab2 _) hq (by lia) hT.fin hi1 (by lia) (by lia) BB ?kF7 XX ?kN7 TT ?kK7 ?kd7 ?ku7 ?ret7
          case kF7 => exact F7
          case kK7 => exact rfl
          case kN7 => exact N7
          case kd7 => ktr_room
          case ku7 => ktr_units
          case ret7 =>
            clear F7 N7
            intro h8 tk8 tn8 ti8 k8 i8 u8 qs8 F8 N8 hq8 hi81 hi82 hi83 hi84
            obtain ⟨hpb1, hpb2, hpb3⟩ := qpop_mem (by decide) hqb
            have hsm : (qpop q).1 < 2 ^ 200 := Nat.lt_of_lt_of_le hpb1 (by decide)
            dsimp only
            k_extra "my steps for"
            rename Fr _ _ _ _ => F9
            rename News _ _ _ _ => N9
            obtain ⟨w0, w1, w3, w4, w6, t2, FW⟩ : Sm6 fun c0 c1 c3 c4 c6 t2 => Fr g L' _ (mC χ.x b tb (n : Int) tc Wd c0 c1 (some (.ref Cd)) c3 c4 (some (.int ((qpop q).1 : Int) t2)) c6 (some (.ref Ld))) := ⟨_, _, _, _, _, _, fr_eq F9 (mC_norm rfl rfl rfl rfl rfl rfl rfl rfl rfl rfl rfl rfl (by intro y e0 e1 e2 e3 e4 e5 e6 e7 e8 e9 e10 e11; simp [mC, e0, e1, e2, e3, e4, e5, e6, e7, e8, e9, e10, e11]))⟩
            clear F9
            have hL0 : LeftAt q [] (qpop q).1 (qpop q).2 ∧ ((qpop q).1 = 0 → x.length < i8) ∧ ((qpop q).1 ≠ 0 → i8 ≤ x.length + n) := by
              cases q with
              | nil => exact ⟨⟨rfl, fun _ => rfl⟩, fun _ => hi83 rfl, fun h => absurd rfl h⟩
              | cons v q' => exact ⟨⟨by simp [qpop, hqE v (.head _)], fun h => absurd h (hqE v (.head _))⟩, fun h => absurd h (hqE v (.head _)), fun _ => by rw [hi84 (fun h => nomatch h)]; exact hi2⟩
            refine While_inv (n₀ := (qpop q).2.length + 1) (fun n' m nw => Sm16 fun c0 c1 c3 c4 c6 node t2 q2 qs k3 i8 tn ti ls kl done => Al11 (m = mC χ.x b tb (n : Int) tc Wd c0 c1 (some (.ref Cd)) c3 c4 (some (.int ((node : Nat) : Int) t2)) c6 (some (.ref Ld))) (nw = ((Ld, W.listOf (List.toArray ls) kl) :: (Cd, W.listOf cs.toArray kc) :: (ct ++ (Dd, W.listOf (p.map fun i => rs.getD i Value.none).toArray ee) :: (Wd, W.listOf rs.toArray kk) :: tl)) ++ LXi χ σ w x (List.toArray qs) k3 i8 tn ti) (DatAll ([] : Led) ls (done.map fun (v : Nat) => Dat.int (v : Int))) (StrsAre qs (q2.map wordOf)) (LeftAt q done node q2) ((node = 0 → x.length < i8)) ((node ≠ 0 → i8 ≤ x.length + n)) ((i8 = pos n ∨ x.length < i8)) ((node ≠ 0 → n' = q2.length + 1)) ((∀ v ∈ q2, v < 2 ^ 21)) (q2.length ≤ 3000)) FW N9 ⟨_, _, _, _, _, _, _, _, _, _, _, _, _, [], _, [], rfl, rfl, .nil, hq8, hL0.1, hL0.2.1, hL0.2.2, hi81, fun _ => rfl, hpb2, by lia⟩ ?_ (by passes_own)
            clear FW N9 hq8 hsm hi81 hi82 hi83 hi84 hL0
            rintro n' m₁ nw₁ h₁ tk₁ F6 N6 ⟨c0, c1, c3, c4, c6, node, t2, q2, qs, k3, i8, tn, ti, ls, kl, done, rfl, rfl, hDL, hq, hL1, hL2, hL3, hi8, hm8, hqb8, hql8⟩
            k_extra "my steps for"
            · rename (node : Int) = 0 => hn0
              rename Fr _ _ _ _ => F7
              rename News _ _ _ _ => N7
              have hn9 : node = 0 := by lia
              subst hn9
              have hdq : done = leftP b.toNat (p.map sz) := by
                have := hL1.1
                rw [if_pos rfl, List.append_nil] at this
                rw [this, hqL]
              subst hdq
              refine leaveK_ F7 N7 ?_
              intro kF kN
              obtain ⟨k9, n9⟩ := does_end F7 N7 G9
              refine hret _ _ _ _ k9 kF kN n9 ⟨_, Cd, Ld, cs, kc, ls, kl, _, _, _, k3, i8, tn, ti, p, rfl, rfl, ?_, hDL, fun q hq => List.mem_append_right _ hq, hL2 rfl, hrun, hpl, hpb, hpn, hup⟩
              rw [← hCE]
              exact hDC.mono (fun p hp => List.mem_append_left _ (List.mem_append_left _ hp))
            · rename (node : Int) ≠ 0 => hn0
              rename Fr _ _ _ _ => F7
              rename News _ _ _ _ => N7
              have hn9 : node ≠ 0 := by lia
              have hll : ls.length = done.length := by rw [hDL.length, List.length_map]
              have hdl : done.length ≤ q.length := by rw [← hL1.1, List.length_append]; lia
              refine append_K F7 N7 (.head (all_app hLn (lxi_ne hσ h1 h2 h3 lWL))) ?_ (by rw [sizeLine_eq, List.size_toArray]; lia)
              intro hA FA NA
              clear N7 F7
              simp only [List.push_toArray] at NA
              k_extra "my steps for"
              rename Fr _ _ _ _ => FB
              rename News _ _ _ _ => NB
              have hi5 := hL3 hn9
              refine line_use (m := ?mm8) (k := k3) (i := i8) (pn := pos n) (tn := tn) (ti := ti) (cn := _) (cs := _) (rest := (Ld, W.listOf (ls ++ [Value.int (node : Int) t2]).toArray (kl + 1)) :: (Cd, W.listOf cs.toArray kc) :: (ct ++ (Dd, W.listOf (p.map fun i => rs.getD i Value.none).toArray ee) :: (Wd, W.listOf rs.toArray kk) :: tl)) hσ h1 h2 h3 (hab2 _) hq (by lia) hT.fin hi8 (by lia) (by lia) BB ?kF8 XX ?kN8 TT ?kK8 ?kd8 ?ku8 ?ret8
              case kF8 => exact FB
              case kK8 => exact rfl
              case kN8 => exact NB
              case kd8 => ktr_room
              case ku8 => ktr_units
              case ret8 =>
                clear FB NB
                intro h10 tk10 tn10 ti10 k10 i10 u10 qs10 F10 N10 hq10 hi101 hi102 hi103 hi104
                obtain ⟨hpb1, hpb2, hpb3⟩ := qpop_mem (by decide) hqb8
                have hsm : (qpop q2).1 < 2 ^ 200 := Nat.lt_of_lt_of_le hpb1 (by decide)
                obtain ⟨hL1', hL4, hL5⟩ := left_next hL1 hn9 hqE
                dsimp only
                k_extra "my steps for"
                rename Fr _ _ _ _ => FB
                rename News _ _ _ _ => NB
                refine ⟨rfl, _, _, _, _, q2.length, rfl, fr_eq FB (mC_norm rfl rfl rfl rfl rfl rfl rfl rfl rfl rfl rfl rfl (by intro y e0 e1 e2 e3 e4 e5 e6 e7 e8 e9 e10 e11; simp [mC, e0, e1, e2, e3, e4, e5, e6, e7, e8, e9, e10, e11])), NB, by rw [hm8 hn9]; exact Nat.lt_succ_self _, _, _, _, _, _, (qpop q2).1, _, _, _, _, _, _, _, _, _, done ++ [node], rfl, rfl, ?_, hq10, hL1', fun h => hi103 (hL4 h), fun h => ?_, hi101, fun h => (hL5 h).2, hpb2, by lia⟩
                · rw [List.map_append]
                  exact hDL.append (.one (.int _ _))
                · rw [hi104 (hL5 h).1]; exact hi5
end
section
open PySem PySem.W PySem.Spec PySem.Calls PyProof.Rows PyProof.Rows.LCg PySem.SeqAt
theorem isStrOf_at (k : Str) : ∀ {vs : List Value} {ys : List Str}, StrsAre vs ys → ∀ (j : Nat) (h1 : j < vs.length) (h2 : j < ys.length), isStrOf k vs[j] = (ys[j] == k)
  | _, _, .cons n t _, 0, _, _ => rfl
  | _, _, .cons n t r, j + 1, h1, h2 => isStrOf_at k r j (Nat.lt_of_succ_lt_succ h1) (Nat.lt_of_succ_lt_succ h2)
section
variable {prog : Program} {w : World} {A : Around} {E : Value → Shared → Prop} {s : Shared} {h₀ : Heap} {L : Addr} {m : Str → Option Value} {news : List (Addr × Obj)}
theorem index_ops {l : Addr} {vs : List Value} {n j : Nat} {t : Tok} {Q : Value → Shared → Prop} (N : News h₀ L s.heap news) (hm : (l, W.listOf vs.toArray n) ∈ news) (hS : StrsAre vs OPS)
    (hj : j < 48) (h : Q (.int (j : Int) s.toks) { s with toks := s.toks + 1 }) :
    wpAny (model prog w) A (call (.builtin "list.index") [.ref l, .str (OPS.getD j (Str.ofString "")) t]) Q E s := by
  have ho := (N _ hm).1
  have hlen := strs_len hS
  have hl : OPS.length = 48 := by decide
  have hj2 : j < OPS.length := by lia
  have e : OPS.getD j (Str.ofString "") = OPS[j] := by rw [List.getD_eq_getElem?_getD, List.getElem?_eq_getElem hj2]; rfl
  rw [e]
  refine call_meets PySem.F.slot_list_index ⟨_, ho, rfl⟩ PySem.F.entry_list_index (PySem.F.args_list_index_2 _ _)
    (list_indexAt l vs.toArray n _ _ (.str OPS[j] t) (isStrOf OPS[j]) j (by rw [List.size_toArray]; lia) (by lia) ?_ ?_) ⟨ho, fun y hy => (eq_isStrOf OPS[j] t hS y (by simpa using hy)).at _ _, h⟩
  · show isStrOf OPS[j] vs[j] = true
    rw [isStrOf_at _ hS _ (by lia) hj2]
    simp
  · intro i his hlt
    show isStrOf OPS[j] vs[i] = false
    rw [isStrOf_at _ hS i (by simpa using his) (by lia), beq_eq_false_iff_ne]
    intro e9
    have hij : i = j := List.getElem_inj (h₀ := by have := his; rw [List.size_toArray] at this; lia) (h₁ := hj2) OPS_nodup |>.mp e9
    lia
end
end
section
open PySem PySem.W PySem.Spec PySem.Calls PyProof.Rows PyProof.Rows.LCg
theorem fill_15 : (fun (_ : OpenLaw) (_ : Params → Frag) => True) PySem.Challenge.rw_ta0019_01 heapK := by k_fill; trivial
theorem words_F15 : True := by
  w_top off
  k_with_none
  k_with "go" => (first | walk1 | (dsimp only; walk1) | (leave1; walk_say "STEP leave1"; try dsimp only))
  k_with "no comp" => ((fail_if_success (with_reducible show wpAny _ _ (eval (PySem.Expr.ListComp _ _ _ _) _) _ _ _)); (fail_if_success (with_reducible show wpAny _ _ (eval (PySem.Expr.DictComp _ _ _ _ _) _) _ _ _)))
  k_with "no for" => ((fail_if_success (with_reducible show wpAny _ _ (exec (PySem.Stmt.For _ _ _ _ _) _) _ _ _)))
  k_with "no while" => ((fail_if_success (with_reducible show wpAny _ _ (exec (PySem.Stmt.While _ _ _ _) _) _ _ _)))
  k_with "no asg" => ((fail_if_success (with_reducible show wpAny _ _ (exec (PySem.Stmt.Assign _ (PySem.Expr.ListComp _ _ _ _) _) _) _ _ _)); (fail_if_success (with_reducible show wpAny _ _ (exec (PySem.Stmt.Assign _ (PySem.Expr.DictComp _ _ _ _ _) _) _) _ _ _)))
  k_with "no iter" => ((fail_if_success (with_reducible show wpAny _ _ (pyIter _) _ _ _)))
  k_with "my steps" => (repeat' (first | ((fail_if_success (with_reducible show LeaveK _ _ _ _ _ _ _)); (first | (k_unfold; (try dsimp only)) | (k_end; wrow_close) | (k_extra "no comp"; k_extra "go"))) | fail "no step"))
  k_with "my steps iter" => (repeat' (first | ((fail_if_success (with_reducible show LeaveK _ _ _ _ _ _ _)); (first | (k_unfold; (try dsimp only)) | (k_end; wrow_close) | (k_extra "no comp"; k_extra "no iter"; k_extra "go"))) | fail "no step"))
  k_with "my steps for" => (repeat' (first | ((fail_if_success (with_reducible show LeaveK _ _ _ _ _ _ _)); (first | (k_unfold; (try dsimp only)) | (k_end; wrow_close) | (k_extra "no for"; k_extra "no while"; k_extra "no comp"; k_extra "go"))) | fail "no step"))
  k_with "my steps asg" => (repeat' (first | ((fail_if_success (with_reducible show LeaveK _ _ _ _ _ _ _)); (first | (k_unfold; (try dsimp only)) | (k_end; wrow_close) | (k_extra "no for"; k_extra "no while"; k_extra "no asg"; k_extra "no comp"; k_extra "go"))) | fail "no step"))
  k_with "my mem" => (first | assumption | exact List.Mem.head _ | (refine List.Mem.tail _ ?_; k_extra "my mem") | (refine List.mem_append_right _ ?_; k_extra "my mem"))
  k_with "spec" => (exact node_gives _ _ _ _ _ _ _ _ _ _ _ (by lia) (by lia) (by lia) (by lia))
  k_with "my call ref" => (k_here; (try dsimp only [List.append_nil]); (with_reducible show wpAny _ _ (call (Value.ref 123) _) _ _ _); k_dflt (walk_at "gives"); rintro _ _ _ _ _ _ ⟨rfl, _, rfl⟩; (try dsimp only); (try k_fold))
  k_with "spec" => (exact ops_spec _ _ _ _ _)
  k_with "my call ref" => (k_here; (with_reducible show wpAny _ _ (call (Value.ref 104) _) _ _ _); k_dflt (walk_at "gives"); walk_at "in ops"; (try dsimp only); (try k_fold))
  k_with "my subscriptTail" => (k_here; (with_reducible show wpAny _ _ (subscriptTail _ _ (Value.ref _) (Value.int 0 _)) _ _ _); k_dflt (refine tup_item (k := 0) (by k_asm) (by k_extra "my mem") (by rfl) (by decide) ?_))
  k_with "my subscriptTail" => (k_here; (with_reducible show wpAny _ _ (subscriptTail _ _ (Value.ref _) (Value.int 1 _)) _ _ _); k_dflt (refine tup_item (k := 1) (by k_asm) (by k_extra "my mem") (by rfl) (by decide) ?_))
  k_with "my getMethod ref" => (k_here; (with_reducible show wpAny _ _ (getMethod (Value.ref _) (PySem.Str.ofString "index") _) _ _ _); k_dflt (refine kf_method (by k_asm) (by k_extra "my mem") PySem.F.slot_list_index PySem.F.type_list_index ?_))
  k_with "my call builtin:list.index" => (k_here; (with_reducible show wpAny _ _ (call (Value.builtin _) [Value.ref _, Value.str _ _]) _ _ _); k_dflt (refine index_ops (by k_asm) (by k_extra "my mem") (by assumption) (by assumption) ?_))
  k_with "my binaryOp FloorDiv int int" => ((with_reducible show wpAny _ _ (binaryOp Operator.FloorDiv (Value.int _ _) (Value.int _ _)) _ _ _); (refine floordiv_int (by exact bpow_ne (by assumption) _) ?_ (Or.inl (by exact nopy (by assumption) (by assumption) (by lia)))))
  trivial

noncomputable abbrev mD (Wd : Addr) (b : Int) (td : Tok) (c0 c1 c2 c3 c4 c5 : Option Value) : Str → Option Value := fun y => if y = Str.ofString "wishes" then some (.ref Wd) else if y = Str.ofString "depth" then some (.int (6 - b) td) else if y = Str.ofString "codes" then c0 else if y = Str.ofString "taken" then c1 else if y = Str.ofString "size" then c2 else if y = Str.ofString "kind" then c3 else if y = Str.ofString "name" then c4 else if y = Str.ofString "left" then c5 else none
theorem mD_norm {m' : Str → Option Value} {Wd : Addr} {b : Int} {td : Tok} {c0 c1 c2 c3 c4 c5 : Option Value} (h0 : m' (Str.ofString "wishes") = some (.ref Wd)) (h1 : m' (Str.ofString "depth") = some (.int (6 - b) td)) (h2 : m' (Str.ofString "codes") = c0) (h3 : m' (Str.ofString "taken") = c1) (h4 : m' (Str.ofString "size") = c2) (h5 : m' (Str.ofString "kind") = c3) (h6 : m' (Str.ofString "name") = c4) (h7 : m' (Str.ofString "left") = c5)
    (hz : ∀ y, y ≠ Str.ofString "wishes" → y ≠ Str.ofString "depth" → y ≠ Str.ofString "codes" → y ≠ Str.ofString "taken" → y ≠ Str.ofString "size" → y ≠ Str.ofString "kind" → y ≠ Str.ofString "name" → y ≠ Str.ofString "left" → m' y = none) : ∀ y, m' y = mD Wd b td c0 c1 c2 c3 c4 c5 y := by
  intro y
  by_cases e0 : y = Str.ofString "wishes"
  · subst e0; exact h0
  by_cases e1 : y = Str.ofString "depth"
  · subst e1; exact h1
  by_cases e2 : y = Str.ofString "codes"
  · subst e2; exact h2
  by_cases e3 : y = Str.ofString "taken"
  · subst e3; exact h3
  by_cases e4 : y = Str.ofString "size"
  · subst e4; exact h4
  by_cases e5 : y = Str.ofString "kind"
  · subst e5; exact h5
  by_cases e6 : y = Str.ofString "name"
  · subst e6; exact h6
  by_cases e7 : y = Str.ofString "left"
  · subst e7; exact h7
  rw [hz y e0 e1 e2 e3 e4 e5 e6 e7]; simp [mD, e0, e1, e2, e3, e4, e5, e6, e7]

theorem Does.pure {w : World} {mean : ExcName → Option Value} {mg mb : Str → Option Value} {need : Nat} {f : Addr} {vs : List Value} {P : Value → Prop} {news : Led} (G : Does w mean mg mb need f vs [] (fun _ => True) (fun r _ => P r)) :
    Gives w mean mg mb need f vs news (fun r n' _ => news = n' ∧ P r) := by
  intro dp un gd cn cs a ccd cl outer A₀ base h₀ L m s Q E hB hF hK hN hT hcs hdp hun hret
  refine G.use hB hF hK (fun _ hp => nomatch hp) hT hcs hdp hun trivial fun r h' tk' nw k F' N' hn hp => ?_
  exact hret r _ h' tk' F' (news_after (mu := []) (nw := []) hN k (fun _ _ h => nomatch h) (fun _ h => nomatch h)) ⟨rfl, hp⟩
theorem node_gives (w mean mg mb) (news : Led) (v z b : Int) (t u q : Tok) (hz : 1 ≤ z) (hz2 : z ≤ 4) (hb : 2 ≤ b) (hb2 : b ≤ 3) :
    Gives w mean mg mb 1 123 [.int v t, .int z u, .int b q] news (fun r n' _ => news = n' ∧ ∃ tk, r = .int (nodeN v z b z.toNat) tk) := (node_does w mean mg mb v z b t u q hz hz2 hb hb2).pure
theorem node_nat (b v s : Nat) : ∀ n, nodeN (v : Int) (s : Int) (b : Int) n = (((List.range n).foldl (fun node place => 16 * node + v / b ^ (s - 1 - place) % b) 1 : Nat) : Int)
  | 0 => rfl
  | n + 1 => by
    rw [nodeN, node_nat b v s n, List.range_succ, List.foldl_append]
    have e : ((s : Int) - 1 - (n : Int)).toNat = s - 1 - n := by lia
    rw [e, Int.fdiv_eq_ediv_of_nonneg _ (Int.pow_nonneg (Int.natCast_nonneg b)), Int.fmod_eq_emod_of_nonneg _ (Int.natCast_nonneg b)]
    simp
theorem node_P (b v s : Nat) : nodeN (v : Int) (s : Int) (b : Int) ((s : Int)).toNat = (nodeP b v s : Int) := by
  rw [Int.toNat_natCast]; exact node_nat b v s s
noncomputable def wishAt (ix sz : Nat → Nat) (dr : Nat → Int) (k : Nat) : Dat := .tuple [.str (OPS.getD (ix k) (Str.ofString "")), .int (sz k : Int), .int (dr k)]
noncomputable def keyIx (ix sz : Nat → Nat) (k : Nat) : Key := ((sz k : Int), (ix k : Int), OPS.getD (ix k) (Str.ofString ""))
theorem due_sub {d e c o l : Addr × Obj} {ct r : Led} : ∀ p ∈ c :: l :: ([] ++ d :: e :: (ct ++ o :: r)), p ∈ d :: e :: (ct ++ c :: o :: l :: r) := by
  intro p hp
  simp only [List.nil_append, List.mem_append, List.mem_cons] at hp ⊢
  rcases hp with h | h | h | h | h | h | h <;> simp [h]
noncomputable def codeP (b taken s : Nat) : Nat := if taken < b ^ (6 - b) then nodeP b (taken / b ^ (6 - b - s)) s else 0
theorem due_num {b : Int} (hb : b = 2 ∨ b = 3) (taken s : Nat) (hs : s ≤ 6 - b.toNat) : (((taken : Int) < b ^ (6 - b).toNat) ↔ taken < b.toNat ^ (6 - b.toNat)) ∧
    nodeN ((taken : Int).fdiv (b ^ (6 - b - (s : Int)).toNat)) (s : Int) b ((s : Int)).toNat = (nodeP b.toNat (taken / b.toNat ^ (6 - b.toNat - s)) s : Int) ∧
    (taken : Int) + b ^ (6 - b - (s : Int)).toNat = ((taken + b.toNat ^ (6 - b.toNat - s) : Nat) : Int) := by
  obtain ⟨bn, rfl⟩ : ∃ bn : Nat, b = bn := ⟨b.toNat, by lia⟩
  rw [Int.toNat_natCast] at hs ⊢
  have e1 : (6 - (bn : Int)).toNat = 6 - bn := by lia
  have e2 : (6 - (bn : Int) - (s : Int)).toNat = 6 - bn - s := by lia
  rw [e1, e2]
  refine ⟨?_, ?_, ?_⟩
  · rw [← Int.natCast_pow]; exact Int.ofNat_lt
  · rw [← Int.natCast_pow, Int.fdiv_eq_ediv_of_nonneg _ (Int.natCast_nonneg _), ← Int.natCast_ediv]
    exact node_P bn _ s
  · rw [← Int.natCast_pow]; rfl
theorem rot_due {a b c e : Addr × Obj} {t r : Led} : ∀ p ∈ b :: c :: e :: (a :: t ++ r), p ∈ a :: b :: c :: e :: (t ++ r) := by
  intro p hp
  simp only [List.cons_append, List.mem_append, List.mem_cons] at hp ⊢
  rcases hp with h | h | h | h | h | h <;> simp [h]
theorem off1_mem {D : Addr} : ∀ {l : Led}, Off1 D l → ∀ p ∈ l, p.1 ≠ D
  | [], _, _, h => nomatch h
  | _ :: _, x, p, h => by
    rcases List.mem_cons.mp h with rfl | h
    · exact x.1
    · exact off1_mem x.2 p h
theorem node_Pb {b : Int} (hb : b = 2 ∨ b = 3) (v s : Nat) : nodeN (v : Int) (s : Int) b ((s : Int)).toNat = (nodeP b.toNat v s : Int) := by
  obtain ⟨bn, rfl⟩ : ∃ bn : Nat, b = bn := ⟨b.toNat, by lia⟩
  exact node_P bn v s
theorem due_rng {b : Int} (hb : b = 2 ∨ b = 3) (taken s : Nat) (hs : s ≤ 6 - b.toNat) : ((taken : Int).fdiv (b ^ (6 - b - (s : Int)).toNat)) = ((taken / b.toNat ^ (6 - b.toNat - s) : Nat) : Int) ∧ b ^ ((s : Int)).toNat = ((b.toNat ^ s : Nat) : Int) := by
  obtain ⟨bn, rfl⟩ : ∃ bn : Nat, b = bn := ⟨b.toNat, by lia⟩
  rw [Int.toNat_natCast] at hs ⊢
  have e2 : (6 - (bn : Int) - (s : Int)).toNat = 6 - bn - s := by lia
  rw [e2, Int.toNat_natCast]
  refine ⟨?_, ?_⟩
  · rw [← Int.natCast_pow, Int.fdiv_eq_ediv_of_nonneg _ (Int.natCast_nonneg _), ← Int.natCast_ediv]
  · rw [← Int.natCast_pow]
theorem takenP_le {b : Int} (hb : b = 2 ∨ b = 3) : ∀ (l : List Nat) (t : Nat), takenP b.toNat l t ≤ t + 27 * l.length
  | [], t => Nat.le_refl _
  | s :: l, t => by
    have h := takenP_le hb l (t + b.toNat ^ (6 - b.toNat - s))
    have h2 : b.toNat ^ (6 - b.toNat - s) ≤ 27 := by
      rcases hb with rfl | rfl
      · exact Nat.le_trans (Nat.pow_le_pow_right (by decide) (by lia) : 2 ^ (6 - 2 - s) ≤ 2 ^ 4) (by decide)
      · exact Nat.le_trans (Nat.pow_le_pow_right (by decide) (by lia) : 3 ^ (6 - 3 - s) ≤ 3 ^ 3) (by decide)
    rw [takenP, List.length_cons]
    lia
theorem wish_tup {tl : Led} {v : Value} {x : Str} {y z : Int} (h : DatIn tl v (.tuple [.str x, .int y, .int z])) : Sm5 fun a t1 t2 t3 n => v = .ref a ∧ (a, ({ cls := .type "tuple", data := .seq (List.toArray [.str x t1, .int y t2, .int z t3]) n } : Obj)) ∈ tl := by
  obtain ⟨a, vs, n, rfl, hm, hd⟩ := tup_inv h
  obtain ⟨v0, vs0, rfl, h0, hd0⟩ := all_inv hd
  obtain ⟨v1, vs1, rfl, h1, hd1⟩ := all_inv hd0
  obtain ⟨v2, vs2, rfl, h2, hd2⟩ := all_inv hd1
  obtain ⟨t0, rfl⟩ := str_inv h0
  obtain ⟨t1, rfl⟩ := int_inv h1
  obtain ⟨t2, rfl⟩ := int_inv h2
  obtain rfl := nil_inv hd2
  exact ⟨a, t0, t1, t2, n, rfl, hm⟩
local macro_rules | `(tactic| k_mem) => `(tactic| (refine List.mem_append_right _ ?_; k_mem))
local macro_rules | `(tactic| k_all) => `(tactic| assumption)
theorem due_does (w mean mg mb) (b : Int) (tb : Tok) (hb : b = 2 ∨ b = 3) (n : Nat) (hn3 : 3 ≤ n) (hn6 : n ≤ 6) (ix sz : Nat → Nat) (dr : Nat → Int) (hix : ∀ k, k < n → ix k < 48) (hI : ∀ i j, i < n → j < n → ix i = ix j → i = j) (hsz : ∀ k, k < n → 1 ≤ sz k ∧ sz k ≤ 6 - b.toNat) (Wd : Addr) (rs : List Value) (kk : Nat) (tl : Led) (hDA : DatAll tl rs ((List.range n).map (wishAt ix sz dr))) :
    Does w mean mg mb 3 128 [.ref Wd, .int b tb] ((Wd, W.listOf rs.toArray kk) :: tl) (fun _ => True) (fun r nw => Sm10 fun T Cd Ld cs kc ls kl tn9 FR p => Al9 (r = .ref T) (nw = (T, ({ cls := .type "tuple", data := .seq (List.toArray [.ref Cd, .ref Ld]) tn9 } : Obj)) :: (Ld, W.listOf (List.toArray ls) kl) :: (Cd, W.listOf (List.toArray cs) kc) :: FR) (DatAll FR cs (codesDat p ix (dueP b.toNat (p.map sz) 0))) (DatAll ([] : Led) ls ((leftP b.toNat (p.map sz)).map fun (v : Nat) => Dat.int (v : Int))) ((∀ q ∈ (Wd, W.listOf rs.toArray kk) :: tl, q ∈ FR)) (krun n (fun i j => decide (100 * sz i + ix i < 100 * sz j + ix j)) (kas_sort n) = some p.toArray) (p.length = n) ((∀ y ∈ p, y < n)) (p.Nodup)) := by
  have hb1 : 2 ≤ b := by lia
  have hb2 : b ≤ 3 := by lia
  unfold Does
  intro dp un gd cn cs a ccd cl outer A₀ base h₀ L m s Q E hB hF hK hN hTop hcs hdp hun hpre hret
  refine wpAny_call ?_
  k_dflt walk_at "my enter cells"
  rename GSub _ _ _ => G9
  rename_i g L' h1 tk1 FG F1 BB XX TT lT o1 o2 o3 d1 d2 d3 N1
  have t0 : ∀ p ∈ tl, p.1 < L' := allLt_all lT.2
  have t1 : ∀ p ∈ tl, p.1 ≠ L' + 1 := fun p hp => Nat.ne_of_lt (Nat.lt_succ_of_lt (t0 p hp))
  have t2 : ∀ p ∈ tl, p.1 ≠ L' + 1 + 1 := fun p hp => Nat.ne_of_lt (Nat.lt_succ_of_lt (Nat.lt_succ_of_lt (t0 p hp)))
  have t3 : ∀ p ∈ tl, p.1 ≠ L' + 1 + 1 + 1 := fun p hp => Nat.ne_of_lt (Nat.lt_succ_of_lt (Nat.lt_succ_of_lt (Nat.lt_succ_of_lt (t0 p hp))))
  have d3' : o3.data = .cell (some (.int b tb)) := d3
  clear d3
  k_extra "my steps for"
  rename_i Od vs9 hv9 lO h3 oO dO tk3 h4 Cd h5 lC q1 q2 q3 oL q5 q6 dL
  rename Fr _ _ _ _ => F2
  rename News _ _ _ _ => N2
  obtain ⟨td, v1, v2, v3, v4, tt, FD⟩ : Sm6 fun td v1 v2 v3 v4 tt => Fr g L' _ (mD Wd b td (some (.ref Cd)) (some (.int 0 tt)) v1 v2 v3 v4) := ⟨_, _, _, _, _, _, fr_eq F2 (mD_norm rfl rfl rfl rfl rfl rfl rfl rfl (by intro y e0 e1 e2 e3 e4 e5 e6 e7; rw [if_neg e3, if_neg e2, if_neg e1]; exact if_neg e0))⟩
  clear F2
  refine wpAny_For ?_
  k_extra "my steps iter"
  refine ListComp_G (cl := [(Str.ofString "operators", L' + 1 + 1)]) FD rfl (by decide) rfl (by decide) ?_ (by intro _; rfl)
  k_extra "my steps iter"
  have hrl : rs.length = n := by rw [hDA.length, List.length_map, List.length_range]
  refine' src_list (vs := rs) (J := fun i ys nw => ∃ ct, nw = ct ++ ((Cd, W.listOf #[] 0) :: (Od, W.listOf vs9.toArray 0) :: (L' + 1 + 1 + 1, oL) :: (L' + 1 + 1, oO) :: (L' + 1, o3) :: (Wd, W.listOf rs.toArray kk) :: tl) ∧ DatAll ct ys ((List.range i).map fun j => kdat (keyIx ix sz j)) ∧ (∀ p ∈ ct, Cd < p.1)) rfl (by rw [sizeLine_eq]; lia) FD N2 ⟨[], rfl, .nil, fun _ h => nomatch h⟩ ?hsrcA ?kkA
  case hsrcA =>
    rintro i2 ys nw ⟨ct, e2, _⟩
    subst e2
    exact .inr ⟨W.listOf rs.toArray kk, List.mem_append_right _ (.tail _ (.tail _ (.tail _ (.tail _ (.tail _ (.head _)))))), rfl, _, rfl⟩
  case kkA =>
    intro o St X
    (try k_unfold)
    refine ⟨_, _, _, _, _, _, _, rfl, X, ?_, ?_⟩
    · rintro i2 v ys nw hi2 hv ⟨ct, e2, hDC, oC⟩
      subst e2
      have hi3 : i2 < n := hrl ▸ hi2
      obtain ⟨v', hv', hd⟩ := hDA.get (k := i2) (by simpa using hi3)
      rw [hv] at hv'
      cases hv'
      rw [List.getElem_map, List.getElem_range] at hd
      obtain ⟨a9, t9, t8, t7, n9, rfl, hm9⟩ := wish_tup hd
      have hjx := hix i2 hi3
      have hm8 : (a9, ({ cls := .type "tuple", data := .seq (List.toArray [.str (OPS.getD (ix i2) (Str.ofString "")) t9, .int (sz i2 : Int) t8, .int (dr i2) t7]) n9 } : Obj)) ∈ ct ++ ((Cd, W.listOf #[] 0) :: (Od, W.listOf vs9.toArray 0) :: (L' + 1 + 1 + 1, oL) :: (L' + 1 + 1, oO) :: (L' + 1, o3) :: (Wd, W.listOf rs.toArray kk) :: tl) := List.mem_append_right _ (.tail _ (.tail _ (.tail _ (.tail _ (.tail _ (.tail _ hm9))))))
      refine ⟨_, Binds.name rfl rfl, ?_⟩
      clear X FD N2
      intro oI2 C oC2 D2 m₂ h tk E' hoC hloc F2 N2 off2 ne
      have hx2 := hloc _ (List.mem_singleton.mpr rfl)
      refine wpAny_tests_nil ?_
      simp only [if_true]
      dsimp only at hx2
      k_extra "my steps"
      rename Fr _ _ _ _ => F3
      rename News _ _ _ _ => N3
      rename _ ∧ _ ∧ _ ∧ AllLt _ _ => l3
      refine ⟨_, _, _, _, (_, _) :: _, rfl, F3, hoC, news_rot N3, ⟨⟨Nat.ne_of_gt l3.1, Nat.ne_of_gt l3.2.1, Nat.ne_of_gt l3.2.2.1⟩, off2⟩, (_, _) :: ct, rfl, ?_, ?_⟩
      · rw [List.range_succ, List.map_append]
        exact (hDC.mono (fun p hp => .tail _ hp)).append (.one (.tuple (.head _) (.cons (.int _ _) (.cons (.int _ _) (.cons (.str _ _) .nil)))))
      · intro p hp
        rcases List.mem_cons.mp hp with rfl | hp
        · exact allLt_all l3.2.2.2 (Cd, W.listOf #[] 0) (List.mem_append_right _ (.head _))
        · exact oC p hp
    · rintro D2 h tk ys nw F2 N2 o1' ⟨ct, e2, hDC, oC⟩
      subst e2
      rw [hrl] at hDC
      k_extra "my steps iter"
      have hys : ys.length = n := by rw [hDC.length, List.length_map, List.length_range]
      have hks : (List.map (fun j => kdat (keyIx ix sz j)) (List.range n)) = ((List.range n).map (keyIx ix sz)).map kdat := by rw [List.map_map]; rfl
      have hkl : ((List.range n).map (keyIx ix sz)).length = n := by rw [List.length_map, List.length_range]
      have hkg : ∀ i (hi : i < ((List.range n).map (keyIx ix sz)).length), ((List.range n).map (keyIx ix sz))[i] = keyIx ix sz i := by
        intro i hi; rw [List.getElem_map, List.getElem_range]
      have hne : ∀ i j, i < n → j < n → i = j ∨ ((ix i : Int) ≠ (ix j : Int)) := by
        intro i j hi hj
        by_cases e : i = j
        · exact .inl e
        · exact .inr fun h => e (hI i j hi hj (by lia))
      refine sorted_keys (vs := ys) (ks := (List.range n).map (keyIx ix sz)) F2 N2 (.head _) ((hks ▸ hDC).mono (fun p hp => .tail _ (List.mem_append_left _ hp))) (by rw [hkl]; exact hn3) (by rw [hkl]; exact hn6) (fun i => 100 * sz i + ix i) ?inj ?ne ?lt ?srt
      case inj =>
        intro i j hi hj e
        rw [hkl] at hi hj
        have := hix i hi
        have := hix j hj
        exact hI i j hi hj (by have e' : 100 * sz i + ix i = 100 * sz j + ix j := e; lia)
      case ne =>
        intro i j hi hj
        rw [hkg, hkg]
        exact hne i j (hkl ▸ hi) (hkl ▸ hj)
      case lt =>
        intro i j hi hj
        rw [hkg, hkg]
        have := hix i (hkl ▸ hi)
        have := hix j (hkl ▸ hj)
        show (((sz i : Int) < sz j ∨ (sz i : Int) = sz j ∧ (ix i : Int) < (ix j : Int)) ↔ 100 * sz i + ix i < 100 * sz j + ix j)
        lia
      case srt =>
        rw [hkl]
        intro p Dd ee h5 tk5 hrun hpl hpb hpn hpw F5 N5 lD
        have lD2 : D2 < Dd := lD (D2, lst ys) (.head _)
        have lCD : Cd < Dd := lD (Cd, W.listOf #[] 0) (.tail _ (List.mem_append_right _ (.head _)))
        clear F2 N2
        k_extra "my steps iter"
        rename Fr _ _ _ _ => F6
        rename News _ _ _ _ => N6
        have N6' : News g L' _ ((Cd, W.listOf #[] 0) :: (L' + 1 + 1 + 1, oL) :: ([] ++ (Dd, W.listOf (p.map fun i => ys.getD i Value.none).toArray ee) :: (D2, lst ys) :: (ct ++ (Od, W.listOf vs9.toArray 0) :: (L' + 1 + 1, oO) :: (L' + 1, o3) :: (Wd, W.listOf rs.toArray kk) :: tl))) := news_sub N6 due_sub
        have hD2 : D2 ≠ L' + 1 + 1 + 1 ∧ D2 ≠ Cd := ⟨fun e => absurd e.symm (off1_mem o1' (L' + 1 + 1 + 1, oL) (List.mem_append_right _ (.tail _ (.tail _ (.head _))))), fun e => absurd e.symm (off1_mem o1' (Cd, W.listOf #[] 0) (List.mem_append_right _ (.head _)))⟩
        have hr0 : ∀ q ∈ ((Dd, W.listOf (p.map fun i => ys.getD i Value.none).toArray ee) :: (D2, lst ys) :: (ct ++ (Od, W.listOf vs9.toArray 0) :: (L' + 1 + 1, oO) :: (L' + 1, o3) :: (Wd, W.listOf rs.toArray kk) :: tl)), q.1 ≠ L' + 1 + 1 + 1 ∧ q.1 ≠ Cd := by
          have l3C : L' + 1 + 1 + 1 < Cd := lC.2.1
          intro q hq
          rcases List.mem_cons.mp hq with rfl | hq
          · exact ⟨Nat.ne_of_gt (Nat.lt_trans l3C lCD), Nat.ne_of_gt lCD⟩
          rcases List.mem_cons.mp hq with rfl | hq
          · exact hD2
          rcases List.mem_append.mp hq with hq | hq
          · exact ⟨Nat.ne_of_gt (Nat.lt_trans l3C (oC q hq)), Nat.ne_of_gt (oC q hq)⟩
          rcases List.mem_cons.mp hq with rfl | hq
          · exact ⟨Nat.ne_of_gt lO.1, Nat.ne_of_lt lC.1⟩
          rcases List.mem_cons.mp hq with rfl | hq
          · exact ⟨Nat.ne_of_lt (Nat.lt_succ_self (L' + 1 + 1)), Nat.ne_of_lt lC.2.2.1⟩
          rcases List.mem_cons.mp hq with rfl | hq
          · exact ⟨Nat.ne_of_lt (Nat.lt_succ_of_lt (Nat.lt_succ_self (L' + 1))), Nat.ne_of_lt lC.2.2.2.1⟩
          rcases List.mem_cons.mp hq with rfl | hq
          · exact ⟨Nat.ne_of_lt (Nat.lt_succ_of_lt (Nat.lt_succ_of_lt (Nat.lt_succ_of_lt lT.1))), Nat.ne_of_lt lC.2.2.2.2.1⟩
          · exact ⟨t3 q hq, Nat.ne_of_lt (allLt_all lC.2.2.2.2.2 q hq)⟩
        refine for_list (vs := p.map fun i => ys.getD i Value.none) (RR := fun _ => _) rfl F6 N6' (fun i m nw => Sm13 fun taken tt v1 v2 v3 v4 cs kc cc c1 oL lastv tL => Al9 (m = mD Wd b td (some (.ref Cd)) (some (.int ((taken : Nat) : Int) tt)) v1 v2 v3 v4) (nw = (Cd, W.listOf (List.toArray cs) kc) :: (L' + 1 + 1 + 1, oL) :: (cc ++ (Dd, W.listOf (p.map fun i => ys.getD i Value.none).toArray ee) :: (D2, lst ys) :: (ct ++ (Od, W.listOf vs9.toArray 0) :: (L' + 1 + 1, oO) :: (L' + 1, o3) :: (Wd, W.listOf rs.toArray kk) :: tl))) (oL.data = .cell (some (.int ((lastv : Nat) : Int) tL))) (DatAll cc cs (codesDat p ix c1)) ((∀ q ∈ cc, Dd < q.1)) (c1.length = i) (c1 ++ dueP b.toNat ((p.map sz).drop i) taken = dueP b.toNat (p.map sz) 0) (takenP b.toNat ((p.map sz).drop i) taken = takenP b.toNat (p.map sz) 0) (lastv = ((p.map sz).take i).getLast?.getD 0)) ?j2 ?jl2 ?turn2 ?fin2 (fun _ _ z => z)
        case j2 => exact ⟨0, _, _, _, _, _, [], _, [], [], _, 0, _, rfl, rfl, dL, (by rw [show codesDat p ix [] = [] by simp [codesDat]]; exact .nil), (fun _ h => nomatch h), rfl, rfl, rfl, rfl⟩
        case jl2 =>
          rintro i m nw ⟨taken, tt, v1, v2, v3, v4, cs, kc, cc, c1, oL, lastv, tL, rfl, rfl, _⟩
          exact .inr ⟨_, .tail _ (.tail _ (List.mem_append_right _ (.head _))), rfl, _, rfl⟩
        case turn2 =>
          clear F6 N6 N6' dL
          rintro I i v m' nw oI h tk' hi hv ⟨taken, tt, v1, v2, v3, v4, cs, kc, cc, c1, oL, lastv, tL, rfl, rfl, dL, hDK, oK, hc1, hdu, htk, hla⟩ F2 N2 off lI s' rfl
          rw [List.length_map, hpl] at hi
          obtain ⟨pj, hpj⟩ : ∃ j, p[i]? = some j := ⟨_, List.getElem?_eq_getElem (by lia)⟩
          have hpn' : pj < n := hpb _ (List.mem_of_getElem? hpj)
          obtain ⟨v', hv', hd⟩ := hDC.get (k := pj) (by simpa using hpn')
          rw [List.getElem?_map, hpj] at hv
          have hv2 : v = v' := by
            have e9 : ys.getD pj Value.none = v := Option.some.inj hv
            rw [← e9, List.getD_eq_getElem?_getD, hv']; rfl
          subst hv2
          rw [List.getElem_map, List.getElem_range] at hd
          obtain ⟨a9, t91, t92, t93, n9, rfl, hm9⟩ := kdat_tup hd
          obtain ⟨hs1, hs2⟩ := hsz pj hpn'
          have hs3 : (1 : Int) ≤ (sz pj : Int) := by lia
          have hs4 : (sz pj : Int) ≤ 6 - b := by lia
          have hs5 : (sz pj : Int) ≤ 4 := by lia
          have hm8 : (a9, ({ cls := .type "tuple", data := .seq (List.toArray [.int (sz pj : Int) t91, .int (ix pj : Int) t92, .str (OPS.getD (ix pj) (Str.ofString "")) t93]) n9 } : Obj)) ∈ ct := hm9
          have hA3 : ∀ q ∈ (cc ++ (Dd, W.listOf (p.map fun i => ys.getD i Value.none).toArray ee) :: (D2, lst ys) :: (ct ++ (Od, W.listOf vs9.toArray 0) :: (L' + 1 + 1, oO) :: (L' + 1, o3) :: (Wd, W.listOf rs.toArray kk) :: tl)), q.1 ≠ L' + 1 + 1 + 1 := all_app (fun q hq => Nat.ne_of_gt (Nat.lt_trans lC.2.1 (Nat.lt_trans lCD (oK q hq)))) (fun q hq => (hr0 q hq).1)
          have hAC : ∀ q ∈ (L' + 1 + 1 + 1, oL) :: (cc ++ (Dd, W.listOf (p.map fun i => ys.getD i Value.none).toArray ee) :: (D2, lst ys) :: (ct ++ (Od, W.listOf vs9.toArray 0) :: (L' + 1 + 1, oO) :: (L' + 1, o3) :: (Wd, W.listOf rs.toArray kk) :: tl)), q.1 ≠ Cd := by
            intro q hq
            rcases List.mem_cons.mp hq with rfl | hq
            · exact Nat.ne_of_lt lC.2.1
            · exact all_app (fun q hq => Nat.ne_of_gt (Nat.lt_trans lCD (oK q hq))) (fun q hq => (hr0 q hq).2) q hq
          have lDI : Dd < I := lI (Dd, W.listOf (p.map fun i => ys.getD i Value.none).toArray ee) (.tail _ (.tail _ (.head _)))
          have lCI : Cd < I := Nat.lt_trans lCD lDI
          have nCI := ltN lCI
          have n3I := ltN (Nat.lt_trans lC.2.1 lCI)
          have hcl : cs.length = i := by rw [hDK.length, codesDat, List.length_map, List.length_zip, hc1, hpl]; lia
          obtain ⟨u1, u2, u3⟩ := due_num hb taken (sz pj) hs2
          have hdrop : (p.map sz).drop i = sz pj :: (p.map sz).drop (i + 1) := by
            have hl' : i < (p.map sz).length := by rw [List.length_map]; lia
            rw [List.drop_eq_getElem_cons hl', List.getElem_map]
            congr 2
            have := List.getElem?_eq_getElem (l := p) (i := i) (by lia)
            rw [this] at hpj
            exact Option.some.inj hpj
          have htk2 : (p.map sz).take (i + 1) = (p.map sz).take i ++ [sz pj] := take_snoc (by rw [List.getElem?_map, hpj]; rfl)
          rw [hdrop] at hdu htk
          refine unpackN_ F2 N2 ⟨_, (N2 _ (.tail _ (.tail _ (.tail _ (List.mem_append_right _ (.tail _ (.tail _ (List.mem_append_left _ hm8)))))))).1, rfl, _, rfl⟩ rfl rfl rfl ?_
          intro h6 F6 N6
          clear F2 N2
          refine hideF ?_
          intro QA hQA
          k_extra "my steps for"
          refine hQA _ _ ?_
          refine hideF ?_
          intro QG hQG
          k_extra "my steps for"
          · rename (taken : Int) < _ => hlt
            rename Fr _ _ _ _ => F7
            rename News _ _ _ _ => N7
            rename _ ∧ _ ∧ _ ∧ AllLt _ _ => l3
            have ec : nodeN ((taken : Int).fdiv (b ^ (6 - b - (sz pj : Int)).toNat)) (sz pj : Int) b ((sz pj : Int)).toNat = (codeP b.toNat taken (sz pj) : Int) := by rw [u2, codeP, if_pos (u1.mp hlt)]
            rw [ec] at N7
            have d3 := allLt_all l3.2.2.2 (Dd, W.listOf (p.map fun i => ys.getD i Value.none).toArray ee) (List.mem_append_right _ (.head _))
            have FB := F7
            have NB := N7
            clear F7 N7
            rename Obj.data _ = _ => dL9
            simp only [List.push_toArray] at NB
            obtain ⟨t8, v1', v2', v3', FC⟩ : Sm4 fun t8 v1 v2 v3 => Fr g L' _ (mD Wd b td (some (.ref Cd)) (some (.int ((taken + b.toNat ^ (6 - b.toNat - sz pj) : Nat) : Int) t8)) v1 v2 v3 v4) := ⟨_, _, _, _, by rw [← u3]; exact fr_eq FB (mD_norm rfl rfl rfl rfl rfl rfl rfl rfl (by intro y e0 e1 e2 e3 e4 e5 e6 e7; simp [mD, e0, e1, e2, e3, e4, e5, e6, e7]))⟩
            refine hQG _ _ ?_
            (try dsimp only)
            refine ForGo.of FC (news_sub (l' := (I, oI) :: (Cd, _) :: (L' + 1 + 1 + 1, _) :: ((_, _) :: cc ++ (Dd, W.listOf (p.map fun i => ys.getD i Value.none).toArray ee) :: (D2, lst ys) :: (ct ++ (Od, W.listOf vs9.toArray 0) :: (L' + 1 + 1, oO) :: (L' + 1, o3) :: (Wd, W.listOf rs.toArray kk) :: tl))) NB rot_due) (fun z hz => ?_) ⟨_, _, _, _, _, _, cs ++ [Value.ref _], _, _, c1 ++ [codeP b.toNat taken (sz pj)], _, sz pj, _, rfl, rfl, dL9, ?_, ?_, ?_, ?_, ?_, ?_⟩
            · rcases List.mem_cons.mp hz with rfl | hz
              · exact Nat.ne_of_lt lCI
              rcases List.mem_cons.mp hz with rfl | hz
              · exact Nat.ne_of_lt (Nat.lt_trans lC.2.1 lCI)
              rcases List.mem_cons.mp hz with rfl | hz
              · exact Nat.ne_of_gt l3.1
              · exact off z (.tail _ (.tail _ hz))
            · rw [codes_snoc hpj hc1]
              exact (hDK.mono (fun p hp => .tail _ hp)).append (.one (.tuple (.head _) (.cons (.str _ _) (.cons (.int _ _) .nil))))
            · intro z hz
              rcases List.mem_cons.mp hz with rfl | hz
              · exact d3
              · exact oK z hz
            · rw [List.length_append, hc1]; rfl
            · rw [← hdu, List.append_assoc]; rfl
            · exact htk
            · rw [htk2]; simp
          · rename ¬ ((taken : Int) < _) => hlt
            rename Fr _ _ _ _ => F7
            rename News _ _ _ _ => N7
            rename _ ∧ _ ∧ _ ∧ AllLt _ _ => l3
            have ec : (0 : Int) = (codeP b.toNat taken (sz pj) : Int) := by rw [codeP, if_neg (fun h => hlt (u1.mpr h))]; rfl
            rw [ec] at N7
            have d3 := allLt_all l3.2.2.2 (Dd, W.listOf (p.map fun i => ys.getD i Value.none).toArray ee) (List.mem_append_right _ (.head _))
            have FB := F7
            have NB := N7
            clear F7 N7
            rename Obj.data _ = _ => dL9
            simp only [List.push_toArray] at NB
            obtain ⟨t8, v1', v2', v3', FC⟩ : Sm4 fun t8 v1 v2 v3 => Fr g L' _ (mD Wd b td (some (.ref Cd)) (some (.int ((taken + b.toNat ^ (6 - b.toNat - sz pj) : Nat) : Int) t8)) v1 v2 v3 v4) := ⟨_, _, _, _, by rw [← u3]; exact fr_eq FB (mD_norm rfl rfl rfl rfl rfl rfl rfl rfl (by intro y e0 e1 e2 e3 e4 e5 e6 e7; simp [mD, e0, e1, e2, e3, e4, e5, e6, e7]))⟩
            refine hQG _ _ ?_
            (try dsimp only)
            refine ForGo.of FC (news_sub (l' := (I, oI) :: (Cd, _) :: (L' + 1 + 1 + 1, _) :: ((_, _) :: cc ++ (Dd, W.listOf (p.map fun i => ys.getD i Value.none).toArray ee) :: (D2, lst ys) :: (ct ++ (Od, W.listOf vs9.toArray 0) :: (L' + 1 + 1, oO) :: (L' + 1, o3) :: (Wd, W.listOf rs.toArray kk) :: tl))) NB rot_due) (fun z hz => ?_) ⟨_, _, _, _, _, _, cs ++ [Value.ref _], _, _, c1 ++ [codeP b.toNat taken (sz pj)], _, sz pj, _, rfl, rfl, dL9, ?_, ?_, ?_, ?_, ?_, ?_⟩
            · rcases List.mem_cons.mp hz with rfl | hz
              · exact Nat.ne_of_lt lCI
              rcases List.mem_cons.mp hz with rfl | hz
              · exact Nat.ne_of_lt (Nat.lt_trans lC.2.1 lCI)
              rcases List.mem_cons.mp hz with rfl | hz
              · exact Nat.ne_of_gt l3.1
              · exact off z (.tail _ (.tail _ hz))
            · rw [codes_snoc hpj hc1]
              exact (hDK.mono (fun p hp => .tail _ hp)).append (.one (.tuple (.head _) (.cons (.str _ _) (.cons (.int _ _) .nil))))
            · intro z hz
              rcases List.mem_cons.mp hz with rfl | hz
              · exact d3
              · exact oK z hz
            · rw [List.length_append, hc1]; rfl
            · rw [← hdu, List.append_assoc]; rfl
            · exact htk
            · rw [htk2]; simp
        case fin2 =>
          clear F6 N6 N6' dL
          rintro I m' nw h tk' F2 N2 ⟨taken, tt, v1, v2, v3, v4, cs, kc, cc, c1, oL, lastv, tL, rfl, rfl, dL, hDK, oK, hc1, hdu, htk, hla⟩ lI
          rw [List.length_map, hpl] at hc1 hdu htk hla
          have hml : (p.map sz).length = n := by rw [List.length_map, hpl]
          rw [List.drop_eq_nil_of_le (Nat.le_of_eq hml)] at hdu htk
          rw [show dueP b.toNat [] taken = [] from rfl, List.append_nil] at hdu
          have htk' : taken = takenP b.toNat (p.map sz) 0 := htk
          rw [List.take_of_length_le (Nat.le_of_eq hml)] at hla
          have hlv : 1 ≤ lastv ∧ lastv ≤ 6 - b.toNat := by
            have hne : p.map sz ≠ [] := by intro e; rw [e] at hml; simp at hml; lia
            rw [List.getLast?_eq_some_getLast hne] at hla
            have hm := List.getLast_mem hne
            rw [hla]
            obtain ⟨j, hj, e⟩ := List.mem_map.mp hm
            rw [Option.getD_some, ← e]
            exact hsz j (hpb j hj)
          obtain ⟨hl1, hl2⟩ := hlv
          have hl3 : (1 : Int) ≤ (lastv : Int) := by lia
          have hl4 : (lastv : Int) ≤ 6 - b := by lia
          have hl5 : (lastv : Int) ≤ 4 := by lia
          dsimp only
          k_extra "my steps asg"
          refine Assign_ListComp_G (cl := [(Str.ofString "last", L' + 1 + 1 + 1), (Str.ofString "base", L' + 1)]) F2 rfl (by with_unfolding_all rfl) rfl (by decide) rfl (by decide) rfl rfl ?_ (by intro _; rfl)
          k_extra "my steps iter"
          rename IsRange _ _ _ _ _ _ _ _ => hR
          rename Fr _ _ _ _ => F3
          rename News _ _ _ _ => N3
          obtain ⟨r1, r2⟩ := due_rng hb taken lastv hl2
          rw [r1, r2] at hR
          have htb : taken ≤ 27 * n := by
            rw [htk', ← hml]
            have := takenP_le hb (p.map sz) 0
            lia
          have hA0 : taken / b.toNat ^ (6 - b.toNat - lastv) ≤ taken := Nat.div_le_self _ _
          have hB0 : b.toNat ^ lastv ≤ 81 := by
            refine Nat.le_trans (Nat.pow_le_pow_left (m := 3) (by lia) lastv) ?_
            exact Nat.le_trans (Nat.pow_le_pow_right (by decide) (by lia) : 3 ^ lastv ≤ 3 ^ 4) (by decide)
          generalize hA : taken / b.toNat ^ (6 - b.toNat - lastv) = A0 at *
          generalize hB9 : b.toNat ^ lastv = B0 at *
          refine' src_range (n := B0 - A0) (J := fun i zs nw => nw = (Cd, W.listOf cs.toArray kc) :: (L' + 1 + 1 + 1, oL) :: (cc ++ (Dd, W.listOf (p.map fun i => ys.getD i Value.none).toArray ee) :: (D2, lst ys) :: (ct ++ (Od, W.listOf vs9.toArray 0) :: (L' + 1 + 1, oO) :: (L' + 1, o3) :: (Wd, W.listOf rs.toArray kk) :: tl)) ∧ DatAll ([] : Led) zs ((List.range' A0 i).map fun v => Dat.int (nodeP b.toNat v lastv : Int))) rfl F3 N3 ⟨rfl, .nil⟩ hR (small_one (by lia) (by lia) (by lia) (by lia)) (by rw [rangeSize_nat]; lia) (by rw [sizeLine_eq]; lia) ?kkB
          case kkB =>
            intro o X
            (try k_unfold)
            refine ⟨_, _, _, _, _, _, _, rfl, X, ?_, ?_⟩
            · rintro i2 v zs nw hi2 ⟨t9, rfl⟩ ⟨e2, hDZ⟩
              subst e2
              clear X F3 N3
              refine ⟨_, Binds.name rfl rfl, ?_⟩
              intro oI2 C oC2 D3 m₂ h tk E' hoC hloc F2 N2 off2 ne
              have hx2 := hloc _ (List.mem_singleton.mpr rfl)
              refine wpAny_tests_nil ?_
              simp only [if_true]
              dsimp only at hx2
              k_extra "my steps"
              rename Fr _ _ _ _ => F3
              rename News _ _ _ _ => N3
              refine ⟨_, _, _, _, _, rfl, F3, hoC, N3, off2, rfl, ?_⟩
              rw [List.range'_concat, List.map_append]
              refine hDZ.append (.one ?_)
              rw [← Int.natCast_add, node_Pb hb]
              simp only [Nat.one_mul]
              exact .int _ _
            · rintro D3 h tk zs nw F2 N2 o2' ⟨e2, hDZ⟩
              subst e2
              clear F3 N3 X
              k_extra "my steps for"
              rename Fr _ _ _ _ => F7
              rename News _ _ _ _ => N7
              refine leaveK_ F7 N7 ?_
              intro kF kN
              obtain ⟨k9, n9⟩ := does_end F7 N7 G9
              refine hret _ _ _ _ k9 kF kN n9 ⟨_, Cd, D3, cs, kc, zs, _, _, _, p, rfl, rfl, ?_, ?_, ?_, hrun, hpl, hpb, hpn⟩
              · rw [← hdu]
                exact hDK.mono (fun p hp => .tail _ (List.mem_append_left _ hp))
              · have e : leftP b.toNat (p.map sz) = (List.range' A0 (B0 - A0)).map fun v => nodeP b.toNat v lastv := by
                  unfold leftP
                  rw [← hla, ← htk', hA, hB9]
                rw [e, List.map_map]
                exact hDZ
              · exact fun q hq => .tail _ (List.mem_append_right _ (.tail _ (.tail _ (List.mem_append_right _ (.tail _ (.tail _ (.tail _ hq)))))))
end
section
open PySem PySem.W PySem.Spec PySem.Calls PyProof.Rows PyProof.Rows.LCg
noncomputable def sOf (l : List Nat) : Str := ⟨l.toArray⟩
theorem sOf_app (a b : List Nat) : sOf a ++ sOf b = sOf (a ++ b) := by
  apply Str.ext'; rw [Str.cps_append]; simp [sOf]
theorem sOf_self (x : Str) : sOf x.cps.toList = x := by apply Str.ext'; simp [sOf]
theorem sOf_nil : Str.ofString "" = sOf [] := empty_cps
theorem str_quo : Str.ofString "\"" = sOf [34] := by decide +kernel
theorem str_bs : Str.ofString "\\" = sOf [92] := by decide +kernel
theorem sOf_inj {a b : List Nat} (h : sOf a = sOf b) : a = b := by
  have := congrArg (fun s : Str => s.cps.toList) h
  simpa [sOf] using this
theorem read_cons {x : Str} {i c : Nat} {l : List Nat} (h : x.cps.toList.drop i = c :: l) : readS x (i : Nat) = sOf [c] ∧ x.cps.toList.drop (i + 1) = l := by
  refine ⟨by rw [readS_eq, h]; rfl, ?_⟩
  rw [← List.drop_drop, h]; rfl
theorem sOf_ne {c : Nat} : sOf [c] ≠ Str.ofString "" := by
  rw [sOf_nil]; intro h; exact absurd (sOf_inj h) (by simp)
noncomputable def wsC (c : Nat) : Bool := c == 32 || c == 10 || c == 9 || c == 13
theorem ws_fin : ∀ c : Fin 127, wsB (sOf [c.val]) = wsC c.val := by decide +kernel
theorem wsB_eq {c : Nat} (h : c < 127) : wsB (sOf [c]) = wsC c := ws_fin ⟨c, h⟩
noncomputable def goodC (c : Nat) : Prop := c < 127 ∧ wsC c = false ∧ c ≠ 34 ∧ c ≠ 92
theorem sOf_beq {a b : Nat} : (sOf [a] == sOf [b]) = (a == b) := by
  by_cases h : a = b
  · subst h; simp
  · rw [beq_eq_false_iff_ne.mpr h, beq_eq_false_iff_ne]
    intro e; exact h (by simpa using sOf_inj e)
/-- bare -/
theorem lexP_bare (x : Str) : ∀ (l : List Nat) (f i : Nat) (t : List Nat) (c : Nat) (r : List Nat), x.cps.toList.drop i = l ++ c :: r → (∀ a ∈ l, goodC a) → c < 127 → wsC c = true → l.length + 1 ≤ f →
    lexP x f i (sOf t) = (sOf (t ++ l), i + l.length + 1)
  | [], f, i, t, c, r, h, _, hc, hw, hf => by
    obtain ⟨f, rfl⟩ : ∃ f', f = f' + 1 := ⟨f - 1, by simp at hf; lia⟩
    obtain ⟨e1, e2⟩ := read_cons h
    rw [lexP, e1, if_neg sOf_ne, if_pos (by rw [wsB_eq hc]; exact hw), List.append_nil]; rfl
  | a :: l, f, i, t, c, r, h, hg, hc, hw, hf => by
    obtain ⟨f, rfl⟩ : ∃ f', f = f' + 1 := ⟨f - 1, by simp at hf; lia⟩
    obtain ⟨e1, e2⟩ := read_cons h
    obtain ⟨g1, g2, g3, g4⟩ := hg a (.head _)
    rw [lexP, e1, if_neg sOf_ne, if_neg (by rw [wsB_eq g1, g2]; decide), if_neg (by rw [str_bs, sOf_beq]; simpa using g4), sOf_app]
    rw [lexP_bare x l f (i + 1) (t ++ [a]) c r e2 (fun b hb => hg b (.tail _ hb)) hc hw (by simp at hf; lia)]
    simp; lia
theorem lexP_esc (x : Str) : ∀ (l : List Nat) (f i : Nat) (t : List Nat) (c : Nat) (r : List Nat), x.cps.toList.drop i = (l.flatMap fun c => [92, c]) ++ c :: r → c < 127 → wsC c = true → l.length + 1 ≤ f →
    lexP x f i (sOf t) = (sOf (t ++ l), i + 2 * l.length + 1)
  | [], f, i, t, c, r, h, hc, hw, hf => by
    obtain ⟨f, rfl⟩ : ∃ f', f = f' + 1 := ⟨f - 1, by simp at hf; lia⟩
    obtain ⟨e1, e2⟩ := read_cons h
    rw [lexP, e1, if_neg sOf_ne, if_pos (by rw [wsB_eq hc]; exact hw), List.append_nil]; rfl
  | a :: l, f, i, t, c, r, h, hc, hw, hf => by
    obtain ⟨f, rfl⟩ : ∃ f', f = f' + 1 := ⟨f - 1, by simp at hf; lia⟩
    rw [List.flatMap_cons] at h
    obtain ⟨e1, e2⟩ := read_cons h
    obtain ⟨e3, e4⟩ := read_cons e2
    rw [lexP, e1, if_neg sOf_ne, if_neg (by rw [wsB_eq (by decide)]; decide), if_pos (by rw [str_bs]; simp), e3, sOf_app]
    rw [lexP_esc x l f (i + 2) (t ++ [a]) c r e4 hc hw (by simp at hf; lia)]
    simp; lia
theorem lexQ_quo (x : Str) : ∀ (l : List Nat) (f i : Nat) (t : List Nat) (r : List Nat), x.cps.toList.drop i = l ++ 34 :: r → (∀ a ∈ l, goodC a) → l.length + 1 ≤ f →
    lexQ x f i (sOf t) = (sOf (t ++ l), i + l.length + 1)
  | [], f, i, t, r, h, _, hf => by
    obtain ⟨f, rfl⟩ : ∃ f', f = f' + 1 := ⟨f - 1, by simp at hf; lia⟩
    obtain ⟨e1, e2⟩ := read_cons h
    rw [lexQ, e1, if_neg sOf_ne, if_pos (by rw [str_quo]; simp), List.append_nil]; rfl
  | a :: l, f, i, t, r, h, hg, hf => by
    obtain ⟨f, rfl⟩ : ∃ f', f = f' + 1 := ⟨f - 1, by simp at hf; lia⟩
    obtain ⟨e1, e2⟩ := read_cons h
    obtain ⟨g1, g2, g3, g4⟩ := hg a (.head _)
    rw [lexQ, e1, if_neg sOf_ne, if_neg (by rw [str_quo, sOf_beq]; simpa using g3), if_neg (by rw [str_bs, sOf_beq]; simpa using g4), sOf_app]
    rw [lexQ_quo x l f (i + 1) (t ++ [a]) r e2 (fun b hb => hg b (.tail _ hb)) (by simp at hf; lia)]
    simp; lia
/-- the sign behind a written word -/
noncomputable def wsN (n : Int) : Nat := [32, 10, 9, 13].getD ((n.fdiv 3).fmod 4).toNat 0
theorem wsS_eq (n : Int) : wsS n = sOf [wsN n] := by
  unfold wsS wsN
  have h0 := fmod_lo (n.fdiv 3) (n := 4) (by decide)
  have h1 := fmod_hi (n.fdiv 3) (n := 4) (by decide)
  generalize (n.fdiv 3).fmod 4 = k at *
  have : k = 0 ∨ k = 1 ∨ k = 2 ∨ k = 3 := by lia
  rcases this with rfl | rfl | rfl | rfl <;> decide +kernel
theorem wsN_ok (n : Int) : wsN n < 127 ∧ wsC (wsN n) = true := by
  unfold wsN
  have h0 := fmod_lo (n.fdiv 3) (n := 4) (by decide)
  have h1 := fmod_hi (n.fdiv 3) (n := 4) (by decide)
  generalize (n.fdiv 3).fmod 4 = k at *
  have : k = 0 ∨ k = 1 ∨ k = 2 ∨ k = 3 := by lia
  rcases this with rfl | rfl | rfl | rfl <;> decide
/-- the codes of a written word -/
noncomputable def wrN (l : List Nat) (n : Int) : List Nat := (if n.fmod 3 = 2 then 34 :: (l ++ [34]) else if n.fmod 3 = 1 then l.flatMap fun c => [92, c] else l) ++ [wsN n]
theorem written_eq (u : Str) (n : Int) : writtenS u n = sOf (wrN u.cps.toList n) := by
  unfold writtenS wrN
  rw [wsS_eq, ← sOf_app]
  congr 1
  split
  · rw [str_quo]
    conv => lhs; rw [← sOf_self u]
    rw [sOf_app, sOf_app]; rfl
  · split
    · rfl
    · exact (sOf_self u).symm
/-- a text from here on: at most one blank ahead, then written words -/
noncomputable def AtW (x : Str) (i : Nat) (ps : List (List Nat × Int)) : Prop := ∃ pre, (pre = [] ∨ ∃ c, pre = [c] ∧ c < 127 ∧ wsC c = true) ∧ x.cps.toList.drop i = pre ++ ps.flatMap fun p => wrN p.1 p.2
theorem esc_len : ∀ l : List Nat, (l.flatMap fun c => [92, c]).length = 2 * l.length
  | [] => rfl
  | c :: l => by rw [List.flatMap_cons, List.length_append, esc_len l, List.length_cons]; simp; lia
theorem lex_word {x : Str} {f i : Nat} {u : List Nat} {n : Int} {ps : List (List Nat × Int)} (hu : u ≠ []) (hg : ∀ a ∈ u, goodC a) (h : x.cps.toList.drop i = wrN u n ++ ps.flatMap fun p => wrN p.1 p.2) (hf : 2 * u.length + 3 ≤ f) :
    ∃ j, lexF x f i = (sOf u, j) ∧ AtW x j ps ∧ i < j ∧ j ≤ i + (wrN u n).length := by
  obtain ⟨f, rfl⟩ : ∃ f', f = f' + 1 := ⟨f - 1, by lia⟩
  obtain ⟨hc, hw⟩ := wsN_ok n
  have dropL : ∀ (a b : List Nat), x.cps.toList.drop i = a ++ b → x.cps.toList.drop (i + a.length) = b := by
    intro a b e
    rw [← List.drop_drop, e, List.drop_left]
  generalize hR : (ps.flatMap fun p => wrN p.1 p.2) = R at h
  unfold wrN at h
  by_cases h2 : n.fmod 3 = 2
  · rw [if_pos h2] at h
    have h' : x.cps.toList.drop i = 34 :: (u ++ 34 :: ([wsN n] ++ R)) := by rw [h]; simp
    obtain ⟨e1, e2⟩ := read_cons h'
    refine ⟨i + 1 + u.length + 1, ?_, ⟨[wsN n], .inr ⟨_, rfl, hc, hw⟩, ?_⟩, by lia, by unfold wrN; rw [if_pos h2]; simp; lia⟩
    · rw [lexF, e1, if_neg sOf_ne, if_neg (by rw [wsB_eq (by decide)]; decide), if_pos (by rw [str_quo]; simp), sOf_nil, lexQ_quo x u f (i + 1) [] _ e2 hg (by lia)]
      rfl
    · show x.cps.toList.drop _ = _ ++ (ps.flatMap fun p => wrN p.1 p.2)
      rw [hR]
      have := dropL (34 :: (u ++ [34])) ([wsN n] ++ R) (by rw [h']; simp)
      rw [show i + 1 + u.length + 1 = i + (34 :: (u ++ [34])).length by simp; lia]
      exact this
  · rw [if_neg h2] at h
    by_cases h1 : n.fmod 3 = 1
    · rw [if_pos h1] at h
      match u, hu with
      | a :: u, _ =>
        have h' : x.cps.toList.drop i = 92 :: a :: ((u.flatMap fun c => [92, c]) ++ wsN n :: R) := by rw [h]; simp
        obtain ⟨e1, e2⟩ := read_cons h'
        obtain ⟨e3, e4⟩ := read_cons e2
        refine ⟨i + 2 + 2 * u.length + 1, ?_, ⟨[], .inl rfl, ?_⟩, by lia, by
          unfold wrN; rw [if_neg h2, if_pos h1, List.length_append]
          have : ((a :: u).flatMap fun c => [92, c]).length = 2 * (u.length + 1) := by
            rw [esc_len]; rfl
          rw [this]; simp; lia⟩
        · rw [lexF, e1, if_neg sOf_ne, if_neg (by rw [wsB_eq (by decide)]; decide), if_neg (by rw [str_quo, sOf_beq]; decide), if_pos (by rw [str_bs]; simp), e3, sOf_nil, sOf_app, lexP_esc x u f (i + 2) _ _ _ e4 hc hw (by simp at hf; lia)]
          rfl
        · show x.cps.toList.drop _ = _ ++ (ps.flatMap fun p => wrN p.1 p.2)
          rw [hR]
          have := dropL (92 :: a :: ((u.flatMap fun c => [92, c]) ++ [wsN n])) (R) (by rw [h']; simp)
          rw [show i + 2 + 2 * u.length + 1 = i + (92 :: a :: ((u.flatMap fun c => [92, c]) ++ [wsN n])).length by
            rw [List.length_cons, List.length_cons, List.length_append, esc_len]; simp; lia]
          exact this
    · rw [if_neg h1] at h
      match u, hu with
      | a :: u, _ =>
        have h' : x.cps.toList.drop i = a :: (u ++ wsN n :: R) := by rw [h]; simp
        obtain ⟨e1, e2⟩ := read_cons h'
        obtain ⟨g1, g2, g3, g4⟩ := hg a (.head _)
        refine ⟨i + 1 + u.length + 1, ?_, ⟨[], .inl rfl, ?_⟩, by lia, by unfold wrN; rw [if_neg h2, if_neg h1]; simp; lia⟩
        · rw [lexF, e1, if_neg sOf_ne, if_neg (by rw [wsB_eq g1, g2]; decide), if_neg (by rw [str_quo, sOf_beq]; simpa using g3), if_neg (by rw [str_bs, sOf_beq]; simpa using g4), sOf_nil, sOf_app, lexP_bare x u f (i + 1) _ _ _ e2 (fun b hb => hg b (.tail _ hb)) hc hw (by simp at hf; lia)]
          rfl
        · show x.cps.toList.drop _ = _ ++ (ps.flatMap fun p => wrN p.1 p.2)
          rw [hR]
          have := dropL (a :: u ++ [wsN n]) (R) (by rw [h']; simp)
          rw [show i + 1 + u.length + 1 = i + (a :: u ++ [wsN n]).length by simp; lia]
          exact this
theorem drop_len {x : Str} {i : Nat} {l : List Nat} (h : x.cps.toList.drop i = l) (hl : l ≠ []) : i + l.length = x.length := by
  have e := congrArg List.length h
  rw [List.length_drop, Array.length_toList] at e
  have : x.length = x.cps.size := rfl
  have : l.length ≠ 0 := fun e => hl (List.length_eq_zero_iff.mp e)
  lia
theorem lex_step {x : Str} {f i : Nat} {u : List Nat} {n : Int} {ps : List (List Nat × Int)} (hu : u ≠ []) (hg : ∀ a ∈ u, goodC a) (h : AtW x i ((u, n) :: ps)) (hf : 2 * u.length + 4 ≤ f) :
    ∃ j, lexF x f i = (sOf u, j) ∧ AtW x j ps ∧ j ≤ x.length := by
  obtain ⟨pre, hp, h⟩ := h
  rw [List.flatMap_cons] at h
  dsimp only at h
  have hne : wrN u n ≠ [] := by unfold wrN; simp
  rcases hp with rfl | ⟨c, rfl, hc, hw⟩
  · obtain ⟨j, e, a, _, hj⟩ := lex_word (f := f) hu hg h (by lia)
    have := drop_len h (by simp [hne])
    exact ⟨j, e, a, by simp at this; lia⟩
  · obtain ⟨f, rfl⟩ : ∃ f', f = f' + 1 := ⟨f - 1, by lia⟩
    obtain ⟨e1, e2⟩ := read_cons h
    obtain ⟨j, e, a, _, hj⟩ := lex_word (f := f) hu hg e2 (by lia)
    have := drop_len e2 (by simp [hne])
    refine ⟨j, ?_, a, by simp at this; lia⟩
    rw [lexF, e1, if_neg sOf_ne, if_pos (by rw [wsB_eq hc]; exact hw)]
    exact e
theorem lex_end {x : Str} {i : Nat} (h : AtW x i []) (hi : i ≤ x.length) (hx : 0 < x.length) : lexF x x.length i = (Str.ofString "", x.length + 1) := by
  obtain ⟨pre, hp, h⟩ := h
  rw [List.flatMap_nil, List.append_nil] at h
  rcases hp with rfl | ⟨c, rfl, hc, hw⟩
  · have e := List.drop_eq_nil_iff.mp h
    rw [Array.length_toList] at e
    have e2 : x.length = x.cps.size := rfl
    obtain rfl : i = x.length := by lia
    exact lexF_end (read_end (Nat.le_refl _))
  · have e := drop_len h (by simp)
    obtain ⟨f, hf⟩ : ∃ f', x.length = f' + 1 := ⟨x.length - 1, by lia⟩
    obtain ⟨e1, e2⟩ := read_cons h
    rw [hf, lexF, e1, if_neg sOf_ne, if_pos (by rw [wsB_eq hc]; exact hw)]
    have e3 : i + 1 = x.length := by simpa using e
    rw [e3, lexF_end (read_end (Nat.le_refl _)), hf]
theorem at_le {x : Str} {i : Nat} {ps : List (List Nat × Int)} (h : AtW x i ps) (hp : ps ≠ []) (hl : ∀ p ∈ ps, wrN p.1 p.2 ≠ []) : i ≤ x.length := by
  obtain ⟨pre, _, h⟩ := h
  match ps, hp with
  | p :: ps, _ =>
    have : pre ++ ((p :: ps).flatMap fun p => wrN p.1 p.2) ≠ [] := by
      intro e
      rw [List.append_eq_nil_iff, List.flatMap_cons, List.append_eq_nil_iff] at e
      exact hl p (.head _) e.2.1
    have := drop_len h this
    lia
end
section
open PySem PySem.W PySem.Spec PySem.Calls PyProof.Rows PyProof.Rows.LCg
noncomputable def opN (j : Nat) : List Nat := (OPS.getD j (Str.ofString "")).cps.toList
theorem ops_good : ∀ j : Fin 48, opN j.val ≠ [] ∧ (opN j.val).length ≤ 3 ∧ ∀ a ∈ opN j.val, goodC a := by unfold goodC; decide +kernel
theorem apN_small {s : Nat} (h1 : 1 ≤ s) (h4 : s ≤ 4) : apN s = [65 + s] := by
  rw [apN_eq s (by lia), show s / 16 = 0 by lia, apN_zero, show s % 16 = s by lia]; rfl
/-- what the text is made of -/
noncomputable def piece (ix sz : Nat → Nat) (dr : Nat → Int) (k : Nat) : Str := writtenS (OPS.getD (ix k) (Str.ofString "")) ((dr k).fdiv 8) ++ writtenS (wordOf (sz k)) ((dr k).fdiv 5)
noncomputable def pairN (ix sz : Nat → Nat) (dr : Nat → Int) (k : Nat) : List (List Nat × Int) := [(opN (ix k), (dr k).fdiv 8), (apN (sz k), (dr k).fdiv 5)]
noncomputable def textS (ix sz : Nat → Nat) (dr : Nat → Int) (n : Nat) : Str := Txt.join (Str.ofString "") ((List.range n).map (piece ix sz dr))
theorem piece_eq (ix sz : Nat → Nat) (dr : Nat → Int) (k : Nat) : piece ix sz dr k = sOf ((pairN ix sz dr k).flatMap fun p => wrN p.1 p.2) := by
  unfold piece pairN
  rw [written_eq, written_eq, sOf_app, word_cps]
  simp [opN]
theorem join_pieces (f : Nat → List Nat) : ∀ l : List Nat, Txt.join (Str.ofString "") (l.map fun k => sOf (f k)) = sOf (l.flatMap f)
  | [] => join_nil
  | k :: l => by rw [List.map_cons, join_cons, join_pieces f l, sOf_app, List.flatMap_cons]
theorem text_eq (ix sz : Nat → Nat) (dr : Nat → Int) (n : Nat) : textS ix sz dr n = sOf (((List.range n).flatMap (pairN ix sz dr)).flatMap fun p => wrN p.1 p.2) := by
  unfold textS
  rw [show (piece ix sz dr) = fun k => sOf ((pairN ix sz dr k).flatMap fun p => wrN p.1 p.2) from funext (piece_eq ix sz dr), join_pieces]
  congr 1
  rw [List.flatMap_assoc]
theorem wrN_len (u : List Nat) (n : Int) (hu : u ≠ []) : 2 ≤ (wrN u n).length ∧ (wrN u n).length ≤ 2 * u.length + 3 := by
  have : u.length ≠ 0 := fun e => hu (List.length_eq_zero_iff.mp e)
  unfold wrN
  split
  · simp; lia
  · split
    · rw [List.length_append, esc_len]; simp; lia
    · simp; lia
theorem sum_len : ∀ (ps : List (List Nat × Int)), (∀ p ∈ ps, p.1 ≠ [] ∧ p.1.length ≤ 3) → 2 * ps.length ≤ (ps.flatMap fun p => wrN p.1 p.2).length ∧ (ps.flatMap fun p => wrN p.1 p.2).length ≤ 9 * ps.length
  | [], _ => by simp
  | p :: ps, h => by
    have h1 := h p (.head _)
    have h2 := wrN_len p.1 p.2 h1.1
    have h3 := sum_len ps fun q hq => h q (.tail _ hq)
    rw [List.flatMap_cons, List.length_append, List.length_cons]
    lia
section
variable {ix sz : Nat → Nat} {dr : Nat → Int} {n : Nat}
theorem pair_ok (hix : ∀ k, k < n → ix k < 48) (hsz : ∀ k, k < n → 1 ≤ sz k ∧ sz k ≤ 4) {k : Nat} (hk : k < n) : ∀ p ∈ pairN ix sz dr k, p.1 ≠ [] ∧ p.1.length ≤ 3 ∧ ∀ a ∈ p.1, goodC a := by
  intro p hp
  simp only [pairN, List.mem_cons, List.not_mem_nil, or_false] at hp
  rcases hp with rfl | rfl
  · exact ops_good ⟨ix k, hix k hk⟩
  · obtain ⟨h1, h4⟩ := hsz k hk
    show apN (sz k) ≠ [] ∧ (apN (sz k)).length ≤ 3 ∧ ∀ a ∈ apN (sz k), goodC a
    rw [apN_small h1 h4]
    refine ⟨by simp, by simp, ?_⟩
    intro a ha
    rw [List.mem_singleton.mp ha]
    have : sz k = 1 ∨ sz k = 2 ∨ sz k = 3 ∨ sz k = 4 := by lia
    rcases this with e | e | e | e <;> rw [e] <;> unfold goodC <;> decide
theorem pairs_len (f : Nat → List (List Nat × Int)) (hf : ∀ k, (f k).length = 2) : ∀ l : List Nat, (l.flatMap f).length = 2 * l.length
  | [] => rfl
  | k :: l => by rw [List.flatMap_cons, List.length_append, pairs_len f hf l, hf, List.length_cons]; lia
theorem text_len (hix : ∀ k, k < n → ix k < 48) (hsz : ∀ k, k < n → 1 ≤ sz k ∧ sz k ≤ 4) : 4 * n ≤ (textS ix sz dr n).length ∧ (textS ix sz dr n).length ≤ 18 * n := by
  have h := sum_len ((List.range n).flatMap (pairN ix sz dr)) (fun p hp => by
    obtain ⟨k, hk, hp⟩ := List.mem_flatMap.mp hp
    have := pair_ok (dr := dr) hix hsz (List.mem_range.mp hk) p hp
    exact ⟨this.1, this.2.1⟩)
  rw [pairs_len (pairN ix sz dr) (fun _ => rfl), List.length_range] at h
  rw [text_eq]
  have e : ∀ l : List Nat, (sOf l).length = l.length := fun l => by show (List.toArray _).size = _; rw [List.size_toArray]
  rw [e]
  lia
/-- where the lexer stands ahead of the k-th pair -/
noncomputable def posT (x : Str) : Nat → Nat
  | 0 => 0
  | k + 1 => (lexF x x.length (lexF x x.length (posT x k)).2).2
theorem text_toks (hn : 3 ≤ n) (hix : ∀ k, k < n → ix k < 48) (hsz : ∀ k, k < n → 1 ≤ sz k ∧ sz k ≤ 4) :
    Toks (textS ix sz dr n) ix sz (posT (textS ix sz dr n)) (fun k => if k < n then (lexF (textS ix sz dr n) (textS ix sz dr n).length (posT (textS ix sz dr n) k)).2 else 0) n := by
  have hlen := text_len (dr := dr) hix hsz
  have hdrop : (textS ix sz dr n).cps.toList = ((List.range n).flatMap (pairN ix sz dr)).flatMap fun p => wrN p.1 p.2 := by rw [text_eq]; simp [sOf]
  generalize hx : textS ix sz dr n = x at *
  have step : ∀ k, k < n → AtW x (posT x k) ((List.range' k (n - k)).flatMap (pairN ix sz dr)) →
      ∃ j j', lexF x x.length (posT x k) = (OPS.getD (ix k) (Str.ofString ""), j) ∧ j ≤ x.length ∧ lexF x x.length j = (wordOf (sz k), j') ∧ j' ≤ x.length ∧ AtW x j' ((List.range' (k + 1) (n - (k + 1))).flatMap (pairN ix sz dr)) := by
    intro k hk h
    rw [show n - k = (n - (k + 1)) + 1 by lia, List.range'_succ, List.flatMap_cons] at h
    have o1 := pair_ok (dr := dr) hix hsz hk _ (.head _)
    have o2 := pair_ok (dr := dr) hix hsz hk _ (.tail _ (.head _))
    obtain ⟨j, e, a, hj⟩ := lex_step (f := x.length) (ps := (apN (sz k), (dr k).fdiv 5) :: _) o1.1 o1.2.2 h (by have := o1.2.1; lia)
    obtain ⟨j', e', a', hj'⟩ := lex_step (f := x.length) o2.1 o2.2.2 a (by have := o2.2.1; lia)
    exact ⟨j, j', by rw [e]; show (sOf (opN (ix k)), j) = _; rw [opN, sOf_self], hj, by rw [e']; rfl, hj', a'⟩
  have at' : ∀ k, k ≤ n → AtW x (posT x k) ((List.range' k (n - k)).flatMap (pairN ix sz dr)) ∧ posT x k ≤ x.length := by
    intro k
    induction k with
    | zero =>
      intro _
      refine ⟨⟨[], .inl rfl, ?_⟩, Nat.zero_le _⟩
      rw [show posT x 0 = 0 from rfl, List.drop_zero, hdrop, List.range_eq_range']; rfl
    | succ k ih =>
      intro hk
      obtain ⟨j, j', e, _, e', hj', a⟩ := step k hk (ih (by lia)).1
      have : posT x (k + 1) = j' := by rw [posT, e, e']
      rw [this]
      exact ⟨a, hj'⟩
  refine ⟨?_, ?_, ?_, ?_, rfl, ?_⟩
  · intro k hk
    obtain ⟨j, j', e, _⟩ := step k hk (at' k (by lia)).1
    rw [if_pos hk, e]
  · intro k hk
    obtain ⟨j, j', e, _, e', _⟩ := step k hk (at' k (by lia)).1
    have : posT x (k + 1) = j' := by rw [posT, e, e']
    rw [if_pos hk, e, this, e']
  · intro k hk
    exact ⟨hix k hk, (hsz k hk).1, (hsz k hk).2⟩
  · intro k hk
    refine ⟨(at' k hk).2, ?_⟩
    by_cases hkn : k < n
    · obtain ⟨j, j', e, hj, _⟩ := step k hkn (at' k hk).1
      simp only [hkn, if_true, e]; exact hj
    · simp only [hkn, if_false]; exact Nat.zero_le _
  · have h := at' n (Nat.le_refl n)
    rw [Nat.sub_self] at h
    exact lex_end h.1 h.2 (by lia)
end
theorem lnS_take (x : Str) : ∀ i, lnS x i = 1 + (((x.cps.toList.take i).count 10 : Nat) : Int)
  | 0 => by simp [lnS]
  | i + 1 => by
    rw [lnS, lnS_take x i]
    have nl : Str.ofString "\n" = sOf [10] := by decide +kernel
    rcases h : x.cps.toList.drop i with _ | ⟨c, l⟩
    · have e := List.drop_eq_nil_iff.mp h
      have e0 : readS x (i : Nat) = sOf [] := by rw [readS_eq, h]; rfl
      have e1 : ¬ (sOf [] = sOf [10]) := fun e => absurd (sOf_inj e) (by simp)
      rw [e0, nl, if_neg e1, List.take_of_length_le e, List.take_of_length_le (by lia)]
    · obtain ⟨e1, _⟩ := read_cons h
      have hi : x.cps.toList[i]? = some c := by
        have := congrArg (fun l => l[0]?) h
        simpa using this
      rw [e1, nl, take_snoc hi, List.count_append]
      by_cases hc : c = 10
      · subst hc; rw [if_pos rfl]; simp; lia
      · rw [if_neg (fun e => hc (by simpa using sOf_inj e))]
        have : List.count 10 [c] = 0 := by rw [List.count_eq_zero]; simp; exact fun e => hc e.symm
        rw [this]; simp
theorem lnS_end {x : Str} {i : Nat} (h : x.length < i) : lnS x i = 1 + ((x.cps.toList.count 10 : Nat) : Int) := by
  rw [lnS_take, List.take_of_length_le (by rw [Array.length_toList]; exact Nat.le_of_lt h)]
end
section
open PySem PySem.W PySem.Spec PySem.Calls PyProof.Rows PyProof.Rows.LCg
theorem wish_funs {wl : List Wish} {b : Int} (hb : b = 2 ∨ b = 3) (h : GoodW wl b) : Sm3 fun (ix sz : Nat → Nat) (dr : Nat → Int) => Al5 (wl.map wdat = (List.range wl.length).map (wishAt ix sz dr)) ((∀ k, k < wl.length → ix k < 48)) ((∀ i j, i < wl.length → j < wl.length → ix i = ix j → i = j)) ((∀ k, k < wl.length → 1 ≤ sz k ∧ sz k ≤ 6 - b.toNat)) ((∀ k, k < wl.length → 0 ≤ dr k)) := by
  have hg : ∀ k, k < wl.length → (wl.getD k default).1 ∈ OPS ∧ 1 ≤ (wl.getD k default).2.1 ∧ (wl.getD k default).2.1 ≤ 6 - b ∧ 0 ≤ (wl.getD k default).2.2 := fun k hk => by
    rw [List.getD_eq_getElem?_getD, List.getElem?_eq_getElem hk]
    exact h.ops _ (List.getElem_mem hk)
  have hl : OPS.length = 48 := by decide
  have hop : ∀ k, k < wl.length → OPS.getD (OPS.idxOf (wl.getD k default).1) (Str.ofString "") = (wl.getD k default).1 := fun k hk => by
    have h1 := List.idxOf_lt_length_iff.mpr (hg k hk).1
    rw [List.getD_eq_getElem?_getD, List.getElem?_eq_getElem h1]
    exact List.getElem_idxOf h1
  refine ⟨fun k => OPS.idxOf (wl.getD k default).1, fun k => (wl.getD k default).2.1.toNat, fun k => (wl.getD k default).2.2, ?_, ?_, ?_, ?_, ?_⟩
  · refine List.ext_getElem (by simp) fun k h1 h2 => ?_
    have hk : k < wl.length := by simpa using h1
    rw [List.getElem_map, List.getElem_map, List.getElem_range]
    unfold wishAt wdat
    have e : wl.getD k default = wl[k] := by rw [List.getD_eq_getElem?_getD, List.getElem?_eq_getElem hk]; rfl
    have := hg k hk
    dsimp only
    rw [hop k hk, Int.toNat_of_nonneg (by lia), e]
  · intro k hk
    have := List.idxOf_lt_length_iff.mpr (hg k hk).1
    show OPS.idxOf _ < 48
    lia
  · intro i j hi hj e
    have e1 : (wl.getD i default).1 = (wl.getD j default).1 := by rw [← hop i hi, ← hop j hj]; exact congrArg (fun z => OPS.getD z _) e
    rw [List.getD_eq_getElem?_getD, List.getD_eq_getElem?_getD, List.getElem?_eq_getElem hi, List.getElem?_eq_getElem hj] at e1
    have hi' : i < (wl.map (·.1)).length := by simpa using hi
    have hj' : j < (wl.map (·.1)).length := by simpa using hj
    have e2 : (wl.map (·.1))[i] = (wl.map (·.1))[j] := by rw [List.getElem_map, List.getElem_map]; exact e1
    exact (List.getElem_inj (h₀ := hi') (h₁ := hj') h.nodup).mp e2
  · intro k hk
    have := hg k hk
    show 1 ≤ (wl.getD k default).2.1.toNat ∧ (wl.getD k default).2.1.toNat ≤ _
    rcases hb with rfl | rfl
    · show _ ∧ _ ≤ 4; lia
    · show _ ∧ _ ≤ 3; lia
  · exact fun k hk => (hg k hk).2.2.2
theorem sOf_len (l : List Nat) : (sOf l).length = l.length := by show (List.toArray _).size = _; rw [List.size_toArray]
theorem op_len {j : Nat} (hj : j < 48) : 1 ≤ (OPS.getD j (Str.ofString "")).length ∧ (OPS.getD j (Str.ofString "")).length ≤ 8 := by
  have h := ops_good ⟨j, hj⟩
  have e : (OPS.getD j (Str.ofString "")).length = (opN j).length := by rw [opN, Array.length_toList]; rfl
  have : (opN j).length ≠ 0 := fun e => h.1 (List.length_eq_zero_iff.mp e)
  rw [e]; have := h.2.1; dsimp only at this; lia
theorem wd_len {s : Nat} (h1 : 1 ≤ s) (h4 : s ≤ 4) : 1 ≤ (wordOf s).length ∧ (wordOf s).length ≤ 8 := by
  rw [word_len, apN_small h1 h4]; simp
theorem written_len (u : Str) (n : Int) (h : u.length ≤ 8) (h1 : 1 ≤ u.length) : (writtenS u n).length ≤ 19 := by
  rw [written_eq, sOf_len]
  have e : u.cps.toList.length = u.length := by rw [Array.length_toList]; rfl
  have := wrN_len u.cps.toList n (fun e2 => by rw [e2] at e; simp at e; lia)
  lia
theorem word_neg (w mean mg mb) (news : Led) (n : Nat) (t : Tok) (hn : n < 2 ^ 200) :
    Gives w mean mg mb 3 85 [.int (-(n : Int)) t] news (fun r n' _ => news = n' ∧ ∃ tk, r = .str (wordOf n) tk) := by
  have := word_spec w mean mg mb news (-(n : Int)) t (by rw [Int.natAbs_neg, Int.natAbs_natCast]; exact hn)
  rw [Int.natAbs_neg, Int.natAbs_natCast] at this
  exact this
theorem written_gives (w mean mg mb) (news : Led) (x : Str) (t : Tok) (n : Int) (u : Tok) (hx : 1 ≤ x.length) (hx2 : x.length ≤ 8) (hn : 0 ≤ n) :
    Gives w mean mg mb 1 97 [.str x t, .int n u] news (fun r n' _ => news = n' ∧ ∃ tk, r = .str (writtenS x n) tk) := (written_does w mean mg mb x t n u hx hx2 hn).pure
theorem pieces_weight (ix sz : Nat → Nat) (dr : Nat → Int) (n : Nat) (hn : n ≤ 6) (hix : ∀ k, k < n → ix k < 48) (hsz : ∀ k, k < n → 1 ≤ sz k ∧ sz k ≤ 4) : ((((List.range n).map (piece ix sz dr)).map (·.length)).sum + ((List.range n).map (piece ix sz dr)).length ≤ 1048576) := by
  have : ∀ l : List Nat, (∀ k ∈ l, k < n) → ((l.map (piece ix sz dr)).map (·.length)).sum ≤ 38 * l.length := by
    intro l
    induction l with
    | nil => intro _; simp
    | cons k l ih =>
      intro h
      have h1 := ih fun j hj => h j (.tail _ hj)
      have hk := h k (.head _)
      have o := op_len (hix k hk)
      have q := wd_len (hsz k hk).1 (hsz k hk).2
      have e1 := written_len _ ((dr k).fdiv 8) o.2 o.1
      have e2 := written_len _ ((dr k).fdiv 5) q.2 q.1
      rw [List.map_cons, List.map_cons, List.sum_cons, List.length_cons]
      have : (piece ix sz dr k).length ≤ 38 := by unfold piece; rw [Str.length_append]; lia
      lia
  have h := this (List.range n) fun k hk => List.mem_range.mp hk
  rw [List.length_map, List.length_range] at *
  lia
end
section
open PySem PySem.W PySem.Spec PySem.Calls PyProof.Rows PyProof.Rows.LCg
section
variable {prog : Program} {w : World} {A : Around} {E : Value → Shared → Prop} {s : Shared} {h₀ : Heap} {L a b : Addr} {news : Led} {Q : Value → Shared → Prop}
theorem ne_same {x y : Value} {d : Dat} (N : News h₀ L s.heap news) (Da : DatIn news x d) (Db : DatIn news y d) (hk : kqdOk 9 d = true) (hu : A.units + 64 < cLine) (h : Q (.bool false) s) : wpAny (model prog w) A (compareOp .NotEq x y) Q E s := by
  obtain ⟨as, ra⟩ := kqd_in N 9 Da hk
  obtain ⟨bs, rb⟩ := kqd_in N 9 Db hk
  have la := kqd_lay 9 d hk
  have e : PyData.eqv (kqdP d) (kqdP d) = true := (kqd_eqv 9 d d 9 hk hk).mpr rfl
  refine ne_dataH ra rb ?_ ?_ hu (by rw [e]; exact h)
  · unfold SeqAt.shaped; rw [la.1, Bool.true_and]; exact decide_eq_true (Nat.le_trans la.2 (by decide))
  · unfold SeqAt.shaped; rw [la.1, Bool.true_and]; exact decide_eq_true (Nat.le_trans la.2 (by decide))
end
theorem ops_ok (j : Nat) : PyData.strOk (OPS.getD j (Str.ofString "")) = true := by
  by_cases h : j < 48
  · have : ∀ j : Fin 48, PyData.strOk (OPS.getD j.val (Str.ofString "")) = true := by decide +kernel
    exact this ⟨j, h⟩
  · rw [List.getD_eq_getElem?_getD, List.getElem?_eq_none (by rw [show OPS.length = 48 by decide]; lia)]; decide +kernel
theorem pair_ok9 (C : List Dat) (D : List Dat) (hC : ∀ d ∈ C, kqdOk 7 d = true) (hD : ∀ d ∈ D, kqdOk 7 d = true) : kqdOk 9 (.tuple [.list C, .list D]) = true := by
  simp only [kqdOk, List.all_cons, List.all_nil, Bool.and_true, Bool.and_eq_true, List.all_eq_true]
  exact ⟨hC, hD⟩
theorem codes_ok (p : List Nat) (ix : Nat → Nat) (c : List Nat) : ∀ d ∈ codesDat p ix c, kqdOk 7 d = true := by
  intro d hd
  obtain ⟨x, _, rfl⟩ := List.mem_map.mp hd
  simp only [kqdOk, List.all_cons, List.all_nil, Bool.and_true, ops_ok, Bool.true_and]
theorem left_ok (l : List Nat) : ∀ d ∈ l.map (fun (v : Nat) => Dat.int (v : Int)), kqdOk 7 d = true := by
  intro d hd
  obtain ⟨x, _, rfl⟩ := List.mem_map.mp hd
  rfl
theorem perm_eq {n : Nat} {lt : Nat → Nat → Bool} {T : KasT (Array Nat)} {p q : List Nat} (h1 : krun n lt T = some p.toArray) (h2 : krun n lt T = some q.toArray) : p = q := by
  have := h1.symm.trans h2
  have := Option.some.inj this
  simpa using this
end
section
open PySem PySem.W PySem.Spec PySem.Calls PyProof.Rows PyProof.Rows.LCg
/-- a dict's pairs: names and numbers -/
inductive KvInts : List (Str × Value) → List (Str × Int) → Prop
  | nil : KvInts [] []
  | cons (k : Str) (n : Int) (t : Tok) {kvs ps} : KvInts kvs ps → KvInts ((k, .int n t) :: kvs) ((k, n) :: ps)
theorem KvInts.snoc {kvs : List (Str × Value)} {ps : List (Str × Int)} (h : KvInts kvs ps) (k : Str) (n : Int) (t : Tok) : KvInts (kvs ++ [(k, .int n t)]) (ps ++ [(k, n)]) := by
  induction h with
  | nil => exact .cons k n t .nil
  | cons k' n' t' _ ih => exact .cons k' n' t' ih
theorem KvInts.keys {kvs : List (Str × Value)} {ps : List (Str × Int)} (h : KvInts kvs ps) : kvs.map (·.1) = ps.map (·.1) := by
  induction h with
  | nil => rfl
  | cons k n t _ ih => rw [List.map_cons, List.map_cons, ih]
theorem KvInts.length {kvs : List (Str × Value)} {ps : List (Str × Int)} (h : KvInts kvs ps) : kvs.length = ps.length := by
  have := congrArg List.length h.keys
  simpa using this
theorem KvInts.put {kvs : List (Str × Value)} {ps : List (Str × Int)} (h : KvInts kvs ps) {k : Str} (hk : k ∉ ps.map (·.1)) (n : Int) (t : Tok) : KvInts (stored kvs k (.int n t)) (ps ++ [(k, n)]) := by
  rw [stored_absent (valueAt_none_of_not_mem (by rw [h.keys]; exact hk))]
  exact h.snoc k n t
theorem KvInts.get {kvs : List (Str × Value)} {ps : List (Str × Int)} (h : KvInts kvs ps) (hn : (ps.map (·.1)).Nodup) {k : Str} {n : Int} (hm : (k, n) ∈ ps) : ∃ t, valueAt kvs k = some (.int n t) := by
  obtain ⟨i, hi⟩ := List.mem_iff_getElem?.mp hm
  have : ∃ t, kvs[i]? = some (k, .int n t) := by
    clear hn hm
    induction h generalizing i with
    | nil => cases hi
    | cons k' n' t' _ ih =>
      cases i with
      | zero => cases hi; exact ⟨t', rfl⟩
      | succ i => exact ih i hi
  obtain ⟨t, e⟩ := this
  exact ⟨t, valueAt_of_get (by rw [h.keys]; exact hn) e⟩
theorem KvInts.some {kvs : List (Str × Value)} {ps : List (Str × Int)} (h : KvInts kvs ps) (k : Str) : (valueAt kvs k).isSome = decide (k ∈ ps.map (·.1)) := by
  rw [valueAt_isSome_eq_any]
  have e : kvs.any (fun kv => kv.1 = k) = (kvs.map (·.1)).any (fun x => decide (x = k)) := by rw [List.any_map]; rfl
  rw [e, h.keys]
  by_cases hm : k ∈ ps.map (·.1)
  · rw [decide_eq_true hm, List.any_eq_true]; exact ⟨k, hm, by simp⟩
  · rw [decide_eq_false hm, List.any_eq_false]
    intro x hx
    simp only [decide_eq_true_eq]
    exact fun e => hm (e ▸ hx)
noncomputable def opS (j : Nat) : Str := OPS.getD j (Str.ofString "")
theorem op_inj {i j : Nat} (hi : i < 48) (hj : j < 48) (h : opS i = opS j) : i = j := by
  have hl : OPS.length = 48 := by decide
  unfold opS at h
  rw [List.getD_eq_getElem?_getD, List.getD_eq_getElem?_getD, List.getElem?_eq_getElem (by lia), List.getElem?_eq_getElem (by lia)] at h
  exact (List.getElem_inj (h₀ := by lia) (h₁ := by lia) OPS_nodup).mp h
noncomputable def sizeP (ix sz : Nat → Nat) (k : Nat) : Str × Int := (opS (ix k), (sz k : Int))
theorem size_new {ix sz : Nat → Nat} {n i : Nat} (hix : ∀ k, k < n → ix k < 48) (hI : ∀ i j, i < n → j < n → ix i = ix j → i = j) (hi : i < n) : opS (ix i) ∉ ((List.range i).map (sizeP ix sz)).map (·.1) := by
  rw [List.map_map]
  intro h
  obtain ⟨j, hj, e⟩ := List.mem_map.mp h
  have hj' := List.mem_range.mp hj
  have := hI j i (by lia) hi (op_inj (hix j (by lia)) (hix i hi) e)
  lia
/-- the codes that are no noughts, of the first i -/
noncomputable def nodesP (p : List Nat) (ix : Nat → Nat) (C : List Nat) (i : Nat) : List (Str × Int) := (((p.zip C).take i).filter fun jc => jc.2 != 0).map fun jc => (opS (ix jc.1), (jc.2 : Int))
theorem nodes_step {p : List Nat} {ix : Nat → Nat} {C : List Nat} {i pj c : Nat} (h : (p.zip C)[i]? = some (pj, c)) : nodesP p ix C (i + 1) = nodesP p ix C i ++ (if c != 0 then [(opS (ix pj), (c : Int))] else []) := by
  unfold nodesP
  rw [take_snoc h, List.filter_append, List.map_append]
  congr 1
  by_cases hc : c = 0
  · subst hc; simp
  · simp [hc]
theorem nodes_new {p : List Nat} {ix : Nat → Nat} {C : List Nat} {n i pj c : Nat} (hix : ∀ k, k < n → ix k < 48) (hI : ∀ i j, i < n → j < n → ix i = ix j → i = j) (hpb : ∀ y ∈ p, y < n) (hpn : p.Nodup) (h : (p.zip C)[i]? = some (pj, c)) : opS (ix pj) ∉ (nodesP p ix C i).map (·.1) := by
  unfold nodesP
  rw [List.map_map]
  intro hm
  obtain ⟨⟨j, d⟩, hj, e⟩ := List.mem_map.mp hm
  have hj := (List.mem_filter.mp hj).1
  obtain ⟨k, hk⟩ := List.mem_iff_getElem?.mp hj
  rw [List.getElem?_take] at hk
  split at hk
  · rename_i hki
    obtain ⟨a1, a2⟩ := List.getElem?_zip_eq_some.mp h
    obtain ⟨b1, b2⟩ := List.getElem?_zip_eq_some.mp hk
    have hjn := hpb j (List.mem_of_getElem? b1)
    have hpn2 := hpb pj (List.mem_of_getElem? a1)
    have e1 := hI j pj hjn hpn2 (op_inj (hix j hjn) (hix pj hpn2) e)
    subst e1
    have l1 := (List.getElem?_eq_some_iff.mp a1).1
    have l2 := (List.getElem?_eq_some_iff.mp b1).1
    have e2 : p[i] = p[k] := by rw [(List.getElem?_eq_some_iff.mp a1).2, (List.getElem?_eq_some_iff.mp b1).2]
    have := (List.getElem_inj (h₀ := l1) (h₁ := l2) hpn).mp e2
    lia
  · cases hk
theorem code_tup {tl : Led} {v : Value} {x : Str} {y : Int} (h : DatIn tl v (.tuple [.str x, .int y])) : Sm4 fun a t1 t2 n => v = .ref a ∧ (a, ({ cls := .type "tuple", data := .seq (List.toArray [.str x t1, .int y t2]) n } : Obj)) ∈ tl := by
  obtain ⟨a, vs, n, rfl, hm, hd⟩ := tup_inv h
  obtain ⟨v0, vs0, rfl, h0, hd0⟩ := all_inv hd
  obtain ⟨v1, vs1, rfl, h1, hd1⟩ := all_inv hd0
  obtain ⟨t0, rfl⟩ := str_inv h0
  obtain ⟨t1, rfl⟩ := int_inv h1
  obtain rfl := nil_inv hd1
  exact ⟨a, t0, t1, n, rfl, hm⟩
end
section
open PySem PySem.W PySem.Spec PySem.Calls PyProof.Rows PyProof.Rows.LCg
noncomputable def nodesN (p : List Nat) (ix : Nat → Nat) (C : List Nat) : List (Str × Nat) := ((p.zip C).filter fun jc => jc.2 != 0).map fun jc => (opS (ix jc.1), jc.2)
theorem nodesP_all (p : List Nat) (ix : Nat → Nat) (C : List Nat) : nodesP p ix C (p.zip C).length = (nodesN p ix C).map fun x => (x.1, (x.2 : Int)) := by
  unfold nodesP nodesN
  rw [List.take_length, List.map_map]
  rfl
noncomputable def hasC (p : List Nat) (ix : Nat → Nat) (C : List Nat) (k : Nat) : Bool := decide (opS (ix k) ∈ (nodesP p ix C (p.zip C).length).map (·.1))
theorem has_pos {p : List Nat} {ix : Nat → Nat} {C : List Nat} {i : Nat} (h : opS (ix i) ∈ (nodesP p ix C (p.zip C).length).map (·.1)) : (List.range (i + 1)).filter (hasC p ix C) = (List.range i).filter (hasC p ix C) ++ [i] := by
  rw [List.range_succ, List.filter_append]
  congr 1
  have : hasC p ix C i = true := decide_eq_true h
  simp [this]
theorem has_neg {p : List Nat} {ix : Nat → Nat} {C : List Nat} {i : Nat} (h : ¬ opS (ix i) ∈ (nodesP p ix C (p.zip C).length).map (·.1)) : (List.range (i + 1)).filter (hasC p ix C) = (List.range i).filter (hasC p ix C) := by
  rw [List.range_succ, List.filter_append]
  have : hasC p ix C i = false := decide_eq_false h
  simp [this]
noncomputable def codeF (p C : List Nat) (k : Nat) : Nat := C.getD (p.idxOf k) 0
theorem apN_val : ∀ (ds : List Nat) (T : Nat), 1 ≤ T → (∀ d ∈ ds, d < 16) → apN (valN T ds) = apN T ++ ds.map (65 + ·)
  | [], T, _, _ => by simp [valN]
  | d :: ds, T, hT, h => by
    have hd := h d (.head _)
    show apN (valN (16 * T + d) ds) = _
    rw [apN_val ds (16 * T + d) (by lia) fun e he => h e (.tail _ he), apN_eq (16 * T + d) (by lia), show (16 * T + d) / 16 = T by lia, show (16 * T + d) % 16 = d by lia, List.append_assoc]
    rfl
theorem due_len (b : Nat) : ∀ (l : List Nat) (t : Nat), (dueP b l t).length = l.length
  | [], _ => rfl
  | s :: l, t => by rw [dueP, List.length_cons, due_len b l, List.length_cons]
section
variable {p C : List Nat} {ix sz : Nat → Nat} {n b : Nat}
theorem mem_nodesN (hC : C.length = p.length) {q : Str × Nat} : q ∈ nodesN p ix C ↔ ∃ i, i < p.length ∧ q = (opS (ix (p.getD i 0)), C.getD i 0) ∧ C.getD i 0 ≠ 0 := by
  unfold nodesN
  constructor
  · intro h
    obtain ⟨⟨j, c⟩, hj, rfl⟩ := List.mem_map.mp h
    obtain ⟨hj, hc⟩ := List.mem_filter.mp hj
    obtain ⟨i, hi⟩ := List.mem_iff_getElem?.mp hj
    obtain ⟨a1, a2⟩ := List.getElem?_zip_eq_some.mp hi
    have hl := (List.getElem?_eq_some_iff.mp a1).1
    refine ⟨i, hl, ?_, ?_⟩
    · rw [List.getD_eq_getElem?_getD, List.getD_eq_getElem?_getD, a1, a2]; rfl
    · rw [List.getD_eq_getElem?_getD, a2]; simpa using hc
  · rintro ⟨i, hi, rfl, hc⟩
    have a1 : p[i]? = some (p.getD i 0) := by rw [List.getD_eq_getElem?_getD, List.getElem?_eq_getElem hi]; rfl
    have a2 : C[i]? = some (C.getD i 0) := by rw [List.getD_eq_getElem?_getD, List.getElem?_eq_getElem (hC ▸ hi)]; rfl
    refine List.mem_map.mpr ⟨(p.getD i 0, C.getD i 0), List.mem_filter.mpr ⟨List.mem_iff_getElem?.mpr ⟨i, List.getElem?_zip_eq_some.mpr ⟨a1, a2⟩⟩, by simpa using hc⟩, rfl⟩
/-- what is known of the codes, place by place -/
theorem free_at {l : List Nat} (h : freeP l C = true) : C.length = l.length ∧ C.headD 0 ≠ 0 ∧ ∀ k, k < C.length → C.getD k 0 ≠ 0 → C.getD k 0 / 16 ^ l.getD k 0 = 1 ∧ ∀ j, j < C.length → j ≠ k → C.getD j 0 ≠ 0 → ∀ e, e < 5 → C.getD k 0 / 16 ^ e ≠ C.getD j 0 := by
  unfold freeP at h
  rw [Bool.and_eq_true, Bool.and_eq_true] at h
  obtain ⟨⟨h1, h2⟩, h3⟩ := h
  refine ⟨by simpa using h1, by simpa using h2, ?_⟩
  intro k hk hc
  have h4 := List.all_eq_true.mp h3 k (List.mem_range.mpr hk)
  rw [Bool.or_eq_true] at h4
  rcases h4 with h4 | h4
  · exact absurd (by simpa using h4) hc
  rw [Bool.and_eq_true] at h4
  refine ⟨by simpa using h4.1, ?_⟩
  intro j hj hjk hcj e he
  have h5 := List.all_eq_true.mp h4.2 j (List.mem_range.mpr hj)
  rw [Bool.or_eq_true, Bool.or_eq_true] at h5
  rcases h5 with (h5 | h5) | h5
  · exact absurd (by simpa using h5) hjk
  · exact absurd (by simpa using h5) hcj
  · have := List.all_eq_true.mp h5 e (List.mem_range.mpr he)
    simpa using this
structure CodesOk (p C : List Nat) (ix sz : Nat → Nat) (n : Nat) : Prop where
  len : C.length = p.length
  has : ∀ k, k < n → (hasC p ix C k = true ↔ codeF p C k ≠ 0)
  code : ∀ k, k < n → codeF p C k ≠ 0 → codeF p C k / 16 ^ sz k = 1 ∧ 1 ≤ sz k ∧ (∀ e, 1 ≤ e → e < sz k → ∀ q ∈ nodesN p ix C, q.2 ≠ codeF p C k / 16 ^ e) ∧ (opS (ix k), codeF p C k) ∈ nodesN p ix C
  one : ∀ q ∈ nodesN p ix C, q.2 ≠ 1
  nodup : ((nodesN p ix C).map (·.2)).Nodup
  some : 1 ≤ ((List.range n).filter (hasC p ix C)).length
theorem nodup_le : ∀ (n : Nat) (l : List Nat), l.Nodup → (∀ y ∈ l, y < n) → l.length ≤ n
  | 0, l, _, h => by
    match l with
    | [] => exact Nat.le_refl _
    | y :: l => exact absurd (h y (.head _)) (Nat.not_lt_zero _)
  | n + 1, l, hn, h => by
    by_cases hm : n ∈ l
    · have h1 := nodup_le n (l.erase n) (hn.erase n) fun y hy => by
        have h2 := (hn.mem_erase_iff).mp hy
        have := h y h2.2
        have := h2.1
        lia
      rw [List.length_erase_of_mem hm] at h1
      lia
    · have h1 := nodup_le n l hn fun y hy => by
        have h2 := h y hy
        have h3 : y ≠ n := fun e => hm (e ▸ hy)
        lia
      lia
theorem perm_mem (hpl : p.length = n) (hpb : ∀ y ∈ p, y < n) (hpn : p.Nodup) {k : Nat} (hk : k < n) : k ∈ p := by
  apply Classical.byContradiction
  intro hm
  have := nodup_le n (k :: p) (List.nodup_cons.mpr ⟨hm, hpn⟩) fun y hy => by
    rcases List.mem_cons.mp hy with rfl | hy
    · exact hk
    · exact hpb y hy
  rw [List.length_cons] at this
  lia
theorem codes_ok9 (hb : b = 2 ∨ b = 3) (hn3 : 3 ≤ n) (hn6 : n ≤ 6) (hpl : p.length = n) (hpb : ∀ y ∈ p, y < n) (hpn : p.Nodup) (hup : (p.map sz).Pairwise (· ≤ ·)) (hix : ∀ k, k < n → ix k < 48) (hI : ∀ i j, i < n → j < n → ix i = ix j → i = j) (hsz : ∀ k, k < n → 1 ≤ sz k ∧ sz k ≤ 6 - b) :
    CodesOk p (dueP b (p.map sz) 0) ix sz n := by
  have hfree := (agree_free hb (l := p.map sz) (by rw [List.length_map]; lia) (by rw [List.length_map]; lia) (fun x hx => by
    obtain ⟨y, hy, rfl⟩ := List.mem_map.mp hx
    exact hsz y (hpb y hy)) hup).2
  have hC : (dueP b (p.map sz) 0).length = p.length := by rw [due_len, List.length_map]
  obtain ⟨-, hhead, hat⟩ := free_at hfree
  generalize hCe : dueP b (p.map sz) 0 = C at *
  have hidx : ∀ k, k < n → p.idxOf k < p.length ∧ p.getD (p.idxOf k) 0 = k := fun k hk => by
    have h1 := List.idxOf_lt_length_iff.mpr (perm_mem hpl hpb hpn hk)
    refine ⟨h1, ?_⟩
    rw [List.getD_eq_getElem?_getD, List.getElem?_eq_getElem h1]
    exact List.getElem_idxOf h1
  have hszat : ∀ i, i < p.length → (p.map sz).getD i 0 = sz (p.getD i 0) := fun i hi => by
    rw [List.getD_eq_getElem?_getD, List.getD_eq_getElem?_getD, List.getElem?_map, List.getElem?_eq_getElem hi]; rfl
  have hpat : ∀ i, i < p.length → p.getD i 0 < n := fun i hi => by
    rw [List.getD_eq_getElem?_getD, List.getElem?_eq_getElem hi]; exact hpb _ (List.getElem_mem hi)
  have hsz4 : ∀ k, k < n → sz k ≤ 4 := fun k hk => by have := (hsz k hk).2; lia
  have hmem : ∀ k, k < n → codeF p C k ≠ 0 → (opS (ix k), codeF p C k) ∈ nodesN p ix C := fun k hk hc =>
    (mem_nodesN hC).mpr ⟨p.idxOf k, (hidx k hk).1, by rw [(hidx k hk).2]; rfl, hc⟩
  refine ⟨hC, ?_, ?_, ?_, ?_, ?_⟩
  · intro k hk
    unfold hasC
    rw [nodesP_all, List.map_map, decide_eq_true_iff]
    constructor
    · intro h
      obtain ⟨q, hq, e⟩ := List.mem_map.mp h
      obtain ⟨i, hi, rfl, hc⟩ := (mem_nodesN hC).mp hq
      have e2 : ix (p.getD i 0) = ix k := op_inj (hix _ (hpat i hi)) (hix k hk) e
      have e3 := hI _ _ (hpat i hi) hk e2
      have e4 : i = p.idxOf k := by
        have h1 := hidx k hk
        have l1 := h1.1
        have e5 : p[i] = p[p.idxOf k] := by
          rw [List.getElem_idxOf l1]
          rw [List.getD_eq_getElem?_getD, List.getElem?_eq_getElem hi] at e3; exact e3
        exact (List.getElem_inj (h₀ := hi) (h₁ := l1) hpn).mp e5
      unfold codeF
      rw [← e4]; exact hc
    · intro hc
      exact List.mem_map.mpr ⟨_, hmem k hk hc, rfl⟩
  · intro k hk hc
    obtain ⟨h1, h2⟩ := hidx k hk
    have h3 := hat (p.idxOf k) (by rw [hC]; exact h1) hc
    rw [hszat _ h1, h2] at h3
    refine ⟨h3.1, (hsz k hk).1, ?_, hmem k hk hc⟩
    intro e he1 he2 q hq
    obtain ⟨i, hi, rfl, hci⟩ := (mem_nodesN hC).mp hq
    dsimp only
    by_cases hik : i = p.idxOf k
    · subst hik
      intro e9
      have h4 : codeF p C k / 16 ^ e < codeF p C k := Nat.div_lt_self (Nat.pos_of_ne_zero hc) (Nat.one_lt_pow (by lia) (by decide))
      have e9' : codeF p C k = codeF p C k / 16 ^ e := e9
      lia
    · exact Ne.symm (h3.2 i (by rw [hC]; exact hi) hik hci e (by have := hsz4 k hk; lia))
  · intro q hq
    obtain ⟨i, hi, rfl, hci⟩ := (mem_nodesN hC).mp hq
    have h3 := (hat i (by rw [hC]; exact hi) hci).1
    rw [hszat i hi] at h3
    dsimp only
    intro e
    rw [e] at h3
    have h4 : 1 < 16 ^ sz (p.getD i 0) := Nat.one_lt_pow (by have := (hsz _ (hpat i hi)).1; lia) (by decide)
    rw [Nat.div_eq_of_lt h4] at h3
    exact absurd h3 (by decide)
  · unfold nodesN
    rw [List.map_map]
    have e : ((fun x : Str × Nat => x.2) ∘ fun jc : Nat × Nat => (opS (ix jc.1), jc.2)) = Prod.snd := rfl
    rw [e]
    have e2 : ((p.zip C).filter fun jc => jc.2 != 0).map Prod.snd = C.filter (· != 0) := by
      have : (p.zip C).map Prod.snd = C := List.map_snd_zip (by lia)
      conv => rhs; rw [← this]
      rw [List.filter_map]
      rfl
    rw [e2]
    refine List.pairwise_filter.mpr (List.pairwise_iff_getElem.mpr ?_)
    intro i j hi hj hij h1 h2 h3
    have g : ∀ k (hk : k < C.length), C.getD k 0 = C[k] := fun k hk => by rw [List.getD_eq_getElem?_getD, List.getElem?_eq_getElem hk]; rfl
    have h4 := (hat i hi (by rw [g i hi]; simpa using h1)).2 j hj (by lia) (by rw [g j hj]; simpa using h2) 0 (by decide)
    rw [Nat.pow_zero, Nat.div_one, g i hi, g j hj] at h4
    exact h4 h3
  · match hp : p, hpl with
    | k0 :: r, _ =>
      have hk0 : k0 < n := hpb k0 (.head _)
      have hc : codeF (k0 :: r) C k0 ≠ 0 := by
        unfold codeF
        rw [List.idxOf_cons_self]
        cases C with
        | nil => exact hhead
        | cons c C => exact hhead
      have : k0 ∈ (List.range n).filter (hasC (k0 :: r) ix C) := List.mem_filter.mpr ⟨List.mem_range.mpr hk0, by
        unfold hasC
        rw [nodesP_all, List.map_map, decide_eq_true_iff]
        exact List.mem_map.mpr ⟨_, hmem k0 hk0 hc, rfl⟩⟩
      exact List.length_pos_of_mem this
    | [], h => exact absurd h (by simp; lia)
/-- the row of operators, by their wishes -/
noncomputable def mesM (S : List Nat) (ns : List Int) : List Nat := S ++ (ns.take 6).map fun x => S.getD (x.fmod S.length).toNat 0
theorem mes_mem {S : List Nat} (hS : 1 ≤ S.length) (ns : List Int) : ∀ k ∈ mesM S ns, k ∈ S := by
  intro k hk
  rcases List.mem_append.mp hk with h | h
  · exact h
  · obtain ⟨x, _, rfl⟩ := List.mem_map.mp h
    have h1 := fmod_lo x (n := (S.length : Int)) (by lia)
    have h2 := fmod_hi x (n := (S.length : Int)) (by lia)
    have h3 : (x.fmod S.length).toNat < S.length := by lia
    rw [List.getD_eq_getElem?_getD, List.getElem?_eq_getElem h3]
    exact List.getElem_mem h3
theorem mes_len {S : List Nat} (hS : S.length ≤ 6) (ns : List Int) : (mesM S ns).length ≤ 12 := by
  unfold mesM
  rw [List.length_append, List.length_map, List.length_take]; lia
noncomputable def figs (p C : List Nat) (sz : Nat → Nat) (M : List Nat) : List Nat := M.flatMap fun k => dg (sz k) (codeF p C k)
/-- the whole: the row is read back -/
theorem told_all (h : CodesOk p C ix sz n) {M : List Nat} (hM : ∀ k ∈ M, k < n ∧ hasC p ix C k = true) : decN (nodesN p ix C) (1, []) (figs p C sz M) = (1, M.map fun k => opS (ix k)) := by
  have := dec_all (l := nodesN p ix C) (sz := sz) (c := codeF p C) (nm := fun k => opS (ix k)) h.one h.nodup M [] (fun k hk => h.code k (hM k hk).1 ((h.has k (hM k hk).1).mp (hM k hk).2))
  exact this
end
end
section
open PySem PySem.W PySem.Spec PySem.Calls PyProof.Rows PyProof.Rows.LCg
section
variable {prog : Program} {w : World} {A : Around} {E : Value → Shared → Prop} {s : Shared} {h₀ : Heap} {L d : Addr} {m : Str → Option Value} {news : Led}
theorem pow_16 {z : Nat} {t u : Tok} {Q : Value → Shared → Prop} (h4 : z ≤ 4) (h : Q (.int ((16 ^ z : Nat) : Int) s.toks) { s with toks := s.toks + 1 }) : wpAny (model prog w) A (binaryOp .Pow (.int 16 t) (.int (z : Int) u)) Q E s := by
  refine pow_int (Int.natCast_nonneg _) ?_ ?_
  · have e : (Builtin.Int.intBits 16 : Int) = 5 := by decide +kernel
    rw [e]; omega
  · have e : (16 : Int) ^ ((z : Int)).toNat = ((16 ^ z : Nat) : Int) := by
      rw [Int.toNat_natCast]
      norm_cast
    rw [e]; exact h
theorem mul_16 {a : Int} {z : Nat} {t u : Tok} {Q : Value → Shared → Prop} (h4 : z ≤ 4) (h : Q (.int (a * ((16 ^ z : Nat) : Int)) s.toks) { s with toks := s.toks + 1 }) : wpAny (model prog w) A (binaryOp .Mult (.int a t) (.int ((16 ^ z : Nat) : Int) u)) Q E s := by
  refine mul_int h (hm := IntMulOk.of_right ?_)
  have : z = 0 ∨ z = 1 ∨ z = 2 ∨ z = 3 ∨ z = 4 := by omega
  rcases this with rfl | rfl | rfl | rfl | rfl <;> decide +kernel
theorem tot_int {T c z : Nat} (hT : 1 ≤ T) : ((T : Int) - 1) * ((16 ^ z : Nat) : Int) + (c : Int) = (((T - 1) * 16 ^ z + c : Nat) : Int) := by
  rw [Int.natCast_add, Int.natCast_mul, Int.natCast_sub hT]
  rfl
theorem kv_item {value slice : PySem.Expr} {o : Obj} {kvs : List (Str × Value)} {ps : List (Str × Int)} {k : Str} {n : Int} {u : Tok} {Q : Value → Shared → Prop} (N : News h₀ L s.heap news) (hp : (d, o) ∈ news) (hd : o.IsDictOf (PySem.strKind prog w) kvs) (hk : KvInts kvs ps) (hm : (k, n) ∈ ps) (h : ∀ t, Q (.int n t) { s with toks := s.toks + 1 })
    (hs : subscripted slice false (.ref d) (.str k u) = operate [.ref d, .str k u] (getItem (.ref d) (.str k u)) := by with_unfolding_all rfl) (hg : ∀ r, letTemporaryGo value (.ref d) r = pure () := by intro _; with_unfolding_all rfl) :
    wpAny (model prog w) A (subscriptTail value slice (.ref d) (.str k u)) Q E s := by
  obtain ⟨es, ep, _, _, _, _, hn⟩ := id hd
  obtain ⟨t, e⟩ := hk.get (by rw [← hk.keys]; exact hn) hm
  exact kda_item N hp hd (strKind_is _ _ _ _) e (h t) hs hg
theorem eq_same {x y : Value} {D : Dat} {Q : Value → Shared → Prop} (N : News h₀ L s.heap news) (Da : DatIn news x D) (Db : DatIn news y D) (hk : kqdOk 9 D = true) (hu : A.units + 64 < cLine) (h : Q (.bool true) s) : wpAny (model prog w) A (compareOp .Eq x y) Q E s := by
  obtain ⟨as, ra⟩ := kqd_in N 9 Da hk
  obtain ⟨bs, rb⟩ := kqd_in N 9 Db hk
  have la := kqd_lay 9 D hk
  have e : PyData.eqv (kqdP D) (kqdP D) = true := (kqd_eqv 9 D D 9 hk hk).mpr rfl
  refine eq_dataH ra rb ?_ ?_ hu (by rw [e]; exact h)
  · unfold SeqAt.shaped; rw [la.1, Bool.true_and]; exact decide_eq_true (Nat.le_trans la.2 (by decide))
  · unfold SeqAt.shaped; rw [la.1, Bool.true_and]; exact decide_eq_true (Nat.le_trans la.2 (by decide))
theorem served_item {D : Addr} {value slice : PySem.Expr} {zs : List Value} {S : List Nat} {f : Nat → Str} {n : Nat} {x zl : Int} {u : Tok} {Q : Value → Shared → Prop} (N : News h₀ L s.heap news) (hm : (D, W.listOf zs.toArray n) ∈ news) (hS : StrsAre zs (S.map f)) (h1 : 1 ≤ S.length) (h6 : S.length ≤ 6) (hz : zl = (S.length : Int)) (h : ∀ t, Q (.str (f (S.getD (x.fmod S.length).toNat 0)) t) s)
    (hs : subscripted slice false (.ref D) (.int (x.fmod zl) u) = operate [.ref D, .int (x.fmod zl) u] (getItem (.ref D) (.int (x.fmod zl) u)) := by with_unfolding_all rfl) :
    wpAny (model prog w) A (subscriptTail value slice (.ref D) (.int (x.fmod zl) u)) Q E s := by
  subst hz
  have l1 := fmod_lo x (n := (S.length : Int)) (by omega)
  have l2 := fmod_hi x (n := (S.length : Int)) (by omega)
  have l3 : (x.fmod S.length).toNat < S.length := by omega
  have hl : s.heap.IsList D zs.toArray := ⟨_, (N _ hm).1, rfl, n, rfl⟩
  obtain ⟨t, hx⟩ := hS.get (x.fmod S.length).toNat (f (S.getD (x.fmod S.length).toNat 0)) (by rw [List.getElem?_map, List.getD_eq_getElem?_getD, List.getElem?_eq_getElem l3]; rfl)
  exact tail_any hl.typeIs slot_list_getitem.lookup (wpAny_getItem_list hl l1 (by omega) (by simpa using hx) (h t)) hs
end
theorem strs_dat {news : Led} {vs : List Value} {ys : List Str} (h : StrsAre vs ys) : DatAll news vs (ys.map Dat.str) := by
  induction h with
  | nil => exact .nil
  | cons y t _ ih => exact .cons (.str y t) ih
theorem strs_ok {M : List Nat} {ix : Nat → Nat} : kqdOk 9 (.list ((M.map fun k => opS (ix k)).map Dat.str)) = true := by
  simp only [kqdOk, List.all_eq_true]
  intro d hd
  obtain ⟨x, hx, rfl⟩ := List.mem_map.mp hd
  obtain ⟨k, _, rfl⟩ := List.mem_map.mp hx
  exact ops_ok _
theorem size_mem {ix sz : Nat → Nat} {n k : Nat} (hk : k < n) : (opS (ix k), (sz k : Int)) ∈ (List.range n).map (sizeP ix sz) := List.mem_map.mpr ⟨k, List.mem_range.mpr hk, rfl⟩
theorem node_mem {p C : List Nat} {ix : Nat → Nat} {x : Str} {c : Nat} (h : (x, c) ∈ nodesN p ix C) : (x, (c : Int)) ∈ nodesP p ix C (p.zip C).length := by
  rw [nodesP_all]; exact List.mem_map.mpr ⟨_, h, rfl⟩
theorem kv_at {kvs : List (Str × Value)} {ps : List (Str × Int)} (h : KvInts kvs ps) {i : Nat} {k : Str} {v : Value} (hv : kvs[i]? = some (k, v)) : ∃ n t, ps[i]? = some (k, n) ∧ v = .int n t := by
  induction h generalizing i with
  | nil => cases hv
  | cons k' n' t' _ ih =>
    cases i with
    | zero => cases hv; exact ⟨n', t', rfl, rfl⟩
    | succ i => exact ih hv
/-- the frame's word: the figures but the first -/
theorem word_figs {T : Nat} {ds : List Nat} (hT : T = valN 1 ds) (hd : ∀ d ∈ ds, d < 16) : (wordOf T).cps.toList = 66 :: ds.map (65 + ·) := by
  rw [word_cps, hT, apN_val ds 1 (Nat.le_refl 1) hd, apN_eq 1 (by decide), show 1 / 16 = 0 by decide, apN_zero]
  rfl
theorem slice_tail (x : Str) (c : Nat) (l : List Nat) (h : x.cps.toList = c :: l) : Txt.slice x (some 1) none = sOf l := by
  have e : x.length = l.length + 1 := by
    show x.cps.size = _
    rw [← Array.length_toList, h]; rfl
  rw [beq_iff_eq.mp (slice_closes_fromL (x := x) (i := 1) (by decide) (by omega) rfl), h, e]
  show (⟨(List.take _ l).toArray⟩ : Str) = sOf l
  rw [List.take_of_length_le (by omega)]
  rfl
theorem sign_fig {ds : List Nat} {i c : Nat} (h : (sOf (ds.map (65 + ·))).cps[i]? = some c) : ∃ d, ds[i]? = some d ∧ c = 65 + d := by
  unfold sOf at h
  dsimp only at h
  rw [List.getElem?_toArray, List.getElem?_map] at h
  cases e : ds[i]? with
  | none => rw [e] at h; cases h
  | some d => rw [e] at h; exact ⟨d, rfl, (Option.some.inj h).symm⟩
theorem nodes_at {p C : List Nat} {ix : Nat → Nat} {j : Nat} {k : Str} {n : Int} (h : (nodesP p ix C (p.zip C).length)[j]? = some (k, n)) : ∃ c, (nodesN p ix C)[j]? = some (k, c) ∧ n = (c : Int) := by
  rw [nodesP_all, List.getElem?_map] at h
  cases e : (nodesN p ix C)[j]? with
  | none => rw [e] at h; cases h
  | some q =>
    rw [e] at h
    have h := Option.some.inj h
    have h1 := congrArg Prod.fst h
    have h2 := congrArg Prod.snd h
    dsimp only at h1 h2
    exact ⟨q.2, by rw [← h1], h2.symm⟩
theorem cnt_count (c : Nat) : ∀ l : List Nat, cnt c l = ((l.count c : Nat) : Int)
  | [] => rfl
  | a :: l => by
    rw [cnt_cons, cnt_count c l, List.count_cons]
    by_cases h : a = c
    · subst h; simp; omega
    · have : (a == c) = false := beq_eq_false_iff_ne.mpr h
      rw [if_neg h, this]; simp
theorem line_eq {x : Str} {i : Nat} (h : x.length < i) : lnS x i = 1 + Txt.count x (Str.ofString "\n") := by
  rw [lnS_end h, show Str.ofString "\n" = ⟨#[10]⟩ by decide +kernel, count_cnt, cnt_count]
theorem off_upd {a : Addr × Obj} {D I : Addr} {o o' : Obj} {r : Led} (h : ∀ p ∈ a :: (D, o) :: r, p.1 ≠ I) : ∀ p ∈ a :: (D, o') :: r, p.1 ≠ I := by
  intro p hp
  rcases List.mem_cons.mp hp with rfl | hp
  · exact h _ (.head _)
  rcases List.mem_cons.mp hp with rfl | hp
  · exact h (D, o) (.tail _ (.head _))
  · exact h _ (.tail _ (.tail _ hp))
theorem off_upd1 {D I : Addr} {o o' : Obj} {r : Led} (h : ∀ p ∈ (D, o) :: r, p.1 ≠ I) : ∀ p ∈ (D, o') :: r, p.1 ≠ I := by
  intro p hp
  rcases List.mem_cons.mp hp with rfl | hp
  · exact h (D, o) (.head _)
  · exact h _ (.tail _ hp)
theorem inn_take {α : Type} {l : List (α × Nat)} {st : Nat × List α} {i : Nat} {a : α} {c : Nat} (h : l[i]? = some (a, c)) : inn (l.take (i + 1)) st = if c = (inn (l.take i) st).1 then (1, (inn (l.take i) st).2 ++ [a]) else inn (l.take i) st := by
  unfold inn
  rw [take_snoc h, List.foldl_append]
  rfl
theorem dec_take {α : Type} {l : List (α × Nat)} {st : Nat × List α} {ds : List Nat} {i d : Nat} (h : ds[i]? = some d) : decN l st (ds.take (i + 1)) = inn l (16 * (decN l st (ds.take i)).1 + d, (decN l st (ds.take i)).2) := by
  unfold decN
  rw [take_snoc h, List.foldl_append]
  rfl
theorem nodes_len {p C : List Nat} {ix : Nat → Nat} : (nodesN p ix C).length ≤ p.length := by
  unfold nodesN
  rw [List.length_map]
  refine Nat.le_trans (List.length_filter_le _ _) ?_
  rw [List.length_zip]; omega
end
section
open PySem PySem.W PySem.Spec PySem.Calls PyProof.Rows PyProof.Rows.LCg
theorem fill_17 : (fun (_ : OpenLaw) (_ : Params → Frag) => True) PySem.Challenge.rw_ta0019_01 heapK := by k_fill; trivial
theorem words_F17 : True := by
  w_top off
  k_with_none
  k_with "go" => (first | walk1 | (dsimp only; walk1) | (leave1; walk_say "STEP leave1"; try dsimp only))
  k_with "no comp" => ((fail_if_success (with_reducible show wpAny _ _ (eval (PySem.Expr.ListComp _ _ _ _) _) _ _ _)); (fail_if_success (with_reducible show wpAny _ _ (eval (PySem.Expr.DictComp _ _ _ _ _) _) _ _ _)))
  k_with "my steps" => (repeat' (first | ((fail_if_success (with_reducible show LeaveK _ _ _ _ _ _ _)); (first | (k_unfold; (try dsimp only)) | (k_end; wrow_close) | (k_extra "no comp"; k_extra "go"))) | fail "no step"))
  trivial

theorem lexer_at (w mean mg mb) (st a0 : Addr) :
    Does w mean mg mb 3 69 [.ref st] [] (fun h => ∃ o, h.get? a0 = some o) (fun r nw => Sm2 fun (χ : Lx) (t : Tok) => Al5 (r = .ref χ.x) (nw = [(χ.pb, W.listOf #[] 0), (χ.x, instObj 69 χ.dx), (χ.dx, χ.dict w st 1 t)]) (χ.dx < χ.x) (χ.x < χ.pb) (a0 < χ.dx)) := by
  unfold Does
  intro dp un gd cn cs a ccd cl outer A₀ base h₀ L m s Q E hB hF hK hN hT hcs hdp hun hpre hret
  k_dflt walk_at "my call cls"
  k_extra "my steps"
  rename Fr _ _ _ _ => F9
  rename News _ _ _ _ => N9
  rename GSub _ _ _ => G9
  refine leaveK_ F9 N9 ?_
  intro kF kN
  obtain ⟨k9, n9⟩ := does_end F9 N9 G9
  rename (∀ (b : Addr) (o : Obj), s.heap.get? b = some o → b < _) => kq
  rename (∀ (b : Addr) (o : Obj), s.heap.get? b = some o → Heap.get? _ b = some o) => kp
  obtain ⟨oa, ha0⟩ := hpre
  refine ⟨rfl, ?_⟩
  refine hret _ _ _ _ (fun b o e _ => k9 b o (kp b o e) ?_) kF kN (fun p hp => ?_) ⟨⟨_, _, _, _, _, _, _, _⟩, _, rfl, rfl, ?_, ?_, kq _ _ ha0⟩
  · intro hb
    have l3 := kq b o e
    rcases List.mem_cons.mp hb with q | hb
    · have q' : b = _ := q
      rw [q'] at l3; exact absurd (Nat.lt_trans l3 (by assumption)) (Nat.lt_irrefl _)
    · have q' : b = _ := List.mem_singleton.mp hb
      rw [q'] at l3; exact Nat.lt_irrefl _ l3
  · right
    rcases n9 p hp with q | q
    · cases e : s.heap.get? p.1 with
      | none => rfl
      | some o =>
        have l3 := kq _ _ e
        rcases List.mem_cons.mp q with q | hb
        · rw [q] at l3; exact absurd (Nat.lt_trans l3 (by assumption)) (Nat.lt_irrefl _)
        · have q' : p.1 = _ := List.mem_singleton.mp hb
          rw [q'] at l3; exact absurd l3 (Nat.lt_irrefl _)
    · cases e : s.heap.get? p.1 with
      | none => rfl
      | some o => have := kp _ _ e; rw [show _ = _ from q] at this; cases this
  · assumption
  · exact And.left (by assumption)
end
section
open PySem PySem.W PySem.Spec PySem.Calls PyProof.Rows
theorem said_ok : PySem.Challenge.rw_ta0019_01.wellSaid = true := by kernel_rfl
theorem chains_ok : (chainsOk viewQ && opensWell PySem.Challenge.rw_ta0019_01.row.prog && (frees PySem.Challenge.rw_ta0019_01.row.toRowW && PySem.Challenge.rw_ta0019_01.row.within.isEmpty)) = true := by decide +kernel
theorem bare_ok : PySem.Challenge.rw_ta0019_01.row.prog.bare := ⟨rfl, rfl, rfl, rfl, rfl, by decide +kernel⟩
theorem witn : PySem.Challenge.rw_ta0019_01.row.toRowW.promised := by w_witness2
@[reducible] noncomputable def dLaw : (d : DefRec) ×' (defOf viewQ PySem.Challenge.rw_ta0019_01.row.name = some (d, [])) := ⟨_, by rfl⟩
theorem head_all (hc : WalkO viewQ looseN (XL viewQ []) HK.says PySem.Challenge.rw_ta0019_01.row.toRowW dLaw.1 [] fun f vs => PySem.call f vs) : PySem.Challenge.rw_ta0019_01.Holds :=
  holds_law said_ok fun said => holds_open (q := viewQ) (loose := looseN) (Xt := XtQ) (XP := XL viewQ []) (Yf := HK.obs) (Ya := HK.val) (YP := HK.says) (N := 4394) left_all HK.of HK.keeps (fun s e => xl_of s (Bool.and_eq_true_iff.mp e).1) XL.keeps dLaw.2 (by rfl) (by rfl) (fun s e => recFacts_of (Bool.and_eq_true_iff.mp e).2) (by rfl) said chains_ok bare_ok witn hc
end
section
open PySem PySem.W PySem.Spec PySem.Calls PyProof.Rows PyProof.Rows.LCg
theorem fill_16 : (fun (_ : OpenLaw) (_ : Params → Frag) => True) PySem.Challenge.rw_ta0019_01 heapK := by k_fill; trivial
theorem words_F16 : True := by
  w_top off
  k_with_none
  k_with "go" => (first | walk1 | (dsimp only; walk1) | (leave1; walk_say "STEP leave1"; try dsimp only))
  k_with "no comp" => ((fail_if_success (with_reducible show wpAny _ _ (eval (PySem.Expr.ListComp _ _ _ _) _) _ _ _)); (fail_if_success (with_reducible show wpAny _ _ (eval (PySem.Expr.DictComp _ _ _ _ _) _) _ _ _)))
  k_with "no for" => ((fail_if_success (with_reducible show wpAny _ _ (exec (PySem.Stmt.For _ _ _ _ _) _) _ _ _)))
  k_with "no while" => ((fail_if_success (with_reducible show wpAny _ _ (exec (PySem.Stmt.While _ _ _ _) _) _ _ _)))
  k_with "no asg" => ((fail_if_success (with_reducible show wpAny _ _ (exec (PySem.Stmt.Assign _ (PySem.Expr.ListComp _ _ _ _) _) _) _ _ _)); (fail_if_success (with_reducible show wpAny _ _ (exec (PySem.Stmt.Assign _ (PySem.Expr.DictComp _ _ _ _ _) _) _) _ _ _)))
  k_with "no ref" => ((fail_if_success (with_reducible show wpAny _ _ (call (PySem.Value.ref _) _) _ _ _)))
  k_with "no cmp" => ((fail_if_success (with_reducible show wpAny _ _ (compareOp _ _ _) _ _ _)); (fail_if_success (with_reducible show wpAny _ _ (call (PySem.Value.builtin _) _) _ _ _)))
  k_with "no iter" => ((fail_if_success (with_reducible show wpAny _ _ (pyIter _) _ _ _)))
  k_with "my steps" => (repeat' (first | ((fail_if_success (with_reducible show LeaveK _ _ _ _ _ _ _)); (first | (k_unfold; (try dsimp only)) | (k_end; wrow_close) | (k_extra "no comp"; k_extra "go"))) | fail "no step"))
  k_with "my steps iter" => (repeat' (first | ((fail_if_success (with_reducible show LeaveK _ _ _ _ _ _ _)); (first | (k_unfold; (try dsimp only)) | (k_end; wrow_close) | (k_extra "no comp"; k_extra "no iter"; k_extra "go"))) | fail "no step"))
  k_with "my steps asg" => (repeat' (first | ((fail_if_success (with_reducible show LeaveK _ _ _ _ _ _ _)); (first | (k_unfold; (try dsimp only)) | (k_end; wrow_close) | (k_extra "no for"; k_extra "no while"; k_extra "no asg"; k_extra "no comp"; k_extra "go"))) | fail "no step"))
  k_with "my steps law" => (repeat' (first | ((fail_if_success (with_reducible show LeaveK _ _ _ _ _ _ _)); (first | (k_unfold; (try dsimp only)) | (k_end; wrow_close) | (k_extra "no ref"; k_extra "no for"; k_extra "no while"; k_extra "no asg"; k_extra "no comp"; k_extra "go"))) | fail "no step"))
  k_with "my steps end" => (repeat' (first | ((fail_if_success (with_reducible show LeaveK _ _ _ _ _ _ _)); (first | (k_unfold; (try dsimp only)) | (k_end; wrow_close) | (k_extra "no ref"; k_extra "no cmp"; k_extra "no for"; k_extra "no while"; k_extra "no asg"; k_extra "no comp"; k_extra "go"))) | fail "no step"))
  k_with "my mem" => (first | assumption | exact List.Mem.head _ | (refine List.Mem.tail _ ?_; k_extra "my mem") | (refine List.mem_append_right _ ?_; k_extra "my mem"))
  k_with "spec" => (exact written_gives _ _ _ _ _ _ _ _ _ (by assumption) (by assumption) (by assumption))
  k_with "my call ref" => (k_here; (try dsimp only [List.append_nil]); (with_reducible show wpAny _ _ (call (Value.ref 97) _) _ _ _); k_dflt (walk_at "gives"); rintro _ _ _ _ _ _ ⟨rfl, _, rfl⟩; (try dsimp only); (try k_fold))
  k_with "spec" => (exact word_neg _ _ _ _ _ _ _ (by assumption))
  k_with "my call ref" => (k_here; (try dsimp only [List.append_nil]); (with_reducible show wpAny _ _ (call (Value.ref 85) _) _ _ _); k_dflt (walk_at "gives"); rintro _ _ _ _ _ _ ⟨rfl, _, rfl⟩; (try dsimp only); (try k_fold))
  k_with "my binaryOp Add str str" => ((with_reducible show wpAny _ _ (binaryOp Operator.Add (Value.str _ _) (Value.str _ _)) _ _ _); (refine PyProof.Rows.add_str (hsz := by rw [sizeLine_eq]; lia) ?_); intro _ _)
  k_with "my call builtin:len" => (k_here; (with_reducible show wpAny _ _ (call (Value.builtin _) [Value.ref _]) _ _ _); k_dflt (refine len_list (News.isList (by k_asm) (by k_extra "my mem")) (by rw [List.size_toArray]; lia) ?_))
  k_with "my compareOp In str ref" => (k_here; (with_reducible show wpAny _ _ (compareOp CmpOp.In (Value.str _ _) (Value.ref _)) _ _ _); k_dflt (refine kda_in (knd := PySem.strKind _ _) (by k_asm) (by k_extra "my mem") (by assumption) (by assumption) (strKind_is _ _ _ _) _ (by exact KvInts.some (by assumption) _) ?_))
  k_with "my binaryOp Pow int int" => (k_here; (with_reducible show wpAny _ _ (binaryOp Operator.Pow (Value.int 16 _) (Value.int (Nat.cast _) _)) _ _ _); refine pow_16 (by assumption) ?_)
  k_with "my binaryOp Mult int int" => (k_here; (with_reducible show wpAny _ _ (binaryOp Operator.Mult (Value.int _ _) (Value.int (Nat.cast (16 ^ _)) _)) _ _ _); refine mul_16 (by assumption) ?_)
  k_with "my subscriptTail" => (k_here; (with_reducible show wpAny _ _ (subscriptTail _ _ (Value.ref _) (Value.str _ _)) _ _ _); k_dflt (refine kv_item (by k_asm) (by k_extra "my mem") (by assumption) (by assumption) (by assumption) ?_); intro _)
  k_with "my subscriptTail" => (k_here; (with_reducible show wpAny _ _ (subscriptTail _ _ (Value.ref _) (Value.int (Int.fmod _ _) _)) _ _ _); refine served_item (by k_asm) (by k_extra "my mem") (by assumption) (by assumption) (by assumption) (by lia) ?_; intro _)
  trivial

noncomputable abbrev mL (l : Addr) (c0 c1 c2 c3 c4 c5 c6 c7 c8 c9 c10 c11 c12 : Option Value) : Str → Option Value := fun y => if y = Str.ofString "script" then some (.ref l) else if y = Str.ofString "base" then c0 else if y = Str.ofString "wishes" then c1 else if y = Str.ofString "text" then c2 else if y = Str.ofString "lexer" then c3 else if y = Str.ofString "codes" then c4 else if y = Str.ofString "left" then c5 else if y = Str.ofString "sizes" then c6 else if y = Str.ofString "message" then c7 else if y = Str.ofString "total" then c8 else if y = Str.ofString "name" then c9 else if y = Str.ofString "node" then c10 else if y = Str.ofString "told" then c11 else if y = Str.ofString "sign" then c12 else none
theorem mL_norm {m' : Str → Option Value} {l : Addr} {c0 c1 c2 c3 c4 c5 c6 c7 c8 c9 c10 c11 c12 : Option Value} (h0 : m' (Str.ofString "script") = some (.ref l)) (h1 : m' (Str.ofString "base") = c0) (h2 : m' (Str.ofString "wishes") = c1) (h3 : m' (Str.ofString "text") = c2) (h4 : m' (Str.ofString "lexer") = c3) (h5 : m' (Str.ofString "codes") = c4) (h6 : m' (Str.ofString "left") = c5) (h7 : m' (Str.ofString "sizes") = c6) (h8 : m' (Str.ofString "message") = c7) (h9 : m' (Str.ofString "total") = c8) (h10 : m' (Str.ofString "name") = c9) (h11 : m' (Str.ofString "node") = c10) (h12 : m' (Str.ofString "told") = c11) (h13 : m' (Str.ofString "sign") = c12)
    (hz : ∀ y, y ≠ Str.ofString "script" → y ≠ Str.ofString "base" → y ≠ Str.ofString "wishes" → y ≠ Str.ofString "text" → y ≠ Str.ofString "lexer" → y ≠ Str.ofString "codes" → y ≠ Str.ofString "left" → y ≠ Str.ofString "sizes" → y ≠ Str.ofString "message" → y ≠ Str.ofString "total" → y ≠ Str.ofString "name" → y ≠ Str.ofString "node" → y ≠ Str.ofString "told" → y ≠ Str.ofString "sign" → m' y = none) : ∀ y, m' y = mL l c0 c1 c2 c3 c4 c5 c6 c7 c8 c9 c10 c11 c12 y := by
  intro y
  by_cases e0 : y = Str.ofString "script"
  · subst e0; exact h0
  by_cases e1 : y = Str.ofString "base"
  · subst e1; exact h1
  by_cases e2 : y = Str.ofString "wishes"
  · subst e2; exact h2
  by_cases e3 : y = Str.ofString "text"
  · subst e3; exact h3
  by_cases e4 : y = Str.ofString "lexer"
  · subst e4; exact h4
  by_cases e5 : y = Str.ofString "codes"
  · subst e5; exact h5
  by_cases e6 : y = Str.ofString "left"
  · subst e6; exact h6
  by_cases e7 : y = Str.ofString "sizes"
  · subst e7; exact h7
  by_cases e8 : y = Str.ofString "message"
  · subst e8; exact h8
  by_cases e9 : y = Str.ofString "total"
  · subst e9; exact h9
  by_cases e10 : y = Str.ofString "name"
  · subst e10; exact h10
  by_cases e11 : y = Str.ofString "node"
  · subst e11; exact h11
  by_cases e12 : y = Str.ofString "told"
  · subst e12; exact h12
  by_cases e13 : y = Str.ofString "sign"
  · subst e13; exact h13
  rw [hz y e0 e1 e2 e3 e4 e5 e6 e7 e8 e9 e10 e11 e12 e13]; simp [mL, e0, e1, e2, e3, e4, e5, e6, e7, e8, e9, e10, e11, e12, e13]

theorem sub_text {a b c d e : Addr × Obj} {t : Led} : ∀ p ∈ (b :: (t ++ c :: d :: [])) ++ [e], p ∈ a :: b :: (t ++ c :: d :: e :: []) := by
  intro p hp
  simp only [List.cons_append, List.mem_append, List.mem_cons, List.not_mem_nil, or_false] at hp ⊢
  rcases hp with h | (h | h | h) | h <;> simp [h]
theorem codehd_keep {H g : Heap} {c P : Addr} (C : CodeHd H c P) (G : ∀ o, H.get? c = some o → g.get? c = some o) : CodeHd g c P :=
  let ⟨o, vs, file, tf, flags, tg, inF, text, tt, e, r⟩ := C; ⟨o, vs, file, tf, flags, tg, inF, text, tt, G _ e, r⟩
theorem sub_lexer {x y z b c d : Addr × Obj} {t g : Led} : ∀ p ∈ b :: (t ++ c :: d :: (x :: y :: z :: g)), p ∈ [x, y, z] ++ ((b :: (t ++ c :: d :: [])) ++ g) := by
  intro p hp
  simp only [List.cons_append, List.nil_append, List.mem_append, List.mem_cons, List.not_mem_nil, or_false] at hp ⊢
  rcases hp with h | h | h | h | h | h | h | h <;> simp [h]
theorem sub_codes {b c d : Addr × Obj} {t g : Led} : ∀ p ∈ (b :: (t ++ c :: d :: [])) ++ g, p ∈ b :: (t ++ c :: d :: g) := by
  intro p hp
  simp only [List.cons_append, List.nil_append, List.mem_append, List.mem_cons, List.not_mem_nil, or_false] at hp ⊢
  rcases hp with h | (h | h | h) | h <;> simp [h]
theorem sub_back {x y z b c d : Addr × Obj} {t g : Led} : ∀ p ∈ x :: y :: z :: b :: (t ++ c :: d :: g), p ∈ (b :: (t ++ c :: d :: [])) ++ (x :: y :: z :: g) := by
  intro p hp
  simp only [List.cons_append, List.nil_append, List.mem_append, List.mem_cons, List.not_mem_nil, or_false] at hp ⊢
  rcases hp with h | h | h | h | h | h | h | h <;> simp [h]
theorem sub_due {f x y z b c d : Addr × Obj} {t g : Led} : ∀ p ∈ b :: t, p ∈ f :: x :: y :: z :: b :: (t ++ c :: d :: g) := by
  intro p hp
  simp only [List.mem_append, List.mem_cons] at hp ⊢
  rcases hp with h | h <;> simp [h]
theorem sub_due2 {f x y z b c d : Addr × Obj} {t g : Led} : ∀ p ∈ (f :: y :: z :: c :: d :: g) ++ (b :: t), p ∈ f :: x :: y :: z :: b :: (t ++ c :: d :: g) := by
  intro p hp
  simp only [List.cons_append, List.mem_append, List.mem_cons] at hp ⊢
  rcases hp with h | h | h | h | h | h | h | h <;> simp [h]
theorem sub_cell {x y c d : Addr × Obj} {r : Led} : ∀ p ∈ c :: d :: x :: y :: r, p ∈ x :: y :: d :: c :: r := by
  intro p hp
  simp only [List.mem_cons] at hp ⊢
  rcases hp with h | h | h | h | h <;> simp [h]
theorem sub_cell2 {a b c : Addr × Obj} {r : Led} : ∀ p ∈ b :: c :: a :: r, p ∈ a :: c :: b :: r := by
  intro p hp
  simp only [List.mem_cons] at hp ⊢
  rcases hp with h | h | h | h <;> simp [h]
theorem ints_at {vs : List Value} {ns : List Int} (h : IntsAre vs ns) {i : Nat} {v : Value} (hv : vs[i]? = some v) : ∃ x t, ns[i]? = some x ∧ v = .int x t := by
  induction h generalizing i with
  | nil => cases hv
  | cons n t _ ih =>
    cases i with
    | zero => exact ⟨n, t, rfl, (Option.some.inj hv).symm⟩
    | succ i => exact ih hv
theorem sub_mes {a b c d e f g i Wd9 : Addr × Obj} {t r : Led} : ∀ p ∈ d :: f :: g :: r, p ∈ a :: b :: c :: d :: e :: f :: g :: i :: Wd9 :: (t ++ r) := by
  intro p hp
  simp only [List.mem_cons, List.mem_append] at hp ⊢
  rcases hp with h | h | h | h <;> simp [h]
theorem ints_get {vs : List Value} {ns : List Int} (h : IntsAre vs ns) {i : Nat} {v : Value} (hv : vs[i]? = some v) : ∃ x t, v = .int x t := by
  induction h generalizing i with
  | nil => cases hv
  | cons n t _ ih =>
    cases i with
    | zero => exact ⟨n, t, (Option.some.inj hv).symm⟩
    | succ i => exact ih hv
theorem law_holds : PySem.Challenge.rw_ta0019_01.Holds := by
  refine head_all ?_
  dsimp only [dLaw]
  k_go0
  refine hide ?_
  intro Q9 E9 hQ9
  k_extra "my steps asg"
  rename Fr _ _ _ _ => F1
  rename News _ _ _ _ => N1
  rename_i w s0 s1 mg mb G Y fa o pm cd doc ho hcd hg X V T B TE TW ns hs hlay0 hL1 hr1 hl2 q6 q5 l vs q2 hL ra w1 r0 hI hr hc1 hc0 hD h1 tk1 oS oN dS dN X0 XX TT BB l0
  obtain ⟨v1, v2, v3, v4, v5, v6, v7, v8, v9, v10, v11, v12, v13, FL⟩ : Sm13 fun v1 v2 v3 v4 v5 v6 v7 v8 v9 v10 v11 v12 v13 => Fr (ghostOf s1.heap [(79, 75)]) s1.heap.objs.size h1 (mL l v1 v2 v3 v4 v5 v6 v7 v8 v9 v10 v11 v12 v13) := ⟨_, _, _, _, _, _, _, _, _, _, _, _, _, fr_eq F1 (mL_norm rfl rfl rfl rfl rfl rfl rfl rfl rfl rfl rfl rfl rfl rfl (by intro y e0 e1 e2 e3 e4 e5 e6 e7 e8 e9 e10 e11 e12 e13; exact if_neg e0))⟩
  clear F1
  have hlen63 : ns.length ≤ 63 := by lia
  have hvl : vs.length = ns.length := hI.length
  refine ListComp_G (cl := []) FL rfl (by decide) rfl (by decide) ?_ (by intro _; rfl)
  k_extra "my steps iter"
  rename Fr _ _ _ _ => F2
  rename News _ _ _ _ => N2
  rename_i D2 ws h2 hI2 hC2 hL2 l2
  refine' src_list (vs := ws) (J := fun i ys nw => nw = [(D2, W.listOf ws.toArray 0), (s1.heap.objs.size + 1 + 1, oS), (s1.heap.objs.size + 1, oN), (75, tabObj #[])] ∧ ∃ ms, IntsAre ys ms) rfl (by rw [sizeLine_eq, hI2.length]; lia) F2 N2 ⟨rfl, [], .nil⟩ ?hsrcA ?kkA
  case hsrcA =>
    rintro i2 ys nw ⟨e2, _⟩
    subst e2
    exact .inr ⟨_, .head _, rfl, _, rfl⟩
  case kkA =>
    intro o St X
    (try k_unfold)
    refine ⟨_, _, _, _, _, _, _, rfl, X, ?_, ?_⟩
    · rintro i2 v ys nw hi2 hv ⟨e2, ms, hms⟩
      subst e2
      obtain ⟨x9, t9, rfl⟩ := ints_get hI2 hv
      refine ⟨_, Binds.name rfl rfl, ?_⟩
      intro oI2 C oC2 D3 m₂ h tk E' hoC hloc F3 N3 off2 ne
      have hx2 := hloc _ (List.mem_singleton.mpr rfl)
      refine wpAny_tests_nil ?_
      simp only [if_true]
      refine hide ?_
      intro Q7 E7 hQ7
      dsimp only at hx2
      k_extra "my steps"
      rename Fr _ _ _ _ => F4
      rename News _ _ _ _ => N4
      exact hQ7 _ _ ⟨_, _, _, _, _, rfl, F4, hoC, N4, off2, rfl, _, hms.append (.cons _ _ .nil)⟩
    · rintro D3 h tk ys nw F3 N3 o2' ⟨e2, ms, hms⟩
      subst e2
      clear X F2 N2
      k_extra "my steps law"
      rename Fr _ _ _ _ => F4
      rename News _ _ _ _ => N4
      refine Does.use (m := ?mm1) (wishes_does w _ _ _ l vs ns hI hlen63 (2 + ms.sum.fmod 2) _ (by have h1 := fmod_lo ms.sum (n := 2) (by decide); have h2 := fmod_hi ms.sum (n := 2) (by decide); lia)) BB ?kF1 XX (fun _ hp => nomatch hp) TT rfl ?kd1 ?ku1 ?kp1 ?ret1
      case kF1 => exact F4
      case kp1 => exact lifted.at fun o e => F4.keep _ _ e
      case kd1 => ktr_room
      case ku1 => ktr_units
      case ret1 =>
        rintro r h5 tk5 nw k5 F5 N5 n5 ⟨Wd, rs, kw, wt, wl, rfl, rfl, hWD, hWn, hWG, hWl⟩
        have N6 := news_after (mu := []) N4 k5 (fun _ _ h => nomatch h) N5
        have o6 := off_after (mu := []) N4 (fun _ _ h => nomatch h) n5
        clear F4 N4 N5
        have hb : 2 + ms.sum.fmod 2 = 2 ∨ 2 + ms.sum.fmod 2 = 3 := by
          have h1 := fmod_lo ms.sum (n := 2) (by decide)
          have h2 := fmod_hi ms.sum (n := 2) (by decide)
          lia
        generalize hbe : 2 + ms.sum.fmod 2 = b at *
        obtain ⟨ix, sz, dr, hwl, hix, hI2', hsz, hdr⟩ := wish_funs hb hWG
        rw [hwl] at hWD
        have hn3 : 3 ≤ wl.length := by lia
        have hn6 : wl.length ≤ 6 := by lia
        clear hwl hWG hWl
        generalize hn : wl.length = n at *
        have hsz4 : ∀ k, k < n → 1 ≤ sz k ∧ sz k ≤ 4 := fun k hk => ⟨(hsz k hk).1, Nat.le_trans (hsz k hk).2 (by lia)⟩
        k_extra "my steps law"
        rename Fr _ _ _ _ => F7
        rename News _ _ _ _ => N7
        obtain ⟨tb, F8⟩ : ∃ tb, Fr (ghostOf s1.heap [(79, 75)]) s1.heap.objs.size _ (mL l (some (.int b tb)) (some (.ref Wd)) v3 v4 v5 v6 v7 v8 v9 v10 v11 v12 v13) := ⟨_, fr_eq F7 (mL_norm rfl rfl rfl rfl rfl rfl rfl rfl rfl rfl rfl rfl rfl rfl (by intro y e0 e1 e2 e3 e4 e5 e6 e7 e8 e9 e10 e11 e12 e13; simp [mL, e0, e1, e2, e3, e4, e5, e6, e7, e8, e9, e10, e11, e12, e13]))⟩
        have N8 := news_sub (l' := (Wd, W.listOf rs.toArray kw) :: (wt ++ (s1.heap.objs.size + 1 + 1, oS) :: (s1.heap.objs.size + 1, oN) :: (75, tabObj #[]) :: [])) N7 (fun p hp => by
          simp only [List.cons_append, List.mem_append, List.mem_cons] at hp ⊢
          rcases hp with h | h | h | h | h | h <;> simp [h])
        clear F7 N7
        have hrl : rs.length = n := by rw [hWD.length, List.length_map, List.length_range]
        refine ListComp_G (cl := []) F8 rfl (by decide) rfl (by decide) ?_ (by intro _; rfl)
        k_extra "my steps iter"
        rename Fr _ _ _ _ => F9
        rename News _ _ _ _ => N9
        refine' src_list (vs := rs) (J := fun i zs nw => nw = (Wd, W.listOf rs.toArray kw) :: (wt ++ (s1.heap.objs.size + 1 + 1, oS) :: (s1.heap.objs.size + 1, oN) :: (75, tabObj #[]) :: []) ∧ StrsAre zs ((List.range i).map (piece ix sz dr))) rfl (by rw [sizeLine_eq]; lia) F9 N9 ⟨rfl, .nil⟩ ?hsrcB ?kkB
        case hsrcB =>
          rintro i2 zs nw ⟨e2, _⟩
          subst e2
          exact .inr ⟨_, .head _, rfl, _, rfl⟩
        case kkB =>
          intro o St X
          (try k_unfold)
          refine ⟨_, _, _, _, _, _, _, rfl, X, ?_, ?_⟩
          · rintro i2 v zs nw hi2 hv ⟨e2, hzs⟩
            subst e2
            have hi3 : i2 < n := hrl ▸ hi2
            obtain ⟨v', hv', hd⟩ := hWD.get (k := i2) (by simpa using hi3)
            rw [hv] at hv'
            cases hv'
            rw [List.getElem_map, List.getElem_range] at hd
            obtain ⟨a9, t91, t92, t93, n9, rfl, hm9⟩ := wish_tup hd
            have ho := op_len (hix i2 hi3)
            have hq := wd_len (hsz4 i2 hi3).1 (hsz4 i2 hi3).2
            have ho1 := ho.1
            have ho2 := ho.2
            have hq1 := hq.1
            have hq2 := hq.2
            have hd8 : 0 ≤ (dr i2).fdiv 8 := Int.fdiv_nonneg (hdr i2 hi3) (by decide)
            have hd5 : 0 ≤ (dr i2).fdiv 5 := Int.fdiv_nonneg (hdr i2 hi3) (by decide)
            have hl1 := written_len _ ((dr i2).fdiv 8) ho2 ho1
            have hl2 := written_len _ ((dr i2).fdiv 5) hq2 hq1
            have hs6 : sz i2 < 2 ^ 200 := Nat.lt_of_le_of_lt (hsz4 i2 hi3).2 (by decide)
            refine ⟨_, Binds.tup3 rfl (.tail _ (List.mem_append_left _ hm9)) rfl rfl rfl (by decide) (by decide) (by decide) rfl, ?_⟩
            clear X F9 N9
            intro oI2 C oC2 D4 m₂ h tk E' hoC hloc F3 N3 off2 ne
            have hx1 := hloc _ (.head _)
            have hx2 := hloc _ (.tail _ (.head _))
            have hx3 := hloc _ (.tail _ (.tail _ (.head _)))
            refine wpAny_tests_nil ?_
            simp only [if_true]
            refine hide ?_
            intro Q7 E7 hQ7
            dsimp only at hx1 hx2 hx3
            k_extra "my steps"
            rename Fr _ _ _ _ => F4
            rename News _ _ _ _ => N4
            exact hQ7 _ _ ⟨_, _, _, _, _, rfl, F4, hoC, N4, off2, rfl, by rw [List.range_succ, List.map_append]; exact strs_snoc hzs (piece ix sz dr i2) _⟩
          · rintro D4 h tk zs nw F3 N3 o2'' ⟨e2, hzs⟩
            subst e2
            clear F9 N9 X
            rw [hrl] at hzs
            k_extra "my steps law"
            refine join_listW (News.isList N3 (.head _)) hzs (by decide) (pieces_weight ix sz dr n hn6 hix hsz4) ?_
            intro t' k'
            rw [show Txt.join (Str.ofString "") ((List.range n).map (piece ix sz dr)) = textS ix sz dr n from rfl]
            have hlen := text_len (dr := dr) hix hsz4
            have hToks := text_toks (dr := dr) hn3 hix hsz4
            generalize textS ix sz dr n = tx at *
            have N5 := news_sub (l' := ((Wd, W.listOf rs.toArray kw) :: (wt ++ (s1.heap.objs.size + 1 + 1, oS) :: (s1.heap.objs.size + 1, oN) :: [])) ++ [(75, tabObj #[])]) N3 sub_text
            clear N3
            k_extra "my steps law"
            rename Fr _ _ _ _ => F6
            rename News _ _ _ _ => N6
            have hWT : ∀ p ∈ ((Wd, W.listOf rs.toArray kw) :: (wt ++ (s1.heap.objs.size + 1 + 1, oS) :: (s1.heap.objs.size + 1, oN) :: [])), p.1 ≠ 75 := by
              intro p hp
              have hh : ∀ q ∈ (Wd, W.listOf rs.toArray kw) :: wt, q.1 ≠ 75 := fun q hq => o6 q hq (75, tabObj #[]) (by simp)
              rcases List.mem_cons.mp hp with rfl | hp
              · exact hh _ (.head _)
              rcases List.mem_append.mp hp with hp | hp
              · exact hh _ (.tail _ hp)
              rcases List.mem_cons.mp hp with rfl | hp
              · exact Nat.ne_of_gt (Nat.lt_succ_of_lt (Nat.lt_succ_of_lt l0))
              · rw [List.mem_singleton.mp hp]; exact Nat.ne_of_gt (Nat.lt_succ_of_lt l0)
            refine Does.use (m := ?mm2) (mu := [(75, tabObj #[])]) (stream_does w _ _ _ tx _ (by lia)) BB ?kF2 XX ?kN2 TT rfl ?kd2 ?ku2 ?kp2 ?ret2
            case kF2 => exact F6
            case kN2 => exact fun p hp => N6 p (List.mem_append_right _ hp)
            case kp2 => exact codehd_keep codeHd fun o e => F6.keep _ _ e
            case kd2 => ktr_room
            case ku2 => ktr_units
            case ret2 =>
              rintro r h7 tk7 nw k7 F7 N7 n7 ⟨σ, ti, rfl, rfl, hσ⟩
              have N8 := news_turn N6 (fun p hp q hq => by rw [List.mem_singleton.mp hq]; exact (hWT p hp).symm) k7 N7
              have o7 := off_after (mu := [(75, tabObj #[])]) (fun p hp => N6 p (List.mem_append_left _ hp)) (fun p hp hq => hWT p hp (List.mem_singleton.mp hq)) n7
              clear F6 N6
              have hsd : ∃ o, Heap.get? h7 σ.d = some o := ⟨_, (N7 (σ.d, σ.oD) (.head _)).1⟩
              k_extra "my steps law"
              rename Fr _ _ _ _ => F6
              rename News _ _ _ _ => N6
              refine Does.use (m := ?mm3) (mu := []) (lexer_at w _ _ _ σ.st σ.d) BB ?kF3 XX (fun _ hp => nomatch hp) TT rfl ?kd3 ?ku3 ?kp3 ?ret3
              case kF3 => exact F6
              case kd3 => ktr_room
              case ku3 => ktr_units
              case kp3 => exact hsd
              case ret3 =>
                rintro r h8 tk8 nw k8 F8 N8 n8 ⟨χ, tn, rfl, rfl, hx1, hx2, hx0⟩
                have N9 := news_after (mu := []) N6 k8 (fun _ _ h => nomatch h) N8
                have o9 := off_after (mu := []) N6 (fun _ _ h => nomatch h) n8
                have NA := news_sub (l' := (Wd, W.listOf rs.toArray kw) :: (wt ++ (s1.heap.objs.size + 1 + 1, oS) :: (s1.heap.objs.size + 1, oN) :: LXi χ σ w tx #[] 0 0 tn ti)) N9 sub_lexer
                clear N9 N6 F6 N8
                k_extra "my steps law"
                rename Fr _ _ _ _ => FB
                rename News _ _ _ _ => NB
                have hsize : rs.toArray.size = n := by rw [List.size_toArray]; exact hrl
                rw [hsize]
                have hap : Apart ((Wd, W.listOf rs.toArray kw) :: (wt ++ (s1.heap.objs.size + 1 + 1, oS) :: (s1.heap.objs.size + 1, oN) :: [])) (LXi χ σ w tx #[] 0 0 tn ti) := by
                  intro p hp q hq
                  rcases List.mem_append.mp (show q ∈ [(χ.pb, W.listOf #[] 0), (χ.x, instObj 69 χ.dx), (χ.dx, χ.dict w σ.st 1 tn)] ++ σ.led 0 ti from hq) with hq | hq
                  · exact o9 q hq p (List.mem_append_left _ hp)
                  · exact o7 q hq p hp
                refine Does.use (m := ?mm4) (mu := LXi χ σ w tx #[] 0 0 tn ti) (codes_does w _ _ _ χ σ tx hσ hx0 hx1 hx2 0 tn ti b tb hb n _ hn3 hn6 (by lia) ix sz (posT tx) _ hToks hI2' (fun k hk => (hsz k hk).2)) BB ?kF4 XX ?kN4 TT rfl ?kd4 ?ku4 trivial ?ret4
                case kF4 => exact FB
                case kN4 => exact fun p hp => NB p (.tail _ (List.mem_append_right _ (.tail _ (.tail _ hp))))
                case kd4 => ktr_room
                case ku4 => ktr_units
                case ret4 =>
                  rintro r hc9 tk9 nw kc9 FC NC nC ⟨Tc, Cd, Ld, cs, kc, ls, kl, tn9, FR, vs9, kx, ix9, tn8, ti8, p, rfl, rfl, hDC, hDL, hLX, hix9, hrun, hpl, hpb, hpn, hup⟩
                  have ND := news_turn (rest := (Wd, W.listOf rs.toArray kw) :: (wt ++ (s1.heap.objs.size + 1 + 1, oS) :: (s1.heap.objs.size + 1, oN) :: [])) (news_sub NB sub_codes) hap kc9 NC
                  have NE := news_sub (l' := (Tc, _) :: (Ld, W.listOf ls.toArray kl) :: (Cd, W.listOf cs.toArray kc) :: (Wd, W.listOf rs.toArray kw) :: (wt ++ (s1.heap.objs.size + 1 + 1, oS) :: (s1.heap.objs.size + 1, oN) :: FR)) ND sub_back
                  have oC := off_after (mu := LXi χ σ w tx #[] 0 0 tn ti) (fun p hp => NB p (sub_codes p (List.mem_append_left _ hp))) hap.not nC
                  clear ND NB NC FB hap o9 o7 hToks
                  k_extra "my steps law"
                  rename Fr _ _ _ _ => FG
                  rename News _ _ _ _ => NG
                  rename_i Td hq9 hTd
                  refine Does.use (m := ?mm5) (mu := (Wd, W.listOf rs.toArray kw) :: wt) (due_does w _ _ _ b tb hb n hn3 hn6 ix sz dr hix hI2' hsz Wd rs kw wt hWD) BB ?kF5 XX ?kN5 TT rfl ?kd5 ?ku5 trivial ?ret5
                  case kF5 => exact FG
                  case kN5 => exact fun p hp => NG p (sub_due p hp)
                  case kd5 => ktr_room
                  case ku5 => ktr_units
                  case ret5 =>
                    rintro r hd9 td9 nw kd9 FH NH nH ⟨T2, C2, L2, cs2, kc2, ls2, kl2, tn2, FR2, p2, rfl, rfl, hDC2, hDL2, hW2, hrun2, _⟩
                    obtain rfl := perm_eq hrun hrun2
                    have hap5 : Apart ((Td, ({ cls := .type "tuple", data := .seq (List.toArray [.ref Cd, .ref Ld]) 0 } : Obj)) :: (Ld, W.listOf ls.toArray kl) :: (Cd, W.listOf cs.toArray kc) :: (s1.heap.objs.size + 1 + 1, oS) :: (s1.heap.objs.size + 1, oN) :: FR) ((Wd, W.listOf rs.toArray kw) :: wt) := by
                      intro p hp q hq
                      have hq2 : q ∈ (Wd, W.listOf rs.toArray kw) :: (wt ++ (s1.heap.objs.size + 1 + 1, oS) :: (s1.heap.objs.size + 1, oN) :: []) := by
                        rcases List.mem_cons.mp hq with rfl | hq
                        · exact .head _
                        · exact .tail _ (List.mem_append_left _ hq)
                      rcases List.mem_cons.mp hp with rfl | hp
                      · rcases List.mem_cons.mp hq with rfl | hq
                        · exact Nat.ne_of_lt hTd.2.2.2.1
                        · exact Nat.ne_of_lt (allLt_all hTd.2.2.2.2 q (List.mem_append_left _ hq))
                      rcases List.mem_cons.mp hp with rfl | hp
                      · exact (oC _ (.tail _ (.head _)) q hq2).symm
                      rcases List.mem_cons.mp hp with rfl | hp
                      · exact (oC _ (.tail _ (.tail _ (.head _))) q hq2).symm
                      rcases List.mem_cons.mp hp with rfl | hp
                      · exact o6 q hq (s1.heap.objs.size + 1 + 1, oS) (by simp)
                      rcases List.mem_cons.mp hp with rfl | hp
                      · exact o6 q hq (s1.heap.objs.size + 1, oN) (by simp)
                      · exact (oC p (.tail _ (.tail _ (.tail _ hp))) q hq2).symm
                    have NK := news_turn (news_sub (l' := ((Td, ({ cls := .type "tuple", data := .seq (List.toArray [.ref Cd, .ref Ld]) 0 } : Obj)) :: (Ld, W.listOf ls.toArray kl) :: (Cd, W.listOf cs.toArray kc) :: (s1.heap.objs.size + 1 + 1, oS) :: (s1.heap.objs.size + 1, oN) :: FR) ++ ((Wd, W.listOf rs.toArray kw) :: wt)) NG sub_due2) hap5 kd9 NH
                    refine ne_same (d := .tuple [.list (codesDat p ix (dueP b.toNat (p.map sz) 0)), .list ((leftP b.toNat (p.map sz)).map fun (v : Nat) => Dat.int (v : Int))]) NK ?da ?db (pair_ok9 _ _ (codes_ok _ _ _) (left_ok _)) ?hu ?hne
                    case da => exact .tuple (.head _) (.cons (.list (.tail _ (.tail _ (.head _))) (hDC.mono fun p hp => .tail _ (.tail _ (.tail _ (.tail _ (.tail _ (List.mem_append_left _ hp))))))) (.cons (.list (.tail _ (.head _)) (hDL.mono fun p h => absurd h List.not_mem_nil)) .nil))
                    case db => exact .tuple (List.mem_append_right _ (.head _)) (.cons (.list (List.mem_append_right _ (.tail _ (.tail _ (.head _)))) (hDC2.mono fun p hp => List.mem_append_right _ (.tail _ (.tail _ (.tail _ hp))))) (.cons (.list (List.mem_append_right _ (.tail _ (.head _))) (hDL2.mono fun p h => absurd h List.not_mem_nil)) .nil))
                    case hu => ktr_units
                    have NL := news_sub (l' := (s1.heap.objs.size + 1 + 1, oS) :: (s1.heap.objs.size + 1, oN) :: (Cd, W.listOf cs.toArray kc) :: (Wd, W.listOf rs.toArray kw) :: (wt ++ FR)) NK (fun p hp => by
                      rcases List.mem_cons.mp hp with rfl | hp
                      · exact .tail _ (.tail _ (.tail _ (.head _)))
                      rcases List.mem_cons.mp hp with rfl | hp
                      · exact .tail _ (.tail _ (.tail _ (.tail _ (.head _))))
                      rcases List.mem_cons.mp hp with rfl | hp
                      · exact .tail _ (.tail _ (.head _))
                      have hr : ∀ p ∈ (Wd, W.listOf rs.toArray kw) :: wt, p ∈ ((Td, ({ cls := .type "tuple", data := .seq (List.toArray [.ref Cd, .ref Ld]) 0 } : Obj)) :: (Ld, W.listOf ls.toArray kl) :: (Cd, W.listOf cs.toArray kc) :: (s1.heap.objs.size + 1 + 1, oS) :: (s1.heap.objs.size + 1, oN) :: FR) ++ ((T2, ({ cls := .type "tuple", data := .seq (List.toArray [.ref C2, .ref L2]) tn2 } : Obj)) :: (L2, W.listOf ls2.toArray kl2) :: (C2, W.listOf cs2.toArray kc2) :: FR2) := fun p hp => List.mem_append_right _ (.tail _ (.tail _ (.tail _ (hW2 p hp))))
                      rcases List.mem_cons.mp hp with rfl | hp
                      · exact hr _ (.head _)
                      rcases List.mem_append.mp hp with hp | hp
                      · exact hr _ (.tail _ hp)
                      · exact List.mem_append_left _ (.tail _ (.tail _ (.tail _ (.tail _ (.tail _ hp))))))
                    have hcells : ∀ z ∈ (Cd, W.listOf cs.toArray kc) :: (Wd, W.listOf rs.toArray kw) :: (wt ++ FR), z.1 ≠ s1.heap.objs.size + 1 ∧ z.1 ≠ s1.heap.objs.size + 1 + 1 := by
                      have hmS : (s1.heap.objs.size + 1 + 1, oS) ∈ (Wd, W.listOf rs.toArray kw) :: (wt ++ (s1.heap.objs.size + 1 + 1, oS) :: (s1.heap.objs.size + 1, oN) :: []) := .tail _ (List.mem_append_right _ (.head _))
                      have hmN : (s1.heap.objs.size + 1, oN) ∈ (Wd, W.listOf rs.toArray kw) :: (wt ++ (s1.heap.objs.size + 1 + 1, oS) :: (s1.heap.objs.size + 1, oN) :: []) := .tail _ (List.mem_append_right _ (.tail _ (.head _)))
                      have hw6 : ∀ z ∈ (Wd, W.listOf rs.toArray kw) :: wt, z.1 ≠ s1.heap.objs.size + 1 ∧ z.1 ≠ s1.heap.objs.size + 1 + 1 := fun z hz => ⟨o6 z hz (s1.heap.objs.size + 1, oN) (by simp), o6 z hz (s1.heap.objs.size + 1 + 1, oS) (by simp)⟩
                      intro z hz
                      rcases List.mem_cons.mp hz with rfl | hz
                      · exact ⟨oC _ (.tail _ (.tail _ (.head _))) _ hmN, oC _ (.tail _ (.tail _ (.head _))) _ hmS⟩
                      rcases List.mem_cons.mp hz with rfl | hz
                      · exact hw6 _ (.head _)
                      rcases List.mem_append.mp hz with hz | hz
                      · exact hw6 _ (.tail _ hz)
                      · exact ⟨oC _ (.tail _ (.tail _ (.tail _ hz))) _ hmN, oC _ (.tail _ (.tail _ (.tail _ hz))) _ hmS⟩
                    clear NK hap5 NG NH FG nH nC hDC2 hDL2 hW2 oC
                    k_extra "my steps law"
                    rename Fr _ _ _ _ => FM
                    obtain ⟨FM2⟩ : Nonempty (Fr (ghostOf s1.heap [(79, 75)]) s1.heap.objs.size hd9 (mL l (some (.int b tb)) (some (.ref Wd)) (some (.str tx t')) (some (.ref χ.x)) (some (.ref Cd)) (some (.ref Ld)) v7 v8 v9 v10 v11 v12 v13)) := ⟨fr_eq FM (mL_norm rfl rfl rfl rfl rfl rfl rfl rfl rfl rfl rfl rfl rfl rfl (by intro y e0 e1 e2 e3 e4 e5 e6 e7 e8 e9 e10 e11 e12 e13; simp [mL, e0, e1, e2, e3, e4, e5, e6, e7, e8, e9, e10, e11, e12, e13]))⟩
                    clear FM
                    refine Assign_DictComp_G (cl := []) FM2 rfl (by with_unfolding_all rfl) rfl (by decide) rfl (by decide) rfl rfl ?_ (by intro _; rfl)
                    k_extra "my steps iter"
                    rename Fr _ _ _ _ => FN
                    rename News _ _ _ _ => NN
                    refine' src_list (vs := rs) (J := fun i _ nw => ∃ kvs, nw = (s1.heap.objs.size + 1 + 1, oS) :: (s1.heap.objs.size + 1, oN) :: (Cd, W.listOf cs.toArray kc) :: (Wd, W.listOf rs.toArray kw) :: (wt ++ FR) ∧ KvInts kvs ((List.range i).map (sizeP ix sz))) rfl (by rw [sizeLine_eq]; lia) FN NN ⟨[], rfl, .nil⟩ ?hsrcD ?kkD
                    case hsrcD =>
                      rintro i2 zs nw ⟨kvs, e2, _⟩
                      subst e2
                      exact .inr ⟨_, .tail _ (.tail _ (.tail _ (.head _))), rfl, _, rfl⟩
                    case kkD =>
                      intro o St X
                      (try k_unfold)
                      refine ⟨_, _, _, _, _, _, fun i kvs nw => nw = (s1.heap.objs.size + 1 + 1, oS) :: (s1.heap.objs.size + 1, oN) :: (Cd, W.listOf cs.toArray kc) :: (Wd, W.listOf rs.toArray kw) :: (wt ++ FR) ∧ KvInts kvs ((List.range i).map (sizeP ix sz)), rfl, X, ⟨rfl, .nil⟩, ?_, ?_⟩
                      · rintro i2 v kvs nw hi2 hv ⟨e2, hkv⟩ hle
                        subst e2
                        have hi3 : i2 < n := hrl ▸ hi2
                        obtain ⟨v', hv', hd⟩ := hWD.get (k := i2) (by simpa using hi3)
                        rw [hv] at hv'
                        cases hv'
                        rw [List.getElem_map, List.getElem_range] at hd
                        obtain ⟨a9, t91, t92, t93, n9, rfl, hm9⟩ := wish_tup hd
                        refine ⟨_, Binds.tup3 rfl (.tail _ (.tail _ (.tail _ (.tail _ (List.mem_append_left _ hm9))))) rfl rfl rfl (by decide) (by decide) (by decide) rfl, ?_⟩
                        clear X FN NN
                        intro oI2 C oC2 D4 oD m₂ h tk E' hoD hoC hloc F3 N3 off2 ne
                        have hx1 := hloc _ (.head _)
                        have hx2 := hloc _ (.tail _ (.head _))
                        have hx3 := hloc _ (.tail _ (.tail _ (.head _)))
                        refine wpAny_tests_nil ?_
                        simp only [if_true]
                        dsimp only at hx1 hx2 hx3
                        k_extra "my steps"
                        · exact strKind_is _ _ _ _
                        · rename Fr _ _ _ _ => F4
                          rename News _ _ _ _ => N4
                          refine ⟨_, _, _, _, _, rfl, F4, hoC, N4, off2, rfl, ?_⟩
                          rw [List.range_succ, List.map_append]
                          exact hkv.put (size_new hix hI2' hi3) _ _
                      · rintro Zd h tk kvz oZ nw hoZ lZ F3 N3 oz ⟨e2, hkz⟩
                        subst e2
                        clear FN NN X
                        rw [hrl] at hkz
                        k_extra "my steps law"
                        have hCl : cs.length = (p.zip (dueP b.toNat (p.map sz) 0)).length := by rw [hDC.length, codesDat, List.length_map]
                        refine' wpAny_Assign_Name (hs := ?hs9) ?_
                        case hs9 => with_unfolding_all rfl
                        rename Fr _ _ _ _ => FM
                        rename News _ _ _ _ => NM
                        refine DictComp_G (cl := []) FM rfl (by decide) rfl (by decide) ?_ (by intro _; rfl)
                        k_extra "my steps iter"
                        rename Fr _ _ _ _ => FN
                        rename News _ _ _ _ => NN
                        generalize hC9 : dueP b.toNat (p.map sz) 0 = C9 at *
                        refine' src_list (vs := cs) (J := fun i _ nw => ∃ kvs, nw = (Zd, oZ) :: (s1.heap.objs.size + 1 + 1, oS) :: (s1.heap.objs.size + 1, oN) :: (Cd, W.listOf cs.toArray kc) :: (Wd, W.listOf rs.toArray kw) :: (wt ++ FR) ∧ KvInts kvs (nodesP p ix C9 i)) rfl (by rw [sizeLine_eq, hCl, List.length_zip]; lia) FN NN ⟨[], rfl, .nil⟩ ?hsrcE ?kkE
                        case hsrcE =>
                          rintro i2 zs nw ⟨kvs, e2, _⟩
                          subst e2
                          exact .inr ⟨_, .tail _ (.tail _ (.tail _ (.head _))), rfl, _, rfl⟩
                        case kkE =>
                          intro o St X
                          (try k_unfold)
                          refine ⟨_, _, _, _, _, _, fun i kvs nw => nw = (Zd, oZ) :: (s1.heap.objs.size + 1 + 1, oS) :: (s1.heap.objs.size + 1, oN) :: (Cd, W.listOf cs.toArray kc) :: (Wd, W.listOf rs.toArray kw) :: (wt ++ FR) ∧ KvInts kvs (nodesP p ix C9 i), rfl, X, ⟨rfl, .nil⟩, ?_, ?_⟩
                          · rintro i2 v kvs nw hi2 hv ⟨e2, hkv⟩ hle
                            subst e2
                            have hi3 : i2 < (p.zip C9).length := hCl ▸ hi2
                            obtain ⟨v', hv', hd⟩ := hDC.get (k := i2) (by rw [codesDat, List.length_map]; exact hi3)
                            rw [hv] at hv'
                            cases hv'
                            have hz : (p.zip C9)[i2]? = some ((p.zip C9)[i2].1, (p.zip C9)[i2].2) := List.getElem?_eq_getElem hi3
                            have hd' : DatIn FR v (.tuple [.str (opS (ix (p.zip C9)[i2].1)), .int ((p.zip C9)[i2].2 : Int)]) := by
                              have e9 : (codesDat p ix C9)[i2]'(by rw [codesDat, List.length_map]; exact hi3) = .tuple [.str (opS (ix (p.zip C9)[i2].1)), .int ((p.zip C9)[i2].2 : Int)] := by
                                unfold codesDat; rw [List.getElem_map]; rfl
                              rw [← e9]; exact hd
                            generalize (p.zip C9)[i2].1 = pj at *
                            generalize (p.zip C9)[i2].2 = cj at *
                            obtain ⟨a9, t91, t92, n9, rfl, hm9⟩ := code_tup hd'
                            refine ⟨_, Binds.tup2 rfl (.tail _ (.tail _ (.tail _ (.tail _ (.tail _ (List.mem_append_right _ hm9)))))) rfl rfl (by decide) rfl, ?_⟩
                            clear X FN NN
                            intro oI2 C oC2 D4 oD m₂ h tk E' hoD hoC hloc F3 N3 off2 ne
                            have hx1 := hloc _ (.head _)
                            have hx2 := hloc _ (.tail _ (.head _))
                            dsimp only at hx1 hx2
                            k_extra "my steps"
                            · exact strKind_is _ _ _ _
                            · rename Fr _ _ _ _ => F4
                              rename News _ _ _ _ => N4
                              rename (cj : Int) ≠ 0 => hcj
                              refine ⟨_, _, _, _, _, rfl, F4, hoC, N4, off2, rfl, ?_⟩
                              rw [nodes_step hz, if_pos (by simp; lia)]
                              exact hkv.put (nodes_new hix hI2' hpb hpn hz) _ _
                            · rename Fr _ _ _ _ => F4
                              rename News _ _ _ _ => N4
                              rename (cj : Int) = 0 => hcj
                              refine ⟨_, _, _, _, _, rfl, F4, hoC, N4, off2, rfl, ?_⟩
                              rw [nodes_step hz, if_neg (by simp; lia), List.append_nil]
                              exact hkv
                          · rintro Nd h tk kvn oNd nw hoN lNd F3 N3 on ⟨e2, hkn⟩
                            subst e2
                            clear FN NN X
                            have hkn' : KvInts kvn (nodesP p ix C9 (p.zip C9).length) := by rw [← hCl]; exact hkn
                            have lZ1 : s1.heap.objs.size + 1 < Zd := lZ (s1.heap.objs.size + 1, oN) (.tail _ (.head _))
                            have lZ2 : s1.heap.objs.size + 1 + 1 < Zd := lZ (s1.heap.objs.size + 1 + 1, oS) (.head _)
                            have lN1 : s1.heap.objs.size + 1 < Nd := lNd (s1.heap.objs.size + 1, oN) (.tail _ (.tail _ (.head _)))
                            have lN2 : s1.heap.objs.size + 1 + 1 < Nd := lNd (s1.heap.objs.size + 1 + 1, oS) (.tail _ (.head _))
                            have N5 := news_sub (l' := (s1.heap.objs.size + 1, oN) :: (s1.heap.objs.size + 1 + 1, oS) :: (Nd, oNd) :: (Zd, oZ) :: (Cd, W.listOf cs.toArray kc) :: (Wd, W.listOf rs.toArray kw) :: (wt ++ FR)) N3 sub_cell
                            have hcN : ∀ z ∈ (s1.heap.objs.size + 1 + 1, oS) :: (Nd, oNd) :: (Zd, oZ) :: (Cd, W.listOf cs.toArray kc) :: (Wd, W.listOf rs.toArray kw) :: (wt ++ FR), z.1 ≠ s1.heap.objs.size + 1 := by
                              intro z hz
                              rcases List.mem_cons.mp hz with rfl | hz
                              · exact Nat.ne_of_gt (Nat.lt_succ_self _)
                              rcases List.mem_cons.mp hz with rfl | hz
                              · exact Nat.ne_of_gt lN1
                              rcases List.mem_cons.mp hz with rfl | hz
                              · exact Nat.ne_of_gt lZ1
                              · exact (hcells z hz).1
                            clear N3
                            refine storeX_C F3 N5 rfl (.head hcN) dN ?_ rfl rfl
                            intro h3n oN2 F3n N3n dN2
                            clear F3 N5
                            dsimp only
                            k_extra "my steps law"
                            refine' wpAny_Assign_Name (hs := ?hs10) ?_
                            case hs10 => with_unfolding_all rfl
                            rename Fr _ _ _ _ => FM
                            rename News _ _ _ _ => NM
                            have hlo : (Nd == sysModules) = false := beq_eq_false_iff_ne.mpr (Nat.ne_of_gt (Nat.lt_of_le_of_lt (Nat.succ_le_succ (Nat.zero_le _)) lN1))
                            refine ListComp_G (cl := [(Str.ofString "nodes", s1.heap.objs.size + 1)]) FM rfl (by decide) rfl (by decide) ?_ (by intro _; rfl)
                            k_extra "my steps iter"
                            rename Fr _ _ _ _ => FN
                            rename News _ _ _ _ => NN
                            refine' src_list (vs := rs) (J := fun i zs nw => nw = (s1.heap.objs.size + 1, oN2) :: (s1.heap.objs.size + 1 + 1, oS) :: (Nd, oNd) :: (Zd, oZ) :: (Cd, W.listOf cs.toArray kc) :: (Wd, W.listOf rs.toArray kw) :: (wt ++ FR) ∧ StrsAre zs (((List.range i).filter (hasC p ix C9)).map fun k => opS (ix k))) rfl (by rw [sizeLine_eq]; lia) FN NN ⟨rfl, .nil⟩ ?hsrcF ?kkF
                            case hsrcF =>
                              rintro i2 zs nw ⟨e2, _⟩
                              subst e2
                              exact .inr ⟨_, .tail _ (.tail _ (.tail _ (.tail _ (.tail _ (.head _))))), rfl, _, rfl⟩
                            case kkF =>
                              intro o St X
                              (try k_unfold)
                              refine ⟨_, _, _, _, _, _, _, rfl, X, ?_, ?_⟩
                              · rintro i2 v zs nw hi2 hv ⟨e2, hzs2⟩
                                subst e2
                                have hi3 : i2 < n := hrl ▸ hi2
                                obtain ⟨v', hv', hd⟩ := hWD.get (k := i2) (by simpa using hi3)
                                rw [hv] at hv'
                                cases hv'
                                rw [List.getElem_map, List.getElem_range] at hd
                                obtain ⟨a9, t91, t92, t93, n9, rfl, hm9⟩ := wish_tup hd
                                refine ⟨_, Binds.tup3 rfl (.tail _ (.tail _ (.tail _ (.tail _ (.tail _ (.tail _ (List.mem_append_left _ hm9))))))) rfl rfl rfl (by decide) (by decide) (by decide) rfl, ?_⟩
                                clear X FN NN
                                intro oI2 C oC2 D4 m₂ h tk E' hoC hloc F3 N3 off2 ne
                                have hx1 := hloc _ (.head _)
                                have hx2 := hloc _ (.tail _ (.head _))
                                have hx3 := hloc _ (.tail _ (.tail _ (.head _)))
                                dsimp only at hx1 hx2 hx3
                                k_extra "my steps"
                                · rename Fr _ _ _ _ => F4
                                  rename News _ _ _ _ => N4
                                  rename (OPS.getD (ix i2) (Str.ofString "") ∈ _) => hcj
                                  refine ⟨_, _, _, _, _, rfl, F4, hoC, N4, off2, rfl, ?_⟩
                                  rw [has_pos hcj, List.map_append]
                                  exact strs_snoc hzs2 _ _
                                · rename Fr _ _ _ _ => F4
                                  rename News _ _ _ _ => N4
                                  rename (¬ (_ ∈ _)) => hcj
                                  refine ⟨_, _, _, _, _, rfl, F4, hoC, N4, off2, rfl, ?_⟩
                                  rw [has_neg hcj]
                                  exact hzs2
                              · rintro Sd h tk zs nw F3 N3 oSd ⟨e2, hzs2⟩
                                subst e2
                                clear FN NN X
                                rw [hrl] at hzs2
                                have N5 := news_sub (l' := (s1.heap.objs.size + 1 + 1, oS) :: (s1.heap.objs.size + 1, oN2) :: (Sd, lst zs) :: (Nd, oNd) :: (Zd, oZ) :: (Cd, W.listOf cs.toArray kc) :: (Wd, W.listOf rs.toArray kw) :: (wt ++ FR)) N3 sub_cell2
                                have hcS : ∀ z ∈ (s1.heap.objs.size + 1, oN2) :: (Sd, lst zs) :: (Nd, oNd) :: (Zd, oZ) :: (Cd, W.listOf cs.toArray kc) :: (Wd, W.listOf rs.toArray kw) :: (wt ++ FR), z.1 ≠ s1.heap.objs.size + 1 + 1 := by
                                  intro z hz
                                  rcases List.mem_cons.mp hz with rfl | hz
                                  · exact Nat.ne_of_lt (Nat.lt_succ_self _)
                                  rcases List.mem_cons.mp hz with rfl | hz
                                  · exact Ne.symm oSd.2.1
                                  rcases List.mem_cons.mp hz with rfl | hz
                                  · exact Nat.ne_of_gt lN2
                                  rcases List.mem_cons.mp hz with rfl | hz
                                  · exact Nat.ne_of_gt lZ2
                                  · exact (hcells z hz).2
                                clear N3
                                refine storeX_C F3 N5 rfl (.head hcS) dS ?_ rfl rfl
                                intro h3s oS2 F3s N3s dS2
                                clear F3 N5
                                dsimp only
                                k_extra "my steps law"
                                have hCO : CodesOk p C9 ix sz n := by
                                  rw [← hC9]
                                  exact codes_ok9 (by lia) hn3 hn6 hpl hpb hpn hup hix hI2' hsz
                                have hSm : ∀ k ∈ (List.range n).filter (hasC p ix C9), k < n ∧ hasC p ix C9 k = true := fun k hk => ⟨List.mem_range.mp (List.mem_filter.mp hk).1, (List.mem_filter.mp hk).2⟩
                                have hS1 := hCO.some
                                have hS6 : ((List.range n).filter (hasC p ix C9)).length ≤ 6 := by
                                  have := List.length_filter_le (hasC p ix C9) (List.range n)
                                  rw [List.length_range] at this
                                  lia
                                generalize (List.range n).filter (hasC p ix C9) = S at *
                                have hzl : zs.length = S.length := by rw [hzs2.length, List.length_map]
                                refine ListComp_G (cl := [(Str.ofString "served", s1.heap.objs.size + 1 + 1)]) F3s rfl (by decide) rfl (by decide) ?_ (by intro _; rfl)
                                k_extra "my steps iter"
                                rename Fr _ _ _ _ => FN
                                rename News _ _ _ _ => NN
                                rename_i D6 w6 h6 hI6 hC6 hL6 l6
                                have hzs9 : zs.toArray.size = S.length := by rw [List.size_toArray]; exact hzl
                                refine' src_list (vs := w6) (J := fun i ys nw => nw = (D6, W.listOf w6.toArray 0) :: (s1.heap.objs.size + 1 + 1, oS2) :: (s1.heap.objs.size + 1, oN2) :: (Sd, lst zs) :: (Nd, oNd) :: (Zd, oZ) :: (Cd, W.listOf cs.toArray kc) :: (Wd, W.listOf rs.toArray kw) :: (wt ++ FR) ∧ StrsAre ys (((ns.take 6).take i).map fun x => opS (ix (S.getD (x.fmod S.length).toNat 0)))) rfl (by rw [sizeLine_eq, hI6.length]; lia) FN NN ⟨rfl, .nil⟩ ?hsrcG ?kkG
                                case hsrcG =>
                                  rintro i2 ys nw ⟨e2, _⟩
                                  subst e2
                                  exact .inr ⟨_, .head _, rfl, _, rfl⟩
                                case kkG =>
                                  intro o St X
                                  (try k_unfold)
                                  refine ⟨_, _, _, _, _, _, _, rfl, X, ?_, ?_⟩
                                  · rintro i2 v ys nw hi2 hv ⟨e2, hys⟩
                                    subst e2
                                    obtain ⟨x9, t9, hx9, rfl⟩ := ints_at hI6 hv
                                    refine ⟨_, Binds.name rfl rfl, ?_⟩
                                    clear X FN NN
                                    intro oI2 C oC2 D3 m₂ h tk E' hoC hloc F3 N3 off2 ne
                                    have hx2 := hloc _ (List.mem_singleton.mpr rfl)
                                    refine wpAny_tests_nil ?_
                                    simp only [if_true]
                                    refine hide ?_
                                    intro Q7 E7 hQ7
                                    dsimp only at hx2
                                    k_extra "my steps"
                                    rename Fr _ _ _ _ => F4
                                    rename News _ _ _ _ => N4
                                    exact hQ7 _ _ ⟨_, _, _, _, _, rfl, F4, hoC, N4, off2, rfl, by rw [take_snoc hx9, List.map_append]; exact strs_snoc hys _ _⟩
                                  · rintro Md h tk md nw F3 N3 oMd ⟨e2, hmd⟩
                                    subst e2
                                    clear FN NN X
                                    k_extra "my steps law"
                                    rw [hI6.length, List.take_length] at hmd
                                    have hmes : StrsAre (zs ++ md) ((mesM S ns).map fun k => opS (ix k)) := by
                                      unfold mesM
                                      rw [List.map_append, List.map_map]
                                      exact hzs2.append' hmd
                                    have hM12 := mes_len hS6 ns
                                    have hMM : ∀ k ∈ mesM S ns, k < n ∧ hasC p ix C9 k = true := fun k hk => hSm k (mes_mem hS1 ns k hk)
                                    have hmdl : md.length ≤ 6 := by rw [hmd.length, List.length_map, List.length_take]; lia
                                    generalize mesM S ns = M at *
                                    refine add_arrays (its := zs.toArray) (its2 := md.toArray) F3 N3 (News.isList N3 (.tail _ (.tail _ (.tail _ (.tail _ (.head _)))))) (News.isList N3 (.head _)) ?_ (by rw [List.size_toArray, List.size_toArray, sizeLine_eq]; lia)
                                    intro hM FM NM
                                    have lM : ∀ p ∈ (s1.heap.objs.size + 1, oN2) :: (Nd, oNd) :: (Zd, oZ) :: FR, p.1 < h.objs.size := fun p hp => Heap.lt_size (N3 p (sub_mes p hp)).1
                                    have NP := news_sub (l' := (h.objs.size, W.listOf (zs ++ md).toArray 0) :: (s1.heap.objs.size + 1, oN2) :: (Nd, oNd) :: (Zd, oZ) :: FR) NM (fun p hp => by
                                      rcases List.mem_cons.mp hp with rfl | hp
                                      · exact .head _
                                      · exact .tail _ (sub_mes p hp))
                                    clear F3 N3 NM
                                    dsimp only at FM NP lM ⊢
                                    generalize h.objs.size = Mg at *
                                    clear hkn
                                    have hml : (zs ++ md).length = M.length := by rw [hmes.length, List.length_map]
                                    k_extra "my steps law"
                                    rename Fr _ _ _ _ => FQ
                                    rename News _ _ _ _ => NQ
                                    obtain ⟨tt0, FQ2⟩ : ∃ tt0, Fr (ghostOf s1.heap [(79, 75)]) s1.heap.objs.size _ (mL l (some (.int b tb)) (some (.ref Wd)) (some (.str tx t')) (some (.ref χ.x)) (some (.ref Cd)) (some (.ref Ld)) (some (.ref Zd)) (some (.ref Mg)) (some (.int ((1 : Nat) : Int) tt0)) v10 v11 v12 v13) := ⟨_, fr_eq FQ (mL_norm rfl rfl rfl rfl rfl rfl rfl rfl rfl rfl rfl rfl rfl rfl (by intro y e0 e1 e2 e3 e4 e5 e6 e7 e8 e9 e10 e11 e12 e13; simp [mL, e0, e1, e2, e3, e4, e5, e6, e7, e8, e9, e10, e11, e12, e13]))⟩
                                    clear FQ
                                    refine wpAny_For ?_
                                    k_extra "my steps iter"
                                    rename Fr _ _ _ _ => F6
                                    rename News _ _ _ _ => N6
                                    refine for_list (vs := zs ++ md) (RR := fun _ => _) rfl F6 N6 (fun i m nw => ∃ tt vn, m = mL l (some (.int b tb)) (some (.ref Wd)) (some (.str tx t')) (some (.ref χ.x)) (some (.ref Cd)) (some (.ref Ld)) (some (.ref Zd)) (some (.ref Mg)) (some (.int ((valN 1 (figs p C9 sz (M.take i)) : Nat) : Int) tt)) vn v11 v12 v13 ∧ nw = (Mg, W.listOf (zs ++ md).toArray 0) :: (s1.heap.objs.size + 1, oN2) :: (Nd, oNd) :: (Zd, oZ) :: FR) ?j1 ?jl1 ?turn1 ?fin1 (fun _ _ z => z)
                                    case j1 => exact ⟨_, _, rfl, rfl⟩
                                    case jl1 =>
                                      rintro i m nw ⟨tt, vn, rfl, rfl⟩
                                      exact .inr ⟨_, .head _, rfl, _, rfl⟩
                                    case turn1 =>
                                      clear F6 N6
                                      rintro I i v m' nw oI h tk' hi hv ⟨tt, vn, rfl, rfl⟩ F2 N2 off lI s' rfl
                                      rw [hml] at hi
                                      have hk9 : M[i]? = some M[i] := List.getElem?_eq_getElem hi
                                      obtain ⟨t9, hv9⟩ := hmes.get i (opS (ix M[i])) (by rw [List.getElem?_map, hk9]; rfl)
                                      rw [hv] at hv9
                                      obtain rfl := Option.some.inj hv9
                                      have hmk := hMM M[i] (List.getElem_mem hi)
                                      have hck := hCO.code M[i] hmk.1 ((hCO.has _ hmk.1).mp hmk.2)
                                      have htk := tot_step sz (codeF p C9) (M.take i) M[i] hck.1
                                      rw [← take_snoc hk9] at htk
                                      generalize M[i] = k9 at *
                                      have hT1 : 1 ≤ valN 1 (figs p C9 sz (M.take i)) := val_pos (Nat.le_refl 1) _
                                      have e9 := tot_int (c := codeF p C9 k9) (z := sz k9) hT1
                                      have htk' : (valN 1 (figs p C9 sz (M.take i)) - 1) * 16 ^ sz k9 + codeF p C9 k9 = valN 1 (figs p C9 sz (M.take (i + 1))) := htk.symm
                                      rw [htk'] at e9
                                      generalize valN 1 (figs p C9 sz (M.take i)) = T at *
                                      have hs4 : sz k9 ≤ 4 := (hsz4 k9 hmk.1).2
                                      have hmz := size_mem (ix := ix) (sz := sz) hmk.1
                                      have hmc := node_mem hck.2.2.2
                                      refine hide ?_
                                      intro Q8 E8 hQ8
                                      k_extra "my steps law"
                                      refine hQ8 _ _ ?_
                                      refine hide ?_
                                      intro Q7 E7 hQ7
                                      k_extra "my steps law"
                                      rename Fr _ _ _ _ => F7
                                      rename News _ _ _ _ => N7
                                      rw [e9] at F7
                                      exact hQ7 _ _ <| ForGo.of (fr_eq F7 (mL_norm rfl rfl rfl rfl rfl rfl rfl rfl rfl rfl rfl rfl rfl rfl (by intro y e0 e1 e2 e3 e4 e5 e6 e7 e8 e9 e10 e11 e12 e13; simp [mL, e0, e1, e2, e3, e4, e5, e6, e7, e8, e9, e10, e11, e12, e13]))) N7 off ⟨_, _, rfl, rfl⟩
                                    case fin1 =>
                                      clear F6 N6
                                      rintro I m' nw h tk' F2 N2 ⟨tt, vn, rfl, rfl⟩ lI
                                      rw [hml, List.take_length] at F2
                                      have hdl : (figs p C9 sz M).length ≤ 48 := by
                                        have := fm_len sz (codeF p C9) M fun k hk => (hsz4 k (hMM k hk).1).2
                                        have h9 : (figs p C9 sz M).length ≤ 4 * M.length := this
                                        lia
                                      have hdd : ∀ d ∈ figs p C9 sz M, d < 16 := fm_lt sz (codeF p C9) M
                                      have hT200 : valN 1 (figs p C9 sz M) < 2 ^ 200 := Nat.lt_of_lt_of_le (tot_lt sz (codeF p C9) M (fun k hk => (hsz4 k (hMM k hk).1).2) hM12) (by decide)
                                      have hwf := word_figs (T := valN 1 (figs p C9 sz M)) rfl hdd
                                      have htold := told_all hCO hMM
                                      generalize valN 1 (figs p C9 sz M) = T at *
                                      generalize figs p C9 sz M = ds at *
                                      k_extra "my steps law"
                                      rename Fr _ _ _ _ => FQ
                                      rename News _ _ _ _ => NQ
                                      rename_i hh1 Dt hh2 lD hh3
                                      obtain ⟨tn0, FQ2⟩ : ∃ tn0, Fr (ghostOf s1.heap [(79, 75)]) s1.heap.objs.size _ (mL l (some (.int b tb)) (some (.ref Wd)) (some (.str tx t')) (some (.ref χ.x)) (some (.ref Cd)) (some (.ref Ld)) (some (.ref Zd)) (some (.ref Mg)) (some (.int (T : Int) tt)) vn (some (.int ((1 : Nat) : Int) tn0)) (some (.ref Dt)) v13) := ⟨_, fr_eq FQ (mL_norm rfl rfl rfl rfl rfl rfl rfl rfl rfl rfl rfl rfl rfl rfl (by intro y e0 e1 e2 e3 e4 e5 e6 e7 e8 e9 e10 e11 e12 e13; simp [mL, e0, e1, e2, e3, e4, e5, e6, e7, e8, e9, e10, e11, e12, e13]))⟩
                                      clear FQ
                                      have hwl9 : (wordOf T).length ≤ 64 := word_len_le hT200
                                      have hDr : ∀ p ∈ (Mg, W.listOf (zs ++ md).toArray 0) :: (s1.heap.objs.size + 1, oN2) :: (Nd, oNd) :: (Zd, oZ) :: FR, p.1 ≠ Dt := by
                                        obtain ⟨l1, l2, l3, l4, l5⟩ := lD
                                        intro p hp
                                        rcases List.mem_cons.mp hp with rfl | hp
                                        · exact Nat.ne_of_lt l1
                                        rcases List.mem_cons.mp hp with rfl | hp
                                        · exact Nat.ne_of_lt l2
                                        rcases List.mem_cons.mp hp with rfl | hp
                                        · exact Nat.ne_of_lt l3
                                        rcases List.mem_cons.mp hp with rfl | hp
                                        · exact Nat.ne_of_lt l4
                                        · exact Nat.ne_of_lt (allLt_all l5 p hp)
                                      have hNl : (nodesN p ix C9).length ≤ 6 := Nat.le_trans nodes_len (by lia)
                                      have hkl : kvn.length = (nodesN p ix C9).length := by rw [hkn'.length, nodesP_all, List.length_map]
                                      refine wpAny_For ?_
                                      k_extra "my steps iter"
                                      rw [slice_tail _ _ _ hwf]
                                      rename Fr _ _ _ _ => F6
                                      rename News _ _ _ _ => N6
                                      refine for_str (y := sOf (ds.map (65 + ·))) (RR := fun _ => _) rfl F6 N6 (fun i m nw => Sm7 fun x tx1 vn2 vs2 ts kt told => Al5 (m = (mL l (some (.int b tb)) (some (.ref Wd)) (some (.str tx t')) (some (.ref χ.x)) (some (.ref Cd)) (some (.ref Ld)) (some (.ref Zd)) (some (.ref Mg)) (some (.int (T : Int) tt)) vn2 (some (.int ((x : Nat) : Int) tx1)) (some (.ref Dt)) vs2)) (nw = (Dt, W.listOf (List.toArray ts) kt) :: (Mg, W.listOf (zs ++ md).toArray 0) :: (s1.heap.objs.size + 1, oN2) :: (Nd, oNd) :: (Zd, oZ) :: FR) (StrsAre ts told) (decN (nodesN p ix C9) (1, []) (ds.take i) = (x, told)) (told.length ≤ 6 * i)) ?j2 ?turn2 ?fin2 (fun _ _ z => z)
                                      case j2 => exact ⟨1, _, _, _, [], 0, [], rfl, rfl, .nil, rfl, Nat.zero_le _⟩
                                      case turn2 =>
                                        clear F6 N6
                                        rintro I i v m' nw oI h tk' hi ⟨c, u, hc, rfl⟩ ⟨x, tx1, vn2, vs2, ts, kt, told, rfl, rfl, hts, hdec, htl⟩ F2 N2 off lI s' rfl
                                        obtain ⟨d, hdi, rfl⟩ := sign_fig hc
                                        have hi' : i < ds.length := (List.getElem?_eq_some_iff.mp hdi).1
                                        have hdt := dec_take (l := nodesN p ix C9) (st := (1, [])) hdi
                                        rw [hdec] at hdt
                                        dsimp only at hdt
                                        have lDI : Dt < I := lI (Dt, W.listOf #[] 0) (.head _)
                                        refine hide ?_
                                        intro Q8 E8 hQ8
                                        k_extra "my steps law"
                                        refine hQ8 _ _ ?_
                                        refine hide ?_
                                        intro Q7 E7 hQ7
                                        k_extra "my steps law"
                                        rename Fr _ _ _ _ => FQ
                                        rename News _ _ _ _ => NQ
                                        have e9 : 16 * (x : Int) + ((65 + d : Nat) : Int) - 65 = ((16 * x + d : Nat) : Int) := by lia
                                        rw [e9] at FQ
                                        generalize 16 * x + d = y at *
                                        obtain ⟨ty, FQ2⟩ : ∃ ty, Fr (ghostOf s1.heap [(79, 75)]) s1.heap.objs.size _ (mL l (some (.int b tb)) (some (.ref Wd)) (some (.str tx t')) (some (.ref χ.x)) (some (.ref Cd)) (some (.ref Ld)) (some (.ref Zd)) (some (.ref Mg)) (some (.int (T : Int) tt)) vn2 (some (.int ((y : Nat) : Int) ty)) (some (.ref Dt)) (some (.str ⟨#[65 + d]⟩ u))) := ⟨_, fr_eq FQ (mL_norm rfl rfl rfl rfl rfl rfl rfl rfl rfl rfl rfl rfl rfl rfl (by intro y e0 e1 e2 e3 e4 e5 e6 e7 e8 e9 e10 e11 e12 e13; simp [mL, e0, e1, e2, e3, e4, e5, e6, e7, e8, e9, e10, e11, e12, e13]))⟩
                                        clear FQ e9
                                        refine wpAny_For ?_
                                        k_extra "my steps iter"
                                        rename Fr _ _ _ _ => F6
                                        rename News _ _ _ _ => N6
                                        refine for_keys (kvs := kvn) (RR := fun _ => _) rfl F6 N6 hlo hoN (fun j m nw => Sm6 fun x2 tx2 vn3 ts2 kt2 told2 => Al5 (m = (mL l (some (.int b tb)) (some (.ref Wd)) (some (.str tx t')) (some (.ref χ.x)) (some (.ref Cd)) (some (.ref Ld)) (some (.ref Zd)) (some (.ref Mg)) (some (.int (T : Int) tt)) vn3 (some (.int ((x2 : Nat) : Int) tx2)) (some (.ref Dt)) (some (.str ⟨#[65 + d]⟩ u)))) (nw = (I, oI) :: (Dt, W.listOf (List.toArray ts2) kt2) :: (Mg, W.listOf (zs ++ md).toArray 0) :: (s1.heap.objs.size + 1, oN2) :: (Nd, oNd) :: (Zd, oZ) :: FR) (StrsAre ts2 told2) (inn ((nodesN p ix C9).take j) (y, told) = (x2, told2)) (told2.length ≤ 6 * i + j)) ?j3 ?jl3 ?turn3 ?fin3 (fun _ _ z => z)
                                        case j3 => exact ⟨y, _, _, ts, kt, told, rfl, rfl, hts, rfl, htl⟩
                                        case jl3 =>
                                          rintro j m nw ⟨x2, tx2, vn3, ts2, kt2, told2, rfl, rfl, _⟩
                                          exact .tail _ (.tail _ (.tail _ (.tail _ (.head _))))
                                        case turn3 =>
                                          clear F6 N6
                                          rintro I2 j k xv t9 m' nw oI2 h tk' hk ⟨x2, tx2, vn3, ts2, kt2, told2, rfl, rfl, hts2, hinn, htl2⟩ F3 N3 off3 lI3 s' rfl
                                          obtain ⟨n9, t99, hpn9, rfl⟩ := kv_at hkn' hk
                                          have hmc := List.mem_of_getElem? hpn9
                                          obtain ⟨c9, hN9, rfl⟩ := nodes_at hpn9
                                          have hit := inn_take (st := (y, told)) hN9
                                          rw [hinn] at hit
                                          dsimp only at hit
                                          have hj6 : j < 6 := Nat.lt_of_lt_of_le (List.getElem?_eq_some_iff.mp hN9).1 hNl
                                          have lDI2 : Dt < I2 := lI3 (Dt, W.listOf (List.toArray ts) kt) (.tail _ (.head _))
                                          have htsl : ts2.length = told2.length := hts2.length
                                          refine hide ?_
                                          intro Q6 E6 hQ6
                                          k_extra "my steps law"
                                          refine hQ6 _ _ ?_
                                          refine hide ?_
                                          intro Q5 E5 hQ5
                                          k_extra "my steps law"
                                          · rename (c9 : Int) = _ => hcx
                                            have hcx' : c9 = x2 := by lia
                                            rw [if_pos hcx'] at hit
                                            rename Fr _ _ _ _ => F7
                                            rename News _ _ _ _ => N7
                                            refine append_K F7 N7 (.tail (Nat.ne_of_gt lDI2) (.tail (Nat.ne_of_gt lDI) (.head hDr))) ?_ (by rw [sizeLine_eq, List.size_toArray]; lia)
                                            intro hA FA NA
                                            clear F7 N7
                                            simp only [List.push_toArray] at NA
                                            k_extra "my steps law"
                                            rename Fr _ _ _ _ => F8
                                            rename News _ _ _ _ => N8
                                            exact hQ5 _ _ <| ForGo.of (fr_eq F8 (mL_norm rfl rfl rfl rfl rfl rfl rfl rfl rfl rfl rfl rfl rfl rfl (by intro y e0 e1 e2 e3 e4 e5 e6 e7 e8 e9 e10 e11 e12 e13; simp [mL, e0, e1, e2, e3, e4, e5, e6, e7, e8, e9, e10, e11, e12, e13]))) N8 (off_upd off3) ⟨1, _, _, _, _, _, rfl, rfl, strs_snoc hts2 k t9, hit, by rw [List.length_append, List.length_singleton]; lia⟩
                                          · rename (c9 : Int) ≠ _ => hcx
                                            have hcx' : c9 ≠ x2 := by lia
                                            rw [if_neg hcx'] at hit
                                            rename Fr _ _ _ _ => F8
                                            rename News _ _ _ _ => N8
                                            exact hQ5 _ _ <| ForGo.of (fr_eq F8 (mL_norm rfl rfl rfl rfl rfl rfl rfl rfl rfl rfl rfl rfl rfl rfl (by intro y e0 e1 e2 e3 e4 e5 e6 e7 e8 e9 e10 e11 e12 e13; simp [mL, e0, e1, e2, e3, e4, e5, e6, e7, e8, e9, e10, e11, e12, e13]))) N8 off3 ⟨x2, _, _, _, _, _, rfl, rfl, hts2, hit, by lia⟩
                                        case fin3 =>
                                          clear F6 N6
                                          rintro I2 m' nw h tk' F3 N3 ⟨x2, tx2, vn3, ts2, kt2, told2, rfl, rfl, hts2, hinn, htl2⟩ lI3
                                          rw [hkl, List.take_length] at hinn
                                          k_extra "my steps law"
                                          rename Fr _ _ _ _ => F8
                                          rename News _ _ _ _ => N8
                                          refine hQ7 _ _ (ForGo.of F8 N8 (off_upd1 off) ?_)
                                          exact ⟨x2, _, _, _, _, _, _, rfl, rfl, hts2, by rw [hdt]; exact hinn, by lia⟩
                                      case fin2 =>
                                        clear F6 N6
                                        rintro I m' nw h tk' F2 N2 ⟨x, tx1, vn2, vs2, ts, kt, told, rfl, rfl, hts, hdec, htl⟩ lI
                                        have hdl2 : (sOf (ds.map (65 + ·))).cps.size = ds.length := by unfold sOf; rw [List.size_toArray, List.length_map]
                                        rw [hdl2, List.take_length, htold] at hdec
                                        obtain rfl : 1 = x := congrArg Prod.fst hdec
                                        obtain rfl : (M.map fun k => opS (ix k)) = told := congrArg Prod.snd hdec
                                        have N5 := news_sub (l' := (Dt, W.listOf (List.toArray ts) kt) :: (Mg, W.listOf (zs ++ md).toArray 0) :: LXi χ σ w tx vs9 kx ix9 tn8 ti8) N2 (fun p hp => by
                                          rcases List.mem_cons.mp hp with rfl | hp
                                          · exact .head _
                                          rcases List.mem_cons.mp hp with rfl | hp
                                          · exact .tail _ (.head _)
                                          · exact .tail _ (.tail _ (.tail _ (.tail _ (.tail _ (hLX p hp))))))
                                        clear N2
                                        k_extra "my steps end"
                                        refine eq_same (D := .list ((M.map fun k => opS (ix k)).map Dat.str)) N5 ?da9 ?db9 strs_ok ?hu9 ?_
                                        case da9 => exact .list (.head _) (strs_dat hts)
                                        case db9 => exact .list (.tail _ (.head _)) (strs_dat hmes)
                                        case hu9 => ktr_units
                                        rw [show ((1 : Nat) : Int) = 1 from rfl] at F2
                                        k_extra "my steps end"
                                        refine PyProof.Rows.eq_int ?_
                                        k_extra "my steps end"
                                        refine PySem.SC.count ?_
                                        k_extra "my steps end"
                                        refine PyProof.Rows.eq_int ?_
                                        rw [line_eq hix9, beq_self_eq_true]
                                        obtain ⟨ps9, hps9⟩ := hσ.tab
                                        refine hQ9 _ _ ⟨?good9, ?grown9⟩
                                        case grown9 =>
                                          have h75 : (75, σ.o5) ∈ σ.led ix9 ti8 := .tail _ (.tail _ (.tail _ (.tail _ (.tail _ (.tail _ (.tail _ (.tail _ (.head _))))))))
                                          have h76 : (75, σ.o5) ∈ (Dt, W.listOf (List.toArray ts) kt) :: (Mg, W.listOf (zs ++ md).toArray 0) :: LXi χ σ w tx vs9 kx ix9 tn8 ti8 := .tail _ (.tail _ (.tail _ (.tail _ (.tail _ h75))))
                                          have h77 := (N5 _ h76).1
                                          rw [hps9] at h77
                                          exact And.intro ⟨ps9, h77⟩ True.intro
                                        case good9 =>
                                          refine goodW_bool F2 (by assumption) (raisesW_false ?_) ?_
                                          · wrow_none_raised
                                          · kc_post
end
end Mine
theorem PySem.Challenge.cw_ta0019_01_holds : PySem.Challenge.rw_ta0019_01.Holds := by
  exact Mine.law_holds
