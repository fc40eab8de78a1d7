import PyProof.Rows.All
import Wide.All
import OpenK.AllK
import Wide.FinOn
import Lean
import PySem.Challenge.RW_ty0051_01
open PySem PySem.W PyProof.Rows
set_option Elab.async false
set_option compiler.extract_closed false
set_option linter.all false
section
namespace Mine
/-- the statement at a place of the text's body, of a block; a def's parts -/
noncomputable def nthOf (l : List Stmt) (k : Nat) : Stmt := match l.drop k with
  | st :: _ => st
  | [] => .Pass ⟨0, 0, 0, 0⟩
noncomputable def stAt (k : Nat) : Stmt := nthOf PySem.Challenge.pw_ty0051_01.main.body k
noncomputable def inAt (k j : Nat) : Stmt := match stAt k with
  | .ClassDef _ _ _ b _ _ _ _ _ _ _ => nthOf b j
  | st => st
noncomputable def partsAt : Stmt → Arguments × List Stmt × Scope
  | .FunctionDef _ a b _ _ _ sc _ _ _ => (a, b, sc)
  | _ => (⟨[], [], none, [], [], none, []⟩, [], ⟨.function, [], false, false, []⟩)
noncomputable abbrev fp0 : { p : Arguments × List Stmt × Scope // partsAt (stAt 0) = p } := ⟨_, by conv => { lhs; whnf }⟩
noncomputable abbrev fp1 : { p : Arguments × List Stmt × Scope // partsAt (stAt 3) = p } := ⟨_, by conv => { lhs; whnf }⟩
noncomputable abbrev fp2 : { p : Arguments × List Stmt × Scope // partsAt (stAt 4) = p } := ⟨_, by conv => { lhs; whnf }⟩
noncomputable abbrev fp3 : { p : Arguments × List Stmt × Scope // partsAt (stAt 5) = p } := ⟨_, by conv => { lhs; whnf }⟩
noncomputable abbrev fp4 : { p : Arguments × List Stmt × Scope // partsAt (stAt 6) = p } := ⟨_, by conv => { lhs; whnf }⟩
noncomputable abbrev fp5 : { p : Arguments × List Stmt × Scope // partsAt (stAt 7) = p } := ⟨_, by conv => { lhs; whnf }⟩
noncomputable abbrev fp6 : { p : Arguments × List Stmt × Scope // partsAt (stAt 8) = p } := ⟨_, by conv => { lhs; whnf }⟩
noncomputable abbrev fp7 : { p : Arguments × List Stmt × Scope // partsAt (stAt 10) = p } := ⟨_, by conv => { lhs; whnf }⟩
noncomputable abbrev fp8 : { p : Arguments × List Stmt × Scope // partsAt (stAt 13) = p } := ⟨_, by conv => { lhs; whnf }⟩
noncomputable abbrev fp9 : { p : Arguments × List Stmt × Scope // partsAt (inAt 15 1) = p } := ⟨_, by conv => { lhs; whnf }⟩
noncomputable abbrev fp10 : { p : Arguments × List Stmt × Scope // partsAt (inAt 15 2) = p } := ⟨_, by conv => { lhs; whnf }⟩
noncomputable abbrev fp11 : { p : Arguments × List Stmt × Scope // partsAt (inAt 15 3) = p } := ⟨_, by conv => { lhs; whnf }⟩
noncomputable abbrev fp12 : { p : Arguments × List Stmt × Scope // partsAt (inAt 15 4) = p } := ⟨_, by conv => { lhs; whnf }⟩
noncomputable abbrev fp13 : { p : Arguments × List Stmt × Scope // partsAt (inAt 15 5) = p } := ⟨_, by conv => { lhs; whnf }⟩
noncomputable abbrev fp14 : { p : Arguments × List Stmt × Scope // partsAt (inAt 15 6) = p } := ⟨_, by conv => { lhs; whnf }⟩
noncomputable abbrev fp15 : { p : Arguments × List Stmt × Scope // partsAt (inAt 15 7) = p } := ⟨_, by conv => { lhs; whnf }⟩
noncomputable abbrev fp16 : { p : Arguments × List Stmt × Scope // partsAt (stAt 17) = p } := ⟨_, by conv => { lhs; whnf }⟩
noncomputable abbrev fp17 : { p : Arguments × List Stmt × Scope // partsAt (stAt 18) = p } := ⟨_, by conv => { lhs; whnf }⟩
noncomputable abbrev fp18 : { p : Arguments × List Stmt × Scope // partsAt (stAt 19) = p } := ⟨_, by conv => { lhs; whnf }⟩
noncomputable abbrev fp19 : { p : Arguments × List Stmt × Scope // partsAt (stAt 20) = p } := ⟨_, by conv => { lhs; whnf }⟩
noncomputable abbrev fp20 : { p : Arguments × List Stmt × Scope // partsAt (stAt 21) = p } := ⟨_, by conv => { lhs; whnf }⟩
noncomputable abbrev vs0 : { p : Stmt // stAt 0 = p } := ⟨_, by conv => { lhs; whnf }⟩
noncomputable abbrev vs2 : { p : Stmt // stAt 2 = p } := ⟨_, by conv => { lhs; whnf }⟩
noncomputable abbrev vs3 : { p : Stmt // stAt 3 = p } := ⟨_, by conv => { lhs; whnf }⟩
noncomputable abbrev vs4 : { p : Stmt // stAt 4 = p } := ⟨_, by conv => { lhs; whnf }⟩
noncomputable abbrev vs5 : { p : Stmt // stAt 5 = p } := ⟨_, by conv => { lhs; whnf }⟩
noncomputable abbrev vs6 : { p : Stmt // stAt 6 = p } := ⟨_, by conv => { lhs; whnf }⟩
noncomputable abbrev vs7 : { p : Stmt // stAt 7 = p } := ⟨_, by conv => { lhs; whnf }⟩
noncomputable abbrev vs8 : { p : Stmt // stAt 8 = p } := ⟨_, by conv => { lhs; whnf }⟩
noncomputable abbrev vs10 : { p : Stmt // stAt 10 = p } := ⟨_, by conv => { lhs; whnf }⟩
noncomputable abbrev vs12 : { p : Stmt // stAt 12 = p } := ⟨_, by conv => { lhs; whnf }⟩
noncomputable abbrev vs13 : { p : Stmt // stAt 13 = p } := ⟨_, by conv => { lhs; whnf }⟩
noncomputable abbrev vs15 : { p : Stmt // stAt 15 = p } := ⟨_, by conv => { lhs; whnf }⟩
noncomputable abbrev vs17 : { p : Stmt // stAt 17 = p } := ⟨_, by conv => { lhs; whnf }⟩
noncomputable abbrev vs18 : { p : Stmt // stAt 18 = p } := ⟨_, by conv => { lhs; whnf }⟩
noncomputable abbrev vs19 : { p : Stmt // stAt 19 = p } := ⟨_, by conv => { lhs; whnf }⟩
noncomputable abbrev vs20 : { p : Stmt // stAt 20 = p } := ⟨_, by conv => { lhs; whnf }⟩
noncomputable abbrev vs21 : { p : Stmt // stAt 21 = p } := ⟨_, by conv => { lhs; whnf }⟩
set_option maxRecDepth 100000 in
/-- the written part of the heap: the objects that the top leaves, at their places (printed by a tool of the desk) -/
noncomputable def heapK : Params → Frag := fun P =>
  (nat_lit 2, Obj.mk Value.none none (Data.dict #[]) #[]) ::
  (nat_lit 3, Obj.mk (Value.type "dict") none (Data.dict #[DictEntry.mk (PyData.keyHash P (Str.ofString "__name__")) (Value.str (Str.ofString "__name__") 165) (Value.str (Str.ofString "law_ty0051_01") 401), DictEntry.mk (PyData.keyHash P (Str.ofString "__doc__")) (Value.str (Str.ofString "__doc__") 166) Value.none, DictEntry.mk (PyData.keyHash P (Str.ofString "__package__")) (Value.str (Str.ofString "__package__") 167) Value.none, DictEntry.mk (PyData.keyHash P (Str.ofString "__loader__")) (Value.str (Str.ofString "__loader__") 168) (Value.builtin "__main__.__loader__#opaque"), DictEntry.mk (PyData.keyHash P (Str.ofString "__spec__")) (Value.str (Str.ofString "__spec__") 169) Value.none, DictEntry.mk (PyData.keyHash P (Str.ofString "__annotations__")) (Value.str (Str.ofString "__annotations__") 170) (Value.ref 6), DictEntry.mk (PyData.keyHash P (Str.ofString "__builtins__")) (Value.str (Str.ofString "__builtins__") 171) (Value.ref 4), DictEntry.mk (PyData.keyHash P (Str.ofString "__file__")) (Value.str (Str.ofString "__file__") 173) (Value.str (Str.ofString "/claim/cut.py") 172), DictEntry.mk (PyData.keyHash P (Str.ofString "__cached__")) (Value.str (Str.ofString "__cached__") 174) Value.none, DictEntry.mk (PyData.keyHash P (Str.ofString "_wall")) (Value.str (Str.ofString "_wall") 193) (Value.ref 21), DictEntry.mk (PyData.keyHash P (Str.ofString "_DIV_LIMIT")) (Value.str (Str.ofString "_DIV_LIMIT") 197) (Value.int 4000 196), DictEntry.mk (PyData.keyHash P (Str.ofString "_div2n1n")) (Value.str (Str.ofString "_div2n1n") 214) (Value.ref 28), DictEntry.mk (PyData.keyHash P (Str.ofString "_div3n2n")) (Value.str (Str.ofString "_div3n2n") 228) (Value.ref 35), DictEntry.mk (PyData.keyHash P (Str.ofString "_int2digits")) (Value.str (Str.ofString "_int2digits") 239) (Value.ref 42), DictEntry.mk (PyData.keyHash P (Str.ofString "_digits2int")) (Value.str (Str.ofString "_digits2int") 250) (Value.ref 49), DictEntry.mk (PyData.keyHash P (Str.ofString "_divmod_pos")) (Value.str (Str.ofString "_divmod_pos") 265) (Value.ref 56), DictEntry.mk (PyData.keyHash P (Str.ofString "int_divmod")) (Value.str (Str.ofString "int_divmod") 275) (Value.ref 63), DictEntry.mk (PyData.keyHash P (Str.ofString "_parse_varint")) (Value.str (Str.ofString "_parse_varint") 286) (Value.ref 70), DictEntry.mk (PyData.keyHash P (Str.ofString "ELLIPSIS_MARKER")) (Value.str (Str.ofString "ELLIPSIS_MARKER") 290) (Value.str (Str.ofString "...") 289), DictEntry.mk (PyData.keyHash P (Str.ofString "_ellipsis_match")) (Value.str (Str.ofString "_ellipsis_match") 302) (Value.ref 77), DictEntry.mk (PyData.keyHash P (Str.ofString "Whitespace")) (Value.str (Str.ofString "Whitespace") 400) (Value.ref 139), DictEntry.mk (PyData.keyHash P (Str.ofString "_law_orders")) (Value.str (Str.ofString "_law_orders") 408) (Value.ref 148), DictEntry.mk (PyData.keyHash P (Str.ofString "_law_written")) (Value.str (Str.ofString "_law_written") 420) (Value.ref 155), DictEntry.mk (PyData.keyHash P (Str.ofString "_law_read")) (Value.str (Str.ofString "_law_read") 429) (Value.ref 162), DictEntry.mk (PyData.keyHash P (Str.ofString "_law_dealt")) (Value.str (Str.ofString "_law_dealt") 441) (Value.ref 169), DictEntry.mk (PyData.keyHash P (Str.ofString "law")) (Value.str (Str.ofString "law") 447) (Value.ref 174)] 26) #[]) ::
  (nat_lit 15, Obj.mk (Value.type "tuple") none (Data.seq #[]) #[]) ::
  (nat_lit 17, Obj.mk (Value.type "tuple") none (Data.seq #[Value.str (Str.ofString "k") 190]) #[]) ::
  (nat_lit 18, Obj.mk (Value.type "tuple") none (Data.seq #[]) #[]) ::
  (nat_lit 20, Obj.mk (Value.type "code") none (Data.fields #[Value.str (Str.ofString "_wall") 187, Value.str (Str.ofString "_wall") 188, Value.str (Str.ofString "/claim/cut.py") 189, Value.int 1 0, Value.int 1 0, Value.int 0 0, Value.int 0 0, Value.int 3 0, Value.ref 15, Value.bool true, Value.int 181 0, Value.ref 16, Value.none, Value.ref 17, Value.ref 18, Value.ref 19, Value.int 191 0, Value.int 1 0, Value.str (Str.ofString "/claim/cut.py") 192]) #[]) ::
  (nat_lit 21, Obj.mk (Value.type "function") none (Data.func (FuncData.mk (Str.ofString "_wall") (Str.ofString "_wall") fp0.1.1 (FuncBody.stmts fp0.1.2.1) fp0.1.2.2 3 [] Value.none Value.none Value.none (Value.str (Str.ofString "__main__") 164) none (Value.ref 20) Value.none 0)) #[]) ::
  (nat_lit 22, Obj.mk (Value.type "tuple") none (Data.seq #[]) #[]) ::
  (nat_lit 24, Obj.mk (Value.type "tuple") none (Data.seq #[Value.str (Str.ofString "a") 201, Value.str (Str.ofString "b") 202, Value.str (Str.ofString "n") 203, Value.str (Str.ofString "pad") 204, Value.str (Str.ofString "half_n") 205, Value.str (Str.ofString "mask") 206, Value.str (Str.ofString "b1") 207, Value.str (Str.ofString "b2") 208, Value.str (Str.ofString "q1") 209, Value.str (Str.ofString "r") 210, Value.str (Str.ofString "q2") 211]) #[]) ::
  (nat_lit 25, Obj.mk (Value.type "tuple") none (Data.seq #[]) #[]) ::
  (nat_lit 27, Obj.mk (Value.type "code") none (Data.fields #[Value.str (Str.ofString "_div2n1n") 198, Value.str (Str.ofString "_div2n1n") 199, Value.str (Str.ofString "/claim/cut.py") 200, Value.int 6 0, Value.int 3 0, Value.int 0 0, Value.int 0 0, Value.int 3 0, Value.ref 22, Value.bool true, Value.int 181 0, Value.ref 23, Value.none, Value.ref 24, Value.ref 25, Value.ref 26, Value.int 212 0, Value.int 6 0, Value.str (Str.ofString "/claim/cut.py") 213]) #[]) ::
  (nat_lit 28, Obj.mk (Value.type "function") none (Data.func (FuncData.mk (Str.ofString "_div2n1n") (Str.ofString "_div2n1n") fp1.1.1 (FuncBody.stmts fp1.1.2.1) fp1.1.2.2 3 [] Value.none Value.none Value.none (Value.str (Str.ofString "cpy313._pylong") 194) none (Value.ref 27) Value.none 0)) #[]) ::
  (nat_lit 29, Obj.mk (Value.type "tuple") none (Data.seq #[]) #[]) ::
  (nat_lit 31, Obj.mk (Value.type "tuple") none (Data.seq #[Value.str (Str.ofString "a12") 218, Value.str (Str.ofString "a3") 219, Value.str (Str.ofString "b") 220, Value.str (Str.ofString "b1") 221, Value.str (Str.ofString "b2") 222, Value.str (Str.ofString "n") 223, Value.str (Str.ofString "q") 224, Value.str (Str.ofString "r") 225]) #[]) ::
  (nat_lit 32, Obj.mk (Value.type "tuple") none (Data.seq #[]) #[]) ::
  (nat_lit 34, Obj.mk (Value.type "code") none (Data.fields #[Value.str (Str.ofString "_div3n2n") 215, Value.str (Str.ofString "_div3n2n") 216, Value.str (Str.ofString "/claim/cut.py") 217, Value.int 22 0, Value.int 6 0, Value.int 0 0, Value.int 0 0, Value.int 3 0, Value.ref 29, Value.bool true, Value.int 181 0, Value.ref 30, Value.none, Value.ref 31, Value.ref 32, Value.ref 33, Value.int 226 0, Value.int 22 0, Value.str (Str.ofString "/claim/cut.py") 227]) #[]) ::
  (nat_lit 35, Obj.mk (Value.type "function") none (Data.func (FuncData.mk (Str.ofString "_div3n2n") (Str.ofString "_div3n2n") fp2.1.1 (FuncBody.stmts fp2.1.2.1) fp2.1.2.2 3 [] Value.none Value.none Value.none (Value.str (Str.ofString "cpy313._pylong") 194) none (Value.ref 34) Value.none 0)) #[]) ::
  (nat_lit 36, Obj.mk (Value.type "tuple") none (Data.seq #[]) #[]) ::
  (nat_lit 38, Obj.mk (Value.type "tuple") none (Data.seq #[Value.str (Str.ofString "a") 232, Value.str (Str.ofString "n") 233]) #[]) ::
  (nat_lit 39, Obj.mk (Value.type "tuple") none (Data.seq #[Value.str (Str.ofString "n") 234, Value.str (Str.ofString "a_digits") 235, Value.str (Str.ofString "inner") 236]) #[]) ::
  (nat_lit 41, Obj.mk (Value.type "code") none (Data.fields #[Value.str (Str.ofString "_int2digits") 229, Value.str (Str.ofString "_int2digits") 230, Value.str (Str.ofString "/claim/cut.py") 231, Value.int 32 0, Value.int 2 0, Value.int 0 0, Value.int 0 0, Value.int 3 0, Value.ref 36, Value.bool true, Value.int 181 0, Value.ref 37, Value.none, Value.ref 38, Value.ref 39, Value.ref 40, Value.int 237 0, Value.int 32 0, Value.str (Str.ofString "/claim/cut.py") 238]) #[]) ::
  (nat_lit 42, Obj.mk (Value.type "function") none (Data.func (FuncData.mk (Str.ofString "_int2digits") (Str.ofString "_int2digits") fp3.1.1 (FuncBody.stmts fp3.1.2.1) fp3.1.2.2 3 [] Value.none Value.none Value.none (Value.str (Str.ofString "cpy313._pylong") 194) none (Value.ref 41) Value.none 0)) #[]) ::
  (nat_lit 43, Obj.mk (Value.type "tuple") none (Data.seq #[]) #[]) ::
  (nat_lit 45, Obj.mk (Value.type "tuple") none (Data.seq #[Value.str (Str.ofString "digits") 243, Value.str (Str.ofString "n") 244]) #[]) ::
  (nat_lit 46, Obj.mk (Value.type "tuple") none (Data.seq #[Value.str (Str.ofString "digits") 245, Value.str (Str.ofString "n") 246, Value.str (Str.ofString "inner") 247]) #[]) ::
  (nat_lit 48, Obj.mk (Value.type "code") none (Data.fields #[Value.str (Str.ofString "_digits2int") 240, Value.str (Str.ofString "_digits2int") 241, Value.str (Str.ofString "/claim/cut.py") 242, Value.int 48 0, Value.int 2 0, Value.int 0 0, Value.int 0 0, Value.int 3 0, Value.ref 43, Value.bool true, Value.int 181 0, Value.ref 44, Value.none, Value.ref 45, Value.ref 46, Value.ref 47, Value.int 248 0, Value.int 48 0, Value.str (Str.ofString "/claim/cut.py") 249]) #[]) ::
  (nat_lit 49, Obj.mk (Value.type "function") none (Data.func (FuncData.mk (Str.ofString "_digits2int") (Str.ofString "_digits2int") fp4.1.1 (FuncBody.stmts fp4.1.2.1) fp4.1.2.2 3 [] Value.none Value.none Value.none (Value.str (Str.ofString "cpy313._pylong") 194) none (Value.ref 48) Value.none 0)) #[]) ::
  (nat_lit 50, Obj.mk (Value.type "tuple") none (Data.seq #[]) #[]) ::
  (nat_lit 52, Obj.mk (Value.type "tuple") none (Data.seq #[Value.str (Str.ofString "a") 254, Value.str (Str.ofString "b") 255, Value.str (Str.ofString "n") 256, Value.str (Str.ofString "a_digits") 257, Value.str (Str.ofString "r") 258, Value.str (Str.ofString "q_digits") 259, Value.str (Str.ofString "a_digit") 260, Value.str (Str.ofString "q_digit") 261, Value.str (Str.ofString "q") 262]) #[]) ::
  (nat_lit 53, Obj.mk (Value.type "tuple") none (Data.seq #[]) #[]) ::
  (nat_lit 55, Obj.mk (Value.type "code") none (Data.fields #[Value.str (Str.ofString "_divmod_pos") 251, Value.str (Str.ofString "_divmod_pos") 252, Value.str (Str.ofString "/claim/cut.py") 253, Value.int 57 0, Value.int 2 0, Value.int 0 0, Value.int 0 0, Value.int 3 0, Value.ref 50, Value.bool true, Value.int 181 0, Value.ref 51, Value.none, Value.ref 52, Value.ref 53, Value.ref 54, Value.int 263 0, Value.int 57 0, Value.str (Str.ofString "/claim/cut.py") 264]) #[]) ::
  (nat_lit 56, Obj.mk (Value.type "function") none (Data.func (FuncData.mk (Str.ofString "_divmod_pos") (Str.ofString "_divmod_pos") fp5.1.1 (FuncBody.stmts fp5.1.2.1) fp5.1.2.2 3 [] Value.none Value.none Value.none (Value.str (Str.ofString "cpy313._pylong") 194) none (Value.ref 55) Value.none 0)) #[]) ::
  (nat_lit 57, Obj.mk (Value.type "tuple") none (Data.seq #[]) #[]) ::
  (nat_lit 59, Obj.mk (Value.type "tuple") none (Data.seq #[Value.str (Str.ofString "a") 269, Value.str (Str.ofString "b") 270, Value.str (Str.ofString "q") 271, Value.str (Str.ofString "r") 272]) #[]) ::
  (nat_lit 60, Obj.mk (Value.type "tuple") none (Data.seq #[]) #[]) ::
  (nat_lit 62, Obj.mk (Value.type "code") none (Data.fields #[Value.str (Str.ofString "int_divmod") 266, Value.str (Str.ofString "int_divmod") 267, Value.str (Str.ofString "/claim/cut.py") 268, Value.int 68 0, Value.int 2 0, Value.int 0 0, Value.int 0 0, Value.int 3 0, Value.ref 57, Value.bool true, Value.int 181 0, Value.ref 58, Value.none, Value.ref 59, Value.ref 60, Value.ref 61, Value.int 273 0, Value.int 68 0, Value.str (Str.ofString "/claim/cut.py") 274]) #[]) ::
  (nat_lit 63, Obj.mk (Value.type "function") none (Data.func (FuncData.mk (Str.ofString "int_divmod") (Str.ofString "int_divmod") fp6.1.1 (FuncBody.stmts fp6.1.2.1) fp6.1.2.2 3 [] Value.none Value.none Value.none (Value.str (Str.ofString "cpy313._pylong") 194) none (Value.ref 62) Value.none 0)) #[]) ::
  (nat_lit 64, Obj.mk (Value.type "tuple") none (Data.seq #[]) #[]) ::
  (nat_lit 66, Obj.mk (Value.type "tuple") none (Data.seq #[Value.str (Str.ofString "iterator") 281, Value.str (Str.ofString "b") 282, Value.str (Str.ofString "val") 283]) #[]) ::
  (nat_lit 67, Obj.mk (Value.type "tuple") none (Data.seq #[]) #[]) ::
  (nat_lit 69, Obj.mk (Value.type "code") none (Data.fields #[Value.str (Str.ofString "_parse_varint") 278, Value.str (Str.ofString "_parse_varint") 279, Value.str (Str.ofString "/claim/cut.py") 280, Value.int 80 0, Value.int 1 0, Value.int 0 0, Value.int 0 0, Value.int 3 0, Value.ref 64, Value.bool true, Value.int 181 0, Value.ref 65, Value.none, Value.ref 66, Value.ref 67, Value.ref 68, Value.int 284 0, Value.int 80 0, Value.str (Str.ofString "/claim/cut.py") 285]) #[]) ::
  (nat_lit 70, Obj.mk (Value.type "function") none (Data.func (FuncData.mk (Str.ofString "_parse_varint") (Str.ofString "_parse_varint") fp7.1.1 (FuncBody.stmts fp7.1.2.1) fp7.1.2.2 3 [] Value.none Value.none Value.none (Value.str (Str.ofString "cpy313.dis") 276) none (Value.ref 69) Value.none 0)) #[]) ::
  (nat_lit 71, Obj.mk (Value.type "tuple") none (Data.seq #[]) #[]) ::
  (nat_lit 73, Obj.mk (Value.type "tuple") none (Data.seq #[Value.str (Str.ofString "want") 294, Value.str (Str.ofString "got") 295, Value.str (Str.ofString "ws") 296, Value.str (Str.ofString "startpos") 297, Value.str (Str.ofString "endpos") 298, Value.str (Str.ofString "w") 299]) #[]) ::
  (nat_lit 74, Obj.mk (Value.type "tuple") none (Data.seq #[]) #[]) ::
  (nat_lit 76, Obj.mk (Value.type "code") none (Data.fields #[Value.str (Str.ofString "_ellipsis_match") 291, Value.str (Str.ofString "_ellipsis_match") 292, Value.str (Str.ofString "/claim/cut.py") 293, Value.int 90 0, Value.int 2 0, Value.int 0 0, Value.int 0 0, Value.int 3 0, Value.ref 71, Value.bool true, Value.int 181 0, Value.ref 72, Value.none, Value.ref 73, Value.ref 74, Value.ref 75, Value.int 300 0, Value.int 90 0, Value.str (Str.ofString "/claim/cut.py") 301]) #[]) ::
  (nat_lit 77, Obj.mk (Value.type "function") none (Data.func (FuncData.mk (Str.ofString "_ellipsis_match") (Str.ofString "_ellipsis_match") fp8.1.1 (FuncBody.stmts fp8.1.2.1) fp8.1.2.2 3 [] Value.none Value.none Value.none (Value.str (Str.ofString "cpy313.doctest") 287) none (Value.ref 76) Value.none 0)) #[]) ::
  (nat_lit 88, Obj.mk (Value.type "tuple") none (Data.seq #[]) #[]) ::
  (nat_lit 90, Obj.mk (Value.type "tuple") none (Data.seq #[Value.str (Str.ofString "self") 325, Value.str (Str.ofString "ws") 326, Value.str (Str.ofString "S") 327, Value.str (Str.ofString "T") 328, Value.str (Str.ofString "count") 329, Value.str (Str.ofString "b") 330, Value.str (Str.ofString "n") 331, Value.str (Str.ofString "nt") 332, Value.str (Str.ofString "ch") 333]) #[]) ::
  (nat_lit 91, Obj.mk (Value.type "tuple") none (Data.seq #[]) #[]) ::
  (nat_lit 93, Obj.mk (Value.type "code") none (Data.fields #[Value.str (Str.ofString "__init__") 322, Value.str (Str.ofString "Whitespace.__init__") 323, Value.str (Str.ofString "/claim/cut.py") 324, Value.int 122 0, Value.int 2 0, Value.int 0 0, Value.int 0 0, Value.int 3 0, Value.ref 88, Value.bool true, Value.int 181 0, Value.ref 89, Value.none, Value.ref 90, Value.ref 91, Value.ref 92, Value.int 334 0, Value.int 122 0, Value.str (Str.ofString "/claim/cut.py") 335]) #[]) ::
  (nat_lit 94, Obj.mk (Value.type "function") none (Data.func (FuncData.mk (Str.ofString "__init__") (Str.ofString "Whitespace.__init__") fp9.1.1 (FuncBody.stmts fp9.1.2.1) fp9.1.2.2 3 [] Value.none Value.none Value.none (Value.str (Str.ofString "cpy313.tabnanny") 303) none (Value.ref 93) Value.none 0)) #[]) ::
  (nat_lit 95, Obj.mk (Value.type "tuple") none (Data.seq #[]) #[]) ::
  (nat_lit 97, Obj.mk (Value.type "tuple") none (Data.seq #[Value.str (Str.ofString "self") 340]) #[]) ::
  (nat_lit 98, Obj.mk (Value.type "tuple") none (Data.seq #[]) #[]) ::
  (nat_lit 100, Obj.mk (Value.type "code") none (Data.fields #[Value.str (Str.ofString "longest_run_of_spaces") 337, Value.str (Str.ofString "Whitespace.longest_run_of_spaces") 338, Value.str (Str.ofString "/claim/cut.py") 339, Value.int 145 0, Value.int 1 0, Value.int 0 0, Value.int 0 0, Value.int 3 0, Value.ref 95, Value.bool true, Value.int 181 0, Value.ref 96, Value.none, Value.ref 97, Value.ref 98, Value.ref 99, Value.int 341 0, Value.int 145 0, Value.str (Str.ofString "/claim/cut.py") 342]) #[]) ::
  (nat_lit 101, Obj.mk (Value.type "function") none (Data.func (FuncData.mk (Str.ofString "longest_run_of_spaces") (Str.ofString "Whitespace.longest_run_of_spaces") fp10.1.1 (FuncBody.stmts fp10.1.2.1) fp10.1.2.2 3 [] Value.none Value.none Value.none (Value.str (Str.ofString "cpy313.tabnanny") 303) none (Value.ref 100) Value.none 0)) #[]) ::
  (nat_lit 102, Obj.mk (Value.type "tuple") none (Data.seq #[]) #[]) ::
  (nat_lit 104, Obj.mk (Value.type "tuple") none (Data.seq #[Value.str (Str.ofString "self") 347, Value.str (Str.ofString "tabsize") 348, Value.str (Str.ofString "count") 349, Value.str (Str.ofString "trailing") 350, Value.str (Str.ofString "il") 351, Value.str (Str.ofString "i") 352]) #[]) ::
  (nat_lit 105, Obj.mk (Value.type "tuple") none (Data.seq #[]) #[]) ::
  (nat_lit 107, Obj.mk (Value.type "code") none (Data.fields #[Value.str (Str.ofString "indent_level") 344, Value.str (Str.ofString "Whitespace.indent_level") 345, Value.str (Str.ofString "/claim/cut.py") 346, Value.int 148 0, Value.int 2 0, Value.int 0 0, Value.int 0 0, Value.int 3 0, Value.ref 102, Value.bool true, Value.int 181 0, Value.ref 103, Value.none, Value.ref 104, Value.ref 105, Value.ref 106, Value.int 353 0, Value.int 148 0, Value.str (Str.ofString "/claim/cut.py") 354]) #[]) ::
  (nat_lit 108, Obj.mk (Value.type "function") none (Data.func (FuncData.mk (Str.ofString "indent_level") (Str.ofString "Whitespace.indent_level") fp11.1.1 (FuncBody.stmts fp11.1.2.1) fp11.1.2.2 3 [] Value.none Value.none Value.none (Value.str (Str.ofString "cpy313.tabnanny") 303) none (Value.ref 107) Value.none 0)) #[]) ::
  (nat_lit 109, Obj.mk (Value.type "tuple") none (Data.seq #[]) #[]) ::
  (nat_lit 111, Obj.mk (Value.type "tuple") none (Data.seq #[Value.str (Str.ofString "self") 359, Value.str (Str.ofString "other") 360]) #[]) ::
  (nat_lit 112, Obj.mk (Value.type "tuple") none (Data.seq #[]) #[]) ::
  (nat_lit 114, Obj.mk (Value.type "code") none (Data.fields #[Value.str (Str.ofString "equal") 356, Value.str (Str.ofString "Whitespace.equal") 357, Value.str (Str.ofString "/claim/cut.py") 358, Value.int 155 0, Value.int 2 0, Value.int 0 0, Value.int 0 0, Value.int 3 0, Value.ref 109, Value.bool true, Value.int 181 0, Value.ref 110, Value.none, Value.ref 111, Value.ref 112, Value.ref 113, Value.int 361 0, Value.int 155 0, Value.str (Str.ofString "/claim/cut.py") 362]) #[]) ::
  (nat_lit 115, Obj.mk (Value.type "function") none (Data.func (FuncData.mk (Str.ofString "equal") (Str.ofString "Whitespace.equal") fp12.1.1 (FuncBody.stmts fp12.1.2.1) fp12.1.2.2 3 [] Value.none Value.none Value.none (Value.str (Str.ofString "cpy313.tabnanny") 303) none (Value.ref 114) Value.none 0)) #[]) ::
  (nat_lit 116, Obj.mk (Value.type "tuple") none (Data.seq #[]) #[]) ::
  (nat_lit 118, Obj.mk (Value.type "tuple") none (Data.seq #[Value.str (Str.ofString "self") 367, Value.str (Str.ofString "other") 368]) #[]) ::
  (nat_lit 119, Obj.mk (Value.type "tuple") none (Data.seq #[]) #[]) ::
  (nat_lit 121, Obj.mk (Value.type "code") none (Data.fields #[Value.str (Str.ofString "not_equal_witness") 364, Value.str (Str.ofString "Whitespace.not_equal_witness") 365, Value.str (Str.ofString "/claim/cut.py") 366, Value.int 158 0, Value.int 2 0, Value.int 0 0, Value.int 0 0, Value.int 3 0, Value.ref 116, Value.bool true, Value.int 181 0, Value.ref 117, Value.none, Value.ref 118, Value.ref 119, Value.ref 120, Value.int 369 0, Value.int 158 0, Value.str (Str.ofString "/claim/cut.py") 370]) #[]) ::
  (nat_lit 122, Obj.mk (Value.type "function") none (Data.func (FuncData.mk (Str.ofString "not_equal_witness") (Str.ofString "Whitespace.not_equal_witness") fp13.1.1 (FuncBody.stmts fp13.1.2.1) fp13.1.2.2 3 [] Value.none Value.none Value.none (Value.str (Str.ofString "cpy313.tabnanny") 303) none (Value.ref 121) Value.none 0)) #[]) ::
  (nat_lit 123, Obj.mk (Value.type "tuple") none (Data.seq #[]) #[]) ::
  (nat_lit 125, Obj.mk (Value.type "tuple") none (Data.seq #[Value.str (Str.ofString "self") 375, Value.str (Str.ofString "other") 376]) #[]) ::
  (nat_lit 126, Obj.mk (Value.type "tuple") none (Data.seq #[]) #[]) ::
  (nat_lit 128, Obj.mk (Value.type "code") none (Data.fields #[Value.str (Str.ofString "less") 372, Value.str (Str.ofString "Whitespace.less") 373, Value.str (Str.ofString "/claim/cut.py") 374, Value.int 161 0, Value.int 2 0, Value.int 0 0, Value.int 0 0, Value.int 3 0, Value.ref 123, Value.bool true, Value.int 181 0, Value.ref 124, Value.none, Value.ref 125, Value.ref 126, Value.ref 127, Value.int 377 0, Value.int 161 0, Value.str (Str.ofString "/claim/cut.py") 378]) #[]) ::
  (nat_lit 129, Obj.mk (Value.type "function") none (Data.func (FuncData.mk (Str.ofString "less") (Str.ofString "Whitespace.less") fp14.1.1 (FuncBody.stmts fp14.1.2.1) fp14.1.2.2 3 [] Value.none Value.none Value.none (Value.str (Str.ofString "cpy313.tabnanny") 303) none (Value.ref 128) Value.none 0)) #[]) ::
  (nat_lit 130, Obj.mk (Value.type "tuple") none (Data.seq #[]) #[]) ::
  (nat_lit 132, Obj.mk (Value.type "tuple") none (Data.seq #[Value.str (Str.ofString "self") 383, Value.str (Str.ofString "other") 384]) #[]) ::
  (nat_lit 133, Obj.mk (Value.type "tuple") none (Data.seq #[]) #[]) ::
  (nat_lit 135, Obj.mk (Value.type "code") none (Data.fields #[Value.str (Str.ofString "not_less_witness") 380, Value.str (Str.ofString "Whitespace.not_less_witness") 381, Value.str (Str.ofString "/claim/cut.py") 382, Value.int 164 0, Value.int 2 0, Value.int 0 0, Value.int 0 0, Value.int 3 0, Value.ref 130, Value.bool true, Value.int 181 0, Value.ref 131, Value.none, Value.ref 132, Value.ref 133, Value.ref 134, Value.int 385 0, Value.int 164 0, Value.str (Str.ofString "/claim/cut.py") 386]) #[]) ::
  (nat_lit 136, Obj.mk (Value.type "function") none (Data.func (FuncData.mk (Str.ofString "not_less_witness") (Str.ofString "Whitespace.not_less_witness") fp15.1.1 (FuncBody.stmts fp15.1.2.1) fp15.1.2.2 3 [] Value.none Value.none Value.none (Value.str (Str.ofString "cpy313.tabnanny") 303) none (Value.ref 135) Value.none 0)) #[]) ::
  (nat_lit 137, Obj.mk (Value.type "tuple") none (Data.seq #[Value.str (Str.ofString "is_simple") 388, Value.str (Str.ofString "n") 389, Value.str (Str.ofString "norm") 390, Value.str (Str.ofString "nt") 391, Value.str (Str.ofString "raw") 392]) #[]) ::
  (nat_lit 138, Obj.mk (Value.type "dict") none (Data.dict #[DictEntry.mk (PyData.keyHash P (Str.ofString "__module__")) (Value.str (Str.ofString "__module__") 312) (Value.str (Str.ofString "cpy313.tabnanny") 303), DictEntry.mk (PyData.keyHash P (Str.ofString "__firstlineno__")) (Value.str (Str.ofString "__firstlineno__") 316) (Value.int 119 315), DictEntry.mk (PyData.keyHash P (Str.ofString "S")) (Value.str (Str.ofString "S") 320) (Value.str (Str.ofString " ") 318), DictEntry.mk (PyData.keyHash P (Str.ofString "T")) (Value.str (Str.ofString "T") 321) (Value.str (Str.ofString "\t") 319), DictEntry.mk (PyData.keyHash P (Str.ofString "__init__")) (Value.str (Str.ofString "__init__") 336) (Value.ref 94), DictEntry.mk (PyData.keyHash P (Str.ofString "longest_run_of_spaces")) (Value.str (Str.ofString "longest_run_of_spaces") 343) (Value.ref 101), DictEntry.mk (PyData.keyHash P (Str.ofString "indent_level")) (Value.str (Str.ofString "indent_level") 355) (Value.ref 108), DictEntry.mk (PyData.keyHash P (Str.ofString "equal")) (Value.str (Str.ofString "equal") 363) (Value.ref 115), DictEntry.mk (PyData.keyHash P (Str.ofString "not_equal_witness")) (Value.str (Str.ofString "not_equal_witness") 371) (Value.ref 122), DictEntry.mk (PyData.keyHash P (Str.ofString "less")) (Value.str (Str.ofString "less") 379) (Value.ref 129), DictEntry.mk (PyData.keyHash P (Str.ofString "not_less_witness")) (Value.str (Str.ofString "not_less_witness") 387) (Value.ref 136), DictEntry.mk (PyData.keyHash P (Str.ofString "__static_attributes__")) (Value.str (Str.ofString "__static_attributes__") 393) (Value.ref 137), DictEntry.mk (PyData.keyHash P (Str.ofString "__dict__")) (Value.str (Str.ofString "__dict__") 395) (Value.ref 140), DictEntry.mk (PyData.keyHash P (Str.ofString "__weakref__")) (Value.str (Str.ofString "__weakref__") 397) (Value.ref 141), DictEntry.mk (PyData.keyHash P (Str.ofString "__doc__")) (Value.str (Str.ofString "__doc__") 398) Value.none] 4) #[]) ::
  (nat_lit 139, Obj.mk (Value.type "type") none (Data.cls (ClassData.mk (Str.ofString "Whitespace") [Value.type "object"] [Value.ref 139, Value.type "object"] 138 (Str.ofString "Whitespace") true [] [] false none false)) #[none, none, some (Value.str (Str.ofString "Whitespace") 305), some (Value.str (Str.ofString "Whitespace") 313), some (Value.builtin "object.__new__"), some (Value.bool true)]) ::
  (nat_lit 140, Obj.mk (Value.type "getset_descriptor") none (Data.fields #[Value.str (Str.ofString "__dict__") 394, Value.ref 139, Value.builtin "function.__dict__", Value.builtin "function.__dict__#set"]) #[]) ::
  (nat_lit 141, Obj.mk (Value.type "getset_descriptor") none (Data.fields #[Value.str (Str.ofString "__weakref__") 396, Value.ref 139, Value.builtin "ExceptionGroup.__weakref__", Value.none]) #[]) ::
  (nat_lit 144, Obj.mk (Value.type "tuple") none (Data.seq #[]) #[]) ::
  (nat_lit 147, Obj.mk (Value.type "code") none (Data.fields #[Value.str (Str.ofString "_law_orders") 403, Value.str (Str.ofString "_law_orders") 404, Value.str (Str.ofString "/claim/cut.py") 405, Value.int 167 0, Value.int 1 0, Value.int 0 0, Value.int 0 0, Value.int 3 0, Value.ref 144, Value.bool true, Value.int 181 0, Value.ref 145, Value.none, Value.none, Value.none, Value.ref 146, Value.int 406 0, Value.int 167 0, Value.str (Str.ofString "/claim/cut.py") 407]) #[]) ::
  (nat_lit 148, Obj.mk (Value.type "function") none (Data.func (FuncData.mk (Str.ofString "_law_orders") (Str.ofString "_law_orders") fp16.1.1 (FuncBody.stmts fp16.1.2.1) fp16.1.2.2 3 [] Value.none Value.none Value.none (Value.str (Str.ofString "law_ty0051_01") 401) none (Value.ref 147) Value.none 0)) #[]) ::
  (nat_lit 149, Obj.mk (Value.type "tuple") none (Data.seq #[]) #[]) ::
  (nat_lit 151, Obj.mk (Value.type "tuple") none (Data.seq #[Value.str (Str.ofString "order") 412, Value.str (Str.ofString "octets") 413, Value.str (Str.ofString "runs") 414, Value.str (Str.ofString "worth") 415, Value.str (Str.ofString "place") 416, Value.str (Str.ofString "sign") 417]) #[]) ::
  (nat_lit 152, Obj.mk (Value.type "tuple") none (Data.seq #[]) #[]) ::
  (nat_lit 154, Obj.mk (Value.type "code") none (Data.fields #[Value.str (Str.ofString "_law_written") 409, Value.str (Str.ofString "_law_written") 410, Value.str (Str.ofString "/claim/cut.py") 411, Value.int 172 0, Value.int 1 0, Value.int 0 0, Value.int 0 0, Value.int 3 0, Value.ref 149, Value.bool true, Value.int 181 0, Value.ref 150, Value.none, Value.ref 151, Value.ref 152, Value.ref 153, Value.int 418 0, Value.int 172 0, Value.str (Str.ofString "/claim/cut.py") 419]) #[]) ::
  (nat_lit 155, Obj.mk (Value.type "function") none (Data.func (FuncData.mk (Str.ofString "_law_written") (Str.ofString "_law_written") fp17.1.1 (FuncBody.stmts fp17.1.2.1) fp17.1.2.2 3 [] Value.none Value.none Value.none (Value.str (Str.ofString "law_ty0051_01") 401) none (Value.ref 154) Value.none 0)) #[]) ::
  (nat_lit 156, Obj.mk (Value.type "tuple") none (Data.seq #[]) #[]) ::
  (nat_lit 158, Obj.mk (Value.type "tuple") none (Data.seq #[Value.str (Str.ofString "octets") 424, Value.str (Str.ofString "left") 425, Value.str (Str.ofString "numbers") 426]) #[]) ::
  (nat_lit 159, Obj.mk (Value.type "tuple") none (Data.seq #[]) #[]) ::
  (nat_lit 161, Obj.mk (Value.type "code") none (Data.fields #[Value.str (Str.ofString "_law_read") 421, Value.str (Str.ofString "_law_read") 422, Value.str (Str.ofString "/claim/cut.py") 423, Value.int 186 0, Value.int 1 0, Value.int 0 0, Value.int 0 0, Value.int 3 0, Value.ref 156, Value.bool true, Value.int 181 0, Value.ref 157, Value.none, Value.ref 158, Value.ref 159, Value.ref 160, Value.int 427 0, Value.int 186 0, Value.str (Str.ofString "/claim/cut.py") 428]) #[]) ::
  (nat_lit 162, Obj.mk (Value.type "function") none (Data.func (FuncData.mk (Str.ofString "_law_read") (Str.ofString "_law_read") fp18.1.1 (FuncBody.stmts fp18.1.2.1) fp18.1.2.2 3 [] Value.none Value.none Value.none (Value.str (Str.ofString "law_ty0051_01") 401) none (Value.ref 161) Value.none 0)) #[]) ::
  (nat_lit 163, Obj.mk (Value.type "tuple") none (Data.seq #[]) #[]) ::
  (nat_lit 165, Obj.mk (Value.type "tuple") none (Data.seq #[Value.str (Str.ofString "counts") 433, Value.str (Str.ofString "heaps") 434, Value.str (Str.ofString "step") 435, Value.str (Str.ofString "ways") 436, Value.str (Str.ofString "count") 437, Value.str (Str.ofString "k") 438]) #[]) ::
  (nat_lit 166, Obj.mk (Value.type "tuple") none (Data.seq #[]) #[]) ::
  (nat_lit 168, Obj.mk (Value.type "code") none (Data.fields #[Value.str (Str.ofString "_law_dealt") 430, Value.str (Str.ofString "_law_dealt") 431, Value.str (Str.ofString "/claim/cut.py") 432, Value.int 194 0, Value.int 3 0, Value.int 0 0, Value.int 0 0, Value.int 3 0, Value.ref 163, Value.bool true, Value.int 181 0, Value.ref 164, Value.none, Value.ref 165, Value.ref 166, Value.ref 167, Value.int 439 0, Value.int 194 0, Value.str (Str.ofString "/claim/cut.py") 440]) #[]) ::
  (nat_lit 169, Obj.mk (Value.type "function") none (Data.func (FuncData.mk (Str.ofString "_law_dealt") (Str.ofString "_law_dealt") fp19.1.1 (FuncBody.stmts fp19.1.2.1) fp19.1.2.2 3 [] Value.none Value.none Value.none (Value.str (Str.ofString "law_ty0051_01") 401) none (Value.ref 168) Value.none 0)) #[]) ::
  (nat_lit 170, Obj.mk (Value.type "tuple") none (Data.seq #[]) #[]) ::
  (nat_lit 173, Obj.mk (Value.type "code") none (Data.fields #[Value.str (Str.ofString "law") 442, Value.str (Str.ofString "law") 443, Value.str (Str.ofString "/claim/cut.py") 444, Value.int 200 0, Value.int 1 0, Value.int 0 0, Value.int 0 0, Value.int 3 0, Value.ref 170, Value.bool true, Value.int 181 0, Value.ref 171, Value.none, Value.none, Value.none, Value.ref 172, Value.int 445 0, Value.int 200 0, Value.str (Str.ofString "/claim/cut.py") 446]) #[]) ::
  (nat_lit 174, Obj.mk (Value.type "function") none (Data.func (FuncData.mk (Str.ofString "law") (Str.ofString "law") fp20.1.1 (FuncBody.stmts fp20.1.2.1) fp20.1.2.2 3 [] Value.none Value.none Value.none (Value.str (Str.ofString "law_ty0051_01") 401) none (Value.ref 173) Value.none 0)) #[]) :: []
/-- the part of the text that the walk sees -/
noncomputable def viewK : Program := { PySem.Challenge.pw_ty0051_01 with main := { PySem.Challenge.pw_ty0051_01.main with body := [vs0.1, vs2.1, vs3.1, vs4.1, vs5.1, vs6.1, vs7.1, vs8.1, vs10.1, vs12.1, vs13.1, vs15.1, vs17.1, vs18.1, vs19.1, vs20.1, vs21.1] } }
noncomputable abbrev hdAs : List Addr := [2, 3, 15, 17, 18, 20, 21, 22, 24, 25, 27, 28, 29, 31, 32, 34, 35, 36, 38, 39, 41, 42, 43, 45, 46, 48, 49, 50, 52, 53, 55, 56, 57, 59, 60, 62, 63, 64, 66, 67, 69, 70, 71, 73, 74, 76, 77, 88, 90, 91, 93, 94, 95, 97, 98, 100, 101, 102, 104, 105, 107, 108, 109, 111, 112, 114, 115, 116, 118, 119, 121, 122, 123, 125, 126, 128, 129, 130, 132, 133, 135, 136, 137, 138, 139, 140, 141, 144, 147, 148, 149, 151, 152, 154, 155, 156, 158, 159, 161, 162, 163, 165, 166, 168, 169, 170, 173, 174]
end Mine
end
section
namespace Mine
theorem hdAs_eq (P : Params) : hdAs = (heapK P).map (·.1) := by kernel_rfl
/-- what the walk is hdTold of the heap behind the top -/
noncomputable abbrev hdHook : Hook := kmHook heapK hdAs hdAs_eq [44, 37]
noncomputable abbrev hdSeen (s : Shared) : Bool := xlAt viewK [] s && recOk (RowW.records PySem.Challenge.rw_ty0051_01.row.toRowW) s
noncomputable abbrev hdTold (s : Shared) := (openSeen viewK [Str.ofString "Whitespace"] (importedModules PySem.Challenge.pw_ty0051_01.main.body) hdSeen true s, Hook.obs hdHook s)
/-- the run of the top behind the start-up, as the world answers -/
noncomputable abbrev hdFrom (os : OsState) (w : World) : Prop :=
  (topFrom treeTable PySem.Challenge.pw_ty0051_01 w 2138 ⟨boot_heap w.params, Array.mk [], boot_drawn, boot_toks, os⟩).map hdTold = some (openGood viewK [Str.ofString "Whitespace"], Hook.val hdHook w)
set_option maxRecDepth 100000 in
set_option maxHeartbeats 0 in
theorem hdFromF (os : OsState) (w : World) : hdFrom os (w.withFollow "special-get-raises" false) := by
  unfold hdFrom topFrom
  rw [PySem.W.Fast.te14082659384304107361, PySem.W.Fast.te14364793385576792824]
  kernel_rfl
set_option maxRecDepth 100000 in
set_option maxHeartbeats 0 in
theorem hdFromT (os : OsState) (w : World) : hdFrom os (w.withFollow "special-get-raises" true) := by
  unfold hdFrom topFrom
  rw [PySem.W.Fast.te14082659384304107361, PySem.W.Fast.te14364793385576792824]
  kernel_rfl
theorem hdOpens : opening PySem.Challenge.pw_ty0051_01 = plainProg PySem.Challenge.pw_ty0051_01.main.scope.names := by rfl
theorem hdFences (s : Shared) : fenceModules? PySem.Challenge.pw_ty0051_01 s = some s := by rfl
theorem hdLeft : LeftO PySem.Challenge.pw_ty0051_01 viewK [Str.ofString "Whitespace"] hdSeen (Hook.obs hdHook) (Hook.val hdHook) 2138 := fun w => by
  obtain ⟨⟨h, g, d, k, os⟩, e, v⟩ := Option.map_eq_some_iff.mp (boot_open hdOpens (N := 2138) (by decide) hdFences w)
  obtain ⟨rfl, rfl, rfl, rfl⟩ : h = boot_heap w.params ∧ g = Array.mk [] ∧ d = boot_drawn ∧ k = boot_toks := by simpa using v
  unfold openEnds
  rw [e]
  exact byRow2 "special-get-raises" (P := hdFrom os) (hdFromF os) (hdFromT os) w
end Mine
end
section
namespace Mine
theorem fill0 : PySem.Challenge.rw_ty0051_01 = PySem.Challenge.rw_ty0051_01 ∧ heapK = heapK := by
  k_fill
  exact ⟨rfl, rfl⟩
noncomputable abbrev prg := PySem.Challenge.pw_ty0051_01
noncomputable abbrev Led := List (Addr × Obj)
noncomputable abbrev tupOf (vs : List Value) : Obj := { cls := .type "tuple", data := .seq vs.toArray }
/-- a call of the def at `f`: every caller's frame -/
noncomputable abbrev Claim (w : World) (f : Addr) (vs : List Value) (D U : Nat) (news : Led) (Ret : (Value → Led → Prop) → Prop) : Prop :=
  ∀ (p : Program) (loose : List Str) (mean : ExcName → Option Value) (mg mb : Str → Option Value)
    (dp un : Nat) (gd : Option (List Code)) (cn : Str) (cs : Scope) (a : Addr) (ccd : Value) (cl : List (Str × Addr)) (outer : List Env) (A₀ : Around) (base h₀ : Heap) (L : Addr) (m : Str → Option Value) (s : Shared) (Q E : Value → Shared → Prop),
    Below A₀ base outer h₀ → Fr h₀ L s.heap m → (heapK w.params).In h₀ → News h₀ L s.heap news → Top p loose mean mg mb h₀ → cs.kind = .function → dp + D < recursionLimit → un + U < cLine →
    (Ret fun v news' => ∀ (h' : Heap) (tk' : Nat), Fr h₀ L h' m → News h₀ L h' news' → Q v { s with heap := h', toks := tk' }) →
    wpAny (model prg w) (ktrTop dp un gd cn cs L a ccd cl outer) (call (.ref f) vs) Q E s
end Mine
end
section
namespace Mine
theorem Claim.use {w : World} {f : Addr} {vs : List Value} {D U : Nat} {news : Led} {Ret : (Value → Led → Prop) → Prop} (C : Claim w f vs D U news Ret)
    {p : Program} {loose : List Str} {mean : ExcName → Option Value} {mg mb : Str → Option Value}
    {dp un : Nat} {gd : Option (List Code)} {cn : Str} {cs : Scope} {a : Addr} {ccd : Value} {cl : List (Str × Addr)} {outer : List Env} {A₀ : Around} {base h₀ : Heap} {L : Addr} {m : Str → Option Value} {s : Shared} {Q E : Value → Shared → Prop}
    (B : Below A₀ base outer h₀) (F : Fr h₀ L s.heap m) (X : (heapK w.params).In h₀) (N : News h₀ L s.heap news) (T : Top p loose mean mg mb h₀) (hk : cs.kind = .function) (hdp : dp + D < recursionLimit) (hu : un + U < cLine)
    (h : Ret fun v news' => ∀ (h' : Heap) (tk' : Nat), Fr h₀ L h' m → News h₀ L h' news' → Q v { s with heap := h', toks := tk' }) :
    wpAny (model prg w) (ktrTop dp un gd cn cs L a ccd cl outer) (call (.ref f) vs) Q E s :=
  C p loose mean mg mb dp un gd cn cs a ccd cl outer A₀ base h₀ L m s Q E B F X N T hk hdp hu h

/-- the frame, told by the names that are wanted -/
noncomputable def nm (rest : Str → Option Value) : List (Str × Value) → Str → Option Value
  | [] => rest
  | p :: r => fun z => if z = p.1 then some p.2 else nm rest r z
theorem nm_self {m : Str → Option Value} : ∀ {ps : List (Str × Value)}, (∀ p ∈ ps, m p.1 = some p.2) → nm m ps = m
  | [], _ => rfl
  | p :: r, h => by
    funext z
    show (if z = p.1 then some p.2 else nm m r z) = m z
    rw [nm_self fun q hq => h q (.tail _ hq)]
    by_cases e : z = p.1
    · rw [if_pos e, e, h p (.head _)]
    · rw [if_neg e]
theorem nm_fr {h₀ h : Heap} {L : Addr} {m : Str → Option Value} {ps : List (Str × Value)} (F : Fr h₀ L h m) (hm : ∀ p ∈ ps, m p.1 = some p.2) : Fr h₀ L h (nm m ps) := by
  rw [nm_self hm]; exact F
theorem all_nil {P : Str × Value → Prop} : ∀ p ∈ ([] : List (Str × Value)), P p := fun _ h => nomatch h
theorem all_cons {P : Str × Value → Prop} {a : Str × Value} {r : List (Str × Value)} (h : P a) (t : ∀ p ∈ r, P p) : ∀ p ∈ a :: r, P p := fun p hp => by
  rcases List.mem_cons.mp hp with rfl | q
  · exact h
  · exact t p q

/-- the rest of a block, named -/
structure SP (P : Flow → Shared → Prop) (f : Flow) (s : Shared) : Prop where
  is : P f s
noncomputable def Nxt (C P : Flow → Shared → Prop) : Prop := ∀ f s, C f s → P f s
theorem SP.of {C P : Flow → Shared → Prop} {f : Flow} {s : Shared} (h : Nxt C P) (c : C f s) : SP P f s := ⟨h f s c⟩
theorem cons_gt {M : Model} {A : Around} {st : Stmt} {rest : List Stmt} {env : Env} {Q : Flow → Shared → Prop} {E : Value → Shared → Prop} {hp : Heap} {g : Array GenState} {d : Drawn} {k : Nat} {os : OsState}
    (h : ∀ P, Nxt (fun f s' => match f with | .next => wpAny M A (execs rest env) Q E s' | f => Q f s') P → ∀ tk, wpAny M A (exec st env) (SP P) E ⟨hp, g, d, tk, os⟩) : wpAny M A (execs (st :: rest) env) Q E ⟨hp, g, d, k, os⟩ :=
  wpAny_execs_cons (wpAny_mono (h _ (fun _ _ c => c) k) (fun _ _ p => p.is) fun _ _ e => e)
theorem letAE {M : Model} {A : Around} {body : List Stmt} {env : Env} {Q : Flow → Shared → Prop} {E : Value → Shared → Prop} {s : Shared} (h : let A' := A; let env' := env; wpAny M A' (execs body env') Q E s) : wpAny M A (execs body env) Q E s := h
theorem letM {P : Prop} {h₀ h : Heap} {L : Addr} {m : Str → Option Value} (F : Fr h₀ L h m) (k : let m' := m; Fr h₀ L h m' → P) : P := k F
theorem const_m {M : Model} {A : Around} {env : Env} {i : Int} {kd : Nat} {pos : Pos} {Q : Value → Shared → Prop} {E : Value → Shared → Prop} {hp : Heap} {g : Array GenState} {d : Drawn} {k : Nat} {os : OsState} (h : Q (.int i k) ⟨hp, g, d, k + 1, os⟩) :
    wpAny M A (eval (.Constant (.int i) kd pos) env) Q E ⟨hp, g, d, k, os⟩ := wpAny_Constant_int h
theorem ne_lt {a b : Nat} (h : a < b) : a ≠ b := Nat.ne_of_lt h
theorem ne_gt {a b : Nat} (h : b < a) : a ≠ b := Nat.ne_of_gt h

structure Hold (P : Prop) : Prop where
  out : P
theorem hold {P : Prop} (h : Hold P) : P := h.out

/-- a while's turn has ended, and the word holds again -/
structure MEnd {σ : Type} (h₀ : Heap) (L : Addr) (s : Shared) (Led : σ → List (Addr × Obj)) (ps : σ → List (Str × Value)) (P : σ → Prop) (s₃ : Shared) : Prop where
  is : ∃ (c' : σ) (h' : Heap) (tk : Nat) (m' : Str → Option Value), s₃ = { s with heap := h', toks := tk } ∧ Fr h₀ L h' m' ∧ News h₀ L h' (Led c') ∧ (∀ p ∈ ps c', m' p.1 = some p.2) ∧ P c'
theorem MEnd.mk' {σ : Type} {h₀ : Heap} {L : Addr} {s : Shared} {Led : σ → List (Addr × Obj)} {ps : σ → List (Str × Value)} {P : σ → Prop} (c' : σ) {h' : Heap} {tk : Nat} {m' : Str → Option Value}
    (F : Fr h₀ L h' m') (N : News h₀ L h' (Led c')) (hk : ∀ p ∈ ps c', m' p.1 = some p.2) (hp : P c') : MEnd h₀ L s Led ps P { s with heap := h', toks := tk } := ⟨c', h', tk, m', rfl, F, N, hk, hp⟩
noncomputable def MPost {σ : Type} (h₀ : Heap) (L : Addr) (s : Shared) (Led : σ → List (Addr × Obj)) (ps : σ → List (Str × Value)) (P : σ → Prop) (Q : Flow → Shared → Prop) (f : Flow) (s₃ : Shared) : Prop := match f with
  | .ret v => Q (.ret v) s₃
  | .brk => Q .next s₃
  | _ => MEnd h₀ L s Led ps P s₃
section
variable {prog : Program} {w : World} {A : Around} {E : Value → Shared → Prop} {Q : Flow → Shared → Prop} {s : Shared} {env : Env} {h₀ : Heap} {L : Addr}
/-- a while by what holds of its names (ps c), its ledger (Led c) and its measure -/
theorem while_c {σ : Type} {test : Expr} {body : List Stmt} {pos : Pos} {m₀ : Str → Option Value} (Led : σ → List (Addr × Obj)) (ps : σ → List (Str × Value)) (P : σ → Prop) (μ : σ → Nat) (c₀ : σ)
    (F : Fr h₀ L s.heap m₀) (N : News h₀ L s.heap (Led c₀)) (hk : ∀ p ∈ ps c₀, m₀ p.1 = some p.2) (hp : P c₀)
    (turn : ∀ (c : σ) (u : Str → Option Value) h tk, P c → Fr h₀ L h (nm u (ps c)) → News h₀ L h (Led c) →
      wpAny (model prog w) A (isTrue test env (eval test env)) (fun b s₂ =>
        if b = true then wpAny (model prog w) A (execs body env) (MPost h₀ L s Led ps (fun c' => P c' ∧ μ c' < μ c) Q) E s₂
        else Q .next s₂) E { s with heap := h, toks := tk })
    (hE : PassesOwn (model prog w) A env E := by passes_own) :
    wpAny (model prog w) A (exec (.While test body [] pos) env) Q E s := by
  refine While_inv2 (fun n m nx => ∃ c : σ, nx = Led c ∧ μ c = n ∧ (∀ p ∈ ps c, m p.1 = some p.2) ∧ P c) F N ⟨c₀, rfl, rfl, hk, hp⟩ ?_ hE
  rintro n m₁ nx h tk F₁ N₁ ⟨c, hnx, hsz, h1, hp'⟩
  rw [hnx] at N₁
  rw [← hsz]
  refine wpAny_mono (turn c m₁ h tk hp' (nm_fr F₁ h1) N₁) (fun b s₂ p => ?_) fun _ _ x => x
  cases b with
  | false => simpa using p
  | true =>
    simp only [if_true] at p ⊢
    refine wpAny_mono p (fun f s₃ q => ?_) fun _ _ x => x
    cases f with
    | ret v => exact q
    | brk => exact q
    | next =>
      obtain ⟨c', h', tk', m', rfl, F', N', hk9, hp9, hm9⟩ := q
      exact ⟨h', tk', m', Led c', μ c', rfl, F', N', hm9, c', rfl, rfl, hk9, hp9⟩
    | cont =>
      obtain ⟨c', h', tk', m', rfl, F', N', hk9, hp9, hm9⟩ := q
      exact ⟨h', tk', m', Led c', μ c', rfl, F', N', hm9, c', rfl, rfl, hk9, hp9⟩
end
end Mine
end
open Mine
local macro_rules | `(tactic| k_ne) => `(tactic| first | with_reducible assumption | exact ne_lt (by assumption) | exact ne_gt (by assumption) | exact Ne.symm (by assumption) | ((rename _ ∧ _ => hL); first | exact ne_gt hL.1 | exact ne_gt hL.2.1 | exact ne_gt hL.2.2.1 | exact ne_gt hL.2.2.2.1 | exact ne_gt hL.2.2.2.2.1 | exact ne_gt hL.2.2.2.2.2.1))
local macro_rules | `(tactic| walk_at "eval Constant int") => `(tactic| (refine const_m ?_))
local macro_rules | `(tactic| walk_at "SP") => `(tactic| (refine SP.of (by assumption) ?_))
local macro_rules | `(tactic| walk_at "execs cons") => `(tactic| (k_here; first | (k_made; walk_at "execs cons") | ((try dsimp only); refine cons_gt fun P hP tk => ?_; (try ((rename Fr _ _ _ _ => lF); refine letM lF ?_; clear lF; intro m' F')))))
section
namespace Mine
open Builtin.Int (intBits)
theorem sub_refl {l : Led} : ∀ p ∈ l, p ∈ l := fun _ h => h
theorem sub_tail {l l' : Led} {a : Addr × Obj} (h : ∀ p ∈ l, p ∈ l') : ∀ p ∈ l, p ∈ a :: l' := fun p hp => .tail _ (h p hp)
theorem sub_cons {l l' : Led} {a : Addr × Obj} (h1 : a ∈ l') (h : ∀ p ∈ l, p ∈ l') : ∀ p ∈ a :: l, p ∈ l' := fun p hp => by
  rcases List.mem_cons.mp hp with rfl | q
  · exact h1
  · exact h p q
theorem sub_nil {l' : Led} : ∀ p ∈ ([] : Led), p ∈ l' := fun _ h => nomatch h
theorem drop_to {h₀ h : Heap} {L : Addr} {news news' : Led} (N : News h₀ L h news') (hs : ∀ p ∈ news, p ∈ news') : News h₀ L h news := fun p hp => N p (hs p hp)

theorem shl_ok {a n : Int} (h : intBits a ≤ 1000000) (hn : n ≤ 1000000) : (intBits a : Int) + n ≤ 2 ^ 27 := by
  have : (2 : Int) ^ 27 = 134217728 := by decide
  omega
theorem mul_ok {a b : Int} (ha : intBits a ≤ 1000000) (hb : intBits b ≤ 1000000) : IntMulOk a b := IntMulOk.of_le ha hb (by decide)
theorem bits_of_lt {x : Int} {k : Nat} (h0 : 0 ≤ x) (h : x < 2 ^ k) : intBits x ≤ k := by
  rw [intBits_le_iff]
  have e : ((x.natAbs : Nat) : Int) = x := Int.natAbs_of_nonneg h0
  have h2 : ((x.natAbs : Nat) : Int) < ((2 ^ k : Nat) : Int) := by rw [e, kbt_cast]; exact h
  exact Int.ofNat_lt.mp h2
theorem bits_pow (k : Nat) : intBits ((2 : Int) ^ k) ≤ k + 1 := by
  refine bits_of_lt (Int.le_of_lt (kbt_pos k)) ?_
  rw [Int.pow_succ]
  have := kbt_pos k
  omega
theorem lt_of_bits {x : Int} {k : Nat} (h : intBits x ≤ k) : x < 2 ^ k := by
  have h2 := intBits_le_iff.mp h
  have : ((x.natAbs : Nat) : Int) < ((2 ^ k : Nat) : Int) := Int.ofNat_lt.mpr h2
  rw [kbt_cast] at this
  omega
theorem bits_toNat {n : Int} {k : Nat} (h : n ≤ k) : intBits ((2 : Int) ^ n.toNat) ≤ k + 1 :=
  Nat.le_trans (bits_pow _) (by omega)
theorem noPy {a b : Int} (h : intBits b ≤ 9000) : Builtin.divisionGoesByPylong a b = false := by
  refine PyProof.noPylong_of_log2 ?_
  by_cases h0 : b.natAbs = 0
  · rw [h0]; decide +kernel
  · exact (Nat.log2_lt h0).mpr (Nat.lt_of_lt_of_le (intBits_le_iff.mp h) (Nat.pow_le_pow_right (by decide) (Nat.le_refl _)))

section
variable {prog : Program} {w : World} {A : Around} {E : Value → Shared → Prop} {s : Shared} {a b n : Int} {t u : Tok} {Q : Value → Shared → Prop}
theorem bitOr_disj (x : Int) {y : Int} (k : Nat) (hx : 0 ≤ x) (hy : 0 ≤ y) (h : y < 2 ^ k) : Builtin.bitOr (x * 2 ^ k) y = x * 2 ^ k + y := by
  have hp := kbt_pos k
  have hx2 : 0 ≤ x * 2 ^ k := Int.mul_nonneg hx (Int.le_of_lt hp)
  unfold Builtin.bitOr Builtin.bitNot
  have h1 : ¬ (0 ≤ -(x * 2 ^ k) - 1) := by omega
  have h2 : ¬ (0 ≤ -y - 1) := by omega
  unfold Builtin.bitAnd
  rw [decide_eq_false h1, decide_eq_false h2]
  show Builtin.bitNot (Builtin.bitNot _) = _
  unfold Builtin.bitNot
  have e1 : (-(-(x * 2 ^ k) - 1) - 1).toNat = x.toNat * 2 ^ k := by
    have : -(-(x * 2 ^ k) - 1) - 1 = x * 2 ^ k := by omega
    rw [this]
    have : x * 2 ^ k = ((x.toNat * 2 ^ k : Nat) : Int) := by
      rw [Int.natCast_mul, kbt_cast, Int.toNat_of_nonneg hx]
    rw [this]; rfl
  have e2 : (-(-y - 1) - 1).toNat = y.toNat := by congr 1; omega
  rw [e1, e2]
  have hy' : y.toNat < 2 ^ k := by
    have : ((y.toNat : Nat) : Int) < ((2 ^ k : Nat) : Int) := by rw [Int.toNat_of_nonneg hy, kbt_cast]; exact h
    exact Int.ofNat_lt.mp this
  rw [Nat.mul_comm x.toNat, ← Nat.two_pow_add_eq_or_of_lt hy']
  rw [Int.natCast_add, Int.natCast_mul, kbt_cast, Int.toNat_of_nonneg hx, Int.toNat_of_nonneg hy, Int.mul_comm]
  omega
theorem or_disj {x y : Int} {k : Nat} {t u : Tok} (hx : 0 ≤ x) (hy : 0 ≤ y) (hk : y < 2 ^ k) (h : Q (.int (x * 2 ^ k + y) s.toks) { s with toks := s.toks + 1 }) :
    wpAny (model prog w) A (binaryOp .BitOr (.int (x * 2 ^ k) t) (.int y u)) Q E s := or_int (by rw [bitOr_disj x k hx hy hk]; exact h)
end
end Mine
end
section
namespace Mine
theorem rst_B2 : True := by
  w_top off
  trivial
local macro_rules | `(tactic| walk_at "call builtin:divmod") => `(tactic| (refine divmod_N (by assumption) (by assumption) (by omega) ?_ (Or.inl (by assumption)); intro _ _ _))
set_option maxRecDepth 100000 in
set_option maxHeartbeats 8000000 in
theorem div2n1n_base {w : World} {news : Led} {a b n : Int} {ta tb tn : Tok} (h0 : 0 ≤ a) (hb : 0 < b) (hn : (Builtin.Int.intBits a : Int) - n ≤ 4000) (hp : Builtin.divisionGoesByPylong a b = false) :
    Claim w 28 [.int a ta, .int b tb, .int n tn] 1 8 news (fun K => ∀ l t1 t2, K (.ref l) ((l, tupOf [.int (a.fdiv b) t1, .int (a.fmod b) t2]) :: news)) := by
  intro p loose mean mg mb dp un gd cn cs aa ccd cl outer A₀ base h₀ L m s Q E B F X N T hk hd hu hret
  obtain ⟨sh, sg, sd, sk, so⟩ := s
  dsimp only at F N hret ⊢
  refine wpAny_call ?_
  k_dflt cell_enter
  k_steps
  all_goals exact hret _ _ _ _ _ (by assumption) (by assumption)
end Mine
end
section
namespace Mine
open Builtin.Int (intBits)
theorem lt_of_mul_lt {a b P : Int} (hP : 0 < P) (h : a * P < b * P) : a < b := Int.lt_of_mul_lt_mul_right h (Int.le_of_lt hP)
theorem d3_b {b b1 b2 P : Int} (hb : b = b1 * P + b2) (hb1 : 0 < b1 ∧ b1 < P) (hb2 : 0 ≤ b2 ∧ b2 < P) : 0 < b ∧ b < P * P := by
  subst hb
  have h1 : (b1 + 1) * P ≤ P * P := Int.mul_le_mul_of_nonneg_right (by omega) (by omega)
  have h2 : 1 * P ≤ b1 * P := Int.mul_le_mul_of_nonneg_right (by omega) (by omega)
  rw [Int.add_mul] at h1
  omega
theorem d3_a12 {a12 a3 b b1 b2 P : Int} (hb : b = b1 * P + b2) (hb1 : 0 < b1 ∧ b1 < P) (hb2 : 0 ≤ b2 ∧ b2 < P) (ha3 : 0 ≤ a3 ∧ a3 < P) (ht : a12 * P + a3 < b * P) : a12 < P * P := by
  have h := d3_b hb hb1 hb2
  have := lt_of_mul_lt (a := a12) (b := b) (P := P) (by omega) (by omega)
  omega
theorem d3_bits {a12 a3 b b1 b2 n : Int} (hn : 0 < n) (hb : b = b1 * 2 ^ n.toNat + b2) (hb1 : 0 < b1 ∧ b1 < 2 ^ n.toNat) (hb2 : 0 ≤ b2 ∧ b2 < 2 ^ n.toNat) (ha3 : 0 ≤ a3 ∧ a3 < 2 ^ n.toNat) (ha : 0 ≤ a12) (ht : a12 * 2 ^ n.toNat + a3 < b * 2 ^ n.toNat) :
    (intBits a12 : Int) ≤ n + n := by
  have h := d3_a12 hb hb1 hb2 ha3 ht
  rw [← Int.pow_add] at h
  have := bits_of_lt ha h
  omega
theorem d3_s1 {a12 a3 b b1 b2 : Int} {k : Nat} (hb : b = b1 * 2 ^ k + b2) (hb1 : 0 < b1 ∧ b1 < 2 ^ k) (ha3 : 0 ≤ a3 ∧ a3 < 2 ^ k) (ha : 0 ≤ a12) (ht : a12 * 2 ^ k + a3 < b * 2 ^ k) (hq : a12.fdiv (2 ^ k) = b1) :
    (1 * 2 ^ k - 1) * b + (Builtin.bitOr ((a12 - b1 * 2 ^ k + b1) * 2 ^ k) a3 - (1 * 2 ^ k - 1) * b2) = a12 * 2 ^ k + a3 ∧ Builtin.bitOr ((a12 - b1 * 2 ^ k + b1) * 2 ^ k) a3 - (1 * 2 ^ k - 1) * b2 < b := by
  have hx : 0 ≤ a12 - b1 * 2 ^ k + b1 := by
    have h1 := kbt_whole a12 k
    have h2 := kbt_rest a12 k
    rw [hq] at h1
    omega
  rw [bitOr_disj _ k hx ha3.1 ha3.2]
  have hp := kbt_pos k
  revert hp hx ht ha3 hb1 hb
  generalize (2 : Int) ^ k = P
  intro hb hb1 ha3 ht hx hp
  have e : (1 * P - 1) * b + ((a12 - b1 * P + b1) * P + a3 - (1 * P - 1) * b2) = a12 * P + a3 := by subst hb; grind
  refine ⟨e, ?_⟩
  have e2 : (1 * P - 1) * b = b * P - b := by grind
  omega
theorem d3_s2 {a12 a3 b b1 b2 : Int} {k : Nat} (hb : b = b1 * 2 ^ k + b2) (hb1 : 0 < b1 ∧ b1 < 2 ^ k) (hb2 : 0 ≤ b2 ∧ b2 < 2 ^ k) (ha3 : 0 ≤ a3 ∧ a3 < 2 ^ k) (ha : 0 ≤ a12) :
    (a12.fdiv b1) * b + (Builtin.bitOr ((a12.fmod b1) * 2 ^ k) a3 - (a12.fdiv b1) * b2) = a12 * 2 ^ k + a3 ∧ Builtin.bitOr ((a12.fmod b1) * 2 ^ k) a3 - (a12.fdiv b1) * b2 < b := by
  rw [Int.fdiv_eq_ediv_of_nonneg _ (Int.le_of_lt hb1.1), Int.fmod_eq_emod_of_nonneg _ (Int.le_of_lt hb1.1)]
  have hr0 := Int.emod_nonneg a12 (Int.ne_of_gt hb1.1)
  have hr1 := Int.emod_lt_of_pos a12 hb1.1
  have hq0 := Int.ediv_nonneg ha (Int.le_of_lt hb1.1)
  have hqr := Int.mul_ediv_add_emod a12 b1
  rw [bitOr_disj _ k hr0 ha3.1 ha3.2]
  have hp := kbt_pos k
  revert hp ha3 hb2 hb1 hb
  generalize (2 : Int) ^ k = P
  generalize a12 / b1 = q at *
  generalize a12 % b1 = r at *
  intro hb hb1 hb2 ha3 hp
  refine ⟨by subst hb; rw [← hqr]; grind, ?_⟩
  have h1 : 0 ≤ q * b2 := Int.mul_nonneg hq0 hb2.1
  have h2 : (r + 1) * P ≤ b1 * P := Int.mul_le_mul_of_nonneg_right (by omega) (by omega)
  rw [Int.add_mul] at h2
  omega
theorem d3_out {q r b t : Int} (hb : 0 < b) (h : q * b + r = t) (h0 : 0 ≤ r) (h1 : r < b) : t / b = q ∧ t % b = r := kbt_unique hb (by rw [Int.mul_comm]; omega) h0 h1
theorem d3_turn {q r b t : Int} (h : q * b + r = t) : (q - 1) * b + (r + b) = t := by rw [Int.sub_mul]; omega
end Mine
end
local macro_rules | `(tactic| walk_at "MPost") => `(tactic| dsimp only [MPost])
section
namespace Mine
theorem rst_B3 : True := by
  w_top off
  trivial
open Builtin.Int (intBits)
theorem bits_one : intBits 1 ≤ 1 := by decide
theorem bits_shl {x n : Int} {m : Nat} (h : intBits x ≤ m) (hn : n ≤ 8000) : intBits (x * 2 ^ n.toNat) ≤ m + 8001 := intBits_mul_le h (bits_toNat (k := 8000) hn)
/-- the walk's own words -/
local macro_rules | `(tactic| walk_at "bitsm") => `(tactic| first
  | with_reducible assumption
  | exact bits_one
  | (refine' intBits_add_le ?x ?y; (case x => walk_at "bitsm"); (case y => walk_at "bitsm"))
  | (refine' intBits_sub_le ?x ?y; (case x => walk_at "bitsm"); (case y => walk_at "bitsm"))
  | (refine' bits_shl ?x ?y; (case x => walk_at "bitsm"); (case y => omega))
  | (refine' intBits_mul_le ?x ?y; (case x => walk_at "bitsm"); (case y => walk_at "bitsm"))
  | (refine' intBits_fdiv_le ?x; (case x => walk_at "bitsm"))
  | (refine' intBits_fmod_le ?x ?y; (case x => walk_at "bitsm"); (case y => walk_at "bitsm")))
local macro_rules | `(tactic| walk_at "bits") => `(tactic| (refine' Nat.le_trans ?bu ?bv; (case bu => walk_at "bitsm"); (case bv => decide)))
local macro_rules | `(tactic| walk_at "use") => `(tactic| ((case cB => k_asm); (case cF => k_asm); (case cX => k_asm); (case cN => k_asm); (case cT => k_asm); (case cK => rfl); (case cd => l_fact); (case cu => l_fact)))
local macro_rules | `(tactic| walk_at "call ref") => `(tactic| (refine' Claim.use (div2n1n_base ?a1 ?a2 ?a3 ?a4) ?cB ?cF ?cX ?cN ?cT ?cK ?cd ?cu ?_; walk_at "use"; (case a1 => assumption); (case a2 => omega); (case a3 => omega); (case a4 => exact noPy (by assumption)); intro _ _ _ _ _ _ _))
local macro_rules | `(tactic| walk_at "binaryOp LShift int int") => `(tactic| (refine' lshift_int ?x0 (shl_ok ?xb ?xn) ?_; (case x0 => omega); (case xb => walk_at "bits"); (case xn => omega)))
local macro_rules | `(tactic| walk_at "binaryOp Mult int int") => `(tactic| (refine' mul_int ?_ (mul_ok ?xb ?xn); rotate_left; (case xb => walk_at "bits"); (case xn => walk_at "bits")))
local macro_rules | `(tactic| walk_at $s) => if ["exec While"].contains s.getString then `(tactic| refine hold ?_) else Lean.Macro.throwUnsupported
set_option maxRecDepth 100000 in
set_option maxHeartbeats 8000000 in
theorem div3n2n_c {w : World} {news : Led} {a12 a3 b b1 b2 n : Int} {t1 t2 t3 t4 t5 t6 : Tok} (hn : 0 < n) (hn2 : n ≤ 4000) (hb : b = b1 * 2 ^ n.toNat + b2)
    (hb1 : 0 < b1 ∧ b1 < 2 ^ n.toNat) (hb2 : 0 ≤ b2 ∧ b2 < 2 ^ n.toNat) (ha3 : 0 ≤ a3 ∧ a3 < 2 ^ n.toNat) (ha : 0 ≤ a12) (ht : a12 * 2 ^ n.toNat + a3 < b * 2 ^ n.toNat) :
    Claim w 35 [.int a12 t1, .int a3 t2, .int b t3, .int b1 t4, .int b2 t5, .int n t6] 2 12 news (fun K => ∀ l t1 t2, K (.ref l) ((l, tupOf [.int ((a12 * 2 ^ n.toNat + a3) / b) t1, .int ((a12 * 2 ^ n.toNat + a3) % b) t2]) :: news)) := by
  intro p loose mean mg mb dp un gd cn cs aa ccd cl outer A₀ base h₀ L m s Q E B F X N T hk hd hu hret
  obtain ⟨sh, sg, sd, sk, so⟩ := s
  dsimp only at F N hret ⊢
  have z12' := d3_bits hn hb hb1 hb2 ha3 ha ht
  have z12 : intBits a12 ≤ 8000 := by omega
  have z1 : intBits b1 ≤ 4000 := Nat.le_trans (bits_of_lt (Int.le_of_lt hb1.1) hb1.2) (by omega)
  have z1' : intBits b1 ≤ 9000 := Nat.le_trans z1 (by decide)
  have z2 : intBits b2 ≤ 4000 := Nat.le_trans (bits_of_lt hb2.1 hb2.2) (by omega)
  have z3 : intBits a3 ≤ 4000 := Nat.le_trans (bits_of_lt ha3.1 ha3.2) (by omega)
  have hb0 := (d3_b hb hb1 hb2).1
  have zs2 := d3_s2 hb hb1 hb2 ha3 ha
  refine wpAny_call ?_
  k_dflt cell_enter
  k_steps
  all_goals (refine ⟨?_⟩)
  all_goals
    refine while_c (σ := Int × Tok × Int × Tok) (fun _ => news) (fun c => [(Str.ofString "q", .int c.1 c.2.1), (Str.ofString "r", .int c.2.2.1 c.2.2.2), (Str.ofString "b", .int b t3)])
      (fun c => c.1 * b + c.2.2.1 = a12 * 2 ^ n.toNat + a3 ∧ c.2.2.1 < b) (fun c => (-c.2.2.1).toNat) (_, _, _, _) (by assumption) (drop_to (by assumption) (sub_tail sub_refl)) (all_cons rfl (all_cons rfl (all_cons rfl all_nil))) ?_ ?_
  any_goals (first | exact zs2 | exact d3_s1 hb hb1 ha3 ha ht (by assumption))
  all_goals
    rintro ⟨q, tq, r, tr⟩ u h tk ⟨hc1, hc2⟩ F1 N1
    dsimp only at hc1 hc2 F1 N1 ⊢
    k_steps
    · exact MEnd.mk' (_, _, _, _) (by assumption) (by assumption) (all_cons rfl (all_cons rfl (all_cons rfl all_nil))) ⟨⟨d3_turn hc1, by dsimp only; omega⟩, by dsimp only; omega⟩
    · have hf := d3_out hb0 hc1 (by omega) hc2
      rw [hf.1, hf.2] at hret
      exact hret _ _ _ _ _ (by assumption) (by assumption)
end Mine
end
section
namespace Mine
open Builtin.Int (intBits)
section
variable {prog : Program} {w : World} {A : Around} {E : Value → Shared → Prop} {s : Shared} {a b c n : Int} {t u : Tok} {Q : Value → Shared → Prop}
theorem rshift_to (hn : 0 ≤ n) (hc : a.fdiv (2 ^ n.toNat) = c) (h : Q (.int c s.toks) { s with toks := s.toks + 1 }) : wpAny (model prog w) A (binaryOp .RShift (.int a t) (.int n u)) Q E s := rshift_int hn (by rw [hc]; exact h)
theorem and_to (hc : Builtin.bitAnd a b = c) (h : Q (.int c s.toks) { s with toks := s.toks + 1 }) : wpAny (model prog w) A (binaryOp .BitAnd (.int a t) (.int b u)) Q E s := and_int (by rw [hc]; exact h)
theorem or_to (hc : Builtin.bitOr a b = c) (h : Q (.int c s.toks) { s with toks := s.toks + 1 }) : wpAny (model prog w) A (binaryOp .BitOr (.int a t) (.int b u)) Q E s := or_int (by rw [hc]; exact h)
theorem lshift_to (hn : 0 ≤ n) (hsz : (intBits a : Int) + n ≤ 2 ^ 27) (hc : a * 2 ^ n.toNat = c) (h : Q (.int c s.toks) { s with toks := s.toks + 1 }) : wpAny (model prog w) A (binaryOp .LShift (.int a t) (.int n u)) Q E s := lshift_int hn hsz (by rw [hc]; exact h)
end
theorem e1_cut {a b P : Int} (hP : 0 < P) (ha : 0 ≤ a) (ht : a < b * (P * P)) : a / (P * P) * P + a / P % P = a / P ∧ 0 ≤ a / (P * P) ∧ (0 ≤ a / P % P ∧ a / P % P < P) ∧ a / P < b * P := by
  have h1 : a / P / P = a / (P * P) := Int.ediv_ediv_of_nonneg (Int.le_of_lt hP)
  have h2 := Int.mul_ediv_add_emod (a / P) P
  refine ⟨by rw [← h1, Int.mul_comm]; exact h2, Int.ediv_nonneg ha (Int.mul_nonneg (by omega) (by omega)), ⟨Int.emod_nonneg _ (by omega), Int.emod_lt_of_pos _ hP⟩, ?_⟩
  exact Int.ediv_lt_of_lt_mul hP (by rw [Int.mul_assoc]; exact ht)
theorem e1_out {a b P : Int} (hP : 0 < P) (hb : 0 < b) :
    (a / P) / b * P + ((a / P) % b * P + a % P) / b = a / b ∧ ((a / P) % b * P + a % P) % b = a % b := by
  have h1 := Int.mul_ediv_add_emod a P
  have h2 := Int.mul_ediv_add_emod (a / P) b
  have h3 := Int.mul_ediv_add_emod ((a / P) % b * P + a % P) b
  have h4 := Int.emod_nonneg ((a / P) % b * P + a % P) (Int.ne_of_gt hb)
  have h5 := Int.emod_lt_of_pos ((a / P) % b * P + a % P) hb
  have key := kbt_unique (a := a) (b := b) (q := (a / P) / b * P + ((a / P) % b * P + a % P) / b) (r := ((a / P) % b * P + a % P) % b) hb (by grind) h4 h5
  exact ⟨key.1.symm, key.2.symm⟩
theorem e1_lt {a b P r : Int} (hP : 0 < P) (hr : r < b) (ha : 0 ≤ a ∧ a < P) : r * P + a < b * P := by
  have h2 : (r + 1) * P ≤ b * P := Int.mul_le_mul_of_nonneg_right (by omega) (by omega)
  rw [Int.add_mul] at h2
  omega
theorem e1_q2 {r a b P : Int} (hb : 0 < b) (hr : 0 ≤ r) (hP : 0 < P) (ha : 0 ≤ a) (h : r * P + a < b * P) : 0 ≤ (r * P + a) / b ∧ (r * P + a) / b < P :=
  ⟨Int.ediv_nonneg (Int.add_nonneg (Int.mul_nonneg hr (by omega)) ha) (by omega), Int.ediv_lt_of_lt_mul hb (by rw [Int.mul_comm P]; exact h)⟩
end Mine
end
section
namespace Mine
theorem rst_B5 : True := by
  w_top off
  trivial
open Builtin.Int (intBits)
theorem div3n2n_t {w : World} {news : Led} {a12 a3 b b1 b2 n V : Int} {t1 t2 t3 t4 t5 t6 : Tok} (hn : 0 < n) (hn2 : n ≤ 4000) (hb : b = b1 * 2 ^ n.toNat + b2)
    (hb1 : 0 < b1 ∧ b1 < 2 ^ n.toNat) (hb2 : 0 ≤ b2 ∧ b2 < 2 ^ n.toNat) (ha3 : 0 ≤ a3 ∧ a3 < 2 ^ n.toNat) (ha : 0 ≤ a12) (ht : a12 * 2 ^ n.toNat + a3 < b * 2 ^ n.toNat) (hV : a12 * 2 ^ n.toNat + a3 = V) :
    Claim w 35 [.int a12 t1, .int a3 t2, .int b t3, .int b1 t4, .int b2 t5, .int n t6] 2 12 news (fun K => ∀ l t1 t2, K (.ref l) ((l, tupOf [.int (V / b) t1, .int (V % b) t2]) :: news)) := by
  rw [← hV]
  exact div3n2n_c hn hn2 hb hb1 hb2 ha3 ha ht
theorem half_2 (h : Int) : (2 * h).fdiv (2 ^ (1 : Int).toNat) = h := by
  have e : (2 : Int) ^ (1 : Int).toNat = 2 := rfl
  rw [e, Int.fdiv_eq_ediv_of_nonneg _ (by decide)]
  omega
theorem bits_ge {x : Int} {k : Nat} (h : intBits x ≤ k) {m : Nat} (hm : k ≤ m) : intBits x ≤ m := Nat.le_trans h hm
local macro_rules | `(tactic| walk_at "bitsm") => `(tactic| first
  | with_reducible assumption
  | exact bits_one
  | (refine' intBits_add_le ?x ?y; (case x => walk_at "bitsm"); (case y => walk_at "bitsm"))
  | (refine' intBits_sub_le ?x ?y; (case x => walk_at "bitsm"); (case y => walk_at "bitsm"))
  | (refine' bits_shl ?x ?y; (case x => walk_at "bitsm"); (case y => omega))
  | (refine' intBits_mul_le ?x ?y; (case x => walk_at "bitsm"); (case y => walk_at "bitsm")))
local macro_rules | `(tactic| walk_at "bits") => `(tactic| (refine' Nat.le_trans ?bu ?bv; (case bu => walk_at "bitsm"); (case bv => decide)))
local macro_rules | `(tactic| walk_at "use") => `(tactic| ((case cB => k_asm); (case cF => k_asm); (case cX => k_asm); (case cN => k_asm); (case cT => k_asm); (case cK => rfl); (case cd => l_fact); (case cu => l_fact)))
local macro_rules | `(tactic| walk_at "call ref") => `(tactic| (refine' Claim.use (div3n2n_t ?a1 ?a2 ?a3 ?a4 ?a5 ?a6 ?a7 ?a8 ?a9) ?cB ?cF ?cX ?cN ?cT ?cK ?cd ?cu ?_; walk_at "use"; (case a9 => assumption); (case a1 => assumption); (case a2 => assumption); (case a3 => assumption); (case a4 => assumption); (case a5 => assumption); (case a6 => assumption); (case a7 => assumption); (case a8 => assumption); intro _ _ _ _ _ _ _))
local macro_rules | `(tactic| walk_at "call builtin:divmod") => `(tactic| (refine divmod_N (by assumption) (by assumption) (by omega) ?_ (Or.inl (by assumption)); intro _ _ _))
local macro_rules | `(tactic| walk_at "binaryOp LShift int int") => `(tactic| (refine' lshift_int ?x0 (shl_ok ?xb ?xn) ?_; (case x0 => omega); (case xb => walk_at "bits"); (case xn => omega)))
local macro_rules | `(tactic| walk_at "binaryOp RShift int int") => `(tactic| (refine' rshift_to ?x0 ?xc ?_; (case xc => with_reducible assumption); (case x0 => omega)))
local macro_rules | `(tactic| walk_at "binaryOp BitAnd int int") => `(tactic| (refine' and_to ?xc ?_; (case xc => with_reducible assumption)))
local macro_rules | `(tactic| walk_at "binaryOp BitOr int int") => `(tactic| (refine' or_to ?xc ?_; (case xc => with_reducible assumption)))
set_option maxRecDepth 100000 in
set_option maxHeartbeats 8000000 in
theorem div2n1n_c {w : World} {news : Led} {a b n h : Int} {t1 t2 t3 : Tok} (hh : 0 < h) (hh2 : h ≤ 4000) (hn : n = 2 * h) (hb : 2 ^ h.toNat ≤ b ∧ b < 2 ^ h.toNat * 2 ^ h.toNat)
    (ha : 0 ≤ a) (ht : a < b * (2 ^ h.toNat * 2 ^ h.toNat)) :
    Claim w 28 [.int a t1, .int b t2, .int n t3] 3 16 news (fun K => ∀ l t1 t2, K (.ref l) ((l, tupOf [.int (a / b) t1, .int (a % b) t2]) :: news)) := by
  intro p loose mean mg mb dp un gd cn cs aa ccd cl outer A₀ base h₀ L m s Q E B F X N T hk hd hu hret
  obtain ⟨sh, sg, sd, sk, so⟩ := s
  dsimp only at F N hret ⊢
  have hP := kbt_pos h.toNat
  have hb0 : 0 < b := by omega
  have zb : intBits b ≤ 8000 := by
    have h1 := hb.2
    rw [← Int.pow_add] at h1
    exact Nat.le_trans (bits_of_lt (Int.le_of_lt hb0) h1) (by omega)
  have hpy : Builtin.divisionGoesByPylong a b = false := noPy (bits_ge zb (by decide))
  have f1 : n.fdiv (2 ^ (1 : Int).toNat) = h := by rw [hn]; exact half_2 h
  have f2 : Builtin.bitAnd n 1 = 0 := by rw [bitAnd_m1, hn]; omega
  have en : n.toNat = h.toNat + h.toNat := by omega
  have hmask : (1 * 2 ^ h.toNat - 1 : Int) = 2 ^ h.toNat - 1 := by omega
  have f3 : b.fdiv (2 ^ h.toNat) = b / 2 ^ h.toNat := Int.fdiv_eq_ediv_of_nonneg _ (Int.le_of_lt hP)
  have f4 : Builtin.bitAnd b (1 * 2 ^ h.toNat - 1) = b % 2 ^ h.toNat := by rw [hmask, kbt_mask]
  have f5 : a.fdiv (2 ^ n.toNat) = a / (2 ^ h.toNat * 2 ^ h.toNat) := by rw [en, Int.pow_add, Int.fdiv_eq_ediv_of_nonneg _ (Int.mul_nonneg (Int.le_of_lt hP) (Int.le_of_lt hP))]
  have f6 : a.fdiv (2 ^ h.toNat) = a / 2 ^ h.toNat := Int.fdiv_eq_ediv_of_nonneg _ (Int.le_of_lt hP)
  have f7 : Builtin.bitAnd (a / 2 ^ h.toNat) (1 * 2 ^ h.toNat - 1) = a / 2 ^ h.toNat % 2 ^ h.toNat := by rw [hmask, kbt_mask]
  have f8 : Builtin.bitAnd a (1 * 2 ^ h.toNat - 1) = a % 2 ^ h.toNat := by rw [hmask, kbt_mask]
  obtain ⟨c1, c2, c3, c4⟩ := e1_cut hP ha ht
  have c5 : a / (2 ^ h.toNat * 2 ^ h.toNat) * 2 ^ h.toNat + a / 2 ^ h.toNat % 2 ^ h.toNat < b * 2 ^ h.toNat := by rw [c1]; exact c4
  have g1 : 0 < b / 2 ^ h.toNat ∧ b / 2 ^ h.toNat < 2 ^ h.toNat := ⟨Int.le_ediv_of_mul_le hP (by omega), Int.ediv_lt_of_lt_mul hP hb.2⟩
  have g2 : 0 ≤ b % 2 ^ h.toNat ∧ b % 2 ^ h.toNat < 2 ^ h.toNat := ⟨Int.emod_nonneg _ (by omega), Int.emod_lt_of_pos _ hP⟩
  have g3 : b = b / 2 ^ h.toNat * 2 ^ h.toNat + b % 2 ^ h.toNat := by rw [Int.mul_comm]; exact (Int.mul_ediv_add_emod _ _).symm
  have g4 : 0 ≤ a % 2 ^ h.toNat ∧ a % 2 ^ h.toNat < 2 ^ h.toNat := ⟨Int.emod_nonneg _ (by omega), Int.emod_lt_of_pos _ hP⟩
  have g5 : 0 ≤ a / 2 ^ h.toNat % b := Int.emod_nonneg _ (by omega)
  have g6 : a / 2 ^ h.toNat % b < b := Int.emod_lt_of_pos _ hb0
  have g7 := e1_lt hP g6 g4
  have g8 : a / 2 ^ h.toNat % b * 2 ^ h.toNat + a % 2 ^ h.toNat = a / 2 ^ h.toNat % b * 2 ^ h.toNat + a % 2 ^ h.toNat := rfl
  have g9 := e1_q2 hb0 g5 hP g4.1 g7
  have g10 := e1_out (a := a) hP hb0
  have g11 : 0 ≤ a / 2 ^ h.toNat / b := Int.ediv_nonneg (Int.ediv_nonneg ha (by omega)) (by omega)
  have f9 : Builtin.bitOr (a / 2 ^ h.toNat / b * 2 ^ h.toNat) ((a / 2 ^ h.toNat % b * 2 ^ h.toNat + a % 2 ^ h.toNat) / b) = a / b := by
    rw [bitOr_disj _ _ g11 g9.1 g9.2, g10.1]
  have za : intBits (a / 2 ^ h.toNat / b) ≤ 4000 := by
    refine Nat.le_trans (bits_of_lt (k := h.toNat) g11 ?_) (by omega)
    exact Int.ediv_lt_of_lt_mul hb0 (by rw [Int.mul_comm]; exact c4)
  refine wpAny_call ?_
  k_dflt cell_enter
  k_steps
  · rw [← Int.fdiv_eq_ediv_of_nonneg a (Int.le_of_lt hb0), ← Int.fmod_eq_emod_of_nonneg a (Int.le_of_lt hb0)] at hret
    exact hret _ _ _ _ _ (by assumption) (by assumption)
  · rw [← g10.2] at hret
    exact hret _ _ _ _ _ (by assumption) (drop_to (by assumption) (sub_cons (.head _) (sub_tail (sub_tail (sub_tail (sub_tail sub_refl))))))
end Mine
end
section
namespace Mine
open Builtin.Int (intBits)
noncomputable abbrev ClaimT (w : World) (f : Addr) (vs : List Value) (D U : Nat) (news : Led) (Ret : (Value → Led → Prop) → Prop) : Prop :=
  ∀ (p : Program) (loose : List Str) (mean : ExcName → Option Value) (mg mb : Str → Option Value)
    (dp un : Nat) (gd : Option (List Code)) (cn : Str) (cs : Scope) (a : Addr) (ccd : Value) (cl : List (Str × Addr)) (outer : List Env) (A₀ : Around) (base h₀ : Heap) (L : Addr) (m : Str → Option Value) (s : Shared) (Q E : Value → Shared → Prop),
    CodeHd base 41 37 → CodeHd base 48 44 →
    Below A₀ base outer h₀ → Fr h₀ L s.heap m → (heapK w.params).In h₀ → News h₀ L s.heap news → Top p loose mean mg mb h₀ → cs.kind = .function → dp + D < recursionLimit → un + U < cLine →
    (Ret fun v news' => ∀ (h' : Heap) (tk' : Nat), Fr h₀ L h' m → News h₀ L h' news' → Q v { s with heap := h', toks := tk' }) →
    wpAny (model prg w) (ktrTop dp un gd cn cs L a ccd cl outer) (call (.ref f) vs) Q E s
theorem ClaimT.use {w : World} {f : Addr} {vs : List Value} {D U : Nat} {news : Led} {Ret : (Value → Led → Prop) → Prop} (C : ClaimT w f vs D U news Ret)
    {p : Program} {loose : List Str} {mean : ExcName → Option Value} {mg mb : Str → Option Value}
    {dp un : Nat} {gd : Option (List Code)} {cn : Str} {cs : Scope} {a : Addr} {ccd : Value} {cl : List (Str × Addr)} {outer : List Env} {A₀ : Around} {base h₀ : Heap} {L : Addr} {m : Str → Option Value} {s : Shared} {Q E : Value → Shared → Prop}
    (B : Below A₀ base outer h₀) (C1 : CodeHd base 41 37) (C2 : CodeHd base 48 44) (F : Fr h₀ L s.heap m) (X : (heapK w.params).In h₀) (N : News h₀ L s.heap news) (T : Top p loose mean mg mb h₀) (hk : cs.kind = .function) (hdp : dp + D < recursionLimit) (hu : un + U < cLine)
    (h : Ret fun v news' => ∀ (h' : Heap) (tk' : Nat), Fr h₀ L h' m → News h₀ L h' news' → Q v { s with heap := h', toks := tk' }) :
    wpAny (model prg w) (ktrTop dp un gd cn cs L a ccd cl outer) (call (.ref f) vs) Q E s :=
  C p loose mean mg mb dp un gd cn cs a ccd cl outer A₀ base h₀ L m s Q E C1 C2 B F X N T hk hdp hu h
section
variable {prog : Program} {w : World} {A : Around} {E : Value → Shared → Prop} {s : Shared} {a b c n : Int} {t u : Tok} {Q : Value → Shared → Prop}
theorem floordiv_to (hb : 0 < b) (hb2 : intBits b ≤ 9000) (hc : a.fdiv b = c) (h : Q (.int c s.toks) { s with toks := s.toks + 1 }) : wpAny (model prog w) A (binaryOp .FloorDiv (.int a t) (.int b u)) Q E s :=
  AutoIntOps.floordiv_1 (by simp only [beq_iff_eq]; omega) (by rw [noPy hb2]; exact Bool.false_ne_true) (by subst hc; exact h)
theorem xor_to (hc : Builtin.bitXor a b = c) (h : Q (.int c s.toks) { s with toks := s.toks + 1 }) : wpAny (model prog w) A (binaryOp .BitXor (.int a t) (.int b u)) Q E s := xor_int (by rw [hc]; exact h)
end
theorem rep_one {k : Nat} {v : Value} : (List.replicate ((k : Int)).toNat [v]).flatten = List.replicate k v := by
  show (List.replicate k [v]).flatten = _
  induction k with
  | zero => rfl
  | succ k ih => rw [List.replicate_succ, List.flatten_cons, ih, List.replicate_succ]; rfl
theorem raw_ne {l t : Led} {d x : Addr} (h : ∀ p ∈ l, p.1 < d) (hs : ∀ p ∈ t, p ∈ l) (hx : @LE.le Nat _ d x) : ∀ p ∈ t, p.1 ≠ x := fun p hp => Nat.ne_of_lt (Nat.lt_of_lt_of_le (h p (hs p hp)) hx)

/-! digits, plainly -/
/-- `len` digits of x to the base 2^n, the lowest first; the last one keeps all that is left -/
noncomputable def digs (n : Nat) : Nat → Int → List Int
  | 0, _ => []
  | 1, x => [x]
  | k + 2, x => x % 2 ^ n :: digs n (k + 1) (x / 2 ^ n)
theorem digs_one (n : Nat) (x : Int) : digs n 1 x = [x] := rfl
theorem digs_length (n : Nat) : ∀ (k : Nat) (x : Int), (digs n k x).length = k
  | 0, _ => rfl
  | 1, _ => rfl
  | k + 2, x => by show (digs n (k + 1) _).length + 1 = _; rw [digs_length n (k + 1)]
theorem ediv_pow (x : Int) (a b : Nat) : x / 2 ^ a / 2 ^ b = x / 2 ^ (a + b) := by
  rw [Int.ediv_ediv_of_nonneg (Int.le_of_lt (kbt_pos a)), Int.pow_add]
theorem emod_ediv (x : Int) (a b : Nat) : x % 2 ^ (a + b) / 2 ^ a = x / 2 ^ a % 2 ^ b := by
  have ha := kbt_pos a
  have hb := kbt_pos b
  have h1 := Int.mul_ediv_add_emod x (2 ^ (a + b))
  have h2 := Int.mul_ediv_add_emod (x / 2 ^ a) (2 ^ b)
  have h3 := Int.mul_ediv_add_emod x (2 ^ a)
  rw [ediv_pow] at h2
  rw [Int.pow_add] at h1 ⊢
  rw [Int.pow_add] at h2
  have hr0 := Int.emod_nonneg x (Int.ne_of_gt ha)
  have hr1 := Int.emod_lt_of_pos x ha
  have e : x % (2 ^ a * 2 ^ b) = (x / 2 ^ a % 2 ^ b) * 2 ^ a + x % 2 ^ a := by
    generalize x % (2 ^ a * 2 ^ b) = u at *
    generalize x / (2 ^ a * 2 ^ b) = v at *
    generalize x / 2 ^ a % 2 ^ b = r at *
    generalize x / 2 ^ a = y at *
    generalize x % 2 ^ a = z at *
    generalize (2 : Int) ^ a = P at *
    generalize (2 : Int) ^ b = R at *
    grind
  rw [e, Int.add_comm, Int.add_mul_ediv_right _ _ (Int.ne_of_gt ha), Int.ediv_eq_zero_of_lt hr0 hr1, Int.zero_add]
theorem emod_emod_pow (x : Int) (a b : Nat) : x % 2 ^ (a + b) % 2 ^ a = x % 2 ^ a := by
  rw [Int.pow_add]
  exact Int.emod_emod_of_dvd x (Int.dvd_mul_right _ _)
theorem digs_split (n : Nat) : ∀ (a b : Nat) (x : Int), 0 < a → 0 < b → digs n (a + b) x = digs n a (x % 2 ^ (n * a)) ++ digs n b (x / 2 ^ (n * a))
  | 1, b + 1, x, _, _ => by
    rw [Nat.add_comm 1]
    show x % 2 ^ n :: digs n (b + 1) (x / 2 ^ n) = [x % 2 ^ (n * 1)] ++ _
    rw [Nat.mul_one]; rfl
  | a + 2, b + 1, x, _, _ => by
    have e : a + 2 + (b + 1) = (a + 1 + b) + 2 := by omega
    rw [e]
    show x % 2 ^ n :: digs n (a + 1 + b + 1) (x / 2 ^ n) = (x % 2 ^ (n * (a + 2)) % 2 ^ n :: digs n (a + 1) (x % 2 ^ (n * (a + 2)) / 2 ^ n)) ++ _
    have e2 : n * (a + 2) = n + n * (a + 1) := by rw [Nat.mul_add, Nat.mul_add]; omega
    have ih := digs_split n (a + 1) (b + 1) (x / 2 ^ n) (by omega) (by omega)
    rw [← Nat.add_assoc] at ih
    rw [ih, e2, emod_emod_pow, emod_ediv, ediv_pow]; rfl
theorem land_high (x s : Nat) : x &&& (x / 2 ^ s * 2 ^ s) = x / 2 ^ s * 2 ^ s := by
  refine Nat.eq_of_testBit_eq fun i => ?_
  rw [Nat.testBit_and, Nat.mul_comm, Nat.testBit_two_pow_mul]
  by_cases h : i ≥ s
  · rw [decide_eq_true h, Bool.true_and, Nat.testBit_div_two_pow]
    have : i - s + s = i := by omega
    rw [this, Bool.and_self]
  · rw [decide_eq_false h, Bool.false_and, Bool.and_false]
theorem bitXor_low {x : Int} (s : Nat) (hx : 0 ≤ x) : Builtin.bitXor x (x / 2 ^ s * 2 ^ s) = x % 2 ^ s := by
  have hp := kbt_pos s
  have hq : 0 ≤ x / 2 ^ s := Int.ediv_nonneg hx (Int.le_of_lt hp)
  have hy : 0 ≤ x / 2 ^ s * 2 ^ s := Int.mul_nonneg hq (Int.le_of_lt hp)
  have h1 := Int.mul_ediv_add_emod x (2 ^ s)
  rw [bitXor_and]
  have e : Builtin.bitAnd x (x / 2 ^ s * 2 ^ s) = x / 2 ^ s * 2 ^ s := by
    unfold Builtin.bitAnd
    rw [decide_eq_true hx, decide_eq_true hy]
    show ((x.toNat &&& (x / 2 ^ s * 2 ^ s).toNat : Nat) : Int) = _
    obtain ⟨k, rfl⟩ := Int.eq_ofNat_of_zero_le hx
    have e1 : ((k : Int) / 2 ^ s * 2 ^ s) = ((k / 2 ^ s * 2 ^ s : Nat) : Int) := by
      rw [Int.natCast_mul, Int.natCast_ediv, kbt_cast]
    rw [e1]
    show ((k &&& (k / 2 ^ s * 2 ^ s) : Nat) : Int) = _
    rw [land_high]
  rw [e, Int.mul_comm]
  rw [Int.mul_comm] at h1
  rw [Int.mul_comm (2 ^ s)] at *
  omega
/-- the places lo .. hi - 1 of ns hold x's digits -/
noncomputable def putD (n : Nat) (ns : List Int) (lo hi : Nat) (x : Int) : List Int := ns.take lo ++ digs n (hi - lo) x ++ ns.drop hi
theorem putD_length {n : Nat} {ns : List Int} {lo hi : Nat} {x : Int} (h : lo ≤ hi) (h2 : hi ≤ ns.length) : (putD n ns lo hi x).length = ns.length := by
  unfold putD
  rw [List.length_append, List.length_append, List.length_take, digs_length, List.length_drop]
  omega
theorem putD_one {n : Nat} {ns : List Int} {lo : Nat} {x : Int} (h : lo < ns.length) : putD n ns lo (lo + 1) x = ns.set lo x := by
  unfold putD
  rw [Nat.add_sub_cancel_left, digs_one, List.set_eq_take_append_cons_drop, if_pos h, List.append_assoc]; rfl
theorem putD_two {n : Nat} {ns : List Int} {lo mid hi : Nat} {x : Int} (h1 : lo < mid) (h2 : mid < hi) (h3 : hi ≤ ns.length) :
    putD n (putD n ns lo mid (x % 2 ^ (n * (mid - lo)))) mid hi (x / 2 ^ (n * (mid - lo))) = putD n ns lo hi x := by
  have hl : (ns.take lo ++ digs n (mid - lo) (x % 2 ^ (n * (mid - lo)))).length = mid := by
    rw [List.length_append, List.length_take, digs_length]; omega
  have e1 : (putD n ns lo mid (x % 2 ^ (n * (mid - lo)))).take mid = ns.take lo ++ digs n (mid - lo) (x % 2 ^ (n * (mid - lo))) := by
    unfold putD
    exact List.take_left' hl
  have e2 : (putD n ns lo mid (x % 2 ^ (n * (mid - lo)))).drop hi = ns.drop hi := by
    unfold putD
    rw [List.drop_append, hl, List.drop_drop]
    have : List.drop hi (ns.take lo ++ digs n (mid - lo) (x % 2 ^ (n * (mid - lo)))) = [] := List.drop_eq_nil_of_le (by omega)
    rw [this, List.nil_append]
    congr 1
    omega
  show (putD n ns lo mid _).take mid ++ digs n (hi - mid) _ ++ (putD n ns lo mid _).drop hi = _
  rw [e1, e2]
  unfold putD
  have e3 := digs_split n (mid - lo) (hi - mid) x (by omega) (by omega)
  have e4 : mid - lo + (hi - mid) = hi - lo := by omega
  rw [e4] at e3
  rw [e3, ← List.append_assoc]
end Mine
end
local macro_rules | `(tactic| walk_at "enterN") => `(tactic| (k_dflt (refine' code_nest ?k1 ?k2 ?k3 ?k4 ?k5 ?kA ?kF ?kK ?k6 ?k7 ?k8 ?k9 ?kB ?_ ?c2 ?c3 ?c4 ?c5; (case kA => exact rfl); (case kF => exact rfl); (case kK => assumption); (case k1 => k_asm); (case k2 => k_asm); (case k3 => k_asm); (case k4 => k_asm); (case k5 => k_asm); (case k6 => k_mem); (case k7 => exact codeRec_news (by k_asm) (by k_mem) (by assumption) (by assumption)); (case k8 => (show _ < recursionLimit; dsimp only [ktrTop]; omega)); (case k9 => exact BindsTo.of_eq rfl); (case c5 => decide); (case kB => exact locs rfl); (case c2 => exact rfl); (case c3 => exact rfl); (case c4 => exact rfl); k_whole; intro g' L' h' FG' F' N' B' X' T'; (try dsimp only); (try k_lift B'); (try k_fold); (try (refine letAE ?_; intro A' env')))))
section
namespace Mine
theorem rst_C3 : True := by
  w_top off
  trivial
open Builtin.Int (intBits)
noncomputable def bodyOf : Stmt → List Stmt
  | .FunctionDef _ _ b _ _ _ _ _ _ _ => b
  | _ => []
noncomputable def argsOf : Stmt → Arguments
  | .FunctionDef _ a _ _ _ _ _ _ _ _ => a
  | _ => { posonlyargs := [], args := [], vararg := none, kwonlyargs := [], kw_defaults := [], kwarg := none, defaults := [] }
noncomputable def scopeOf : Stmt → Scope
  | .FunctionDef _ _ _ _ _ _ sc _ _ _ => sc
  | _ => { kind := .module, names := [], isGenerator := false, isCoroutine := false }
/-- the def `inner` of `_int2digits` -/
noncomputable def i2dInner : Stmt := (bodyOf (prg.main.body.getD 5 (.Pass ⟨0, 0, 0, 0⟩))).getD 1 (.Pass ⟨0, 0, 0, 0⟩)

section
variable {prog : Program} {w : World} {A : Around} {E : Value → Shared → Prop} {s : Shared} {a b c n : Int} {t u : Tok} {Q : Value → Shared → Prop}
theorem mul_to (hm : IntMulOk a b) (hc : a * b = c) (h : Q (.int c s.toks) { s with toks := s.toks + 1 }) : wpAny (model prog w) A (binaryOp .Mult (.int a t) (.int b u)) Q E s := mul_int (by rw [hc]; exact h) hm
end
local macro_rules | `(tactic| walk_at "subled") => `(tactic| first | exact sub_refl | exact sub_tail sub_refl | exact sub_tail (sub_tail sub_refl))
local macro_rules | `(tactic| k_all) => `(tactic| first | assumption | (refine' raw_ne ?q ?r ?t; (case q => assumption); (case t => (try dsimp only); omega); (case r => walk_at "subled")))
local macro_rules | `(tactic| walk_at "bits") => `(tactic| (refine' Nat.le_trans ?bu ?bv; (case bu => with_reducible assumption); (case bv => decide)))
local macro_rules | `(tactic| walk_at "binaryOp LShift int int") => `(tactic| (refine' lshift_to ?x0 (shl_ok ?xb ?xn) ?xc ?_; (case xc => with_reducible assumption); (case x0 => omega); (case xb => walk_at "bits"); (case xn => omega)))
local macro_rules | `(tactic| walk_at "binaryOp RShift int int") => `(tactic| (refine' rshift_to ?x0 ?xc ?_; (case xc => with_reducible assumption); (case x0 => omega)))
local macro_rules | `(tactic| walk_at "binaryOp BitXor int int") => `(tactic| (refine' xor_to ?xc ?_; (case xc => with_reducible assumption)))
local macro_rules | `(tactic| walk_at "binaryOp Mult int int") => `(tactic| (refine' mul_to ?xm ?xc ?_; (case xc => with_reducible assumption); (case xm => exact IntMulOk.of_right (by assumption))))
local macro_rules | `(tactic| walk_at $s) => if ["call ref"].contains s.getString then `(tactic| refine hold ?_) else Lean.Macro.throwUnsupported
noncomputable abbrev LI (params : Arguments) (body : List Stmt) (scope : Scope) (qual : Str) (doc pm ctv : Value) (c' f D ci ca cnn : Addr) (oc oi oa on : Obj) (rest : Led) (vs : List Value) : Led :=
  (f, fnMade (Str.ofString "inner") qual params body scope [(Str.ofString "n", cnn), (Str.ofString "inner", ci), (Str.ofString "a_digits", ca)] doc pm c' ctv) :: (c', oc) :: (D, W.listOf vs.toArray 0) :: (ci, oi) :: (ca, oa) :: (cnn, on) :: rest
set_option maxRecDepth 100000 in
set_option maxHeartbeats 8000000 in
theorem i2d_inner {w : World} {params : Arguments} {body : List Stmt} {scope : Scope} (hpar : params = argsOf i2dInner) (hbody : body = bodyOf i2dInner) (hscope : scope = scopeOf i2dInner) {qual : Str} {doc pm ctv : Value} {c' f D ci ca cnn : Addr}
    {oc oi oa on : Obj} {vsc : Array Value} {tq : Tok} {n : Int} {tn : Tok} {rest : Led}
    (hoc : oc.data = .fields vsc) (hq : vsc[1]? = some (.str qual tq)) (hoi : oi.data = .cell (some (.ref f))) (hoa : oa.data = .cell (some (.ref D))) (hon : on.data = .cell (some (.int n tn)))
    (hne : @Ne Nat f D ∧ @Ne Nat c' D ∧ @Ne Nat ci D ∧ @Ne Nat ca D ∧ @Ne Nat cnn D) (hrest : ∀ p ∈ rest, p.1 ≠ D) (hn : 0 < n ∧ n ≤ 10000) (zn : intBits n ≤ 64) :
    ∀ (d : Nat) (x : Int) (lo hi : Nat) (ns : List Int) (vs : List Value) (t1 t2 t3 : Tok), lo < hi → hi ≤ ns.length → hi - lo ≤ d → ns.length ≤ 64 → 0 ≤ x → intBits x ≤ 20000 → IntsAre vs ns →
      ClaimT w f [.int x t1, .int lo t2, .int hi t3] (d + 1) (4 * d + 20) (LI params body scope qual doc pm ctv c' f D ci ca cnn oc oi oa on rest vs)
        (fun K => ∀ vs', IntsAre vs' (putD n.toNat ns lo hi x) → K .none (LI params body scope qual doc pm ctv c' f D ci ca cnn oc oi oa on rest vs')) := by
  conv at hpar => rhs; whnf
  conv at hbody => rhs; whnf
  conv at hscope => rhs; whnf
  subst hpar hbody hscope
  intro d
  induction d with
  | zero => intro x lo hi ns vs t1 t2 t3 h1 h2 h3; omega
  | succ d ih =>
    intro x lo hi ns vs t1 t2 t3 hlo hhi hd hlen hx zx hI
    intro p loose mean mg mb dp un gd cn cs aa ccd cl outer A₀ base h₀ L m s Q E C1 C2 B F X N T hk hdp hu hret
    obtain ⟨sh, sg, sd, sk, so⟩ := s
    dsimp only at F N hret ⊢
    have hn1 : ((n.toNat : Nat) : Int) = n := Int.toNat_of_nonneg (by omega)
    by_cases hone : lo + 1 = hi
    · have hone' : ((lo : Int) + 1 == (hi : Int)) = true := beq_iff_eq.mpr (by omega)
      refine wpAny_call ?_
      walk_at "enterN"
      k_steps
      rename IntsAre _ (List.set _ _ _) => hI'
      have hh : hi = lo + 1 := by omega
      subst hh
      have e9 : (lo : Int).toNat = lo := rfl
      rw [e9, ← putD_one (n := n.toNat) (by omega)] at hI'
      exact hret _ hI' _ _ (by assumption) (by assumption)
    · have hone' : ((lo : Int) + 1 == (hi : Int)) = false := beq_eq_false_iff_ne.mpr (by omega)
      obtain ⟨mid, hmid⟩ : ∃ k : Nat, k = (lo + hi) / 2 := ⟨_, rfl⟩
      have hm1 : lo < mid := by omega
      have hm2 : mid < hi := by omega
      obtain ⟨s9, hs9⟩ : ∃ k : Nat, k = n.toNat * (mid - lo) := ⟨_, rfl⟩
      have hs91 : s9 ≤ 640000 := by
        have : n.toNat * (mid - lo) ≤ 10000 * 64 := Nat.mul_le_mul (by omega) (by omega)
        omega
      have f1 : ((lo : Int) + (hi : Int)).fdiv (2 ^ (1 : Int).toNat) = (mid : Int) := by
        have e : (2 : Int) ^ (1 : Int).toNat = 2 := rfl
        rw [e, Int.fdiv_eq_ediv_of_nonneg _ (by decide)]
        omega
      have f2 : ((mid : Int) - (lo : Int)) * n = (s9 : Int) := by
        rw [hs9, Int.natCast_mul, hn1, Int.mul_comm]
        congr 1
        omega
      have f3 : x.fdiv (2 ^ (s9 : Int).toNat) = x / 2 ^ s9 := Int.fdiv_eq_ediv_of_nonneg _ (Int.le_of_lt (kbt_pos _))
      have f4 : x / 2 ^ s9 * 2 ^ (s9 : Int).toNat = x / 2 ^ s9 * 2 ^ s9 := rfl
      have f5 : Builtin.bitXor x (x / 2 ^ s9 * 2 ^ s9) = x % 2 ^ s9 := bitXor_low s9 hx
      have z5 : intBits (x / 2 ^ s9) ≤ 20000 := intBits_le_of_natAbs (by
        have h1 := Int.ediv_nonneg hx (Int.le_of_lt (kbt_pos s9))
        have h2 := Int.ediv_le_self (2 ^ s9) hx
        omega) zx
      have z6 : intBits (x % 2 ^ s9) ≤ 20000 := intBits_le_of_natAbs (by
        have h1 := Int.emod_nonneg x (Int.ne_of_gt (kbt_pos s9))
        have h2 := Int.mul_ediv_add_emod x (2 ^ s9)
        have h3 := Int.mul_nonneg (Int.le_of_lt (kbt_pos s9)) (Int.ediv_nonneg hx (Int.le_of_lt (kbt_pos s9)))
        omega) zx
      refine wpAny_call ?_
      walk_at "enterN"
      k_steps
      refine ⟨?_⟩
      refine ClaimT.use (ih (x % 2 ^ s9) lo mid ns vs _ _ _ hm1 (by omega) (by omega) hlen (Int.emod_nonneg x (Int.ne_of_gt (kbt_pos s9))) z6 hI) (by k_asm) (by assumption) (by assumption) (by k_asm) (by k_asm) (by k_asm) (by k_asm) rfl ?_ ?_ ?_
      · dsimp only [ktrTop]; omega
      · dsimp only [ktrTop, Around.deeper]; omega
      intro vs1 hI1 h1 tk1 F1 N1
      k_steps
      refine ⟨?_⟩
      have hl1 := putD_length (n := n.toNat) (ns := ns) (lo := lo) (hi := mid) (x := x % 2 ^ s9) (by omega) (by omega)
      refine ClaimT.use (ih (x / 2 ^ s9) mid hi (putD n.toNat ns lo mid (x % 2 ^ s9)) vs1 _ _ _ hm2 (by omega) (by omega) (by omega) (Int.ediv_nonneg hx (Int.le_of_lt (kbt_pos s9))) z5 hI1) (by k_asm) (by assumption) (by assumption) (by k_asm) (by k_asm) (by k_asm) (by k_asm) rfl ?_ ?_ ?_
      · dsimp only [ktrTop]; omega
      · dsimp only [ktrTop, Around.deeper]; omega
      intro vs2 hI2 h2 tk2 F2 N2
      rw [hs9, putD_two hm1 hm2 hhi] at hI2
      k_steps
      exact hret _ hI2 _ _ (by assumption) (by assumption)
end Mine
end
local macro_rules | `(tactic| walk_at "enterC") => `(tactic| (k_dflt (refine' code_defC ?k1 ?k2 ?k3 ?k4 ?k5 ?kA ?kF ?kK ?k6 ?k7 ?k8 ?k9 ?kB ?kD ?_ ?c2 ?c3 ?c4; (case kA => exact rfl); (case kF => exact rfl); (case kK => assumption); (case k1 => k_asm); (case k2 => k_asm); (case k3 => k_asm); (case k4 => k_asm); (case k5 => k_asm); (case k6 => k_is); (case k7 => k_is); (case k8 => (show _ < recursionLimit; dsimp only [ktrTop]; omega)); (case k9 => first | exact BindsTo.of_eq rfl | fail "enterC: no rule for these arguments"); (case kB => exact rfl); (case kD => decide +kernel); (case c2 => exact rfl); (case c3 => exact rfl); (case c4 => exact rfl); k_whole; intro g' L' h' tk' cells' FG' F' N' Y' B' X' T' l1; have lN := l1; (try k_lt l1); k_cells Y'; (try simp only [List.cons_append, List.nil_append] at N'); (try dsimp only); (try k_lift B'); (try k_fold); (try (refine letAE ?_; intro A' env')))))
section
namespace Mine
theorem rst_C4 : True := by
  w_top off
  trivial
open Builtin.Int (intBits)
/-- the code tables of `_int2digits` and `_digits2int`: not yet filled, or with the inner def's code -/
noncomputable def q37 : Str := Str.ofString "_int2digits" ++ ".<locals>." ++ Str.ofString "inner"
noncomputable def q44 : Str := Str.ofString "_digits2int" ++ ".<locals>." ++ Str.ofString "inner"
noncomputable abbrev St := Option (Addr × Obj)
noncomputable def T37 : St → Led
  | none => [(37, tabObj #[])]
  | some (c, oc) => [(37, tabObj (#[] ++ #[rawInt 35, rawInt 4, .ref c])), (c, oc)]
noncomputable def T44 : St → Led
  | none => [(44, tabObj #[])]
  | some (c, oc) => [(44, tabObj (#[] ++ #[rawInt 50, rawInt 4, .ref c])), (c, oc)]
noncomputable def CodeOk (q : Str) (c : Addr) (oc : Obj) : Prop := @LT.lt Nat _ 44 c ∧ ∃ vs t, oc.data = .fields vs ∧ vs[1]? = some (.str q t)
noncomputable def T37ok : St → Prop
  | none => True
  | some (c, oc) => CodeOk q37 c oc
noncomputable def T44ok : St → Prop
  | none => True
  | some (c, oc) => CodeOk q44 c oc
theorem T44_lt {st : St} {d : Addr} {l news : Led} (h : ∀ p ∈ l ++ (T44 st ++ news), p.1 < d) : @LT.lt Nat _ 44 d := by
  cases st with
  | none => exact h (44, _) (List.mem_append_right _ (.head _))
  | some p => exact h (44, _) (List.mem_append_right _ (.head _))
theorem T44_ne37 {st : St} {news : Led} (hok : T44ok st) (h : ∀ p ∈ news, p.1 ≠ 37) : ∀ p ∈ T44 st ++ news, p.1 ≠ 37 := by
  intro p hp
  cases st with
  | none =>
    rcases List.mem_cons.mp hp with rfl | q
    · show (44 : Nat) ≠ 37
      decide
    · exact h p q
  | some c =>
    rcases List.mem_cons.mp hp with rfl | q
    · show (44 : Nat) ≠ 37
      decide
    · rcases List.mem_cons.mp q with rfl | q
      · exact Nat.ne_of_gt (Nat.lt_trans (by decide) hok.1)
      · exact h p q
theorem T37_ne44 {st : St} {news : Led} (hok : T37ok st) (h : ∀ p ∈ news, p.1 ≠ 44) : ∀ p ∈ T37 st ++ news, p.1 ≠ 44 := by
  intro p hp
  cases st with
  | none =>
    rcases List.mem_cons.mp hp with rfl | q
    · show (37 : Nat) ≠ 44
      decide
    · exact h p q
  | some c =>
    rcases List.mem_cons.mp hp with rfl | q
    · show (37 : Nat) ≠ 44
      decide
    · rcases List.mem_cons.mp q with rfl | q
      · exact Nat.ne_of_gt hok.1
      · exact h p q
theorem size_rep_arr {k : Nat} {v : Value} : (List.replicate k v).toArray.size = k := by simp
theorem zeros_are {k : Nat} {t : Tok} : IntsAre (List.replicate k (.int 0 t)) (List.replicate k 0) := by
  induction k with
  | zero => exact .nil
  | succ k ih => exact .cons _ _ ih
theorem putD_all {n k : Nat} {x : Int} : putD n (List.replicate k 0) 0 k x = digs n k x := by
  unfold putD
  rw [List.take_zero, List.nil_append, Nat.sub_zero, List.drop_eq_nil_of_le (by simp), List.append_nil]
theorem cons_ne {x D : Addr} {o : Obj} {l : Led} (h1 : @Ne Nat x D) (h : ∀ p ∈ l, p.1 ≠ D) : ∀ p ∈ (x, o) :: l, p.1 ≠ D := fun p hp => by
  rcases List.mem_cons.mp hp with rfl | q
  · exact h1
  · exact h p q
theorem lt_tail {a : Addr × Obj} {l : Led} {d : Addr} (h : ∀ p ∈ a :: l, p.1 < d) : ∀ p ∈ l, p.1 < d := fun p hp => h p (.tail _ hp)
local macro_rules | `(tactic| walk_at "subled") => `(tactic| first | exact sub_refl | exact sub_tail sub_refl | exact sub_tail (sub_tail sub_refl))
local macro_rules | `(tactic| k_all) => `(tactic| first | assumption | (refine' raw_ne ?q ?r ?t; (case q => assumption); (case t => (try dsimp only); omega); (case r => walk_at "subled")))
local macro_rules | `(tactic| walk_at "binaryOp FloorDiv int int") => `(tactic| (refine' floordiv_to ?x0 ?xb ?xc ?_; (case xc => with_reducible assumption); (case x0 => omega); (case xb => assumption)))
local macro_rules | `(tactic| walk_at "binaryOp Mult ref int") => `(tactic| (k_dflt (refine' KMa.mul ?F ?N ?l ?lo ?hi ?z rep_one ?_; (case F => k_asm); (case N => k_asm); (case l => is_list); (case lo => omega); (case hi => omega); (case z => (show 1 * _ ≤ 256; omega)); k_whole); intro D' h' F' N' l1; (try k_lt l1); (try k_sweep)))
local macro_rules | `(tactic| walk_at "call builtin:len") => `(tactic| (k_dflt (refine' KM.len_K ?k1 ?k2 ?k3 ?k4 ?_; (case k1 => k_asm); (case k2 => k_mem); (case k3 => exact size_rep_arr); (case k4 => omega); k_whole)))
local macro_rules | `(tactic| walk_at $s) => if ["call ref"].contains s.getString then `(tactic| refine hold ?_) else Lean.Macro.throwUnsupported
set_option maxRecDepth 100000 in
set_option maxHeartbeats 8000000 in
theorem int2digits_c {w : World} {news : Led} {a n : Int} {k : Nat} {t1 t2 : Tok} (hn : 0 < n) (hn2 : n ≤ 10000) (zn : intBits n ≤ 64) (ha : 0 < a) (za : intBits a ≤ 20000) (hkk : ((intBits a : Int) + n - 1).fdiv n = (k : Int)) (hk1 : 0 < k) (hk2 : k ≤ 64)
    (st st2 : St) (hst : T37ok st) (hst2 : T44ok st2) (h37 : ∀ p ∈ news, p.1 ≠ 37) :
    ClaimT w 42 [.int a t1, .int n t2] 70 300 (T37 st ++ (T44 st2 ++ news)) (fun K => ∀ D vs' c oc, IntsAre vs' (digs n.toNat k a) → CodeOk q37 c oc → K (.ref D) ((D, W.listOf vs'.toArray 0) :: (T37 (some (c, oc)) ++ (T44 st2 ++ news)))) := by
  intro p loose mean mg mb dp un gd cn cs aa ccd cl outer A₀ base h₀ L m s Q E C1 C2 B F X N T hk hdp hu hret
  obtain ⟨sh, sg, sd, sk, so⟩ := s
  dsimp only at F N hret ⊢
  have zn9 : intBits n ≤ 9000 := Nat.le_trans zn (by decide)
  have h37' := T44_ne37 hst2 h37
  have ha0 : (a == 0) = false := beq_eq_false_iff_ne.mpr (by omega)
  cases st with
  | none =>
    change News h₀ L sh ((37, tabObj #[]) :: (T44 st2 ++ news)) at N
    generalize hnn : T44 st2 ++ news = nn at *
    refine wpAny_call ?_
    walk_at "enterC"
    have l44 : @LT.lt Nat _ 44 _ := T44_lt (l := [(37, tabObj #[])]) (st := st2) (news := news) (by rw [hnn]; assumption)
    have lN' := lt_tail (by assumption)
    k_steps
    · refine ⟨?_⟩
      refine' ClaimT.use (i2d_inner rfl rfl rfl ?hoc ?hq ?hoi ?hoa ?hon ?hne ?hrest ⟨hn, hn2⟩ zn k a 0 k (List.replicate k 0) _ _ _ _ hk1 ?z1 ?z2 ?z3 ?z4 za zeros_are) ?cB ?c1 ?c2 ?cF ?cX (drop_to ?cN ?cS) ?cT rfl ?cd ?cu ?ret
      case cB => k_asm
      case c1 => assumption
      case c2 => assumption
      case cF => k_asm
      case cX => k_asm
      case cN => k_asm
      case cS => exact (sub_cons (.head _) (sub_cons (.tail _ (.head _)) (sub_cons (.tail _ (.tail _ (.head _))) (sub_cons (.tail _ (.tail _ (.tail _ (.tail _ (.head _))))) (sub_cons (.tail _ (.tail _ (.tail _ (.tail _ (.tail _ (.head _)))))) (sub_cons (.tail _ (.tail _ (.tail _ (.tail _ (.tail _ (.tail _ (.head _))))))) (sub_tail (sub_tail (sub_tail (sub_tail (sub_tail (sub_tail (sub_tail sub_refl)))))))))))))
      case hoc => assumption
      case hq => assumption
      case hoi => assumption
      case hoa => assumption
      case hon => assumption
      case hne => exact ⟨by omega, by omega, by omega, by omega, by omega⟩
      case hrest => exact cons_ne (by omega) (raw_ne lN' sub_refl (by omega))
      case z1 => simp
      case z2 => omega
      case z3 => simp; omega
      case z4 => omega
      case cT => k_asm
      case cd => dsimp only [ktrTop]; omega
      case cu => dsimp only [ktrTop, Around.deeper]; omega
      case ret =>
        intro vs' hI' h9 tk9 F9 N9
        rw [putD_all] at hI'
        k_steps
        refine hret _ vs' _ _ hI' ?r1 _ _ (by k_asm) (drop_to (by k_asm) (sub_cons (List.Mem.tail _ (List.Mem.tail _ (List.Mem.head _))) (sub_cons (List.Mem.tail _ (List.Mem.tail _ (List.Mem.tail _ (List.Mem.tail _ (List.Mem.tail _ (List.Mem.tail _ (List.Mem.head _))))))) (sub_cons (List.Mem.tail _ (List.Mem.head _)) (sub_tail (sub_tail (sub_tail (sub_tail (sub_tail (sub_tail (sub_tail sub_refl)))))))))))
        exact ⟨by omega, _, _, by assumption, by assumption⟩
    · omega
  | some c =>
    obtain ⟨c0, oc0⟩ := c
    obtain ⟨h44c, vsc, tq, hoc, hq⟩ := id hst
    change News h₀ L sh ((37, tabObj (#[] ++ #[rawInt 35, rawInt 4, .ref c0])) :: (c0, oc0) :: (T44 st2 ++ news)) at N
    generalize hnn : T44 st2 ++ news = nn at *
    refine wpAny_call ?_
    walk_at "enterC"
    have l44 : @LT.lt Nat _ 44 _ := T44_lt (l := [(37, _), (c0, oc0)]) (st := st2) (news := news) (by rw [hnn]; assumption)
    have lN' := lt_tail (by assumption)
    k_steps
    · refine ⟨?_⟩
      refine' ClaimT.use (i2d_inner rfl rfl rfl ?hoc ?hq ?hoi ?hoa ?hon ?hne ?hrest ⟨hn, hn2⟩ zn k a 0 k (List.replicate k 0) _ _ _ _ hk1 ?z1 ?z2 ?z3 ?z4 za zeros_are) ?cB ?c1 ?c2 ?cF ?cX (drop_to ?cN ?cS) ?cT rfl ?cd ?cu ?ret
      case cB => k_asm
      case c1 => assumption
      case c2 => assumption
      case cF => k_asm
      case cX => k_asm
      case cN => k_asm
      case cS => exact (sub_cons (.head _) (sub_cons (.tail _ (.tail _ (.tail _ (.tail _ (.tail _ (.tail _ (.tail _ (.head _)))))))) (sub_cons (.tail _ (.head _)) (sub_cons (.tail _ (.tail _ (.tail _ (.head _)))) (sub_cons (.tail _ (.tail _ (.tail _ (.tail _ (.head _))))) (sub_cons (.tail _ (.tail _ (.tail _ (.tail _ (.tail _ (.head _)))))) (sub_tail (sub_tail (sub_tail (sub_tail (sub_tail (sub_tail sub_refl))))))))))))
      case hoc => exact hoc
      case hq => exact hq
      case hoi => assumption
      case hoa => assumption
      case hon => assumption
      case hne => exact ⟨by omega, by omega, by omega, by omega, by omega⟩
      case hrest => exact cons_ne (by omega) (raw_ne lN' sub_refl (by omega))
      case z1 => simp
      case z2 => omega
      case z3 => simp; omega
      case z4 => omega
      case cT => k_asm
      case cd => dsimp only [ktrTop]; omega
      case cu => dsimp only [ktrTop, Around.deeper]; omega
      case ret =>
        intro vs' hI' h9 tk9 F9 N9
        rw [putD_all] at hI'
        k_steps
        refine hret _ vs' _ _ hI' ?r2 _ _ (by k_asm) (drop_to (by k_asm) (sub_cons (List.Mem.tail _ (List.Mem.tail _ (List.Mem.head _))) (sub_cons (List.Mem.tail _ (List.Mem.tail _ (List.Mem.tail _ (List.Mem.tail _ (List.Mem.tail _ (List.Mem.tail _ (List.Mem.head _))))))) (sub_cons (List.Mem.tail _ (List.Mem.head _)) (sub_tail (sub_tail (sub_tail (sub_tail (sub_tail (sub_tail (sub_tail (sub_tail sub_refl))))))))))))
        exact ⟨by omega, _, _, hoc, hq⟩
    · omega
end Mine
end
section
namespace Mine
theorem rst_C5 : True := by
  w_top off
  trivial
open Builtin.Int (intBits)
/-- the number that has these digits, the lowest first -/
noncomputable def undig (n : Nat) : List Int → Int
  | [] => 0
  | d :: r => d + undig n r * 2 ^ n
theorem undig_append (n : Nat) : ∀ (a b : List Int), undig n (a ++ b) = undig n a + undig n b * 2 ^ (n * a.length)
  | [], b => by show undig n b = 0 + _; rw [List.length_nil, Nat.mul_zero]; simp
  | d :: r, b => by
    show d + undig n (r ++ b) * 2 ^ n = d + undig n r * 2 ^ n + _
    rw [undig_append n r b, List.length_cons, Nat.mul_succ, Int.pow_add, Int.add_mul]
    rw [Int.mul_assoc, ← Int.add_assoc]
theorem undig_bits {n : Nat} : ∀ {ds : List Int}, (∀ d ∈ ds, intBits d ≤ 20000) → intBits (undig n ds) ≤ 20000 + (n + 2) * ds.length
  | [], _ => Nat.le_trans (by decide : intBits 0 ≤ 0) (Nat.zero_le _)
  | d :: r, h => by
    have h1 := h d (.head _)
    have h2 := undig_bits (n := n) (ds := r) fun x hx => h x (.tail _ hx)
    have h3 := intBits_add_le h1 (intBits_mul_le h2 (bits_pow n))
    refine Nat.le_trans h3 ?_
    rw [List.length_cons, Nat.mul_succ]
    have : Nat.max 20000 (20000 + (n + 2) * r.length + (n + 1)) ≤ 20000 + (n + 2) * r.length + (n + 1) := Nat.max_le.mpr ⟨by omega, Nat.le_refl _⟩
    show Nat.max 20000 (20000 + (n + 2) * r.length + (n + 1)) + 1 ≤ _
    omega
noncomputable def piece (ns : List Int) (lo hi : Nat) : List Int := (ns.drop lo).take (hi - lo)
theorem piece_one {ns : List Int} {lo : Nat} (h : lo < ns.length) : piece ns lo (lo + 1) = [ns.getD lo 0] := by
  unfold piece
  rw [Nat.add_sub_cancel_left, List.drop_eq_getElem_cons h, List.getD_eq_getElem?_getD, List.getElem?_eq_getElem h]; rfl
theorem piece_split {ns : List Int} {lo mid hi : Nat} (h1 : lo ≤ mid) (h2 : mid ≤ hi) : piece ns lo hi = piece ns lo mid ++ piece ns mid hi := by
  unfold piece
  have e : hi - lo = (mid - lo) + (hi - mid) := by omega
  rw [e, List.take_add, List.drop_drop]
  congr 3
  omega
theorem piece_length {ns : List Int} {lo hi : Nat} (h : hi ≤ ns.length) : (piece ns lo hi).length = hi - lo := by
  unfold piece
  rw [List.length_take, List.length_drop]; omega
theorem piece_mem {ns : List Int} {lo hi : Nat} {d : Int} (h : d ∈ piece ns lo hi) : d ∈ ns := List.mem_of_mem_drop (List.mem_of_mem_take h)
/-- the def `inner` of `_digits2int` -/
noncomputable def d2iInner : Stmt := (bodyOf (prg.main.body.getD 6 (.Pass ⟨0, 0, 0, 0⟩))).getD 0 (.Pass ⟨0, 0, 0, 0⟩)
local macro_rules | `(tactic| walk_at "subled") => `(tactic| first | exact sub_refl | exact sub_tail sub_refl | exact sub_tail (sub_tail sub_refl))
local macro_rules | `(tactic| k_all) => `(tactic| first | assumption | (refine' raw_ne ?q ?r ?t; (case q => assumption); (case t => (try dsimp only); omega); (case r => walk_at "subled")))
local macro_rules | `(tactic| walk_at "call builtin:len") => `(tactic| (k_dflt (refine' KM.len_K ?k1 ?k2 ?k3 ?k4 ?_; (case k1 => k_asm); (case k2 => k_mem); (case k3 => rfl); (case k4 => omega); k_whole)))
local macro_rules | `(tactic| walk_at $s) => if ["call ref"].contains s.getString then `(tactic| refine hold ?_) else Lean.Macro.throwUnsupported
local macro_rules | `(tactic| walk_at "bits") => `(tactic| (refine' Nat.le_trans ?bu ?bv; (case bu => with_reducible assumption); (case bv => decide)))
local macro_rules | `(tactic| walk_at "binaryOp LShift int int") => `(tactic| (refine' lshift_int ?x0 (shl_ok ?xb ?xn) ?_; (case x0 => omega); (case xb => walk_at "bits"); (case xn => omega)))
local macro_rules | `(tactic| walk_at "binaryOp RShift int int") => `(tactic| (refine' rshift_to ?x0 ?xc ?_; (case xc => with_reducible assumption); (case x0 => omega)))
local macro_rules | `(tactic| walk_at "binaryOp Mult int int") => `(tactic| (refine' mul_to ?xm ?xc ?_; (case xc => with_reducible assumption); (case xm => exact IntMulOk.of_right (by assumption))))
noncomputable abbrev LJ (params : Arguments) (body : List Stmt) (scope : Scope) (qual : Str) (doc pm ctv : Value) (c' f l ci cd cnn : Addr) (oc oi od on : Obj) (nn : Nat) (vs : List Value) (rest : Led) : Led :=
  (f, fnMade (Str.ofString "inner") qual params body scope [(Str.ofString "n", cnn), (Str.ofString "inner", ci), (Str.ofString "digits", cd)] doc pm c' ctv) :: (c', oc) :: (ci, oi) :: (cnn, on) :: (cd, od) :: (l, W.listOf vs.toArray nn) :: rest
set_option maxRecDepth 100000 in
set_option maxHeartbeats 8000000 in
theorem d2i_inner {w : World} {params : Arguments} {body : List Stmt} {scope : Scope} (hpar : params = argsOf d2iInner) (hbody : body = bodyOf d2iInner) (hscope : scope = scopeOf d2iInner) {qual : Str} {doc pm ctv : Value} {c' f l ci cd cnn : Addr}
    {oc oi od on : Obj} {vsc : Array Value} {tq : Tok} {n : Int} {tn : Tok} {nn : Nat} {vs : List Value} {ns : List Int} {rest : Led}
    (hoc : oc.data = .fields vsc) (hq : vsc[1]? = some (.str qual tq)) (hoi : oi.data = .cell (some (.ref f))) (hod : od.data = .cell (some (.ref l))) (hon : on.data = .cell (some (.int n tn)))
    (hn : 0 < n ∧ n ≤ 10000) (zn : intBits n ≤ 64) (hI : IntsAre vs ns) (hlen : ns.length ≤ 64) (zd : ∀ d ∈ ns, intBits d ≤ 20000) :
    ∀ (d : Nat) (lo hi : Nat) (t2 t3 : Tok), lo < hi → hi ≤ ns.length → hi - lo ≤ d →
      ClaimT w f [.int lo t2, .int hi t3] (d + 1) (4 * d + 20) (LJ params body scope qual doc pm ctv c' f l ci cd cnn oc oi od on nn vs rest)
        (fun K => ∀ t, K (.int (undig n.toNat (piece ns lo hi)) t) (LJ params body scope qual doc pm ctv c' f l ci cd cnn oc oi od on nn vs rest)) := by
  conv at hpar => rhs; whnf
  conv at hbody => rhs; whnf
  conv at hscope => rhs; whnf
  subst hpar hbody hscope
  intro d
  induction d with
  | zero => intro lo hi t2 t3 h1 h2 h3; omega
  | succ d ih =>
    intro lo hi t2 t3 hlo hhi hd
    intro p loose mean mg mb dp un gd cn cs aa ccd cl outer A₀ base h₀ L m s Q E C1 C2 B F X N T hk hdp hu hret
    obtain ⟨sh, sg, sd, sk, so⟩ := s
    dsimp only at F N hret ⊢
    have hn1 : ((n.toNat : Nat) : Int) = n := Int.toNat_of_nonneg (by omega)
    by_cases hone : lo + 1 = hi
    · have hone' : ((lo : Int) + 1 == (hi : Int)) = true := beq_iff_eq.mpr (by omega)
      refine wpAny_call ?_
      walk_at "enterN"
      k_steps
      have hh : hi = lo + 1 := by omega
      subst hh
      rw [piece_one (by omega)] at hret
      have e9 : undig n.toNat [ns.getD lo 0] = ns.getD (lo : Int).toNat 0 := by
        show ns.getD lo 0 + 0 * 2 ^ n.toNat = ns.getD lo 0
        rw [Int.zero_mul, Int.add_zero]
      rw [e9] at hret
      exact hret _ _ _ (by assumption) (by assumption)
    · have hone' : ((lo : Int) + 1 == (hi : Int)) = false := beq_eq_false_iff_ne.mpr (by omega)
      obtain ⟨mid, hmid⟩ : ∃ k : Nat, k = (lo + hi) / 2 := ⟨_, rfl⟩
      have hm1 : lo < mid := by omega
      have hm2 : mid < hi := by omega
      obtain ⟨s9, hs9⟩ : ∃ k : Nat, k = n.toNat * (mid - lo) := ⟨_, rfl⟩
      have hs91 : s9 ≤ 640000 := by
        have : n.toNat * (mid - lo) ≤ 10000 * 64 := Nat.mul_le_mul (by omega) (by omega)
        omega
      have f1 : ((lo : Int) + (hi : Int)).fdiv (2 ^ (1 : Int).toNat) = (mid : Int) := by
        have e : (2 : Int) ^ (1 : Int).toNat = 2 := rfl
        rw [e, Int.fdiv_eq_ediv_of_nonneg _ (by decide)]
        omega
      have f2 : ((mid : Int) - (lo : Int)) * n = (s9 : Int) := by
        rw [hs9, Int.natCast_mul, hn1, Int.mul_comm]
        congr 1
        omega
      have z5 : intBits (undig n.toNat (piece ns mid hi)) ≤ 700000 := by
        have h1 := undig_bits (n := n.toNat) (ds := piece ns mid hi) fun d hd => zd d (piece_mem hd)
        rw [piece_length hhi] at h1
        have : (n.toNat + 2) * (hi - mid) ≤ 10002 * 64 := Nat.mul_le_mul (by omega) (by omega)
        omega
      have key : undig n.toNat (piece ns lo hi) = undig n.toNat (piece ns mid hi) * 2 ^ (s9 : Int).toNat + undig n.toNat (piece ns lo mid) := by
        rw [piece_split (Nat.le_of_lt hm1) (Nat.le_of_lt hm2), undig_append, piece_length (by omega), ← hs9]
        exact Int.add_comm _ _
      rw [key] at hret
      refine wpAny_call ?_
      walk_at "enterN"
      k_steps
      refine ⟨?_⟩
      refine ClaimT.use (ih mid hi _ _ hm2 hhi (by omega)) (by k_asm) (by assumption) (by assumption) (by k_asm) (by k_asm) (by k_asm) (by k_asm) rfl ?_ ?_ ?_
      · dsimp only [ktrTop]; omega
      · dsimp only [ktrTop, Around.deeper]; omega
      intro ta1 h1 tk1 F1 N1
      k_steps
      refine ⟨?_⟩
      refine ClaimT.use (ih lo mid _ _ hm1 (by omega) (by omega)) (by k_asm) (by assumption) (by assumption) (by k_asm) (by k_asm) (by k_asm) (by k_asm) rfl ?_ ?_ ?_
      · dsimp only [ktrTop]; omega
      · dsimp only [ktrTop, Around.deeper]; omega
      intro ta2 h2 tk2 F2 N2
      k_steps
      exact hret _ _ _ (by assumption) (by assumption)
set_option maxRecDepth 100000 in
set_option maxHeartbeats 8000000 in
theorem digits2int_c {w : World} {news : Led} {l : Addr} {vs : List Value} {ns : List Int} {nn : Nat} {n : Int} {tn : Tok} (hI : IntsAre vs ns) (hn : 0 < n) (hn2 : n ≤ 10000) (zn : intBits n ≤ 64) (hk1 : 0 < ns.length) (hk2 : ns.length ≤ 64) (zd : ∀ d ∈ ns, intBits d ≤ 20000)
    (st st2 : St) (hst : T37ok st) (hst2 : T44ok st2) (h44 : ∀ p ∈ news, p.1 ≠ 44) (hl44 : @Ne Nat l 44) :
    ClaimT w 49 [.ref l, .int n tn] 70 300 (T44 st2 ++ ((l, W.listOf vs.toArray nn) :: (T37 st ++ news))) (fun K => ∀ t c oc, CodeOk q44 c oc → K (.int (undig n.toNat ns) t) (T44 (some (c, oc)) ++ ((l, W.listOf vs.toArray nn) :: (T37 st ++ news)))) := by
  intro p loose mean mg mb dp un gd cn cs aa ccd cl outer A₀ base h₀ L m s Q E C1 C2 B F X N T hk hdp hu hret
  obtain ⟨sh, sg, sd, sk, so⟩ := s
  dsimp only at F N hret ⊢
  have h44' : ∀ p ∈ T37 st ++ news, p.1 ≠ 44 := T37_ne44 hst h44
  have hvl : vs.length = ns.length := hI.length
  cases st2 with
  | none =>
    change News h₀ L sh ((44, tabObj #[]) :: (l, W.listOf vs.toArray nn) :: (T37 st ++ news)) at N
    generalize hnn : T37 st ++ news = nn9 at *
    refine wpAny_call ?_
    walk_at "enterC"
    k_steps
    refine ⟨?_⟩
    refine' ClaimT.use (d2i_inner rfl rfl rfl ?hoc ?hq ?hoi ?hod ?hon ⟨hn, hn2⟩ zn hI hk2 zd ns.length 0 ns.length _ _ hk1 (Nat.le_refl _) (by omega)) ?cB ?c1 ?c2 ?cF ?cX (drop_to ?cN ?cS) ?cT rfl ?cd ?cu ?ret
    case cB => k_asm
    case c1 => assumption
    case c2 => assumption
    case cF => k_asm
    case cX => k_asm
    case cN => k_asm
    case cS => exact (sub_cons (List.Mem.head _) (sub_cons (List.Mem.tail _ (List.Mem.head _)) (sub_cons (List.Mem.tail _ (List.Mem.tail _ (List.Mem.head _))) (sub_cons (List.Mem.tail _ (List.Mem.tail _ (List.Mem.tail _ (List.Mem.head _)))) (sub_cons (List.Mem.tail _ (List.Mem.tail _ (List.Mem.tail _ (List.Mem.tail _ (List.Mem.head _))))) (sub_cons (List.Mem.tail _ (List.Mem.tail _ (List.Mem.tail _ (List.Mem.tail _ (List.Mem.tail _ (List.Mem.tail _ (List.Mem.head _))))))) (sub_tail (sub_tail (sub_tail (sub_tail (sub_tail sub_refl)))))))))))
    case hoc => assumption
    case hq => assumption
    case hoi => assumption
    case hod => assumption
    case hon => assumption
    case cT => k_asm
    case cd => dsimp only [ktrTop]; omega
    case cu => dsimp only [ktrTop, Around.deeper]; omega
    case ret =>
      intro t9 h9 tk9 F9 N9
      have e9 : piece ns 0 ns.length = ns := by
        unfold piece
        rw [List.drop_zero, Nat.sub_zero, List.take_length]
      rw [e9]
      k_steps
      refine hret _ _ _ ?r1 _ _ (by k_asm) (drop_to (by k_asm) (sub_cons (List.Mem.tail _ (List.Mem.tail _ (List.Mem.tail _ (List.Mem.tail _ (List.Mem.tail _ (List.Mem.tail _ (List.Mem.head _))))))) (sub_cons (List.Mem.tail _ (List.Mem.head _)) (sub_cons (List.Mem.tail _ (List.Mem.tail _ (List.Mem.tail _ (List.Mem.tail _ (List.Mem.tail _ (List.Mem.head _)))))) (sub_tail (sub_tail (sub_tail (sub_tail (sub_tail (sub_tail (sub_tail (sub_tail sub_refl))))))))))))
      exact ⟨by omega, _, _, by assumption, by assumption⟩
  | some c =>
    obtain ⟨c0, oc0⟩ := c
    obtain ⟨h44c, vsc, tq, hoc, hq⟩ := id hst2
    change News h₀ L sh ((44, tabObj (#[] ++ #[rawInt 50, rawInt 4, .ref c0])) :: (c0, oc0) :: (l, W.listOf vs.toArray nn) :: (T37 st ++ news)) at N
    generalize hnn : T37 st ++ news = nn9 at *
    refine wpAny_call ?_
    walk_at "enterC"
    k_steps
    refine ⟨?_⟩
    refine' ClaimT.use (d2i_inner rfl rfl rfl ?hoc ?hq ?hoi ?hod ?hon ⟨hn, hn2⟩ zn hI hk2 zd ns.length 0 ns.length _ _ hk1 (Nat.le_refl _) (by omega)) ?cB ?c1 ?c2 ?cF ?cX (drop_to ?cN ?cS) ?cT rfl ?cd ?cu ?ret
    case cB => k_asm
    case c1 => assumption
    case c2 => assumption
    case cF => k_asm
    case cX => k_asm
    case cN => k_asm
    case cS => exact (sub_cons (List.Mem.head _) (sub_cons (List.Mem.tail _ (List.Mem.tail _ (List.Mem.tail _ (List.Mem.tail _ (List.Mem.tail _ (List.Mem.head _)))))) (sub_cons (List.Mem.tail _ (List.Mem.head _)) (sub_cons (List.Mem.tail _ (List.Mem.tail _ (List.Mem.head _))) (sub_cons (List.Mem.tail _ (List.Mem.tail _ (List.Mem.tail _ (List.Mem.head _)))) (sub_cons (List.Mem.tail _ (List.Mem.tail _ (List.Mem.tail _ (List.Mem.tail _ (List.Mem.tail _ (List.Mem.tail _ (List.Mem.head _))))))) (sub_tail (sub_tail (sub_tail (sub_tail sub_refl))))))))))
    case hoc => exact hoc
    case hq => exact hq
    case hoi => assumption
    case hod => assumption
    case hon => assumption
    case cT => k_asm
    case cd => dsimp only [ktrTop]; omega
    case cu => dsimp only [ktrTop, Around.deeper]; omega
    case ret =>
      intro t9 h9 tk9 F9 N9
      have e9 : piece ns 0 ns.length = ns := by
        unfold piece
        rw [List.drop_zero, Nat.sub_zero, List.take_length]
      rw [e9]
      k_steps
      refine hret _ _ _ ?r2 _ _ (by k_asm) (drop_to (by k_asm) (sub_cons (List.Mem.tail _ (List.Mem.tail _ (List.Mem.tail _ (List.Mem.tail _ (List.Mem.tail _ (List.Mem.tail _ (List.Mem.head _))))))) (sub_cons (List.Mem.tail _ (List.Mem.head _)) (sub_cons (List.Mem.tail _ (List.Mem.tail _ (List.Mem.tail _ (List.Mem.tail _ (List.Mem.tail _ (List.Mem.head _)))))) (sub_tail (sub_tail (sub_tail (sub_tail (sub_tail (sub_tail (sub_tail (sub_tail (sub_tail sub_refl)))))))))))))
      exact ⟨by omega, _, _, hoc, hq⟩
end Mine
end
section
namespace Mine
/-- a for's turn has ended, and the word holds again -/
structure FEnd {σ : Type} (h₀ : Heap) (L : Addr) (s : Shared) (I : Addr) (it : Obj) (Led : σ → List (Addr × Obj)) (ps : σ → List (Str × Value)) (P : σ → Prop) (s₃ : Shared) : Prop where
  is : ∃ (c' : σ) (h' : Heap) (tk : Nat) (m' : Str → Option Value), s₃ = { s with heap := h', toks := tk } ∧ Fr h₀ L h' m' ∧ News h₀ L h' ((I, it) :: Led c') ∧ (∀ p ∈ Led c', p.1 ≠ I) ∧ (∀ p ∈ ps c', m' p.1 = some p.2) ∧ P c'
theorem FEnd.mk' {σ : Type} {h₀ : Heap} {L : Addr} {s : Shared} {I : Addr} {it : Obj} {Led : σ → List (Addr × Obj)} {ps : σ → List (Str × Value)} {P : σ → Prop} (c' : σ) {h' : Heap} {tk : Nat} {m' : Str → Option Value}
    (F : Fr h₀ L h' m') (N : News h₀ L h' ((I, it) :: Led c')) (ho : ∀ p ∈ Led c', p.1 ≠ I) (hk : ∀ p ∈ ps c', m' p.1 = some p.2) (hp : P c') : FEnd h₀ L s I it Led ps P { s with heap := h', toks := tk } := ⟨c', h', tk, m', rfl, F, N, ho, hk, hp⟩
noncomputable def FPost {σ : Type} (h₀ : Heap) (L : Addr) (s : Shared) (I : Addr) (it : Obj) (Led : σ → List (Addr × Obj)) (ps : σ → List (Str × Value)) (P : σ → Prop) (Q : Flow → Shared → Prop) (f : Flow) (s₃ : Shared) : Prop := match f with
  | .ret v => Q (.ret v) s₃
  | .brk => Q .next s₃
  | _ => FEnd h₀ L s I it Led ps P s₃
section
variable {prog : Program} {w : World} {A : Around} {E : Value → Shared → Prop} {Q : Flow → Shared → Prop} {s : Shared} {env : Env} {h₀ : Heap} {x : Str} {body : List Stmt}
theorem loop_c {σ : Type} {I : Addr} {fp : List Addr} {n : Nat} {Pv : Nat → Value → Prop} {St : Nat → Heap → Prop} {m₀ : Str → Option Value} (W : Walks prog w A I fp [I] n Pv St)
    (Led : Nat → σ → List (Addr × Obj)) (ps : Nat → σ → List (Str × Value)) (P : Nat → σ → Prop) (c₀ : σ)
    (hst : St 0 s.heap) (hSt : ∀ i h, St i h → ∃ o, h.get? I = some o) (hLf : env.locals ∉ fp) (hI : h₀.get? I = none) (hIf : I ∈ fp)
    (hfp : ∀ b ∈ fp, b ≠ I → (∃ o, h₀.get? b = some o) ∨ ∃ o, ∀ i c, (b, o) ∈ Led i c)
    (F : Fr h₀ env.locals s.heap m₀) (N : News h₀ env.locals s.heap (Led 0 c₀)) (hnI : ∀ p ∈ Led 0 c₀, p.1 ≠ I) (hk : ∀ p ∈ ps 0 c₀, m₀ p.1 = some p.2) (hx : ∀ i c, ∀ p ∈ ps i c, p.1 ≠ x) (hp : P 0 c₀)
    (turn : ∀ (i : Nat) (v : Value) (c : σ) (it : Obj) (u : Str → Option Value) h tk, i < n → Pv i v → P i c → (∀ p ∈ Led i c, p.1 ≠ I) → Fr h₀ env.locals h (nm u ((x, v) :: ps i c)) → News h₀ env.locals h ((I, it) :: Led i c) →
      wpAny (model prog w) A (execs body env) (FPost h₀ env.locals { s with heap := h, toks := tk } I it (Led (i + 1)) (ps (i + 1)) (P (i + 1)) Q) E { s with heap := h, toks := tk })
    (done : ∀ (c : σ) (u : Str → Option Value) h tk, P n c → Fr h₀ env.locals h (nm u (ps n c)) → News h₀ env.locals h (Led n c) → Q .next { s with heap := h, toks := tk }) :
    LoopAtV prog w A h₀ env x body Q E (.ref I) s := by
  refine ⟨I, fp, [I], n, Pv, St, m₀, Led 0 c₀, (fun i m nx => ∃ c : σ, nx = Led i c ∧ (∀ p ∈ ps i c, m p.1 = some p.2) ∧ P i c), rfl, W, hLf, ?_, ?_, hst, F, N, ⟨c₀, rfl, hk, hp⟩, ?_, ?_⟩
  · intro b hb
    rw [List.mem_singleton.mp hb]; exact hI
  · intro p hp hb
    exact hnI p hp (List.mem_singleton.mp hb)
  · rintro i v m₁ news₁ s₁ own ⟨hh', tk', rfl⟩ hin hP ⟨c, rfl, h1, hp'⟩ hoff hown hget hall hst' F₁ N₁
    obtain ⟨it, hit⟩ := hSt _ _ hst'
    have hmemI := hall I hIf hI _ hit
    have hoffI : ∀ p ∈ Led i c, p.1 ≠ I := fun p hp e => hoff p hp (List.mem_singleton.mpr e)
    have N₂ : News h₀ env.locals hh' ((I, it) :: Led i c) := fun p hp => by
      rcases List.mem_cons.mp hp with rfl | hp
      · exact N₁ _ (List.mem_append_left _ hmemI)
      · exact N₁ _ (List.mem_append_right _ hp)
    have F₂ := nm_fr (ps := (x, v) :: ps i c) F₁ (all_cons (if_pos rfl) fun p hp => by
      show (if p.1 = x then some v else m₁ p.1) = some p.2
      rw [if_neg (hx i c p hp)]; exact h1 p hp)
    refine wpAny_mono (turn i v c it _ hh' tk' hin hP hp' hoffI F₂ N₂) (fun f s₂ p => ?_) fun _ _ e => e
    have fin : FEnd h₀ env.locals { s with heap := hh', toks := tk' } I it (Led (i + 1)) (ps (i + 1)) (P (i + 1)) s₂ →
        LoopStepU h₀ env.locals [I] own (fun m nx => ∃ c : σ, nx = Led (i + 1) c ∧ (∀ p ∈ ps (i + 1) c, m p.1 = some p.2) ∧ P (i + 1) c) { s with heap := hh', toks := tk' } .next s₂ := by
      rintro ⟨c', h', tk, m', e, F', N', ho, hk', hp9⟩
      refine ⟨rfl, h', tk, m', Led (i + 1) c', e, F', fun p hp => ?_, fun p hp hI' => ho p hp (List.mem_singleton.mp hI'), c', rfl, hk', hp9⟩
      rcases List.mem_append.mp hp with hp | hp
      · have h2 : hh'.get? p.1 = some p.2 := hget p hp
        by_cases hb : p.1 = I
        · have h3 : p = (I, it) := by
            rw [hb, hit] at h2
            exact Prod.ext hb (Option.some.inj h2).symm
          rw [h3]; exact N' _ (List.mem_cons_self ..)
        · rcases hfp p.1 (hown p hp) hb with ⟨o, e1⟩ | ⟨o, e1⟩
          · have h4 := (N₁ p (List.mem_append_left _ hp)).2.2
            rw [e1] at h4; cases h4
          · have h4 := (N₁ _ (List.mem_append_right _ (e1 i c))).1
            rw [h2] at h4
            have h3 : p = (p.1, o) := Prod.ext rfl (Option.some.inj h4)
            rw [h3]; exact N' _ (List.mem_cons_of_mem _ (e1 (i + 1) c'))
      · exact N' _ (List.mem_cons_of_mem _ hp)
    cases f with
    | ret v => exact .ret p
    | brk => exact .brk p
    | next => exact .next (fin p)
    | cont => exact .cont (fin p)
  · rintro h' tk m' news' F' N' _ ⟨c, rfl, h1, hp'⟩
    exact done c m' h' tk hp' (nm_fr F' h1) N'

/-- a for over a list of the ledger -/
theorem for_list {σ : Type} {l : Addr} {vs : List Value} {nn : Nat} {m₀ : Str → Option Value} (Led : Nat → σ → List (Addr × Obj)) (ps : Nat → σ → List (Str × Value)) (P : Nat → σ → Prop) (c₀ : σ)
    (hh : A.handled = none) (hl : ∀ i c, (l, W.listOf vs.toArray nn) ∈ Led i c) (F : Fr h₀ env.locals s.heap m₀) (N : News h₀ env.locals s.heap (Led 0 c₀)) (hk : ∀ p ∈ ps 0 c₀, m₀ p.1 = some p.2) (hx : ∀ i c, ∀ p ∈ ps i c, p.1 ≠ x) (hp : P 0 c₀)
    (turn : ∀ (i : Nat) (v : Value) (c : σ) (I : Addr) (it : Obj) (u : Str → Option Value) h tk, vs[i]? = some v → P i c → (∀ p ∈ Led i c, p.1 ≠ I) → Fr h₀ env.locals h (nm u ((x, v) :: ps i c)) → News h₀ env.locals h ((I, it) :: Led i c) →
      wpAny (model prog w) A (execs body env) (FPost h₀ env.locals { s with heap := h, toks := tk } I it (Led (i + 1)) (ps (i + 1)) (P (i + 1)) Q) E { s with heap := h, toks := tk })
    (done : ∀ (c : σ) (u : Str → Option Value) h tk, P vs.length c → Fr h₀ env.locals h (nm u (ps vs.length c)) → News h₀ env.locals h (Led vs.length c) → Q .next { s with heap := h, toks := tk }) :
    wpAny (model prog w) A (pyIter (.ref l)) (fun it s₂ => LoopAtV prog w A h₀ env x body Q E it s₂) E s := by
  have hol : s.heap.get? l = some (W.listOf vs.toArray nn) := (N _ (hl 0 c₀)).1
  have hls : s.heap.IsList l vs.toArray := ⟨_, hol, rfl, nn, rfl⟩
  have hne : l ≠ s.heap.objs.size := Nat.ne_of_lt (Heap.lt_size hol)
  refine wpAny_pyIter_list hls ?_
  have W := Walks.list (prog := prog) (w := w) hh s.heap.objs.size l hne vs.toArray
  have hlen : vs.toArray.size = vs.length := by simp
  rw [hlen] at W
  refine loop_c W Led ps P c₀ ⟨⟨_, Heap.get?_push_size _ rfl, rfl, rfl⟩, hls.at fun o e => Heap.get?_push_of_some _ e⟩ ?_ ?_ (next_is_new F) (.head _) ?_ (F.push _) (fun p hp => ⟨Heap.get?_push_of_some _ (N p hp).1, (N p hp).2⟩) ?_ hk hx hp ?_ done
  · rintro i h ⟨⟨o, ho, _⟩, _⟩
    exact ⟨o, ho⟩
  · intro hm
    rcases List.mem_cons.mp hm with e | hm
    · exact absurd F.ns.lt (e ▸ Nat.lt_irrefl _)
    · exact (N _ (hl 0 c₀)).2.1 ((List.mem_singleton.mp hm).symm)
  · intro b hb hbI
    rcases List.mem_cons.mp hb with e | hb
    · exact absurd e hbI
    · rw [List.mem_singleton.mp hb]
      exact .inr ⟨_, hl⟩
  · intro p hp e
    exact absurd (Heap.lt_size (N p hp).1) (by rw [e]; exact Nat.lt_irrefl _)
  · intro i v c it u h tk hi hv
    exact turn i v c _ it u h tk (by simpa using hv)

/-- a for over a range by ones -/
theorem for_range {σ : Type} {r : Addr} {a₀ b₀ : Int} {t₀ u₀ v₀ : Tok} {n : Nat} {m₀ : Str → Option Value} (Led : Nat → σ → List (Addr × Obj)) (ps : Nat → σ → List (Str × Value)) (P : Nat → σ → Prop) (c₀ : σ)
    (hh : A.handled = none) (hr : IsRange s.heap r a₀ b₀ 1 t₀ u₀ v₀) (hsmall : Builtin.Range.small a₀ b₀ 1 = true) (hn : Builtin.Range.rangeSize a₀ b₀ 1 = (n : Int))
    (F : Fr h₀ env.locals s.heap m₀) (N : News h₀ env.locals s.heap (Led 0 c₀)) (hk : ∀ p ∈ ps 0 c₀, m₀ p.1 = some p.2) (hx : ∀ i c, ∀ p ∈ ps i c, p.1 ≠ x) (hp : P 0 c₀)
    (turn : ∀ (i : Nat) (t : Tok) (c : σ) (I : Addr) (it : Obj) (u : Str → Option Value) h tk, i < n → P i c → (∀ p ∈ Led i c, p.1 ≠ I) → Fr h₀ env.locals h (nm u ((x, .int (a₀ + (i : Int)) t) :: ps i c)) → News h₀ env.locals h ((I, it) :: Led i c) →
      wpAny (model prog w) A (execs body env) (FPost h₀ env.locals { s with heap := h, toks := tk } I it (Led (i + 1)) (ps (i + 1)) (P (i + 1)) Q) E { s with heap := h, toks := tk })
    (done : ∀ (c : σ) (u : Str → Option Value) h tk, P n c → Fr h₀ env.locals h (nm u (ps n c)) → News h₀ env.locals h (Led n c) → Q .next { s with heap := h, toks := tk }) :
    wpAny (model prog w) A (pyIter (.ref r)) (fun it s₂ => LoopAtV prog w A h₀ env x body Q E it s₂) E s := by
  refine wpAny_pyIter_range hr hsmall ?_
  have W : Walks prog w A s.heap.objs.size [s.heap.objs.size] [s.heap.objs.size] n (fun i v => i < n ∧ ∃ t, v = .int (a₀ + i * 1) t)
      (fun i h => IsRangeIter h s.heap.objs.size (a₀ + (i : Nat) * 1) ((n : Int) - (i : Nat)) 1) := (Walks.range hh _ a₀ 1 n).bound
  refine loop_c W Led ps P c₀ (by show IsRangeIter _ _ _ _ _; rw [hn]; simpa using Heap.get?_push_size _ rfl) ?_ ?_ (next_is_new F) (.head _) ?_ (F.push _) (fun p hp => ⟨Heap.get?_push_of_some _ (N p hp).1, (N p hp).2⟩) ?_ hk hx hp ?_ done
  · intro i h e
    exact ⟨_, e⟩
  · intro hm
    exact absurd F.ns.lt ((List.mem_singleton.mp hm) ▸ Nat.lt_irrefl _)
  · intro b hb hbI
    exact absurd (List.mem_singleton.mp hb) hbI
  · intro p hp e
    exact absurd (Heap.lt_size (N p hp).1) (by rw [e]; exact Nat.lt_irrefl _)
  · rintro i v c it u h tk hi ⟨_, t, rfl⟩
    have e1 : a₀ + (i : Int) * 1 = a₀ + (i : Int) := by omega
    rw [e1]
    exact turn i t c _ it u h tk hi

/-- a for over a text's signs -/
theorem for_str {σ : Type} {y : Str} {ty : Tok} {m₀ : Str → Option Value} (Led : Nat → σ → List (Addr × Obj)) (ps : Nat → σ → List (Str × Value)) (P : Nat → σ → Prop) (c₀ : σ)
    (hh : A.handled = none) (F : Fr h₀ env.locals s.heap m₀) (N : News h₀ env.locals s.heap (Led 0 c₀)) (hk : ∀ p ∈ ps 0 c₀, m₀ p.1 = some p.2) (hx : ∀ i c, ∀ p ∈ ps i c, p.1 ≠ x) (hp : P 0 c₀)
    (turn : ∀ (i : Nat) (k : Nat) (t : Tok) (c : σ) (I : Addr) (it : Obj) (u : Str → Option Value) h tk, y.cps[i]? = some k → P i c → (∀ p ∈ Led i c, p.1 ≠ I) → Fr h₀ env.locals h (nm u ((x, .str ⟨#[k]⟩ t) :: ps i c)) → News h₀ env.locals h ((I, it) :: Led i c) →
      wpAny (model prog w) A (execs body env) (FPost h₀ env.locals { s with heap := h, toks := tk } I it (Led (i + 1)) (ps (i + 1)) (P (i + 1)) Q) E { s with heap := h, toks := tk })
    (done : ∀ (c : σ) (u : Str → Option Value) h tk, P y.cps.size c → Fr h₀ env.locals h (nm u (ps y.cps.size c)) → News h₀ env.locals h (Led y.cps.size c) → Q .next { s with heap := h, toks := tk }) :
    wpAny (model prog w) A (pyIter (.str y ty)) (fun it s₂ => LoopAtV prog w A h₀ env x body Q E it s₂) E s := by
  have key : ∀ (o : Obj) (St : Nat → Heap → Prop), Walks prog w A s.heap.objs.size [s.heap.objs.size] [s.heap.objs.size] y.cps.size (SignAt y) St → St 0 (s.heap.push o) → (∀ i h, St i h → ∃ o, h.get? s.heap.objs.size = some o) →
      LoopAtV prog w A h₀ env x body Q E (.ref s.heap.objs.size) { s with heap := s.heap.push o } := by
    intro o St W hst hSt
    refine loop_c W Led ps P c₀ hst hSt ?_ (next_is_new F) (.head _) ?_ (F.push _) (fun p hp => ⟨Heap.get?_push_of_some _ (N p hp).1, (N p hp).2⟩) ?_ hk hx hp ?_ done
    · intro hm
      exact absurd F.ns.lt ((List.mem_singleton.mp hm) ▸ Nat.lt_irrefl _)
    · intro b hb hbI
      exact absurd (List.mem_singleton.mp hb) hbI
    · intro p hp e
      exact absurd (Heap.lt_size (N p hp).1) (by rw [e]; exact Nat.lt_irrefl _)
    · rintro i v c it u h tk hi ⟨k, t, hk, rfl⟩
      exact turn i k t c _ it u h tk hk
  cases ha : y.cps.all (· < 128)
  · exact wpAny_pyIter_wide ha (key _ _ (Walks.strWide hh _ y ty) ⟨_, Heap.get?_push_size _ rfl, rfl, rfl⟩ fun i h e => let ⟨o, ho, _⟩ := e; ⟨o, ho⟩)
  · exact wpAny_pyIter_ascii ha (key _ _ (Walks.strAscii hh _ y ty) ⟨_, Heap.get?_push_size _ rfl, rfl, rfl⟩ fun i h e => let ⟨o, ho, _⟩ := e; ⟨o, ho⟩)

/-- a for over a list's reverse iterator, both of the ledger -/
theorem for_rev {σ : Type} {l I : Addr} {vs : List Value} {nn : Nat} {m₀ : Str → Option Value} (Led : Nat → σ → List (Addr × Obj)) (ps : Nat → σ → List (Str × Value)) (P : Nat → σ → Prop) (c₀ : σ)
    (hh : A.handled = none) (hl : ∀ i c, (l, W.listOf vs.toArray nn) ∈ Led i c) (F : Fr h₀ env.locals s.heap m₀) (N : News h₀ env.locals s.heap ((I, revObj l ((vs.length : Int) - 1)) :: Led 0 c₀)) (hnI : ∀ p ∈ Led 0 c₀, p.1 ≠ I) (hk : ∀ p ∈ ps 0 c₀, m₀ p.1 = some p.2) (hx : ∀ i c, ∀ p ∈ ps i c, p.1 ≠ x) (hp : P 0 c₀)
    (turn : ∀ (i : Nat) (v : Value) (c : σ) (it : Obj) (u : Str → Option Value) h tk, i < vs.length → vs[vs.length - 1 - i]? = some v → P i c → (∀ p ∈ Led i c, p.1 ≠ I) → Fr h₀ env.locals h (nm u ((x, v) :: ps i c)) → News h₀ env.locals h ((I, it) :: Led i c) →
      wpAny (model prog w) A (execs body env) (FPost h₀ env.locals { s with heap := h, toks := tk } I it (Led (i + 1)) (ps (i + 1)) (P (i + 1)) Q) E { s with heap := h, toks := tk })
    (done : ∀ (c : σ) (u : Str → Option Value) h tk, P vs.length c → Fr h₀ env.locals h (nm u (ps vs.length c)) → News h₀ env.locals h (Led vs.length c) → Q .next { s with heap := h, toks := tk }) :
    wpAny (model prog w) A (pyIter (.ref I)) (fun it s₂ => LoopAtV prog w A h₀ env x body Q E it s₂) E s := by
  have hIx := N _ (List.mem_cons_self ..)
  have hax := N _ (List.mem_cons_of_mem _ (hl 0 c₀))
  have hls : s.heap.IsList l vs.toArray := ⟨_, hax.1, rfl, nn, rfl⟩
  have hne : l ≠ I := hnI _ (hl 0 c₀)
  have hit : s.heap.IsRevIter I l ((vs.length : Int) - 1) := ⟨_, hIx.1, rfl, rfl⟩
  refine wpAny_pyIter_revIter hit ?_
  have W := Walks.listRev (prog := prog) (w := w) hh I l hne vs.toArray
  have hlen : vs.toArray.size = vs.length := by simp
  rw [hlen] at W
  refine loop_c W Led ps P c₀ ⟨Nat.zero_le _, ?_, hls⟩ ?_ ?_ hIx.2.2 (.head _) ?_ F (fun p hp => N p (List.mem_cons_of_mem _ hp)) hnI hk hx hp ?_ done
  · have e : (vs.length : Int) - 1 - ((0 : Nat) : Int) = (vs.length : Int) - 1 := by omega
    rw [e]
    exact hit
  · rintro i h ⟨_, ⟨o, ho, _⟩, _⟩
    exact ⟨o, ho⟩
  · intro hm
    rcases List.mem_cons.mp hm with e | hm
    · exact hIx.2.1 e.symm
    · exact hax.2.1 ((List.mem_singleton.mp hm).symm)
  · intro b hb hbI
    rcases List.mem_cons.mp hb with e | hb
    · exact absurd e hbI
    · rw [List.mem_singleton.mp hb]
      exact .inr ⟨_, hl⟩
  · intro i v c it u h tk hi hv
    exact turn i v c it u h tk hi (by simpa using hv)
end
end Mine
end
local macro_rules | `(tactic| walk_at "FPost") => `(tactic| dsimp only [FPost])
section
namespace Mine
theorem rst_E1 : True := by
  w_top off
  trivial
open Builtin.Int (intBits)
local macro_rules | `(tactic| walk_at "subled") => `(tactic| first | exact sub_refl | exact sub_tail sub_refl | exact sub_tail (sub_tail sub_refl))
local macro_rules | `(tactic| k_all) => `(tactic| first | assumption | (refine' raw_ne ?q ?r ?t; (case q => assumption); (case t => (try dsimp only); omega); (case r => walk_at "subled")))
local macro_rules | `(tactic| walk_at "enterD") => `(tactic| (k_dflt (refine' code_def ?k1 ?k2 ?k3 ?k4 ?k5 ?kA ?kF ?kK ?k6 ?k7 ?k8 ?k9 ?kB ?_ ?c2 ?c3 ?c4 ?c5; (case kA => exact rfl); (case kF => exact rfl); (case kK => assumption); (case k1 => k_asm); (case k2 => k_asm); (case k3 => k_asm); (case k4 => k_asm); (case k5 => k_asm); (case k6 => k_is); (case k7 => k_is); (case k8 => (show _ < recursionLimit; dsimp only [ktrTop]; omega)); (case k9 => exact BindsTo.of_eq rfl); (case c5 => decide); (case kB => exact locs rfl); (case c2 => exact rfl); (case c3 => exact rfl); (case c4 => exact rfl); k_whole; intro g' L' h' FG' F' N' B' X' T'; (try dsimp only); (try k_lift B'); (try k_fold); (try (refine letAE ?_; intro A' env')))))
local macro_rules | `(tactic| walk_at $s) => if ["call ref", "call builtin:list.append", "pyIter ref"].contains s.getString then `(tactic| refine hold ?_) else Lean.Macro.throwUnsupported
theorem lt_ne {l : Led} {x : Addr} (h : ∀ p ∈ l, p.1 < x) : ∀ p ∈ l, p.1 ≠ x := fun p hp => Nat.ne_of_lt (h p hp)
local macro_rules | `(tactic| walk_at "call type:reversed") => `(tactic| (k_dflt (refine' krv_reversed ?F ?N ?l ?_; (case F => k_asm); (case N => k_asm); (case l => is_list)); intro D' h' F' N' l1; have lR := l1; (try k_lt l1); (try k_sweep)))
local macro_rules | `(tactic| walk_at "newList") => `(tactic| (k_dflt (refine' newList_K ?k1 ?k2 ?_; (case k1 => k_asm); (case k2 => k_asm); k_whole); intro l' h' F' N' l1; have lR := l1; (try k_lt l1); (try k_sweep)))
local macro_rules | `(tactic| walk_at "bits") => `(tactic| (refine' Nat.le_trans ?bu ?bv; (case bu => with_reducible assumption); (case bv => decide)))
local macro_rules | `(tactic| walk_at "binaryOp LShift int int") => `(tactic| (refine' lshift_int ?x0 (shl_ok ?xb ?xn) ?_; (case x0 => omega); (case xb => walk_at "bits"); (case xn => omega)))
theorem led_a {a D : Addr × Obj} {A B C : Led} : ∀ p ∈ B ++ (a :: (A ++ C)), p ∈ a :: D :: (A ++ (B ++ C)) := by
  intro p hp
  simp only [List.mem_append, List.mem_cons] at hp ⊢
  rcases hp with h | h | h | h <;> simp [h]
theorem led_b {t a : Addr × Obj} {A B C : Led} : ∀ p ∈ t :: (A ++ (B ++ C)), p ∈ t :: (B ++ (a :: (A ++ C))) := by
  intro p hp
  simp only [List.mem_append, List.mem_cons] at hp ⊢
  rcases hp with h | h | h | h <;> simp [h]
/-- where the loop stands -/
structure PSt where
  r : Int
  tr : Tok
  tn : Tok
  qs : List Value
  qn : Nat
set_option maxRecDepth 100000 in
set_option maxHeartbeats 8000000 in
theorem divmod_pos_c {w : World} {news : Led} {a b n h : Int} {t1 t2 : Tok} (hh : 0 < h) (hh2 : h ≤ 4000) (hn : n = 2 * h) (hb : 2 ^ h.toNat ≤ b ∧ b < 2 ^ h.toNat * 2 ^ h.toNat) (hbn : (intBits b : Int) = n) (ha : 0 < a) (za : intBits a ≤ 20000)
    (hkk : ((intBits a : Int) + n - 1).fdiv n = ((2 : Nat) : Int)) (ht : a / 2 ^ n.toNat < b)
    (st st2 : St) (hst : T37ok st) (hst2 : T44ok st2) (h37 : ∀ p ∈ news, p.1 ≠ 37) (h44 : ∀ p ∈ news, p.1 ≠ 44) :
    ClaimT w 56 [.int a t1, .int b t2] 100 400 (T37 st ++ (T44 st2 ++ news)) (fun K => ∀ l u1 u2 c oc c2 oc2, CodeOk q37 c oc → CodeOk q44 c2 oc2 → K (.ref l) ((l, tupOf [.int (a / b) u1, .int (a % b) u2]) :: (T37 (some (c, oc)) ++ (T44 (some (c2, oc2)) ++ news)))) := by
  intro p loose mean mg mb dp un gd cn cs aa ccd cl outer A₀ base h₀ L m s Q E C1 C2 B F X N T hk hdp hu hret
  obtain ⟨sh, sg, sd, sk, so⟩ := s
  dsimp only at F N hret ⊢
  subst hbn
  have zn : intBits (intBits b : Int) ≤ 64 := intBits_le_64 (by omega) (by omega)
  have en : ((intBits b : Int)).toNat = h.toNat + h.toNat := by omega
  have en2 : (2 : Int) ^ ((intBits b : Int)).toNat = 2 ^ h.toNat * 2 ^ h.toNat := by rw [en, Int.pow_add]
  have hPn := kbt_pos ((intBits b : Int)).toNat
  have hb0 : 0 < b := Int.lt_of_lt_of_le (kbt_pos _) hb.1
  have ha1 : 0 ≤ a / 2 ^ ((intBits b : Int)).toNat := Int.ediv_nonneg (Int.le_of_lt ha) (Int.le_of_lt hPn)
  have e0 : (0 : Int) * 2 ^ ((intBits b : Int)).toNat + a / 2 ^ ((intBits b : Int)).toNat = a / 2 ^ ((intBits b : Int)).toNat := by rw [Int.zero_mul, Int.zero_add]
  have ht1 : a / 2 ^ ((intBits b : Int)).toNat < b * (2 ^ h.toNat * 2 ^ h.toNat) := by
    rw [← en2]
    have := Int.mul_le_mul_of_nonneg_left (c := b) (show (1 : Int) ≤ 2 ^ ((intBits b : Int)).toNat by omega) (Int.le_of_lt hb0)
    rw [Int.mul_one] at this
    omega
  have hr0 := Int.emod_nonneg (a / 2 ^ ((intBits b : Int)).toNat) (Int.ne_of_gt hb0)
  have hr1 := Int.emod_lt_of_pos (a / 2 ^ ((intBits b : Int)).toNat) hb0
  have hd0 := Int.emod_nonneg a (Int.ne_of_gt hPn)
  have hd1 := Int.emod_lt_of_pos a hPn
  have ht2 : a / 2 ^ ((intBits b : Int)).toNat % b * 2 ^ ((intBits b : Int)).toNat + a % 2 ^ ((intBits b : Int)).toNat < b * (2 ^ h.toNat * 2 ^ h.toNat) := by
    rw [← en2]
    exact e1_lt hPn hr1 ⟨hd0, hd1⟩
  have hx2 : 0 ≤ a / 2 ^ ((intBits b : Int)).toNat % b * 2 ^ ((intBits b : Int)).toNat := Int.mul_nonneg hr0 (Int.le_of_lt hPn)
  have e12 := e1_out (a := a) hPn hb0
  have e1 := e12.2
  have zb : intBits b ≤ 8000 := by omega
  have zr : intBits (a / 2 ^ ((intBits b : Int)).toNat % b) ≤ 8000 := intBits_le_of_natAbs (by omega) zb
  have z9q : intBits ((a / 2 ^ ((intBits b : Int)).toNat % b * 2 ^ ((intBits b : Int)).toNat + a % 2 ^ ((intBits b : Int)).toNat) / b) ≤ 20000 := by
    have h1 := e1_q2 hb0 hr0 hPn hd0 (e1_lt hPn hr1 ⟨hd0, hd1⟩)
    exact Nat.le_trans (bits_of_lt h1.1 h1.2) (by omega)
  have z9q2 : intBits (a / 2 ^ ((intBits b : Int)).toNat / b) ≤ 20000 := by
    rw [Int.ediv_eq_zero_of_lt ha1 ht]; decide
  have zq : ∀ d ∈ [(a / 2 ^ ((intBits b : Int)).toNat % b * 2 ^ ((intBits b : Int)).toNat + a % 2 ^ ((intBits b : Int)).toNat) / b, a / 2 ^ ((intBits b : Int)).toNat / b], intBits d ≤ 20000 := by
    intro d hd
    rcases List.mem_cons.mp hd with rfl | hd
    · exact z9q
    · rw [List.mem_singleton.mp hd]; exact z9q2
  have eq9 : undig ((intBits b : Int)).toNat [(a / 2 ^ ((intBits b : Int)).toNat % b * 2 ^ ((intBits b : Int)).toNat + a % 2 ^ ((intBits b : Int)).toNat) / b, a / 2 ^ ((intBits b : Int)).toNat / b] = a / b := by
    rw [← e12.1]
    show _ + (_ + 0 * _) * _ = _
    rw [Int.zero_mul, Int.add_zero, Int.add_comm]
  refine wpAny_call ?_
  walk_at "enterD"
  k_steps
  refine ⟨?_⟩
  refine ClaimT.use (int2digits_c (by omega) (by omega) zn ha za hkk (by decide) (by decide) st st2 hst hst2 h37) (by k_asm) (by assumption) (by assumption) (by k_asm) (by k_asm) (by k_asm) (by k_asm) rfl ?_ ?_ ?_
  · dsimp only [ktrTop]; omega
  · dsimp only [ktrTop, Around.deeper]; omega
  intro D vs1 c oc hI hC h1 tk1 F1 N1
  have e2 : digs ((intBits b : Int)).toNat 2 a = [a % 2 ^ ((intBits b : Int)).toNat, a / 2 ^ ((intBits b : Int)).toNat] := rfl
  rw [e2] at hI
  generalize hnn : T37 (some (c, oc)) ++ (T44 st2 ++ news) = nn9 at N1
  cases hI with
  | cons _ u0 hI => cases hI with
    | cons _ u1 hI =>
      cases hI
      k_steps
      refine ⟨?_⟩
      refine for_rev (σ := PSt) (l := D) (nn := 0)
        (fun i c => (_, W.listOf c.qs.toArray c.qn) :: (D, W.listOf [Value.int _ u0, Value.int _ u1].toArray 0) :: nn9)
        (fun i c => [(Str.ofString "r", .int c.r c.tr), (Str.ofString "q_digits", .ref _), (Str.ofString "b", .int b t2), (Str.ofString "n", .int (intBits b : Int) c.tn)])
        (fun i c => (i = 0 → c.r = 0 ∧ c.qs = []) ∧ (i = 1 → c.r = a / 2 ^ ((intBits b : Int)).toNat % b ∧ ∃ t, c.qs = [.int (a / 2 ^ ((intBits b : Int)).toNat / b) t]) ∧
          (i = 2 → c.r = a % b ∧ ∃ t t', c.qs = [.int (a / 2 ^ ((intBits b : Int)).toNat / b) t, .int ((a / 2 ^ ((intBits b : Int)).toNat % b * 2 ^ ((intBits b : Int)).toNat + a % 2 ^ ((intBits b : Int)).toNat) / b) t']))
        (PSt.mk _ _ _ _ _) rfl (fun _ _ => .tail _ (.head _)) (by assumption) (by assumption) ?_ (all_cons rfl (all_cons rfl (all_cons rfl (all_cons rfl all_nil)))) ?_ ?_ ?_ ?_
      · exact lt_ne (by assumption)
      · exact fun _ _ => all_cons (show Str.ofString "r" ≠ Str.ofString "a_digit" by decide) (all_cons (show Str.ofString "q_digits" ≠ Str.ofString "a_digit" by decide) (all_cons (show Str.ofString "b" ≠ Str.ofString "a_digit" by decide) (all_cons (show Str.ofString "n" ≠ Str.ofString "a_digit" by decide) (all_nil))))
      · exact ⟨fun _ => ⟨rfl, rfl⟩, fun e => absurd e (by decide), fun e => absurd e (by decide)⟩
      · rintro i v ⟨r, tr, tn, qs, qn⟩ it u h2 tk2 hi hv ⟨hP0, hP1, hP2⟩ hoff F2 N2
        dsimp only at hP0 hP1 hP2 hoff F2 N2 ⊢
        have hqI := hoff _ (.head _)
        rcases (show i = 0 ∨ i = 1 by have h9 : i < 2 := hi; omega) with rfl | rfl
        · obtain ⟨rfl, rfl⟩ := hP0 rfl
          cases hv
          k_steps
          refine ⟨?_⟩
          rw [e0]
          refine Claim.use (div2n1n_c hh hh2 hn hb (by omega) (by assumption)) (by k_asm) (by k_asm) (by k_asm) (by k_asm) (by k_asm) rfl ?_ ?_ ?_
          · dsimp only [ktrTop]; omega
          · dsimp only [ktrTop, Around.deeper]; omega
          intro l9 ta tb h3 tk3 F3 N3
          k_steps
          refine ⟨?_⟩
          refine append_K (by assumption) (drop_to (by assumption) (sub_tail sub_refl)) (Upd.tail (Ne.symm hqI) (Upd.head (lt_ne (by assumption)))) ?_ (by show _ ≤ 16777216; simp)
          intro h4 F4 N4
          k_steps
          exact FEnd.mk' (PSt.mk _ _ _ _ _) (by assumption) (by assumption) (cons_ne hqI fun p hp => hoff p (.tail _ hp)) (all_cons rfl (all_cons rfl (all_cons rfl (all_cons rfl all_nil)))) ⟨fun e => absurd e (by decide), fun _ => ⟨rfl, _, rfl⟩, fun e => absurd e (by decide)⟩
        · obtain ⟨rfl, t9, rfl⟩ := hP1 rfl
          cases hv
          k_steps
          refine ⟨?_⟩

          refine Claim.use (div2n1n_c hh hh2 hn hb (by omega) (by assumption)) (by k_asm) (by k_asm) (by k_asm) (by k_asm) (by k_asm) rfl ?_ ?_ ?_
          · dsimp only [ktrTop]; omega
          · dsimp only [ktrTop, Around.deeper]; omega
          intro l9 ta tb h3 tk3 F3 N3
          k_steps
          refine ⟨?_⟩
          refine append_K (by assumption) (drop_to (by assumption) (sub_tail sub_refl)) (Upd.tail (Ne.symm hqI) (Upd.head (lt_ne (by assumption)))) ?_ (by show _ ≤ 16777216; simp)
          intro h4 F4 N4
          k_steps
          exact FEnd.mk' (PSt.mk _ _ _ _ _) (by assumption) (by assumption) (cons_ne hqI fun p hp => hoff p (.tail _ hp)) (all_cons rfl (all_cons rfl (all_cons rfl (all_cons rfl all_nil)))) ⟨fun e => absurd e (by decide), fun e => absurd e (by decide), fun _ => ⟨e1, _, _, rfl⟩⟩
      · rintro ⟨r, tr, tn, qs, qn⟩ u h2 tk2 ⟨hP0, hP1, hP2⟩ F2 N2
        obtain ⟨rfl, t9, t8, rfl⟩ := hP2 rfl
        dsimp only at F2 N2
        k_steps
        refine ⟨?_⟩
        have l44 : @LT.lt Nat _ 44 _ := T44_lt (l := (D, _) :: T37 (some (c, oc))) (st := st2) (news := news) (by rw [List.cons_append, hnn]; assumption)
        refine ClaimT.use (digits2int_c (IntsAre.cons _ t8 (IntsAre.cons _ t9 .nil)) (by omega) (by omega) zn (Nat.zero_lt_succ _) (by simp) zq (some (c, oc)) st2 hC hst2 h44 (Nat.ne_of_gt l44)) (by k_asm) (by assumption) (by assumption) (by k_asm) (by k_asm) (drop_to (by k_asm) (by rw [← hnn]; exact led_a)) (by k_asm) rfl ?_ ?_ ?_
        · dsimp only [ktrTop]; omega
        · dsimp only [ktrTop, Around.deeper]; omega
        intro tq c2 oc2 hC2 h3 tk3 F3 N3
        rw [eq9]
        k_steps
        exact hret _ _ _ c oc c2 oc2 hC hC2 _ _ (by assumption) (drop_to (by assumption) led_b)
end Mine
end
section
namespace Mine
theorem rst_F1 : True := by
  w_top off
  trivial
open Builtin.Int (intBits)
local macro_rules | `(tactic| walk_at "enterD") => `(tactic| (k_dflt (refine' code_def ?k1 ?k2 ?k3 ?k4 ?k5 ?kA ?kF ?kK ?k6 ?k7 ?k8 ?k9 ?kB ?_ ?c2 ?c3 ?c4 ?c5; (case kA => exact rfl); (case kF => exact rfl); (case kK => assumption); (case k1 => k_asm); (case k2 => k_asm); (case k3 => k_asm); (case k4 => k_asm); (case k5 => k_asm); (case k6 => k_is); (case k7 => k_is); (case k8 => (show _ < recursionLimit; dsimp only [ktrTop]; omega)); (case k9 => exact BindsTo.of_eq rfl); (case c5 => decide); (case kB => exact locs rfl); (case c2 => exact rfl); (case c3 => exact rfl); (case c4 => exact rfl); k_whole; intro g' L' h' FG' F' N' B' X' T'; (try dsimp only); (try k_lift B'); (try k_fold); (try (refine letAE ?_; intro A' env')))))
local macro_rules | `(tactic| walk_at $s) => if ["call ref"].contains s.getString then `(tactic| refine hold ?_) else Lean.Macro.throwUnsupported
/-- what the division needs -/
structure DivOk (a b h : Int) : Prop where
  h0 : 0 < h
  h1 : h ≤ 4000
  hb : 2 ^ h.toNat ≤ b ∧ b < 2 ^ h.toNat * 2 ^ h.toNat
  hbn : (intBits b : Int) = 2 * h
  ha : 0 < a
  za : intBits a ≤ 20000
  hkk : ((intBits a : Int) + 2 * h - 1).fdiv (2 * h) = ((2 : Nat) : Int)
  ht : a / 2 ^ (2 * h).toNat < b
set_option maxRecDepth 100000 in
set_option maxHeartbeats 8000000 in
theorem int_divmod_c {w : World} {news : Led} {a b h : Int} {t1 t2 : Tok} (H : DivOk a b h)
    (st st2 : St) (hst : T37ok st) (hst2 : T44ok st2) (h37 : ∀ p ∈ news, p.1 ≠ 37) (h44 : ∀ p ∈ news, p.1 ≠ 44) :
    ClaimT w 63 [.int a t1, .int b t2] 110 420 (T37 st ++ (T44 st2 ++ news)) (fun K => ∀ l u1 u2 c oc c2 oc2, CodeOk q37 c oc → CodeOk q44 c2 oc2 → K (.ref l) ((l, tupOf [.int (a / b) u1, .int (a % b) u2]) :: (T37 (some (c, oc)) ++ (T44 (some (c2, oc2)) ++ news)))) := by
  intro p loose mean mg mb dp un gd cn cs aa ccd cl outer A₀ base h₀ L m s Q E C1 C2 B F X N T hk hdp hu hret
  obtain ⟨sh, sg, sd, sk, so⟩ := s
  dsimp only at F N hret ⊢
  have hb0 : 0 < b := Int.lt_of_lt_of_le (kbt_pos _) H.hb.1
  have ha := H.ha
  have hbz : (b == 0) = false := beq_eq_false_iff_ne.mpr (by omega)
  refine wpAny_call ?_
  walk_at "enterD"
  k_steps
  refine ⟨?_⟩
  refine ClaimT.use (divmod_pos_c H.h0 H.h1 rfl H.hb H.hbn H.ha H.za H.hkk H.ht st st2 hst hst2 h37 h44) (by k_asm) (by assumption) (by assumption) (by k_asm) (by k_asm) (by k_asm) (by k_asm) rfl ?_ ?_ ?_
  · dsimp only [ktrTop]; omega
  · dsimp only [ktrTop, Around.deeper]; omega
  intro l u1 u2 c oc c2 oc2 hC hC2 h1 tk1 F1 N1
  k_steps
  exact hret _ _ _ _ _ _ _ hC hC2 _ _ (by assumption) (by assumption)
theorem inv_fmod (a b : Int) : Builtin.bitNot a = -a - 1 := rfl
set_option maxRecDepth 100000 in
set_option maxHeartbeats 8000000 in
theorem int_divmod_neg_c {w : World} {news : Led} {a b h : Int} {t1 t2 : Tok} (H : DivOk (-a - 1) b h) (hneg : a < 0)
    (st st2 : St) (hst : T37ok st) (hst2 : T44ok st2) (h37 : ∀ p ∈ news, p.1 ≠ 37) (h44 : ∀ p ∈ news, p.1 ≠ 44) :
    ClaimT w 63 [.int a t1, .int b t2] 120 440 (T37 st ++ (T44 st2 ++ news)) (fun K => ∀ l u1 u2 c oc c2 oc2, CodeOk q37 c oc → CodeOk q44 c2 oc2 → K (.ref l) ((l, tupOf [.int (-((-a - 1) / b) - 1) u1, .int (b + (-((-a - 1) % b) - 1)) u2]) :: (T37 (some (c, oc)) ++ (T44 (some (c2, oc2)) ++ news)))) := by
  intro p loose mean mg mb dp un gd cn cs aa ccd cl outer A₀ base h₀ L m s Q E C1 C2 B F X N T hk hdp hu hret
  obtain ⟨sh, sg, sd, sk, so⟩ := s
  dsimp only at F N hret ⊢
  have hb0 : 0 < b := Int.lt_of_lt_of_le (kbt_pos _) H.hb.1
  have ha := H.ha
  have hbz : (b == 0) = false := beq_eq_false_iff_ne.mpr (by omega)
  refine wpAny_call ?_
  walk_at "enterD"
  k_steps
  refine ⟨?_⟩
  refine ClaimT.use (int_divmod_c (a := Builtin.bitNot a) H st st2 hst hst2 h37 h44) (by k_asm) (by assumption) (by assumption) (by k_asm) (by k_asm) (by k_asm) (by k_asm) rfl ?_ ?_ ?_
  · dsimp only [ktrTop]; omega
  · dsimp only [ktrTop, Around.deeper]; omega
  intro l u1 u2 c oc c2 oc2 hC hC2 h1 tk1 F1 N1
  k_steps
  exact hret _ _ _ _ _ _ _ hC hC2 _ _ (by assumption) (drop_to (by assumption) (sub_cons (.head _) (sub_tail (sub_tail sub_refl))))
end Mine
end
section
namespace Mine
theorem rst_G1 : True := by
  w_top off
  trivial
open Builtin.Int (intBits)
/-- in how many ways so many like cards are dealt, times what was there before -/
noncomputable def dealtK (heaps step ways : Int) : Nat → Int
  | 0 => ways
  | k + 1 => (dealtK heaps step ways k * (heaps + step * (k : Int))).fdiv ((k : Int) + 1)
noncomputable def dealt3 (heaps step : Int) (c0 c1 c2 : Nat) : Int := dealtK heaps step (dealtK heaps step (dealtK heaps step 1 c0) c1) c2
theorem dealtK_le {heaps step ways : Int} (hh : 1 ≤ heaps ∧ heaps ≤ 6) (hs : -1 ≤ step ∧ step ≤ 1) : ∀ {k : Nat}, k ≤ 5 → (dealtK heaps step ways k).natAbs ≤ ways.natAbs * 11 ^ k
  | 0, _ => by rw [Nat.pow_zero, Nat.mul_one]; exact Nat.le_refl _
  | k + 1, hk => by
    have ih := dealtK_le (heaps := heaps) (step := step) (ways := ways) hh hs (k := k) (by omega)
    show ((dealtK heaps step ways k * (heaps + step * (k : Int))).fdiv ((k : Int) + 1)).natAbs ≤ _
    refine Nat.le_trans (natAbs_fdiv_le _ _) ?_
    rw [Int.natAbs_mul, Nat.pow_succ, ← Nat.mul_assoc]
    refine Nat.mul_le_mul ih ?_
    have : step = -1 ∨ step = 0 ∨ step = 1 := by omega
    rcases this with rfl | rfl | rfl <;> omega
theorem dealtK_bits {heaps step ways : Int} {j k : Nat} (hh : 1 ≤ heaps ∧ heaps ≤ 6) (hs : -1 ≤ step ∧ step ≤ 1) (hw : ways.natAbs ≤ 11 ^ (5 * j)) (hj : j ≤ 2) (hk : k ≤ 5) : intBits (dealtK heaps step ways k) ≤ 64 ∧ (dealtK heaps step ways k).natAbs ≤ 11 ^ (5 * (j + 1)) := by
  have h1 := dealtK_le (ways := ways) hh hs hk
  have h2 : (dealtK heaps step ways k).natAbs ≤ 11 ^ (5 * (j + 1)) := by
    refine Nat.le_trans h1 (Nat.le_trans (Nat.mul_le_mul hw (Nat.pow_le_pow_right (by decide) hk)) ?_)
    rw [← Nat.pow_add]
    exact Nat.pow_le_pow_right (by decide) (by omega)
  refine ⟨?_, h2⟩
  rw [intBits_le_iff]
  refine Nat.lt_of_le_of_lt h2 (Nat.lt_of_le_of_lt (Nat.pow_le_pow_right (by decide) (show 5 * (j + 1) ≤ 15 by omega)) (by decide))
theorem range_size (n : Nat) : Builtin.Range.rangeSize 0 (n : Int) 1 = (n : Int) := by
  rw [rangeSize_one]
  split <;> omega
theorem range_small {n : Nat} (h : n ≤ 1000000) : Builtin.Range.small 0 (n : Int) 1 = true := small_one (by omega) (by omega) (by omega) (by omega)
local macro_rules | `(tactic| walk_at $s) => if ["exec For", "exec For Name Name cons nil", "exec For Name Call cons nil"].contains s.getString then `(tactic| (k_here; (rename Fr _ _ _ _ => lF'); (with_unfolding_all refine' For_invVF lF' ?k1 ?k2 ?_; (case k1 => exact rfl); (case k2 => exact rfl); k_whole))) else Lean.Macro.throwUnsupported
local macro_rules | `(tactic| walk_at $s) => if ["pyIter ref"].contains s.getString then `(tactic| refine hold ?_) else Lean.Macro.throwUnsupported
local macro_rules | `(tactic| walk_at "binaryOp Mult int int") => `(tactic| (refine' mul_int ?_ (IntMulOk.of_left ?xb); rotate_left; (case xb => assumption)))
set_option maxRecDepth 100000 in
set_option maxHeartbeats 8000000 in
theorem dealt_c {w : World} {news : Led} {l : Addr} {c0 c1 c2 nn : Nat} {t0 t1 t2 : Tok} {heaps step : Int} {th ts : Tok} (b0 : c0 ≤ 5) (b1 : c1 ≤ 5) (b2 : c2 ≤ 5) (hh : 1 ≤ heaps ∧ heaps ≤ 6) (hs : -1 ≤ step ∧ step ≤ 1) :
    Claim w 169 [.ref l, .int heaps th, .int step ts] 1 8 ((l, W.listOf [Value.int c0 t0, Value.int c1 t1, Value.int c2 t2].toArray nn) :: news)
      (fun K => ∀ t, K (.int (dealt3 heaps step c0 c1 c2) t) ((l, W.listOf [Value.int c0 t0, Value.int c1 t1, Value.int c2 t2].toArray nn) :: news)) := by
  intro p loose mean mg mb dp un gd cn cs aa ccd cl outer A₀ base h₀ L m s Q E B F X N T hk hdp hu hret
  obtain ⟨sh, sg, sd, sk, so⟩ := s
  dsimp only at F N hret ⊢
  have zs : intBits step ≤ 64 := intBits_le_64 (by omega) (by omega)
  refine wpAny_call ?_
  k_dflt cell_enter
  k_steps
  refine ⟨?_⟩
  refine for_list (σ := Int × Tok) (l := l) (nn := nn) (fun _ _ => (l, W.listOf [Value.int c0 t0, Value.int c1 t1, Value.int c2 t2].toArray nn) :: news)
    (fun _ c => [(Str.ofString "ways", .int c.1 c.2), (Str.ofString "heaps", .int heaps th), (Str.ofString "step", .int step ts)])
    (fun i c => c.1 = ([c0, c1, c2].take i).foldl (fun a n => dealtK heaps step a n) 1 ∧ c.1.natAbs ≤ 11 ^ (5 * i)) (_, _) rfl (fun _ _ => .head _) (by assumption) (by assumption) (all_cons rfl (all_cons rfl (all_cons rfl all_nil)))
    (fun _ _ => all_cons (show Str.ofString "ways" ≠ Str.ofString "count" by decide) (all_cons (show Str.ofString "heaps" ≠ Str.ofString "count" by decide) (all_cons (show Str.ofString "step" ≠ Str.ofString "count" by decide) (all_nil)))) ⟨rfl, by show (1 : Nat) ≤ 11 ^ 0; decide⟩ ?_ ?_
  · rintro i v ⟨ways, tw⟩ I it u h2 tk2 hv ⟨hP1, hP2⟩ hoff F2 N2
    have key : ∃ (n : Nat) (t : Tok), v = .int n t ∧ n ≤ 5 ∧ ([c0, c1, c2].take (i + 1)).foldl (fun a n => dealtK heaps step a n) 1 = dealtK heaps step (([c0, c1, c2].take i).foldl (fun a n => dealtK heaps step a n) 1) n ∧ i ≤ 2 := by
      match i, hv with
      | 0, hv => cases hv; exact ⟨c0, t0, rfl, b0, rfl, by omega⟩
      | 1, hv => cases hv; exact ⟨c1, t1, rfl, b1, rfl, by omega⟩
      | 2, hv => cases hv; exact ⟨c2, t2, rfl, b2, rfl, by omega⟩
    obtain ⟨n, t, rfl, hn5, hfold, hi2⟩ := key
    dsimp only at hP1 hP2 F2 N2 ⊢
    k_steps
    refine ⟨?_⟩
    refine for_range (σ := Int × Tok) (n := n) (fun _ _ => (I, it) :: (l, W.listOf [Value.int c0 t0, Value.int c1 t1, Value.int c2 t2].toArray nn) :: news)
      (fun _ c => [(Str.ofString "ways", .int c.1 c.2), (Str.ofString "heaps", .int heaps th), (Str.ofString "step", .int step ts)])
      (fun i c => c.1 = dealtK heaps step ways i) (_, _) rfl (by assumption) (range_small (by omega)) (range_size n) (by assumption) (by assumption) (all_cons rfl (all_cons rfl (all_cons rfl all_nil)))
      (fun _ _ => all_cons (show Str.ofString "ways" ≠ Str.ofString "k" by decide) (all_cons (show Str.ofString "heaps" ≠ Str.ofString "k" by decide) (all_cons (show Str.ofString "step" ≠ Str.ofString "k" by decide) (all_nil)))) rfl ?_ ?_
    · rintro k tt ⟨w9, t9⟩ I2 it2 u3 h3 tk3 hk3 hP3 hoff3 F3 N3
      dsimp only at hP3 F3 N3 ⊢
      rw [Int.zero_add] at F3
      have zw : intBits w9 ≤ 64 := by rw [hP3]; exact (dealtK_bits hh hs hP2 hi2 (by omega)).1
      k_steps
      exact FEnd.mk' (_, _) (by assumption) (by assumption) hoff3 (all_cons rfl (all_cons rfl (all_cons rfl all_nil))) (by subst hP3; rfl)
    · rintro ⟨w9, t9⟩ u3 h3 tk3 hP3 F3 N3
      dsimp only at hP3 F3 N3 ⊢
      k_steps
      refine FEnd.mk' (_, _) (by assumption) (by assumption) hoff (all_cons rfl (all_cons rfl (all_cons rfl all_nil))) ⟨?_, ?_⟩
      · rw [hP3, hP1, hfold]
      · rw [hP3]
        exact (dealtK_bits hh hs hP2 hi2 hn5).2
  · rintro ⟨ways, tw⟩ u h2 tk2 ⟨hP1, hP2⟩ F2 N2
    dsimp only at hP1 F2 N2 ⊢
    have e9 : ways = dealt3 heaps step c0 c1 c2 := hP1
    k_steps
    subst e9
    exact hret _ _ _ (by assumption) (by assumption)
end Mine
end
section
namespace Mine
open Builtin.Int (intBits)
open PySem.Calls PySem.Spec PyProof in
section
variable {prog : Program} {w : World} {A : Around} {E : Value → Shared → Prop} {s : Shared} {h₀ : Heap} {L l I : Addr} {m : Str → Option Value} {news : Led}
/-- a list's iterator, at the place i -/
noncomputable def ItAt (o : Obj) (l : Addr) (i : Nat) : Prop := o.cls = .type "list_iterator" ∧ o.data = .fields #[.ref l, .int i 0]
theorem iter_list {vs : List Value} {nn : Nat} {Q : Value → Shared → Prop} (F : Fr h₀ L s.heap m) (N : News h₀ L s.heap news) (hl : (l, W.listOf vs.toArray nn) ∈ news)
    (h : ∀ (I : Addr) h' o, Fr h₀ L h' m → News h₀ L h' ((I, o) :: news) → (∀ p ∈ news, p.1 < I) → ItAt o l 0 → Q (.ref I) { s with heap := h' }) :
    wpAny (model prog w) A (call (.builtin "iter") [.ref l]) Q E s := by
  have hol := (N _ hl).1
  have hls : s.heap.IsList l vs.toArray := ⟨_, hol, rfl, nn, rfl⟩
  refine call_function_entry (by decide +kernel) (by decide +kernel) kdk_entry_iter (kdk_args_iter _) ?_
  unfold Builtin.«iter»
  refine wpAny_bind (m := someArgs "iter" 1 2 _) (wpAny_of_eq (a := [Value.ref l]) (by first | rfl | kernel_rfl!) ?_)
  show wpAny _ _ (pyIter (.ref l) >>= _) _ _ _
  refine wpAny_bind (wpAny_pyIter_list hls ?_)
  exact wpAny_pure ⟨_, rfl, h _ _ _ (F.push _) (News.push F N _ rfl) (fun q hq => Heap.lt_size (N q hq).1) ⟨rfl, rfl⟩⟩
theorem special_item {i : Nat} {items : Array Value} {x : Value} {Q : Option Value → Shared → Prop} (hit : s.heap.IsListIter I l i)
    (hl : s.heap.IsList l items) (hx : items[i]? = some x)
    (hQ : ∀ h', h'.IsListIter I l (i + 1) → Heap.SameBut I s.heap h' → Q (some x) { s with heap := h' }) :
    wpAny (model prog w) A (callSpecial? (.ref I) (Str.ofString "__next__")) Q E s := by
  obtain ⟨o, ho, hc, hd⟩ := id hit
  obtain ⟨ol, hol, _, nl, hdl⟩ := hl
  refine wpAny_callSpecial?_slot (name := Str.ofString "__next__") hit.typeIs slot_listiter_next
    (wpAny_call_entry slot_listiter_next hit.typeIs entry_listiter_next ?_ (args_listiter_next _))
  show wpAny _ _ (field (.ref I) 0 >>= _) _ _ s
  refine wpAny_bind (wpAny_field ho hd (x := .ref l) rfl ?_)
  show wpAny _ _ (if (Value.ref l == Value.none) = true then _ else _) _ _ s
  rw [if_neg (show ¬ ((Value.ref l == Value.none) = true) from Bool.false_ne_true)]
  show wpAny _ _ (field (.ref I) 1 >>= _) _ _ s
  refine wpAny_bind (wpAny_field ho hd (x := .int i 0) rfl ?_)
  show wpAny _ _ (seqItems? (.ref l) >>= _) _ _ s
  refine wpAny_bind (wpAny_seqItems hol hdl ?_)
  simp only [Int.toNat_natCast, hx]
  refine wpAny_bind (wpAny_setField ho hd (by simp) (wpAny_pure ⟨x, rfl, hQ _ ?_ (Heap.SameBut.update ..)⟩))
  exact ⟨_, Heap.get?_update_self _ ho (Obj.isFreed_of_fields (Obj.data_mapFields hd _)), (Obj.cls_mapFields ..).trans hc, by
    rw [Obj.data_mapFields hd]; simp [rawInt]⟩
theorem special_end {i : Nat} {items : Array Value} {Q : Option Value → Shared → Prop} (hh : A.handled = none)
    (hit : s.heap.IsListIter I l i) (hl : s.heap.IsList l items) (hx : items[i]? = none)
    (hE : ∀ h₁ h' e, Heap.SameBut I s.heap h₁ → (∃ o, h₁.get? I = some o) → Heap.MadeExcOf h₁ h' e (.type "StopIteration") [] → E (.ref e) { s with heap := h' }) :
    wpAny (model prog w) A (callSpecial? (.ref I) (Str.ofString "__next__")) Q E s := by
  obtain ⟨o, ho, hc, hd⟩ := id hit
  obtain ⟨ol, hol, _, nl, hdl⟩ := hl
  refine wpAny_callSpecial?_slot (name := Str.ofString "__next__") hit.typeIs slot_listiter_next
    (wpAny_call_entry slot_listiter_next hit.typeIs entry_listiter_next ?_ (args_listiter_next _))
  show wpAny _ _ (field (.ref I) 0 >>= _) _ _ s
  refine wpAny_bind (wpAny_field ho hd (x := .ref l) rfl ?_)
  show wpAny _ _ (if (Value.ref l == Value.none) = true then _ else _) _ _ s
  rw [if_neg (show ¬ ((Value.ref l == Value.none) = true) from Bool.false_ne_true)]
  show wpAny _ _ (field (.ref I) 1 >>= _) _ _ s
  refine wpAny_bind (wpAny_field ho hd (x := .int i 0) rfl ?_)
  show wpAny _ _ (seqItems? (.ref l) >>= _) _ _ s
  refine wpAny_bind (wpAny_seqItems hol hdl ?_)
  simp only [Int.toNat_natCast, hx]
  refine wpAny_bind (wpAny_rule (wpAny_bind (wpAny_setField ho hd (by simp) ?_)))
  show wpAny _ _ (newExc (.type "StopIteration") [] >>= _) _ _ _
  refine wpAny_bind ?_
  simp only [newExc, newTuple]
  refine wpAny_bind (wpAny_newObj_type ?_ (by size_fits))
  refine wpAny_bind (m := firstArgMember _ _) (wpAny_of_eq (a := Value.none) (by first | rfl | (simp only [firstArgMember]; rfl)) ?_)
  refine wpAny_newObj_type ?_ (by size_fits)
  simp only [raiseNew]
  refine wpAny_bind (wpAny_handled ?_)
  first | rw [show A.in1.handled = none from hh] | rw [hh]
  refine wpAny_bind (wpAny_pure (wpAny_throw ?_))
  refine hE (s.heap.update I (Obj.mapFields (·.setIfInBounds 0 .none))) _ _ (Heap.SameBut.update ..) ⟨_, Heap.get?_update_self _ ho (Obj.isFreed_of_fields (Obj.data_mapFields hd _))⟩ ⟨?_, ?_, ?_⟩
  · intro b o hb
    exact Heap.get?_push_of_some _ (Heap.get?_push_of_some _ hb)
  · exact Heap.get?_none_of_le (by simp [Heap.size_push])
  · exact ⟨_, Heap.get?_push_size _ rfl, Heap.get?_none_of_le (Nat.le_refl _), Heap.get?_push_of_some _ (Heap.get?_push_size _ rfl)⟩
theorem next_item {vs : List Value} {nn i : Nat} {io : Obj} {x : Value} {Q : Value → Shared → Prop} (F : Fr h₀ L s.heap m) (N : News h₀ L s.heap ((I, io) :: news)) (hI : ∀ p ∈ news, p.1 ≠ I)
    (hi : ItAt io l i) (hl : (l, W.listOf vs.toArray nn) ∈ news) (hx : vs[i]? = some x)
    (h : ∀ h' o', Fr h₀ L h' m → News h₀ L h' ((I, o') :: news) → ItAt o' l (i + 1) → Q x { s with heap := h' }) :
    wpAny (model prog w) A (call (.builtin "next") [.ref I]) Q E s := by
  have hm := N (I, io) (.head _)
  have hit : s.heap.IsListIter I l i := ⟨io, hm.1, hi.1, hi.2⟩
  have hls : s.heap.IsList l vs.toArray := ⟨_, (N _ (.tail _ hl)).1, rfl, nn, rfl⟩
  refine call_function_entry (by decide +kernel) (by decide +kernel) kdk_entry_next (kdk_args_next _) ?_
  unfold Builtin.«next»
  refine wpAny_bind (m := someArgs "next" 1 2 _) (wpAny_of_eq (a := [Value.ref I]) (by first | rfl | kernel_rfl!) ?_)
  dsimp only
  refine wpAny_bind (wpAny_specialOf (name := Str.ofString "__next__") hit.typeIs slot_listiter_next.lookup ?_)
  refine wpAny_ite_split (fun hab => absurd hab (by decide)) (fun _ => ?_)
  refine wpAny_bind (special_item hit hls (by simpa using hx) fun h' hit' hs => ?_)
  obtain ⟨o', ho', hc', hd'⟩ := hit'
  refine wpAny_pure ⟨_, rfl, h h' o' (F.change hs hm.2.1 hm.2.2) (fun p hp => ?_) ⟨hc', hd'⟩⟩
  rcases List.mem_cons.mp hp with rfl | hp
  · exact ⟨ho', hm.2.1, hm.2.2⟩
  · exact ⟨(hs.2 _ (hI p hp)).trans (N p (.tail _ hp)).1, (N p (.tail _ hp)).2⟩
theorem next_end {vs : List Value} {nn i : Nat} {io : Obj} {Q : Value → Shared → Prop} (hh : A.in1.handled = none) (F : Fr h₀ L s.heap m) (N : News h₀ L s.heap ((I, io) :: news)) (hI : ∀ p ∈ news, p.1 ≠ I)
    (hi : ItAt io l i) (hl : (l, W.listOf vs.toArray nn) ∈ news) (hx : vs[i]? = none)
    (h : ∀ h₁ h' o' e, Fr h₀ L h₁ m → News h₀ L h₁ ((I, o') :: news) → Heap.MadeExcOf h₁ h' e (.type "StopIteration") [] → E (.ref e) { s with heap := h' }) :
    wpAny (model prog w) A (call (.builtin "next") [.ref I]) Q E s := by
  have hm := N (I, io) (.head _)
  have hit : s.heap.IsListIter I l i := ⟨io, hm.1, hi.1, hi.2⟩
  have hls : s.heap.IsList l vs.toArray := ⟨_, (N _ (.tail _ hl)).1, rfl, nn, rfl⟩
  refine call_function_entry (by decide +kernel) (by decide +kernel) kdk_entry_next (kdk_args_next _) ?_
  unfold Builtin.«next»
  refine wpAny_bind (m := someArgs "next" 1 2 _) (wpAny_of_eq (a := [Value.ref I]) (by first | rfl | kernel_rfl!) ?_)
  dsimp only
  refine wpAny_bind (wpAny_specialOf (name := Str.ofString "__next__") hit.typeIs slot_listiter_next.lookup ?_)
  refine wpAny_ite_split (fun hab => absurd hab (by decide)) (fun _ => ?_)
  refine wpAny_bind (special_end hh hit hls (by simpa using hx) fun h₁ h' e hs ⟨o', ho'⟩ hmade => ?_)
  refine h h₁ h' o' e (F.change hs hm.2.1 hm.2.2) (fun p hp => ?_) hmade
  rcases List.mem_cons.mp hp with rfl | hp
  · exact ⟨ho', hm.2.1, hm.2.2⟩
  · exact ⟨(hs.2 _ (hI p hp)).trans (N p (.tail _ hp)).1, (N p (.tail _ hp)).2⟩
end
end Mine
end
section
namespace Mine
theorem rst_H2 : True := by
  w_top off
  trivial
open Builtin.Int (intBits)
/-- the number that stands at the places i .. i + k, six bits an octet -/
noncomputable def vrun (ns : List Int) (i : Nat) : Nat → Int
  | 0 => ns.getD i 0 % 64
  | j + 1 => vrun ns i j * 64 + ns.getD (i + (j + 1)) 0 % 64
theorem vrun_lt (ns : List Int) (i : Nat) : ∀ j, 0 ≤ vrun ns i j ∧ vrun ns i j < 64 ^ (j + 1)
  | 0 => by show 0 ≤ _ % 64 ∧ _ % 64 < 64; omega
  | j + 1 => by
    have ih := vrun_lt ns i j
    show 0 ≤ vrun ns i j * 64 + _ % 64 ∧ vrun ns i j * 64 + _ % 64 < 64 ^ (j + 1 + 1)
    rw [Int.pow_succ]
    generalize (64 : Int) ^ (j + 1) = P at *
    omega
theorem vrun_bits {ns : List Int} {i j : Nat} (h : j ≤ 8) : intBits (vrun ns i j) ≤ 64 := by
  have h1 := vrun_lt ns i j
  refine Nat.le_trans (bits_of_lt (k := 6 * (j + 1)) h1.1 ?_) (by omega)
  rw [Int.pow_mul]
  exact h1.2
/-- an octet that is followed by others -/
noncomputable def Cont (n : Int) : Prop := 64 ≤ n ∧ n < 128
noncomputable def Last (n : Int) : Prop := 0 ≤ n ∧ n < 64
theorem cont_bit {n : Int} (h : Cont n) : Builtin.bitAnd n 64 = 64 := by
  have e := kbt_bit n 6
  have e2 : (2 : Int) ^ 6 = 64 := rfl
  rw [e2] at e
  rw [e]
  have : n / 64 = 1 := by have := h.1; have := h.2; omega
  rw [this]; rfl
theorem last_bit {n : Int} (h : Last n) : Builtin.bitAnd n 64 = 0 := by
  have e := kbt_bit n 6
  have e2 : (2 : Int) ^ 6 = 64 := rfl
  rw [e2] at e
  rw [e]
  have : n / 64 = 0 := by have := h.1; have := h.2; omega
  rw [this]; rfl
theorem getD_some {ns : List Int} {i : Nat} {n : Int} (h : ns[i]? = some n) : ns.getD i 0 = n := by rw [List.getD_eq_getElem?_getD, h]; rfl
local macro_rules | `(tactic| walk_at $s) => if ["exec While", "call builtin:next"].contains s.getString then `(tactic| refine hold ?_) else Lean.Macro.throwUnsupported
local macro_rules | `(tactic| walk_at "inplaceOp LShift int int") => `(tactic| (refine' ilshift_int ?x0 (shl_ok ?xb ?xn) ?_; (case x0 => omega); (case xb => (refine Nat.le_trans (m := 64) ?_ (by decide); assumption)); (case xn => omega)))
set_option maxRecDepth 100000 in
set_option maxHeartbeats 8000000 in
theorem parse_c {w : World} {news : Led} {l I : Addr} {io : Obj} {vs : List Value} {ns : List Int} {nn i k : Nat} (hI : IntsAre vs ns) (hi : ItAt io l i) (hl : (l, W.listOf vs.toArray nn) ∈ news) (ho : ∀ p ∈ news, p.1 ≠ I)
    (hk : k ≤ 8) (hc : ∀ j, j < k → ∃ n, ns[i + j]? = some n ∧ Cont n) (hz : ∃ n, ns[i + k]? = some n ∧ Last n) :
    Claim w 70 [.ref I] 1 8 ((I, io) :: news)
      (fun K => ∀ io' t, ItAt io' l (i + (k + 1)) → K (.int (vrun ns i k) t) ((I, io') :: news)) := by
  intro p loose mean mg mb dp un gd cn cs aa ccd cl outer A₀ base h₀ L m s Q E B F X N T hkk hdp hu hret
  obtain ⟨sh, sg, sd, sk, so⟩ := s
  dsimp only at F N hret ⊢
  have at_ : ∀ j, j ≤ k → ∃ n t, ns[i + j]? = some n ∧ vs[i + j]? = some (.int n t) := fun j hj => by
    rcases Nat.lt_or_ge j k with h | h
    · obtain ⟨n, h1, _⟩ := hc j h
      obtain ⟨t, h2⟩ := hI.get _ _ h1
      exact ⟨n, t, h1, h2⟩
    · obtain rfl : j = k := by omega
      obtain ⟨n, h1, _⟩ := hz
      obtain ⟨t, h2⟩ := hI.get _ _ h1
      exact ⟨n, t, h1, h2⟩
  refine wpAny_call ?_
  k_dflt cell_enter
  k_steps
  refine ⟨?_⟩
  obtain ⟨n0, t0, hn0, hv0⟩ := at_ 0 (Nat.zero_le _)
  refine next_item (by assumption) (by assumption) ho hi hl hv0 ?_
  intro h1 io1 F1 N1 hi1
  have m0 : Builtin.bitAnd n0 63 = vrun ns i 0 := by
    show _ = ns.getD i 0 % 64
    rw [bitAnd_m6, getD_some (i := i) hn0]
  k_steps
  refine ⟨?_⟩
  refine while_c (σ := Nat × Obj × Int × Tok × Int × Tok) (fun c => (I, c.2.1) :: news) (fun c => [(Str.ofString "val", .int c.2.2.1 c.2.2.2.1), (Str.ofString "b", .int c.2.2.2.2.1 c.2.2.2.2.2), (Str.ofString "iterator", .ref I)])
    (fun c => c.1 ≤ k ∧ ItAt c.2.1 l (i + (c.1 + 1)) ∧ c.2.2.1 = vrun ns i c.1 ∧ ns[i + c.1]? = some c.2.2.2.2.1) (fun c => k - c.1) (0, _, _, _, n0, t0) (by assumption) (by assumption) (all_cons rfl (all_cons rfl (all_cons rfl all_nil))) ⟨Nat.zero_le _, hi1, m0, hn0⟩ ?_
  rintro ⟨j, io2, val, tv, b, tb⟩ u h2 tk2 ⟨hj, hi2, hv9, hb⟩ F2 N2
  dsimp only at hj hi2 hv9 hb F2 N2 ⊢
  subst hv9
  have zb : intBits (vrun ns i j) ≤ 64 := vrun_bits (by omega)
  by_cases hjk : j = k
  · subst hjk
    obtain ⟨n, hn, hlast⟩ := hz
    obtain rfl : n = b := by rw [hb] at hn; exact (Option.some.inj hn).symm
    have mb := last_bit hlast
    k_steps
    · exact absurd mb (by assumption)
    exact hret _ _ hi2 _ _ (by assumption) (by assumption)
  · have hlt : j < k := by omega
    obtain ⟨n, hn, hcont⟩ := hc j hlt
    obtain rfl : n = b := by rw [hb] at hn; exact (Option.some.inj hn).symm
    have mb := cont_bit hcont
    obtain ⟨n3, t3, hn3, hv3⟩ := at_ (j + 1) hlt
    have m3 : Builtin.bitAnd n3 63 = n3 % 64 := bitAnd_m6 _
    have mo : Builtin.bitOr (vrun ns i j * 2 ^ (6 : Int).toNat) (n3 % 64) = vrun ns i (j + 1) := by
      show Builtin.bitOr (vrun ns i j * 2 ^ 6) _ = vrun ns i j * 64 + _
      rw [bitOr_disj _ 6 (vrun_lt ns i j).1 (by omega) (by show n3 % 64 < 64; omega), getD_some hn3]
      rfl
    k_steps
    rotate_left
    · exfalso; omega
    refine ⟨?_⟩
    refine next_item (by assumption) (by assumption) ho hi2 hl hv3 ?_
    intro h3 io3 F3 N3 hi3
    rw [← m3] at mo
    k_steps
    exact MEnd.mk' (j + 1, _, _, _, n3, t3) (by assumption) (by assumption) (all_cons rfl (all_cons rfl (all_cons rfl all_nil))) ⟨⟨hlt, hi3, mo, hn3⟩, by dsimp only; omega⟩
set_option maxRecDepth 100000 in
set_option maxHeartbeats 8000000 in
theorem parse_end {w : World} {news : Led} {l I : Addr} {io : Obj} {vs : List Value} {nn i : Nat} (hi : ItAt io l i) (hl : (l, W.listOf vs.toArray nn) ∈ news) (ho : ∀ p ∈ news, p.1 ≠ I) (hv : vs[i]? = none)
    (p : Program) (loose : List Str) (mean : ExcName → Option Value) (mg mb : Str → Option Value)
    (dp un : Nat) (gd : Option (List Code)) (cn : Str) (cs : Scope) (a : Addr) (ccd : Value) (cl : List (Str × Addr)) (outer : List Env) (A₀ : Around) (base h₀ : Heap) (L : Addr) (m : Str → Option Value) (s : Shared) (Q E : Value → Shared → Prop)
    (B : Below A₀ base outer h₀) (F : Fr h₀ L s.heap m) (X : (heapK w.params).In h₀) (N : News h₀ L s.heap ((I, io) :: news)) (T : Top p loose mean mg mb h₀) (hk : cs.kind = .function) (hdp : dp + 1 < recursionLimit) (_hu : un + 8 < cLine)
    (hret : ∀ g h' e t io' tk, Fr h₀ L g m → RaisedS base g (envX cn cs L a ccd cl :: outer) e (.type "StopIteration") t [] ((I, io') :: news) h' → g.UpToSlots h' → E (.ref e) { s with heap := h', toks := tk }) :
    wpAny (model prg w) (ktrTop dp un gd cn cs L a ccd cl outer) (call (.ref 70) [.ref I]) Q E s := by
  refine wpAny_call ?_
  k_dflt cell_enter
  k_steps
  refine ⟨?_⟩
  refine next_end rfl (by assumption) (by assumption) ho hi hl hv ?_
  intro h1 h2 io1 e F1 N1 hm
  refine leave_raiseS (by assumption) hm F1 N1 ?_
  intro h3 t R1 R2 U
  exact hret _ _ _ _ _ _ (by assumption) R1 U
end Mine
end
section
namespace Mine
local macro_rules | `(tactic| walk_at "pad") => `(tactic| skip)
theorem rst_H3 : True := by
  w_top off
  trivial
open Builtin.Int (intBits)
/-- a call that law itself makes -/
noncomputable abbrev Claim0 (w : World) (f : Addr) (vs : List Value) (D U : Nat) (news : Led) (Ret : (Value → Led → Prop) → Prop) : Prop :=
  ∀ (p : Program) (loose : List Str) (mean : ExcName → Option Value) (mg mb : Str → Option Value)
    (dp un : Nat) (gd : Option (List Code)) (cn : Str) (cs : Scope) (a : Addr) (ccd : Value) (cl : List (Str × Addr)) (A₀ : Around) (base h₀ : Heap) (L : Addr) (m : Str → Option Value) (s : Shared) (Q E : Value → Shared → Prop),
    (heapK w.params).In base → Top p loose mean mg mb base → Below A₀ base [] h₀ → Fr h₀ L s.heap m → (heapK w.params).In h₀ → News h₀ L s.heap news → Top p loose mean mg mb h₀ → cs.kind = .function → dp + D < recursionLimit → un + U < cLine →
    (Ret fun v news' => ∀ (h' : Heap) (tk' : Nat), Fr h₀ L h' m → News h₀ L h' news' → Q v { s with heap := h', toks := tk' }) →
    wpAny (model prg w) (ktrTop dp un gd cn cs L a ccd cl []) (call (.ref f) vs) Q E s
open PySem.Calls PySem.Spec PyProof in
section
variable {prog : Program} {w : World} {A₀ A : Around} {s : Shared} {base h₀ g₀ : Heap} {outer : List Env} {L a : Addr} {m : Str → Option Value} {env : Env} {news : List (Addr × Obj)} {K : Frag} {p : Program} {loose : List Str} {mean : ExcName → Option Value} {mg mb : Str → Option Value}
    {R : Result → Shared → Prop} {name qual : Str} {params : Arguments} {body : List Stmt} {scope : Scope} {dV kV doc pm cdv ct oc : Value} {an od : Option Addr} {osl : Array (Option Value)} {f : Addr} {args : Args} {binds : List (Str × Value)}
theorem frames_pushX (B : Below A₀ base outer h₀) (F : Fr h₀ L s.heap m) (hf : env.frame = some L) (hke : env.scope.kind = .function) : s.heap.FunFrames base (env :: outer) := by
  have hnew : base.get? L = none := by
    cases hq : base.get? L with
    | none => rfl
    | some o => exact absurd (Nat.lt_of_lt_of_le (Heap.lt_size (B.stays L o hq)) F.above) (Nat.lt_irrefl _)
  exact .cons (by rw [hke]; decide) hf F.ns hnew (B.frames.of_keeps fun b o e _ => ⟨o, F.keep b o e, rfl⟩)
theorem enterX (B : Below A₀ base outer h₀) (F : Fr h₀ L s.heap m) (N : News h₀ L s.heap news) (hA : A.frames = some (env :: outer)) (hf : env.frame = some L) (hke : env.scope.kind = .function) :
    ∃ oL es ep, (hideAll s.heap (news.map (·.1))).get? L = some oL ∧ oL.data = .dict es ep ∧ (∀ h', h'.get? L = some oL → Heap.Ns h' L m) ∧ (∀ (sl : Array (Option Value)) h', h'.get? L = some { oL with slots := sl } → Heap.Ns h' L m) ∧
      h₀.StaysIn (hideAll s.heap (news.map (·.1))) ∧ Below A base (env :: outer) (hideAll s.heap (news.map (·.1))) := by
  have nm : ∀ b o, h₀.get? b = some o → b ∉ news.map (·.1) := fun b o e q => by
    obtain ⟨p, hp, rfl⟩ := List.mem_map.mp q
    rw [(N p hp).2.2] at e; cases e
  have st : h₀.StaysIn (hideAll s.heap (news.map (·.1))) := fun b o e => hideAll_get _ (F.keep b o e) (nm b o e)
  obtain ⟨oL, es, ep, hL, hLd, hLk, hLf⟩ := F.ns
  have nL : L ∉ news.map (·.1) := fun q => by
    obtain ⟨p, hp, e⟩ := List.mem_map.mp q
    exact (N p hp).2.1 e
  have hLg := hideAll_get (news.map (·.1)) hL nL
  have B₁ := frames_pushX B F hf hke
  exact ⟨oL, es, ep, hLg, hLd, fun h' e => ⟨oL, es, ep, e, hLd, hLk, hLf⟩, fun sl h' e => ⟨_, es, ep, e, hLd, hLk, hLf⟩, st, ⟨hA, fun b o e => st b o (B.stays b o e), funFrames_hideAll B₁ fun env' he b hb hf' => by
    rcases List.mem_cons.mp he with rfl | he
    · exact nL ((Option.some.inj (hf.symm.trans hf') : L = b) ▸ hb)
    · obtain ⟨L₁, o₁, hf₁, ho₁⟩ := funFrames_in B.frames env' he
      rw [hf₁] at hf'
      exact nm L₁ o₁ ho₁ ((Option.some.inj hf' : L₁ = b) ▸ hb)⟩⟩
theorem memX {b : Addr} (hf : env.frame = some L) (hm : b ∈ [env].filterMap (·.frame)) : b = L := by
  obtain ⟨e, he, h⟩ := List.mem_filterMap.mp hm
  rw [List.mem_singleton.mp he, hf] at h
  exact (Option.some.inj h).symm
theorem code_defX (B : Below A₀ base [] h₀) (F : Fr h₀ L s.heap m) (X₀ : K.In h₀) (N : News h₀ L s.heap news) (T : Top p loose mean mg mb h₀) (hA : A.frames = some [env]) (hf : env.frame = some L) (hke : env.scope.kind = .function)
    (ho : K.lookup f = some ⟨oc, od, .func (fnOf name qual params body scope dV kV doc pm an cdv ct), osl⟩) (hcd : codeIn K cdv qual = true) (hroom : A.depth < recursionLimit)
    (hbind : BindsTo s (fnOf name qual params body scope dV kV doc pm an cdv ct) args binds) (hloc : ∀ y ∈ binds, scope.names.lookup y.1 = some .local)
    (h : ∀ g L' h₁, Fr h₀ L g m → Fr g L' h₁ (fun y => binds.reverse.lookup y) → News g L' h₁ news → Below A base [env] g → K.In g → Top p loose mean mg mb g → KtsDicts ([env].filterMap (·.frame)) g →
      wpAny (model prog w) (A.deeper (envOf qual scope L' f cdv)) (execs body (envOf qual scope L' f cdv))
        (fun fl s' => LeaveS0 ([env].filterMap (·.frame)) h₀ L m g R (match fl with | .ret v => v | _ => .none) s')
        (fun e s' => wpAny (model prog w) (A.deeper (envOf qual scope L' f cdv)) (leaving (envOf qual scope L' f cdv) e) (fun _ s'' => R (.error e) s'') (fun e' s'' => R (.error e') s'') s')
        { s with heap := h₁, toks := s.toks + binds.length })
    (hco : scope.isCoroutine = false) (hgen : scope.isGenerator = false) (hk : scope.kind = .function)
    (hcell : ∀ x ∈ scope.names, x.2 ≠ .cell) : codeAny (model prog w) A (.call (.ref f) args) R s := by
  have X := X₀.keeps F.keep
  refine codeAny_call_def (fd := fnOf name qual params body scope dV kV doc pm an cdv ct) (body := body) (binds := binds) hroom (X _ _ ho) rfl (T.nolimit.keeps F.keep) (codeRec_of X hcd) rfl hbind hcell hloc (fun h₁ hns hk₁ => ?_) hco hgen hk
  obtain ⟨oL, es, ep, hLg, hLd, hN, hNs, st, B₂⟩ := enterX B F N hA hf hke
  refine wpAny_mono (h _ s.heap.objs.size h₁ ⟨hN _ hLg, st, F.above⟩ ⟨hns, fun b o e => hk₁ b o (of_hideAll _ e), Nat.le_of_eq (hideAll_size _ _)⟩
    (fun p hp => ⟨hk₁ _ _ (N p hp).1, Nat.ne_of_lt (Heap.lt_size (N p hp).1), hideAll_none _ (List.mem_map_of_mem hp)⟩) B₂ (X₀.keeps st) (T.keeps st) (fun b hb => by
      rw [memX hf hb]
      exact ⟨oL, es, ep, hLg, hLd⟩)) (fun fl s' hl => ?_) fun _ _ y => y
  obtain ⟨g', L', m', news', T', F', N', k⟩ := hl
  have nL₀ : h₀.get? L = none := kts_self F
  obtain ⟨sl, hs⟩ := T'.up hLg
  refine k ⟨hNs sl _ (F'.keep _ _ hs), fun b o e => F'.keep b o (T'.other b o (st b o e) (fun q => by
    rw [memX hf q, nL₀] at e
    cases e)), F.above⟩ fun p hp => ⟨(N' p hp).1, fun q => ?_, ?_⟩
  · have := (N' p hp).2.2; rw [q, hs] at this; cases this
  · cases q : h₀.get? p.1 with
    | none => rfl
    | some o =>
      obtain ⟨sl', hs'⟩ := T'.up (st _ _ q)
      have := (N' p hp).2.2
      rw [hs'] at this
      cases this
end
local macro_rules | `(tactic| walk_at "enterS") => `(tactic| (k_dflt (refine' code_defX ?k1 ?k2 ?k3 ?k4 ?k5 ?kA ?kF ?kK ?k6 ?k7 ?k8 ?k9 ?kB ?_ ?c2 ?c3 ?c4 ?c5; (case kA => exact rfl); (case kF => exact rfl); (case kK => assumption); (case k2 => k_asm); (case k1 => k_asm); (case k3 => k_asm); (case k4 => k_asm); (case k5 => k_asm); (case k6 => k_is); (case k7 => k_is); (case k8 => (show _ < recursionLimit; dsimp only [ktrTop]; omega)); (case k9 => exact BindsTo.of_eq rfl); (case kB => exact locs rfl); (case c2 => exact rfl); (case c3 => exact rfl); (case c4 => exact rfl); (case c5 => decide); k_whole; intro g' L' h' FG' F' N' B' X' T' D'; (try dsimp only); (try k_lift B'); (try k_fold); (try (refine letAE ?_; intro A' env')))))
local macro_rules | `(tactic| walk_at $s) => if ["exec While", "call builtin:iter", "call ref"].contains s.getString then `(tactic| refine hold ?_) else Lean.Macro.throwUnsupported
theorem stop_isExc : isSubtype (.type "StopIteration") (.type "BaseException") = pure true := by rw [isSubtype_type]; kernel_rfl
theorem stop_notTuple : isSubtype (.type ((Manifest.find? "StopIteration").elim "type" fun x => x.metatype)) (.type "tuple") = pure false := by
  rw [isSubtype_type]; kernel_rfl
theorem stop_self : isSubtype (.type "StopIteration") (.type "StopIteration") = pure true := by rw [isSubtype_type]; kernel_rfl
inductive Runs (ns : List Int) : Nat → List Int → Prop
  | nil {i : Nat} : ns[i]? = none → Runs ns i []
  | cons {i k : Nat} {ms : List Int} : k ≤ 8 → (∀ j, j < k → ∃ n, ns[i + j]? = some n ∧ Cont n) → (∃ n, ns[i + k]? = some n ∧ Last n) → Runs ns (i + (k + 1)) ms → Runs ns i (vrun ns i k :: ms)
set_option maxRecDepth 100000 in
set_option maxHeartbeats 8000000 in
theorem read_c {w : World} {news : Led} {l : Addr} {vs : List Value} {ns ms : List Int} {nn : Nat} (hI : IntsAre vs ns) (hl : (l, W.listOf vs.toArray nn) ∈ news) (hR : Runs ns 0 ms) (hm : ms.length ≤ 1000) :
    Claim0 w 162 [.ref l] 4 16 news (fun K => ∀ r rs nr, IntsAre rs ms → K (.ref r) ((r, W.listOf rs.toArray nr) :: news)) := by
  intro p loose mean mg mb dp un gd cn cs aa ccd cl A₀ base h₀ L m s Q E XB TB B F X N T hkk hdp hu hret
  obtain ⟨sh, sg, sd, sk, so⟩ := s
  dsimp only at F N hret ⊢
  refine wpAny_call ?_
  walk_at "enterS"
  k_steps
  refine ⟨?_⟩
  refine iter_list (by assumption) (by assumption) hl ?_
  intro I h1 io F1 N1 l1 hi
  k_steps
  refine ⟨?_⟩
  rename_i nl h3 l3 h4 N3 P3 hP3 tk3 m3 F3
  have hnI : nl ≠ I := Nat.ne_of_gt l3.1
  refine while_c (σ := Obj × List Value × Nat × List Int × Nat × List Int) (fun c => (nl, W.listOf c.2.1.toArray c.2.2.1) :: (I, c.1) :: news) (fun c => [(Str.ofString "numbers", .ref nl), (Str.ofString "left", .ref I)])
    (fun c => IntsAre c.2.1 c.2.2.2.1 ∧ Runs ns c.2.2.2.2.1 c.2.2.2.2.2 ∧ c.2.2.2.1 ++ c.2.2.2.2.2 = ms ∧ ItAt c.1 l c.2.2.2.2.1) (fun c => c.2.2.2.2.2.length) (io, [], 0, [], 0, ms) (by assumption) (by assumption) (all_cons rfl (all_cons rfl all_nil)) ⟨.nil, hR, rfl, hi⟩ ?_
  rintro ⟨io2, rs, nr, done, i, rest⟩ u h2 tk2 ⟨hrs, hR2, hms, hi2⟩ F2 N2
  dsimp only at hrs hR2 hms hi2 F2 N2 ⊢
  k_steps
  refine ⟨?_⟩
  cases hR2 with
  | nil hv =>
    have hv' : vs[i]? = none := by
      rw [List.getElem?_eq_none_iff] at hv ⊢
      rw [hI.length]; exact hv
    refine parse_end (news := (nl, _) :: news) hi2 (.tail _ hl) ?_ hv' _ _ _ _ _ _ _ _ _ _ _ _ _ _ _ _ _ _ _ _ _ _ (by k_asm) (by k_asm) (by k_asm) (drop_to (by assumption) (sub_cons (.tail _ (.head _)) (sub_cons (.head _) (sub_tail (sub_tail sub_refl))))) (by k_asm) rfl ?_ ?_ ?_
    · intro q hq
      rcases List.mem_cons.mp hq with rfl | hq
      · exact hnI
      · exact Nat.ne_of_lt (l1 q hq)
    · dsimp only [ktrTop, Around.deeper]; omega
    · dsimp only [ktrTop, Around.deeper]; omega
    intro g h' e t io' tk' FG R U
    obtain rfl : done = ms := by rw [← hms]; simp
    refine caught_S0 (T' := "StopIteration") (g₀ := _) R FG (by assumption) U XB TB (by assumption) KtsTurn.refl (by k_is) PyProof.Rows.Boot.«StopIteration» (by decide) stop_isExc stop_notTuple stop_self ?_
    intro h5 g5 n5 T5 F5 N5 G5 N6 B5 X5 P5 D5
    k_steps
    exact hret _ rs nr hrs _ _ (by assumption) (drop_to (by assumption) (sub_cons (.tail _ (.head _)) (sub_tail (sub_tail sub_refl))))
  | cons hk hc hz hR3 =>
    have hrl : rs.length ≤ 16777216 := by
      rw [hrs.length]
      have := congrArg List.length hms
      rw [List.length_append] at this
      omega
    refine Claim.use (parse_c (news := (nl, _) :: news) hI hi2 (.tail _ hl) ?_ hk hc hz) (by k_asm) (by k_asm) (by k_asm) (drop_to (by assumption) (sub_cons (.tail _ (.head _)) (sub_cons (.head _) (sub_tail (sub_tail sub_refl))))) (by k_asm) rfl ?_ ?_ ?_
    · intro q hq
      rcases List.mem_cons.mp hq with rfl | hq
      · exact hnI
      · exact Nat.ne_of_lt (l1 q hq)
    · dsimp only [ktrTop, Around.deeper]; omega
    · dsimp only [ktrTop, Around.deeper]; omega
    intro io3 t hi3 h3 tk3 F3 N3
    k_steps
    rename News _ _ _ _ => N4
    rw [List.push_toArray] at N4
    exact MEnd.mk' (_, _, _, _, _, _) (by assumption) (drop_to (by assumption) (sub_cons (.tail _ (.head _)) (sub_cons (.head _) (sub_tail (sub_tail sub_refl))))) (all_cons rfl (all_cons rfl all_nil)) ⟨⟨hrs.append (.cons _ t .nil), hR3, by rw [← hms]; simp, hi3⟩, by simp⟩
end Mine
end
section
namespace Mine
theorem rst_I1 : True := by
  w_top off
  trivial
open Builtin.Int (intBits)
/-- what _law_written has after so many places: the octets, the runs, the worth -/
structure Wr where
  oct : List Int
  runs : List Int
  worth : Int
noncomputable def wrStep (o : List Int) (i : Nat) (s : Wr) : Wr :=
  if i < 4 ∧ o.getD i 0 ≤ o.getD (i + 1) 0 then ⟨s.oct ++ [o.getD i 0 + 1 + 64], s.runs, s.worth * 64 + (o.getD i 0 + 1)⟩
  else ⟨s.oct ++ [o.getD i 0 + 1], s.runs ++ [s.worth * 64 + (o.getD i 0 + 1)], 0⟩
noncomputable def wrAt (o : List Int) : Nat → Wr
  | 0 => ⟨[], [], 0⟩
  | i + 1 => wrStep o i (wrAt o i)
theorem wrAt_worth {o : List Int} (h : ∀ i, 0 ≤ o.getD i 0 ∧ o.getD i 0 ≤ 2) : ∀ i, 0 ≤ (wrAt o i).worth ∧ (wrAt o i).worth < 64 ^ i
  | 0 => ⟨Int.le_refl _, by show (0 : Int) < 1; decide⟩
  | i + 1 => by
    have ih := wrAt_worth h i
    have hi := h i
    rw [Int.pow_succ]
    show 0 ≤ (wrStep o i (wrAt o i)).worth ∧ (wrStep o i (wrAt o i)).worth < _
    unfold wrStep
    split <;> dsimp only <;> omega
theorem wrAt_bits {o : List Int} (h : ∀ i, 0 ≤ o.getD i 0 ∧ o.getD i 0 ≤ 2) {i : Nat} (hi : i ≤ 8) : intBits (wrAt o i).worth ≤ 64 := by
  have h1 := wrAt_worth h i
  refine Nat.le_trans (bits_of_lt (k := 6 * i) h1.1 ?_) (by omega)
  rw [Int.pow_mul]
  exact h1.2
theorem wrAt_len (o : List Int) : ∀ i, (wrAt o i).oct.length = i ∧ (wrAt o i).runs.length ≤ i
  | 0 => ⟨rfl, Nat.le_refl _⟩
  | i + 1 => by
    have ih := wrAt_len o i
    show (wrStep o i (wrAt o i)).oct.length = i + 1 ∧ (wrStep o i (wrAt o i)).runs.length ≤ i + 1
    unfold wrStep
    split <;> simp <;> omega
local macro_rules | `(tactic| walk_at $s) => if ["exec For", "exec For Name Name cons nil", "exec For Name Call cons nil"].contains s.getString then `(tactic| (k_here; (rename Fr _ _ _ _ => lF'); (with_unfolding_all refine' For_invVF lF' ?k1 ?k2 ?_; (case k1 => exact rfl); (case k2 => exact rfl); k_whole))) else Lean.Macro.throwUnsupported
local macro_rules | `(tactic| walk_at $s) => if ["pyIter ref", "call builtin:list.append"].contains s.getString then `(tactic| refine hold ?_) else Lean.Macro.throwUnsupported
set_option maxRecDepth 100000 in
set_option maxHeartbeats 8000000 in
theorem written_c {w : World} {news : Led} {l : Addr} {vs : List Value} {o : List Int} {nn : Nat} (hI : IntsAre vs o) (h5 : o.length = 5) (h02 : ∀ i, 0 ≤ o.getD i 0 ∧ o.getD i 0 ≤ 2) :
    Claim w 155 [.ref l] 1 8 ((l, W.listOf vs.toArray nn) :: news)
      (fun K => ∀ t a b os rs na nb, IntsAre os (wrAt o 5).oct → IntsAre rs (wrAt o 5).runs → K (.ref t) ((t, tupOf [.ref a, .ref b]) :: (a, W.listOf os.toArray na) :: (b, W.listOf rs.toArray nb) :: (l, W.listOf vs.toArray nn) :: news)) := by
  intro p loose mean mg mb dp un gd cn cs aa ccd cl outer A₀ base h₀ L m s Q E B F X N T hkk hdp hu hret
  obtain ⟨sh, sg, sd, sk, so⟩ := s
  dsimp only at F N hret ⊢
  refine wpAny_call ?_
  k_dflt cell_enter
  k_steps
  refine ⟨?_⟩
  rename_i ol _ l1 _ _ _ _ _ rl _ l2 _ _ _ _ _ _ _ _ _ _ _ _ _ _ _ _ _ _ _ _ _
  refine for_range (σ := List Value × Nat × List Value × Nat × Int × Tok) (n := 5) (fun _ c => (rl, W.listOf c.2.2.1.toArray c.2.2.2.1) :: (ol, W.listOf c.1.toArray c.2.1) :: (l, W.listOf vs.toArray nn) :: news)
    (fun _ c => [(Str.ofString "octets", .ref ol), (Str.ofString "runs", .ref rl), (Str.ofString "worth", .int c.2.2.2.2.1 c.2.2.2.2.2), (Str.ofString "order", .ref l)])
    (fun i c => IntsAre c.1 (wrAt o i).oct ∧ IntsAre c.2.2.1 (wrAt o i).runs ∧ c.2.2.2.2.1 = (wrAt o i).worth) ([], _, [], _, _, _) rfl (by assumption) (by decide) (by decide) (by assumption) (by assumption) (all_cons rfl (all_cons rfl (all_cons rfl (all_cons rfl all_nil))))
    (fun _ _ => all_cons (show Str.ofString "octets" ≠ Str.ofString "place" by decide) (all_cons (show Str.ofString "runs" ≠ Str.ofString "place" by decide) (all_cons (show Str.ofString "worth" ≠ Str.ofString "place" by decide) (all_cons (show Str.ofString "order" ≠ Str.ofString "place" by decide) (all_nil))))) ⟨.nil, .nil, rfl⟩ ?_ ?_
  · rintro i t0 ⟨os, na, rs, nb, wo, tw⟩ I it u h2 tk2 hi ⟨hos, hrs, hwo⟩ hoff F2 N2
    dsimp only at hos hrs hwo F2 N2 ⊢
    rw [Int.zero_add] at F2
    have zw : intBits wo ≤ 64 := by rw [hwo]; exact wrAt_bits h02 (by omega)
    have zo : os.length ≤ 16777216 := by rw [hos.length, (wrAt_len o i).1]; omega
    have zr : rs.length ≤ 16777216 := by rw [hrs.length]; have := (wrAt_len o i).2; omega
    have n1 : rl ≠ I := hoff _ (.head _)
    have n2 : ol ≠ I := hoff _ (.tail _ (.head _))
    have n3 : rl ≠ ol := Nat.ne_of_gt l2.1
    have n4 : ∀ p ∈ (l, W.listOf vs.toArray nn) :: news, p.1 ≠ ol := cons_ne (Nat.ne_of_lt l1.1) (tbn_neAll l1.2)
    have n5 : ∀ (x : Obj), ∀ p ∈ (ol, x) :: (l, W.listOf vs.toArray nn) :: news, p.1 ≠ rl := fun x => cons_ne (Nat.ne_of_lt l2.1) (cons_ne (Nat.ne_of_lt l2.2.1) (tbn_neAll l2.2.2))
    have hoff2 : ∀ x y, ∀ p ∈ (rl, x) :: (ol, y) :: (l, W.listOf vs.toArray nn) :: news, p.1 ≠ I := fun x y => cons_ne n1 (cons_ne n2 fun p hp => hoff p (.tail _ (.tail _ hp)))
    have e1 : ((i : Int)).toNat = i := Int.toNat_natCast i
    have e2 : ((i : Int) + 1).toNat = i + 1 := by omega
    k_steps
    all_goals (try rw [e2] at *)
    all_goals (try rw [e1] at *)
    · refine ⟨?_⟩
      rename Fr _ _ _ _ => F9
      rename News _ _ _ _ => N9
      refine append_K F9 N9 (Upd.tail (p := (I, it)) (Ne.symm n2) (Upd.tail (p := (rl, _)) n3 (Upd.head n4))) ?_ (by exact zo)
      intro h4 F4 N4
      rw [List.push_toArray] at N4
      have hw : wrAt o (i + 1) = wrStep o i (wrAt o i) := rfl
      unfold wrStep at hw
      k_steps
      rw [if_pos ⟨by omega, by assumption⟩] at hw
      refine FEnd.mk' (_, _, _, _, _, _) (by assumption) (by assumption) (hoff2 _ _) (all_cons rfl (all_cons rfl (all_cons rfl (all_cons rfl all_nil)))) ?_
      rw [hw, hwo]
      exact ⟨hos.append (.cons _ _ .nil), hrs, rfl⟩
    · refine ⟨?_⟩
      rename Fr _ _ _ _ => F9
      rename News _ _ _ _ => N9
      refine append_K F9 N9 (Upd.tail (p := (I, it)) (Ne.symm n2) (Upd.tail (p := (rl, _)) n3 (Upd.head n4))) ?_ (by exact zo)
      intro h4 F4 N4
      rw [List.push_toArray] at N4
      k_steps
      refine ⟨?_⟩
      rename Fr _ _ _ _ => F9
      rename News _ _ _ _ => N9
      refine append_K F9 N9 (Upd.tail (p := (I, it)) (Ne.symm n1) (Upd.head (n5 _))) ?_ (by exact zr)
      intro h5 F5 N5
      rw [List.push_toArray] at N5
      have hw : wrAt o (i + 1) = wrStep o i (wrAt o i) := rfl
      unfold wrStep at hw
      k_steps
      rw [if_neg (fun q => absurd q.2 (by assumption))] at hw
      refine FEnd.mk' (_, _, _, _, _, _) (by assumption) (by assumption) (hoff2 _ _) (all_cons rfl (all_cons rfl (all_cons rfl (all_cons rfl all_nil)))) ?_
      rw [hw, hwo]
      exact ⟨hos.append (.cons _ _ .nil), hrs.append (.cons _ _ .nil), rfl⟩
    · refine ⟨?_⟩
      rename Fr _ _ _ _ => F9
      rename News _ _ _ _ => N9
      refine append_K F9 N9 (Upd.tail (p := (I, it)) (Ne.symm n2) (Upd.tail (p := (rl, _)) n3 (Upd.head n4))) ?_ (by exact zo)
      intro h4 F4 N4
      rw [List.push_toArray] at N4
      k_steps
      refine ⟨?_⟩
      rename Fr _ _ _ _ => F9
      rename News _ _ _ _ => N9
      refine append_K F9 N9 (Upd.tail (p := (I, it)) (Ne.symm n1) (Upd.head (n5 _))) ?_ (by exact zr)
      intro h5 F5 N5
      rw [List.push_toArray] at N5
      have hw : wrAt o (i + 1) = wrStep o i (wrAt o i) := rfl
      unfold wrStep at hw
      k_steps
      rw [if_neg (fun q => absurd q.1 (by omega))] at hw
      refine FEnd.mk' (_, _, _, _, _, _) (by assumption) (by assumption) (hoff2 _ _) (all_cons rfl (all_cons rfl (all_cons rfl (all_cons rfl all_nil)))) ?_
      rw [hw, hwo]
      exact ⟨hos.append (.cons _ _ .nil), hrs.append (.cons _ _ .nil), rfl⟩
  · rintro ⟨os, na, rs, nb, wo, tw⟩ u h2 tk2 ⟨hos, hrs, hwo⟩ F2 N2
    dsimp only at hos hrs hwo F2 N2 ⊢
    k_steps
    exact hret _ _ _ _ _ _ _ hos hrs _ _ (by assumption) (drop_to (by assumption) (sub_cons (.head _) (sub_cons (.tail _ (.tail _ (.head _))) (sub_cons (.tail _ (.head _)) (sub_tail (sub_tail (sub_tail sub_refl)))))))
end Mine
end
section
namespace Mine
theorem rst_J1 : True := by
  w_top off
  trivial
open Builtin.Int (intBits)
theorem ne_of_cls {h₀ h : Heap} {L : Addr} {led : Led} {a b : Addr} {o o' : Obj} (N : News h₀ L h led) (h1 : (a, o) ∈ led) (h2 : (b, o') ∈ led) {x y : String} (hx : o.cls = .type x) (hy : o'.cls = .type y) (hc : x ≠ y) : @Ne Nat a b := fun e => by
  have e1 := (N _ h1).1
  have e2 := (N _ h2).1
  dsimp only at e1 e2
  have e3 : a = b := e
  rw [e3, e2] at e1
  rw [← Option.some.inj e1, hy] at hx
  exact hc (Value.type.inj hx).symm
theorem rep_flat {α : Type} (k : Nat) (v : α) : (List.replicate k [v]).flatten = List.replicate k v := by
  induction k with
  | zero => rfl
  | succ k ih => rw [List.replicate_succ, List.flatten_cons, ih, List.replicate_succ]; rfl
theorem ints_eq {ws : List Value} {ns ns' : List Int} (h : IntsAre ws ns) (e : ns = ns') : IntsAre ws ns' := e ▸ h
/-- a Whitespace's dict -/
noncomputable abbrev whiteObj (w : World) (t1 t2 t3 t4 t5 tn tnt : Tok) (y : Str) (ty : Tok) (n nt : Nat) (D : Addr) (sm : Bool) : Obj :=
  dictOf [{ hash := PyData.keyHash w.params (Str.ofString "raw"), key := .str (Str.ofString "raw") t1, val := .str y ty },
    { hash := PyData.keyHash w.params (Str.ofString "n"), key := .str (Str.ofString "n") t2, val := .int n tn },
    { hash := PyData.keyHash w.params (Str.ofString "nt"), key := .str (Str.ofString "nt") t3, val := .int nt tnt },
    { hash := PyData.keyHash w.params (Str.ofString "norm"), key := .str (Str.ofString "norm") t4, val := .ref D },
    { hash := PyData.keyHash w.params (Str.ofString "is_simple"), key := .str (Str.ofString "is_simple") t5, val := .bool sm }] 5
/-- where Whitespace's loop stands -/
structure Ws where
  count : List Int
  b : Nat
  n : Nat
  nt : Nat
noncomputable def bump (c : List Int) (b : Nat) : List Int :=
  if c.length ≤ b then (c ++ List.replicate (b - c.length + 1) 0).set b ((c ++ List.replicate (b - c.length + 1) 0).getD b 0 + 1) else c.set b (c.getD b 0 + 1)
noncomputable def wsStep (s : Ws) (k : Nat) : Ws := if k = 32 then ⟨s.count, s.b + 1, s.n + 1, s.nt⟩ else ⟨bump s.count s.b, 0, s.n + 1, s.nt + 1⟩
noncomputable def wsAt (body : List Nat) (i : Nat) : Ws := (body.take i).foldl wsStep ⟨[], 0, 0, 0⟩
theorem wsAt_succ {body : List Nat} {i k : Nat} (h : body[i]? = some k) : wsAt body (i + 1) = wsStep (wsAt body i) k := by
  unfold wsAt
  rw [List.take_add_one, h]
  simp
theorem bump_len (c : List Int) (b : Nat) : (bump c b).length ≤ max c.length (b + 1) := by
  unfold bump
  split <;> simp <;> omega
theorem wsAt_le (body : List Nat) : ∀ i, (wsAt body i).b ≤ i ∧ (wsAt body i).n ≤ i ∧ (wsAt body i).nt ≤ i ∧ (wsAt body i).count.length ≤ i
  | 0 => ⟨Nat.le_refl _, Nat.le_refl _, Nat.le_refl _, Nat.le_refl _⟩
  | i + 1 => by
    have ih := wsAt_le body i
    cases h : body[i]? with
    | none =>
      have e : wsAt body (i + 1) = wsAt body i := by unfold wsAt; rw [List.take_add_one, h]; simp
      rw [e]; omega
    | some k =>
      rw [wsAt_succ h]
      unfold wsStep
      have := bump_len (wsAt body i).count (wsAt body i).b
      split <;> dsimp only <;> omega
local macro_rules | `(tactic| walk_at "enterD") => `(tactic| (k_dflt (refine' code_def ?k1 ?k2 ?k3 ?k4 ?k5 ?kA ?kF ?kK ?k6 ?k7 ?k8 ?k9 ?kB ?_ ?c2 ?c3 ?c4 ?c5; (case kA => exact rfl); (case kF => exact rfl); (case kK => assumption); (case k1 => k_asm); (case k2 => k_asm); (case k3 => k_asm); (case k4 => k_asm); (case k5 => k_asm); (case k6 => k_is); (case k7 => k_is); (case k8 => (show _ < recursionLimit; (try simp only [depth_under_make, depth_under_kw, depth_in1, depth_deeper, depth_caller]); (try dsimp only [ktrTop]); omega)); (case k9 => exact BindsTo.of_eq rfl); (case kB => exact locs rfl); (case c2 => exact rfl); (case c3 => exact rfl); (case c4 => exact rfl); (case c5 => decide); k_whole; intro g' L' h' FG' F' N' B' X' T'; (try dsimp only); (try k_lift B'); (try k_fold); (try (refine letAE ?_; intro A' env')))))
local macro_rules | `(tactic| walk_at $s) => if ["exec For", "exec For Name Attribute cons nil"].contains s.getString then `(tactic| (k_here; (rename Fr _ _ _ _ => lF'); (with_unfolding_all refine' For_invVF lF' ?k1 ?k2 ?_; (case k1 => exact rfl); (case k2 => exact rfl); k_whole))) else Lean.Macro.throwUnsupported
local macro_rules | `(tactic| walk_at $s) => if ["pyIter str"].contains s.getString then `(tactic| refine hold ?_) else Lean.Macro.throwUnsupported
/-- where the loop stands -/
structure WSt where
  tr : Tok
  q : Addr
  cvs : List Value
  cnn : Nat
  tb : Tok
  tn : Tok
  tnt : Tok
set_option maxRecDepth 100000 in
set_option maxHeartbeats 8000000 in
theorem white_c {w : World} {news : Led} {y : Str} {ty : Tok} {body : List Nat} (hy : y.cps = (body ++ [120]).toArray) (hb : ∀ k ∈ body, k = 32 ∨ k = 9) (hlen : body.length ≤ 10000) :
    Claim w 139 [.str y ty] 4 16 news
      (fun K => ∀ x dx D C t1 t2 t3 t4 t5 tn tnt tb sm cvs, IntsAre cvs (wsAt body body.length).count → K (.ref x) ((x, instObj 139 dx) :: (dx, whiteObj w t1 t2 t3 t4 t5 tn tnt y ty (wsAt body body.length).n (wsAt body body.length).nt D sm) :: (D, tupOf [.ref C, .int (wsAt body body.length).b tb]) :: (C, { cls := .type "tuple", data := .seq cvs.toArray }) :: news)) := by
  intro p loose mean mg mb dp un gd cn cs aa ccd cl outer A₀ base h₀ L m s Q E B F X N T hkk hdp hu hret
  obtain ⟨sh, sg, sd, sk, so⟩ := s
  dsimp only at F N hret ⊢
  refine call_cls (fI := 94) (by k_asm) (by k_asm) (by k_asm) (by k_is) (by k_is) (by k_is) ?_
  intro x dx h1 F1 N1 l1 l2
  (try k_lt l1)
  (try k_lt2 l2)
  have l0 : @LT.lt Nat _ dx x := by assumption
  walk_at "enterD"
  k_steps
  refine ⟨?_⟩
  rename _ ∧ @LT.lt Nat _ x _ ∧ _ => lc
  refine for_str (σ := WSt) (y := y)
    (fun i c => (c.q, W.listOf c.cvs.toArray c.cnn) :: (x, instObj 139 dx) :: (dx, dictOf [{ hash := PyData.keyHash w.params (Str.ofString "raw"), key := .str (Str.ofString "raw") c.tr, val := .str y ty }] 1) :: news)
    (fun i c => [(Str.ofString "count", .ref c.q), (Str.ofString "b", .int (wsAt body i).b c.tb), (Str.ofString "n", .int (wsAt body i).n c.tn), (Str.ofString "nt", .int (wsAt body i).nt c.tnt), (Str.ofString "S", .str (Str.ofString " ") 318), (Str.ofString "T", .str (Str.ofString "\t") 319), (Str.ofString "self", .ref x)])
    (fun i c => i ≤ body.length ∧ IntsAre c.cvs (wsAt body i).count ∧ @LT.lt Nat _ x c.q ∧ @LT.lt Nat _ dx c.q ∧ AllLt c.q news) (WSt.mk _ _ [] _ _ _ _) rfl (by assumption) (drop_to (by assumption) (sub_cons (.head _) (sub_cons (.tail _ (.tail _ (.head _))) (sub_cons (.tail _ (.tail _ (.tail _ (.head _)))) (sub_tail (sub_tail (sub_tail (sub_tail sub_refl)))))))) (all_cons rfl (all_cons rfl (all_cons rfl (all_cons rfl (all_cons rfl (all_cons rfl (all_cons rfl all_nil)))))))
    (fun _ _ => all_cons (show Str.ofString "count" ≠ Str.ofString "ch" by decide) (all_cons (show Str.ofString "b" ≠ Str.ofString "ch" by decide) (all_cons (show Str.ofString "n" ≠ Str.ofString "ch" by decide) (all_cons (show Str.ofString "nt" ≠ Str.ofString "ch" by decide) (all_cons (show Str.ofString "S" ≠ Str.ofString "ch" by decide) (all_cons (show Str.ofString "T" ≠ Str.ofString "ch" by decide) (all_cons (show Str.ofString "self" ≠ Str.ofString "ch" by decide) (all_nil)))))))) ⟨Nat.zero_le _, .nil, lc.2.1, lc.2.2.1, lc.2.2.2⟩ ?_ ?_
  · rintro i k t ⟨tr, q, cvs, cnn, tb, tn, tnt⟩ I it u h2 tk2 hk ⟨hi, hcv, hqx, hqd, hqn⟩ hoff F2 N2
    dsimp only at hcv hqx hqd hqn F2 N2 hoff ⊢
    have hk3 : (body[i]? = some 32 ∧ k = 32) ∨ (body[i]? = some 9 ∧ k = 9) ∨ (body.length = i ∧ k = 120) := by
      rw [hy] at hk
      rcases Nat.lt_or_ge i body.length with h | h
      · have e : body[i]? = some k := by
          rw [List.getElem?_toArray, List.getElem?_append_left h] at hk; exact hk
        rcases hb k (List.mem_of_getElem? e) with rfl | rfl
        · exact .inl ⟨e, rfl⟩
        · exact .inr (.inl ⟨e, rfl⟩)
      · have e : body.length = i := by omega
        subst e
        rw [List.getElem?_toArray] at hk
        simp at hk
        exact .inr (.inr ⟨rfl, hk.symm⟩)
    have hle := wsAt_le body i
    have hcl : cvs.length ≤ 16777216 := by rw [hcv.length]; omega
    have hcl2 : cvs.length = (wsAt body i).count.length := hcv.length
    have hqI : @Ne Nat q I := hoff _ (.head _)
    have hxI : @Ne Nat x I := hoff _ (.tail _ (.head _))
    have hdI : @Ne Nat dx I := hoff _ (.tail _ (.tail _ (.head _)))
    have hqx' : @LT.lt Nat _ x q := hqx
    have hqd' : @LT.lt Nat _ dx q := hqd
    clear hqx hqd
    have hoff2 : ∀ z, ∀ p ∈ (q, z) :: (x, instObj 139 dx) :: (dx, dictOf [{ hash := PyData.keyHash w.params (Str.ofString "raw"), key := .str (Str.ofString "raw") tr, val := .str y ty }] 1) :: news, p.1 ≠ I := fun z => cons_ne hqI fun p hp => hoff p (.tail _ hp)
    rcases hk3 with ⟨e, rfl⟩ | ⟨e, rfl⟩ | ⟨e, rfl⟩
    · have hw := wsAt_succ e
      have hw2 : wsStep (wsAt body i) 32 = ⟨(wsAt body i).count, (wsAt body i).b + 1, (wsAt body i).n + 1, (wsAt body i).nt⟩ := rfl
      k_steps
      refine FEnd.mk' (WSt.mk _ _ _ _ _ _ _) (by assumption) (by assumption) hoff (by rw [hw, hw2]; exact (all_cons rfl (all_cons rfl (all_cons rfl (all_cons rfl (all_cons rfl (all_cons rfl (all_cons rfl all_nil)))))))) ?_
      rw [hw, hw2]
      exact ⟨by have := (List.getElem?_eq_some_iff.mp e).1; omega, hcv, hqx', hqd', hqn⟩
    · have hw := wsAt_succ e
      have hw2 : wsStep (wsAt body i) 9 = ⟨bump (wsAt body i).count (wsAt body i).b, 0, (wsAt body i).n + 1, (wsAt body i).nt + 1⟩ := rfl
      have e1 : (((wsAt body i).b : Nat) : Int).toNat = (wsAt body i).b := Int.toNat_natCast _
      have hil := (List.getElem?_eq_some_iff.mp e).1
      k_steps
      · rename IntsAre (List.set _ _ _) _ => hi9
        rename _ ∧ _ ∧ _ ∧ _ ∧ _ ∧ _ ∧ AllLt _ news => lD
        rename Fr _ _ _ _ => F9
        rename News _ _ _ _ => N9
        have hn : (wsAt body i).count.length ≤ (wsAt body i).b := by omega
        have e2 : (((wsAt body i).b : Int) - ((wsAt body i).count.length : Int) + 1).toNat = (wsAt body i).b - (wsAt body i).count.length + 1 := by omega
        have hbp : bump (wsAt body i).count (wsAt body i).b = ((wsAt body i).count ++ List.replicate ((wsAt body i).b - (wsAt body i).count.length + 1) 0).set (wsAt body i).b (((wsAt body i).count ++ List.replicate ((wsAt body i).b - (wsAt body i).count.length + 1) 0).getD (wsAt body i).b 0 + 1) := if_pos hn
        refine FEnd.mk' (WSt.mk tr _ _ 0 _ _ _) F9 (drop_to N9 (sub_cons (.tail _ (.tail _ (.tail _ (.head _)))) (sub_cons (.head _) (sub_cons (.tail _ (.tail _ (.tail _ (.tail _ (.tail _ (.head _)))))) (sub_cons (.tail _ (.tail _ (.tail _ (.tail _ (.tail _ (.tail _ (.head _))))))) (sub_tail (sub_tail (sub_tail (sub_tail (sub_tail (sub_tail (sub_tail sub_refl)))))))))))) (cons_ne (Nat.ne_of_gt lD.2.2.1) fun p hp => hoff p (.tail _ hp)) (by rw [hw, hw2]; exact (all_cons rfl (all_cons rfl (all_cons rfl (all_cons rfl (all_cons rfl (all_cons rfl (all_cons rfl all_nil)))))))) ?_
        rw [hw, hw2]
        exact ⟨hil, ints_eq hi9 (by rw [e1, e2, rep_flat, hbp]), lD.2.2.2.2.1, lD.2.2.2.2.2.1, lD.2.2.2.2.2.2⟩
      · rename IntsAre (List.set _ _ _) _ => hi9
        have hn : ¬ (wsAt body i).count.length ≤ (wsAt body i).b := by omega
        have hbp : bump (wsAt body i).count (wsAt body i).b = (wsAt body i).count.set (wsAt body i).b ((wsAt body i).count.getD (wsAt body i).b 0 + 1) := if_neg hn
        rename Fr _ _ _ _ => F9
        rename News _ _ _ _ => N9
        refine FEnd.mk' (WSt.mk tr q _ cnn _ _ _) F9 N9 (hoff2 _) (by rw [hw, hw2]; exact (all_cons rfl (all_cons rfl (all_cons rfl (all_cons rfl (all_cons rfl (all_cons rfl (all_cons rfl all_nil)))))))) ?_
        rw [hw, hw2]
        exact ⟨hil, ints_eq hi9 (by rw [e1, hbp]), hqx', hqd', hqn⟩
    · k_steps
      rename News _ _ _ _ => N9
      have nD := ne_of_cls N9 (.tail _ (.head _)) (.tail _ (.tail _ (.tail _ (.tail _ (.tail _ (.head _)))))) rfl rfl (by decide)
      have N8 := N9
      clear N9
      dsimp only
      k_steps
      subst e
      exact hret _ _ _ _ _ _ _ _ _ _ _ _ _ _ hcv _ _ (by assumption) (drop_to (by assumption) (sub_cons (.tail _ (.tail _ (.tail _ (.tail _ (.head _))))) (sub_cons (.tail _ (.tail _ (.tail _ (.tail _ (.tail _ (.head _)))))) (sub_cons (.head _) (sub_cons (.tail _ (.head _)) (sub_tail (sub_tail (sub_tail (sub_tail (sub_tail (sub_tail sub_refl)))))))))))
  · rintro ⟨q, cvs, cnn, tb, tn, tnt⟩ u h2 tk2 ⟨hi, _⟩ F2 N2
    rw [hy] at hi
    simp at hi
    omega
end Mine
end
section
namespace Mine
theorem rst_J2 : True := by
  w_top off
  trivial
open Builtin.Int (intBits)
noncomputable def ilAt (c : List Int) : Nat → Int
  | 0 => 0
  | i + 1 => ilAt c i + (1 + (i : Int)) * c.getD (i + 1) 0
local macro_rules | `(tactic| walk_at $s) => if ["exec For", "exec For Name Call cons nil"].contains s.getString then `(tactic| (k_here; (rename Fr _ _ _ _ => lF'); (with_unfolding_all refine' For_invVF lF' ?k1 ?k2 ?_; (case k1 => exact rfl); (case k2 => exact rfl); k_whole))) else Lean.Macro.throwUnsupported
local macro_rules | `(tactic| walk_at $s) => if ["call builtin:len", "pyIter ref"].contains s.getString then `(tactic| refine hold ?_) else Lean.Macro.throwUnsupported
set_option maxRecDepth 100000 in
set_option maxHeartbeats 8000000 in
theorem indent_c {w : World} {news : Led} {x dx D C : Addr} {t1 t2 t3 t4 t5 tn tnt tb to : Tok} {sm : Bool} {y : Str} {ty : Tok} {n nt b : Nat} {cvs : List Value} {c : List Int}
    (hI : IntsAre cvs c) (hl : c.length ≤ 10000) (hz : ∀ i, intBits (c.getD i 0) ≤ 64) :
    Claim w 108 [.ref x, .int 1 to] 2 8 ((x, instObj 139 dx) :: (dx, whiteObj w t1 t2 t3 t4 t5 tn tnt y ty n nt D sm) :: (D, tupOf [.ref C, .int b tb]) :: (C, { cls := .type "tuple", data := .seq cvs.toArray }) :: news)
      (fun K => ∀ t, K (.int (b + (ilAt c (c.length - 1) + nt)) t) ((x, instObj 139 dx) :: (dx, whiteObj w t1 t2 t3 t4 t5 tn tnt y ty n nt D sm) :: (D, tupOf [.ref C, .int b tb]) :: (C, { cls := .type "tuple", data := .seq cvs.toArray }) :: news)) := by
  intro p loose mean mg mb dp un gd cn cs aa ccd cl outer A₀ base h₀ L m s Q E B F X N T hkk hdp hu hret
  obtain ⟨sh, sg, sd, sk, so⟩ := s
  dsimp only at F N hret ⊢
  have hcl2 : cvs.length = c.length := hI.length
  have hcl : cvs.length ≤ 16777216 := by omega
  refine wpAny_call ?_
  k_dflt cell_enter
  k_steps
  refine ⟨?_⟩
  rename News _ _ _ _ => N9
  refine PyProof.Rows.len_tuple (News.isTup N9 (.tail _ (.tail _ (.tail _ (.head _))))) (by show ((cvs.length : Nat) : Int) < 2 ^ 63; omega) ?_
  rw [show cvs.toArray.size = c.length from by simpa using hcl2]
  k_steps
  refine ⟨?_⟩
  refine for_range (σ := Int × Tok) (n := c.length - 1) (fun _ _ => (x, instObj 139 dx) :: (dx, whiteObj w t1 t2 t3 t4 t5 tn tnt y ty n nt D sm) :: (D, tupOf [.ref C, .int b tb]) :: (C, { cls := .type "tuple", data := .seq cvs.toArray }) :: news)
    (fun _ c => [(Str.ofString "il", .int c.1 c.2), (Str.ofString "trailing", .int b tb), (Str.ofString "count", .ref C), (Str.ofString "self", .ref x), (Str.ofString "tabsize", .int 1 to)])
    (fun i p => p.1 = ilAt c i) (_, _) rfl (by assumption) (small_one (by omega) (by omega) (by omega) (by omega)) (by rw [rangeSize_one]; split <;> omega) (by assumption) (by assumption) (all_cons rfl (all_cons rfl (all_cons rfl (all_cons rfl (all_cons rfl all_nil)))))
    (fun _ _ => all_cons (show Str.ofString "il" ≠ Str.ofString "i" by decide) (all_cons (show Str.ofString "trailing" ≠ Str.ofString "i" by decide) (all_cons (show Str.ofString "count" ≠ Str.ofString "i" by decide) (all_cons (show Str.ofString "self" ≠ Str.ofString "i" by decide) (all_cons (show Str.ofString "tabsize" ≠ Str.ofString "i" by decide) (all_nil)))))) rfl ?_ ?_
  · rintro i t0 ⟨il, ti⟩ I it u h2 tk2 hi hil hoff F2 N2
    dsimp only at hil F2 N2 ⊢
    have hx : c[i + 1]? = some (c.getD (i + 1) 0) := by
      rw [List.getD_eq_getElem?_getD, List.getElem?_eq_getElem (by omega)]; rfl
    obtain ⟨tx, hx⟩ := hI.get _ _ hx
    have hzi := hz (i + 1)
    k_steps
    refine FEnd.mk' (_, _) (by assumption) (by assumption) hoff (all_cons rfl (all_cons rfl (all_cons rfl (all_cons rfl (all_cons rfl all_nil))))) ?_
    rw [hil]
    show ilAt c i + (1 + (i : Int)).fdiv 1 * c.getD (1 + (i : Int)).toNat 0 = ilAt c i + (1 + (i : Int)) * c.getD (i + 1) 0
    rw [Int.fdiv_one, show (1 + (i : Int)).toNat = i + 1 from by omega]
  · rintro ⟨il, ti⟩ u h2 tk2 hil F2 N2
    dsimp only at hil F2 N2 ⊢
    subst hil
    k_steps
    rw [Int.one_mul]
    exact hret _ _ _ (by assumption) (by assumption)
end Mine
end
section
namespace Mine
theorem rst_K1 : True := by
  w_top off
  trivial
open Builtin.Int (intBits)
open PySem.Builtin PySem.Builtin.Str in
noncomputable def find4 (x y : Str) (i j : Int) : Int := match occurrences x y (fromIndex x.length i) (min (fromIndex x.length j) x.length) 1 with | k :: _ => (k : Int) | [] => -1
open PySem.Builtin PySem.Builtin.Str PySem.Spec in
theorem gives_find4 (x y : Str) (i j : Int) (t u v v' : Tok) : Gives («str.find» ⟨[.str x t, .str y u, .int i v, .int j v'], []⟩) (.int (find4 x y i j)) := by
  show Gives (match occurrences x y (fromIndex x.length i) (min (fromIndex x.length j) x.length) 1 with | k :: _ => retInt k | [] => (do rule "str.find.not-found"; retInt (-1))) _
  unfold find4
  cases occurrences x y (fromIndex x.length i) (min (fromIndex x.length j) x.length) 1 with
  | nil => exact .rule (.of_eq rfl)
  | cons k _ => exact .of_eq rfl
theorem str_find4 {prog : Program} {w : World} {A : Around} {E : Value → Shared → Prop} {s : Shared} {x y : Str} {t u v v' : Tok} {i j : Int} {Q : Value → Shared → Prop} (hq : Q (.int (find4 x y i j) s.toks) { s with toks := s.toks + 1 }) :
    wpAny (model prog w) A (call (.builtin "str.find") [.str x t, .str y u, .int i v, .int j v']) Q E s :=
  call_gives F.slot_str_find (typeIs_str _ _ _) F.entry_str_find (F.args_str_find_4 _ _ _ _) (gives_find4 x y i j t u v v') hq
theorem strs_app : ∀ {vs ws : List Value} {xs ys : List Str}, StrsAre vs xs → StrsAre ws ys → StrsAre (vs ++ ws) (xs ++ ys)
  | _, _, _, _, .nil, h => h
  | _, _, _, _, .cons y t r, h => .cons y t (strs_app r h)
/-- the loop of _ellipsis_match from the place p on -/
noncomputable def emRun (got : Str) : List Str → Int → Bool
  | [], _ => true
  | w :: r, p => if find4 got w p got.length < 0 then false else emRun got r (find4 got w p got.length + w.length)
local macro_rules | `(tactic| walk_at $s) => if ["exec For", "exec For Name Name cons nil"].contains s.getString then `(tactic| (k_here; (rename Fr _ _ _ _ => lF'); (with_unfolding_all refine' For_invVF lF' ?k1 ?k2 ?_; (case k1 => exact rfl); (case k2 => exact rfl); k_whole))) else Lean.Macro.throwUnsupported
local macro_rules | `(tactic| walk_at $s) => if ["pyIter ref", "call builtin:str.split", "subscriptTail Name UnaryOp ref int"].contains s.getString then `(tactic| refine hold ?_) else Lean.Macro.throwUnsupported
local macro_rules | `(tactic| walk_at "call builtin:len") => `(tactic| (k_here; (with_reducible show wpAny _ _ (call _ [Value.ref _]) _ _ _); refine hold ?_))
local macro_rules | `(tactic| walk_at "call builtin:str.find") => `(tactic| refine str_find4 ?_)
set_option maxRecDepth 100000 in
set_option maxHeartbeats 8000000 in
theorem ell_c {w : World} {news : Led} {want got : Str} {ws : List Str} {t1 t2 : Tok} (hin : (Builtin.Str.occurrences want (Str.ofString "...") 0 want.length 1).isEmpty = false) (hsp : Txt.split want (Str.ofString "...") = Str.empty :: (ws ++ [Str.empty]))
    (hwl1 : ∀ y ∈ ws, y.length ≤ 10) (hws : ws.length ≤ 1000) (hwl : want.length ≤ 1000) (hgl : got.length ≤ 1000) :
    Claim w 77 [.str want t1, .str got t2] 2 8 news
      (fun K => K (.bool (emRun got (Str.empty :: (ws ++ [Str.empty])) 0)) news) := by
  intro p loose mean mg mb dp un gd cn cs aa ccd cl outer A₀ base h₀ L m s Q E B F X N T hkk hdp hu hret
  obtain ⟨sh, sg, sd, sk, so⟩ := s
  dsimp only at F N hret ⊢
  refine wpAny_call ?_
  k_dflt cell_enter
  k_steps
  refine ⟨?_⟩
  refine KSpl.split1 (by k_asm) (by k_asm) (by decide) ?_ (by rw [sizeLine_eq]; omega)
  intro D l h' k e1 hs F1 N1 l1
  rw [hsp] at e1
  obtain ⟨ta, l2, rfl, e2⟩ := KSpl.cons_of e1
  obtain ⟨lm, lz, rfl, e3, e4⟩ := List.map_eq_append_iff.mp e2
  obtain ⟨tz, l3, rfl, e5⟩ := KSpl.cons_of e4
  obtain rfl := KSpl.nil_of e5
  have hv : strValues ((Str.empty, ta) :: (lm ++ [(Str.empty, tz)])) = .str Str.empty ta :: (strValues lm ++ [.str Str.empty tz]) := by simp [strValues]
  have hml : (strValues lm).length = ws.length := by rw [← e3]; simp [strValues]
  have hms : StrsAre (strValues lm) ws := by rw [← e3]; exact strsAre_of_values lm
  rw [hv] at N1
  clear hs e1 e2 e4 e5
  generalize strValues lm = vm at *
  k_steps
  refine ⟨?_⟩
  refine PyProof.Rows.len_list (News.isList (by assumption) (.head _)) (by simp; omega) ?_
  rw [show (Value.str Str.empty ta :: (vm ++ [Value.str Str.empty tz])).toArray.size = ws.length + 2 from by simp; omega]
  k_steps
  refine ⟨?_⟩
  rename News _ _ _ _ => N9
  refine kim_back N9 (.tail _ (.head _)) rfl rfl (by decide) (by simp; omega) (by decide) (x := .str Str.empty tz) ?_ ?_
  · rw [List.length_cons, List.length_append, List.length_cons, List.length_nil]
    have : (-1 + ((vm.length + (0 + 1) + 1 : Nat) : Int)).toNat = vm.length + 1 := by omega
    rw [this, List.getElem?_cons_succ, List.getElem?_append_right (Nat.le_refl _), Nat.sub_self]; rfl
  k_steps
  refine ⟨?_⟩
  rename_i D2 _ _ _ _ _ _ _ _ _ _ _
  refine for_list (σ := Int × Tok × Tok) (l := D) (nn := 0) (fun _ _ => (D, W.listOf (Value.str Str.empty ta :: (vm ++ [Value.str Str.empty tz])).toArray 0) :: news)
    (fun _ c => [(Str.ofString "startpos", .int c.1 c.2.1), (Str.ofString "endpos", .int got.length c.2.2), (Str.ofString "got", .str got t2)])
    (fun i c => emRun got ((Str.empty :: (ws ++ [Str.empty])).drop i) c.1 = emRun got (Str.empty :: (ws ++ [Str.empty])) 0) (_, _, _) rfl (fun _ _ => .head _) (by assumption) (drop_to (by assumption) (sub_tail sub_refl)) (all_cons rfl (all_cons rfl (all_cons rfl all_nil)))
    (fun _ _ => all_cons (show Str.ofString "startpos" ≠ Str.ofString "w" by decide) (all_cons (show Str.ofString "endpos" ≠ Str.ofString "w" by decide) (all_cons (show Str.ofString "got" ≠ Str.ofString "w" by decide) all_nil))) rfl ?_ ?_
  · rintro i v ⟨sp, tsp, tep⟩ I it u h2 tk2 hv hP hoff F2 N2
    dsimp only at hP F2 N2 ⊢
    have hall : StrsAre (Value.str Str.empty ta :: (vm ++ [Value.str Str.empty tz])) (Str.empty :: (ws ++ [Str.empty])) := .cons _ _ (strs_app hms (.cons _ _ .nil))
    have hlen : i < (Str.empty :: (ws ++ [Str.empty])).length := by
      have h1 := (List.getElem?_eq_some_iff.mp hv).1
      have h2 := hall.len_eq
      omega
    obtain ⟨y, hy⟩ : ∃ y, (Str.empty :: (ws ++ [Str.empty]))[i]? = some y := ⟨_, List.getElem?_eq_getElem hlen⟩
    obtain ⟨ty, hvy⟩ := hall.at hy
    rw [hv] at hvy
    obtain rfl := Option.some.inj hvy
    have hdrop : (Str.empty :: (ws ++ [Str.empty])).drop i = y :: (Str.empty :: (ws ++ [Str.empty])).drop (i + 1) := by
      rw [List.drop_eq_getElem_cons hlen]
      congr 1
      exact Option.some.inj ((List.getElem?_eq_getElem hlen).symm.trans hy)
    have hyl : y.length ≤ 10 := by
      rcases List.mem_cons.mp (List.mem_of_getElem? hy) with rfl | hm
      · decide
      · rcases List.mem_append.mp hm with hm | hm
        · exact hwl1 y hm
        · rw [List.mem_singleton.mp hm]; decide
    rw [hdrop] at hP
    change (if find4 got y sp got.length < 0 then false else emRun got ((Str.empty :: (ws ++ [Str.empty])).drop (i + 1)) (find4 got y sp got.length + y.length)) = _ at hP
    k_steps
    · rw [if_pos (by assumption)] at hP
      rw [← hP] at hret
      exact hret _ _ (by assumption) (drop_to (by assumption) (sub_tail (sub_tail sub_refl)))
    · rw [if_neg (by assumption)] at hP
      exact FEnd.mk' (_, _, _) (by assumption) (by assumption) hoff (all_cons rfl (all_cons rfl (all_cons rfl all_nil))) hP
  · rintro ⟨sp, tsp, tep⟩ u h2 tk2 hP F2 N2
    dsimp only at hP F2 N2 ⊢
    have hd : (Str.empty :: (ws ++ [Str.empty])).drop (Value.str Str.empty ta :: (vm ++ [Value.str Str.empty tz])).length = [] := List.drop_eq_nil_of_le (by simp; omega)
    rw [hd] at hP
    have e9 : true = emRun got (Str.empty :: (ws ++ [Str.empty])) 0 := hP
    k_steps
    rw [← e9] at hret
    exact hret _ _ (by assumption) (drop_to (by assumption) (sub_tail sub_refl))
end Mine
end
section
set_option maxRecDepth 100000
namespace Mine
open PySem.Spec PySem.Calls PyProof PyProof.Rows PyProof.Rows.LCg in
section
/-- a comprehension of two clauses, the second with a test -/
noncomputable abbrev cmp2 (elt t0 it0 t1 it1 c : Expr) (scope : Scope) (pos : Pos) : Expr := .ListComp elt [⟨t0, it0, [], 0⟩, ⟨t1, it1, [c], 0⟩] scope pos
theorem compTurn2_0 (elt t0 it0 t1 it1 c : Expr) (scope : Scope) (pos : Pos) (it acc : Value) (env : Env) :
    compTurn (cmp2 elt t0 it0 t1 it1 c scope pos) 0 it acc env = (do
      standAt it0.pos
      match ← pyNext it with
      | none => pure (.done .next)
      | some v =>
        letOwnedTupleGo t0 it v
        assign t0 env v
        let x ← eval it1 env
        standAt it1.pos
        let x ← foldedSetIterable it1 env x
        let _ ← runOwn (.compStart (cmp2 elt t0 it0 t1 it1 c scope pos) 1 (← holding [x] (pyIter x)) acc env) env
        again (.compLoop (cmp2 elt t0 it0 t1 it1 c scope pos) 0 it acc env)) := by rfl
theorem compTurn2_1 (elt t0 it0 t1 it1 c : Expr) (scope : Scope) (pos : Pos) (it acc : Value) (env : Env) :
    compTurn (cmp2 elt t0 it0 t1 it1 c scope pos) 1 it acc env = (do
      standAt it1.pos
      match ← pyNext it with
      | none => pure (.done .next)
      | some v =>
        letOwnedTupleGo t1 it v
        assign t1 env v
        let mut ok := true
        for c in [c] do
          if ok then ok ← isTrue c env (eval c env)
        if ok then
          (do let _ ← call (.builtin "list.append") [acc, ← eval elt env])
        again (.compLoop (cmp2 elt t0 it0 t1 it1 c scope pos) 1 it acc env)) := by rfl
variable {prog : Program} {w : World} {A : Around} {E : Value → Shared → Prop} {s : Shared}
theorem comp2_inner {elt t0 it0 t1 it1 c : Expr} {scope : Scope} {pos : Pos} {it acc : Value} {env : Env} {R : Result → Shared → Prop} (I : Nat → Shared → Prop)
    (turn : ∀ n s, I n s → wpAny (model prog w) A (pyNext it) (fun r s₁ => match r with
      | none => R (.ok .next) s₁
      | some v => wpAny (model prog w) A (assign t1 env v) (fun _ s₂ =>
          wpAny (model prog w) A (isTrue c env (eval c env)) (fun ok s₃ => if ok = true then wpAny (model prog w) A (eval elt env) (fun x s₄ =>
            wpAny (model prog w) A (call (.builtin "list.append") [acc, x]) (fun _ s₅ => ∃ m, m < n ∧ I m s₅) (notedBy (model prog w) A env fun e s' => R (.error e) s') s₄) (notedBy (model prog w) A env fun e s' => R (.error e) s') s₃
            else ∃ m, m < n ∧ I m s₃) (notedBy (model prog w) A env fun e s' => R (.error e) s') s₂)
          (notedBy (model prog w) A env fun e s' => R (.error e) s') s₁) (notedBy (model prog w) A env fun e s' => R (.error e) s') s)
    (n : Nat) (h : I n s) (ht : ∀ v, letOwnedTupleGo t1 it v = pure () := by intro _; rfl) : codeAny (model prog w) A (.compLoop (cmp2 elt t0 it0 t1 it1 c scope pos) 1 it acc env) R s := by
  refine codeAny_loop rfl I (fun n s hI => ?_) n h
  show wpAny _ A ((compTurn (cmp2 elt t0 it0 t1 it1 c scope pos) 1 it acc env).onRaise (fun x => do noteFrame x env; theTreesLotGoes x)) _ _ s
  refine wpAny_noted ?_
  rw [compTurn2_1]
  refine wpAny_bind (wpAny_standAt (wpAny_bind (wpAny_mono (turn n s hI) (fun r s₁ h₁ => ?_) fun _ _ h' => h')))
  cases r with
  | none => exact wpAny_pure h₁
  | some v =>
    refine wpAny_bind (wpAny_of_eq (ht v) ?_)
    refine wpAny_bind (wpAny_mono h₁ (fun _ s₂ h₂ => ?_) fun _ _ h' => h')
    refine wpAny_bind (wpAny_tests_one (wpAny_mono h₂ (fun okb s₃ h₃ => ?_) fun _ _ h' => h'))
    cases okb with
    | false => exact wpAny_pure ⟨rfl, h₃⟩
    | true => exact wpAny_bind (wpAny_bind (wpAny_mono h₃ (fun x s₄ h₄ => wpAny_bind (wpAny_mono h₄ (fun _ s₅ h₅ => wpAny_pure (wpAny_pure ⟨rfl, h₅⟩)) fun _ _ h' => h')) fun _ _ h' => h'))
theorem comp2_outer {elt t0 it0 t1 it1 c : Expr} {scope : Scope} {pos : Pos} {it acc : Value} {env : Env} {R : Result → Shared → Prop} (I : Nat → Shared → Prop)
    (turn : ∀ n s, I n s → wpAny (model prog w) A (pyNext it) (fun r s₁ => match r with
      | none => R (.ok .next) s₁
      | some v => wpAny (model prog w) A (assign t0 env v) (fun _ s₂ =>
          wpAny (model prog w) A (eval it1 env) (fun x s₃ => wpAny (model prog w) A (pyIter x) (fun i1 s₄ =>
            codeAny (model prog w) A (.compStart (cmp2 elt t0 it0 t1 it1 c scope pos) 1 i1 acc env) (fun r s' => match r with | .ok _ => ∃ m, m < n ∧ I m s' | .error e => cameBackBy (model prog w) A env (notedBy (model prog w) A env fun e s' => R (.error e) s') e s') s₄)
            (notedBy (model prog w) A env fun e s' => R (.error e) s') s₃) (notedBy (model prog w) A env fun e s' => R (.error e) s') s₂)
          (notedBy (model prog w) A env fun e s' => R (.error e) s') s₁) (notedBy (model prog w) A env fun e s' => R (.error e) s') s)
    (n : Nat) (h : I n s) (ht : ∀ v, letOwnedTupleGo t0 it v = pure () := by intro _; rfl) (hs : ∀ x, foldedSetIterable it1 env x = pure x := by intro _; rfl) : codeAny (model prog w) A (.compLoop (cmp2 elt t0 it0 t1 it1 c scope pos) 0 it acc env) R s := by
  refine codeAny_loop rfl I (fun n s hI => ?_) n h
  show wpAny _ A ((compTurn (cmp2 elt t0 it0 t1 it1 c scope pos) 0 it acc env).onRaise (fun x => do noteFrame x env; theTreesLotGoes x)) _ _ s
  refine wpAny_noted ?_
  rw [compTurn2_0]
  refine wpAny_bind (wpAny_standAt (wpAny_bind (wpAny_mono (turn n s hI) (fun r s₁ h₁ => ?_) fun _ _ h' => h')))
  cases r with
  | none => exact wpAny_pure h₁
  | some v =>
    refine wpAny_bind (wpAny_of_eq (ht v) ?_)
    refine wpAny_bind (wpAny_mono h₁ (fun _ s₂ h₂ => ?_) fun _ _ h' => h')
    refine wpAny_bind (wpAny_mono h₂ (fun x s₃ h₃ => ?_) fun _ _ h' => h')
    refine wpAny_bind (wpAny_standAt (wpAny_bind (wpAny_of_eq (hs x) ?_)))
    refine wpAny_bind (wpAny_holding (wpAny_mono h₃ (fun i1 s₄ h₄ => ?_) fun _ _ h' => h'))
    refine wpAny_bind (wpAny_runOwn (codeAny_mono h₄ (fun r s' hr => ?_)))
    cases r with
    | ok f => exact wpAny_pure ⟨rfl, hr⟩
    | error e => exact hr
theorem codeAny_compStart2 {elt t0 it0 t1 it1 c : Expr} {scope : Scope} {pos : Pos} {d : Nat} {it acc : Value} {env : Env} {R : Result → Shared → Prop} (hd : d = 0 ∨ d = 1)
    (h0 : codeAny (model prog w) A (.compLoop (cmp2 elt t0 it0 t1 it1 c scope pos) d it acc env) R s)
    (h : wpAny (model prog w) A (pyIter it) (fun it' s' => codeAny (model prog w) A (.compLoop (cmp2 elt t0 it0 t1 it1 c scope pos) d it' acc env) R s')
      (notedBy (model prog w) A env fun x s' => R (.error x) s') s) :
    codeAny (model prog w) A (.compStart (cmp2 elt t0 it0 t1 it1 c scope pos) d it acc env) R s := by
  refine codeAny_of_tree ?_
  show wpAny _ _ ((compStart (cmp2 elt t0 it0 t1 it1 c scope pos) d it acc env).onRaise (fun x => do noteFrame x env; standAt theWindowsPlace)) _ _ s
  refine wpAny_notedAt ?_
  rcases hd with rfl | rfl
  all_goals
    unfold compStart
    show wpAny _ _ (ask >>= _) _ _ s
    refine wpAny_bind (wpAny_askSetting (wpAny_ite ?_))
    split
    · first
        | exact wpAny_bind (wpAny_pure (wpAny_pure (And.intro rfl h0)))
        | exact wpAny_pure (And.intro rfl h0)
    · first
        | exact wpAny_bind (wpAny_rule (wpAny_bind (wpAny_standAt (wpAny_bind (wpAny_mono h (fun it' s' h' => wpAny_pure (And.intro rfl h')) fun _ _ x => x)))))
        | (refine wpAny_bind (wpAny_rule ?_); show wpAny _ _ (standAt _ >>= _) _ _ s; exact wpAny_bind (wpAny_standAt (wpAny_bind (wpAny_mono h (fun it' s' h' => wpAny_pure (And.intro rfl h')) fun _ _ x => x))))
end
end Mine
end
section
set_option maxRecDepth 100000
namespace Mine
open PySem.Spec PySem.Calls PyProof PyProof.Rows PyProof.Rows.LCg in
section
variable {prog : Program} {w : World} {A : Around} {E : Value → Shared → Prop} {s : Shared} {h₀ : Heap} {L : Addr} {m : Str → Option Value} {env : Env}
/-- the end of an inner turn of a two-clause comprehension -/
structure End2D (h₀ : Heap) (L : Addr) (m : Str → Option Value) (s₁ : Shared) (J : Addr) (oJ : Obj) (I : Addr) (oI : Obj) (C : Addr) (oC : Obj) (D : Addr) (oD : Obj) (src : Addr × Obj) (rest : Value → Led → Prop) (y : Value) (s₂ : Shared) (h' : Heap) (tk : Nat) (news' : Led) : Prop where
  es : s₂ = { s₁ with heap := h', toks := tk }
  F : Fr h₀ L h' m
  N : News h₀ L h' ((J, oJ) :: (I, oI) :: (C, oC) :: (D, oD) :: news')
  off : Off3 I C D news'
  offJ : ∀ p ∈ news', p.1 ≠ J
  hs : src ∈ news'
  hr : rest y news'
noncomputable def End2 (h₀ : Heap) (L : Addr) (m : Str → Option Value) (s₁ : Shared) (J : Addr) (oJ : Obj) (I : Addr) (oI : Obj) (C : Addr) (oC : Obj) (D : Addr) (oD : Obj) (src : Addr × Obj) (rest : Value → Led → Prop) (y : Value) (s₂ : Shared) : Prop :=
  ∃ h' tk news', End2D h₀ L m s₁ J oJ I oI C oC D oD src rest y s₂ h' tk news'
/-- what a two-clause comprehension over a list and a range has to be told -/
structure Src2D (prog : Program) (w : World) (A : Around) (h₀ : Heap) (L : Addr) (m : Str → Option Value) (env : Env) (c elt it1 : Expr) (a b : Str) (scope : Scope) (cl : List (Str × Addr)) (k : Nat) (Fin : Shared → List Value → Led → Prop) (xv : Value) (s₁ : Shared) (ax : Addr) (vs : List Value) (n : Nat) (news : Led) (PO : Nat → List Value → Led → Prop) (PI : Nat → Nat → List Value → Led → Prop) : Prop where
  ex : xv = .ref ax
  hh : A.handled = none
  F : Fr h₀ L s₁.heap m
  N : News h₀ L s₁.heap news
  hax : (ax, W.listOf vs.toArray n) ∈ news
  hP0 : PO 0 [] news
  hPsz : ∀ i j ys news, PI i j ys news → ys.length ≤ sizeLine
  hPin : ∀ i ys news, PO i ys news → PI i 0 ys news
  hPout : ∀ i ys news, PI i k ys news → PO (i + 1) ys news
  hFin : ∀ s : Shared, (∃ h, s = { s₁ with heap := h }) → ∀ ys news, PO vs.length ys news → Fin s ys news
  R1 : ∀ (i : Nat) (v : Value) (ys : List Value) (news : Led) (I : Addr) (oI : Obj) (C : Addr) (oC : Obj) (D : Addr) (m₂ : Str → Option Value) (h : Heap) (tk : Nat) (E' : Value → Shared → Prop), vs[i]? = some v → PO i ys news → NsObj oC m₂ → m₂ a = some v → Fr h₀ L h m → News h₀ L h ((I, oI) :: (C, oC) :: (D, lst ys) :: news) →
      wpAny (model prog w) A (eval it1 (compEnvC scope cl C env)) (fun xv s' => ∃ r h' tk' t u v, xv = .ref r ∧ s' = { s₁ with heap := h', toks := tk' } ∧ IsRange h' r 0 (k : Int) 1 t u v ∧ Fr h₀ L h' m ∧ News h₀ L h' ((I, oI) :: (C, oC) :: (D, lst ys) :: news)) E' { s₁ with heap := h, toks := tk }
  R2 : ∀ (i j : Nat) (v : Value) (t : Tok) (ys : List Value) (news : Led) (J : Addr) (oJ : Obj) (I : Addr) (oI : Obj) (C : Addr) (oC : Obj) (D : Addr) (m₂ : Str → Option Value) (h : Heap) (tk : Nat) (E' : Value → Shared → Prop), vs[i]? = some v → j < k → PI i j ys news → NsObj oC m₂ → m₂ a = some v → m₂ b = some (.int (j : Int) t) → Fr h₀ L h m → News h₀ L h ((J, oJ) :: (I, oI) :: (C, oC) :: (D, lst ys) :: news) →
      Off3 I C D news → (∀ p ∈ news, p.1 ≠ J) → (ax, W.listOf vs.toArray n) ∈ news → ((@Ne Nat J I) ∧ (@Ne Nat J C) ∧ (@Ne Nat J D) ∧ (@Ne Nat I C) ∧ (@Ne Nat I D) ∧ (@Ne Nat C D)) →
      wpAny (model prog w) A (isTrue c (compEnvC scope cl C env) (eval c (compEnvC scope cl C env))) (fun ok s₃ => if ok = true then
        wpAny (model prog w) A (eval elt (compEnvC scope cl C env)) (End2 h₀ L m { s₁ with heap := h, toks := tk } J oJ I oI C oC D (lst ys) (ax, W.listOf vs.toArray n) (fun y news' => PI i (j + 1) (ys ++ [y]) news')) E' s₃
        else End2 h₀ L m { s₁ with heap := h, toks := tk } J oJ I oI C oC D (lst ys) (ax, W.listOf vs.toArray n) (fun _ news' => PI i (j + 1) ys news') .none s₃) E' { s₁ with heap := h, toks := tk }
structure Src2 (prog : Program) (w : World) (A : Around) (h₀ : Heap) (L : Addr) (m : Str → Option Value) (env : Env) (c elt it1 : Expr) (a b : Str) (scope : Scope) (cl : List (Str × Addr)) (k : Nat) (Fin : Shared → List Value → Led → Prop) (xv : Value) (s₁ : Shared) : Prop where
  is : ∃ (ax : Addr) (vs : List Value) (n : Nat) (news : Led), ∃ (PO : Nat → List Value → Led → Prop) (PI : Nat → Nat → List Value → Led → Prop), Src2D prog w A h₀ L m env c elt it1 a b scope cl k Fin xv s₁ ax vs n news PO PI
/-- between the turns of the outer loop -/
structure O2 (h₀ : Heap) (L : Addr) (m : Str → Option Value) (s₁ : Shared) (I C D ax : Addr) (vs : List Value) (n : Nat) (PO : Nat → List Value → Led → Prop) (q : Nat) (s' : Shared) (h' : Heap) (tk i : Nat) (ys : List Value) (m' : Str → Option Value) (news' : Led) : Prop where
  es : s' = { s₁ with heap := h', toks := tk }
  hi : i ≤ vs.length
  hq : q = vs.length + 1 - i
  hit : h'.IsListIter I ax i
  F : Fr h₀ L h' m
  hn : h'.Ns C m'
  N : News h₀ L h' ((D, lst ys) :: news')
  off : Off3 I C D news'
  hax : (ax, W.listOf vs.toArray n) ∈ news'
  hP : PO i ys news'
/-- between the turns of the inner loop -/
structure I2 (h₀ : Heap) (L : Addr) (m : Str → Option Value) (s₁ : Shared) (J I : Addr) (oI : Obj) (C D ax : Addr) (vs : List Value) (n k i : Nat) (v : Value) (a : Str) (PI : Nat → Nat → List Value → Led → Prop) (q : Nat) (s' : Shared) (h' : Heap) (tk j : Nat) (ys : List Value) (mC : Str → Option Value) (news' : Led) : Prop where
  es : s' = { s₁ with heap := h', toks := tk }
  hj : j ≤ k
  hq : q = k + 1 - j
  hit : IsRangeIter h' J (0 + ((j : Nat) : Int) * 1) ((k : Int) - ((j : Nat) : Int)) 1
  F : Fr h₀ L h' m
  hn : h'.Ns C mC
  hma : mC a = some v
  N : News h₀ L h' ((I, oI) :: (D, lst ys) :: news')
  off : Off3 I C D news'
  offJ : ∀ p ∈ news', p.1 ≠ J
  hax : (ax, W.listOf vs.toArray n) ∈ news'
  hP : PI i j ys news'

theorem comp2_core {elt it0 it1 c : Expr} {a b : Str} {pa pb : Pos} {scope : Scope} {cl : List (Str × Addr)} {pos : Pos} {k : Nat} {Fin : Shared → List Value → Led → Prop} {RR : Value → Addr → Result → Shared → Prop} {xv : Value} {s₁ : Shared}
    (hcell : ∀ y ∈ scope.names, y.2 ≠ .cell) (hkind : scope.kind = .function)
    (hxa : scope.names.lookup a = some .local) (hxb : scope.names.lookup b = some .local) (hab : ¬ a = b) (hk : k ≤ 100000)
    (h₁ : Src2 prog w A h₀ L m env c elt it1 a b scope cl k Fin xv s₁)
    (hRR : ∀ D C h tk m' ys news', Fr h₀ L h m → News h₀ L h ((D, lst ys) :: news') → Off1 D news' → h.Ns C m' → h₀.get? C = none → h₀.get? D = none → C ≠ L → D ≠ L → C ≠ D → (∀ p ∈ news', p.1 ≠ C) → Fin s₁ ys news' → RR (.ref D) C (.ok .next) { s₁ with heap := h, toks := tk })
    (hs1 : ∀ (env' : Env) x, foldedSetIterable it1 env' x = pure x) :
    wpAny (model prog w) A (pyIter xv) (fun it s₂ => wpAny (model prog w) A (newList []) (fun acc s₃ => wpAny (model prog w) A (newFunctionEnv scope env.globals cl [] env.qual none .none (some env)) (fun cenv s₄ =>
      codeAny (model prog w) A (.compStart (cmp2 elt (.Name a pa) it0 (.Name b pb) it1 c scope pos) 0 it acc { cenv with scope := relabel scope env }) (RR acc cenv.locals) s₄) E s₃) E s₂) E s₁ := by
  obtain ⟨ax, vs, n, news, PO, PI, rfl, hh, F, N, hax, hP0, hPsz, hPin, hPout, hFin, R1, R2⟩ := h₁.is
  have hls : s₁.heap.IsList ax vs.toArray := ⟨_, (N _ hax).1, rfl, n, rfl⟩
  have hlt : ax < s₁.heap.objs.size := Heap.lt_size (N _ hax).1
  refine wpAny_pyIter_list hls ?_
  generalize hH1 : s₁.heap.push { cls := .type "list_iterator", data := .fields #[.ref ax, .int 0 0] } = H1
  have hup1 : ∀ b o, s₁.heap.get? b = some o → H1.get? b = some o := fun b o e => hH1 ▸ Heap.get?_push_of_some _ e
  have hsz1 : H1.objs.size = s₁.heap.objs.size + 1 := by rw [← hH1, Heap.size_push]
  have hIt1 : H1.IsListIter s₁.heap.objs.size ax 0 := hH1 ▸ ⟨_, Heap.get?_push_size _ rfl, rfl, rfl⟩
  refine wpAny_newObj_type (wpAny_newFunctionEnv hcell (by intro y hy; simp at hy) (fun h₁ hns₁ hsb₁ => ?_) hkind)
  dsimp only at hns₁ hsb₁ ⊢
  generalize hH2 : H1.push { cls := .type "list", dict := none, data := .seq ([] : List Value).toArray } = H2 at hns₁ hsb₁ ⊢
  have hC : H2.objs.size = s₁.heap.objs.size + 2 := by rw [← hH2, Heap.size_push, hsz1]
  obtain ⟨I, hIe⟩ : ∃ I, I = s₁.heap.objs.size := ⟨_, rfl⟩
  obtain ⟨D, hDe⟩ : ∃ D, D = H1.objs.size := ⟨_, rfl⟩
  obtain ⟨C, hCe⟩ : ∃ C, C = H2.objs.size := ⟨_, rfl⟩
  rw [← hIe] at hIt1 ⊢
  rw [← hDe]
  rw [← hCe] at hns₁ hsb₁ ⊢
  have hID : @Ne Nat I D := by omega
  have hIC : @Ne Nat I C := by omega
  have hCD : @Ne Nat C D := by omega
  have hlo : ∀ b, @LT.lt Nat _ b s₁.heap.objs.size → @Ne Nat b I ∧ @Ne Nat b C ∧ @Ne Nat b D := fun b hb => ⟨by omega, by omega, by omega⟩
  have old1 : ∀ b o, H1.get? b = some o → h₁.get? b = some o := fun b o e => hsb₁.extBut b o (by
    have : @LT.lt Nat _ b H1.objs.size := Heap.lt_size e
    show @Ne Nat b C
    omega) (Heap.get?_push_of_some _ (hH2 ▸ Heap.get?_push_of_some _ e))
  have old : ∀ b o, s₁.heap.get? b = some o → h₁.get? b = some o := fun b o e => old1 b o (hup1 b o e)
  have hacc : h₁.get? D = some (lst []) := hsb₁.extBut _ _ (Ne.symm hCD) (Heap.get?_push_of_some _ (by rw [hDe, ← hH2]; exact Heap.get?_push_size _ rfl))
  have hIt : h₁.IsListIter I ax 0 := by
    obtain ⟨o, ho, r⟩ := hIt1
    exact ⟨o, old1 _ _ ho, r⟩
  have fresh₀ : ∀ a, @LE.le Nat _ s₁.heap.objs.size a → h₀.get? a = none := fun a ha => by
    cases e : h₀.get? a with
    | none => rfl
    | some o' =>
      have h1 : @LT.lt Nat _ a s₁.heap.objs.size := Heap.lt_size (F.keep a o' e)
      exact absurd h1 (by omega)
  have hI₀ : h₀.get? I = none := fresh₀ _ (by omega)
  have hD₀ : h₀.get? D = none := fresh₀ _ (by omega)
  have hC₀ : h₀.get? C = none := fresh₀ _ (by omega)
  have hLlt : @LT.lt Nat _ L s₁.heap.objs.size := F.ns.lt
  have hLx := hlo L hLlt
  have off₀ : Off3 I C D news := Off3.of fun p hp => hlo _ (Heap.lt_size (N p hp).1)
  have haI : ax ≠ I := (hlo ax hlt).1
  have Wk := Walks.list (prog := prog) (w := w) hh I ax haI vs.toArray
  have hvl : vs.toArray.size = vs.length := by simp
  rw [hvl] at Wk
  have loop : ∀ (R : Result → Shared → Prop), (∀ h tk m' ys news', Fr h₀ L h m → News h₀ L h ((D, lst ys) :: news') → Off3 I C D news' → h.Ns C m' → PO vs.length ys news' → R (.ok .next) { s₁ with heap := h, toks := tk }) →
      ∀ s₃ : Shared, s₃ = { s₁ with heap := h₁, toks := s₁.toks + ([] : List (Str × Value)).length } → codeAny (model prog w) A (.compLoop (cmp2 elt (.Name a pa) it0 (.Name b pb) it1 c scope pos) 0 (.ref I) (.ref D) (compEnvC scope cl C env)) R s₃ := by
    rintro R hR s₃ rfl
    refine comp2_outer
      (fun q s' => ∃ h' tk i ys m' news', O2 h₀ L m s₁ I C D ax vs n PO q s' h' tk i ys m' news') ?_ (vs.length + 1)
      ⟨h₁, _, 0, [], _, news, rfl, Nat.zero_le _, rfl, hIt, F.keeps old, hns₁, fun p hp => ?_, off₀, hax, hP0⟩ (hs := fun x => hs1 _ x)
    · rintro q s' ⟨h', tk, i, ys, m', news', rfl, hi, rfl, hit', F', hn', N', off', hax', hP'⟩
      have off3 := off'.mem
      have hls' : h'.IsList ax vs.toArray := ⟨_, (N' _ (List.mem_cons_of_mem _ hax')).1, rfl, n, rfl⟩
      by_cases hlt : i < vs.length
      · refine Wk.item i _ _ _ hlt ⟨hit', hls'⟩ fun v h₂ tk₂ hPv hst₂ hk₂ => ?_
        have hv : vs[i]? = some v := by simpa using hPv
        refine wpAny_assign_Name (wpAny_storeName_local (lookup_relabel_local hxa) (hn'.at' fun o e => hk₂ _ o (by simpa using Ne.symm hIC) e) (fun h₃ hn₃ hs₃ => ?_) (by simp [compEnvC, relabel, hkind]))
        obtain ⟨oI, heI, hoI⟩ : ∃ oI, h₃.get? I = some oI ∧ ∀ h : Heap, h.get? I = some oI → h.IsListIter I ax (i + 1) := by
          obtain ⟨o, ho, r⟩ := hst₂.1
          exact ⟨o, hs₃.extBut _ o hIC ho, fun h e => ⟨o, e, r⟩⟩
        obtain ⟨oC, heC, hoC⟩ := ns_obj hn₃
        have F₃ : Fr h₀ L h₃ m := (fr_but F' hk₂ hLx.1 hI₀).change hs₃ (Ne.symm hLx.2.1) hC₀
        have N₂ : News h₀ L h₂ ((D, lst ys) :: news') := news_but N' hk₂ fun p hp => by
          rcases List.mem_cons.mp hp with rfl | hp
          · exact Ne.symm hID
          · exact (off3 p hp).1
        have N₃ : News h₀ L h₃ ((I, oI) :: (C, oC) :: (D, lst ys) :: news') := fun p hp => by
          rcases List.mem_cons.mp hp with rfl | hp
          · exact ⟨heI, Ne.symm hLx.1, hI₀⟩
          · rcases List.mem_cons.mp hp with rfl | hp
            · exact ⟨heC, Ne.symm hLx.2.1, hC₀⟩
            · have z := N₂ p hp
              refine ⟨hs₃.extBut _ _ ?_ z.1, z.2⟩
              rcases List.mem_cons.mp hp with rfl | hp
              · exact Ne.symm hCD
              · exact (off3 p hp).2.1
        refine wpAny_mono (R1 i v ys news' I oI C oC D _ h₃ _ _ hv hP' hoC (by simp) F₃ N₃) (fun x s₄ h₄ => ?_) fun _ _ e => e
        obtain ⟨r, h₄, tk₄, t, u, v', rfl, rfl, hr, F₄, N₄⟩ := h₄
        refine wpAny_pyIter_range hr (small_one (by omega) (by omega) (by omega) (by omega)) ?_
        have hrk : Builtin.Range.rangeSize 0 (k : Int) 1 = (k : Int) := by rw [rangeSize_one]; split <;> omega
        rw [hrk]
        obtain ⟨J, hJe⟩ : ∃ J, J = h₄.objs.size := ⟨_, rfl⟩
        have hupJ : ∀ (o : Obj) b o', h₄.get? b = some o' → (h₄.push o).get? b = some o' := fun o b o' e => Heap.get?_push_of_some _ e
        have hlJ : ∀ b o, h₄.get? b = some o → @Ne Nat b J := fun b o e => by
          have : @LT.lt Nat _ b h₄.objs.size := Heap.lt_size e
          omega
        have zI := (N₄ (I, oI) List.mem_cons_self).1
        have zC := (N₄ (C, oC) (List.mem_cons_of_mem _ List.mem_cons_self)).1
        have zD := (N₄ (D, lst ys) (List.mem_cons_of_mem _ (List.mem_cons_of_mem _ List.mem_cons_self))).1
        have N₄' : News h₀ L h₄ news' := fun p hp => N₄ p (List.mem_cons_of_mem _ (List.mem_cons_of_mem _ (List.mem_cons_of_mem _ hp)))
        have nIJ : @Ne Nat I J := hlJ _ _ zI
        have nCJ : @Ne Nat C J := hlJ _ _ zC
        have nDJ : @Ne Nat D J := hlJ _ _ zD
        have nLJ : @Ne Nat L J := by
          have : @LT.lt Nat _ L h₄.objs.size := F₄.ns.lt
          omega
        have hJ₀ : h₀.get? J = none := by
          cases e : h₀.get? J with
          | none => rfl
          | some o' => exact absurd rfl (hlJ _ _ (F₄.keep _ _ e))
        have WJ : Walks prog w A J [J] [J] k (fun i v => ∃ t, v = .int (0 + (i : Int)) t) (fun i h => IsRangeIter h J (0 + (i : Nat) * 1) ((k : Int) - (i : Nat)) 1) := range_walks hh 0 k
        generalize hH4 : h₄.push _ = H4
        have hup4 : ∀ b o, h₄.get? b = some o → H4.get? b = some o := fun b o e => hH4 ▸ Heap.get?_push_of_some _ e
        have hJit : IsRangeIter H4 J (0 + ((0 : Nat) : Int) * 1) ((k : Int) - ((0 : Nat) : Int)) 1 := by
          rw [← hH4, hJe]
          simpa using Heap.get?_push_size _ rfl
        rw [← hJe]
        have offJ : ∀ p ∈ news', p.1 ≠ J := fun p hp => hlJ _ _ (N₄' p hp).1
        have inner : ∀ (R' : Result → Shared → Prop), (∀ h tk mC ys news', Fr h₀ L h m → h.Ns C mC → News h₀ L h ((I, oI) :: (D, lst ys) :: news') → Off3 I C D news' → (ax, W.listOf vs.toArray n) ∈ news' → PI i k ys news' → R' (.ok .next) { s₁ with heap := h, toks := tk }) →
            ∀ s₅ : Shared, s₅ = { s₁ with heap := H4, toks := tk₄ } → codeAny (model prog w) A (.compLoop (cmp2 elt (.Name a pa) it0 (.Name b pb) it1 c scope pos) 1 (.ref J) (.ref D) (compEnvC scope cl C env)) R' s₅ := by
          rintro R' hR' s₅ rfl
          refine comp2_inner
            (fun q s' => ∃ h' tk j ys mC news', I2 h₀ L m s₁ J I oI C D ax vs n k i v a PI q s' h' tk j ys mC news') ?_ (k + 1)
            ⟨H4, tk₄, 0, ys, _, news', rfl, Nat.zero_le _, rfl, hJit, F₄.keeps hup4, hoC.ns (hup4 _ _ zC), by simp, fun p hp => ?_, off', offJ, hax', hPin _ _ _ hP'⟩
          · rintro q s' ⟨h', tk, j, ys, mC, news', rfl, hj, rfl, hit', F', hn', hma, N', off', offJ, hax', hP'⟩
            have off3 := off'.mem
            by_cases hlt : j < k
            · refine WJ.item j _ _ _ hlt hit' fun vj h₂ tk₂ hPv hst₂ hk₂ => ?_
              obtain ⟨t, rfl⟩ := hPv
              rw [Int.zero_add]
              refine wpAny_assign_Name (wpAny_storeName_local (lookup_relabel_local hxb) (hn'.at' fun o e => hk₂ _ o (by simpa using nCJ) e) (fun h₃ hn₃ hs₃ => ?_) (by simp [compEnvC, relabel, hkind]))
              obtain ⟨oJ, heJ, hoJ⟩ : ∃ oJ, h₃.get? J = some oJ ∧ ∀ h : Heap, h.get? J = some oJ → IsRangeIter h J (0 + ((j + 1 : Nat) : Int) * 1) ((k : Int) - ((j + 1 : Nat) : Int)) 1 :=
                ⟨_, hs₃.extBut _ _ (Ne.symm nCJ) hst₂, fun h e => e⟩
              obtain ⟨oC, heC, hoC⟩ := ns_obj hn₃
              have F₃ : Fr h₀ L h₃ m := (fr_but F' hk₂ nLJ hJ₀).change hs₃ (Ne.symm hLx.2.1) hC₀
              have N₂ : News h₀ L h₂ ((I, oI) :: (D, lst ys) :: news') := news_but N' hk₂ fun p hp => by
                rcases List.mem_cons.mp hp with rfl | hp
                · exact nIJ
                · rcases List.mem_cons.mp hp with rfl | hp
                  · exact nDJ
                  · exact offJ p hp
              have N₃ : News h₀ L h₃ ((J, oJ) :: (I, oI) :: (C, oC) :: (D, lst ys) :: news') := fun p hp => by
                rcases List.mem_cons.mp hp with rfl | hp
                · exact ⟨heJ, Ne.symm nLJ, hJ₀⟩
                rcases List.mem_cons.mp hp with rfl | hp
                · have z := N₂ (I, oI) (.head _)
                  exact ⟨hs₃.extBut _ _ hIC z.1, z.2⟩
                rcases List.mem_cons.mp hp with rfl | hp
                · exact ⟨heC, Ne.symm hLx.2.1, hC₀⟩
                · have z := N₂ p (.tail _ hp)
                  refine ⟨hs₃.extBut _ _ ?_ z.1, z.2⟩
                  rcases List.mem_cons.mp hp with rfl | hp
                  · exact Ne.symm hCD
                  · exact (off3 p hp).2.1
              have fin : ∀ (ys' : List Value) (h₅ : Heap) (tk₅ : Nat) (news₅ : Led), Fr h₀ L h₅ m → News h₀ L h₅ ((J, oJ) :: (I, oI) :: (C, oC) :: (D, lst ys') :: news₅) → Off3 I C D news₅ → (∀ p ∈ news₅, p.1 ≠ J) → (ax, W.listOf vs.toArray n) ∈ news₅ → PI i (j + 1) ys' news₅ →
                  ∃ q', q' < k + 1 - j ∧ ∃ h' tk j ys mC news', I2 h₀ L m s₁ J I oI C D ax vs n k i v a PI q' { s₁ with heap := h₅, toks := tk₅ } h' tk j ys mC news' := by
                intro ys' h₅ tk₅ news₅ F₅ N₅ off₅ offJ₅ hax₅ hP₅
                have zJ := (N₅ (J, oJ) (.head _)).1
                have zC := (N₅ (C, oC) (.tail _ (.tail _ (.head _)))).1
                exact ⟨k + 1 - (j + 1), by omega, h₅, tk₅, j + 1, ys', _, news₅, rfl, hlt, rfl, hoJ h₅ zJ, F₅, hoC.ns zC, by simp [hab]; exact hma, fun p hp => N₅ p (by
                  rcases List.mem_cons.mp hp with rfl | hp
                  · exact .tail _ (.head _)
                  · exact .tail _ (.tail _ (.tail _ hp))), off₅, offJ₅, hax₅, hP₅⟩
              refine wpAny_mono (R2 i j v t ys news' J oJ I oI C oC D _ h₃ _ _ hv hlt hP' hoC (by simp [hab]; exact hma) (by simp) F₃ N₃ off' offJ hax' ⟨Ne.symm nIJ, Ne.symm nCJ, Ne.symm nDJ, hIC, hID, hCD⟩) (fun okb s₅ h₅ => ?_) fun _ _ e => e
              cases okb with
              | false =>
                simp only [Bool.false_eq_true, if_false] at h₅ ⊢
                obtain ⟨h₅, tk₅, news₅, rfl, F₅, N₅, off₅, offJ₅, hax₅, hP₅⟩ := h₅
                exact fin ys h₅ tk₅ news₅ F₅ N₅ off₅ offJ₅ hax₅ hP₅
              | true =>
                simp only [if_true] at h₅ ⊢
                refine wpAny_mono h₅ (fun y s₆ h₆ => ?_) fun _ _ e => e
                obtain ⟨h₅, tk₅, news₅, rfl, F₅, N₅, off₅, offJ₅, hax₅, hP₅⟩ := h₆
                have zJ := N₅ (J, oJ) (.head _)
                have zI := N₅ (I, oI) (.tail _ (.head _))
                have zC := N₅ (C, oC) (.tail _ (.tail _ (.head _)))
                have zD := N₅ (D, lst ys) (.tail _ (.tail _ (.tail _ (.head _))))
                have off5 := off₅.mem
                refine append_at (hsz := by show ys.toArray.size ≤ sizeLine; rw [List.size_toArray]; exact hPsz _ _ _ _ hP') zD.1 fun h₆ hs₆ hD₆ => ?_
                refine fin (ys ++ [y]) h₆ _ news₅ (F₅.change hs₆ (Ne.symm hLx.2.2) hD₀) (fun q hq => ?_) off₅ offJ₅ hax₅ hP₅
                rcases List.mem_cons.mp hq with rfl | hq
                · exact ⟨hs₆.extBut _ _ (Ne.symm nDJ) zJ.1, zJ.2⟩
                rcases List.mem_cons.mp hq with rfl | hq
                · exact ⟨hs₆.extBut _ _ hID zI.1, zI.2⟩
                rcases List.mem_cons.mp hq with rfl | hq
                · exact ⟨hs₆.extBut _ _ hCD zC.1, zC.2⟩
                rcases List.mem_cons.mp hq with rfl | hq
                · exact ⟨hD₆.trans (congrArg some (lst_snoc ys y)), Ne.symm hLx.2.2, hD₀⟩
                · have z := N₅ q (.tail _ (.tail _ (.tail _ (.tail _ hq))))
                  exact ⟨hs₆.extBut _ _ (off5 q hq).2.2 z.1, z.2⟩
            · obtain rfl : j = k := Nat.le_antisymm hj (Nat.not_lt.mp hlt)
              refine WJ.done _ _ _ hit' fun h₂ tk₂ hk₂ => ?_
              exact hR' h₂ tk₂ _ ys news' (fr_but F' hk₂ nLJ hJ₀) (hn'.at' fun o e => hk₂ _ o (by simpa using nCJ) e) (news_but N' hk₂ fun p hp => by
                rcases List.mem_cons.mp hp with rfl | hp
                · exact nIJ
                · rcases List.mem_cons.mp hp with rfl | hp
                  · exact nDJ
                  · exact offJ p hp) off' hax' hP'
          · rcases List.mem_cons.mp hp with rfl | hp
            · exact ⟨hup4 _ _ zI, Ne.symm hLx.1, hI₀⟩
            · rcases List.mem_cons.mp hp with rfl | hp
              · exact ⟨hup4 _ _ zD, Ne.symm hLx.2.2, hD₀⟩
              · exact ⟨hup4 _ _ (N₄' p hp).1, (N₄' p hp).2⟩
        refine codeAny_compStart2 (.inr rfl) (inner _ ?_ _ rfl) (WJ.self 0 _ _ _ hJit (inner _ ?_ _ rfl))
        all_goals
          intro h tk mC ys news' F' hn N' o3 hax' hP
          exact ⟨vs.length + 1 - (i + 1), by omega, h, tk, i + 1, ys, mC, news', rfl, hlt, rfl, hoI h (N' (I, oI) List.mem_cons_self).1, F', hn, fun p hp => N' p (List.mem_cons_of_mem _ hp), o3, hax', hPout _ _ _ hP⟩
      · obtain rfl : i = vs.length := Nat.le_antisymm hi (Nat.not_lt.mp hlt)
        refine Wk.done _ _ _ ⟨hit', hls'⟩ fun h₂ tk₂ hk₂ => ?_
        exact hR h₂ tk₂ _ ys news' (fr_but F' hk₂ hLx.1 hI₀) (news_but N' hk₂ fun p hp => by
          rcases List.mem_cons.mp hp with rfl | hp
          · exact Ne.symm hID
          · exact (off3 p hp).1) off' (hn'.at' fun o e => hk₂ _ o (by simpa using Ne.symm hIC) e) hP'
    · rcases List.mem_cons.mp hp with rfl | hp
      · exact ⟨hacc, Ne.symm hLx.2.2, hD₀⟩
      · exact ⟨old _ _ (N p hp).1, (N p hp).2⟩
  refine codeAny_compStart2 (.inl rfl) (loop _ ?_ _ rfl) (Wk.self 0 _ _ _ ⟨hIt, hls.at fun o e => old _ o e⟩ (loop _ ?_ _ rfl))
  all_goals
    intro h tk m' ys news' F' N' o3 hn hP
    exact hRR D C h tk m' ys news' F' N' o3.one hn hC₀ hD₀ (Ne.symm hLx.2.1) (Ne.symm hLx.2.2) hCD (fun p hp => (o3.mem p hp).2.1) (hFin s₁ ⟨s₁.heap, rfl⟩ ys news' hP)
theorem comp2 {elt it0 it1 c : Expr} {a b : Str} {pa pb : Pos} {scope : Scope} {cl : List (Str × Addr)} {pos : Pos} {k : Nat} {Q : Value → Shared → Prop} (_F₀ : Fr h₀ L s.heap m)
    (hclos : closureFor scope env = pure cl) (hcell : ∀ y ∈ scope.names, y.2 ≠ .cell) (hkind : scope.kind = .function)
    (hnames : ∀ y ∈ scope.names, y.2 = .local → scope.names.lookup y.1 = some .local) (hxa : scope.names.lookup a = some .local) (hxb : scope.names.lookup b = some .local) (hab : ¬ a = b) (hk : k ≤ 100000)
    (h : wpAny (model prog w) A (eval it0 env) (Src2 prog w A h₀ L m env c elt it1 a b scope cl k (fun s₂ => FinE h₀ L m s₂ Q)) E s)
    (hs : ∀ x, foldedSetIterable it0 env x = pure x := by intro _; rfl) (hs1 : ∀ (env' : Env) x, foldedSetIterable it1 env' x = pure x := by intro _ _; rfl) :
    wpAny (model prog w) A (eval (cmp2 elt (.Name a pa) it0 (.Name b pb) it1 c scope pos) env) Q E s := by
  rw [eval_ListComp]
  refine wpAny_comprehension_free (use := none) rfl hs hclos hkind hnames (wpAny_mono h (fun xv s₁ h₁ => ?_) fun _ _ e => e)
  refine comp2_core hcell hkind hxa hxb hab hk h₁ ?_ hs1
  intro D C h tk m' ys news' F' N' o1 hn hC₀ hD₀ hCL hDL hCD offC fin
  refine ⟨m', hn, fun h'' hs'' => fin D h'' tk (F'.change hs'' hCL hC₀) (fun p hp => ?_) o1⟩
  refine ⟨hs''.extBut _ _ ?_ (N' p hp).1, (N' p hp).2⟩
  rcases List.mem_cons.mp hp with rfl | hp
  · exact Ne.symm hCD
  · exact offC p hp
theorem Assign_comp2 {elt it0 it1 c : Expr} {a b y : Str} {pa pb py : Pos} {scope : Scope} {cl : List (Str × Addr)} {pos spos : Pos} {k : Nat} {Q : Flow → Shared → Prop} (_F₀ : Fr h₀ L s.heap m) (hLe : env.locals = L)
    (hsw : swapsWith (cmp2 elt (.Name a pa) it0 (.Name b pb) it1 c scope pos) (some (.Name y py)) spos.line env = pure true)
    (hclos : closureFor scope env = pure cl) (hcell : ∀ y ∈ scope.names, y.2 ≠ .cell) (hkind : scope.kind = .function)
    (hnames : ∀ y ∈ scope.names, y.2 = .local → scope.names.lookup y.1 = some .local) (hxa : scope.names.lookup a = some .local) (hxb : scope.names.lookup b = some .local) (hab : ¬ a = b) (hk : k ≤ 100000)
    (hy : env.kindOf y = some .local) (hp : (env.scope.kind == .class || (env.scope.kind == .module && env.locals != env.globals)) = false)
    (h : wpAny (model prog w) A (eval it0 env) (Src2 prog w A h₀ L m env c elt it1 a b scope cl k (fun s₂ => FinA h₀ L m s₂ y Q)) E s)
    (hs : ∀ x, foldedSetIterable it0 env x = pure x := by intro _; rfl) (hs1 : ∀ (env' : Env) x, foldedSetIterable it1 env' x = pure x := by intro _ _; rfl) :
    wpAny (model prog w) A (exec (.Assign [.Name y py] (cmp2 elt (.Name a pa) it0 (.Name b pb) it1 c scope pos) spos) env) Q E s := by
  subst hLe
  rw [exec_Assign_Name_used _ _ _ _ hsw]
  refine wpAny_bind (wpAny_standAt (wpAny_bind ?_))
  show wpAny _ A (do let _ ← comprehension (cmp2 elt (.Name a pa) it0 (.Name b pb) it1 c scope pos) scope env _ (newList []) false (eval it0 env) (some (assign (.Name y py) env))) _ _ s
  refine wpAny_bind (wpAny_mono (wpAny_comprehension_free (use := some (assign (.Name y py) env)) (Q := fun _ s' => Q .next s') rfl hs hclos hkind hnames
    (wpAny_mono h (fun xv s₁ h₁ => ?_) fun _ _ e => e)) (fun _ s' hq => wpAny_pure (wpAny_pure hq)) fun _ _ e => e)
  refine comp2_core hcell hkind hxa hxb hab hk h₁ ?_ hs1
  intro D C h' tk m' ys news' F' N' o1 hn hC₀ hD₀ hCL hDL hCD offC fin
  show wpAny _ A (assign (.Name y py) env (.ref D)) _ _ _
  refine wpAny_assign_Name (wpAny_storeName_local hy F'.ns (fun h₂ hn₂ hs₂ => ?_) hp)
  have hL₀ : h₀.get? env.locals = none := Heap.get?_none_of_le F'.above
  have F₂ : Fr h₀ env.locals h₂ (fun z => if z = y then some (.ref D) else m z) := ⟨hn₂, fun b o e => hs₂.extBut b o (fun q => by rw [q, hL₀] at e; cases e) (F'.keep b o e), F'.above⟩
  refine ⟨m', hn.sameBut hs₂ hCL, fun h'' hs'' => fin D h'' _ (F₂.change hs'' hCL hC₀) (fun p hp => ?_) o1⟩
  have z : h₂.get? p.1 = some p.2 := hs₂.extBut _ _ (N' p hp).2.1 (N' p hp).1
  refine ⟨hs''.extBut _ _ ?_ z, (N' p hp).2⟩
  rcases List.mem_cons.mp hp with rfl | hp
  · exact Ne.symm hCD
  · exact offC p hp
end
end Mine
end
section
set_option maxRecDepth 100000
namespace Mine
open PySem.Spec PySem.Calls PyProof PyProof.Rows PyProof.Rows.LCg in
section
variable {prog : Program} {w : World} {A : Around} {E : Value → Shared → Prop} {s : Shared} {h₀ : Heap} {L : Addr} {m : Str → Option Value} {env : Env}
/-- a comprehension of one clause by what holds after i turns -/
theorem comp_rest {elt : Expr} {x : Str} {scope : Scope} {cl : List (Str × Addr)} {S : Led → Prop} {P : Nat → Value → Prop} {Fin : List Value → Led → Prop} {n : Nat} (K : Nat → List Value → Led → Prop)
    (done : ∀ ys news, K n ys news → Fin ys news)
    (turn : ∀ (i : Nat) (ys : List Value) (news : Led) (v : Value) (I : Addr) (oI : Obj) (C : Addr) (oC : Obj) (D : Addr) (m₂ : Str → Option Value) (h : Heap) (tk : Nat) (E' : Value → Shared → Prop), i < n → K i ys news → P i v → NsObj oC m₂ → m₂ x = some v → Fr h₀ L h m → News h₀ L h ((I, oI) :: (C, oC) :: (D, lst ys) :: news) → Off3 I C D news → ((@Ne Nat I C) ∧ (@Ne Nat I D) ∧ (@Ne Nat C D)) →
      wpAny (model prog w) A (eval elt (compEnvC scope cl C env)) (CompEnd h₀ L m { s with heap := h, toks := tk } I oI C oC D (lst ys) S (fun y news' => K (i + 1) (ys ++ [y]) news')) E' { s with heap := h, toks := tk }) :
    ∀ (k i : Nat) (ys : List Value) (news : Led), i + k = n → K i ys news → CompRest prog w A h₀ L m env elt x scope cl s S P Fin k i ys news
  | 0, i, ys, news, e, hK => by
    obtain rfl : i = n := e
    exact done ys news hK
  | k + 1, i, ys, news, e, hK => by
    intro v I oI C oC D m₂ h tk E' hP hC hx F N off ne
    refine wpAny_mono (turn i ys news v I oI C oC D m₂ h tk E' (by omega) hK hP hC hx F N off ne) (fun y s₂ h₂ => ?_) fun _ _ e => e
    obtain ⟨h', tk', news', e1, F', N', off', hS, r⟩ := h₂
    exact ⟨h', tk', news', e1, F', N', off', hS, comp_rest K done turn k (i + 1) (ys ++ [y]) news' (by omega) r⟩
end
end Mine
end
section
namespace Mine
theorem rst_L3 : True := by
  w_top off
  trivial
open Builtin.Int (intBits)
local macro_rules | `(tactic| walk_at $s) => if ["exec For", "exec For Name Name cons nil"].contains s.getString then `(tactic| (k_here; (rename Fr _ _ _ _ => lF'); (with_unfolding_all refine' For_invVF lF' ?k1 ?k2 ?_; (case k1 => exact rfl); (case k2 => exact rfl); k_whole))) else Lean.Macro.throwUnsupported
local macro_rules | `(tactic| walk_at $s) => if ["pyIter ref", "binaryOp Add ref ref", "eval ListComp"].contains s.getString then `(tactic| refine hold ?_) else Lean.Macro.throwUnsupported
noncomputable abbrev Row := Addr × List Value × Nat
noncomputable def rowRefs (rs : List Row) : List Value := rs.map fun r => .ref r.1
noncomputable def rowsLed (rs : List Row) : Led := rs.map fun r => (r.1, W.listOf r.2.1.toArray r.2.2)
inductive RowsAre : List Row → List (List Int) → Prop
  | nil : RowsAre [] []
  | cons {r : Row} {x : List Int} {rs : List Row} {xs : List (List Int)} : IntsAre r.2.1 x → RowsAre rs xs → RowsAre (r :: rs) (x :: xs)
theorem RowsAre.at : ∀ {rs : List Row} {xs : List (List Int)} {q : Nat} {r : Row}, RowsAre rs xs → rs[q]? = some r → ∃ x, xs[q]? = some x ∧ IntsAre r.2.1 x
  | _, _, _, _, .nil, h => nomatch h
  | _, _, 0, _, .cons h _, e => by cases e; exact ⟨_, rfl, h⟩
  | _, _, _ + 1, _, .cons _ t, e => t.at e
theorem off1_mem {D : Addr} {l : Led} (h : LCg.Off1 D l) : ∀ p ∈ l, p.1 ≠ D := by
  induction l with
  | nil => exact fun _ hp => nomatch hp
  | cons a r ih =>
    have h2 : (@Ne Nat a.1 D) ∧ LCg.Off1 D r := h
    intro p hp
    rcases List.mem_cons.mp hp with rfl | hp
    · exact h2.1
    · exact ih h2.2 p hp
theorem RowsAre.length : ∀ {rs : List Row} {xs : List (List Int)}, RowsAre rs xs → rs.length = xs.length
  | _, _, .nil => rfl
  | _, _, .cons _ h => by rw [List.length_cons, List.length_cons, RowsAre.length h]
theorem RowsAre.append : ∀ {rs qs : List Row} {xs ys : List (List Int)}, RowsAre rs xs → RowsAre qs ys → RowsAre (rs ++ qs) (xs ++ ys)
  | _, _, _, _, .nil, h => h
  | _, _, _, _, .cons a t, h => .cons a (t.append h)
/-- the rows that a row and the kinds below j give -/
noncomputable def grow (cards x : List Int) : Nat → List (List Int)
  | 0 => []
  | j + 1 => grow cards x j ++ (if x.count (j : Int) < cards.count (j : Int) then [x ++ [(j : Int)]] else [])
noncomputable def growAll (cards : List Int) (xs : List (List Int)) : List (List Int) := xs.flatMap fun x => grow cards x 3
noncomputable def ordersAt (cards : List Int) : Nat → List (List Int)
  | 0 => [[]]
  | i + 1 => growAll cards (ordersAt cards i)
set_option maxRecDepth 100000 in
set_option maxHeartbeats 8000000 in
theorem orders_c {w : World} {news : Led} {l : Addr} {vs : List Value} {cards : List Int} {nn : Nat} (hI : IntsAre vs cards) (hcap : ∀ i, i < cards.length → (ordersAt cards i).length ≤ 1000 ∧ ∀ x ∈ ordersAt cards i, x.length ≤ 100) :
    Claim w 148 [.ref l] 3 20 ((l, W.listOf vs.toArray nn) :: news)
      (fun K => ∀ ra nra rs, RowsAre rs (ordersAt cards cards.length) → K (.ref ra) ((ra, W.listOf (rowRefs rs).toArray nra) :: (rowsLed rs ++ ((l, W.listOf vs.toArray nn) :: news)))) := by
  intro p loose mean mg mb dp un gd cn cs aa ccd cl outer A₀ base h₀ L m s Q E B F X N T hkk hdp hu hret
  obtain ⟨sh, sg, sd, sk, so⟩ := s
  dsimp only at F N hret ⊢
  refine wpAny_call ?_
  walk_at "enterC"
  k_steps
  refine ⟨?_⟩
  rename_i g' L' _ tk0 FG _ _ _ lN l1 oc hoc _ _ _ _ _ _ e0 _ le0 ra _ lra _ _ _ _ _ _ _
  have hoc2 : oc.data = Data.cell (some (.ref l)) := hoc
  clear hoc
  refine for_list (σ := Addr × Nat × List Row) (l := l) (nn := nn) (fun _ c => (c.1, W.listOf (rowRefs c.2.2).toArray c.2.1) :: (rowsLed c.2.2 ++ ((L' + 1, oc) :: (l, W.listOf vs.toArray nn) :: news)))
    (fun _ c => [(Str.ofString "rows", .ref c.1)])
    (fun i c => RowsAre c.2.2 (ordersAt cards i)) (ra, _, [(e0, [], 0)]) rfl (fun _ _ => .tail _ (List.mem_append_right _ (.tail _ (.head _)))) (by assumption) (by assumption) (all_cons rfl all_nil)
    (fun _ _ => all_cons (show Str.ofString "rows" ≠ Str.ofString "card" by decide) all_nil) (.cons .nil .nil) ?_ ?_
  · rintro i v ⟨ra2, nra, rs⟩ I it u h2 tk2 hv hP hoff F2 N2
    dsimp only at hP F2 N2 hoff ⊢
    refine hold ?_
    refine ⟨?_⟩
    with_unfolding_all refine wpAny_execs_cons ?_
    refine Assign_comp2 (k := 3) F2 rfl (by rfl) (by rfl) (by decide) (by rfl) (by decide) (by rfl) (by rfl) (by decide) (by decide) (by rfl) (by rfl) ?_
    k_steps
    have hlen := RowsAre.length hP
    refine ⟨ra2, rowRefs rs, nra, (I, it) :: (ra2, W.listOf (rowRefs rs).toArray nra) :: (rowsLed rs ++ ((L' + 1, oc) :: (l, W.listOf vs.toArray nn) :: news)),
      (fun q ys nw => ∃ rs', ys = rowRefs rs' ∧ (∀ p ∈ rowsLed rs', p ∈ nw) ∧ (∀ p ∈ (I, it) :: (ra2, W.listOf (rowRefs rs).toArray nra) :: (rowsLed rs ++ ((L' + 1, oc) :: (l, W.listOf vs.toArray nn) :: news)), p ∈ nw) ∧ RowsAre rs' (growAll cards ((ordersAt cards i).take q)) ∧ rs'.length ≤ 3 * q ∧ rs'.length ≤ 4000 ∧ ∀ p ∈ rowsLed rs', p.1 ≠ I),
      (fun q j ys nw => ∃ rs', ys = rowRefs rs' ∧ (∀ p ∈ rowsLed rs', p ∈ nw) ∧ (∀ p ∈ (I, it) :: (ra2, W.listOf (rowRefs rs).toArray nra) :: (rowsLed rs ++ ((L' + 1, oc) :: (l, W.listOf vs.toArray nn) :: news)), p ∈ nw) ∧ RowsAre rs' (growAll cards ((ordersAt cards i).take q) ++ (ordersAt cards i)[q]?.toList.flatMap fun x => grow cards x j) ∧ rs'.length ≤ 3 * q + j ∧ rs'.length ≤ 4000 ∧ ∀ p ∈ rowsLed rs', p.1 ≠ I),
      rfl, rfl, by assumption, by assumption, .tail _ (.head _), ?_, ?_, ?_, ?_, ?_, ?_, ?_⟩
    · exact ⟨[], rfl, (fun _ h => nomatch h), fun _ h => h, .nil, Nat.le_refl _, Nat.zero_le _, fun _ h => nomatch h⟩
    · rintro q j ys nw ⟨rs', rfl, _, _, _, _, hb, _⟩
      rw [sizeLine_eq]
      simp [rowRefs]
      omega
    · rintro q ys nw ⟨rs', h1, h2, h3, h4, h5, h6⟩
      refine ⟨rs', h1, h2, h3, ?_, h5, h6⟩
      have e : ((ordersAt cards i)[q]?.toList.flatMap fun x => grow cards x 0) = [] := by
        cases (ordersAt cards i)[q]? <;> rfl
      rw [e, List.append_nil]
      exact h4
    · rintro q ys nw ⟨rs', h1, h2, h3, h4, h5, h6⟩
      refine ⟨rs', h1, h2, h3, ?_, by omega, h6⟩
      unfold growAll at h4 ⊢
      rw [List.take_add_one, List.flatMap_append]
      exact h4
    · rintro s9 ⟨h9, rfl⟩ ys nw ⟨rs', rfl, hr1, hr2, hr3, _, _, hrI⟩ D h5 tk5 F5 N5 o5
      have N6 : News g' _ h5 ((I, it) :: (D, W.listOf (rowRefs rs').toArray (rowRefs rs').length) :: (rowsLed rs' ++ ((L' + 1, oc) :: (l, W.listOf vs.toArray nn) :: news))) := drop_to N5 (by
        intro p hp
        rcases List.mem_cons.mp hp with rfl | hp
        · exact .tail _ (hr2 _ (.head _))
        rcases List.mem_cons.mp hp with rfl | hp
        · exact .head _
        rcases List.mem_append.mp hp with hp | hp
        · exact .tail _ (hr1 _ hp)
        · exact .tail _ (hr2 _ (.tail _ (.tail _ (List.mem_append_right _ hp)))))
      have hID : I ≠ D := off1_mem o5 _ (hr2 _ (.head _))
      have hho : ∀ x, ∀ p ∈ (D, x) :: (rowsLed rs' ++ ((L' + 1, oc) :: (l, W.listOf vs.toArray nn) :: news)), p.1 ≠ I := fun x p hp => by
        rcases List.mem_cons.mp hp with rfl | hp
        · exact Ne.symm hID
        rcases List.mem_append.mp hp with hp | hp
        · exact hrI p hp
        · exact hoff p (.tail _ (List.mem_append_right _ hp))
      clear N5
      k_steps
      refine FEnd.mk' (D, _, rs') (by assumption) (by assumption) (hho _) (all_cons rfl all_nil) ?_
      have e : (rowRefs rs).length = (ordersAt cards i).length := by rw [← hlen]; simp [rowRefs]
      rw [e, List.take_length] at hr3
      exact hr3
    · rintro q v9 ys nw I2 oI2 C oC D m2 h5 tk5 E' hv9 hPO hC ha F5 N5
      k_steps
      all_goals assumption
    · rintro q j v9 t9 ys nw J oJ I2 oI2 C oC D m2 h5 tk5 E' hv9 hj hPI hC ha hb F5 N5 o3 oJ9 hax ⟨z1, z2, z3, z4, z5, z6⟩
      obtain ⟨rs', rfl, hr1, hr2, hr3, hr4, hr5, hrI⟩ := hPI
      obtain ⟨r, hr, rfl⟩ : ∃ r, rs[q]? = some r ∧ v9 = .ref r.1 := by
        unfold rowRefs at hv9
        rw [List.getElem?_map] at hv9
        cases e : rs[q]? with
        | none => rw [e] at hv9; cases hv9
        | some r => rw [e] at hv9; exact ⟨r, rfl, (Option.some.inj hv9).symm⟩
      obtain ⟨x, hx, hxr⟩ := hP.at hr
      have hrm : (r.1, W.listOf r.2.1.toArray r.2.2) ∈ nw := hr2 _ (.tail _ (.tail _ (List.mem_append_left _ (List.mem_map.mpr ⟨r, List.mem_of_getElem? hr, rfl⟩))))
      have hcm : (L' + 1, oc) ∈ nw := hr2 _ (.tail _ (.tail _ (List.mem_append_right _ (.head _))))
      have hlm : (l, W.listOf vs.toArray nn) ∈ nw := hr2 _ (.tail _ (.tail _ (List.mem_append_right _ (.tail _ (.head _)))))
      have N6 : News g' _ h5 ((J, oJ) :: (I2, oI2) :: (C, oC) :: (D, LCg.lst (rowRefs rs')) :: (r.1, W.listOf r.2.1.toArray r.2.2) :: (L' + 1, oc) :: (l, W.listOf vs.toArray nn) :: nw) := drop_to N5 (sub_cons (.head _) (sub_cons (.tail _ (.head _)) (sub_cons (.tail _ (.tail _ (.head _))) (sub_cons (.tail _ (.tail _ (.tail _ (.head _)))) (sub_cons (.tail _ (.tail _ (.tail _ (.tail _ hrm)))) (sub_cons (.tail _ (.tail _ (.tail _ (.tail _ hcm)))) (sub_cons (.tail _ (.tail _ (.tail _ (.tail _ hlm)))) (sub_tail (sub_tail (sub_tail (sub_tail sub_refl)))))))))))
      clear N5
      obtain ⟨ra1, rvs, rn⟩ := r
      dsimp only at hxr N6 ha
      have hil : i < cards.length := by
        have := (List.getElem?_eq_some_iff.mp hv).1
        rw [hI.length] at this
        exact this
      have hcp := hcap i hil
      have hrl : rvs.length ≤ 100 := by rw [hxr.length]; exact hcp.2 x (List.mem_of_getElem? hx)
      have hrl2 : rvs.length ≤ 16777216 := by omega
      have hgrow : ∀ b : Bool, (x.count (j : Int) < cards.count (j : Int)) = (b = true) → (growAll cards ((ordersAt cards i).take q) ++ (ordersAt cards i)[q]?.toList.flatMap fun x => grow cards x (j + 1)) =
          (growAll cards ((ordersAt cards i).take q) ++ (ordersAt cards i)[q]?.toList.flatMap fun x => grow cards x j) ++ (if b = true then [x ++ [(j : Int)]] else []) := by
        intro b hb
        rw [hx, List.append_assoc]
        congr 1
        show grow cards x (j + 1) ++ [] = (grow cards x j ++ []) ++ _
        rw [List.append_nil, List.append_nil]
        show grow cards x j ++ (if x.count (j : Int) < cards.count (j : Int) then [x ++ [(j : Int)]] else []) = _
        congr 1
        simp only [hb]
      k_steps
      · refine ⟨?_⟩
        rename Fr _ _ _ _ => F9
        rename News _ _ _ _ => N9
        rename_i a9 l9 hp9 l19
        have hlt9 := fun p hp => Heap.lt_size (N9 p hp).1
        refine add_lists (vs := rvs) (ws := [.int (j : Int) t9]) F9 N9 (News.isList N9 (.tail _ (.tail _ (.tail _ (.tail _ (.tail _ (.head _))))))) (News.isList N9 (.head _)) ?_ (hsz := by rw [sizeLine_eq]; simp; omega)
        intro h9 F10 N10
        have up := fun p (hp : p ∈ nw) => hlt9 p (.tail _ (.tail _ (.tail _ (.tail _ (.tail _ (.tail _ (.tail _ (.tail _ hp))))))))
        have zJ := hlt9 (J, oJ) (.tail _ (.head _))
        have zI := hlt9 (I2, oI2) (.tail _ (.tail _ (.head _)))
        have zC := hlt9 (C, oC) (.tail _ (.tail _ (.tail _ (.head _))))
        have zD := hlt9 (D, _) (.tail _ (.tail _ (.tail _ (.tail _ (.head _)))))
        have hq : q < 1000 := by
          have := (List.getElem?_eq_some_iff.mp hx).1
          have := hcp.1
          omega
        refine ⟨h9, _, (hp9.objs.size, W.listOf (rvs ++ [Value.int (j : Int) t9]).toArray 0) :: nw, rfl, F10, drop_to N10 ?_, LCg.Off3.of ?_, ?_, .tail _ hax, rs' ++ [(hp9.objs.size, rvs ++ [Value.int (j : Int) t9], 0)], ?_, ?_, fun p hp => .tail _ (hr2 p hp), ?_, ?_, ?_, ?_⟩
        · exact sub_cons (.tail _ (.tail _ (.head _))) (sub_cons (.tail _ (.tail _ (.tail _ (.head _)))) (sub_cons (.tail _ (.tail _ (.tail _ (.tail _ (.head _))))) (sub_cons (.tail _ (.tail _ (.tail _ (.tail _ (.tail _ (.head _)))))) (sub_cons (.head _) (sub_tail (sub_tail (sub_tail (sub_tail (sub_tail (sub_tail (sub_tail (sub_tail (sub_tail sub_refl)))))))))))))
        · intro p hp
          rcases List.mem_cons.mp hp with rfl | hp
          · exact ⟨Nat.ne_of_gt zI, Nat.ne_of_gt zC, Nat.ne_of_gt zD⟩
          · exact o3.mem p hp
        · intro p hp
          rcases List.mem_cons.mp hp with rfl | hp
          · exact Nat.ne_of_gt zJ
          · exact oJ9 p hp
        · simp [rowRefs]
        · intro p hp
          unfold rowsLed at hp
          rw [List.map_append] at hp
          rcases List.mem_append.mp hp with hp | hp
          · exact .tail _ (hr1 p hp)
          · rw [List.mem_singleton.mp hp]; exact .head _
        · rw [hgrow true (propext ⟨fun _ => rfl, fun _ => Int.ofNat_lt.mp (by assumption)⟩)]
          exact hr3.append (.cons (hxr.append (IntsAre.cons _ t9 IntsAre.nil)) .nil)
        · rw [List.length_append, List.length_singleton]; omega
        · rw [List.length_append, List.length_singleton]; omega
        · intro p hp
          unfold rowsLed at hp
          rw [List.map_append] at hp
          rcases List.mem_append.mp hp with hp | hp
          · exact hrI p hp
          · rw [List.mem_singleton.mp hp]; exact Nat.ne_of_gt (up _ (hr2 _ (.head _)))
      · have hf : (x.count (j : Int) < cards.count (j : Int)) = (false = true) := by
          refine propext ⟨fun h => absurd (Int.ofNat_lt.mpr h) (by assumption), fun h => nomatch h⟩
        refine ⟨_, _, nw, rfl, by assumption, drop_to (by assumption) (sub_cons (.head _) (sub_cons (.tail _ (.head _)) (sub_cons (.tail _ (.tail _ (.head _))) (sub_cons (.tail _ (.tail _ (.tail _ (.head _)))) (sub_tail (sub_tail (sub_tail (sub_tail (sub_tail (sub_tail (sub_tail sub_refl))))))))))), o3, oJ9, hax, rs', rfl, hr1, hr2, ?_, by omega, hr5, hrI⟩
        rw [hgrow false hf]
        simpa using hr3
  · rintro ⟨ra2, nra, rs⟩ u h2 tk2 hP F2 N2
    dsimp only at hP F2 N2 ⊢
    k_steps
    rw [hI.length] at hP
    refine hret ra2 nra rs hP _ _ (by assumption) (drop_to (by assumption) (sub_cons (.head _) fun p hp => .tail _ ?_))
    rcases List.mem_append.mp hp with hp | hp
    · exact List.mem_append_left _ hp
    · exact List.mem_append_right _ (.tail _ hp)
end Mine
end
section
set_option maxRecDepth 100000
namespace Mine
noncomputable def theDef (xs : List Stmt) : List Stmt × Scope := match xs with
  | Stmt.FunctionDef _ _ b _ _ _ sc _ _ _ :: _ => (b, sc)
  | _ => ([], ⟨.function, [], false, false, []⟩)
noncomputable abbrev lawParts : { p : List Stmt × Scope // theDef ((PySem.Challenge.pw_ty0051_01.main.body : List Stmt).drop 21) = p } :=
  ⟨_, by conv => { lhs; whnf }⟩
noncomputable abbrev lawBody : List Stmt := lawParts.1.1
noncomputable abbrev lawScope : Scope := lawParts.1.2
noncomputable abbrev lawEnv (L fa : Addr) (cd : Value) : Env := envOfC (Str.ofString "law") lawScope L fa cd
noncomputable abbrev lawA (L fa : Addr) (cd : Value) : Around := callerA.deeper (lawEnv L fa cd)
noncomputable def nth (l : List Stmt) (k : Nat) : Stmt := match l.drop k with
  | st :: _ => st
  | [] => .Pass ⟨0, 0, 0, 0⟩
noncomputable abbrev lawStmt (k : Nat) : Stmt := nth lawBody k
open PySem.Spec PySem.Calls PyProof PyProof.Rows PyProof.Rows.LCg in
section
variable {prog : Program} {w : World} {A : Around} {E : Value → Shared → Prop} {s : Shared} {h₀ : Heap} {L : Addr} {m : Str → Option Value} {env : Env}
/-- the end of a turn that leaves the ledger as it was -/
structure VEnd (h₀ : Heap) (L : Addr) (m : Str → Option Value) (s₁ : Shared) (news : Led) (R : Value → Prop) (y : Value) (s' : Shared) : Prop where
  is : ∃ h' tk', s' = { s₁ with heap := h', toks := tk' } ∧ Fr h₀ L h' m ∧ News h₀ L h' news ∧ R y
theorem VEnd.mk' {h₀ : Heap} {L : Addr} {m : Str → Option Value} {s₁ : Shared} {news : Led} {R : Value → Prop} {y : Value} {h' : Heap} {tk' : Nat} (F : Fr h₀ L h' m) (N : News h₀ L h' news) (r : R y) : VEnd h₀ L m s₁ news R y { s₁ with heap := h', toks := tk' } := ⟨h', tk', rfl, F, N, r⟩
/-- the turn of a comprehension whose elements are values -/
noncomputable abbrev VTurn (prog : Program) (w : World) (A : Around) (h₀ : Heap) (L : Addr) (m : Str → Option Value) (env : Env) (elt : Expr) (x : Str) (scope : Scope) (cl : List (Str × Addr)) (s₁ : Shared) (news : Led) (n : Nat) (P R : Nat → Value → Prop) : Prop :=
  ∀ (i : Nat) (v : Value) (I : Addr) (oI : Obj) (C : Addr) (oC : Obj) (D : Addr) (oD : Obj) (m₂ : Str → Option Value) (h : Heap) (tk : Nat) (E' : Value → Shared → Prop), i < n → P i v → NsObj oC m₂ → m₂ x = some v → Fr h₀ L h m → News h₀ L h ((I, oI) :: (C, oC) :: (D, oD) :: news) →
    ((@Ne Nat I C) ∧ (@Ne Nat I D) ∧ (@Ne Nat C D)) → wpAny (model prog w) A (eval elt (compEnvC scope cl C env)) (VEnd h₀ L m { s₁ with heap := h, toks := tk } ((I, oI) :: (C, oC) :: (D, oD) :: news) (R i)) E' { s₁ with heap := h, toks := tk }
noncomputable abbrev VFin (h₀ : Heap) (L : Addr) (m : Str → Option Value) (s₁ : Shared) (news : Led) (n : Nat) (R : Nat → Value → Prop) (Q : Value → Shared → Prop) : Prop :=
  ∀ (ys : List Value) (D : Addr) (h : Heap) (tk : Nat), ys.length = n → (∀ i y, ys[i]? = some y → R i y) → Fr h₀ L h m → News h₀ L h ((D, W.listOf ys.toArray ys.length) :: news) → (∀ p ∈ news, @Ne Nat p.1 D) → Q (.ref D) { s₁ with heap := h, toks := tk }
structure VSrc (prog : Program) (w : World) (A : Around) (h₀ : Heap) (L : Addr) (m : Str → Option Value) (env : Env) (elt : Expr) (x : Str) (scope : Scope) (cl : List (Str × Addr)) (Q : Value → Shared → Prop) (xv : Value) (s₁ : Shared) : Prop where
  is : ∃ (n : Nat) (P R : Nat → Value → Prop) (news : Led), A.handled = none ∧ Fr h₀ L s₁.heap m ∧ News h₀ L s₁.heap news ∧ n ≤ sizeLine ∧
    ((∃ (ax : Addr) (vs : List Value) (nn : Nat), xv = .ref ax ∧ (ax, W.listOf vs.toArray nn) ∈ news ∧ vs.length = n ∧ P = fun i v => vs[i]? = some v) ∨
      (∃ (r : Addr) (a b c : Int) (t u v : Tok), xv = .ref r ∧ IsRange s₁.heap r a b c t u v ∧ Builtin.Range.small a b c = true ∧ Builtin.Range.rangeSize a b c = ((n : Nat) : Int) ∧ P = fun i v => ∃ t, v = .int (a + (i : Int) * c) t)) ∧
    VTurn prog w A h₀ L m env elt x scope cl s₁ news n P R ∧ VFin h₀ L m s₁ news n R Q
theorem off3_cons {I C D : Addr} {p : Addr × Obj} {l : Led} (h : Off3 I C D (p :: l)) : Off3 I C D l := h.2
theorem vals_snoc {R : Nat → Value → Prop} {ys : List Value} {i : Nat} {y : Value} (hl : ys.length = i) (h : ∀ j z, ys[j]? = some z → R j z) (hy : R i y) : (ys ++ [y]).length = i + 1 ∧ ∀ j z, (ys ++ [y])[j]? = some z → R j z := by
  refine ⟨by rw [List.length_append, hl]; rfl, fun j z hj => ?_⟩
  by_cases q : j < ys.length
  · rw [List.getElem?_append_left q] at hj; exact h j z hj
  · rw [List.getElem?_append_right (Nat.not_lt.mp q)] at hj
    have : j - ys.length = 0 := by
      cases e : j - ys.length with
      | zero => rfl
      | succ k => rw [e] at hj; cases hj
    rw [this] at hj
    obtain rfl : j = i := by omega
    cases hj; exact hy
theorem comp_vals {elt iter : Expr} {x : Str} {px : Pos} {scope : Scope} {cl : List (Str × Addr)} {pos : Pos} {Q : Value → Shared → Prop} (_F₀ : Fr h₀ L s.heap m)
    (hclos : closureFor scope env = pure cl) (hcell : ∀ y ∈ scope.names, y.2 ≠ .cell) (hkind : scope.kind = .function)
    (hnames : ∀ y ∈ scope.names, y.2 = .local → scope.names.lookup y.1 = some .local) (hx : scope.names.lookup x = some .local)
    (h : wpAny (model prog w) A (eval iter env) (VSrc prog w A h₀ L m env elt x scope cl Q) E s)
    (hs : ∀ x, foldedSetIterable iter env x = pure x := by intro _; rfl) :
    wpAny (model prog w) A (eval (.ListComp elt [⟨.Name x px, iter, [], 0⟩] scope pos) env) Q E s := by
  rw [eval_ListComp]
  refine wpAny_comprehension_free (use := none) rfl hs hclos hkind hnames (wpAny_mono h (fun xv s₁ h₁ => ?_) fun _ _ e => e)
  obtain ⟨n, P, R, news, hh, F, N, hn, hsrc, ht, hf⟩ := h₁.is
  have rest : ∀ (S : Led → Prop) (g : Heap), S news → CompRest prog w A h₀ L m env elt x scope cl { s₁ with heap := g } S P (fun ys nw => ys.length = n ∧ (∀ i y, ys[i]? = some y → R i y) ∧ nw = news) n 0 [] news := by
    intro S g hS
    refine comp_rest (fun i ys nw => ys.length = i ∧ (∀ j y, ys[j]? = some y → R j y) ∧ nw = news) (fun _ _ h => h) ?_ n 0 [] news (Nat.zero_add n) ⟨rfl, (fun _ _ h => nomatch h), rfl⟩
    rintro i ys nw v I oI C oC D m₂ h tk E' hi ⟨hl, hR, rfl⟩ hP hC hx F N off ne
    refine wpAny_mono (ht i v I oI C oC D (lst ys) m₂ h tk E' hi hP hC hx F N ne) (fun y s₂ h₂ => ?_) fun _ _ e => e
    obtain ⟨h', tk', rfl, F', N', r⟩ := h₂.is
    exact ⟨h', tk', nw, rfl, F', N', off, hS, (vals_snoc hl hR r).1, (vals_snoc hl hR r).2, rfl⟩
  have fin : ∀ D C h tk m' ys news', Fr h₀ L h m → News h₀ L h ((D, lst ys) :: news') → Off1 D news' → h.Ns C m' → h₀.get? C = none → h₀.get? D = none → C ≠ L → D ≠ L → C ≠ D → (∀ p ∈ news', p.1 ≠ C) →
      (ys.length = n ∧ (∀ i y, ys[i]? = some y → R i y) ∧ news' = news) → ∃ m', h.Ns C m' ∧ ∀ h'', Heap.SameBut C h h'' → Q (.ref D) { s₁ with heap := h'', toks := tk } := by
    rintro D C h tk m' ys news' F' N' o1 hn hC₀ hD₀ hCL hDL hCD offC ⟨h1, h2, rfl⟩
    refine ⟨m', hn, fun h'' hs'' => hf ys D h'' tk h1 h2 (F'.change hs'' hCL hC₀) (fun p hp => ?_) (off1_mem o1)⟩
    refine ⟨hs''.extBut _ _ ?_ (N' p hp).1, (N' p hp).2⟩
    rcases List.mem_cons.mp hp with rfl | hp
    · exact Ne.symm hCD
    · exact offC p hp
  rcases hsrc with ⟨ax, vs, nn, rfl, hm, rfl, rfl⟩ | ⟨r, a, b, c, t, u, v, rfl, hr, hsm, hrn, rfl⟩
  · have S : SrcAt h₀ ax vs.toArray news := .inr ⟨_, hm, rfl, _, rfl⟩
    have hl := S.list F.keep N
    have hlt : ax < s₁.heap.objs.size := by obtain ⟨_, e, _⟩ := hl; exact Heap.lt_size e
    refine wpAny_pyIter_list hl ?_
    have up : ∀ b o, s₁.heap.get? b = some o → (s₁.heap.push { cls := .type "list_iterator", data := .fields #[.ref ax, .int 0 0] }).get? b = some o := fun b o e => Heap.get?_push_of_some _ e
    have Wk := Walks.list (prog := prog) (w := w) hh s₁.heap.objs.size ax (Nat.ne_of_lt hlt) vs.toArray
    have hlen : vs.toArray.size = vs.length := by simp
    rw [hlen] at Wk
    simp only [List.getElem?_toArray] at Wk
    refine block_U Wk hn (fun i h st => by obtain ⟨o, e, _⟩ := st.1; exact ⟨o, e⟩) list_st hcell hkind hx ⟨⟨_, Heap.get?_push_size _ rfl, rfl, rfl⟩, hl.push _⟩ (fun b hb => ?_)
      (F.keeps up) (N.grown up) (Nat.ne_of_lt F.ns.lt) (next_is_new F) (fun p hp => Nat.ne_of_lt (Heap.lt_size (N p hp).1)) S (rest _ _ S) ?_
    · show b < (s₁.heap.push _).objs.size
      rw [Heap.size_push]
      rcases List.mem_cons.mp hb with rfl | hb
      · exact Nat.lt_succ_self _
      · rw [List.mem_singleton.mp hb]; exact Nat.lt_succ_of_lt hlt
    · exact fin
  · refine wpAny_pyIter_range hr hsm ?_
    let W0 : Walks prog w A s₁.heap.objs.size [s₁.heap.objs.size] [s₁.heap.objs.size] n (fun i v => i < n ∧ ∃ t, v = .int (a + i * c) t) (fun i h => IsRangeIter h s₁.heap.objs.size (a + (i : Nat) * c) ((n : Int) - (i : Nat)) c) := (Walks.range hh _ a c n).bound
    have Wk : Walks prog w A s₁.heap.objs.size [s₁.heap.objs.size] [s₁.heap.objs.size] n (fun i v => ∃ t, v = .int (a + (i : Int) * c) t) (fun i h => IsRangeIter h s₁.heap.objs.size (a + (i : Nat) * c) ((n : Int) - (i : Nat)) c) :=
      { sub := W0.sub, frame := W0.frame, done := W0.done, self := W0.self,
        item := fun i s Q E hi st hQ => W0.item i s Q E hi st fun v h' tk hP => hQ v h' tk hP.2 }
    refine block_U (S := fun _ => True) Wk hn (fun i h st => ⟨_, st⟩) (fun i h h' o nw st e e' _ _ _ => by
      have st' : h.get? s₁.heap.objs.size = some _ := st
      show h'.get? s₁.heap.objs.size = some _
      rw [e', ← e]; exact st') hcell hkind hx (by show IsRangeIter _ _ _ _ _; rw [hrn]; simpa using Heap.get?_push_size _ rfl) (fun b hb => ?_)
      (F.keeps fun _ _ e => Heap.get?_push_of_some _ e) (N.grown fun _ _ e => Heap.get?_push_of_some _ e) (Nat.ne_of_lt F.ns.lt) (next_is_new F) (fun p hp => Nat.ne_of_lt (Heap.lt_size (N p hp).1)) trivial (rest _ _ trivial) ?_
    · rw [List.mem_singleton.mp hb]
      show s₁.heap.objs.size < (s₁.heap.push _).objs.size
      rw [Heap.size_push]; exact Nat.lt_succ_self _
    · exact fin
end
end Mine
end
section
namespace Mine
theorem rst_M1 : True := by
  w_top off
  trivial
local macro_rules | `(tactic| walk_at $s) => if ["eval ListComp", "subscriptTail Name Slice ref ref", "subscriptTail List Slice ref ref", "subscriptTail", "call builtin:len", "binaryOp Add ref ref"].contains s.getString then `(tactic| refine hold ?_) else Lean.Macro.throwUnsupported
theorem pick5 {vs : List Value} : slicePick vs.toArray none (some 5) none = (vs.take 5).toArray := by
  by_cases h : 5 ≤ vs.length
  · have := slicePick_upto vs.toArray 5 (by simpa using h)
    simpa using this
  · have e : sliceBounds none (some 5) none vs.toArray.size = sliceBounds none (some (vs.length : Int)) none vs.toArray.size := by
      have h1 : ¬ ((5 : Int) < 0) := by decide
      have h2 : ¬ ((vs.length : Int) < 0) := by omega
      simp only [sliceBounds, Option.getD_none, h1, h2, if_false, show (1 : Int) > 0 by decide, if_true, List.size_toArray]
      congr 2
      omega
    have h3 : slicePick vs.toArray none (some 5) none = slicePick vs.toArray none (some (vs.length : Int)) none := by
      unfold slicePick; rw [e]
    rw [h3, slicePick_upto vs.toArray vs.length (by simp)]
    rw [List.take_of_length_le (show vs.length ≤ 5 by omega)]
    simp
theorem ints_get {vs : List Value} {ns : List Int} (h : IntsAre vs ns) : ∀ {i : Nat} {v : Value}, vs[i]? = some v → ∃ (n : Int) (t : Tok), ns[i]? = some n ∧ v = Value.int n t := by
  induction h with
  | nil => intro i v e; simp at e
  | cons n t _ ih =>
    intro i v e
    cases i with
    | zero => exact ⟨n, t, rfl, (Option.some.inj e).symm⟩
    | succ i => exact ih (by simpa using e)
theorem ints_of : ∀ {ys : List Value} {zs : List Int}, ys.length = zs.length → (∀ (i : Nat) (y : Value), ys[i]? = some y → ∃ (n : Int) (t : Tok), zs[i]? = some n ∧ y = Value.int n t) → IntsAre ys zs
  | [], [], _, _ => .nil
  | y :: ys, z :: zs, h, k => by
    obtain ⟨n, t, e, rfl⟩ := k 0 y rfl
    cases e
    exact .cons _ _ (ints_of (Nat.succ.inj h) fun i y e => k (i + 1) y e)
noncomputable def cardsOf (script : List Int) : List Int := (script.take 5 ++ [1, 0, 0, 1, 0].drop (min 5 script.length)).map fun x => Int.fmod x 3
set_option maxRecDepth 100000 in
set_option maxHeartbeats 8000000 in
theorem law_s0 {w : World} {p : Program} {loose : List Str} {mean : ExcName → Option Value} {mg mb : Str → Option Value} {L fa : Addr} {cd : Value} {h₀ : Heap} {m : Str → Option Value} {s : Shared} {Q : Flow → Shared → Prop} {E : Value → Shared → Prop} {sa : Addr} {svs : List Value} {script : List Int} {oc : Obj} {dc : Option Value} {news : Led}
    (B : Below callerA h₀ [] h₀) (F : Fr h₀ L s.heap (nm m [(Str.ofString "script", .ref sa)])) (X : (heapK w.params).In h₀) (T : Top p loose mean mg mb h₀) (N : News h₀ L s.heap ((L + 1, oc) :: news)) (hoc : oc.data = .cell dc) (hs : h₀.IsList sa svs.toArray) (hI : IntsAre svs script) (hlen : script.length ≤ 63)
    (hoff : ∀ p ∈ news, @Ne Nat p.1 (L + 1))
    (K : ∀ (h' : Heap) (tk' : Nat) (ca : Addr) (cvs : List Value) (oc' : Obj), oc'.data = .cell (some (.ref ca)) → IntsAre cvs (cardsOf script) → Fr h₀ L h' (nm m [(Str.ofString "script", .ref sa)]) → News h₀ L h' ((ca, W.listOf cvs.toArray cvs.length) :: (L + 1, oc') :: news) → Q .next { s with heap := h', toks := tk' }) :
    wpAny (model prg w) (lawA L fa cd) (exec (lawStmt 0) (lawEnv L fa cd)) Q E s := by
  dsimp only [lawEnv, lawA, lawScope, lawBody, lawStmt, lawParts, nth, List.drop]
  k_steps
  refine ⟨?_⟩
  have hI5 := hI.take 5
  have hl5 : (svs.take 5).length ≤ 16777216 := by rw [hI5.length, List.length_take]; omega
  refine comp_vals F (by with_unfolding_all rfl) (by decide) (by rfl) (by decide) (by rfl) ?_
  k_steps
  refine ⟨?_⟩
  refine slice_list (by assumption) (by assumption) (Fr.lst F hs) .none (.int _ _) ?_ (hsz := by rw [List.size_toArray, hI.length, sizeLine_eq]; omega)
  rw [pick5]
  intro h1 F1 N1
  k_steps
  refine ⟨?_⟩
  refine slice_list (by assumption) (by assumption) (Fr.lst (by assumption) hs) .none (.int _ _) ?_ (hsz := by rw [List.size_toArray, hI.length, sizeLine_eq]; omega)
  rw [pick5]
  intro h2 F2 N2
  k_steps
  refine ⟨?_⟩
  refine PyProof.Rows.len_list (News.isList (by assumption) (.head _)) (by simp; omega) ?_
  rw [List.size_toArray, hI5.length, List.length_take]
  k_steps
  refine ⟨?_⟩
  refine kba_turn (value' := PySem.Expr.Name (PySem.Str.ofString "_") ⟨0, 0, 0, 0⟩) (fun _ => rfl) ?_
  refine slice_list (by assumption) (by assumption) (News.isList (by assumption) (.tail _ (.head _))) (.int _ _) .none ?_ (hsz := by rw [sizeLine_eq]; simp)
  rw [slicePick_from _ (min 5 script.length) (by simp; omega)]
  intro h3 F3 N3
  k_steps
  refine ⟨?_⟩
  refine add_lists_ints (vs := svs.take 5) (ns := script.take 5) (ms := [1, 0, 0, 1, 0].drop (min 5 script.length)) (by assumption) (by assumption) (News.isList (by assumption) (.tail _ (.tail _ (.tail _ (.head _))))) (News.isList (by assumption) (.head _)) hI5 (IntsAre.drop (.cons _ _ (.cons _ _ (.cons _ _ (.cons _ _ (.cons _ _ .nil))))) _) ?_ (hsz := by rw [sizeLine_eq]; simp; omega)
  intro h4 F4 N4 hK
  have hKl : (List.take 5 script ++ List.drop (min 5 script.length) [1, 0, 0, 1, 0]).length = 5 := by
    simp; omega
  refine ⟨5, _, (fun i y => ∃ n t, (cardsOf script)[i]? = some n ∧ y = Value.int n t), (_, _) :: (L + 1, oc) :: news, rfl, F4, drop_to N4 (sub_cons (.head _) (sub_tail (sub_tail (sub_tail (sub_tail (sub_tail (sub_tail sub_refl))))))), by rw [sizeLine_eq]; omega, .inl ⟨_, _, 0, rfl, .head _, by rw [hK.length, hKl], rfl⟩, ?_, ?_⟩
  · intro i v I oI C oC D oD m2 h tk E' hi hv hC hx F5 N5 hne
    obtain ⟨n, t, hn, rfl⟩ := ints_get hK hv
    k_steps
    exact VEnd.mk' (by assumption) (by assumption) ⟨_, _, by unfold cardsOf; rw [List.getElem?_map]; exact (congrArg (Option.map fun x : Int => x.fmod 3) hn), rfl⟩
  · intro ys D h tk hl hR F5 N5 hD
    have hys : IntsAre ys (cardsOf script) := ints_of (by rw [hl]; unfold cardsOf; rw [List.length_map, hKl]) hR
    have hne1 : @Ne Nat (L + 1) D := hD _ (.tail _ (.head _))
    refine storeX_C F5 (drop_to N5 (sub_cons (.head _) (sub_tail (sub_tail sub_refl)))) (by rfl) (.tail (Ne.symm hne1) (.head hoff)) hoc ?_ (by rfl) (by rfl)
    intro h6 o6 F6 N6 e6
    exact K _ _ _ _ _ e6 hys F6 (by rw [hl] at *; exact N6)
end Mine
end
section
set_option maxRecDepth 100000
namespace Mine
/-- the text of these signs -/
noncomputable def S (l : List Nat) : Str := ⟨l.toArray⟩
theorem S_len (l : List Nat) : (S l).length = l.length := by simp [S, Str.length]
theorem S_app (a b : List Nat) : S a ++ S b = S (a ++ b) := by
  show (⟨a.toArray ++ b.toArray⟩ : Str) = ⟨(a ++ b).toArray⟩
  congr 1; simp
noncomputable def rep (l : List Nat) (n : Nat) : List Nat := (List.replicate n l).flatten
theorem rep_len (l : List Nat) (n : Nat) : (rep l n).length = n * l.length := by
  unfold rep; simp [List.length_flatten]
theorem foldl_app (ls : List (Array Nat)) (a : Array Nat) : ls.foldl (· ++ ·) a = a ++ (ls.map Array.toList).flatten.toArray := by
  induction ls generalizing a with
  | nil => simp
  | cons x r ih => rw [List.foldl_cons, ih, List.map_cons, List.flatten_cons, Array.append_assoc]; congr 1; apply Array.ext'; simp
theorem mul_eq (l : List Nat) (k : Nat) : Txt.mul (S l) (k : Int) = S (rep l k) := by
  unfold Txt.mul
  by_cases h : (k : Int) < 1
  · obtain rfl : k = 0 := by omega
    rw [if_pos h]; rfl
  · rw [if_neg h]
    by_cases h2 : ((k : Int) == 1 || (S l).length == 0) = true
    · rw [if_pos h2]
      rcases Bool.or_eq_true _ _ ▸ h2 with h3 | h3
      · obtain rfl : k = 1 := by have := eq_of_beq h3; omega
        show S l = S (rep l 1)
        unfold rep; simp
      · have : l = [] := by
          have := eq_of_beq h3
          rw [S_len] at this
          exact List.length_eq_zero_iff.mp this
        subst this
        unfold rep; simp
    · rw [if_neg h2, foldl_app]
      unfold rep S
      simp
noncomputable def joinL (sep : List Nat) : List (List Nat) → List Nat
  | [] => []
  | x :: r => x ++ (r.map (sep ++ ·)).flatten
theorem joinL_eq (sep : List Nat) (xs : List (List Nat)) : Txt.join (S sep) (xs.map S) = S (joinL sep xs) := by
  have key : ∀ (r : List (List Nat)) (a : List Nat), (r.map S).foldl (fun acc p => acc ++ (S sep).cps ++ p.cps) a.toArray = (a ++ (r.map (sep ++ ·)).flatten).toArray := by
    intro r
    induction r with
    | nil => intro a; simp
    | cons x r ih =>
      intro a
      have e : a.toArray ++ (S sep).cps ++ (S x).cps = (a ++ (sep ++ x)).toArray := by simp [S]
      rw [List.map_cons, List.foldl_cons, e, ih]
      simp
  cases xs with
  | nil => rfl
  | cons x r =>
    show (⟨((r.map S)).foldl _ (S x).cps⟩ : Str) = _
    have := key r x
    unfold joinL
    exact congrArg Str.mk this
theorem joinL_len (sep : List Nat) (xs : List (List Nat)) (n : Nat) (h : ∀ x ∈ xs, x.length ≤ n) : (joinL sep xs).length ≤ xs.length * (n + sep.length) := by
  have key : ∀ r : List (List Nat), (∀ x ∈ r, x.length ≤ n) → ((r.map (sep ++ ·)).flatten).length ≤ r.length * (n + sep.length) := by
    intro r
    induction r with
    | nil => intro _; simp
    | cons x r ih =>
      intro hr
      have h1 := hr x (.head _)
      have h2 := ih fun y hy => hr y (.tail _ hy)
      rw [List.map_cons, List.flatten_cons, List.length_append, List.length_append, List.length_cons, Nat.succ_mul]
      omega
  cases xs with
  | nil => simp [joinL]
  | cons x r =>
    have h1 := h x (.head _)
    have h2 := key r fun y hy => h y (.tail _ hy)
    unfold joinL
    rw [List.length_append, List.length_cons, Nat.succ_mul]
    omega
theorem strs_of : ∀ {ys : List Value} {zs : List Str}, ys.length = zs.length → (∀ (i : Nat) (y : Value), ys[i]? = some y → ∃ (n : Str) (t : Tok), zs[i]? = some n ∧ y = Value.str n t) → StrsAre ys zs
  | [], [], _, _ => .nil
  | y :: ys, z :: zs, h, k => by
    obtain ⟨n, t, e, rfl⟩ := k 0 y rfl
    cases e
    exact .cons _ _ (strs_of (Nat.succ.inj h) fun i y e => k (i + 1) y e)
section
variable {prog : Program} {w : World} {A : Around} {E : Value → Shared → Prop} {s : Shared} {x y : Str} {t u : Tok} {Q : Value → Shared → Prop}
theorem mul_S {l : List Nat} {n : Int} (k : Nat) (hx : x = S l) (hn : n = (k : Int)) (hl : l.length ≤ 4095) (hk : k ≤ 4095) (h : ∀ t' tk, Q (.str (S (rep l k)) t') { s with toks := tk }) :
    wpAny (model prog w) A (binaryOp .Mult (.str x t) (.int n u)) Q E s := by
  subst hx hn
  refine SB.mul (mulOk_of 4095 4095 (by rw [S_len]; exact hl) (by omega) (by omega) (by decide) (by decide)) ?_
  rw [mul_eq]
  exact h
theorem add_S {a b : List Nat} (hx : x = S a) (hy : y = S b) (hl : a.length ≤ 1000000) (hk : b.length ≤ 1000000) (h : ∀ t' tk, Q (.str (S (a ++ b)) t') { s with toks := tk }) :
    wpAny (model prog w) A (binaryOp .Add (.str x t) (.str y u)) Q E s := by
  subst hx hy
  refine SB.add ?_ (by rw [S_len, S_len, sizeLine_eq]; omega)
  rw [S_app]
  exact h
theorem join_S {D : Addr} {ys : List Value} {sep : List Nat} {xs : List (List Nat)} (hx : x = S sep) (hl : s.heap.IsList D ys.toArray) (hi : StrsAre ys (xs.map S)) (hs : sep.length ≤ 16) (hn : ∀ z ∈ xs, z.length ≤ 16) (hxl : xs.length ≤ 1000)
    (h : ∀ t' k, Q (.str (S (joinL sep xs)) t') { s with toks := k }) : wpAny (model prog w) A (call (.builtin "str.join") [.str x t, .ref D]) Q E s := by
  subst hx
  refine join_listW hl hi (by rw [S_len]; exact hs) ?_ ?_
  · have : ∀ zs : List (List Nat), (∀ z ∈ zs, z.length ≤ 16) → ((zs.map S).map (·.length)).sum ≤ zs.length * 16 := by
      intro zs
      induction zs with
      | nil => intro _; simp
      | cons z r ih =>
        intro hz
        have h1 := hz z (.head _)
        have h2 := ih fun q hq => hz q (.tail _ hq)
        rw [List.map_cons, List.map_cons, List.sum_cons, List.length_cons, Nat.succ_mul, S_len]
        omega
    have h2 := this xs hn
    rw [List.length_map]
    omega
  · rw [joinL_eq]
    exact h
end
open PySem.Builtin.Int (intBits) in
theorem pow_c {prog : Program} {w : World} {A : Around} {E : Value → Shared → Prop} {s : Shared} {a n : Int} {t u : Tok} {Q : Value → Shared → Prop} (k : Nat) (hn : n = (k : Int)) (hb : intBits a ≤ 10000) (hk : k ≤ 20) (h : Q (.int (a ^ k) s.toks) { s with toks := s.toks + 1 }) :
    wpAny (model prog w) A (binaryOp .Pow (.int a t) (.int n u)) Q E s := by
  subst hn
  refine pow_int (by omega) ?_ (by rw [Int.toNat_natCast]; exact h)
  have h1 : intBits a * k ≤ 10000 * 20 := Nat.mul_le_mul hb hk
  have h2 : ((intBits a : Nat) : Int) * (k : Int) ≤ 200000 := by
    rw [← Int.natCast_mul]; omega
  have : (2 : Int) ^ 27 = 134217728 := by decide
  omega
end Mine
end
section
namespace Mine
theorem rst_M1b : True := by
  w_top off
  trivial
set_option maxRecDepth 100000 in
set_option maxHeartbeats 8000000 in
theorem law_s1 {w : World} {p : Program} {loose : List Str} {mean : ExcName → Option Value} {mg mb : Str → Option Value} {L fa : Addr} {cd : Value} {h₀ : Heap} {m : Str → Option Value} {s : Shared} {Q : Flow → Shared → Prop} {E : Value → Shared → Prop} {news : Led}
    (B : Below callerA h₀ [] h₀) (F : Fr h₀ L s.heap (nm m [])) (X : (heapK w.params).In h₀) (T : Top p loose mean mg mb h₀) (N : News h₀ L s.heap news) 
    (K : ∀ (h' : Heap) (tk' : Nat) (t : Tok), Fr h₀ L h' (fun z => if z = Str.ofString "width" then some (.int 16 t) else nm m [] z) → News h₀ L h' news → Q .next { s with heap := h', toks := tk' }) :
    wpAny (model prg w) (lawA L fa cd) (exec (lawStmt 1) (lawEnv L fa cd)) Q E s := by
  dsimp only [lawEnv, lawA, lawScope, lawBody, lawStmt, lawParts, nth, List.drop]
  k_steps
  exact K _ _ _ (by assumption) (by assumption)
end Mine
end
section
namespace Mine
local macro_rules | `(tactic| walk_at "pad") => `(tactic| skip)
theorem rst_M2 : True := by
  w_top off
  trivial
noncomputable def widthOf (script : List Int) : Int := if 5 < script.length then 16 + Int.fmod (script.getD 5 0) 1000 else 16
set_option maxRecDepth 100000 in
set_option maxHeartbeats 8000000 in
theorem law_s2 {w : World} {p : Program} {loose : List Str} {mean : ExcName → Option Value} {mg mb : Str → Option Value} {L fa : Addr} {cd : Value} {h₀ : Heap} {m : Str → Option Value} {s : Shared} {Q : Flow → Shared → Prop} {E : Value → Shared → Prop} {sa : Addr} {svs : List Value} {script : List Int} {t0 : Tok} {news : Led}
    (B : Below callerA h₀ [] h₀) (F : Fr h₀ L s.heap (nm m [(Str.ofString "script", .ref sa), (Str.ofString "width", .int 16 t0)])) (X : (heapK w.params).In h₀) (T : Top p loose mean mg mb h₀) (N : News h₀ L s.heap news) (hs : h₀.IsList sa svs.toArray) (hI : IntsAre svs script) (hlen : script.length ≤ 63)
    (K : ∀ (h' : Heap) (tk' : Nat) (t : Tok), Fr h₀ L h' (fun y => if y = Str.ofString "width" then some (.int (widthOf script) t) else nm m [(Str.ofString "script", .ref sa), (Str.ofString "width", .int 16 t0)] y) → News h₀ L h' news → Q .next { s with heap := h', toks := tk' }) :
    wpAny (model prg w) (lawA L fa cd) (exec (lawStmt 2) (lawEnv L fa cd)) Q E s := by
  dsimp only [lawEnv, lawA, lawScope, lawBody, lawStmt, lawParts, nth, List.drop]
  have hvl : svs.length = script.length := hI.length
  k_steps
  · have e : widthOf script = 16 + Int.fmod (script.getD 5 0) 1000 := if_pos (by omega)
    rw [e] at K
    exact K _ _ _ (by assumption) (by assumption)
  · have e : widthOf script = 16 := if_neg (by omega)
    rw [e] at K
    refine K _ _ t0 (cast (congrArg _ ?_) F) (by assumption)
    funext y
    show nm _ _ y = (if y = Str.ofString "width" then _ else _)
    by_cases q : y = Str.ofString "width"
    · rw [if_pos q, q]; rfl
    · rw [if_neg q]
end Mine
end
section
namespace Mine
local macro_rules | `(tactic| walk_at "pad") => `(tactic| skip)
theorem rst_M3 : True := by
  w_top off
  trivial
local macro_rules | `(tactic| walk_at $s) => if ["eval ListComp"].contains s.getString then `(tactic| refine hold ?_) else Lean.Macro.throwUnsupported
set_option maxRecDepth 100000 in
set_option maxHeartbeats 8000000 in
theorem law_s3 {w : World} {p : Program} {loose : List Str} {mean : ExcName → Option Value} {mg mb : Str → Option Value} {L fa : Addr} {cd : Value} {h₀ : Heap} {m : Str → Option Value} {s : Shared} {Q : Flow → Shared → Prop} {E : Value → Shared → Prop} {ca : Addr} {cvs : List Value} {cards : List Int} {nc : Nat} {oc od : Obj} {dd : Option Value} {news : Led}
    (B : Below callerA h₀ [] h₀) (F : Fr h₀ L s.heap (nm m [])) (X : (heapK w.params).In h₀) (T : Top p loose mean mg mb h₀) (N : News h₀ L s.heap ((ca, W.listOf cvs.toArray nc) :: (L + 1, oc) :: (L + 2, od) :: news)) (hoc : oc.data = .cell (some (.ref ca))) (hod : od.data = .cell dd) (hI : IntsAre cvs cards) (h5 : cards.length = 5) (hn1 : @Ne Nat ca (L + 2)) (hoff : ∀ p ∈ news, @Ne Nat p.1 (L + 2))
    (K : ∀ (h' : Heap) (tk' : Nat) (ka : Addr) (kvs : List Value) (od' : Obj), od'.data = .cell (some (.ref ka)) → IntsAre kvs [(cards.count 0 : Int), (cards.count 1 : Int), (cards.count 2 : Int)] → Fr h₀ L h' (nm m []) → News h₀ L h' ((ka, W.listOf kvs.toArray kvs.length) :: (ca, W.listOf cvs.toArray nc) :: (L + 1, oc) :: (L + 2, od') :: news) → Q .next { s with heap := h', toks := tk' }) :
    wpAny (model prg w) (lawA L fa cd) (exec (lawStmt 3) (lawEnv L fa cd)) Q E s := by
  dsimp only [lawEnv, lawA, lawScope, lawBody, lawStmt, lawParts, nth, List.drop]
  k_steps
  refine ⟨?_⟩
  refine comp_vals F (by with_unfolding_all rfl) (by decide) (by rfl) (by decide) (by rfl) ?_
  k_steps
  refine ⟨3, _, (fun i y => ∃ (n : Int) (t : Tok), [(cards.count 0 : Int), (cards.count 1 : Int), (cards.count 2 : Int)][i]? = some n ∧ y = .int n t), (ca, W.listOf cvs.toArray nc) :: (L + 1, oc) :: (L + 2, od) :: news, rfl, (by assumption), (by assumption), by rw [sizeLine_eq]; omega, .inr ⟨_, _, _, _, _, _, _, rfl, (by assumption), by decide, by decide, rfl⟩, ?_, ?_⟩
  · rintro i v I oI C oC D oD m2 h tk E' hi ⟨t, rfl⟩ hC hx F5 N5 hne
    k_steps
    refine VEnd.mk' (by assumption) (by assumption) ⟨_, _, ?_, rfl⟩
    rcases (by omega : i = 0 ∨ i = 1 ∨ i = 2) with rfl | rfl | rfl <;> rfl
  · intro ys D h tk hl hR F5 N5 hD
    refine storeX_C F5 N5 (by rfl) (.tail (Ne.symm (hD _ (.tail _ (.tail _ (.head _))))) (.tail hn1 (.tail (show @Ne Nat (L + 1) (L + 2) by omega) (.head hoff)))) hod ?_ (by rfl) (by rfl)
    intro h6 o6 F6 N6 e6
    exact K _ _ _ _ _ e6 (ints_of hl hR) F6 (by rw [hl] at *; exact N6)
end Mine
end
section
namespace Mine
theorem rst_M4 : True := by
  w_top off
  trivial
local macro_rules | `(tactic| walk_at $s) => if ["binaryOp Mult str int", "binaryOp Add str str"].contains s.getString then `(tactic| refine hold ?_) else Lean.Macro.throwUnsupported
noncomputable def deckOf (n0 n1 n2 : Nat) : List Nat := rep [97] n0 ++ rep [98] n1 ++ rep [99] n2
set_option maxRecDepth 100000 in
set_option maxHeartbeats 8000000 in
theorem law_s4 {w : World} {p : Program} {loose : List Str} {mean : ExcName → Option Value} {mg mb : Str → Option Value} {L fa : Addr} {cd : Value} {h₀ : Heap} {m : Str → Option Value} {s : Shared} {Q : Flow → Shared → Prop} {E : Value → Shared → Prop} {ka : Addr} {kvs : List Value} {n0 n1 n2 : Nat} {nk : Nat} {od : Obj} {news : Led}
    (B : Below callerA h₀ [] h₀) (F : Fr h₀ L s.heap (nm m [])) (X : (heapK w.params).In h₀) (T : Top p loose mean mg mb h₀) (N : News h₀ L s.heap ((ka, W.listOf kvs.toArray nk) :: (L + 2, od) :: news)) (hod : od.data = .cell (some (.ref ka))) (hI : IntsAre kvs [(n0 : Int), (n1 : Int), (n2 : Int)]) (h0 : n0 ≤ 5) (h1 : n1 ≤ 5) (h2 : n2 ≤ 5)
    (K : ∀ (h' : Heap) (tk' : Nat) (t : Tok), Fr h₀ L h' (fun z => if z = Str.ofString "deck" then some (.str (S (deckOf n0 n1 n2)) t) else nm m [] z) → News h₀ L h' ((ka, W.listOf kvs.toArray nk) :: (L + 2, od) :: news) → Q .next { s with heap := h', toks := tk' }) :
    wpAny (model prg w) (lawA L fa cd) (exec (lawStmt 4) (lawEnv L fa cd)) Q E s := by
  dsimp only [lawEnv, lawA, lawScope, lawBody, lawStmt, lawParts, nth, List.drop]
  have r0 : ∀ (c n : Nat), n ≤ 5 → (rep [c] n).length ≤ 5 := fun c n h => by rw [rep_len]; simpa using h
  have r1 := r0 97 n0 h0
  have r2 := r0 98 n1 h1
  have r3 := r0 99 n2 h2
  k_steps
  refine ⟨?_⟩
  refine mul_S (l := [97]) n0 (by decide) (by rfl) (by decide) (by omega) ?_
  intro t1 k1
  k_steps
  refine ⟨?_⟩
  refine mul_S (l := [98]) n1 (by decide) (by rfl) (by decide) (by omega) ?_
  intro t2 k2
  k_steps
  refine ⟨?_⟩
  refine add_S rfl rfl (by omega) (by omega) ?_
  intro t3 k3
  k_steps
  refine ⟨?_⟩
  refine mul_S (l := [99]) n2 (by decide) (by rfl) (by decide) (by omega) ?_
  intro t4 k4
  k_steps
  refine ⟨?_⟩
  refine add_S rfl rfl (by rw [List.length_append]; omega) (by omega) ?_
  intro t5 k5
  k_steps
  exact K _ _ _ (by assumption) (by assumption)
end Mine
end
section
namespace Mine
local macro_rules | `(tactic| walk_at "pad") => `(tactic| skip)
theorem rst_M5 : True := by
  w_top off
  trivial
local macro_rules | `(tactic| walk_at $s) => if ["binaryOp Mult str int", "binaryOp Add str str", "call builtin:str.join", "eval ListComp", "call ref", "compareOp NotEq ref ref"].contains s.getString then `(tactic| refine hold ?_) else Lean.Macro.throwUnsupported
theorem joinL_mem {k : Nat} {xs : List (List Nat)} (h : k ∈ joinL [] xs) : ∃ z ∈ xs, k ∈ z := by
  cases xs with
  | nil => cases h
  | cons x r =>
    unfold joinL at h
    rcases List.mem_append.mp h with q | q
    · exact ⟨x, .head _, q⟩
    · simp at q
      obtain ⟨z, hz, hk⟩ := q
      exact ⟨z, .tail _ hz, hk⟩
noncomputable def heldOf (cards : List Int) : List Nat := joinL [] (cards.map fun k => rep [32] k.toNat ++ [9])
set_option maxRecDepth 100000 in
set_option maxHeartbeats 8000000 in
theorem law_s5 {w : World} {p : Program} {loose : List Str} {mean : ExcName → Option Value} {mg mb : Str → Option Value} {L fa : Addr} {cd : Value} {h₀ : Heap} {m : Str → Option Value} {s : Shared} {Q : Flow → Shared → Prop} {E : Value → Shared → Prop} {ca : Addr} {cvs : List Value} {cards : List Int} {nc : Nat} {oc : Obj} {news : Led}
    (B : Below callerA h₀ [] h₀) (F : Fr h₀ L s.heap (nm m [])) (X : (heapK w.params).In h₀) (T : Top p loose mean mg mb h₀) (N : News h₀ L s.heap ((ca, W.listOf cvs.toArray nc) :: (L + 1, oc) :: news)) (hoc : oc.data = .cell (some (.ref ca))) (hI : IntsAre cvs cards) (h5 : cards.length = 5) (h02 : ∀ x ∈ cards, 0 ≤ x ∧ x ≤ 2)
    (K : ∀ (h' : Heap) (tk' : Nat) (x dx D C : Addr) (t1 t2 t3 t4 t5 tn tnt tb : Tok) (sm : Bool) (wvs : List Value) (y : Str) (ty : Tok), IntsAre wvs (wsAt (heldOf cards) (heldOf cards).length).count → Fr h₀ L h' (fun z => if z = Str.ofString "held" then some (.ref x) else nm m [] z) →
      News h₀ L h' ((x, instObj 139 dx) :: (dx, whiteObj w t1 t2 t3 t4 t5 tn tnt y ty (wsAt (heldOf cards) (heldOf cards).length).n (wsAt (heldOf cards) (heldOf cards).length).nt D sm) :: (D, tupOf [.ref C, .int (wsAt (heldOf cards) (heldOf cards).length).b tb]) :: (C, { cls := .type "tuple", data := .seq wvs.toArray }) :: (ca, W.listOf cvs.toArray nc) :: (L + 1, oc) :: news) → Q .next { s with heap := h', toks := tk' }) :
    wpAny (model prg w) (lawA L fa cd) (exec (lawStmt 5) (lawEnv L fa cd)) Q E s := by
  dsimp only [lawEnv, lawA, lawScope, lawBody, lawStmt, lawParts, nth, List.drop]
  k_steps
  refine ⟨?_⟩
  refine comp_vals F (by with_unfolding_all rfl) (by decide) (by rfl) (by decide) (by rfl) ?_
  k_steps
  refine ⟨5, _, (fun i y => ∃ (n : Str) (t : Tok), ((cards.map fun k => rep [32] k.toNat ++ [9]).map S)[i]? = some n ∧ y = .str n t), (ca, W.listOf cvs.toArray nc) :: (L + 1, oc) :: news, rfl, (by assumption), (by assumption), by rw [sizeLine_eq]; omega, .inl ⟨_, _, _, rfl, .head _, by rw [hI.length, h5], rfl⟩, ?_, ?_⟩
  · intro i v I oI C oC D oD m2 h tk E' hi hv hC hx F5 N5 hne
    obtain ⟨n, t, hn, rfl⟩ := ints_get hI hv
    have hn2 := h02 n (List.mem_of_getElem? hn)
    k_steps
    refine ⟨?_⟩
    refine mul_S (l := [32]) n.toNat (by decide) (by omega) (by decide) (by omega) ?_
    intro t1 k1
    k_steps
    refine ⟨?_⟩
    refine add_S (b := [9]) rfl (by decide) (by rw [rep_len]; simp; omega) (by decide) ?_
    intro t2 k2
    refine VEnd.mk' (by assumption) (by assumption) ⟨_, _, ?_, rfl⟩
    rw [List.getElem?_map, List.getElem?_map, hn]
    rfl
  · intro ys D h tk hl hR F5 N5 hD
    k_steps
    refine ⟨?_⟩
    refine join_S (sep := []) (xs := cards.map fun k => rep [32] k.toNat ++ [9]) (by decide) (News.isList (by assumption) (.head _)) (strs_of (by rw [hl]; simp [h5]) hR) (by decide) ?_ (by simp [h5]) ?_
    · intro z hz
      obtain ⟨k, hk, rfl⟩ := List.mem_map.mp hz
      have := h02 k hk
      rw [List.length_append, rep_len]; simp; omega
    intro t1 k1
    k_steps
    refine ⟨?_⟩
    have hhl : (heldOf cards).length ≤ 100 := by
      have := joinL_len [] (cards.map fun k => rep [32] k.toNat ++ [9]) 3 (by
        intro z hz
        obtain ⟨k, hk, rfl⟩ := List.mem_map.mp hz
        have := h02 k hk
        rw [List.length_append, rep_len]; simp; omega)
      simp [h5] at this
      unfold heldOf
      omega
    refine add_S (a := heldOf cards) (b := [120]) rfl (by decide) (by omega) (by decide) ?_
    intro t2 k2
    k_steps
    refine ⟨?_⟩
    refine Claim.use (white_c (body := heldOf cards) rfl ?_ (by omega)) (by k_asm) (by k_asm) (by k_asm) (drop_to (by assumption) sub_refl) (by k_asm) rfl ?_ ?_ ?_
    · intro k hk
      obtain ⟨z, hz, hkz⟩ := joinL_mem hk
      obtain ⟨c, _, rfl⟩ := List.mem_map.mp hz
      rcases List.mem_append.mp hkz with q | q
      · left
        unfold rep at q
        obtain ⟨r, hr, hkr⟩ := List.mem_flatten.mp q
        rw [List.eq_of_mem_replicate hr] at hkr
        exact List.mem_singleton.mp hkr
      · right; exact List.mem_singleton.mp q
    · decide +kernel
    · decide +kernel
    intro x dx D C t1 t2 t3 t4 t5 tn tnt tb sm wvs hw h' tk' F' N'
    k_steps
    exact K _ _ _ _ _ _ _ _ _ _ _ _ _ _ _ _ _ _ hw (by assumption) (drop_to (by assumption) (sub_cons (.head _) (sub_cons (.tail _ (.head _)) (sub_cons (.tail _ (.tail _ (.head _))) (sub_cons (.tail _ (.tail _ (.tail _ (.head _)))) (sub_tail (sub_tail (sub_tail (sub_tail (sub_tail sub_refl))))))))))
end Mine
end
section
namespace Mine
theorem rst_M6 : True := by
  w_top off
  trivial
local macro_rules | `(tactic| walk_at $s) => if ["compareOp NotEq ref ref"].contains s.getString then `(tactic| refine hold ?_) else Lean.Macro.throwUnsupported
theorem ne_norm {prog : Program} {w : World} {A : Around} {E : Value → Shared → Prop} {s : Shared} {a b C D : Addr} {wvs zvs : List Value} {ns ms : List Int} {x y : Int} {t u : Tok} {oa ob oC oD : Obj} {k1 k2 k3 k4 : Nat} {Q : Value → Shared → Prop}
    (ha : s.heap.get? a = some oa) (ca : oa.cls = .type "tuple") (da : oa.data = .seq #[.ref C, .int x t] k1) (hC : s.heap.get? C = some oC) (cC : oC.cls = .type "tuple") (dC : oC.data = .seq wvs.toArray k2)
    (hb : s.heap.get? b = some ob) (cb : ob.cls = .type "tuple") (db : ob.data = .seq #[.ref D, .int y u] k3) (hD : s.heap.get? D = some oD) (cD : oD.cls = .type "tuple") (dD : oD.data = .seq zvs.toArray k4)
    (hi : IntsAre wvs ns) (hj : IntsAre zvs ms) (e : ns = ms) (e2 : x = y) (hu : A.units + 64 < cLine) (h : Q (.bool false) s) : wpAny (model prog w) A (compareOp .NotEq (.ref a) (.ref b)) Q E s := by
  subst e e2
  refine ne_dataH_same (da := .tuple [.tuple (ns.map PyData.int), .int x]) (db := .tuple [.tuple (ns.map PyData.int), .int x]) (reads_tuple_at ha ca da (.cons (reads_tuple_at hC cC dC ((ke_carried hi).reads _)) (.cons (.int _ _) .nil))) (reads_tuple_at hb cb db (.cons (reads_tuple_at hD cD dD ((ke_carried hj).reads _)) (.cons (.int _ _) .nil))) ?_ ?_ hu (SeqAt.noMix_of_shape (.tuple [.tuples .int, .int]) rfl _ _ ?_ ?_) ?_
  · simp [SeqAt.shaped, PyData.canLay0, PyData.depth, PyData.canLayAll0, PyData.depthAll, ke_canLayAll0, ke_depthAll]
  · simp [SeqAt.shaped, PyData.canLay0, PyData.depth, PyData.canLayAll0, PyData.depthAll, ke_canLayAll0, ke_depthAll]
  · simp [PySem.Spec.Shape.has, PySem.Spec.Shape.hasAll]
  · simp [PySem.Spec.Shape.has, PySem.Spec.Shape.hasAll]
  · simpa [PySem.Spec.same, PySem.Spec.sameAll, ke_sameAll] using h
set_option maxRecDepth 100000 in
set_option maxHeartbeats 8000000 in
theorem law_s6 {w : World} {p : Program} {loose : List Str} {mean : ExcName → Option Value} {mg mb : Str → Option Value} {L fa : Addr} {cd : Value} {h₀ : Heap} {m : Str → Option Value} {s : Shared} {Q : Flow → Shared → Prop} {E : Value → Shared → Prop} {ca ka x dx D C : Addr} {cvs kvs wvs : List Value} {cards cnt ks : List Int} {nc nk n nt b : Nat} {oc od : Obj} {t1 t2 t3 t4 t5 tn tnt tb : Tok} {sm : Bool} {y : Str} {ty : Tok} {news : Led}
    (B : Below callerA h₀ [] h₀) (F : Fr h₀ L s.heap (nm m [(Str.ofString "held", .ref x)])) (X : (heapK w.params).In h₀) (T : Top p loose mean mg mb h₀) (N : News h₀ L s.heap ((x, instObj 139 dx) :: (dx, whiteObj w t1 t2 t3 t4 t5 tn tnt y ty n nt D sm) :: (D, tupOf [.ref C, .int b tb]) :: (C, { cls := .type "tuple", data := .seq wvs.toArray }) :: (ca, W.listOf cvs.toArray nc) :: (ka, W.listOf kvs.toArray nk) :: (L + 1, oc) :: (L + 2, od) :: news)) (hoc : oc.data = .cell (some (.ref ca))) (hod : od.data = .cell (some (.ref ka))) (hI : IntsAre cvs cards) (hJ : IntsAre kvs ks) (hW : IntsAre wvs cnt) (h5 : cards.length = 5) (h02 : ∀ x ∈ cards, 0 ≤ x ∧ x ≤ 2) (hk3 : ks.length = 3) (hcnt : ∀ M ∈ cards, (∀ a ∈ cards, a ≤ M) → cnt = ks.take (M + 1).toNat) (hb0 : b = 0)
    (K : ∀ (h' : Heap) (tk' : Nat), Fr h₀ L h' (nm m [(Str.ofString "held", .ref x)]) → News h₀ L h' ((ca, W.listOf cvs.toArray nc) :: (ka, W.listOf kvs.toArray nk) :: (L + 1, oc) :: (L + 2, od) :: news) → Q .next { s with heap := h', toks := tk' }) :
    wpAny (model prg w) (lawA L fa cd) (exec (lawStmt 6) (lawEnv L fa cd)) Q E s := by
  dsimp only [lawEnv, lawA, lawScope, lawBody, lawStmt, lawParts, nth, List.drop]
  k_steps
  all_goals rename (_ ∈ cards) => ha
  all_goals have hM := h02 _ ha
  · exfalso; omega
  · refine ⟨?_⟩
    rename (∀ a, a ∈ cards → a ≤ _) => hb
    rename News _ _ _ _ => N9
    rename IntsAre _ (List.take _ _) => hT
    refine ne_norm (N9.get (.tail _ (.tail _ (.tail _ (.tail _ (.tail _ (.head _))))))) rfl rfl (N9.get (.tail _ (.tail _ (.tail _ (.tail _ (.tail _ (.tail _ (.head _)))))))) rfl rfl (N9.get (.head _)) rfl rfl (N9.get (.tail _ (.head _))) rfl rfl hW hT (hcnt _ ha hb) (by omega) (Nat.le_of_ble_eq_true rfl) ?_
    k_steps
    exact K _ _ (by assumption) (drop_to N9 (sub_tail (sub_tail (sub_tail (sub_tail (sub_tail (sub_tail (sub_tail sub_refl))))))))
end Mine
end
section
namespace Mine
local macro_rules | `(tactic| walk_at "pad") => `(tactic| skip)
theorem rst_M7 : True := by
  w_top off
  trivial
local macro_rules | `(tactic| walk_at $s) => if ["binaryOp Mult str int", "binaryOp Add str str", "call builtin:str.join", "eval ListComp", "call ref"].contains s.getString then `(tactic| refine hold ?_) else Lean.Macro.throwUnsupported
theorem abc_item {n : Int} (h : 0 ≤ n ∧ n ≤ 2) : Txt.item (Str.ofString "abc") n = S [97 + n.toNat] := by
  rcases (by omega : n = 0 ∨ n = 1 ∨ n = 2) with rfl | rfl | rfl <;> decide
noncomputable def wantOf (l : List Int) : List Nat := [46, 46, 46] ++ joinL [46, 46, 46] (l.map fun k => [97 + k.toNat]) ++ [46, 46, 46]
set_option maxRecDepth 100000 in
set_option maxHeartbeats 8000000 in
theorem law_s7 {w : World} {p : Program} {loose : List Str} {mean : ExcName → Option Value} {mg mb : Str → Option Value} {L fa : Addr} {cd : Value} {h₀ : Heap} {m : Str → Option Value} {s : Shared} {Q : Flow → Shared → Prop} {E : Value → Shared → Prop} {ca : Addr} {cvs : List Value} {cards : List Int} {nc : Nat} {oc : Obj} {news : Led}
    (B : Below callerA h₀ [] h₀) (F : Fr h₀ L s.heap (nm m [])) (X : (heapK w.params).In h₀) (T : Top p loose mean mg mb h₀) (N : News h₀ L s.heap ((ca, W.listOf cvs.toArray nc) :: (L + 1, oc) :: news)) (hoc : oc.data = .cell (some (.ref ca))) (hI : IntsAre cvs cards) (h5 : cards.length = 5) (h02 : ∀ x ∈ cards, 0 ≤ x ∧ x ≤ 2)
    (K : ∀ (h' : Heap) (tk' : Nat) (t : Tok) (ns : List Int) (M : Int), ns.Perm cards → List.Pairwise (fun a b => a ≤ b) ns → M ∈ cards → (∀ a ∈ cards, a ≤ M) → Fr h₀ L h' (fun z => if z = Str.ofString "wanted" then some (.str (S (wantOf (ns ++ [M]))) t) else nm m [] z) →
      News h₀ L h' ((ca, W.listOf cvs.toArray nc) :: (L + 1, oc) :: news) → Q .next { s with heap := h', toks := tk' }) :
    wpAny (model prg w) (lawA L fa cd) (exec (lawStmt 7) (lawEnv L fa cd)) Q E s := by
  dsimp only [lawEnv, lawA, lawScope, lawBody, lawStmt, lawParts, nth, List.drop]
  k_steps
  refine ⟨?_⟩
  refine comp_vals F (by with_unfolding_all rfl) (by decide) (by rfl) (by decide) (by rfl) ?_
  k_steps
  rename List Int => ns
  rename Int => M
  rename IntsAre _ (_ ++ [_]) => hJ
  rename List.Perm _ cards => hP
  rename List.Pairwise _ _ => hO
  rename (_ ∈ cards) => ha
  rename (∀ a, a ∈ cards → a ≤ _) => hb
  have hl6 := hP.length_eq
  have hmem := fun x hx => h02 x (hP.mem_iff.mp hx)
  have h6 := h02 _ ha
  have hall : ∀ x ∈ ns ++ [M], 0 ≤ x ∧ x ≤ 2 := fun x hx => by
    rcases List.mem_append.mp hx with q | q
    · exact hmem x q
    · rw [List.mem_singleton.mp q]; exact h6
  refine ⟨6, _, (fun i y => ∃ (n : Str) (t : Tok), (((ns ++ [M]).map fun k => [97 + Int.toNat k]).map S)[i]? = some n ∧ y = .str n t), _, rfl, (by assumption), (by assumption), by rw [sizeLine_eq]; omega, .inl ⟨_, _, _, rfl, .head _, by rw [hJ.length]; simp [hl6, h5], rfl⟩, ?_, ?_⟩
  · intro i v I oI C oC D oD m2 h tk E' hi hv hC hx F5 N5 hne
    obtain ⟨n, t, hn, rfl⟩ := ints_get hJ hv
    have hn2 := hall n (List.mem_of_getElem? hn)
    k_steps
    refine VEnd.mk' (by assumption) (by assumption) ⟨_, _, ?_, rfl⟩
    rw [List.getElem?_map, List.getElem?_map, hn, abc_item hn2]
    rfl
  · intro ys D h tk hl hR F5 N5 hD
    k_steps
    refine ⟨?_⟩
    have hz1 : ∀ z ∈ (ns ++ [M]).map (fun k => [97 + Int.toNat k]), z.length ≤ 1 := by
      intro z hz
      obtain ⟨k, hk, rfl⟩ := List.mem_map.mp hz
      exact Nat.le_refl _
    refine join_S (sep := [46, 46, 46]) (xs := (ns ++ [M]).map fun k => [97 + Int.toNat k]) (by decide) (News.isList (by assumption) (.head _)) (strs_of (by rw [hl]; simp [hl6, h5]) hR) (by decide) (fun z hz => Nat.le_trans (hz1 z hz) (by decide)) (by simp [hl6, h5]) ?_
    have hjl := joinL_len [46, 46, 46] _ 1 hz1
    simp [hl6, h5] at hjl
    intro t1 k1
    k_steps
    refine ⟨?_⟩
    refine add_S (a := [46, 46, 46]) (by decide) rfl (by decide) (by simp; omega) ?_
    intro t2 k2
    k_steps
    refine ⟨?_⟩
    refine add_S (b := [46, 46, 46]) rfl (by decide) (by simp; omega) (by decide) ?_
    intro t3 k3
    k_steps
    exact K _ _ _ ns M hP hO ha hb (by assumption) (drop_to (by assumption) (sub_tail (sub_tail (sub_tail (sub_tail sub_refl)))))
end Mine
end
section
namespace Mine
theorem rst_M8 : True := by
  w_top off
  trivial
local macro_rules | `(tactic| walk_at $s) => if ["call ref"].contains s.getString then `(tactic| refine hold ?_) else Lean.Macro.throwUnsupported
/-- what _ellipsis_match answers of two texts -/
noncomputable def EllIs (want got : Str) (b : Bool) : Prop := ∃ ws : List Str, (PySem.Builtin.Str.occurrences want (Str.ofString "...") 0 want.length 1).isEmpty = false ∧ Txt.split want (Str.ofString "...") = Str.empty :: (ws ++ [Str.empty]) ∧
  (∀ y ∈ ws, y.length ≤ 10) ∧ ws.length ≤ 1000 ∧ want.length ≤ 1000 ∧ got.length ≤ 1000 ∧ emRun got (Str.empty :: (ws ++ [Str.empty])) 0 = b
set_option maxRecDepth 100000 in
set_option maxHeartbeats 8000000 in
theorem law_s8 {w : World} {p : Program} {loose : List Str} {mean : ExcName → Option Value} {mg mb : Str → Option Value} {L fa : Addr} {cd : Value} {h₀ : Heap} {m : Str → Option Value} {s : Shared} {Q : Flow → Shared → Prop} {E : Value → Shared → Prop} {want got : Str} {tw tg : Tok} {news : Led}
    (B : Below callerA h₀ [] h₀) (F : Fr h₀ L s.heap (nm m [(Str.ofString "wanted", .str want tw), (Str.ofString "deck", .str got tg)])) (X : (heapK w.params).In h₀) (T : Top p loose mean mg mb h₀) (N : News h₀ L s.heap news) (hE : EllIs want got false)
    (K : ∀ (h' : Heap) (tk' : Nat), Fr h₀ L h' (nm m [(Str.ofString "wanted", .str want tw), (Str.ofString "deck", .str got tg)]) → News h₀ L h' news → Q .next { s with heap := h', toks := tk' }) :
    wpAny (model prg w) (lawA L fa cd) (exec (lawStmt 8) (lawEnv L fa cd)) Q E s := by
  dsimp only [lawEnv, lawA, lawScope, lawBody, lawStmt, lawParts, nth, List.drop]
  obtain ⟨ws, e1, e2, e3, e4, e5, e6, e7⟩ := hE
  k_steps
  refine ⟨?_⟩
  refine Claim.use (ell_c (ws := ws) e1 e2 e3 e4 e5 e6) (by k_asm) (by k_asm) (by k_asm) (by assumption) (by k_asm) rfl ?_ ?_ ?_
  · decide +kernel
  · decide +kernel
  intro h' tk' F' N'
  rw [e7]
  k_steps
  exact K _ _ (by assumption) (by assumption)
end Mine
end
section
namespace Mine
theorem rst_M9b : True := by
  w_top off
  trivial
set_option maxRecDepth 100000 in
set_option maxHeartbeats 8000000 in
theorem law_s9 {w : World} {p : Program} {loose : List Str} {mean : ExcName → Option Value} {mg mb : Str → Option Value} {L fa : Addr} {cd : Value} {h₀ : Heap} {m : Str → Option Value} {s : Shared} {Q : Flow → Shared → Prop} {E : Value → Shared → Prop} {news : Led}
    (B : Below callerA h₀ [] h₀) (F : Fr h₀ L s.heap (nm m [])) (X : (heapK w.params).In h₀) (T : Top p loose mean mg mb h₀) (N : News h₀ L s.heap news) 
    (K : ∀ (h' : Heap) (tk' : Nat) (t : Tok), Fr h₀ L h' (fun z => if z = Str.ofString "lead" then some (.str (S []) t) else nm m [] z) → News h₀ L h' news → Q .next { s with heap := h', toks := tk' }) :
    wpAny (model prg w) (lawA L fa cd) (exec (lawStmt 9) (lawEnv L fa cd)) Q E s := by
  dsimp only [lawEnv, lawA, lawScope, lawBody, lawStmt, lawParts, nth, List.drop]
  have e : Str.ofString "" = S [] := by decide
  k_steps
  rename Fr _ _ _ _ => F9
  rw [e] at F9
  exact K _ _ _ F9 (by assumption)
end Mine
end
section
namespace Mine
theorem rst_M9 : True := by
  w_top off
  trivial
local macro_rules | `(tactic| walk_at $s) => if ["binaryOp Mult str int", "binaryOp Add str str", "call builtin:str.join", "eval ListComp", "call ref", "compareOp NotEq ref ref"].contains s.getString then `(tactic| refine hold ?_) else Lean.Macro.throwUnsupported
noncomputable abbrev forBody : List Stmt := match lawStmt 10 with
  | .For _ _ b _ _ => b
  | _ => []
structure OrderOk (dk : List Nat) (o : List Int) : Prop where
  len : o.length = 5
  h02 : ∀ x ∈ o, 0 ≤ x ∧ x ≤ 2
  runs : Runs (wrAt o 5).oct 0 (wrAt o 5).runs
  pos : 1 ≤ (wrAt o 5).runs.length
  ell1 : EllIs (S (wantOf o)) (S (rep dk (wrAt o 5).runs.length)) true
  ell2 : EllIs (S (wantOf o)) (S (rep dk ((wrAt o 5).runs.length - 1))) false
theorem getD_02 {o : List Int} (h : ∀ x ∈ o, 0 ≤ x ∧ x ≤ 2) (i : Nat) : 0 ≤ o.getD i 0 ∧ o.getD i 0 ≤ 2 := by
  cases e : o[i]? with
  | none => simp [List.getD_eq_getElem?_getD, e]
  | some v => simpa [List.getD_eq_getElem?_getD, e] using h v (List.mem_of_getElem? e)
set_option maxRecDepth 100000 in
set_option maxHeartbeats 8000000 in
theorem law_turn {w : World} {p : Program} {loose : List Str} {mean : ExcName → Option Value} {mg mb : Str → Option Value} {L fa : Addr} {cd : Value} {h₀ : Heap} {m : Str → Option Value} {s : Shared} {Q : Flow → Shared → Prop} {E : Value → Shared → Prop} {oa : Addr} {ovs : List Value} {o : List Int} {no : Nat} {dk ld : List Nat} {td tl : Tok} {news : Led}
    (B : Below callerA h₀ [] h₀) (F : Fr h₀ L s.heap (nm m [(Str.ofString "order", .ref oa), (Str.ofString "lead", .str (S ld) tl), (Str.ofString "deck", .str (S dk) td)])) (X : (heapK w.params).In h₀) (T : Top p loose mean mg mb h₀) (N : News h₀ L s.heap ((oa, W.listOf ovs.toArray no) :: news))
    (hI : IntsAre ovs o) (hO : OrderOk dk o) (hdk : dk.length ≤ 100) (hld : ld.length ≤ 1000)
    (K : ∀ (h' : Heap) (tk' : Nat) (m' : Str → Option Value) (t : Tok), m' (Str.ofString "lead") = some (.str (S (ld ++ rep [32] ((wrAt o 5).runs.length - 1) ++ [9])) t) →
      (∀ y, y ≠ Str.ofString "octets" → y ≠ Str.ofString "runs" → y ≠ Str.ofString "wanted" → y ≠ Str.ofString "lead" → m' y = nm m [(Str.ofString "order", .ref oa), (Str.ofString "lead", .str (S ld) tl), (Str.ofString "deck", .str (S dk) td)] y) → Fr h₀ L h' m' → News h₀ L h' ((oa, W.listOf ovs.toArray no) :: news) → Q .next { s with heap := h', toks := tk' }) :
    wpAny (model prg w) (lawA L fa cd) (execs forBody (lawEnv L fa cd)) Q E s := by
  dsimp only [lawEnv, lawA, lawScope, lawBody, forBody, lawStmt, lawParts, nth, List.drop]
  have hrl := (wrAt_len o 5).2
  have hpos := hO.pos
  k_steps
  refine ⟨?_⟩
  refine Claim.use (written_c hI hO.len (getD_02 hO.h02)) (by k_asm) (by k_asm) (by k_asm) (by assumption) (by k_asm) rfl ?_ ?_ ?_
  · decide +kernel
  · decide +kernel
  intro t a b os rs na nb hos hrs h1 tk1 F1 N1
  k_steps
  refine ⟨?_⟩
  rename News _ _ _ _ => N1
  refine read_c hos (.tail _ (.head _)) hO.runs (by omega) _ _ _ _ _ _ _ _ _ _ _ _ _ _ _ _ _ _ _ _ _ X T B (by assumption) X N1 T rfl ?_ ?_ ?_
  · decide +kernel
  · decide +kernel
  intro r qs nr hqs h2 tk2 F2 N2
  k_steps
  refine ⟨?_⟩
  rename News _ _ _ _ => N2
  refine ke_ne_ints (News.isList N2 (.head _)) (News.isList N2 (.tail _ (.tail _ (.tail _ (.head _))))) hqs hrs (Nat.le_of_ble_eq_true rfl) ?_
  rw [show decide ((wrAt o 5).runs = (wrAt o 5).runs) = true from decide_eq_true rfl]
  have N3 := drop_to N2 (news := (b, W.listOf rs.toArray nb) :: (oa, W.listOf ovs.toArray no) :: news) (sub_cons (.tail _ (.tail _ (.tail _ (.head _)))) (sub_tail (sub_tail (sub_tail (sub_tail sub_refl)))))
  clear N2
  k_steps
  refine ⟨?_⟩
  rename Fr _ _ _ _ => F3
  refine comp_vals F3 (by with_unfolding_all rfl) (by decide) (by rfl) (by decide) (by rfl) ?_
  k_steps
  rename News _ _ _ _ => N4
  refine ⟨5, _, (fun i y => ∃ (n : Str) (t : Tok), ((o.map fun k => [97 + Int.toNat k]).map S)[i]? = some n ∧ y = .str n t), _, rfl, (by assumption), N4, by rw [sizeLine_eq]; omega, .inl ⟨_, _, _, rfl, .tail _ (.head _), by rw [hI.length, hO.len], rfl⟩, ?_, ?_⟩
  · intro i v I oI C oC D oD m2 h tk E' hi hv hC hx F5 N5 hne
    obtain ⟨n, t, hn, rfl⟩ := ints_get hI hv
    have hn2 := hO.h02 n (List.mem_of_getElem? hn)
    k_steps
    refine VEnd.mk' (by assumption) (by assumption) ⟨_, _, ?_, rfl⟩
    rw [List.getElem?_map, List.getElem?_map, hn, abc_item hn2]
    rfl
  intro ys D h tk hl hR F5 N5 hD
  k_steps
  refine ⟨?_⟩
  have hz1 : ∀ z ∈ o.map (fun k => [97 + Int.toNat k]), z.length ≤ 1 := by
    intro z hz
    obtain ⟨k, hk, rfl⟩ := List.mem_map.mp hz
    exact Nat.le_refl _
  refine join_S (sep := [46, 46, 46]) (xs := o.map fun k => [97 + Int.toNat k]) (by decide) (News.isList (by assumption) (.head _)) (strs_of (by rw [hl]; simp [hO.len]) hR) (by decide) (fun z hz => Nat.le_trans (hz1 z hz) (by decide)) (by simp [hO.len]) ?_
  have hjl := joinL_len [46, 46, 46] _ 1 hz1
  rw [List.length_map, hO.len] at hjl
  have hjl2 : _ ≤ 20 := hjl
  intro t1 k1
  k_steps
  refine ⟨?_⟩
  refine add_S (a := [46, 46, 46]) (by decide) rfl (by decide) (by omega) ?_
  intro t2 k2
  k_steps
  refine ⟨?_⟩
  refine add_S (b := [46, 46, 46]) rfl (by decide) (by rw [List.length_append]; simp only [List.length_cons, List.length_nil]; omega) (by decide) ?_
  intro t3 k3
  rename News _ _ _ _ => N6
  have N7 := drop_to N6 (news := (b, W.listOf rs.toArray nb) :: (oa, W.listOf ovs.toArray no) :: news) (sub_tail sub_refl)
  clear N6
  have hrs16 : rs.length ≤ 16777216 := by rw [hrs.length]; omega
  k_steps
  refine ⟨?_⟩
  refine mul_S (l := dk) (wrAt o 5).runs.length rfl rfl (by omega) (by omega) ?_
  intro t4 k4
  k_steps
  refine ⟨?_⟩
  obtain ⟨ws, e1, e2, e3, e4, e5, e6, e7⟩ := hO.ell1
  refine Claim.use (ell_c (ws := ws) e1 e2 e3 e4 e5 e6) (by k_asm) (by k_asm) (by k_asm) (by assumption) (by k_asm) rfl ?_ ?_ ?_
  · decide +kernel
  · decide +kernel
  intro h6 tk6 F6 N6
  rw [e7]
  k_steps
  refine ⟨?_⟩
  refine mul_S (l := dk) ((wrAt o 5).runs.length - 1) rfl (by omega) (by omega) (by omega) ?_
  intro t5 k5
  k_steps
  refine ⟨?_⟩
  clear e1 e2 e3 e4 e5 e6 e7 ws
  obtain ⟨ws, e1, e2, e3, e4, e5, e6, e7⟩ := hO.ell2
  refine Claim.use (ell_c (ws := ws) e1 e2 e3 e4 e5 e6) (by k_asm) (by k_asm) (by k_asm) (by assumption) (by k_asm) rfl ?_ ?_ ?_
  · decide +kernel
  · decide +kernel
  intro h7 tk7 F7 N7
  rw [e7]
  clear e1 e2 e3 e4 e5 e6 e7 ws
  k_steps
  refine ⟨?_⟩
  refine mul_S (l := [32]) ((wrAt o 5).runs.length - 1) (by decide) (by omega) (by decide) (by omega) ?_
  intro t6 k6
  k_steps
  refine ⟨?_⟩
  refine add_S rfl rfl (by omega) (by rw [rep_len]; simp; omega) ?_
  intro t7 k7
  k_steps
  refine ⟨?_⟩
  refine add_S (b := [9]) rfl (by decide) (by rw [List.length_append, rep_len]; simp; omega) (by decide) ?_
  intro t8 k8
  k_steps
  rename News _ _ _ _ => N8
  rename Fr _ _ _ _ => F8
  refine K _ _ _ _ rfl ?_ F8 (drop_to N8 (sub_tail sub_refl))
  intro y q1 q2 q3 q4
  simp +zetaDelta only [q1, q2, q3, q4, if_false]
end Mine
end
section
namespace Mine
local macro_rules | `(tactic| walk_at "pad") => `(tactic| skip)
theorem rst_M10 : True := by
  w_top off
  trivial
local macro_rules | `(tactic| walk_at $s) => if ["pyIter ref", "call ref"].contains s.getString then `(tactic| refine hold ?_) else Lean.Macro.throwUnsupported
noncomputable def leadOf (os : List (List Int)) : List Nat := (os.map fun o => rep [32] ((wrAt o 5).runs.length - 1) ++ [9]).flatten
theorem leadOf_snoc {os : List (List Int)} {i : Nat} {o : List Int} (h : os[i]? = some o) : leadOf (os.take (i + 1)) = leadOf (os.take i) ++ rep [32] ((wrAt o 5).runs.length - 1) ++ [9] := by
  unfold leadOf
  rw [List.take_add_one, h]
  simp
theorem leadOf_len (os : List (List Int)) : (leadOf os).length ≤ os.length * 6 := by
  induction os with
  | nil => simp [leadOf]
  | cons o r ih =>
    have h := (wrAt_len o 5).2
    unfold leadOf at ih ⊢
    rw [List.map_cons, List.flatten_cons, List.length_append, List.length_append, rep_len]
    simp only [List.length_cons, List.length_nil]
    omega
set_option maxRecDepth 100000 in
set_option maxHeartbeats 8000000 in
theorem law_s10 {w : World} {p : Program} {loose : List Str} {mean : ExcName → Option Value} {mg mb : Str → Option Value} {L fa : Addr} {cd : Value} {h₀ : Heap} {m : Str → Option Value} {s : Shared} {Q : Flow → Shared → Prop} {E : Value → Shared → Prop} {ca : Addr} {cvs : List Value} {cards : List Int} {nc : Nat} {oc : Obj} {dk : List Nat} {td tl tw : Tok} {wd : Int} {news : Led}
    (B : Below callerA h₀ [] h₀) (F : Fr h₀ L s.heap (nm m [(Str.ofString "lead", .str (S []) tl), (Str.ofString "deck", .str (S dk) td), (Str.ofString "width", .int wd tw)])) (X : (heapK w.params).In h₀) (T : Top p loose mean mg mb h₀) (N : News h₀ L s.heap ((ca, W.listOf cvs.toArray nc) :: (L + 1, oc) :: news)) (hE : PassesOwn (model prg w) (lawA L fa cd) (lawEnv L fa cd) E) (hoc : oc.data = .cell (some (.ref ca))) (hI : IntsAre cvs cards) (h5 : cards.length = 5) (hcap : ∀ i, i < cards.length → (ordersAt cards i).length ≤ 1000 ∧ ∀ x ∈ ordersAt cards i, x.length ≤ 100) (hos : ∀ o ∈ ordersAt cards 5, OrderOk dk o) (hdk : dk.length ≤ 100) (hol : (ordersAt cards 5).length ≤ 100)
    (K : ∀ (h' : Heap) (tk' : Nat) (u : Str → Option Value) (t : Tok), Fr h₀ L h' (nm u [(Str.ofString "lead", .str (S (leadOf (ordersAt cards 5))) t), (Str.ofString "deck", .str (S dk) td), (Str.ofString "width", .int wd tw)]) → News h₀ L h' ((ca, W.listOf cvs.toArray nc) :: (L + 1, oc) :: news) → Q .next { s with heap := h', toks := tk' }) :
    wpAny (model prg w) (lawA L fa cd) (exec (lawStmt 10) (lawEnv L fa cd)) Q E s := by
  dsimp only [lawEnv, lawA, lawScope, lawBody, lawStmt, lawParts, nth, List.drop]
  with_unfolding_all refine For_invVF F ?_ ?_ ?_ (hE := hE)
  · rfl
  · rfl
  k_steps
  refine ⟨?_⟩
  refine Claim.use (orders_c hI hcap) (by k_asm) (by k_asm) (by k_asm) (by assumption) (by k_asm) rfl ?_ ?_ ?_
  · decide +kernel
  · decide +kernel
  intro ra nra rs hrs h1 tk1 F1 N1
  rw [h5] at hrs
  k_steps
  refine ⟨?_⟩
  rename Fr _ _ _ _ => F2
  rename News _ _ _ _ => N2
  refine for_list (σ := Tok) (l := ra) (vs := rowRefs rs) (nn := nra) (fun _ _ => (ra, W.listOf (rowRefs rs).toArray nra) :: (rowsLed rs ++ ((ca, W.listOf cvs.toArray nc) :: (L + 1, oc) :: news)))
    (fun i t => [(Str.ofString "lead", .str (S (leadOf ((ordersAt cards 5).take i))) t), (Str.ofString "deck", .str (S dk) td), (Str.ofString "width", .int wd tw)])
    (fun _ _ => True) tl rfl (fun _ _ => .head _) F2 N2 (all_cons rfl (all_cons rfl (all_cons rfl all_nil)))
    (fun _ _ => all_cons (show Str.ofString "lead" ≠ Str.ofString "order" by decide) (all_cons (show Str.ofString "deck" ≠ Str.ofString "order" by decide) (all_cons (show Str.ofString "width" ≠ Str.ofString "order" by decide) all_nil))) trivial ?_ ?_
  · rintro i v t I it u h2 tk2 hv _ hoff F3 N3
    dsimp only at hoff F3 N3 ⊢
    obtain ⟨r, hr, rfl⟩ : ∃ r, rs[i]? = some r ∧ v = .ref r.1 := by
      unfold rowRefs at hv
      rw [List.getElem?_map] at hv
      cases e : rs[i]? with
      | none => rw [e] at hv; cases hv
      | some r => rw [e] at hv; exact ⟨r, rfl, (Option.some.inj hv).symm⟩
    obtain ⟨x, hx, hxr⟩ := hrs.at hr
    have hO := hos x (List.mem_of_getElem? hx)
    have hll := leadOf_len ((ordersAt cards 5).take i)
    rw [List.length_take] at hll
    have N4 := drop_to N3 (news := (r.1, W.listOf r.2.1.toArray r.2.2) :: (I, it) :: (ra, W.listOf (rowRefs rs).toArray nra) :: (rowsLed rs ++ ((ca, W.listOf cvs.toArray nc) :: (L + 1, oc) :: news))) (sub_cons (.tail _ (.tail _ (List.mem_append_left _ (List.mem_map.mpr ⟨r, List.mem_of_getElem? hr, rfl⟩)))) sub_refl)
    refine law_turn (m := nm u [(Str.ofString "order", .ref r.1), (Str.ofString "lead", .str (S (leadOf ((ordersAt cards 5).take i))) t), (Str.ofString "deck", .str (S dk) td), (Str.ofString "width", .int wd tw)]) (tl := t) (td := td) B (nm_fr F3 (all_cons rfl (all_cons rfl (all_cons rfl all_nil)))) X T N4 hxr hO hdk (by omega) ?_
    intro h3 tk3 m' t' hm1 hm2 F5 N5
    dsimp only [FPost]
    refine FEnd.mk' t' F5 (drop_to N5 (sub_tail sub_refl)) hoff (all_cons ?_ (all_cons ?_ (all_cons ?_ all_nil))) trivial
    · rw [leadOf_snoc hx]; exact hm1
    · rw [hm2 (Str.ofString "deck") (by decide) (by decide) (by decide) (by decide)]; rfl
    · rw [hm2 (Str.ofString "width") (by decide) (by decide) (by decide) (by decide)]; rfl
  · rintro t u h2 tk2 _ F3 N3
    have e : (rowRefs rs).length = (ordersAt cards 5).length := by rw [← hrs.length]; simp [rowRefs]
    rw [e, List.take_length] at F3
    refine K _ _ u t F3 (drop_to N3 (sub_tail fun p hp => List.mem_append_right _ hp))
end Mine
end
section
namespace Mine
theorem rst_M11 : True := by
  w_top off
  trivial
local macro_rules | `(tactic| walk_at $s) => if ["eval ListComp", "call ref"].contains s.getString then `(tactic| refine hold ?_) else Lean.Macro.throwUnsupported
set_option maxRecDepth 100000 in
set_option maxHeartbeats 8000000 in
theorem law_s11 {w : World} {p : Program} {loose : List Str} {mean : ExcName → Option Value} {mg mb : Str → Option Value} {L fa : Addr} {cd : Value} {h₀ : Heap} {m : Str → Option Value} {s : Shared} {Q : Flow → Shared → Prop} {E : Value → Shared → Prop} {ka : Addr} {kvs : List Value} {n0 n1 n2 : Nat} {nk : Nat} {od : Obj} {news : Led}
    (B : Below callerA h₀ [] h₀) (F : Fr h₀ L s.heap (nm m [])) (X : (heapK w.params).In h₀) (T : Top p loose mean mg mb h₀) (N : News h₀ L s.heap ((ka, W.listOf kvs.toArray nk) :: (L + 2, od) :: news)) (hod : od.data = .cell (some (.ref ka))) (hI : IntsAre kvs [(n0 : Int), (n1 : Int), (n2 : Int)]) (h0 : n0 ≤ 5) (h1 : n1 ≤ 5) (h2 : n2 ≤ 5)
    (K : ∀ (h' : Heap) (tk' : Nat) (t : Tok), Fr h₀ L h' (fun z => if z = Str.ofString "squares" then some (.int ((n0 * n0 + n1 * n1 + n2 * n2 : Nat) : Int) t) else nm m [] z) → News h₀ L h' ((ka, W.listOf kvs.toArray nk) :: (L + 2, od) :: news) → Q .next { s with heap := h', toks := tk' }) :
    wpAny (model prg w) (lawA L fa cd) (exec (lawStmt 11) (lawEnv L fa cd)) Q E s := by
  dsimp only [lawEnv, lawA, lawScope, lawBody, lawStmt, lawParts, nth, List.drop]
  k_steps
  refine ⟨?_⟩
  refine comp_vals F (by with_unfolding_all rfl) (by decide) (by rfl) (by decide) (by rfl) ?_
  k_steps
  refine ⟨3, _, (fun i y => ∃ (n : Int) (t : Tok), ([(n0 : Int), (n1 : Int), (n2 : Int)].map fun x => x * x)[i]? = some n ∧ y = .int n t), _, rfl, (by assumption), (by assumption), by rw [sizeLine_eq]; omega, .inl ⟨_, _, _, rfl, .head _, by rw [hI.length]; rfl, rfl⟩, ?_, ?_⟩
  · intro i v I oI C oC D oD m2 h tk E' hi hv hC hx F5 N5 hne
    obtain ⟨n, t, hn, rfl⟩ := ints_get hI hv
    have hn2 : 0 ≤ n ∧ n ≤ 5 := by
      rcases (by omega : i = 0 ∨ i = 1 ∨ i = 2) with rfl | rfl | rfl <;> cases hn <;> omega
    k_steps
    refine VEnd.mk' (by assumption) (by assumption) ⟨_, _, ?_, rfl⟩
    rw [List.getElem?_map, hn]
    rfl
  intro ys D h tk hl hR F5 N5 hD
  have hys0 := ints_of (by rw [hl]; rfl) hR
  have hys := ints_eq hys0 (show _ = [((n0 * n0 : Nat) : Int), ((n1 * n1 : Nat) : Int), ((n2 * n2 : Nat) : Int)] from by simp [Int.natCast_mul])
  clear hys0
  k_steps
  rename Fr _ _ _ _ => F9
  rename News _ _ _ _ => N9
  have e : ((n0 * n0 : Nat) : Int) + (((n1 * n1 : Nat) : Int) + (((n2 * n2 : Nat) : Int) + 0)) = ((n0 * n0 + n1 * n1 + n2 * n2 : Nat) : Int) := by
    omega
  rw [e] at F9
  exact K _ _ _ F9 (drop_to N9 (sub_tail sub_refl))
open Builtin.Int (intBits) in
theorem pw_bits {W k : Nat} (hW : W ≤ 1015) (hk : k ≤ 11) : intBits (((2 : Int) ^ W) ^ k) ≤ 11166 := by
  rw [← Int.pow_mul]
  have : W * k ≤ 1015 * 11 := Nat.mul_le_mul hW hk
  exact Nat.le_trans (bits_pow _) (by omega)
theorem tal_02 {tal : List Int} (h : ∀ x ∈ tal, 0 ≤ x ∧ x ≤ 30) (i : Nat) : 0 ≤ tal.getD i 0 ∧ tal.getD i 0 ≤ 30 := by
  cases e : tal[i]? with
  | none => simp [List.getD_eq_getElem?_getD, e]
  | some v => simpa [List.getD_eq_getElem?_getD, e] using h v (List.mem_of_getElem? e)
end Mine
end
section
namespace Mine
local macro_rules | `(tactic| walk_at "pad") => `(tactic| skip)
theorem rst_M12 : True := by
  w_top off
  trivial
local macro_rules | `(tactic| walk_at $s) => if ["eval ListComp", "call ref", "call builtin:sum", "binaryOp Mult str int", "binaryOp Add str str"].contains s.getString then `(tactic| refine hold ?_) else Lean.Macro.throwUnsupported
set_option maxRecDepth 100000 in
set_option maxHeartbeats 8000000 in
theorem law_s12 {w : World} {p : Program} {loose : List Str} {mean : ExcName → Option Value} {mg mb : Str → Option Value} {L fa : Addr} {cd : Value} {h₀ : Heap} {m : Str → Option Value} {s : Shared} {Q : Flow → Shared → Prop} {E : Value → Shared → Prop} {lead : List Nat} {tl tq : Tok} {sq : Nat} {news : Led}
    (B : Below callerA h₀ [] h₀) (F : Fr h₀ L s.heap (nm m [(Str.ofString "lead", .str (S lead) tl), (Str.ofString "squares", .int (sq : Int) tq)])) (X : (heapK w.params).In h₀) (T : Top p loose mean mg mb h₀) (N : News h₀ L s.heap news) (hl : ∀ k ∈ lead, k = 32 ∨ k = 9) (hll : lead.length ≤ 1000) (hsq : sq ≤ 1000)
    (K : ∀ (h' : Heap) (tk' : Nat) (x dx D C : Addr) (t1 t2 t3 t4 t5 tn tnt tb : Tok) (sm : Bool) (wvs : List Value) (y : Str) (ty : Tok), IntsAre wvs (wsAt (lead ++ rep [32] sq) (lead ++ rep [32] sq).length).count → Fr h₀ L h' (fun z => if z = Str.ofString "table" then some (.ref x) else nm m [(Str.ofString "lead", .str (S lead) tl), (Str.ofString "squares", .int (sq : Int) tq)] z) →
      News h₀ L h' ((x, instObj 139 dx) :: (dx, whiteObj w t1 t2 t3 t4 t5 tn tnt y ty (wsAt (lead ++ rep [32] sq) (lead ++ rep [32] sq).length).n (wsAt (lead ++ rep [32] sq) (lead ++ rep [32] sq).length).nt D sm) :: (D, tupOf [.ref C, .int (wsAt (lead ++ rep [32] sq) (lead ++ rep [32] sq).length).b tb]) :: (C, { cls := .type "tuple", data := .seq wvs.toArray }) :: news) → Q .next { s with heap := h', toks := tk' }) :
    wpAny (model prg w) (lawA L fa cd) (exec (lawStmt 12) (lawEnv L fa cd)) Q E s := by
  dsimp only [lawEnv, lawA, lawScope, lawBody, lawStmt, lawParts, nth, List.drop]
  k_steps
  refine ⟨?_⟩
  refine mul_S (l := [32]) sq (by decide) rfl (by decide) (by omega) ?_
  intro t1 k1
  have hrl : (rep [32] sq).length = sq := by rw [rep_len]; simp
  k_steps
  refine ⟨?_⟩
  refine add_S rfl rfl (by omega) (by omega) ?_
  intro t2 k2
  k_steps
  refine ⟨?_⟩
  refine add_S (b := [120]) rfl (by decide) (by rw [List.length_append]; omega) (by decide) ?_
  intro t3 k3
  k_steps
  refine ⟨?_⟩
  refine Claim.use (white_c (body := lead ++ rep [32] sq) rfl ?_ (by rw [List.length_append]; omega)) (by k_asm) (by k_asm) (by k_asm) (drop_to (by assumption) sub_refl) (by k_asm) rfl ?_ ?_ ?_
  · intro k hk
    rcases List.mem_append.mp hk with q | q
    · exact hl k q
    · left
      unfold rep at q
      obtain ⟨r, hr, hkr⟩ := List.mem_flatten.mp q
      rw [List.eq_of_mem_replicate hr] at hkr
      exact List.mem_singleton.mp hkr
  · decide +kernel
  · decide +kernel
  intro x dx D C t1 t2 t3 t4 t5 tn tnt tb sm wvs hw h' tk' F' N'
  k_steps
  exact K _ _ _ _ _ _ _ _ _ _ _ _ _ _ _ _ _ _ hw (by assumption) (drop_to (by assumption) (sub_cons (.head _) (sub_cons (.tail _ (.head _)) (sub_cons (.tail _ (.tail _ (.head _))) (sub_cons (.tail _ (.tail _ (.tail _ (.head _)))) (sub_tail (sub_tail (sub_tail (sub_tail sub_refl)))))))))
end Mine
end
section
namespace Mine
theorem rst_M13 : True := by
  w_top off
  trivial
local macro_rules | `(tactic| walk_at $s) => if ["eval ListComp", "call ref"].contains s.getString then `(tactic| refine hold ?_) else Lean.Macro.throwUnsupported
set_option maxRecDepth 100000 in
set_option maxHeartbeats 8000000 in
theorem law_s13 {w : World} {p : Program} {loose : List Str} {mean : ExcName → Option Value} {mg mb : Str → Option Value} {L fa : Addr} {cd : Value} {h₀ : Heap} {m : Str → Option Value} {s : Shared} {Q : Flow → Shared → Prop} {E : Value → Shared → Prop} {x dx D C : Addr} {wvs : List Value} {n nt b : Nat} {oy : Obj} {dy : Option Value} {t1 t2 t3 t4 t5 tn tnt tb : Tok} {sm : Bool} {y : Str} {ty : Tok} {news : Led}
    (B : Below callerA h₀ [] h₀) (F : Fr h₀ L s.heap (nm m [(Str.ofString "table", .ref x)])) (X : (heapK w.params).In h₀) (T : Top p loose mean mg mb h₀) (N : News h₀ L s.heap ((x, instObj 139 dx) :: (dx, whiteObj w t1 t2 t3 t4 t5 tn tnt y ty n nt D sm) :: (D, tupOf [.ref C, .int b tb]) :: (C, { cls := .type "tuple", data := .seq wvs.toArray }) :: (L + 3, oy) :: news)) (hoy : oy.data = .cell dy) (hoff : ∀ p ∈ news, @Ne Nat p.1 (L + 3)) (hn1 : @Ne Nat x (L + 3)) (hn2 : @Ne Nat dx (L + 3)) (hn3 : @Ne Nat D (L + 3)) (hn4 : @Ne Nat C (L + 3))
    (K : ∀ (h' : Heap) (tk' : Nat) (t : Tok) (oy' : Obj), oy'.data = .cell (some (.ref C)) → Fr h₀ L h' (fun z => if z = Str.ofString "behind" then some (.int b tb) else nm m [(Str.ofString "table", .ref x)] z) →
      News h₀ L h' ((x, instObj 139 dx) :: (dx, whiteObj w t1 t2 t3 t4 t5 tn tnt y ty n nt D sm) :: (D, tupOf [.ref C, .int b tb]) :: (C, { cls := .type "tuple", data := .seq wvs.toArray }) :: (L + 3, oy') :: news) → Q .next { s with heap := h', toks := tk' }) :
    wpAny (model prg w) (lawA L fa cd) (exec (lawStmt 13) (lawEnv L fa cd)) Q E s := by
  dsimp only [lawEnv, lawA, lawScope, lawBody, lawStmt, lawParts, nth, List.drop]
  k_steps
  rename Fr _ _ _ _ => F9
  rename News _ _ _ _ => N9
  refine storeX_C F9 (drop_to N9 sub_refl) (by rfl) (.tail hn1 (.tail hn2 (.tail hn3 (.tail hn4 (.head hoff))))) hoy ?_ (by rfl) (by rfl)
  intro h6 o6 F6 N6 e6
  k_steps
  exact K _ _ default _ e6 (by assumption) (by assumption)
end Mine
end
section
namespace Mine
theorem rst_M14 : True := by
  w_top off
  trivial
set_option maxRecDepth 100000 in
set_option maxHeartbeats 8000000 in
theorem law_s14 {w : World} {p : Program} {loose : List Str} {mean : ExcName → Option Value} {mg mb : Str → Option Value} {L fa : Addr} {cd : Value} {h₀ : Heap} {m : Str → Option Value} {s : Shared} {Q : Flow → Shared → Prop} {E : Value → Shared → Prop} {W : Nat} {tw : Tok} {op : Obj} {dp : Option Value} {news : Led}
    (B : Below callerA h₀ [] h₀) (F : Fr h₀ L s.heap (nm m [(Str.ofString "width", .int (W : Int) tw)])) (X : (heapK w.params).In h₀) (T : Top p loose mean mg mb h₀) (N : News h₀ L s.heap ((L + 4, op) :: news)) (hop : op.data = .cell dp) (hoff : ∀ p ∈ news, @Ne Nat p.1 (L + 4)) (hW : 16 ≤ W ∧ W ≤ 1015)
    (K : ∀ (h' : Heap) (tk' : Nat) (t : Tok) (op' : Obj), op'.data = .cell (some (.int ((2 : Int) ^ W) t)) → Fr h₀ L h' (nm m [(Str.ofString "width", .int (W : Int) tw)]) → News h₀ L h' ((L + 4, op') :: news) → Q .next { s with heap := h', toks := tk' }) :
    wpAny (model prg w) (lawA L fa cd) (exec (lawStmt 14) (lawEnv L fa cd)) Q E s := by
  dsimp only [lawEnv, lawA, lawScope, lawBody, lawStmt, lawParts, nth, List.drop]
  k_steps
  rename Fr _ _ _ _ => F9
  rename News _ _ _ _ => N9
  refine storeX_C F9 N9 (by rfl) (.head hoff) hop ?_ (by rfl) (by rfl)
  intro h6 o6 F6 N6 e6
  exact K _ _ _ _ e6 F6 N6
end Mine
end
section
namespace Mine
theorem rst_M15 : True := by
  w_top off
  trivial
local macro_rules | `(tactic| walk_at $s) => if ["binaryOp Pow int int"].contains s.getString then `(tactic| refine hold ?_) else Lean.Macro.throwUnsupported
set_option maxRecDepth 100000 in
set_option maxHeartbeats 8000000 in
theorem law_s15 {w : World} {p : Program} {loose : List Str} {mean : ExcName → Option Value} {mg mb : Str → Option Value} {L fa : Addr} {cd : Value} {h₀ : Heap} {m : Str → Option Value} {s : Shared} {Q : Flow → Shared → Prop} {E : Value → Shared → Prop} {W : Nat} {tp : Tok} {op : Obj} {news : Led}
    (B : Below callerA h₀ [] h₀) (F : Fr h₀ L s.heap (nm m [])) (X : (heapK w.params).In h₀) (T : Top p loose mean mg mb h₀) (N : News h₀ L s.heap ((L + 4, op) :: news)) (hop : op.data = .cell (some (.int ((2 : Int) ^ W) tp))) (hW : 16 ≤ W ∧ W ≤ 1015)
    (K : ∀ (h' : Heap) (tk' : Nat) (t : Tok), Fr h₀ L h' (fun z => if z = Str.ofString "divisor" then some (.int (((2 : Int) ^ W - 1) ^ 6) t) else nm m [] z) → News h₀ L h' ((L + 4, op) :: news) → Q .next { s with heap := h', toks := tk' }) :
    wpAny (model prg w) (lawA L fa cd) (exec (lawStmt 15) (lawEnv L fa cd)) Q E s := by
  dsimp only [lawEnv, lawA, lawScope, lawBody, lawStmt, lawParts, nth, List.drop]
  k_steps
  refine ⟨?_⟩
  have hp : (0 : Int) < 2 ^ W := kbt_pos W
  refine pow_c 6 rfl (Nat.le_trans (bits_of_lt (k := W) (by omega) (by omega)) (by omega)) (by decide) ?_
  k_steps
  exact K _ _ _ (by assumption) (by assumption)
end Mine
end
section
namespace Mine
local macro_rules | `(tactic| walk_at "pad") => `(tactic| skip)
theorem rst_M16 : True := by
  w_top off
  trivial
local macro_rules | `(tactic| walk_at $s) => if ["eval ListComp", "call builtin:len", "binaryOp Pow int int", "binaryOp Mult int int"].contains s.getString then `(tactic| refine hold ?_) else Lean.Macro.throwUnsupported
noncomputable def fwdOf (tal : List Int) (W : Nat) : Int := ((List.range tal.length).map fun i => tal.getD i 0 * ((2 : Int) ^ W) ^ (11 - i)).sum
set_option maxRecDepth 100000 in
set_option maxHeartbeats 8000000 in
theorem law_s16 {w : World} {p : Program} {loose : List Str} {mean : ExcName → Option Value} {mg mb : Str → Option Value} {L fa : Addr} {cd : Value} {h₀ : Heap} {m : Str → Option Value} {s : Shared} {Q : Flow → Shared → Prop} {E : Value → Shared → Prop} {C : Addr} {wvs : List Value} {tal : List Int} {W : Nat} {tp : Tok} {op oy : Obj} {news : Led}
    (B : Below callerA h₀ [] h₀) (F : Fr h₀ L s.heap (nm m [])) (X : (heapK w.params).In h₀) (T : Top p loose mean mg mb h₀) (N : News h₀ L s.heap ((C, { cls := .type "tuple", data := .seq wvs.toArray }) :: (L + 3, oy) :: (L + 4, op) :: news)) (hop : op.data = .cell (some (.int ((2 : Int) ^ W) tp))) (hoy : oy.data = .cell (some (.ref C))) (hI : IntsAre wvs tal) (htl : tal.length ≤ 5) (htb : ∀ x ∈ tal, 0 ≤ x ∧ x ≤ 30) (hW : 16 ≤ W ∧ W ≤ 1015)
    (K : ∀ (h' : Heap) (tk' : Nat) (t : Tok), Fr h₀ L h' (fun z => if z = Str.ofString "forward" then some (.int (fwdOf tal W) t) else nm m [] z) → News h₀ L h' ((C, { cls := .type "tuple", data := .seq wvs.toArray }) :: (L + 3, oy) :: (L + 4, op) :: news) → Q .next { s with heap := h', toks := tk' }) :
    wpAny (model prg w) (lawA L fa cd) (exec (lawStmt 16) (lawEnv L fa cd)) Q E s := by
  dsimp only [lawEnv, lawA, lawScope, lawBody, lawStmt, lawParts, nth, List.drop]
  have hvl : wvs.length ≤ 16777216 := by rw [hI.length]; omega
  k_steps
  refine ⟨?_⟩
  refine comp_vals F (by with_unfolding_all rfl) (by decide) (by rfl) (by decide) (by rfl) ?_
  k_steps
  refine ⟨?_⟩
  refine len_tuple (N.isTup (.head _)) (by simp; omega) ?_
  rw [List.size_toArray, hI.length]
  k_steps
  refine ⟨tal.length, _, (fun i y => ∃ (n : Int) (t : Tok), ((List.range tal.length).map fun i => tal.getD i 0 * ((2 : Int) ^ W) ^ (11 - i))[i]? = some n ∧ y = .int n t), _, rfl, (by assumption), (by assumption), by rw [sizeLine_eq]; omega, .inr ⟨_, _, _, _, _, _, _, rfl, (by assumption), ?_, ?_, rfl⟩, ?_, ?_⟩
  · exact range_small (by omega)
  · exact range_size _
  · rintro i v I oI C2 oC D oD m2 h tk E' hi ⟨t, rfl⟩ hC hx F5 N5 hne
    rw [Int.mul_one, Int.zero_add] at hx
    have hi' : (i : Int) < (tal.length : Int) := by omega
    have hx0 := tal_02 htb i
    k_steps
    refine ⟨?_⟩
    refine pow_c (11 - i) (by omega) (Nat.le_trans (bits_pow W) (by omega)) (by omega) ?_
    have hb2 := pw_bits (W := W) (k := 11 - i) (by omega) (by omega)
    k_steps
    refine ⟨?_⟩
    refine mul_int ?_ (mul_ok (Nat.le_trans (bits_of_lt (k := 5) hx0.1 (Int.lt_of_le_of_lt hx0.2 (by decide))) (by decide)) (Nat.le_trans hb2 (by decide)))
    k_steps
    refine VEnd.mk' (by assumption) (by assumption) ⟨_, _, ?_, rfl⟩
    rw [List.getElem?_map, List.getElem?_range hi]
    rfl
  intro ys D h tk hl hR F5 N5 hD
  have hys := ints_of (by rw [hl]; simp) hR
  k_steps
  rename Fr _ _ _ _ => F9
  rename News _ _ _ _ => N9
  exact K _ _ _ F9 (drop_to N9 (sub_tail sub_refl))
end Mine
end
section
namespace Mine
theorem rst_M17 : True := by
  w_top off
  trivial
local macro_rules | `(tactic| walk_at $s) => if ["eval ListComp", "call builtin:len", "binaryOp Pow int int", "binaryOp Mult int int"].contains s.getString then `(tactic| refine hold ?_) else Lean.Macro.throwUnsupported
noncomputable def bwdOf (tal : List Int) (W : Nat) : Int := ((List.range tal.length).map fun i => tal.getD i 0 * ((2 : Int) ^ W) ^ (7 + i)).sum
set_option maxRecDepth 100000 in
set_option maxHeartbeats 8000000 in
theorem law_s17 {w : World} {p : Program} {loose : List Str} {mean : ExcName → Option Value} {mg mb : Str → Option Value} {L fa : Addr} {cd : Value} {h₀ : Heap} {m : Str → Option Value} {s : Shared} {Q : Flow → Shared → Prop} {E : Value → Shared → Prop} {C : Addr} {wvs : List Value} {tal : List Int} {W : Nat} {tp : Tok} {op oy : Obj} {news : Led}
    (B : Below callerA h₀ [] h₀) (F : Fr h₀ L s.heap (nm m [])) (X : (heapK w.params).In h₀) (T : Top p loose mean mg mb h₀) (N : News h₀ L s.heap ((C, { cls := .type "tuple", data := .seq wvs.toArray }) :: (L + 3, oy) :: (L + 4, op) :: news)) (hop : op.data = .cell (some (.int ((2 : Int) ^ W) tp))) (hoy : oy.data = .cell (some (.ref C))) (hI : IntsAre wvs tal) (htl : tal.length ≤ 5) (htb : ∀ x ∈ tal, 0 ≤ x ∧ x ≤ 30) (hW : 16 ≤ W ∧ W ≤ 1015)
    (K : ∀ (h' : Heap) (tk' : Nat) (t : Tok), Fr h₀ L h' (fun z => if z = Str.ofString "backward" then some (.int (bwdOf tal W) t) else nm m [] z) → News h₀ L h' ((C, { cls := .type "tuple", data := .seq wvs.toArray }) :: (L + 3, oy) :: (L + 4, op) :: news) → Q .next { s with heap := h', toks := tk' }) :
    wpAny (model prg w) (lawA L fa cd) (exec (lawStmt 17) (lawEnv L fa cd)) Q E s := by
  dsimp only [lawEnv, lawA, lawScope, lawBody, lawStmt, lawParts, nth, List.drop]
  have hvl : wvs.length ≤ 16777216 := by rw [hI.length]; omega
  k_steps
  refine ⟨?_⟩
  refine comp_vals F (by with_unfolding_all rfl) (by decide) (by rfl) (by decide) (by rfl) ?_
  k_steps
  refine ⟨?_⟩
  refine len_tuple (N.isTup (.head _)) (by simp; omega) ?_
  rw [List.size_toArray, hI.length]
  k_steps
  refine ⟨tal.length, _, (fun i y => ∃ (n : Int) (t : Tok), ((List.range tal.length).map fun i => tal.getD i 0 * ((2 : Int) ^ W) ^ (7 + i))[i]? = some n ∧ y = .int n t), _, rfl, (by assumption), (by assumption), by rw [sizeLine_eq]; omega, .inr ⟨_, _, _, _, _, _, _, rfl, (by assumption), ?_, ?_, rfl⟩, ?_, ?_⟩
  · exact range_small (by omega)
  · exact range_size _
  · rintro i v I oI C2 oC D oD m2 h tk E' hi ⟨t, rfl⟩ hC hx F5 N5 hne
    rw [Int.mul_one, Int.zero_add] at hx
    have hi' : (i : Int) < (tal.length : Int) := by omega
    have hx0 := tal_02 htb i
    k_steps
    refine ⟨?_⟩
    refine pow_c (7 + i) (by omega) (Nat.le_trans (bits_pow W) (by omega)) (by omega) ?_
    have hb2 := pw_bits (W := W) (k := 7 + i) (by omega) (by omega)
    k_steps
    refine ⟨?_⟩
    refine mul_int ?_ (mul_ok (Nat.le_trans (bits_of_lt (k := 5) hx0.1 (Int.lt_of_le_of_lt hx0.2 (by decide))) (by decide)) (Nat.le_trans hb2 (by decide)))
    k_steps
    refine VEnd.mk' (by assumption) (by assumption) ⟨_, _, ?_, rfl⟩
    rw [List.getElem?_map, List.getElem?_range hi]
    rfl
  intro ys D h tk hl hR F5 N5 hD
  have hys := ints_of (by rw [hl]; simp) hR
  k_steps
  rename Fr _ _ _ _ => F9
  rename News _ _ _ _ => N9
  exact K _ _ _ F9 (drop_to N9 (sub_tail sub_refl))
end Mine
end
section
namespace Mine
local macro_rules | `(tactic| walk_at "pad") => `(tactic| skip)
theorem rst_M18 : True := by
  w_top off
  trivial
local macro_rules | `(tactic| walk_at $s) => if ["call ref"].contains s.getString then `(tactic| refine hold ?_) else Lean.Macro.throwUnsupported
set_option maxRecDepth 100000 in
set_option maxHeartbeats 8000000 in
theorem law_s18 {w : World} {p : Program} {loose : List Str} {mean : ExcName → Option Value} {mg mb : Str → Option Value} {L fa : Addr} {cd : Value} {h₀ : Heap} {m : Str → Option Value} {s : Shared} {Q : Flow → Shared → Prop} {E : Value → Shared → Prop} {a b h : Int} {ta tb : Tok} {st st2 : St} {news : Led}
    (B : Below callerA h₀ [] h₀) (F : Fr h₀ L s.heap (nm m [(Str.ofString "forward", .int a ta), (Str.ofString "divisor", .int b tb)])) (X : (heapK w.params).In h₀) (T : Top p loose mean mg mb h₀) (N : News h₀ L s.heap (T37 st ++ (T44 st2 ++ news))) (C1 : CodeHd h₀ 41 37) (C2 : CodeHd h₀ 48 44) (hst : T37ok st) (hst2 : T44ok st2) (h37 : ∀ p ∈ news, p.1 ≠ 37) (h44 : ∀ p ∈ news, p.1 ≠ 44) (H : DivOk a b h)
    (K : ∀ (h' : Heap) (tk' : Nat) (u1 u2 : Tok) (c : Addr) (oc : Obj) (c2 : Addr) (oc2 : Obj), CodeOk q37 c oc → CodeOk q44 c2 oc2 → Fr h₀ L h' (fun z => if z = Str.ofString "rest" then some (.int (a % b) u2) else (fun z => if z = Str.ofString "quotient" then some (.int (a / b) u1) else nm m [(Str.ofString "forward", .int a ta), (Str.ofString "divisor", .int b tb)] z) z) → News h₀ L h' (T37 (some (c, oc)) ++ (T44 (some (c2, oc2)) ++ news)) → Q .next { s with heap := h', toks := tk' }) :
    wpAny (model prg w) (lawA L fa cd) (exec (lawStmt 18) (lawEnv L fa cd)) Q E s := by
  dsimp only [lawEnv, lawA, lawScope, lawBody, lawStmt, lawParts, nth, List.drop]
  k_steps
  refine ⟨?_⟩
  refine ClaimT.use (int_divmod_c H st st2 hst hst2 h37 h44) (by k_asm) C1 C2 (by k_asm) (by k_asm) (by assumption) (by k_asm) rfl ?_ ?_ ?_
  · decide +kernel
  · decide +kernel
  intro l u1 u2 c oc c2 oc2 k1 k2 h1 tk1 F1 N1
  k_steps
  rename Fr _ _ _ _ => F9
  rename News _ _ _ _ => N9
  exact K _ _ _ _ _ _ _ _ k1 k2 F9 (drop_to N9 (sub_tail sub_refl))
end Mine
end
section
namespace Mine
theorem rst_M19 : True := by
  w_top off
  trivial
local macro_rules | `(tactic| walk_at $s) => if ["binaryOp Mult int int", "compareOp NotEq int int"].contains s.getString then `(tactic| refine hold ?_) else Lean.Macro.throwUnsupported
set_option maxRecDepth 100000 in
set_option maxHeartbeats 8000000 in
theorem law_s19 {w : World} {p : Program} {loose : List Str} {mean : ExcName → Option Value} {mg mb : Str → Option Value} {L fa : Addr} {cd : Value} {h₀ : Heap} {m : Str → Option Value} {s : Shared} {Q : Flow → Shared → Prop} {E : Value → Shared → Prop} {q b r a : Int} {tq tb tr ta : Tok} {news : Led}
    (B : Below callerA h₀ [] h₀) (F : Fr h₀ L s.heap (nm m [(Str.ofString "quotient", .int q tq), (Str.ofString "divisor", .int b tb), (Str.ofString "rest", .int r tr), (Str.ofString "forward", .int a ta)])) (X : (heapK w.params).In h₀) (T : Top p loose mean mg mb h₀) (N : News h₀ L s.heap news) (hq : Builtin.Int.intBits q ≤ 1000000) (hb : Builtin.Int.intBits b ≤ 1000000) (e : q * b + r = a)
    (K : ∀ (h' : Heap) (tk' : Nat), Fr h₀ L h' (nm m [(Str.ofString "quotient", .int q tq), (Str.ofString "divisor", .int b tb), (Str.ofString "rest", .int r tr), (Str.ofString "forward", .int a ta)]) → News h₀ L h' news → Q .next { s with heap := h', toks := tk' }) :
    wpAny (model prg w) (lawA L fa cd) (exec (lawStmt 19) (lawEnv L fa cd)) Q E s := by
  dsimp only [lawEnv, lawA, lawScope, lawBody, lawStmt, lawParts, nth, List.drop]
  k_steps
  refine ⟨?_⟩
  refine mul_int ?_ (mul_ok hq hb)
  k_steps
  refine ⟨?_⟩
  refine ne_int ?_
  rw [e, bne_self_eq_false]
  k_steps
  exact K _ _ (by assumption) (by assumption)
end Mine
end
section
namespace Mine
local macro_rules | `(tactic| walk_at "pad") => `(tactic| skip)
theorem rst_M20 : True := by
  w_top off
  trivial
local macro_rules | `(tactic| walk_at $s) => if ["call ref", "eval ListComp", "compareOp NotEq ref ref", "compareOp NotEq int int"].contains s.getString then `(tactic| refine hold ?_) else Lean.Macro.throwUnsupported
noncomputable def dealtL (step : Int) (c0 c1 c2 : Nat) : List Int := (List.range 6).map fun (i : Nat) => dealt3 (6 + (i : Int) * -1) step c0 c1 c2
set_option maxRecDepth 100000 in
set_option maxHeartbeats 8000000 in
theorem law_s20 {w : World} {p : Program} {loose : List Str} {mean : ExcName → Option Value} {mg mb : Str → Option Value} {L fa : Addr} {cd : Value} {h₀ : Heap} {m : Str → Option Value} {s : Shared} {Q : Flow → Shared → Prop} {E : Value → Shared → Prop} {c0 c1 c2 nk : Nat} {t0 t1 t2 : Tok} {ka : Addr} {od : Obj} {st st2 : St} {wd : Nat} {tw : Tok} {news : Led} {q : Int} {tq : Tok}
    (B : Below callerA h₀ [] h₀) (F : Fr h₀ L s.heap (nm m [(Str.ofString "quotient", .int q tq), (Str.ofString "width", .int (wd : Int) tw)])) (X : (heapK w.params).In h₀) (T : Top p loose mean mg mb h₀) (N : News h₀ L s.heap (T37 st ++ (T44 st2 ++ (((ka, W.listOf [Value.int c0 t0, Value.int c1 t1, Value.int c2 t2].toArray nk) :: (L + 2, od) :: news))))) (C1 : CodeHd h₀ 41 37) (C2 : CodeHd h₀ 48 44) (hst : T37ok st) (hst2 : T44ok st2) (h37 : ∀ p ∈ (ka, W.listOf [Value.int c0 t0, Value.int c1 t1, Value.int c2 t2].toArray nk) :: (L + 2, od) :: news, p.1 ≠ 37) (hod : od.data = .cell (some (.ref ka))) (b0 : c0 ≤ 5) (b1 : c1 ≤ 5) (b2 : c2 ≤ 5) (hW : 16 ≤ wd ∧ wd ≤ 1015) (hq : 0 < q) (zq : Builtin.Int.intBits q ≤ 20000) (hkk : ((Builtin.Int.intBits q : Int) + wd - 1).fdiv wd = ((6 : Nat) : Int)) (hdg : digs wd 6 q = dealtL 1 c0 c1 c2)
    (K : ∀ (h' : Heap) (tk' : Nat) (c : Addr) (oc : Obj), CodeOk q37 c oc → Fr h₀ L h' (nm m [(Str.ofString "quotient", .int q tq), (Str.ofString "width", .int (wd : Int) tw)]) → News h₀ L h' (T37 (some (c, oc)) ++ (T44 st2 ++ (((ka, W.listOf [Value.int c0 t0, Value.int c1 t1, Value.int c2 t2].toArray nk) :: (L + 2, od) :: news)))) → Q .next { s with heap := h', toks := tk' }) :
    wpAny (model prg w) (lawA L fa cd) (exec (lawStmt 20) (lawEnv L fa cd)) Q E s := by
  dsimp only [lawEnv, lawA, lawScope, lawBody, lawStmt, lawParts, nth, List.drop]
  have zw : Builtin.Int.intBits (wd : Int) ≤ 64 := intBits_le_64 (by omega) (by omega)
  k_steps
  refine ⟨?_⟩
  refine ClaimT.use (int2digits_c (n := (wd : Int)) (k := 6) (by omega) (by omega) zw hq zq hkk (by decide) (by decide) st st2 hst hst2 h37) (by k_asm) C1 C2 (by k_asm) (by k_asm) (by assumption) (by k_asm) rfl ?_ ?_ ?_
  · decide +kernel
  · decide +kernel
  intro D dvs c oc hdv hco h1 tk1 F1 N1
  rw [Int.toNat_natCast, hdg] at hdv
  have hmem : ∀ p ∈ (ka, W.listOf [Value.int c0 t0, Value.int c1 t1, Value.int c2 t2].toArray nk) :: (L + 2, od) :: news, p ∈ (D, W.listOf dvs.toArray 0) :: (T37 (some (c, oc)) ++ (T44 st2 ++ ((ka, W.listOf [Value.int c0 t0, Value.int c1 t1, Value.int c2 t2].toArray nk) :: (L + 2, od) :: news))) := fun p hp => .tail _ (List.mem_append_right _ (List.mem_append_right _ hp))
  have N2 := drop_to N1 (news := (ka, W.listOf [Value.int c0 t0, Value.int c1 t1, Value.int c2 t2].toArray nk) :: (L + 2, od) :: (D, W.listOf dvs.toArray 0) :: (T37 (some (c, oc)) ++ (T44 st2 ++ ((ka, W.listOf [Value.int c0 t0, Value.int c1 t1, Value.int c2 t2].toArray nk) :: (L + 2, od) :: news)))) (sub_cons (hmem _ (.head _)) (sub_cons (hmem _ (.tail _ (.head _))) sub_refl))
  clear N1
  generalize hall : (T37 (some (c, oc)) ++ (T44 st2 ++ ((ka, W.listOf [Value.int c0 t0, Value.int c1 t1, Value.int c2 t2].toArray nk) :: (L + 2, od) :: news))) = all at N2
  k_steps
  refine ⟨?_⟩
  refine comp_vals (by assumption) (by with_unfolding_all rfl) (by decide) (by rfl) (by decide) (by rfl) ?_
  k_steps
  rename Fr _ _ _ _ => F5
  rename News _ _ _ _ => N5
  refine ⟨6, _, (fun i y => ∃ (n : Int) (t : Tok), (dealtL (1) c0 c1 c2)[i]? = some n ∧ y = .int n t), (ka, W.listOf [Value.int c0 t0, Value.int c1 t1, Value.int c2 t2].toArray nk) :: (L + 2, od) :: (D, W.listOf dvs.toArray 0) :: all, rfl, F5, N5, by rw [sizeLine_eq]; omega, .inr ⟨_, _, _, _, _, _, _, rfl, (by assumption), by decide, by decide, rfl⟩, ?_, ?_⟩
  · rintro i v I oI C oC D0 oD m2 h tk E' hi ⟨t, rfl⟩ hC hx F6 N6 hne
    k_steps
    refine ⟨?_⟩
    rename Fr _ _ _ _ => F7
    rename News _ _ _ _ => N7
    refine Claim.use (dealt_c (heaps := 6 + (i : Int) * -1) b0 b1 b2 (by omega) (by decide)) (by k_asm) F7 (by k_asm) (drop_to N7 (sub_cons (.tail _ (.tail _ (.tail _ (.head _)))) sub_refl)) (by k_asm) rfl ?_ ?_ ?_
    · decide +kernel
    · decide +kernel
    intro t9 h9 tk9 F9 N9
    refine VEnd.mk' F9 (drop_to N9 (sub_tail sub_refl)) ⟨_, _, ?_, rfl⟩
    unfold dealtL
    rw [List.getElem?_map, List.getElem?_range hi]
    rfl
  intro ys DD h9 tk9 hl hR F9 N9 hD
  have hys := ints_of (by rw [hl]; simp [dealtL]) hR
  k_steps
  refine ⟨?_⟩
  rename News _ _ _ _ => N11
  refine ke_ne_ints (News.isList N11 (.tail _ (.tail _ (.tail _ (.head _))))) (News.isList N11 (.head _)) hdv hys (Nat.le_of_ble_eq_true rfl) ?_
  rw [show decide (dealtL 1 c0 c1 c2 = dealtL 1 c0 c1 c2) = true from decide_eq_true rfl]
  k_steps
  refine K _ _ _ _ hco (by assumption) (by rw [hall]; exact drop_to N11 (sub_tail (sub_tail (sub_tail (sub_tail sub_refl)))))
end Mine
end
section
namespace Mine
theorem rst_M21 : True := by
  w_top off
  trivial
local macro_rules | `(tactic| walk_at $s) => if ["call ref"].contains s.getString then `(tactic| refine hold ?_) else Lean.Macro.throwUnsupported
set_option maxRecDepth 100000 in
set_option maxHeartbeats 8000000 in
theorem law_s21 {w : World} {p : Program} {loose : List Str} {mean : ExcName → Option Value} {mg mb : Str → Option Value} {L fa : Addr} {cd : Value} {h₀ : Heap} {m : Str → Option Value} {s : Shared} {Q : Flow → Shared → Prop} {E : Value → Shared → Prop} {a b h : Int} {ta tb : Tok} {st st2 : St} {news : Led}
    (B : Below callerA h₀ [] h₀) (F : Fr h₀ L s.heap (nm m [(Str.ofString "backward", .int a ta), (Str.ofString "divisor", .int b tb)])) (X : (heapK w.params).In h₀) (T : Top p loose mean mg mb h₀) (N : News h₀ L s.heap (T37 st ++ (T44 st2 ++ news))) (C1 : CodeHd h₀ 41 37) (C2 : CodeHd h₀ 48 44) (hst : T37ok st) (hst2 : T44ok st2) (h37 : ∀ p ∈ news, p.1 ≠ 37) (h44 : ∀ p ∈ news, p.1 ≠ 44) (H : DivOk a b h)
    (K : ∀ (h' : Heap) (tk' : Nat) (u1 u2 : Tok) (c : Addr) (oc : Obj) (c2 : Addr) (oc2 : Obj), CodeOk q37 c oc → CodeOk q44 c2 oc2 → Fr h₀ L h' (fun z => if z = Str.ofString "over" then some (.int (b + (-(a % b) - 1)) u2) else (fun z => if z = Str.ofString "under" then some (.int (-(a / b) - 1) u1) else nm m [(Str.ofString "backward", .int a ta), (Str.ofString "divisor", .int b tb)] z) z) → News h₀ L h' (T37 (some (c, oc)) ++ (T44 (some (c2, oc2)) ++ news)) → Q .next { s with heap := h', toks := tk' }) :
    wpAny (model prg w) (lawA L fa cd) (exec (lawStmt 21) (lawEnv L fa cd)) Q E s := by
  dsimp only [lawEnv, lawA, lawScope, lawBody, lawStmt, lawParts, nth, List.drop]
  k_steps
  refine ⟨?_⟩
  have e : -(-1 - a) - 1 = a := by omega
  have ha := H.ha
  refine ClaimT.use (int_divmod_neg_c (h := h) (by rw [e]; exact H) (by omega) st st2 hst hst2 h37 h44) (by k_asm) C1 C2 (by k_asm) (by k_asm) (by assumption) (by k_asm) rfl ?_ ?_ ?_
  · decide +kernel
  · decide +kernel
  rw [e]
  intro l u1 u2 c oc c2 oc2 k1 k2 h1 tk1 F1 N1
  k_steps
  rename Fr _ _ _ _ => F9
  rename News _ _ _ _ => N9
  exact K _ _ _ _ _ _ _ _ k1 k2 F9 (drop_to N9 (sub_tail sub_refl))
end Mine
end
section
namespace Mine
local macro_rules | `(tactic| walk_at "pad") => `(tactic| skip)
theorem rst_M22 : True := by
  w_top off
  trivial
local macro_rules | `(tactic| walk_at $s) => if ["binaryOp Mult int int", "compareOp NotEq int int"].contains s.getString then `(tactic| refine hold ?_) else Lean.Macro.throwUnsupported
set_option maxRecDepth 100000 in
set_option maxHeartbeats 8000000 in
theorem law_s22 {w : World} {p : Program} {loose : List Str} {mean : ExcName → Option Value} {mg mb : Str → Option Value} {L fa : Addr} {cd : Value} {h₀ : Heap} {m : Str → Option Value} {s : Shared} {Q : Flow → Shared → Prop} {E : Value → Shared → Prop} {q b r a : Int} {tq tb tr ta : Tok} {news : Led}
    (B : Below callerA h₀ [] h₀) (F : Fr h₀ L s.heap (nm m [(Str.ofString "under", .int q tq), (Str.ofString "divisor", .int b tb), (Str.ofString "over", .int r tr), (Str.ofString "backward", .int a ta)])) (X : (heapK w.params).In h₀) (T : Top p loose mean mg mb h₀) (N : News h₀ L s.heap news) (hq : Builtin.Int.intBits q ≤ 1000000) (hb : Builtin.Int.intBits b ≤ 1000000) (e : q * b + r = -1 - a)
    (K : ∀ (h' : Heap) (tk' : Nat), Fr h₀ L h' (nm m [(Str.ofString "under", .int q tq), (Str.ofString "divisor", .int b tb), (Str.ofString "over", .int r tr), (Str.ofString "backward", .int a ta)]) → News h₀ L h' news → Q .next { s with heap := h', toks := tk' }) :
    wpAny (model prg w) (lawA L fa cd) (exec (lawStmt 22) (lawEnv L fa cd)) Q E s := by
  dsimp only [lawEnv, lawA, lawScope, lawBody, lawStmt, lawParts, nth, List.drop]
  k_steps
  refine ⟨?_⟩
  refine mul_int ?_ (mul_ok hq hb)
  k_steps
  refine ⟨?_⟩
  refine ne_int ?_
  rw [e, bne_self_eq_false]
  k_steps
  exact K _ _ (by assumption) (by assumption)
end Mine
end
section
namespace Mine
theorem rst_M23 : True := by
  w_top off
  trivial
local macro_rules | `(tactic| walk_at $s) => if ["call ref", "eval ListComp", "compareOp NotEq ref ref", "compareOp NotEq int int"].contains s.getString then `(tactic| refine hold ?_) else Lean.Macro.throwUnsupported
set_option maxRecDepth 100000 in
set_option maxHeartbeats 8000000 in
theorem law_s23 {w : World} {p : Program} {loose : List Str} {mean : ExcName → Option Value} {mg mb : Str → Option Value} {L fa : Addr} {cd : Value} {h₀ : Heap} {m : Str → Option Value} {s : Shared} {Q : Flow → Shared → Prop} {E : Value → Shared → Prop} {c0 c1 c2 nk : Nat} {t0 t1 t2 : Tok} {ka : Addr} {od : Obj} {st st2 : St} {wd : Nat} {tw : Tok} {news : Led} {ud : Int} {tu : Tok}
    (B : Below callerA h₀ [] h₀) (F : Fr h₀ L s.heap (nm m [(Str.ofString "under", .int ud tu), (Str.ofString "width", .int (wd : Int) tw)])) (X : (heapK w.params).In h₀) (T : Top p loose mean mg mb h₀) (N : News h₀ L s.heap (T37 st ++ (T44 st2 ++ (((ka, W.listOf [Value.int c0 t0, Value.int c1 t1, Value.int c2 t2].toArray nk) :: (L + 2, od) :: news))))) (C1 : CodeHd h₀ 41 37) (C2 : CodeHd h₀ 48 44) (hst : T37ok st) (hst2 : T44ok st2) (h44 : ∀ p ∈ (ka, W.listOf [Value.int c0 t0, Value.int c1 t1, Value.int c2 t2].toArray nk) :: (L + 2, od) :: news, p.1 ≠ 44) (hod : od.data = .cell (some (.ref ka))) (b0 : c0 ≤ 5) (b1 : c1 ≤ 5) (b2 : c2 ≤ 5) (hW : 16 ≤ wd ∧ wd ≤ 1015) (zd : ∀ d ∈ dealtL (-1) c0 c1 c2, Builtin.Int.intBits d ≤ 20000) (hud : ud = -1 - undig wd (dealtL (-1) c0 c1 c2))
    (K : ∀ (h' : Heap) (tk' : Nat) (c : Addr) (oc : Obj), CodeOk q44 c oc → Fr h₀ L h' (nm m [(Str.ofString "under", .int ud tu), (Str.ofString "width", .int (wd : Int) tw)]) → News h₀ L h' (T37 st ++ (T44 (some (c, oc)) ++ ((ka, W.listOf [Value.int c0 t0, Value.int c1 t1, Value.int c2 t2].toArray nk) :: (L + 2, od) :: news))) → Q .next { s with heap := h', toks := tk' }) :
    wpAny (model prg w) (lawA L fa cd) (exec (lawStmt 23) (lawEnv L fa cd)) Q E s := by
  dsimp only [lawEnv, lawA, lawScope, lawBody, lawStmt, lawParts, nth, List.drop]
  have zw : Builtin.Int.intBits (wd : Int) ≤ 64 := intBits_le_64 (by omega) (by omega)
  have hmem : ∀ p ∈ (ka, W.listOf [Value.int c0 t0, Value.int c1 t1, Value.int c2 t2].toArray nk) :: (L + 2, od) :: news, p ∈ (T37 st ++ (T44 st2 ++ ((ka, W.listOf [Value.int c0 t0, Value.int c1 t1, Value.int c2 t2].toArray nk) :: (L + 2, od) :: news))) := fun p hp => List.mem_append_right _ (List.mem_append_right _ hp)
  have N2 := drop_to N (news := (ka, W.listOf [Value.int c0 t0, Value.int c1 t1, Value.int c2 t2].toArray nk) :: (L + 2, od) :: (T37 st ++ (T44 st2 ++ ((ka, W.listOf [Value.int c0 t0, Value.int c1 t1, Value.int c2 t2].toArray nk) :: (L + 2, od) :: news)))) (sub_cons (hmem _ (.head _)) (sub_cons (hmem _ (.tail _ (.head _))) sub_refl))
  clear N
  generalize hall : (T37 st ++ (T44 st2 ++ ((ka, W.listOf [Value.int c0 t0, Value.int c1 t1, Value.int c2 t2].toArray nk) :: (L + 2, od) :: news))) = all at N2
  k_steps
  refine ⟨?_⟩
  refine comp_vals (by assumption) (by with_unfolding_all rfl) (by decide) (by rfl) (by decide) (by rfl) ?_
  k_steps
  rename Fr _ _ _ _ => F5
  rename News _ _ _ _ => N5
  refine ⟨6, _, (fun i y => ∃ (n : Int) (t : Tok), (dealtL (-1) c0 c1 c2)[i]? = some n ∧ y = .int n t), (ka, W.listOf [Value.int c0 t0, Value.int c1 t1, Value.int c2 t2].toArray nk) :: (L + 2, od) :: all, rfl, F5, N5, by rw [sizeLine_eq]; omega, .inr ⟨_, _, _, _, _, _, _, rfl, (by assumption), by decide, by decide, rfl⟩, ?_, ?_⟩
  · rintro i v I oI C oC D0 oD m2 h tk E' hi ⟨t, rfl⟩ hC hx F6 N6 hne
    k_steps
    refine ⟨?_⟩
    rename Fr _ _ _ _ => F7
    rename News _ _ _ _ => N7
    refine Claim.use (dealt_c (heaps := 6 + (i : Int) * -1) b0 b1 b2 (by omega) (by decide)) (by k_asm) F7 (by k_asm) (drop_to N7 (sub_cons (.tail _ (.tail _ (.tail _ (.head _)))) sub_refl)) (by k_asm) rfl ?_ ?_ ?_
    · decide +kernel
    · decide +kernel
    intro t9 h9 tk9 F9 N9
    refine VEnd.mk' F9 (drop_to N9 (sub_tail sub_refl)) ⟨_, _, ?_, rfl⟩
    unfold dealtL
    rw [List.getElem?_map, List.getElem?_range hi]
    rfl
  intro ys DD h9 tk9 hl hR F9 N9 hD
  have hys := ints_of (by rw [hl]; simp [dealtL]) hR
  have h44D : @Ne Nat DD 44 := by
    cases st2 with
    | none => exact Ne.symm (hD (44, _) (by rw [← hall]; exact .tail _ (.tail _ (List.mem_append_right _ (List.mem_append_left _ (.head _))))))
    | some q => exact Ne.symm (hD (44, _) (by rw [← hall]; exact .tail _ (.tail _ (List.mem_append_right _ (List.mem_append_left _ (.head _))))))
  k_steps
  refine ⟨?_⟩
  rename Fr _ _ _ _ => F11
  rename News _ _ _ _ => N11
  have N12 := drop_to N11 (news := T44 st2 ++ ((DD, W.listOf ys.toArray ys.length) :: (T37 st ++ ((ka, W.listOf [Value.int c0 t0, Value.int c1 t1, Value.int c2 t2].toArray nk) :: (L + 2, od) :: news)))) (by
    rw [← hall]
    intro p hp
    rcases List.mem_append.mp hp with hp | hp
    · exact .tail _ (.tail _ (.tail _ (List.mem_append_right _ (List.mem_append_left _ hp))))
    rcases List.mem_cons.mp hp with rfl | hp
    · exact .head _
    rcases List.mem_append.mp hp with hp | hp
    · exact .tail _ (.tail _ (.tail _ (List.mem_append_left _ hp)))
    · exact .tail _ (.tail _ (.tail _ (List.mem_append_right _ (List.mem_append_right _ hp)))))
  refine ClaimT.use (digits2int_c (n := (wd : Int)) hys (by omega) (by omega) zw (by simp [dealtL]) (by simp [dealtL]) zd st st2 hst hst2 h44 h44D) (by k_asm) C1 C2 F11 (by k_asm) N12 (by k_asm) rfl ?_ ?_ ?_
  · decide +kernel
  · decide +kernel
  intro t9 c oc hco h1 tk1 F1 N1
  rw [Int.toNat_natCast]
  have N3 := drop_to N1 (news := T37 st ++ (T44 (some (c, oc)) ++ ((ka, W.listOf [Value.int c0 t0, Value.int c1 t1, Value.int c2 t2].toArray nk) :: (L + 2, od) :: news))) (fun p hp => by
    rcases List.mem_append.mp hp with hp | hp
    · exact List.mem_append_right _ (.tail _ (List.mem_append_left _ hp))
    rcases List.mem_append.mp hp with hp | hp
    · exact List.mem_append_left _ hp
    · exact List.mem_append_right _ (.tail _ (List.mem_append_right _ hp)))
  clear N1 N11 N12
  k_steps
  refine ⟨?_⟩
  refine ne_int ?_
  rw [← hud, bne_self_eq_false]
  k_steps
  exact K _ _ _ _ hco (by assumption) (by assumption)
end Mine
end
section
namespace Mine
local macro_rules | `(tactic| walk_at "pad") => `(tactic| skip)
theorem rst_M24 : True := by
  w_top off
  trivial
local macro_rules | `(tactic| walk_at $s) => if ["call ref", "binaryOp Mult int int", "compareOp Eq int int"].contains s.getString then `(tactic| refine hold ?_) else Lean.Macro.throwUnsupported
set_option maxRecDepth 100000 in
set_option maxHeartbeats 8000000 in
theorem law_s24 {w : World} {p : Program} {loose : List Str} {mean : ExcName → Option Value} {mg mb : Str → Option Value} {L fa : Addr} {cd : Value} {h₀ : Heap} {m : Str → Option Value} {s : Shared} {Q : Flow → Shared → Prop} {E : Value → Shared → Prop} {x dx D C : Addr} {wvs : List Value} {tal : List Int} {n nt sq : Nat} {t1 t2 t3 t4 t5 tn tnt tb tq : Tok} {sm : Bool} {y : Str} {ty : Tok} {news : Led}
    (B : Below callerA h₀ [] h₀) (F : Fr h₀ L s.heap (nm m [(Str.ofString "behind", .int sq tb), (Str.ofString "squares", .int sq tq), (Str.ofString "table", .ref x)])) (X : (heapK w.params).In h₀) (T : Top p loose mean mg mb h₀) (N : News h₀ L s.heap ((x, instObj 139 dx) :: (dx, whiteObj w t1 t2 t3 t4 t5 tn tnt y ty n nt D sm) :: (D, tupOf [.ref C, .int sq tb]) :: (C, { cls := .type "tuple", data := .seq wvs.toArray }) :: news)) (hI : IntsAre wvs tal) (hl : tal.length ≤ 10000) (hz : ∀ i, Builtin.Int.intBits (tal.getD i 0) ≤ 64) (hil : 0 ≤ ilAt tal (tal.length - 1) ∧ ilAt tal (tal.length - 1) ≤ 10000) (hnt : nt ≤ 1000) (hsq : sq ≤ 1000) (hfin : 10 * ilAt tal (tal.length - 1) = (nt : Int) * (25 - (sq : Int)))
    (K : ∀ (h' : Heap) (tk' : Nat) (m' : Str → Option Value) (news' : Led), (∀ p ∈ news, p ∈ news') → Fr h₀ L h' m' → News h₀ L h' news' → Q (.ret (.bool true)) { s with heap := h', toks := tk' }) :
    wpAny (model prg w) (lawA L fa cd) (exec (lawStmt 24) (lawEnv L fa cd)) Q E s := by
  dsimp only [lawEnv, lawA, lawScope, lawBody, lawStmt, lawParts, nth, List.drop]
  k_steps
  refine ⟨?_⟩
  refine eq_int ?_
  rw [beq_self_eq_true]
  k_steps
  refine ⟨?_⟩
  refine Claim.use (indent_c hI hl hz) (by k_asm) (by k_asm) (by k_asm) (by assumption) (by k_asm) rfl ?_ ?_ ?_
  · decide +kernel
  · decide +kernel
  intro t9 h1 tk1 F1 N1
  k_steps
  refine ⟨?_⟩
  refine mul_int ?_ (mul_ok (Nat.le_trans (intBits_le_64 (by omega) (by omega)) (by decide)) (Nat.le_trans (intBits_le_64 (by omega) (by omega)) (by decide)))
  k_steps
  refine ⟨?_⟩
  refine mul_int ?_ (mul_ok (Nat.le_trans (intBits_le_64 (by omega) (by omega)) (by decide)) (Nat.le_trans (intBits_le_64 (by omega) (by omega)) (by decide)))
  k_steps
  refine ⟨?_⟩
  refine eq_int ?_
  have e : (10 : Int) * (sq + (ilAt tal (tal.length - 1) + nt) - sq - nt) = nt * (25 - sq) := by rw [← hfin]; omega
  rw [beq_iff_eq.mpr e]
  rename Fr _ _ _ _ => F9
  rename News _ _ _ _ => N9
  exact K _ _ _ _ (fun p hp => .tail _ (.tail _ (.tail _ (.tail _ hp)))) F9 N9
end Mine
end
section
set_option maxRecDepth 100000
namespace Mine
noncomputable def runsB (ns : List Int) : Nat → List Int → Bool
  | i, [] => (ns[i]?).isNone
  | i, m :: ms => (List.range 9).any fun k => decide (m = vrun ns i k) && ((List.range k).all fun j => match ns[i + j]? with | some n => decide (64 ≤ n ∧ n < 128) | none => false) &&
      (match ns[i + k]? with | some n => decide (0 ≤ n ∧ n < 64) | none => false) && runsB ns (i + (k + 1)) ms
theorem runsB_ok {ns : List Int} : ∀ {i : Nat} {ms : List Int}, runsB ns i ms = true → Runs ns i ms
  | i, [], h => .nil (Option.isNone_iff_eq_none.mp h)
  | i, m :: ms, h => by
    unfold runsB at h
    obtain ⟨k, hk, h⟩ := List.any_eq_true.mp h
    simp only [Bool.and_eq_true, decide_eq_true_eq, List.all_eq_true] at h
    obtain ⟨⟨⟨rfl, h2⟩, h3⟩, h4⟩ := h
    refine .cons (by have := List.mem_range.mp hk; omega) (fun j hj => ?_) ?_ (runsB_ok h4)
    · have := h2 j (List.mem_range.mpr hj)
      cases e : ns[i + j]? with
      | none => rw [e] at this; cases this
      | some n => rw [e] at this; exact ⟨n, rfl, by unfold Cont; simpa using this⟩
    · cases e : ns[i + k]? with
      | none => rw [e] at h3; cases h3
      | some n => rw [e] at h3; exact ⟨n, rfl, by unfold Last; simpa using h3⟩
noncomputable def ellB (want got : Str) (ws : List Str) (b : Bool) : Bool := !(PySem.Builtin.Str.occurrences want (Str.ofString "...") 0 want.length 1).isEmpty && decide (Txt.split want (Str.ofString "...") = Str.empty :: (ws ++ [Str.empty])) && ws.all (fun y => decide (y.length ≤ 10)) && decide (ws.length ≤ 1000) && decide (want.length ≤ 1000) && decide (got.length ≤ 1000) && (emRun got (Str.empty :: (ws ++ [Str.empty])) 0 == b)
theorem ellB_ok {want got : Str} {ws : List Str} {b : Bool} (h : ellB want got ws b = true) : EllIs want got b := by
  unfold ellB at h
  simp only [Bool.and_eq_true, decide_eq_true_eq, List.all_eq_true, beq_iff_eq, Bool.not_eq_true'] at h
  obtain ⟨⟨⟨⟨⟨⟨h1, h2⟩, h3⟩, h4⟩, h5⟩, h6⟩, h7⟩ := h
  exact ⟨ws, h1, h2, h3, h4, h5, h6, h7⟩
noncomputable def wsOf (o : List Int) : List Str := o.map fun k => S [97 + Int.toNat k]
noncomputable def orderB (dk : List Nat) (o : List Int) : Bool := decide (o.length = 5) && o.all (fun x => decide (0 ≤ x ∧ x ≤ 2)) && runsB (wrAt o 5).oct 0 (wrAt o 5).runs && decide (1 ≤ (wrAt o 5).runs.length) &&
  ellB (S (wantOf o)) (S (rep dk (wrAt o 5).runs.length)) (wsOf o) true && ellB (S (wantOf o)) (S (rep dk ((wrAt o 5).runs.length - 1))) (wsOf o) false
theorem orderB_ok {dk : List Nat} {o : List Int} (h : orderB dk o = true) : OrderOk dk o := by
  unfold orderB at h
  simp only [Bool.and_eq_true, decide_eq_true_eq, List.all_eq_true] at h
  obtain ⟨⟨⟨⟨⟨h1, h2⟩, h3⟩, h4⟩, h5⟩, h6⟩ := h
  exact ⟨h1, h2, runsB_ok h3, h4, ellB_ok h5, ellB_ok h6⟩
/-- the sorted deck of these counts -/
noncomputable def deckL (n0 n1 n2 : Nat) : List Int := List.replicate n0 0 ++ List.replicate n1 1 ++ List.replicate n2 2
noncomputable def subL : List Int → List Int → List Int
  | a, [] => a
  | [], b :: r => -b :: subL [] r
  | a :: l, b :: r => (a - b) :: subL l r
noncomputable def mx1 (l : List Int) : List Int := subL (0 :: l) l
noncomputable def chkR (F D : List Int) : Bool := match subL F (mx1 (mx1 (mx1 (mx1 (mx1 (mx1 D)))))) with
  | r0 :: r1 :: r2 :: r3 :: r4 :: r5 :: z => decide (r0.natAbs ≤ 40000 ∧ r1.natAbs ≤ 40000 ∧ r2.natAbs ≤ 40000 ∧ r3.natAbs ≤ 40000 ∧ r4.natAbs ≤ 40000 ∧ 1 ≤ r5 ∧ r5 ≤ 40000) && z.all fun x => decide (x = 0)
  | _ => false
noncomputable def tbodyOf (n0 n1 n2 : Nat) : List Nat := leadOf (ordersAt (deckL n0 n1 n2) 5) ++ rep [32] (n0 * n0 + n1 * n1 + n2 * n2)
noncomputable def tabOf (n0 n1 n2 : Nat) : Ws := wsAt (tbodyOf n0 n1 n2) (tbodyOf n0 n1 n2).length
noncomputable def fwdC (t : List Int) : List Int := [t.getD 4 0, t.getD 3 0, t.getD 2 0, t.getD 1 0, t.getD 0 0]
noncomputable def bwdC (t : List Int) : List Int := [t.getD 0 0, t.getD 1 0, t.getD 2 0, t.getD 3 0, t.getD 4 0]
noncomputable def z7 : List Int := [0, 0, 0, 0, 0, 0, 0]
noncomputable def deckB (n0 n1 n2 : Nat) : Bool :=
  let ds := deckL n0 n1 n2
  let os := ordersAt ds 5
  let t := (tabOf n0 n1 n2).count
  os.all (orderB (deckOf n0 n1 n2)) && decide (os.length ≤ 30) &&
  ((List.range 5).all fun i => decide ((ordersAt ds i).length ≤ 1000) && (ordersAt ds i).all fun x => decide (x.length ≤ 100)) &&
  decide ((tabOf n0 n1 n2).b = n0 * n0 + n1 * n1 + n2 * n2) && decide ((tabOf n0 n1 n2).nt = os.length) && decide (t.length ≤ 5) && t.all (fun x => decide (0 ≤ x ∧ x ≤ 30)) && decide (t.getD 0 0 = 1) &&
  decide (0 ≤ ilAt t (t.length - 1) ∧ ilAt t (t.length - 1) ≤ 10000 ∧ 10 * ilAt t (t.length - 1) = (os.length : Int) * (25 - ((n0 * n0 + n1 * n1 + n2 * n2 : Nat) : Int))) &&
  chkR (z7 ++ fwdC t) (dealtL 1 n0 n1 n2) && chkR (z7 ++ bwdC t) (dealtL (-1) n0 n1 n2) &&
  (dealtL 1 n0 n1 n2).all (fun d => decide (0 ≤ d ∧ d ≤ 6000)) && (dealtL (-1) n0 n1 n2).all (fun d => decide (0 ≤ d ∧ d ≤ 6000)) && decide ((dealtL 1 n0 n1 n2).getD 5 0 = 1) &&
  ellB (S (wantOf (ds ++ [ds.getLastD 0]))) (S (deckOf n0 n1 n2)) (wsOf (ds ++ [ds.getLastD 0])) false
end Mine
end
section
set_option maxRecDepth 100000
namespace Mine
open Builtin.Int (intBits)
/-- the worth of a polynomial at p, lowest first -/
noncomputable def ev (p : Int) : List Int → Int
  | [] => 0
  | d :: r => d + ev p r * p
theorem undig_ev (n : Nat) : ∀ l, undig n l = ev (2 ^ n) l
  | [] => rfl
  | d :: r => by show d + undig n r * 2 ^ n = d + ev (2 ^ n) r * 2 ^ n; rw [undig_ev n r]
theorem ev_sub (p : Int) : ∀ a b, ev p (subL a b) = ev p a - ev p b
  | [], [] => by simp [subL, ev]
  | a :: l, [] => by simp [subL, ev]
  | [], b :: r => by
    have ih := ev_sub p [] r
    show -b + ev p (subL [] r) * p = ev p [] - (b + ev p r * p)
    rw [ih, Int.sub_mul]
    simp only [ev]
    omega
  | a :: l, b :: r => by
    have ih := ev_sub p l r
    show (a - b) + ev p (subL l r) * p = (a + ev p l * p) - (b + ev p r * p)
    rw [ih, Int.sub_mul]
    omega
theorem ev_mx1 (p : Int) (l : List Int) : ev p (mx1 l) = ev p l * (p - 1) := by
  unfold mx1
  rw [ev_sub]
  show (0 + ev p l * p) - ev p l = _
  rw [Int.mul_sub, Int.mul_one]; omega
theorem ev_zero (p : Int) : ∀ z : List Int, (z.all fun x => decide (x = 0)) = true → ev p z = 0
  | [], _ => rfl
  | x :: z, h => by
    simp only [List.all_cons, Bool.and_eq_true, decide_eq_true_eq] at h
    show x + ev p z * p = 0
    rw [h.1, ev_zero p z h.2]; simp
theorem step_pos {x r p : Int} (hx : 1 ≤ x) (hr : r.natAbs ≤ 40000) (hp : 65536 ≤ p) : 1 ≤ r + x * p := by
  have h1 : 1 * p ≤ x * p := Int.mul_le_mul_of_nonneg_right hx (by omega)
  omega
theorem step_le {x r p c P : Int} (hx : x ≤ c * P) (hr : r.natAbs ≤ 40000) (hp : 65536 ≤ p) (hP : 1 ≤ P) : r + x * p ≤ (c + 1) * (P * p) := by
  have h1 : x * p ≤ c * P * p := Int.mul_le_mul_of_nonneg_right hx (by omega)
  have h2 : 1 * p ≤ P * p := Int.mul_le_mul_of_nonneg_right hP (by omega)
  rw [Int.add_mul, ← Int.mul_assoc]
  rw [Int.one_mul] at h2 ⊢
  omega
theorem pw_le {a b : Int} (h0 : 0 ≤ a) (h : a ≤ b) : ∀ n : Nat, a ^ n ≤ b ^ n
  | 0 => by simp
  | n + 1 => by
    have ih := pw_le h0 h n
    rw [Int.pow_succ, Int.pow_succ]
    exact Int.mul_le_mul ih h h0 (Int.pow_nonneg (by omega))
theorem pow5 {p : Int} (hp : 65536 ≤ p) : 40010 * p ^ 5 < (p - 1) ^ 6 ∧ p ^ 6 ≤ 2 * (p - 1) ^ 6 ∧ 0 < p ^ 5 := by
  have h1 : 65535 * p ≤ 65536 * (p - 1) := by omega
  have h5 : (65535 * p) ^ 5 ≤ (65536 * (p - 1)) ^ 5 := pw_le (by omega) h1 5
  have h6 : (65535 * p) ^ 6 ≤ (65536 * (p - 1)) ^ 6 := pw_le (by omega) h1 6
  rw [Int.mul_pow, Int.mul_pow] at h5 h6
  have q0 : 0 < p ^ 5 := Int.pow_pos (by omega)
  have q1 : 0 < (p - 1) ^ 5 := Int.pow_pos (by omega)
  have q3 : (p - 1) ^ 6 = (p - 1) ^ 5 * (p - 1) := Int.pow_succ ..
  have q4 : (p - 1) ^ 5 * 65535 ≤ (p - 1) ^ 5 * (p - 1) := Int.mul_le_mul_of_nonneg_left (by omega) (by omega)
  have q2 : 0 < (p - 1) ^ 6 := Int.pow_pos (by omega)
  refine ⟨?_, ?_, q0⟩
  · rw [← q3] at q4
    omega
  · omega
theorem quot {F D : List Int} {p : Int} (h : chkR F D = true) (hp : 65536 ≤ p) : ev p F / (p - 1) ^ 6 = ev p D := by
  have key : ∃ r, ev p F = r + ev p D * (p - 1) ^ 6 ∧ 0 ≤ r ∧ r < (p - 1) ^ 6 := by
    have e0 : ev p (subL F (mx1 (mx1 (mx1 (mx1 (mx1 (mx1 D))))))) = ev p F - ev p D * (p - 1) ^ 6 := by
      rw [ev_sub, ev_mx1, ev_mx1, ev_mx1, ev_mx1, ev_mx1, ev_mx1]
      have : (p - 1) ^ 6 = (p - 1) * (p - 1) * (p - 1) * (p - 1) * (p - 1) * (p - 1) := by
        simp [Int.pow_succ]
      rw [this]
      simp only [Int.mul_assoc]
    refine ⟨_, (by rw [e0]; omega : ev p F = ev p (subL F (mx1 (mx1 (mx1 (mx1 (mx1 (mx1 D))))))) + _), ?_⟩
    unfold chkR at h
    split at h
    · rename_i r0 r1 r2 r3 r4 r5 z e
      rw [e]
      simp only [Bool.and_eq_true, decide_eq_true_eq] at h
      obtain ⟨⟨h0, h1, h2, h3, h4, h5, h6⟩, hz⟩ := h
      have ez := ev_zero p z hz
      have e1 : ev p (r0 :: r1 :: r2 :: r3 :: r4 :: r5 :: z) = r0 + (r1 + (r2 + (r3 + (r4 + r5 * p) * p) * p) * p) * p := by
        show r0 + (r1 + (r2 + (r3 + (r4 + (r5 + ev p z * p) * p) * p) * p) * p) * p = _
        rw [ez]; simp
      rw [e1]
      have a4 := step_pos h5 h4 hp
      have a3 := step_pos a4 h3 hp
      have a2 := step_pos a3 h2 hp
      have a1 := step_pos a2 h1 hp
      have a0 := step_pos a1 h0 hp
      have b4 := step_le (c := 40000) (P := 1) (by omega : r5 ≤ 40000 * 1) h4 hp (by omega)
      have p1 : (1 : Int) ≤ 1 * p := by omega
      have b3 := step_le b4 h3 hp p1
      have p2 : (1 : Int) ≤ 1 * p * p := by have := Int.mul_le_mul_of_nonneg_right p1 (by omega : (0 : Int) ≤ p); omega
      have b2 := step_le b3 h2 hp p2
      have p3 : (1 : Int) ≤ 1 * p * p * p := by have := Int.mul_le_mul_of_nonneg_right p2 (by omega : (0 : Int) ≤ p); omega
      have b1 := step_le b2 h1 hp p3
      have p4 : (1 : Int) ≤ 1 * p * p * p * p := by have := Int.mul_le_mul_of_nonneg_right p3 (by omega : (0 : Int) ≤ p); omega
      have b0 := step_le b1 h0 hp p4
      have e5 : (1 : Int) * p * p * p * p * p = p ^ 5 := by simp [Int.pow_succ]
      rw [e5] at b0
      have := (pow5 hp).1
      omega
    · cases h
  obtain ⟨r, e, h0, h1⟩ := key
  rw [e, Int.add_mul_ediv_right _ _ (by have := (pow5 hp).1; have := (pow5 hp).2.2; omega), Int.ediv_eq_zero_of_lt h0 h1]
  omega
theorem ev_small {p : Int} (hp : 65536 ≤ p) : ∀ {l : List Int}, (∀ x ∈ l, 0 ≤ x ∧ x ≤ 30) → 0 ≤ ev p l ∧ ev p l + 1 ≤ 31 * p ^ (l.length - 1)
  | [], _ => by simp [ev]
  | [x], h => by have := h x (.head _); simp [ev]; omega
  | x :: y :: r, h => by
    have ih := ev_small hp (l := y :: r) fun z hz => h z (.tail _ hz)
    have hx := h x (.head _)
    show 0 ≤ x + ev p (y :: r) * p ∧ x + ev p (y :: r) * p + 1 ≤ 31 * p ^ (r.length + 1)
    have h1 : (ev p (y :: r) + 1) * p ≤ 31 * (p ^ r.length * p) := by
      rw [← Int.mul_assoc]
      exact Int.mul_le_mul_of_nonneg_right ih.2 (by omega)
    have h2 : 0 ≤ ev p (y :: r) * p := Int.mul_nonneg ih.1 (by omega)
    have h3 : p ^ (r.length + 1) = p ^ r.length * p := Int.pow_succ ..
    rw [Int.add_mul, Int.one_mul] at h1
    rw [h3]
    omega
theorem ev_pos {p : Int} (hp : 65536 ≤ p) : ∀ {l : List Int}, (∀ x ∈ l, 0 ≤ x) → (∃ x ∈ l, 1 ≤ x) → 1 ≤ ev p l
  | [], _, ⟨_, h, _⟩ => nomatch h
  | x :: r, h, ⟨y, hy, h1⟩ => by
    show 1 ≤ x + ev p r * p
    have hx := h x (.head _)
    have nn : ∀ {l : List Int}, (∀ x ∈ l, 0 ≤ x) → 0 ≤ ev p l := by
      intro l
      induction l with
      | nil => intro _; simp [ev]
      | cons a t ih =>
        intro hl
        have := ih fun z hz => hl z (.tail _ hz)
        have h3 : 0 ≤ ev p t * p := Int.mul_nonneg this (by omega)
        have := hl a (.head _)
        show 0 ≤ a + ev p t * p
        omega
    rcases List.mem_cons.mp hy with rfl | hy
    · have h3 : 0 ≤ ev p r * p := Int.mul_nonneg (nn fun z hz => h z (.tail _ hz)) (by omega)
      omega
    · have ih := ev_pos hp (fun z hz => h z (.tail _ hz)) ⟨y, hy, h1⟩
      have h3 : 1 * p ≤ ev p r * p := Int.mul_le_mul_of_nonneg_right ih (by omega)
      omega
theorem ev_z7 (p : Int) (l : List Int) : ev p (z7 ++ l) = ev p l * p ^ 7 := by
  show 0 + (0 + (0 + (0 + (0 + (0 + (0 + ev p l * p) * p) * p) * p) * p) * p) * p = _
  simp [Int.pow_succ, Int.mul_assoc]
theorem bits_ge2 {x : Int} {k : Nat} (h : 2 ^ k ≤ x) : k + 1 ≤ intBits x := by
  refine Nat.not_lt.mp fun q => ?_
  have := lt_of_bits (x := x) (k := k) (by omega)
  omega
theorem digs_ev {n : Nat} : ∀ {D : List Int}, (∀ d ∈ D, 0 ≤ d ∧ d < 2 ^ n) → digs n D.length (ev (2 ^ n) D) = D
  | [], _ => rfl
  | [d], _ => by simp [digs, ev]
  | d :: e :: r, h => by
    have ih := digs_ev (n := n) (D := e :: r) fun z hz => h z (.tail _ hz)
    have hd := h d (.head _)
    show (d + ev (2 ^ n) (e :: r) * 2 ^ n) % 2 ^ n :: digs n (r.length + 1) ((d + ev (2 ^ n) (e :: r) * 2 ^ n) / 2 ^ n) = _
    have hp := kbt_pos n
    rw [Int.add_mul_emod_self_right, Int.emod_eq_of_lt hd.1 hd.2, Int.add_mul_ediv_right _ _ (by omega), Int.ediv_eq_zero_of_lt hd.1 hd.2, Int.zero_add]
    exact congrArg (d :: ·) ih
end Mine
end
section
set_option maxRecDepth 100000
namespace Mine
open Builtin.Int (intBits)
theorem fdiv_q {x n q : Int} (hn : 0 < n) (h1 : q * n ≤ x) (h2 : x < q * n + n) : x.fdiv n = q := by
  rw [Int.fdiv_eq_ediv_of_nonneg _ (by omega)]
  have e : x = (x - q * n) + q * n := by omega
  rw [e, Int.add_mul_ediv_right _ _ (by omega), Int.ediv_eq_zero_of_lt (by omega) (by omega)]
  omega
theorem pw_p {w k : Nat} : ((2 : Int) ^ w) ^ k = 2 ^ (w * k) := (Int.pow_mul ..).symm
theorem p_big {w : Nat} (h : 16 ≤ w) : (65536 : Int) ≤ 2 ^ w := by
  obtain ⟨k, rfl⟩ := Nat.exists_eq_add_of_le h
  rw [Int.pow_add]
  have := kbt_pos k
  have e : (2 : Int) ^ 16 = 65536 := by decide
  rw [e]
  omega
theorem divOk {c : List Int} {w : Nat} (hc : c.length = 5) (h30 : ∀ x ∈ c, 0 ≤ x ∧ x ≤ 30) (hpos : ∃ x ∈ c, 1 ≤ x) (hw : 16 ≤ w ∧ w ≤ 1015) : DivOk (ev (2 ^ w) (z7 ++ c)) ((2 ^ w - 1) ^ 6) (3 * w) := by
  have hp := p_big hw.1
  rw [ev_z7]
  have e1 := ev_pos hp (fun x hx => (h30 x hx).1) hpos
  have e2 := (ev_small hp h30).2
  rw [hc] at e2
  have e2 : ev (2 ^ w) c + 1 ≤ 31 * (2 ^ w) ^ 4 := e2
  generalize hP : (2 : Int) ^ w = p at *
  obtain ⟨q5, q6, q0⟩ := pow5 hp
  have t1 : (3 * (w : Int)).toNat = w * 3 := by omega
  have t2 : (2 * (3 * (w : Int))).toNat = w * 6 := by omega
  have e6 : p ^ 6 = p ^ 5 * p := Int.pow_succ ..
  have e33 : p ^ 3 * p ^ 3 = p ^ 6 := (Int.pow_add ..).symm
  have e11 : p ^ 4 * p ^ 7 = p ^ 5 * p ^ 6 := by rw [← Int.pow_add, ← Int.pow_add]
  have e12 : p ^ 12 = p ^ 5 * p ^ 6 * p := by rw [← Int.pow_add, ← Int.pow_succ]
  have z7 : 0 < p ^ 7 := Int.pow_pos (by omega)
  have z6 : 0 < p ^ 6 := Int.pow_pos (by omega)
  have z3 : 0 < p ^ 3 := Int.pow_pos (by omega)
  have m56 : 0 < p ^ 5 * p ^ 6 := Int.mul_pos q0 z6
  have l35 : p ^ 3 ≤ p ^ 5 := by
    have : p ^ 5 = p ^ 3 * (p * p) := by grind
    rw [this]
    have h2 : 1 ≤ p * p := by have := Int.mul_le_mul (by omega : (1 : Int) ≤ p) (by omega : (1 : Int) ≤ p) (by omega) (by omega); omega
    have := Int.mul_le_mul_of_nonneg_left h2 (by omega : 0 ≤ p ^ 3)
    omega
  have lt6 : (p - 1) ^ 6 < p ^ 6 := by
    have a1 : (p - 1) ^ 6 = (p - 1) ^ 5 * (p - 1) := Int.pow_succ ..
    have a2 : (p - 1) ^ 5 * (p - 1) ≤ p ^ 5 * (p - 1) := Int.mul_le_mul_of_nonneg_right (pw_le (by omega) (by omega) 5) (by omega)
    have a3 : p ^ 5 * (p - 1) = p ^ 5 * p - p ^ 5 := by rw [Int.mul_sub, Int.mul_one]
    omega
  have au : ev p c * p ^ 7 < 31 * (p ^ 5 * p ^ 6) := by
    have := Int.mul_lt_mul_of_pos_right (by omega : ev p c < 31 * p ^ 4) z7
    rw [Int.mul_assoc, e11] at this
    exact this
  have al : p ^ 7 ≤ ev p c * p ^ 7 := by
    have := Int.mul_le_mul_of_nonneg_right e1 (by omega : 0 ≤ p ^ 7)
    omega
  have au2 : 31 * (p ^ 5 * p ^ 6) ≤ p ^ 12 := by
    rw [e12]
    have := Int.mul_le_mul_of_nonneg_left (by omega : (31 : Int) ≤ p) (by omega : 0 ≤ p ^ 5 * p ^ 6)
    omega
  have b1 : intBits (ev p c * p ^ 7) ≤ w * 12 := bits_of_lt (by omega) (by rw [← pw_p, hP]; omega)
  have b2 : w * 7 + 1 ≤ intBits (ev p c * p ^ 7) := bits_ge2 (by rw [← pw_p, hP]; exact al)
  refine ⟨by omega, by omega, ⟨?_, ?_⟩, ?_, by omega, by omega, ?_, ?_⟩
  · rw [t1, ← pw_p, hP]; omega
  · rw [t1, ← pw_p, hP, e33]; exact lt6
  · have c1 : intBits ((p - 1) ^ 6) ≤ w * 6 := bits_of_lt (by omega) (by rw [← pw_p, hP]; exact lt6)
    have c2 : w * 6 - 1 + 1 ≤ intBits ((p - 1) ^ 6) := by
      refine bits_ge2 ?_
      have : (2 : Int) ^ (w * 6) = 2 ^ (w * 6 - 1) * 2 := by
        rw [← Int.pow_succ]; congr 1; omega
      rw [← pw_p, hP] at this
      omega
    omega
  · exact fdiv_q (by omega) (by omega) (by omega)
  · rw [t2, ← pw_p, hP]
    refine Int.ediv_lt_of_lt_mul z6 ?_
    have := Int.mul_lt_mul_of_pos_right (by omega : 31 * p ^ 5 < (p - 1) ^ 6) z6
    rw [Int.mul_assoc] at this
    omega
theorem ev_smallB {p B : Int} (hB : 0 ≤ B) (hp : B + 1 ≤ p) : ∀ {l : List Int}, (∀ x ∈ l, 0 ≤ x ∧ x ≤ B) → 0 ≤ ev p l ∧ ev p l + 1 ≤ (B + 1) * p ^ (l.length - 1)
  | [], _ => by simp [ev]; omega
  | [x], h => by have := h x (.head _); simp [ev]; omega
  | x :: y :: r, h => by
    have ih := ev_smallB hB hp (l := y :: r) fun z hz => h z (.tail _ hz)
    have hx := h x (.head _)
    show 0 ≤ x + ev p (y :: r) * p ∧ x + ev p (y :: r) * p + 1 ≤ (B + 1) * p ^ (r.length + 1)
    have h1 : (ev p (y :: r) + 1) * p ≤ (B + 1) * (p ^ r.length * p) := by
      rw [← Int.mul_assoc]
      exact Int.mul_le_mul_of_nonneg_right ih.2 (by omega)
    have h2 : 0 ≤ ev p (y :: r) * p := Int.mul_nonneg ih.1 (by omega)
    have h3 : p ^ (r.length + 1) = p ^ r.length * p := Int.pow_succ ..
    rw [Int.add_mul, Int.one_mul] at h1
    rw [h3]
    omega
theorem digOk {D : List Int} {w : Nat} (hl : D.length = 6) (h : ∀ d ∈ D, 0 ≤ d ∧ d ≤ 6000) (h5 : D.getD 5 0 = 1) (hw : 16 ≤ w ∧ w ≤ 1015) :
    0 < ev (2 ^ w) D ∧ intBits (ev (2 ^ w) D) ≤ 20000 ∧ ((intBits (ev (2 ^ w) D) : Int) + w - 1).fdiv w = ((6 : Nat) : Int) ∧ digs w 6 (ev (2 ^ w) D) = D := by
  have hp := p_big hw.1
  have hd : digs w 6 (ev (2 ^ w) D) = D := by
    rw [← hl]
    exact digs_ev fun d hd => ⟨(h d hd).1, by have := (h d hd).2; omega⟩
  have e2 := (ev_smallB (p := 2 ^ w) (B := 6000) (by omega) (by omega) h).2
  rw [hl] at e2
  have lo : (2 ^ w) ^ 5 ≤ ev (2 ^ w) D := by
    match D, hl, h, h5 with
    | [d0, d1, d2, d3, d4, d5], _, h, h5 =>
      obtain rfl : d5 = 1 := h5
      have nn : ∀ {x y P : Int}, 0 ≤ y → P ≤ x → P * 2 ^ w ≤ y + x * 2 ^ w := fun {x y P} hy hx => by
        have := Int.mul_le_mul_of_nonneg_right hx (by omega : (0 : Int) ≤ 2 ^ w)
        omega
      have h4 := nn (P := 1) (x := 1 + 0 * 2 ^ w) (h d4 (by simp)).1 (by omega)
      have h3 := nn (h d3 (by simp)).1 h4
      have h2 := nn (h d2 (by simp)).1 h3
      have h1 := nn (h d1 (by simp)).1 h2
      have h0 := nn (h d0 (by simp)).1 h1
      have e : (1 : Int) * 2 ^ w * 2 ^ w * 2 ^ w * 2 ^ w * 2 ^ w = (2 ^ w) ^ 5 := by
        generalize (2 : Int) ^ w = p
        grind
      rw [e] at h0
      exact h0
  generalize ev (2 ^ w) D = q at *
  have lo2 : (2 : Int) ^ (w * 5) ≤ q := by rw [← pw_p]; exact lo
  have q5 : (0 : Int) < (2 ^ w) ^ 5 := Int.pow_pos (by omega)
  have up : q < 2 ^ (w * 6) := by
    rw [← pw_p]
    have e6 : ((2 : Int) ^ w) ^ 6 = (2 ^ w) ^ 5 * 2 ^ w := Int.pow_succ ..
    have := Int.mul_le_mul_of_nonneg_left (by omega : (6001 : Int) ≤ 2 ^ w) (by omega : (0 : Int) ≤ (2 ^ w) ^ 5)
    rw [e6]
    have e3 : (6000 + 1) * ((2 : Int) ^ w) ^ (6 - 1) = 6001 * (2 ^ w) ^ 5 := rfl
    rw [e3] at e2
    omega
  have b1 := bits_of_lt (by omega) up
  have b2 := bits_ge2 lo2
  exact ⟨by omega, by omega, fdiv_q (by omega) (by omega) (by omega), hd⟩
theorem fwd_ev {t : List Int} (h : t.length ≤ 5) (w : Nat) : fwdOf t w = ev (2 ^ w) (z7 ++ fwdC t) := by
  rw [ev_z7]
  unfold fwdOf fwdC
  generalize (2 : Int) ^ w = p
  match t, h with
  | [], _ => simp [ev]
  | [a], _ => simp [ev, List.range, List.range.loop]; grind
  | [a, b], _ => simp [ev, List.range, List.range.loop]; grind
  | [a, b, c], _ => simp [ev, List.range, List.range.loop]; grind
  | [a, b, c, d], _ => simp [ev, List.range, List.range.loop]; grind
  | [a, b, c, d, e], _ => simp [ev, List.range, List.range.loop]; grind
theorem bwd_ev {t : List Int} (h : t.length ≤ 5) (w : Nat) : bwdOf t w = ev (2 ^ w) (z7 ++ bwdC t) := by
  rw [ev_z7]
  unfold bwdOf bwdC
  generalize (2 : Int) ^ w = p
  match t, h with
  | [], _ => simp [ev]
  | [a], _ => simp [ev, List.range, List.range.loop]
  | [a, b], _ => simp [ev, List.range, List.range.loop]; grind
  | [a, b, c], _ => simp [ev, List.range, List.range.loop]; grind
  | [a, b, c, d], _ => simp [ev, List.range, List.range.loop]; grind
  | [a, b, c, d, e], _ => simp [ev, List.range, List.range.loop]; grind
end Mine
end
section
set_option maxRecDepth 100000
namespace Mine
theorem deck_005 : deckB 0 0 5 = true := by decide +kernel
theorem deck_014 : deckB 0 1 4 = true := by decide +kernel
theorem deck_023 : deckB 0 2 3 = true := by decide +kernel
theorem deck_032 : deckB 0 3 2 = true := by decide +kernel
theorem deck_041 : deckB 0 4 1 = true := by decide +kernel
theorem deck_050 : deckB 0 5 0 = true := by decide +kernel
theorem deck_104 : deckB 1 0 4 = true := by decide +kernel
theorem deck_113 : deckB 1 1 3 = true := by decide +kernel
theorem deck_122 : deckB 1 2 2 = true := by decide +kernel
theorem deck_131 : deckB 1 3 1 = true := by decide +kernel
theorem deck_140 : deckB 1 4 0 = true := by decide +kernel
theorem deck_203 : deckB 2 0 3 = true := by decide +kernel
theorem deck_212 : deckB 2 1 2 = true := by decide +kernel
theorem deck_221 : deckB 2 2 1 = true := by decide +kernel
theorem deck_230 : deckB 2 3 0 = true := by decide +kernel
theorem deck_302 : deckB 3 0 2 = true := by decide +kernel
theorem deck_311 : deckB 3 1 1 = true := by decide +kernel
theorem deck_320 : deckB 3 2 0 = true := by decide +kernel
theorem deck_401 : deckB 4 0 1 = true := by decide +kernel
theorem deck_410 : deckB 4 1 0 = true := by decide +kernel
theorem deck_500 : deckB 5 0 0 = true := by decide +kernel
theorem decks {n0 n1 n2 : Nat} (h : n0 + n1 + n2 = 5) : deckB n0 n1 n2 = true := by
  rcases (by omega : n0 = 0 ∨ n0 = 1 ∨ n0 = 2 ∨ n0 = 3 ∨ n0 = 4 ∨ n0 = 5) with rfl | rfl | rfl | rfl | rfl | rfl
  · rcases (by omega : n1 = 0 ∨ n1 = 1 ∨ n1 = 2 ∨ n1 = 3 ∨ n1 = 4 ∨ n1 = 5) with rfl | rfl | rfl | rfl | rfl | rfl
    · obtain rfl : n2 = 5 := by omega
      exact deck_005
    · obtain rfl : n2 = 4 := by omega
      exact deck_014
    · obtain rfl : n2 = 3 := by omega
      exact deck_023
    · obtain rfl : n2 = 2 := by omega
      exact deck_032
    · obtain rfl : n2 = 1 := by omega
      exact deck_041
    · obtain rfl : n2 = 0 := by omega
      exact deck_050
  · rcases (by omega : n1 = 0 ∨ n1 = 1 ∨ n1 = 2 ∨ n1 = 3 ∨ n1 = 4) with rfl | rfl | rfl | rfl | rfl
    · obtain rfl : n2 = 4 := by omega
      exact deck_104
    · obtain rfl : n2 = 3 := by omega
      exact deck_113
    · obtain rfl : n2 = 2 := by omega
      exact deck_122
    · obtain rfl : n2 = 1 := by omega
      exact deck_131
    · obtain rfl : n2 = 0 := by omega
      exact deck_140
  · rcases (by omega : n1 = 0 ∨ n1 = 1 ∨ n1 = 2 ∨ n1 = 3) with rfl | rfl | rfl | rfl
    · obtain rfl : n2 = 3 := by omega
      exact deck_203
    · obtain rfl : n2 = 2 := by omega
      exact deck_212
    · obtain rfl : n2 = 1 := by omega
      exact deck_221
    · obtain rfl : n2 = 0 := by omega
      exact deck_230
  · rcases (by omega : n1 = 0 ∨ n1 = 1 ∨ n1 = 2) with rfl | rfl | rfl
    · obtain rfl : n2 = 2 := by omega
      exact deck_302
    · obtain rfl : n2 = 1 := by omega
      exact deck_311
    · obtain rfl : n2 = 0 := by omega
      exact deck_320
  · rcases (by omega : n1 = 0 ∨ n1 = 1) with rfl | rfl
    · obtain rfl : n2 = 1 := by omega
      exact deck_401
    · obtain rfl : n2 = 0 := by omega
      exact deck_410
  · rcases (by omega : n1 = 0 ∨ False) with rfl | q
    · obtain rfl : n2 = 0 := by omega
      exact deck_500
    · exact q.elim
end Mine
end
section
set_option maxRecDepth 100000
namespace Mine
noncomputable def k3 : List Int := [0, 1, 2]
noncomputable def tuples : List (List Int) := k3.flatMap fun a => k3.flatMap fun b => k3.flatMap fun c => k3.flatMap fun d => k3.map fun e => [a, b, c, d, e]
theorem mem_k3 {x : Int} (h : 0 ≤ x ∧ x ≤ 2) : x ∈ k3 := by
  rcases (by omega : x = 0 ∨ x = 1 ∨ x = 2) with rfl | rfl | rfl <;> simp [k3]
theorem mem_tuples {l : List Int} (h5 : l.length = 5) (h : ∀ x ∈ l, 0 ≤ x ∧ x ≤ 2) : l ∈ tuples := by
  match l, h5, h with
  | [a, b, c, d, e], _, h =>
    have ha := mem_k3 (h a (by simp))
    have hb := mem_k3 (h b (by simp))
    have hc := mem_k3 (h c (by simp))
    have hd := mem_k3 (h d (by simp))
    have he := mem_k3 (h e (by simp))
    unfold tuples
    exact List.mem_flatMap.mpr ⟨a, ha, List.mem_flatMap.mpr ⟨b, hb, List.mem_flatMap.mpr ⟨c, hc, List.mem_flatMap.mpr ⟨d, hd, List.mem_map.mpr ⟨e, he, rfl⟩⟩⟩⟩⟩
noncomputable def sortedB : List Int → Bool
  | a :: b :: r => decide (a ≤ b) && sortedB (b :: r)
  | _ => true
theorem sortedB_of : ∀ {l : List Int}, List.Pairwise (fun a b => a ≤ b) l → sortedB l = true
  | [], _ => rfl
  | [_], _ => rfl
  | a :: b :: r, h => by
    cases h with
    | cons h1 h2 =>
      unfold sortedB
      rw [decide_eq_true (h1 b (.head _)), sortedB_of h2]; rfl
noncomputable def tupleB (l : List Int) : Bool := decide (l.count 0 + l.count 1 + l.count 2 = 5) && decide ((wsAt (heldOf l) (heldOf l).length).b = 0) &&
  (l.all fun M => !(l.all fun a => decide (a ≤ M)) || (decide ((wsAt (heldOf l) (heldOf l).length).count = [(l.count 0 : Int), (l.count 1 : Int), (l.count 2 : Int)].take (M + 1).toNat) && decide (M = (deckL (l.count 0) (l.count 1) (l.count 2)).getLastD 0))) &&
  (!sortedB l || decide (l = deckL (l.count 0) (l.count 1) (l.count 2)))
theorem tuples_ok : tuples.all tupleB = true := by decide +kernel
theorem count_deckL {n0 n1 n2 : Nat} : ∀ k : Nat, k < 3 → (deckL n0 n1 n2).count (k : Int) = [n0, n1, n2].getD k 0 := by
  intro k hk
  unfold deckL
  rcases (by omega : k = 0 ∨ k = 1 ∨ k = 2) with rfl | rfl | rfl <;> simp [List.count_append, List.count_replicate]
theorem grow_eq {cs ds : List Int} (h : ∀ k : Nat, k < 3 → cs.count (k : Int) = ds.count (k : Int)) (x : List Int) : ∀ j, j ≤ 3 → grow cs x j = grow ds x j
  | 0, _ => rfl
  | j + 1, hj => by
    show grow cs x j ++ _ = grow ds x j ++ _
    rw [grow_eq h x j (by omega), h j (by omega)]
theorem orders_eq {cs ds : List Int} (h : ∀ k : Nat, k < 3 → cs.count (k : Int) = ds.count (k : Int)) : ∀ i, ordersAt cs i = ordersAt ds i
  | 0 => rfl
  | i + 1 => by
    show growAll cs (ordersAt cs i) = growAll ds (ordersAt ds i)
    rw [orders_eq h i]
    unfold growAll
    congr 1
    funext x
    exact grow_eq h x 3 (by omega)
end Mine
end
section
set_option maxRecDepth 100000
namespace Mine
open Builtin.Int (intBits)
structure DeckOk (n0 n1 n2 : Nat) : Prop where
  os : ∀ o ∈ ordersAt (deckL n0 n1 n2) 5, OrderOk (deckOf n0 n1 n2) o
  osl : (ordersAt (deckL n0 n1 n2) 5).length ≤ 30
  cap : ∀ i, i < 5 → (ordersAt (deckL n0 n1 n2) i).length ≤ 1000 ∧ ∀ x ∈ ordersAt (deckL n0 n1 n2) i, x.length ≤ 100
  b : (tabOf n0 n1 n2).b = n0 * n0 + n1 * n1 + n2 * n2
  nt : (tabOf n0 n1 n2).nt = (ordersAt (deckL n0 n1 n2) 5).length
  tl : (tabOf n0 n1 n2).count.length ≤ 5
  t30 : ∀ x ∈ (tabOf n0 n1 n2).count, 0 ≤ x ∧ x ≤ 30
  t0 : (tabOf n0 n1 n2).count.getD 0 0 = 1
  il : 0 ≤ ilAt (tabOf n0 n1 n2).count ((tabOf n0 n1 n2).count.length - 1) ∧ ilAt (tabOf n0 n1 n2).count ((tabOf n0 n1 n2).count.length - 1) ≤ 10000 ∧ 10 * ilAt (tabOf n0 n1 n2).count ((tabOf n0 n1 n2).count.length - 1) = ((ordersAt (deckL n0 n1 n2) 5).length : Int) * (25 - ((n0 * n0 + n1 * n1 + n2 * n2 : Nat) : Int))
  rf : chkR (z7 ++ fwdC (tabOf n0 n1 n2).count) (dealtL 1 n0 n1 n2) = true
  rb : chkR (z7 ++ bwdC (tabOf n0 n1 n2).count) (dealtL (-1) n0 n1 n2) = true
  d1 : ∀ d ∈ dealtL 1 n0 n1 n2, 0 ≤ d ∧ d ≤ 6000
  d2 : ∀ d ∈ dealtL (-1) n0 n1 n2, 0 ≤ d ∧ d ≤ 6000
  top : (dealtL 1 n0 n1 n2).getD 5 0 = 1
  ell : EllIs (S (wantOf (deckL n0 n1 n2 ++ [(deckL n0 n1 n2).getLastD 0]))) (S (deckOf n0 n1 n2)) false
theorem deckOk {n0 n1 n2 : Nat} (h : n0 + n1 + n2 = 5) : DeckOk n0 n1 n2 := by
  have k := decks h
  unfold deckB at k
  simp only [Bool.and_eq_true, decide_eq_true_eq, List.all_eq_true] at k
  obtain ⟨⟨⟨⟨⟨⟨⟨⟨⟨⟨⟨⟨⟨⟨k1, k2⟩, k3⟩, k4⟩, k5⟩, k6⟩, k7⟩, k8⟩, k9⟩, k10⟩, k11⟩, k12⟩, k13⟩, k14⟩, k15⟩ := k
  exact ⟨fun o ho => orderB_ok (k1 o ho), k2, fun i hi => k3 i (List.mem_range.mpr hi), k4, k5, k6, k7, k8, k9, k10, k11, k12, k13, k14, ellB_ok k15⟩
structure TupleOk (l : List Int) : Prop where
  sum : l.count 0 + l.count 1 + l.count 2 = 5
  b : (wsAt (heldOf l) (heldOf l).length).b = 0
  cnt : ∀ M ∈ l, (∀ a ∈ l, a ≤ M) → (wsAt (heldOf l) (heldOf l).length).count = [(l.count 0 : Int), (l.count 1 : Int), (l.count 2 : Int)].take (M + 1).toNat
  mx : ∀ M ∈ l, (∀ a ∈ l, a ≤ M) → M = (deckL (l.count 0) (l.count 1) (l.count 2)).getLastD 0
  srt : List.Pairwise (fun a b => a ≤ b) l → l = deckL (l.count 0) (l.count 1) (l.count 2)
theorem tupleOk {l : List Int} (h5 : l.length = 5) (h : ∀ x ∈ l, 0 ≤ x ∧ x ≤ 2) : TupleOk l := by
  have k := List.all_eq_true.mp tuples_ok l (mem_tuples h5 h)
  unfold tupleB at k
  simp only [Bool.and_eq_true, Bool.or_eq_true, Bool.not_eq_true', decide_eq_true_eq, List.all_eq_true] at k
  obtain ⟨⟨⟨k1, k2⟩, k3⟩, k4⟩ := k
  have key : ∀ M ∈ l, (∀ a ∈ l, a ≤ M) → _ := fun M hM ha => (k3 M hM).resolve_left (by
    intro q
    have : (l.all fun a => decide (a ≤ M)) = true := List.all_eq_true.mpr fun a q => decide_eq_true (ha a q)
    rw [this] at q; cases q)
  refine ⟨k1, k2, fun M hM ha => (key M hM ha).1, fun M hM ha => (key M hM ha).2, fun hs => ?_⟩
  rcases k4 with q | q
  · rw [sortedB_of hs] at q; cases q
  · exact q
theorem ell_sorted {cards ns : List Int} {M : Int} (h5 : cards.length = 5) (h : ∀ x ∈ cards, 0 ≤ x ∧ x ≤ 2) (hP : ns.Perm cards) (hs : List.Pairwise (fun a b => a ≤ b) ns) (hM : M ∈ cards) (hm : ∀ a ∈ cards, a ≤ M) :
    EllIs (S (wantOf (ns ++ [M]))) (S (deckOf (cards.count 0) (cards.count 1) (cards.count 2))) false := by
  have T := tupleOk h5 h
  have T2 := tupleOk (l := ns) (by rw [hP.length_eq, h5]) fun x hx => h x (hP.mem_iff.mp hx)
  have e := T2.srt hs
  rw [hP.count_eq, hP.count_eq, hP.count_eq] at e
  rw [e, T.mx M hM hm]
  exact (deckOk T.sum).ell
theorem orders_cards {cards : List Int} (h5 : cards.length = 5) (h : ∀ x ∈ cards, 0 ≤ x ∧ x ≤ 2) (i : Nat) : ordersAt cards i = ordersAt (deckL (cards.count 0) (cards.count 1) (cards.count 2)) i := by
  refine orders_eq (fun k hk => ?_) i
  rw [count_deckL k hk]
  rcases (by omega : k = 0 ∨ k = 1 ∨ k = 2) with rfl | rfl | rfl <;> rfl
theorem cardsOf_ok (script : List Int) : (cardsOf script).length = 5 ∧ ∀ x ∈ cardsOf script, 0 ≤ x ∧ x ≤ 2 := by
  refine ⟨by unfold cardsOf; simp; omega, fun x hx => ?_⟩
  unfold cardsOf at hx
  obtain ⟨y, _, rfl⟩ := List.mem_map.mp hx
  rw [Int.fmod_eq_emod_of_nonneg _ (by decide)]
  omega
theorem width_ok (script : List Int) : ∃ w : Nat, widthOf script = (w : Int) ∧ 16 ≤ w ∧ w ≤ 1015 := by
  unfold widthOf
  split
  · refine ⟨(16 + Int.fmod (script.getD 5 0) 1000).toNat, ?_, ?_, ?_⟩ <;> rw [Int.fmod_eq_emod_of_nonneg _ (by decide)] <;> omega
  · exact ⟨16, rfl, by omega, by omega⟩
theorem lead_chars (os : List (List Int)) : ∀ k ∈ leadOf os, k = 32 ∨ k = 9 := by
  intro k hk
  unfold leadOf at hk
  obtain ⟨z, hz, hkz⟩ := List.mem_flatten.mp hk
  obtain ⟨c, _, rfl⟩ := List.mem_map.mp hz
  rcases List.mem_append.mp hkz with q | q
  · left
    unfold rep at q
    obtain ⟨r, hr, hkr⟩ := List.mem_flatten.mp q
    rw [List.eq_of_mem_replicate hr] at hkr
    exact List.mem_singleton.mp hkr
  · right; exact List.mem_singleton.mp q
theorem mem_fwd {t : List Int} (h : ∀ x ∈ t, 0 ≤ x ∧ x ≤ 30) : ∀ x ∈ fwdC t, 0 ≤ x ∧ x ≤ 30 := by
  intro x hx
  simp only [fwdC, List.mem_cons, List.not_mem_nil, or_false] at hx
  rcases hx with rfl | rfl | rfl | rfl | rfl <;> exact tal_02 h _
theorem mem_bwd {t : List Int} (h : ∀ x ∈ t, 0 ≤ x ∧ x ≤ 30) : ∀ x ∈ bwdC t, 0 ≤ x ∧ x ≤ 30 := by
  intro x hx
  simp only [bwdC, List.mem_cons, List.not_mem_nil, or_false] at hx
  rcases hx with rfl | rfl | rfl | rfl | rfl <;> exact tal_02 h _
/-- all that the walk asks of the numbers -/
structure NumOk (n0 n1 n2 w : Nat) (t : List Int) : Prop where
  df : DivOk (fwdOf t w) ((2 ^ w - 1) ^ 6) (3 * w)
  db : DivOk (bwdOf t w) ((2 ^ w - 1) ^ 6) (3 * w)
  q0 : 0 < fwdOf t w / (2 ^ w - 1) ^ 6
  q1 : intBits (fwdOf t w / (2 ^ w - 1) ^ 6) ≤ 20000
  q2 : ((intBits (fwdOf t w / (2 ^ w - 1) ^ 6) : Int) + w - 1).fdiv w = ((6 : Nat) : Int)
  q3 : digs w 6 (fwdOf t w / (2 ^ w - 1) ^ 6) = dealtL 1 n0 n1 n2
  u : -(bwdOf t w / (2 ^ w - 1) ^ 6) - 1 = -1 - undig w (dealtL (-1) n0 n1 n2)
  ub : intBits (-(bwdOf t w / (2 ^ w - 1) ^ 6) - 1) ≤ 20000
  bb : intBits ((2 ^ w - 1 : Int) ^ 6) ≤ 20000
  zd : ∀ d ∈ dealtL (-1) n0 n1 n2, intBits d ≤ 20000
theorem numOk {n0 n1 n2 w : Nat} (h : n0 + n1 + n2 = 5) (hw : 16 ≤ w ∧ w ≤ 1015) : NumOk n0 n1 n2 w (tabOf n0 n1 n2).count := by
  have D := deckOk h
  have hp := p_big hw.1
  have qf := quot D.rf hp
  have qb := quot D.rb hp
  have df := divOk (c := fwdC (tabOf n0 n1 n2).count) rfl (mem_fwd D.t30) ⟨(tabOf n0 n1 n2).count.getD 0 0, by simp [fwdC], by rw [D.t0]; omega⟩ hw
  have db := divOk (c := bwdC (tabOf n0 n1 n2).count) rfl (mem_bwd D.t30) ⟨(tabOf n0 n1 n2).count.getD 0 0, by simp [bwdC], by rw [D.t0]; omega⟩ hw
  have dg := digOk (by simp [dealtL]) D.d1 D.top hw
  rw [← fwd_ev D.tl] at df qf
  rw [← bwd_ev D.tl] at db qb
  rw [← qf] at dg
  have e2 := ev_smallB (p := 2 ^ w) (B := 6000) (by omega) (by omega) D.d2
  have hl : (dealtL (-1) n0 n1 n2).length = 6 := by simp [dealtL]
  rw [hl] at e2
  refine ⟨df, db, dg.1, dg.2.1, dg.2.2.1, dg.2.2.2, ?_, ?_, ?_, ?_⟩
  · rw [qb, undig_ev]; omega
  · rw [qb]
    have e3 : (6000 + 1) * ((2 : Int) ^ w) ^ (6 - 1) = 6001 * (2 ^ w) ^ 5 := rfl
    have e6 : ((2 : Int) ^ w) ^ 6 = (2 ^ w) ^ 5 * 2 ^ w := Int.pow_succ ..
    have q5 : (0 : Int) < (2 ^ w) ^ 5 := Int.pow_pos (by omega)
    have := Int.mul_le_mul_of_nonneg_left (by omega : (6002 : Int) ≤ 2 ^ w) (by omega : (0 : Int) ≤ (2 ^ w) ^ 5)
    have e4 : (-(ev (2 ^ w) (dealtL (-1) n0 n1 n2)) - 1).natAbs < 2 ^ (w * 6) := by
      have : ((-(ev (2 ^ w) (dealtL (-1) n0 n1 n2)) - 1).natAbs : Int) < ((2 ^ (w * 6) : Nat) : Int) := by
        have e5 := e2.2
        rw [e3] at e5
        rw [kbt_cast, ← pw_p, e6]
        omega
      exact Int.ofNat_lt.mp this
    exact Nat.le_trans (intBits_le_iff.mpr e4) (by omega)
  · have := df.hbn
    omega
  · intro d hd
    have := D.d2 d hd
    exact Nat.le_trans (intBits_le_64 (by omega) (by omega)) (by decide)
end Mine
end
section
namespace Mine
theorem ne_cell {h₀ h : Heap} {L : Addr} {news : Led} {a b : Addr} {oa ob : Obj} {d : Option Value} (N : News h₀ L h news) (ha : (a, oa) ∈ news) (hb : (b, ob) ∈ news) (hd : ob.data = .cell d) (hn : ∀ d, oa.data ≠ .cell d) : @Ne Nat a b := fun e => by
  have h1 := (N _ ha).1
  have h2 := (N _ hb).1
  rw [show a = b from e, h2] at h1
  have := Option.some.inj h1
  dsimp only at this
  rw [this] at hd
  exact hn d hd
theorem app3 {st st2 : St} {Z Z' : Led} (h : ∀ p ∈ Z, p ∈ Z') : ∀ p ∈ T37 st ++ (T44 st2 ++ Z), p ∈ T37 st ++ (T44 st2 ++ Z') := fun p hp => by
  rcases List.mem_append.mp hp with hp | hp
  · exact List.mem_append_left _ hp
  rcases List.mem_append.mp hp with hp | hp
  · exact List.mem_append_right _ (List.mem_append_left _ hp)
  · exact List.mem_append_right _ (List.mem_append_right _ (h p hp))
theorem in3 {st st2 : St} {Z : Led} {p : Addr × Obj} (h : p ∈ Z) : p ∈ T37 st ++ (T44 st2 ++ Z) := List.mem_append_right _ (List.mem_append_right _ h)
theorem t37_grown {h₀ h : Heap} {L : Addr} {st : St} {Z : Led} (N : News h₀ L h (T37 st ++ Z)) : GrownAt 37 h := by
  cases st with
  | none => exact GrownAt.of N (.head _)
  | some q => exact GrownAt.of N (.head _)
theorem t44_grown {h₀ h : Heap} {L : Addr} {st st2 : St} {Z : Led} (N : News h₀ L h (T37 st ++ (T44 st2 ++ Z))) : GrownAt 44 h := by
  cases st2 with
  | none => exact GrownAt.of N (List.mem_append_right _ (.head _))
  | some q => exact GrownAt.of N (List.mem_append_right _ (.head _))
theorem kvs3 {kvs : List Value} {a b c : Int} (h : IntsAre kvs [a, b, c]) : ∃ t0 t1 t2, kvs = [Value.int a t0, Value.int b t1, Value.int c t2] := by
  cases h with
  | cons _ t0 h => cases h with
    | cons _ t1 h => cases h with
      | cons _ t2 h => cases h; exact ⟨t0, t1, t2, rfl⟩
theorem bits_getD {tal : List Int} (h : ∀ x ∈ tal, 0 ≤ x ∧ x ≤ 30) (i : Nat) : Builtin.Int.intBits (tal.getD i 0) ≤ 64 := by
  have := tal_02 h i
  exact intBits_le_64 (by omega) (by omega)
theorem lk_if {x : Str} {v : Value} {m : Str → Option Value} : (fun y => if y = x then some v else m y) x = some v := if_pos rfl
theorem lk_ifn {x z : Str} {v : Value} {m : Str → Option Value} {r : Option Value} (h : z ≠ x) (k : m z = r) : (fun y => if y = x then some v else m y) z = r := (if_neg h).trans k
theorem nm_hd {x : Str} {v : Value} {u : Str → Option Value} {ps : List (Str × Value)} : nm u ((x, v) :: ps) x = some v := if_pos rfl
theorem nm_tl {x z : Str} {v : Value} {u : Str → Option Value} {ps : List (Str × Value)} {r : Option Value} (h : z ≠ x) (k : nm u ps z = r) : nm u ((x, v) :: ps) z = r := (if_neg h).trans k
theorem nm_nil {z : Str} {u : Str → Option Value} {r : Option Value} (k : u z = r) : nm u [] z = r := k
theorem nq_backward_divisor : Str.ofString "backward" ≠ Str.ofString "divisor" := by decide +kernel
theorem nq_backward_forward : Str.ofString "backward" ≠ Str.ofString "forward" := by decide +kernel
theorem nq_backward_over : Str.ofString "backward" ≠ Str.ofString "over" := by decide +kernel
theorem nq_backward_quotient : Str.ofString "backward" ≠ Str.ofString "quotient" := by decide +kernel
theorem nq_backward_rest : Str.ofString "backward" ≠ Str.ofString "rest" := by decide +kernel
theorem nq_backward_under : Str.ofString "backward" ≠ Str.ofString "under" := by decide +kernel
theorem nq_backward_width : Str.ofString "backward" ≠ Str.ofString "width" := by decide +kernel
theorem nq_behind_backward : Str.ofString "behind" ≠ Str.ofString "backward" := by decide +kernel
theorem nq_behind_divisor : Str.ofString "behind" ≠ Str.ofString "divisor" := by decide +kernel
theorem nq_behind_forward : Str.ofString "behind" ≠ Str.ofString "forward" := by decide +kernel
theorem nq_behind_over : Str.ofString "behind" ≠ Str.ofString "over" := by decide +kernel
theorem nq_behind_quotient : Str.ofString "behind" ≠ Str.ofString "quotient" := by decide +kernel
theorem nq_behind_rest : Str.ofString "behind" ≠ Str.ofString "rest" := by decide +kernel
theorem nq_behind_under : Str.ofString "behind" ≠ Str.ofString "under" := by decide +kernel
theorem nq_behind_width : Str.ofString "behind" ≠ Str.ofString "width" := by decide +kernel
theorem nq_deck_held : Str.ofString "deck" ≠ Str.ofString "held" := by decide +kernel
theorem nq_deck_lead : Str.ofString "deck" ≠ Str.ofString "lead" := by decide +kernel
theorem nq_deck_wanted : Str.ofString "deck" ≠ Str.ofString "wanted" := by decide +kernel
theorem nq_divisor_backward : Str.ofString "divisor" ≠ Str.ofString "backward" := by decide +kernel
theorem nq_divisor_forward : Str.ofString "divisor" ≠ Str.ofString "forward" := by decide +kernel
theorem nq_divisor_over : Str.ofString "divisor" ≠ Str.ofString "over" := by decide +kernel
theorem nq_divisor_quotient : Str.ofString "divisor" ≠ Str.ofString "quotient" := by decide +kernel
theorem nq_divisor_rest : Str.ofString "divisor" ≠ Str.ofString "rest" := by decide +kernel
theorem nq_divisor_under : Str.ofString "divisor" ≠ Str.ofString "under" := by decide +kernel
theorem nq_divisor_width : Str.ofString "divisor" ≠ Str.ofString "width" := by decide +kernel
theorem nq_forward_backward : Str.ofString "forward" ≠ Str.ofString "backward" := by decide +kernel
theorem nq_forward_quotient : Str.ofString "forward" ≠ Str.ofString "quotient" := by decide +kernel
theorem nq_forward_rest : Str.ofString "forward" ≠ Str.ofString "rest" := by decide +kernel
theorem nq_lead_squares : Str.ofString "lead" ≠ Str.ofString "squares" := by decide +kernel
theorem nq_over_under : Str.ofString "over" ≠ Str.ofString "under" := by decide +kernel
theorem nq_quotient_rest : Str.ofString "quotient" ≠ Str.ofString "rest" := by decide +kernel
theorem nq_rest_quotient : Str.ofString "rest" ≠ Str.ofString "quotient" := by decide +kernel
theorem nq_squares_backward : Str.ofString "squares" ≠ Str.ofString "backward" := by decide +kernel
theorem nq_squares_behind : Str.ofString "squares" ≠ Str.ofString "behind" := by decide +kernel
theorem nq_squares_divisor : Str.ofString "squares" ≠ Str.ofString "divisor" := by decide +kernel
theorem nq_squares_forward : Str.ofString "squares" ≠ Str.ofString "forward" := by decide +kernel
theorem nq_squares_lead : Str.ofString "squares" ≠ Str.ofString "lead" := by decide +kernel
theorem nq_squares_over : Str.ofString "squares" ≠ Str.ofString "over" := by decide +kernel
theorem nq_squares_quotient : Str.ofString "squares" ≠ Str.ofString "quotient" := by decide +kernel
theorem nq_squares_rest : Str.ofString "squares" ≠ Str.ofString "rest" := by decide +kernel
theorem nq_squares_table : Str.ofString "squares" ≠ Str.ofString "table" := by decide +kernel
theorem nq_squares_under : Str.ofString "squares" ≠ Str.ofString "under" := by decide +kernel
theorem nq_squares_width : Str.ofString "squares" ≠ Str.ofString "width" := by decide +kernel
theorem nq_table_backward : Str.ofString "table" ≠ Str.ofString "backward" := by decide +kernel
theorem nq_table_behind : Str.ofString "table" ≠ Str.ofString "behind" := by decide +kernel
theorem nq_table_divisor : Str.ofString "table" ≠ Str.ofString "divisor" := by decide +kernel
theorem nq_table_forward : Str.ofString "table" ≠ Str.ofString "forward" := by decide +kernel
theorem nq_table_over : Str.ofString "table" ≠ Str.ofString "over" := by decide +kernel
theorem nq_table_quotient : Str.ofString "table" ≠ Str.ofString "quotient" := by decide +kernel
theorem nq_table_rest : Str.ofString "table" ≠ Str.ofString "rest" := by decide +kernel
theorem nq_table_under : Str.ofString "table" ≠ Str.ofString "under" := by decide +kernel
theorem nq_table_width : Str.ofString "table" ≠ Str.ofString "width" := by decide +kernel
theorem nq_under_over : Str.ofString "under" ≠ Str.ofString "over" := by decide +kernel
theorem nq_width_backward : Str.ofString "width" ≠ Str.ofString "backward" := by decide +kernel
theorem nq_width_behind : Str.ofString "width" ≠ Str.ofString "behind" := by decide +kernel
theorem nq_width_deck : Str.ofString "width" ≠ Str.ofString "deck" := by decide +kernel
theorem nq_width_divisor : Str.ofString "width" ≠ Str.ofString "divisor" := by decide +kernel
theorem nq_width_forward : Str.ofString "width" ≠ Str.ofString "forward" := by decide +kernel
theorem nq_width_held : Str.ofString "width" ≠ Str.ofString "held" := by decide +kernel
theorem nq_width_lead : Str.ofString "width" ≠ Str.ofString "lead" := by decide +kernel
theorem nq_width_over : Str.ofString "width" ≠ Str.ofString "over" := by decide +kernel
theorem nq_width_quotient : Str.ofString "width" ≠ Str.ofString "quotient" := by decide +kernel
theorem nq_width_rest : Str.ofString "width" ≠ Str.ofString "rest" := by decide +kernel
theorem nq_width_squares : Str.ofString "width" ≠ Str.ofString "squares" := by decide +kernel
theorem nq_width_table : Str.ofString "width" ≠ Str.ofString "table" := by decide +kernel
theorem nq_width_under : Str.ofString "width" ≠ Str.ofString "under" := by decide +kernel
theorem nq_width_wanted : Str.ofString "width" ≠ Str.ofString "wanted" := by decide +kernel
theorem ne_tab {h₀ h : Heap} {L : Addr} {news : Led} {a b : Addr} {oa : Obj} {ps : Array Value} (N : News h₀ L h news) (ha : (a, oa) ∈ news) (hb : (b, tabObj ps) ∈ news) (hc : oa.cls ≠ .none) : a ≠ b := fun e => by
  have h1 := (N _ ha).1
  have h2 := (N _ hb).1
  rw [show a = b from e, h2] at h1
  have := Option.some.inj h1
  dsimp only at this
  rw [← this] at hc
  exact hc rfl
theorem nm_gen {P : Prop} {h₀ h : Heap} {L : Addr} {m : Str → Option Value} {ps : List (Str × Value)} (F : Fr h₀ L h m) (hm : ∀ p ∈ ps, m p.1 = some p.2) (k : ∀ u, Fr h₀ L h (nm u ps) → P) : P := k m (nm_fr F hm)
set_option maxRecDepth 100000 in
set_option maxHeartbeats 8000000 in
theorem law_all {w : World} {p : Program} {loose : List Str} {mean : ExcName → Option Value} {mg mb : Str → Option Value} {L fa : Addr} {cd : Value} {h₀ : Heap} {m : Str → Option Value} {s : Shared} {Q : Flow → Shared → Prop} {E : Value → Shared → Prop} {sa : Addr} {svs : List Value} {script : List Int} {o1 o2 o3 o4 : Obj} {d1 d2 d3 d4 : Option Value}
    (hE : PassesOwn (model prg w) (lawA L fa cd) (lawEnv L fa cd) E) (B : Below callerA h₀ [] h₀) (X : (heapK w.params).In h₀) (T : Top p loose mean mg mb h₀) (C1 : CodeHd h₀ 41 37) (C2 : CodeHd h₀ 48 44)
    (F : Fr h₀ L s.heap (nm m [(Str.ofString "script", .ref sa)])) (N : News h₀ L s.heap [(L + 4, o4), (L + 3, o3), (L + 2, o2), (L + 1, o1), (44, tabObj #[]), (37, tabObj #[])])
    (c1 : o1.data = .cell d1) (c2 : o2.data = .cell d2) (c3 : o3.data = .cell d3) (c4 : o4.data = .cell d4) (hs : h₀.IsList sa svs.toArray) (hI : IntsAre svs script) (hlen : script.length ≤ 63) (l44 : @LT.lt Nat _ 44 L) (l37 : @LT.lt Nat _ 37 L)
    (K : ∀ (h' : Heap) (tk' : Nat) (m' : Str → Option Value), Fr h₀ L h' m' → GrownAt 44 h' → GrownAt 37 h' → Q (.ret (.bool true)) { s with heap := h', toks := tk' }) :
    wpAny (model prg w) (lawA L fa cd) (execs [lawStmt 0, lawStmt 1, lawStmt 2, lawStmt 3, lawStmt 4, lawStmt 5, lawStmt 6, lawStmt 7, lawStmt 8, lawStmt 9, lawStmt 10, lawStmt 11, lawStmt 12, lawStmt 13, lawStmt 14, lawStmt 15, lawStmt 16, lawStmt 17, lawStmt 18, lawStmt 19, lawStmt 20, lawStmt 21, lawStmt 22, lawStmt 23, lawStmt 24] (lawEnv L fa cd)) Q E s := by
  obtain ⟨h5, h02⟩ := cardsOf_ok script
  obtain ⟨wd, ew, hw⟩ := width_ok script
  have TO := tupleOk h5 h02
  have DO := deckOk TO.sum
  have NO := numOk TO.sum hw
  have OE := orders_cards h5 h02
  have ES := fun ns M => ell_sorted (ns := ns) (M := M) h5 h02
  generalize hcs : cardsOf script = cards at h5 h02 TO DO NO OE ES
  obtain ⟨n0, hn0⟩ : ∃ n, n = cards.count 0 := ⟨_, rfl⟩
  obtain ⟨n1, hn1⟩ : ∃ n, n = cards.count 1 := ⟨_, rfl⟩
  obtain ⟨n2, hn2⟩ : ∃ n, n = cards.count 2 := ⟨_, rfl⟩
  have TOs := TO.sum
  have TOc := TO.cnt
  have TOb := TO.b
  rw [← hn0, ← hn1, ← hn2] at TOs TOc DO NO OE ES
  refine wpAny_execs_cons ?_
  refine law_s0 (news := [(L + 2, o2), (L + 3, o3), (L + 4, o4), (44, tabObj #[]), (37, tabObj #[])]) B F X T (drop_to N (by grind)) c1 hs hI hlen (by simp; omega) ?_
  intro h1 tk1 ca cvs p1 c1 hcv F1 N1
  rw [hcs] at hcv
  clear N F
  dsimp only
  refine wpAny_execs_cons ?_
  refine law_s1 (m := nm m [(Str.ofString "script", .ref sa)]) B F1 X T N1 ?_
  intro h2 tk2 t2 F2 N2
  clear N1 F1
  dsimp only
  refine wpAny_execs_cons ?_
  refine law_s2 (t0 := t2) B (nm_fr F2 (all_cons rfl (all_cons rfl all_nil))) X T N2 hs hI hlen ?_
  rw [ew]
  intro h3 tk3 tw F3 N3
  refine nm_gen (ps := [(Str.ofString "width", .int (wd : Int) tw)]) F3 (all_cons rfl all_nil) fun u3 F3 => ?_
  clear N2 F2
  dsimp only
  refine wpAny_execs_cons ?_
  refine law_s3 (m := nm u3 [(Str.ofString "width", .int (wd : Int) tw)]) B F3 X T N3 c1 c2 hcv h5 (ne_cell N3 (.head _) (.tail _ (.tail _ (.head _))) c2 (fun _ h => nomatch h)) (by simp; omega) ?_
  intro h4 tk4 ka kvs p2 c2 hkv F4 N4
  rw [← hn0, ← hn1, ← hn2] at hkv
  obtain ⟨v0, v1, v2, rfl⟩ := kvs3 hkv
  clear N3 F3
  generalize hkl : [Value.int (n0 : Int) v0, Value.int (n1 : Int) v1, Value.int (n2 : Int) v2].length = nk at N4
  dsimp only
  refine wpAny_execs_cons ?_
  refine law_s4 (n0 := n0) (n1 := n1) (n2 := n2) (m := nm u3 [(Str.ofString "width", .int (wd : Int) tw)]) B F4 X T (drop_to N4 (sub_cons (.head _) (sub_cons (.tail _ (.tail _ (.tail _ (.head _)))) sub_refl))) c2 hkv (by omega) (by omega) (by omega) ?_
  intro h5' tk5 td F5 N5
  have N5 := drop_to N5 (sub_tail (sub_tail sub_refl))
  refine nm_gen (ps := [(Str.ofString "deck", .str (S (deckOf n0 n1 n2)) td), (Str.ofString "width", .int (wd : Int) tw)]) F5 (all_cons (if_pos rfl) (all_cons ((if_neg nq_width_deck).trans (nm_nil nm_hd)) all_nil)) fun u5 F5 => ?_
  clear N4 F4
  dsimp only
  refine wpAny_execs_cons ?_
  refine law_s5 (m := nm u5 [(Str.ofString "deck", .str (S (deckOf n0 n1 n2)) td), (Str.ofString "width", .int (wd : Int) tw)]) B F5 X T (drop_to N5 (sub_cons (.tail _ (.head _)) (sub_cons (.tail _ (.tail _ (.head _))) sub_refl))) c1 hcv h5 h02 ?_
  intro h6 tk6 x dx D C t1 t2 t3 t4 t5 tn tnt tb sm wvs y ty hwv F6 N6
  clear N5 F5
  dsimp only
  refine wpAny_execs_cons ?_
  refine law_s6 B (nm_fr F6 (all_cons (if_pos rfl) all_nil)) X T (drop_to N6 (sub_cons (.head _) (sub_cons (.tail _ (.head _)) (sub_cons (.tail _ (.tail _ (.head _))) (sub_cons (.tail _ (.tail _ (.tail _ (.head _)))) (sub_cons (.tail _ (.tail _ (.tail _ (.tail _ (.head _))))) (sub_cons (.tail _ (.tail _ (.tail _ (.tail _ (.tail _ (.tail _ (.head _))))))) (sub_cons (.tail _ (.tail _ (.tail _ (.tail _ (.tail _ (.head _)))))) (sub_cons (.tail _ (.tail _ (.tail _ (.tail _ (.tail _ (.tail _ (.tail _ (.tail _ (.tail _ (.head _)))))))))) (sub_tail (sub_tail (sub_tail (sub_tail (sub_tail (sub_tail sub_refl))))))))))))))) c1 c2 hcv hkv hwv h5 h02 rfl TOc TOb ?_
  intro h7 tk7 F7 N7
  have N7 := drop_to N7 (sub_tail (sub_tail (sub_tail (sub_tail sub_refl))))
  refine nm_gen (ps := [(Str.ofString "deck", .str (S (deckOf n0 n1 n2)) td), (Str.ofString "width", .int (wd : Int) tw)]) F7 (all_cons (nm_tl nq_deck_held (nm_nil ((if_neg nq_deck_held).trans (nm_nil nm_hd)))) (all_cons (nm_tl nq_width_held (nm_nil ((if_neg nq_width_held).trans (nm_nil (nm_tl nq_width_deck nm_hd))))) all_nil)) fun u7 F7 => ?_
  clear N6 F6
  dsimp only
  refine wpAny_execs_cons ?_
  refine law_s7 (m := nm u7 [(Str.ofString "deck", .str (S (deckOf n0 n1 n2)) td), (Str.ofString "width", .int (wd : Int) tw)]) B F7 X T (drop_to N7 (sub_cons (.tail _ (.head _)) (sub_cons (.tail _ (.tail _ (.head _))) sub_refl))) c1 hcv h5 h02 ?_
  intro h8 tk8 tww ns M hP hO hM hmx F8 N8
  have N8 := drop_to N8 (sub_tail (sub_tail sub_refl))
  clear N7 F7
  dsimp only
  refine wpAny_execs_cons ?_
  refine law_s8 B (nm_fr F8 (all_cons (if_pos rfl) (all_cons ((if_neg nq_deck_wanted).trans (nm_nil nm_hd)) all_nil))) X T N8 (ES ns M hP hO hM hmx) ?_
  intro h9 tk9 F9 N9
  refine nm_gen (ps := [(Str.ofString "deck", .str (S (deckOf n0 n1 n2)) td), (Str.ofString "width", .int (wd : Int) tw)]) F9 (all_cons (nm_tl nq_deck_wanted nm_hd) (all_cons (nm_tl nq_width_wanted (nm_tl nq_width_deck (nm_nil ((if_neg nq_width_wanted).trans (nm_nil (nm_tl nq_width_deck nm_hd)))))) all_nil)) fun u9 F9 => ?_
  clear N8 F8
  dsimp only
  refine wpAny_execs_cons ?_
  refine law_s9 (m := nm u9 [(Str.ofString "deck", .str (S (deckOf n0 n1 n2)) td), (Str.ofString "width", .int (wd : Int) tw)]) B F9 X T N9 ?_
  intro h10 tk10 tl F10 N10
  clear N9 F9
  dsimp only
  refine wpAny_execs_cons ?_
  refine law_s10 (dk := deckOf n0 n1 n2) (tl := tl) B (nm_fr F10 (all_cons (if_pos rfl) (all_cons ((if_neg nq_deck_lead).trans (nm_nil nm_hd)) (all_cons ((if_neg nq_width_lead).trans (nm_nil (nm_tl nq_width_deck nm_hd))) all_nil)))) X T (drop_to N10 (sub_cons (.tail _ (.head _)) (sub_cons (.tail _ (.tail _ (.head _))) sub_refl))) hE c1 hcv h5 (fun i hi => by rw [OE]; exact DO.cap i (by omega)) (fun o ho => DO.os o (by rw [← OE]; exact ho)) (by unfold deckOf; simp only [List.length_append, rep_len, List.length_cons, List.length_nil]; omega) (by rw [OE]; have := DO.osl; omega) ?_
  rw [OE]
  intro h11 tk11 u11 tl2 F11 N11
  have N11 := drop_to N11 (sub_tail (sub_tail sub_refl))
  clear N10 F10
  dsimp only
  refine wpAny_execs_cons ?_
  refine law_s11 (n0 := n0) (n1 := n1) (n2 := n2) (m := nm u11 [(Str.ofString "lead", .str (S (leadOf (ordersAt (deckL n0 n1 n2) 5))) tl2), (Str.ofString "deck", .str (S (deckOf n0 n1 n2)) td), (Str.ofString "width", .int (wd : Int) tw)]) B F11 X T (drop_to N11 (sub_cons (.head _) (sub_cons (.tail _ (.tail _ (.tail _ (.head _)))) sub_refl))) c2 hkv (by omega) (by omega) (by omega) ?_
  intro h12 tk12 tq F12 N12
  have N12 := drop_to N12 (sub_tail (sub_tail sub_refl))
  obtain ⟨sq, hsq⟩ : ∃ q, q = n0 * n0 + n1 * n1 + n2 * n2 := ⟨_, rfl⟩
  have hsq2 : sq ≤ 100 := by
    have a0 := Nat.mul_le_mul (by omega : n0 ≤ 5) (by omega : n0 ≤ 5)
    have a1 := Nat.mul_le_mul (by omega : n1 ≤ 5) (by omega : n1 ≤ 5)
    have a2 := Nat.mul_le_mul (by omega : n2 ≤ 5) (by omega : n2 ≤ 5)
    omega
  rw [← hsq] at F12
  clear N11 F11
  dsimp only
  refine wpAny_execs_cons ?_
  refine law_s12 (lead := leadOf (ordersAt (deckL n0 n1 n2) 5)) (sq := sq) B (nm_fr F12 (all_cons ((if_neg nq_lead_squares).trans (nm_nil nm_hd)) (all_cons (if_pos rfl) all_nil))) X T N12 (lead_chars _) (by have := leadOf_len (ordersAt (deckL n0 n1 n2) 5); have := DO.osl; omega) (by omega) ?_
  have eT : wsAt (leadOf (ordersAt (deckL n0 n1 n2) 5) ++ rep [32] sq) (leadOf (ordersAt (deckL n0 n1 n2) 5) ++ rep [32] sq).length = tabOf n0 n1 n2 := by rw [hsq]; rfl
  have DOb := DO.b
  rw [← hsq] at DOb
  rw [eT, DOb]
  intro h13 tk13 x dx D C t1 t2 t3 t4 t5 tn tnt tb sm wvs y ty hwv F13 N13
  refine nm_gen (ps := [(Str.ofString "table", .ref x), (Str.ofString "squares", .int (sq : Int) tq), (Str.ofString "width", .int (wd : Int) tw)]) F13 (all_cons (if_pos rfl) (all_cons ((if_neg nq_squares_table).trans (nm_tl nq_squares_lead nm_hd)) (all_cons ((if_neg nq_width_table).trans (nm_tl nq_width_lead (nm_tl nq_width_squares (nm_nil ((if_neg nq_width_squares).trans (nm_nil (nm_tl nq_width_lead (nm_tl nq_width_deck nm_hd)))))))) all_nil))) fun u13 F13 => ?_
  clear N12 F12
  have q3 : ∀ p ∈ [(ka, W.listOf [Value.int (n0 : Int) v0, Value.int (n1 : Int) v1, Value.int (n2 : Int) v2].toArray nk), (ca, W.listOf cvs.toArray cvs.length), (L + 1, p1), (L + 2, p2), (L + 4, o4), (44, tabObj #[]), (37, tabObj #[])], @Ne Nat p.1 (L + 3) := by
    intro p hp
    simp only [List.mem_cons, List.not_mem_nil, or_false] at hp
    rcases hp with rfl | rfl | rfl | rfl | rfl | rfl | rfl
    · exact (ne_cell N13 (.tail _ (.tail _ (.tail _ (.tail _ (.head _))))) (.tail _ (.tail _ (.tail _ (.tail _ (.tail _ (.tail _ (.tail _ (.tail _ (.head _))))))))) c3 (fun _ h => nomatch h))
    · exact (ne_cell N13 (.tail _ (.tail _ (.tail _ (.tail _ (.tail _ (.head _)))))) (.tail _ (.tail _ (.tail _ (.tail _ (.tail _ (.tail _ (.tail _ (.tail _ (.head _))))))))) c3 (fun _ h => nomatch h))
    all_goals (dsimp only; omega)
  dsimp only
  refine wpAny_execs_cons ?_
  refine law_s13 (m := nm u13 [(Str.ofString "table", .ref x), (Str.ofString "squares", .int (sq : Int) tq), (Str.ofString "width", .int (wd : Int) tw)]) B (nm_fr F13 (all_cons nm_hd all_nil)) X T (drop_to N13 (sub_cons (.head _) (sub_cons (.tail _ (.head _)) (sub_cons (.tail _ (.tail _ (.head _))) (sub_cons (.tail _ (.tail _ (.tail _ (.head _)))) (sub_cons (.tail _ (.tail _ (.tail _ (.tail _ (.tail _ (.tail _ (.tail _ (.tail _ (.head _))))))))) (sub_cons (.tail _ (.tail _ (.tail _ (.tail _ (.head _))))) (sub_cons (.tail _ (.tail _ (.tail _ (.tail _ (.tail _ (.head _)))))) (sub_cons (.tail _ (.tail _ (.tail _ (.tail _ (.tail _ (.tail _ (.head _))))))) (sub_cons (.tail _ (.tail _ (.tail _ (.tail _ (.tail _ (.tail _ (.tail _ (.head _)))))))) (sub_cons (.tail _ (.tail _ (.tail _ (.tail _ (.tail _ (.tail _ (.tail _ (.tail _ (.tail _ (.head _)))))))))) (sub_cons (.tail _ (.tail _ (.tail _ (.tail _ (.tail _ (.tail _ (.tail _ (.tail _ (.tail _ (.tail _ (.head _))))))))))) (sub_cons (.tail _ (.tail _ (.tail _ (.tail _ (.tail _ (.tail _ (.tail _ (.tail _ (.tail _ (.tail _ (.tail _ (.head _)))))))))))) sub_nil))))))))))))) c3 q3 (ne_cell N13 (.head _) (.tail _ (.tail _ (.tail _ (.tail _ (.tail _ (.tail _ (.tail _ (.tail _ (.head _))))))))) c3 (fun _ h => nomatch h)) (ne_cell N13 (.tail _ (.head _)) (.tail _ (.tail _ (.tail _ (.tail _ (.tail _ (.tail _ (.tail _ (.tail _ (.head _))))))))) c3 (fun _ h => nomatch h)) (ne_cell N13 (.tail _ (.tail _ (.head _))) (.tail _ (.tail _ (.tail _ (.tail _ (.tail _ (.tail _ (.tail _ (.tail _ (.head _))))))))) c3 (fun _ h => nomatch h)) (ne_cell N13 (.tail _ (.tail _ (.tail _ (.head _)))) (.tail _ (.tail _ (.tail _ (.tail _ (.tail _ (.tail _ (.tail _ (.tail _ (.head _))))))))) c3 (fun _ h => nomatch h)) ?_
  intro h14 tk14 tb2 p3 c3 F14 N14
  refine nm_gen (ps := [(Str.ofString "behind", .int (sq : Int) tb), (Str.ofString "table", .ref x), (Str.ofString "squares", .int (sq : Int) tq), (Str.ofString "width", .int (wd : Int) tw)]) F14 (all_cons (if_pos rfl) (all_cons ((if_neg nq_table_behind).trans nm_hd) (all_cons ((if_neg nq_squares_behind).trans (nm_tl nq_squares_table (nm_nil (nm_tl nq_squares_table nm_hd)))) (all_cons ((if_neg nq_width_behind).trans (nm_tl nq_width_table (nm_nil (nm_tl nq_width_table (nm_tl nq_width_squares nm_hd))))) all_nil)))) fun u14 F14 => ?_
  clear q3 N13 F13
  have q4 : ∀ p ∈ [(x, instObj 139 dx), (dx, whiteObj w t1 t2 t3 t4 t5 tn tnt y ty (tabOf n0 n1 n2).n (tabOf n0 n1 n2).nt D sm), (D, tupOf [.ref C, .int (sq : Int) tb]), (C, { cls := .type "tuple", data := .seq wvs.toArray }), (L + 3, p3), (ka, W.listOf [Value.int (n0 : Int) v0, Value.int (n1 : Int) v1, Value.int (n2 : Int) v2].toArray nk), (ca, W.listOf cvs.toArray cvs.length), (L + 1, p1), (L + 2, p2), (44, tabObj #[]), (37, tabObj #[])], @Ne Nat p.1 (L + 4) := by
    intro p hp
    simp only [List.mem_cons, List.not_mem_nil, or_false] at hp
    rcases hp with rfl | rfl | rfl | rfl | rfl | rfl | rfl | rfl | rfl | rfl | rfl
    · exact (ne_cell N14 (.head _) (.tail _ (.tail _ (.tail _ (.tail _ (.tail _ (.tail _ (.tail _ (.tail _ (.tail _ (.head _)))))))))) c4 (fun _ h => nomatch h))
    · exact (ne_cell N14 (.tail _ (.head _)) (.tail _ (.tail _ (.tail _ (.tail _ (.tail _ (.tail _ (.tail _ (.tail _ (.tail _ (.head _)))))))))) c4 (fun _ h => nomatch h))
    · exact (ne_cell N14 (.tail _ (.tail _ (.head _))) (.tail _ (.tail _ (.tail _ (.tail _ (.tail _ (.tail _ (.tail _ (.tail _ (.tail _ (.head _)))))))))) c4 (fun _ h => nomatch h))
    · exact (ne_cell N14 (.tail _ (.tail _ (.tail _ (.head _)))) (.tail _ (.tail _ (.tail _ (.tail _ (.tail _ (.tail _ (.tail _ (.tail _ (.tail _ (.head _)))))))))) c4 (fun _ h => nomatch h))
    · dsimp only; omega
    · exact (ne_cell N14 (.tail _ (.tail _ (.tail _ (.tail _ (.tail _ (.head _)))))) (.tail _ (.tail _ (.tail _ (.tail _ (.tail _ (.tail _ (.tail _ (.tail _ (.tail _ (.head _)))))))))) c4 (fun _ h => nomatch h))
    · exact (ne_cell N14 (.tail _ (.tail _ (.tail _ (.tail _ (.tail _ (.tail _ (.head _))))))) (.tail _ (.tail _ (.tail _ (.tail _ (.tail _ (.tail _ (.tail _ (.tail _ (.tail _ (.head _)))))))))) c4 (fun _ h => nomatch h))
    all_goals (dsimp only; omega)
  dsimp only
  refine wpAny_execs_cons ?_
  refine law_s14 (W := wd) (m := nm u14 [(Str.ofString "behind", .int (sq : Int) tb), (Str.ofString "table", .ref x), (Str.ofString "squares", .int (sq : Int) tq), (Str.ofString "width", .int (wd : Int) tw)]) B (nm_fr F14 (all_cons (nm_tl nq_width_behind (nm_tl nq_width_table (nm_tl nq_width_squares nm_hd))) all_nil)) X T (drop_to N14 (sub_cons (.tail _ (.tail _ (.tail _ (.tail _ (.tail _ (.tail _ (.tail _ (.tail _ (.tail _ (.head _)))))))))) (sub_cons (.head _) (sub_cons (.tail _ (.head _)) (sub_cons (.tail _ (.tail _ (.head _))) (sub_cons (.tail _ (.tail _ (.tail _ (.head _)))) (sub_cons (.tail _ (.tail _ (.tail _ (.tail _ (.head _))))) (sub_cons (.tail _ (.tail _ (.tail _ (.tail _ (.tail _ (.head _)))))) (sub_cons (.tail _ (.tail _ (.tail _ (.tail _ (.tail _ (.tail _ (.head _))))))) (sub_cons (.tail _ (.tail _ (.tail _ (.tail _ (.tail _ (.tail _ (.tail _ (.head _)))))))) (sub_cons (.tail _ (.tail _ (.tail _ (.tail _ (.tail _ (.tail _ (.tail _ (.tail _ (.head _))))))))) (sub_cons (.tail _ (.tail _ (.tail _ (.tail _ (.tail _ (.tail _ (.tail _ (.tail _ (.tail _ (.tail _ (.head _))))))))))) (sub_cons (.tail _ (.tail _ (.tail _ (.tail _ (.tail _ (.tail _ (.tail _ (.tail _ (.tail _ (.tail _ (.tail _ (.head _)))))))))))) sub_nil))))))))))))) c4 q4 hw ?_
  intro h15 tk15 tp p4 c4 F15 N15
  refine nm_gen (ps := [(Str.ofString "behind", .int (sq : Int) tb), (Str.ofString "table", .ref x), (Str.ofString "squares", .int (sq : Int) tq), (Str.ofString "width", .int (wd : Int) tw)]) F15 (all_cons (nm_tl nq_behind_width (nm_nil nm_hd)) (all_cons (nm_tl nq_table_width (nm_nil (nm_tl nq_table_behind nm_hd))) (all_cons (nm_tl nq_squares_width (nm_nil (nm_tl nq_squares_behind (nm_tl nq_squares_table nm_hd)))) (all_cons nm_hd all_nil)))) fun u15 F15 => ?_
  clear q4 N14 F14
  dsimp only
  refine wpAny_execs_cons ?_
  refine law_s15 (W := wd) (m := nm u15 [(Str.ofString "behind", .int (sq : Int) tb), (Str.ofString "table", .ref x), (Str.ofString "squares", .int (sq : Int) tq), (Str.ofString "width", .int (wd : Int) tw)]) B F15 X T N15 c4 hw ?_
  intro h16 tk16 tdv F16 N16
  refine nm_gen (ps := [(Str.ofString "divisor", .int (((2 : Int) ^ wd - 1) ^ 6) tdv), (Str.ofString "behind", .int (sq : Int) tb), (Str.ofString "table", .ref x), (Str.ofString "squares", .int (sq : Int) tq), (Str.ofString "width", .int (wd : Int) tw)]) F16 (all_cons (if_pos rfl) (all_cons ((if_neg nq_behind_divisor).trans (nm_nil nm_hd)) (all_cons ((if_neg nq_table_divisor).trans (nm_nil (nm_tl nq_table_behind nm_hd))) (all_cons ((if_neg nq_squares_divisor).trans (nm_nil (nm_tl nq_squares_behind (nm_tl nq_squares_table nm_hd)))) (all_cons ((if_neg nq_width_divisor).trans (nm_nil (nm_tl nq_width_behind (nm_tl nq_width_table (nm_tl nq_width_squares nm_hd))))) all_nil))))) fun u16 F16 => ?_
  clear N15 F15
  dsimp only
  refine wpAny_execs_cons ?_
  refine law_s16 (W := wd) (m := nm u16 [(Str.ofString "divisor", .int (((2 : Int) ^ wd - 1) ^ 6) tdv), (Str.ofString "behind", .int (sq : Int) tb), (Str.ofString "table", .ref x), (Str.ofString "squares", .int (sq : Int) tq), (Str.ofString "width", .int (wd : Int) tw)]) B F16 X T (drop_to N16 (sub_cons (.tail _ (.tail _ (.tail _ (.tail _ (.head _))))) (sub_cons (.tail _ (.tail _ (.tail _ (.tail _ (.tail _ (.head _)))))) (sub_cons (.head _) sub_refl)))) c4 c3 hwv DO.tl DO.t30 hw ?_
  intro h17 tk17 tf F17 N17
  have N17 := drop_to N17 (sub_tail (sub_tail (sub_tail sub_refl)))
  clear N16 F16
  dsimp only
  refine wpAny_execs_cons ?_
  refine law_s17 (W := wd) (m := fun z => if z = Str.ofString "forward" then some (.int (fwdOf (tabOf n0 n1 n2).count wd) tf) else nm (nm u16 [(Str.ofString "divisor", .int (((2 : Int) ^ wd - 1) ^ 6) tdv), (Str.ofString "behind", .int (sq : Int) tb), (Str.ofString "table", .ref x), (Str.ofString "squares", .int (sq : Int) tq), (Str.ofString "width", .int (wd : Int) tw)]) [] z) B F17 X T (drop_to N17 (sub_cons (.tail _ (.tail _ (.tail _ (.tail _ (.head _))))) (sub_cons (.tail _ (.tail _ (.tail _ (.tail _ (.tail _ (.head _)))))) (sub_cons (.head _) sub_refl)))) c4 c3 hwv DO.tl DO.t30 hw ?_
  intro h18 tk18 tbk F18 N18
  have N18 := drop_to N18 (sub_tail (sub_tail (sub_tail sub_refl)))
  refine nm_gen (ps := [(Str.ofString "backward", .int (bwdOf (tabOf n0 n1 n2).count wd) tbk), (Str.ofString "forward", .int (fwdOf (tabOf n0 n1 n2).count wd) tf), (Str.ofString "divisor", .int (((2 : Int) ^ wd - 1) ^ 6) tdv), (Str.ofString "behind", .int (sq : Int) tb), (Str.ofString "table", .ref x), (Str.ofString "squares", .int (sq : Int) tq), (Str.ofString "width", .int (wd : Int) tw)]) F18 (all_cons (if_pos rfl) (all_cons ((if_neg nq_forward_backward).trans (nm_nil (if_pos rfl))) (all_cons ((if_neg nq_divisor_backward).trans (nm_nil ((if_neg nq_divisor_forward).trans (nm_nil nm_hd)))) (all_cons ((if_neg nq_behind_backward).trans (nm_nil ((if_neg nq_behind_forward).trans (nm_nil (nm_tl nq_behind_divisor nm_hd))))) (all_cons ((if_neg nq_table_backward).trans (nm_nil ((if_neg nq_table_forward).trans (nm_nil (nm_tl nq_table_divisor (nm_tl nq_table_behind nm_hd)))))) (all_cons ((if_neg nq_squares_backward).trans (nm_nil ((if_neg nq_squares_forward).trans (nm_nil (nm_tl nq_squares_divisor (nm_tl nq_squares_behind (nm_tl nq_squares_table nm_hd))))))) (all_cons ((if_neg nq_width_backward).trans (nm_nil ((if_neg nq_width_forward).trans (nm_nil (nm_tl nq_width_divisor (nm_tl nq_width_behind (nm_tl nq_width_table (nm_tl nq_width_squares nm_hd)))))))) all_nil))))))) fun u18 F18 => ?_
  clear N17 F17
  have z37 : ∀ p ∈ [(L + 4, p4), (x, instObj 139 dx), (dx, whiteObj w t1 t2 t3 t4 t5 tn tnt y ty (tabOf n0 n1 n2).n (tabOf n0 n1 n2).nt D sm), (D, tupOf [.ref C, .int (sq : Int) tb]), (C, { cls := .type "tuple", data := .seq wvs.toArray }), (L + 3, p3), (ka, W.listOf [Value.int (n0 : Int) v0, Value.int (n1 : Int) v1, Value.int (n2 : Int) v2].toArray nk), (ca, W.listOf cvs.toArray cvs.length), (L + 1, p1), (L + 2, p2)], p.1 ≠ 37 := by
    intro p hp
    simp only [List.mem_cons, List.not_mem_nil, or_false] at hp
    rcases hp with rfl | rfl | rfl | rfl | rfl | rfl | rfl | rfl | rfl | rfl
    · exact Nat.ne_of_gt (Nat.lt_of_lt_of_le l37 (Nat.le_add_right _ _))
    · exact ne_tab N18 (.tail _ (.head _)) (.tail _ (.tail _ (.tail _ (.tail _ (.tail _ (.tail _ (.tail _ (.tail _ (.tail _ (.tail _ (.tail _ (.head _)))))))))))) (by intro h; cases h)
    · exact ne_tab N18 (.tail _ (.tail _ (.head _))) (.tail _ (.tail _ (.tail _ (.tail _ (.tail _ (.tail _ (.tail _ (.tail _ (.tail _ (.tail _ (.tail _ (.head _)))))))))))) (by intro h; cases h)
    · exact ne_tab N18 (.tail _ (.tail _ (.tail _ (.head _)))) (.tail _ (.tail _ (.tail _ (.tail _ (.tail _ (.tail _ (.tail _ (.tail _ (.tail _ (.tail _ (.tail _ (.head _)))))))))))) (by intro h; cases h)
    · exact ne_tab N18 (.tail _ (.tail _ (.tail _ (.tail _ (.head _))))) (.tail _ (.tail _ (.tail _ (.tail _ (.tail _ (.tail _ (.tail _ (.tail _ (.tail _ (.tail _ (.tail _ (.head _)))))))))))) (by intro h; cases h)
    · exact Nat.ne_of_gt (Nat.lt_of_lt_of_le l37 (Nat.le_add_right _ _))
    · exact ne_tab N18 (.tail _ (.tail _ (.tail _ (.tail _ (.tail _ (.tail _ (.head _))))))) (.tail _ (.tail _ (.tail _ (.tail _ (.tail _ (.tail _ (.tail _ (.tail _ (.tail _ (.tail _ (.tail _ (.head _)))))))))))) (by intro h; cases h)
    · exact ne_tab N18 (.tail _ (.tail _ (.tail _ (.tail _ (.tail _ (.tail _ (.tail _ (.head _)))))))) (.tail _ (.tail _ (.tail _ (.tail _ (.tail _ (.tail _ (.tail _ (.tail _ (.tail _ (.tail _ (.tail _ (.head _)))))))))))) (by intro h; cases h)
    · exact Nat.ne_of_gt (Nat.lt_of_lt_of_le l37 (Nat.le_add_right _ _))
    · exact Nat.ne_of_gt (Nat.lt_of_lt_of_le l37 (Nat.le_add_right _ _))
  have z44 : ∀ p ∈ [(L + 4, p4), (x, instObj 139 dx), (dx, whiteObj w t1 t2 t3 t4 t5 tn tnt y ty (tabOf n0 n1 n2).n (tabOf n0 n1 n2).nt D sm), (D, tupOf [.ref C, .int (sq : Int) tb]), (C, { cls := .type "tuple", data := .seq wvs.toArray }), (L + 3, p3), (ka, W.listOf [Value.int (n0 : Int) v0, Value.int (n1 : Int) v1, Value.int (n2 : Int) v2].toArray nk), (ca, W.listOf cvs.toArray cvs.length), (L + 1, p1), (L + 2, p2)], p.1 ≠ 44 := by
    intro p hp
    simp only [List.mem_cons, List.not_mem_nil, or_false] at hp
    rcases hp with rfl | rfl | rfl | rfl | rfl | rfl | rfl | rfl | rfl | rfl
    · exact Nat.ne_of_gt (Nat.lt_of_lt_of_le l44 (Nat.le_add_right _ _))
    · exact ne_tab N18 (.tail _ (.head _)) (.tail _ (.tail _ (.tail _ (.tail _ (.tail _ (.tail _ (.tail _ (.tail _ (.tail _ (.tail _ (.head _))))))))))) (by intro h; cases h)
    · exact ne_tab N18 (.tail _ (.tail _ (.head _))) (.tail _ (.tail _ (.tail _ (.tail _ (.tail _ (.tail _ (.tail _ (.tail _ (.tail _ (.tail _ (.head _))))))))))) (by intro h; cases h)
    · exact ne_tab N18 (.tail _ (.tail _ (.tail _ (.head _)))) (.tail _ (.tail _ (.tail _ (.tail _ (.tail _ (.tail _ (.tail _ (.tail _ (.tail _ (.tail _ (.head _))))))))))) (by intro h; cases h)
    · exact ne_tab N18 (.tail _ (.tail _ (.tail _ (.tail _ (.head _))))) (.tail _ (.tail _ (.tail _ (.tail _ (.tail _ (.tail _ (.tail _ (.tail _ (.tail _ (.tail _ (.head _))))))))))) (by intro h; cases h)
    · exact Nat.ne_of_gt (Nat.lt_of_lt_of_le l44 (Nat.le_add_right _ _))
    · exact ne_tab N18 (.tail _ (.tail _ (.tail _ (.tail _ (.tail _ (.tail _ (.head _))))))) (.tail _ (.tail _ (.tail _ (.tail _ (.tail _ (.tail _ (.tail _ (.tail _ (.tail _ (.tail _ (.head _))))))))))) (by intro h; cases h)
    · exact ne_tab N18 (.tail _ (.tail _ (.tail _ (.tail _ (.tail _ (.tail _ (.tail _ (.head _)))))))) (.tail _ (.tail _ (.tail _ (.tail _ (.tail _ (.tail _ (.tail _ (.tail _ (.tail _ (.tail _ (.head _))))))))))) (by intro h; cases h)
    · exact Nat.ne_of_gt (Nat.lt_of_lt_of_le l44 (Nat.le_add_right _ _))
    · exact Nat.ne_of_gt (Nat.lt_of_lt_of_le l44 (Nat.le_add_right _ _))
  generalize hZ : [(L + 4, p4), (x, instObj 139 dx), (dx, whiteObj w t1 t2 t3 t4 t5 tn tnt y ty (tabOf n0 n1 n2).n (tabOf n0 n1 n2).nt D sm), (D, tupOf [.ref C, .int (sq : Int) tb]), (C, { cls := .type "tuple", data := .seq wvs.toArray }), (L + 3, p3), (ka, W.listOf [Value.int (n0 : Int) v0, Value.int (n1 : Int) v1, Value.int (n2 : Int) v2].toArray nk), (ca, W.listOf cvs.toArray cvs.length), (L + 1, p1), (L + 2, p2)] = Z at z37 z44
  have N18' : News h₀ L h18 (T37 none ++ (T44 none ++ Z)) := by
    rw [← hZ]
    exact drop_to N18 (sub_cons (.tail _ (.tail _ (.tail _ (.tail _ (.tail _ (.tail _ (.tail _ (.tail _ (.tail _ (.tail _ (.tail _ (.head _)))))))))))) (sub_cons (.tail _ (.tail _ (.tail _ (.tail _ (.tail _ (.tail _ (.tail _ (.tail _ (.tail _ (.tail _ (.head _))))))))))) (sub_cons (.head _) (sub_cons (.tail _ (.head _)) (sub_cons (.tail _ (.tail _ (.head _))) (sub_cons (.tail _ (.tail _ (.tail _ (.head _)))) (sub_cons (.tail _ (.tail _ (.tail _ (.tail _ (.head _))))) (sub_cons (.tail _ (.tail _ (.tail _ (.tail _ (.tail _ (.head _)))))) (sub_cons (.tail _ (.tail _ (.tail _ (.tail _ (.tail _ (.tail _ (.head _))))))) (sub_cons (.tail _ (.tail _ (.tail _ (.tail _ (.tail _ (.tail _ (.tail _ (.head _)))))))) (sub_cons (.tail _ (.tail _ (.tail _ (.tail _ (.tail _ (.tail _ (.tail _ (.tail _ (.head _))))))))) (sub_cons (.tail _ (.tail _ (.tail _ (.tail _ (.tail _ (.tail _ (.tail _ (.tail _ (.tail _ (.head _)))))))))) sub_nil))))))))))))
  have zx : ∀ p ∈ [(x, instObj 139 dx), (dx, whiteObj w t1 t2 t3 t4 t5 tn tnt y ty (tabOf n0 n1 n2).n (tabOf n0 n1 n2).nt D sm), (D, tupOf [.ref C, .int (sq : Int) tb]), (C, { cls := .type "tuple", data := .seq wvs.toArray })], p ∈ Z := by
    rw [← hZ]
    exact (sub_cons (.tail _ (.head _)) (sub_cons (.tail _ (.tail _ (.head _))) (sub_cons (.tail _ (.tail _ (.tail _ (.head _)))) (sub_cons (.tail _ (.tail _ (.tail _ (.tail _ (.head _))))) sub_nil))))
  have zk : ∀ p ∈ [(ka, W.listOf [Value.int (n0 : Int) v0, Value.int (n1 : Int) v1, Value.int (n2 : Int) v2].toArray nk), (L + 2, p2)], p ∈ Z := by
    rw [← hZ]
    exact (sub_cons (.tail _ (.tail _ (.tail _ (.tail _ (.tail _ (.tail _ (.head _))))))) (sub_cons (.tail _ (.tail _ (.tail _ (.tail _ (.tail _ (.tail _ (.tail _ (.tail _ (.tail _ (.head _)))))))))) sub_nil))
  clear N18
  dsimp only
  refine wpAny_execs_cons ?_
  refine law_s18 (m := nm u18 [(Str.ofString "backward", .int (bwdOf (tabOf n0 n1 n2).count wd) tbk), (Str.ofString "forward", .int (fwdOf (tabOf n0 n1 n2).count wd) tf), (Str.ofString "divisor", .int (((2 : Int) ^ wd - 1) ^ 6) tdv), (Str.ofString "behind", .int (sq : Int) tb), (Str.ofString "table", .ref x), (Str.ofString "squares", .int (sq : Int) tq), (Str.ofString "width", .int (wd : Int) tw)]) B (nm_fr F18 (all_cons (nm_tl nq_forward_backward nm_hd) (all_cons (nm_tl nq_divisor_backward (nm_tl nq_divisor_forward nm_hd)) all_nil))) X T N18' C1 C2 trivial trivial z37 z44 NO.df ?_
  intro h19 tk19 tq1 tr1 e1 oe1 e2 oe2 k1 k2 F19 N19
  refine nm_gen (ps := [(Str.ofString "quotient", .int (fwdOf (tabOf n0 n1 n2).count wd / ((2 : Int) ^ wd - 1) ^ 6) tq1), (Str.ofString "rest", .int (fwdOf (tabOf n0 n1 n2).count wd % ((2 : Int) ^ wd - 1) ^ 6) tr1), (Str.ofString "backward", .int (bwdOf (tabOf n0 n1 n2).count wd) tbk), (Str.ofString "forward", .int (fwdOf (tabOf n0 n1 n2).count wd) tf), (Str.ofString "divisor", .int (((2 : Int) ^ wd - 1) ^ 6) tdv), (Str.ofString "behind", .int (sq : Int) tb), (Str.ofString "table", .ref x), (Str.ofString "squares", .int (sq : Int) tq), (Str.ofString "width", .int (wd : Int) tw)]) F19 (all_cons ((if_neg nq_quotient_rest).trans (if_pos rfl)) (all_cons (if_pos rfl) (all_cons ((if_neg nq_backward_rest).trans ((if_neg nq_backward_quotient).trans (nm_tl nq_backward_forward (nm_tl nq_backward_divisor (nm_nil nm_hd))))) (all_cons ((if_neg nq_forward_rest).trans ((if_neg nq_forward_quotient).trans nm_hd)) (all_cons ((if_neg nq_divisor_rest).trans ((if_neg nq_divisor_quotient).trans (nm_tl nq_divisor_forward nm_hd))) (all_cons ((if_neg nq_behind_rest).trans ((if_neg nq_behind_quotient).trans (nm_tl nq_behind_forward (nm_tl nq_behind_divisor (nm_nil (nm_tl nq_behind_backward (nm_tl nq_behind_forward (nm_tl nq_behind_divisor nm_hd)))))))) (all_cons ((if_neg nq_table_rest).trans ((if_neg nq_table_quotient).trans (nm_tl nq_table_forward (nm_tl nq_table_divisor (nm_nil (nm_tl nq_table_backward (nm_tl nq_table_forward (nm_tl nq_table_divisor (nm_tl nq_table_behind nm_hd))))))))) (all_cons ((if_neg nq_squares_rest).trans ((if_neg nq_squares_quotient).trans (nm_tl nq_squares_forward (nm_tl nq_squares_divisor (nm_nil (nm_tl nq_squares_backward (nm_tl nq_squares_forward (nm_tl nq_squares_divisor (nm_tl nq_squares_behind (nm_tl nq_squares_table nm_hd)))))))))) (all_cons ((if_neg nq_width_rest).trans ((if_neg nq_width_quotient).trans (nm_tl nq_width_forward (nm_tl nq_width_divisor (nm_nil (nm_tl nq_width_backward (nm_tl nq_width_forward (nm_tl nq_width_divisor (nm_tl nq_width_behind (nm_tl nq_width_table (nm_tl nq_width_squares nm_hd))))))))))) all_nil))))))))) fun u19 F19 => ?_
  clear N18' F18
  dsimp only
  refine wpAny_execs_cons ?_
  refine law_s19 B (nm_fr F19 (all_cons nm_hd (all_cons (nm_tl nq_divisor_quotient (nm_tl nq_divisor_rest (nm_tl nq_divisor_backward (nm_tl nq_divisor_forward nm_hd)))) (all_cons (nm_tl nq_rest_quotient nm_hd) (all_cons (nm_tl nq_forward_quotient (nm_tl nq_forward_rest (nm_tl nq_forward_backward nm_hd))) all_nil))))) X T N19 (Nat.le_trans NO.q1 (by decide)) (Nat.le_trans NO.bb (by decide)) (by rw [Int.mul_comm]; exact Int.mul_ediv_add_emod _ _) ?_
  intro h20 tk20 F20 N20
  refine nm_gen (ps := [(Str.ofString "quotient", .int (fwdOf (tabOf n0 n1 n2).count wd / ((2 : Int) ^ wd - 1) ^ 6) tq1), (Str.ofString "backward", .int (bwdOf (tabOf n0 n1 n2).count wd) tbk), (Str.ofString "divisor", .int (((2 : Int) ^ wd - 1) ^ 6) tdv), (Str.ofString "behind", .int (sq : Int) tb), (Str.ofString "table", .ref x), (Str.ofString "squares", .int (sq : Int) tq), (Str.ofString "width", .int (wd : Int) tw)]) F20 (all_cons nm_hd (all_cons (nm_tl nq_backward_quotient (nm_tl nq_backward_divisor (nm_tl nq_backward_rest (nm_tl nq_backward_forward (nm_nil (nm_tl nq_backward_quotient (nm_tl nq_backward_rest nm_hd))))))) (all_cons (nm_tl nq_divisor_quotient nm_hd) (all_cons (nm_tl nq_behind_quotient (nm_tl nq_behind_divisor (nm_tl nq_behind_rest (nm_tl nq_behind_forward (nm_nil (nm_tl nq_behind_quotient (nm_tl nq_behind_rest (nm_tl nq_behind_backward (nm_tl nq_behind_forward (nm_tl nq_behind_divisor nm_hd)))))))))) (all_cons (nm_tl nq_table_quotient (nm_tl nq_table_divisor (nm_tl nq_table_rest (nm_tl nq_table_forward (nm_nil (nm_tl nq_table_quotient (nm_tl nq_table_rest (nm_tl nq_table_backward (nm_tl nq_table_forward (nm_tl nq_table_divisor (nm_tl nq_table_behind nm_hd))))))))))) (all_cons (nm_tl nq_squares_quotient (nm_tl nq_squares_divisor (nm_tl nq_squares_rest (nm_tl nq_squares_forward (nm_nil (nm_tl nq_squares_quotient (nm_tl nq_squares_rest (nm_tl nq_squares_backward (nm_tl nq_squares_forward (nm_tl nq_squares_divisor (nm_tl nq_squares_behind (nm_tl nq_squares_table nm_hd)))))))))))) (all_cons (nm_tl nq_width_quotient (nm_tl nq_width_divisor (nm_tl nq_width_rest (nm_tl nq_width_forward (nm_nil (nm_tl nq_width_quotient (nm_tl nq_width_rest (nm_tl nq_width_backward (nm_tl nq_width_forward (nm_tl nq_width_divisor (nm_tl nq_width_behind (nm_tl nq_width_table (nm_tl nq_width_squares nm_hd))))))))))))) all_nil))))))) fun u20 F20 => ?_
  clear N19 F19
  dsimp only
  refine wpAny_execs_cons ?_
  refine law_s20 B (nm_fr F20 (all_cons nm_hd (all_cons (nm_tl nq_width_quotient (nm_tl nq_width_backward (nm_tl nq_width_divisor (nm_tl nq_width_behind (nm_tl nq_width_table (nm_tl nq_width_squares nm_hd)))))) all_nil))) X T (drop_to N20 (app3 (sub_cons (zk _ (.head _)) (sub_cons (zk _ (.tail _ (.head _))) sub_refl)))) C1 C2 (show T37ok (some (e1, oe1)) from k1) (show T44ok (some (e2, oe2)) from k2) ?_ c2 (by omega) (by omega) (by omega) hw NO.q0 NO.q1 NO.q2 NO.q3 ?_
  · intro p hp
    rcases List.mem_cons.mp hp with rfl | hp
    · exact z37 _ (zk _ (.head _))
    rcases List.mem_cons.mp hp with rfl | hp
    · exact z37 _ (zk _ (.tail _ (.head _)))
    · exact z37 p hp
  intro h21 tk21 e3 oe3 k3 F21 N21
  have N21 := drop_to N21 (app3 (sub_tail (sub_tail sub_refl)))
  refine nm_gen (ps := [(Str.ofString "backward", .int (bwdOf (tabOf n0 n1 n2).count wd) tbk), (Str.ofString "divisor", .int (((2 : Int) ^ wd - 1) ^ 6) tdv), (Str.ofString "behind", .int (sq : Int) tb), (Str.ofString "table", .ref x), (Str.ofString "squares", .int (sq : Int) tq), (Str.ofString "width", .int (wd : Int) tw)]) F21 (all_cons (nm_tl nq_backward_quotient (nm_tl nq_backward_width (nm_nil (nm_tl nq_backward_quotient nm_hd)))) (all_cons (nm_tl nq_divisor_quotient (nm_tl nq_divisor_width (nm_nil (nm_tl nq_divisor_quotient (nm_tl nq_divisor_backward nm_hd))))) (all_cons (nm_tl nq_behind_quotient (nm_tl nq_behind_width (nm_nil (nm_tl nq_behind_quotient (nm_tl nq_behind_backward (nm_tl nq_behind_divisor nm_hd)))))) (all_cons (nm_tl nq_table_quotient (nm_tl nq_table_width (nm_nil (nm_tl nq_table_quotient (nm_tl nq_table_backward (nm_tl nq_table_divisor (nm_tl nq_table_behind nm_hd))))))) (all_cons (nm_tl nq_squares_quotient (nm_tl nq_squares_width (nm_nil (nm_tl nq_squares_quotient (nm_tl nq_squares_backward (nm_tl nq_squares_divisor (nm_tl nq_squares_behind (nm_tl nq_squares_table nm_hd)))))))) (all_cons (nm_tl nq_width_quotient nm_hd) all_nil)))))) fun u21 F21 => ?_
  clear N20 F20
  dsimp only
  refine wpAny_execs_cons ?_
  refine law_s21 (m := nm u21 [(Str.ofString "backward", .int (bwdOf (tabOf n0 n1 n2).count wd) tbk), (Str.ofString "divisor", .int (((2 : Int) ^ wd - 1) ^ 6) tdv), (Str.ofString "behind", .int (sq : Int) tb), (Str.ofString "table", .ref x), (Str.ofString "squares", .int (sq : Int) tq), (Str.ofString "width", .int (wd : Int) tw)]) B (nm_fr F21 (all_cons nm_hd (all_cons (nm_tl nq_divisor_backward nm_hd) all_nil))) X T N21 C1 C2 (show T37ok (some (e3, oe3)) from k3) (show T44ok (some (e2, oe2)) from k2) z37 z44 NO.db ?_
  intro h22 tk22 tu1 to1 e4 oe4 e5 oe5 k4 k5 F22 N22
  refine nm_gen (ps := [(Str.ofString "under", .int (-(bwdOf (tabOf n0 n1 n2).count wd / ((2 : Int) ^ wd - 1) ^ 6) - 1) tu1), (Str.ofString "over", .int (((2 : Int) ^ wd - 1) ^ 6 + (-(bwdOf (tabOf n0 n1 n2).count wd % ((2 : Int) ^ wd - 1) ^ 6) - 1)) to1), (Str.ofString "backward", .int (bwdOf (tabOf n0 n1 n2).count wd) tbk), (Str.ofString "divisor", .int (((2 : Int) ^ wd - 1) ^ 6) tdv), (Str.ofString "behind", .int (sq : Int) tb), (Str.ofString "table", .ref x), (Str.ofString "squares", .int (sq : Int) tq), (Str.ofString "width", .int (wd : Int) tw)]) F22 (all_cons ((if_neg nq_under_over).trans (if_pos rfl)) (all_cons (if_pos rfl) (all_cons ((if_neg nq_backward_over).trans ((if_neg nq_backward_under).trans nm_hd)) (all_cons ((if_neg nq_divisor_over).trans ((if_neg nq_divisor_under).trans (nm_tl nq_divisor_backward nm_hd))) (all_cons ((if_neg nq_behind_over).trans ((if_neg nq_behind_under).trans (nm_tl nq_behind_backward (nm_tl nq_behind_divisor (nm_nil (nm_tl nq_behind_backward (nm_tl nq_behind_divisor nm_hd))))))) (all_cons ((if_neg nq_table_over).trans ((if_neg nq_table_under).trans (nm_tl nq_table_backward (nm_tl nq_table_divisor (nm_nil (nm_tl nq_table_backward (nm_tl nq_table_divisor (nm_tl nq_table_behind nm_hd)))))))) (all_cons ((if_neg nq_squares_over).trans ((if_neg nq_squares_under).trans (nm_tl nq_squares_backward (nm_tl nq_squares_divisor (nm_nil (nm_tl nq_squares_backward (nm_tl nq_squares_divisor (nm_tl nq_squares_behind (nm_tl nq_squares_table nm_hd))))))))) (all_cons ((if_neg nq_width_over).trans ((if_neg nq_width_under).trans (nm_tl nq_width_backward (nm_tl nq_width_divisor (nm_nil (nm_tl nq_width_backward (nm_tl nq_width_divisor (nm_tl nq_width_behind (nm_tl nq_width_table (nm_tl nq_width_squares nm_hd)))))))))) all_nil)))))))) fun u22 F22 => ?_
  clear N21 F21
  dsimp only
  refine wpAny_execs_cons ?_
  refine law_s22 B (nm_fr F22 (all_cons nm_hd (all_cons (nm_tl nq_divisor_under (nm_tl nq_divisor_over (nm_tl nq_divisor_backward nm_hd))) (all_cons (nm_tl nq_over_under nm_hd) (all_cons (nm_tl nq_backward_under (nm_tl nq_backward_over nm_hd)) all_nil))))) X T N22 (Nat.le_trans NO.ub (by decide)) (Nat.le_trans NO.bb (by decide)) ?_ ?_
  · have e := Int.mul_ediv_add_emod (bwdOf (tabOf n0 n1 n2).count wd) (((2 : Int) ^ wd - 1) ^ 6)
    rw [Int.sub_mul, Int.neg_mul, Int.one_mul, Int.mul_comm (bwdOf (tabOf n0 n1 n2).count wd / ((2 : Int) ^ wd - 1) ^ 6)]
    omega
  intro h23 tk23 F23 N23
  refine nm_gen (ps := [(Str.ofString "under", .int (-(bwdOf (tabOf n0 n1 n2).count wd / ((2 : Int) ^ wd - 1) ^ 6) - 1) tu1), (Str.ofString "behind", .int (sq : Int) tb), (Str.ofString "table", .ref x), (Str.ofString "squares", .int (sq : Int) tq), (Str.ofString "width", .int (wd : Int) tw)]) F23 (all_cons nm_hd (all_cons (nm_tl nq_behind_under (nm_tl nq_behind_divisor (nm_tl nq_behind_over (nm_tl nq_behind_backward (nm_nil (nm_tl nq_behind_under (nm_tl nq_behind_over (nm_tl nq_behind_backward (nm_tl nq_behind_divisor nm_hd))))))))) (all_cons (nm_tl nq_table_under (nm_tl nq_table_divisor (nm_tl nq_table_over (nm_tl nq_table_backward (nm_nil (nm_tl nq_table_under (nm_tl nq_table_over (nm_tl nq_table_backward (nm_tl nq_table_divisor (nm_tl nq_table_behind nm_hd)))))))))) (all_cons (nm_tl nq_squares_under (nm_tl nq_squares_divisor (nm_tl nq_squares_over (nm_tl nq_squares_backward (nm_nil (nm_tl nq_squares_under (nm_tl nq_squares_over (nm_tl nq_squares_backward (nm_tl nq_squares_divisor (nm_tl nq_squares_behind (nm_tl nq_squares_table nm_hd))))))))))) (all_cons (nm_tl nq_width_under (nm_tl nq_width_divisor (nm_tl nq_width_over (nm_tl nq_width_backward (nm_nil (nm_tl nq_width_under (nm_tl nq_width_over (nm_tl nq_width_backward (nm_tl nq_width_divisor (nm_tl nq_width_behind (nm_tl nq_width_table (nm_tl nq_width_squares nm_hd)))))))))))) all_nil))))) fun u23 F23 => ?_
  clear N22 F22
  dsimp only
  refine wpAny_execs_cons ?_
  refine law_s23 B (nm_fr F23 (all_cons nm_hd (all_cons (nm_tl nq_width_under (nm_tl nq_width_behind (nm_tl nq_width_table (nm_tl nq_width_squares nm_hd)))) all_nil))) X T (drop_to N23 (app3 (sub_cons (zk _ (.head _)) (sub_cons (zk _ (.tail _ (.head _))) sub_refl)))) C1 C2 (show T37ok (some (e4, oe4)) from k4) (show T44ok (some (e5, oe5)) from k5) ?_ c2 (by omega) (by omega) (by omega) hw NO.zd NO.u ?_
  · intro p hp
    rcases List.mem_cons.mp hp with rfl | hp
    · exact z44 _ (zk _ (.head _))
    rcases List.mem_cons.mp hp with rfl | hp
    · exact z44 _ (zk _ (.tail _ (.head _)))
    · exact z44 p hp
  intro h24 tk24 e6 oe6 k6 F24 N24
  have N24 := drop_to N24 (app3 (sub_tail (sub_tail sub_refl)))
  clear N23 F23
  have G44 := t44_grown N24
  have G37 := t37_grown N24
  dsimp only
  refine wpAny_execs_cons ?_
  refine law_s24 B (nm_fr F24 (all_cons (nm_tl nq_behind_under (nm_tl nq_behind_width (nm_nil (nm_tl nq_behind_under nm_hd)))) (all_cons (nm_tl nq_squares_under (nm_tl nq_squares_width (nm_nil (nm_tl nq_squares_under (nm_tl nq_squares_behind (nm_tl nq_squares_table nm_hd)))))) (all_cons (nm_tl nq_table_under (nm_tl nq_table_width (nm_nil (nm_tl nq_table_under (nm_tl nq_table_behind nm_hd))))) all_nil)))) X T (drop_to N24 (sub_cons (in3 (zx _ (.head _))) (sub_cons (in3 (zx _ (.tail _ (.head _)))) (sub_cons (in3 (zx _ (.tail _ (.tail _ (.head _))))) (sub_cons (in3 (zx _ (.tail _ (.tail _ (.tail _ (.head _)))))) sub_refl))))) hwv (by have := DO.tl; omega) (bits_getD DO.t30) ⟨DO.il.1, DO.il.2.1⟩ (by rw [DO.nt]; have := DO.osl; omega) (by omega) (by rw [DO.nt, hsq]; exact DO.il.2.2) ?_
  intro h25 tk25 m25 news25 hsub F25 N25
  have N25 := drop_to N25 hsub
  exact K _ _ _ F25 (t44_grown N25) (t37_grown N25)
end Mine
end
set_option maxRecDepth 100000 in
set_option maxHeartbeats 8000000 in
theorem PySem.Challenge.cw_ty0051_01_holds : PySem.Challenge.rw_ty0051_01.Holds := by
  w_on
  o_law
  refine holds_open (q := viewK) (loose := [Str.ofString "Whitespace"]) (Xt := hdSeen) (XP := XL viewK []) (Yf := Hook.obs hdHook) (Ya := Hook.val hdHook) (YP := Hook.says hdHook) (N := 2138) hdLeft (Hook.of hdHook) (Hook.keeps hdHook)
    (fun s e => xl_of s (Bool.and_eq_true_iff.mp e).1) XL.keeps (by rfl) (by rfl) (by rfl) (fun s e => recFacts_of (Bool.and_eq_true_iff.mp e).2) (by rfl) (by first | assumption | decide +kernel) (by decide +kernel) ⟨rfl, rfl, rfl, rfl, rfl, by decide +kernel⟩ ?hw ?hc
  case hw => w_witness2
  rename_i hsaid
  clear hsaid
  k_go0
  all_goals try k_fold
  rename Fr _ _ _ _ => F0
  rename News _ _ _ _ => N0
  rename Below _ _ _ _ => B0
  rename Top _ _ _ _ _ (ghostOf _ _) => T0
  rename Heap.IsList (ghostOf _ _) _ _ => L0
  rename IntsAre _ _ => I0
  rename ¬ _ < _ => hlen
  rename 44 < _ ∧ 37 < _ => l0
  refine law_all (script := _) (svs := _) (m := _) ?_ B0 (by assumption) T0 (by assumption) (by assumption) (nm_fr F0 (all_cons rfl all_nil)) N0 (by assumption) (by assumption) (by assumption) (by assumption) L0 I0 ?_ l0.1 l0.2 ?_
  · passes_own
  · omega
  · intro h' tk' m' F' g44 g37
    refine ⟨?_, g44, g37, trivial⟩
    dsimp only
    k_steps
    all_goals (try k_data)
