import PyProof.Rows.All
import Wide.All
import OpenK.AllK
import Wide.FinOn
import Lean
import PySem.Challenge.RW_ac0002_01
open PySem PySem.W PyProof.Rows
set_option Elab.async false
set_option maxRecDepth 100000
set_option maxHeartbeats 8000000
namespace Mine
/-! the head by hand -/
noncomputable abbrev thePg : Program := PySem.Challenge.rw_ac0002_01.row.prog
noncomputable def dSub (s : Stmt) : List Stmt := match s with
  | .ClassDef _ _ _ body _ _ _ _ _ _ _ => body
  | _ => []
noncomputable def dFn (s : Stmt) : Option (Arguments × List Stmt × Scope) := match s with
  | .FunctionDef _ a body _ _ _ sc _ _ _ => some (a, body, sc)
  | _ => none
noncomputable def dAt (i j : Nat) : Option (Arguments × List Stmt × Scope) := match thePg.main.body.drop i with
  | s :: _ => (match j with
    | 0 => dFn s
    | k + 1 => (match (dSub s).drop k with
      | t :: _ => dFn t
      | [] => none))
  | [] => none
noncomputable def dA (i j : Nat) : Arguments := match dAt i j with
  | some (a, _, _) => a
  | none => ⟨[], [], none, [], [], none, []⟩
noncomputable def dB (i j : Nat) : List Stmt := match dAt i j with
  | some (_, b, _) => b
  | none => []
noncomputable def dS (i j : Nat) : Scope := match dAt i j with
  | some (_, _, s) => s
  | none => { kind := .function, names := [], isGenerator := false, isCoroutine := false }
noncomputable abbrev dA0x0 : Arguments := Subtype.val (p := fun x => x = dA 0 0) ⟨_, by (conv => rhs; whnf)⟩
noncomputable abbrev dB0x0 : List Stmt := Subtype.val (p := fun x => x = dB 0 0) ⟨_, by (conv => rhs; whnf)⟩
noncomputable abbrev dS0x0 : Scope := Subtype.val (p := fun x => x = dS 0 0) ⟨_, by (conv => rhs; whnf)⟩
noncomputable abbrev dA2x1 : Arguments := Subtype.val (p := fun x => x = dA 2 1) ⟨_, by (conv => rhs; whnf)⟩
noncomputable abbrev dB2x1 : List Stmt := Subtype.val (p := fun x => x = dB 2 1) ⟨_, by (conv => rhs; whnf)⟩
noncomputable abbrev dS2x1 : Scope := Subtype.val (p := fun x => x = dS 2 1) ⟨_, by (conv => rhs; whnf)⟩
noncomputable abbrev dA4x1 : Arguments := Subtype.val (p := fun x => x = dA 4 1) ⟨_, by (conv => rhs; whnf)⟩
noncomputable abbrev dB4x1 : List Stmt := Subtype.val (p := fun x => x = dB 4 1) ⟨_, by (conv => rhs; whnf)⟩
noncomputable abbrev dS4x1 : Scope := Subtype.val (p := fun x => x = dS 4 1) ⟨_, by (conv => rhs; whnf)⟩
noncomputable abbrev dA4x2 : Arguments := Subtype.val (p := fun x => x = dA 4 2) ⟨_, by (conv => rhs; whnf)⟩
noncomputable abbrev dB4x2 : List Stmt := Subtype.val (p := fun x => x = dB 4 2) ⟨_, by (conv => rhs; whnf)⟩
noncomputable abbrev dS4x2 : Scope := Subtype.val (p := fun x => x = dS 4 2) ⟨_, by (conv => rhs; whnf)⟩
noncomputable abbrev dA4x3 : Arguments := Subtype.val (p := fun x => x = dA 4 3) ⟨_, by (conv => rhs; whnf)⟩
noncomputable abbrev dB4x3 : List Stmt := Subtype.val (p := fun x => x = dB 4 3) ⟨_, by (conv => rhs; whnf)⟩
noncomputable abbrev dS4x3 : Scope := Subtype.val (p := fun x => x = dS 4 3) ⟨_, by (conv => rhs; whnf)⟩
noncomputable abbrev dA5x1 : Arguments := Subtype.val (p := fun x => x = dA 5 1) ⟨_, by (conv => rhs; whnf)⟩
noncomputable abbrev dB5x1 : List Stmt := Subtype.val (p := fun x => x = dB 5 1) ⟨_, by (conv => rhs; whnf)⟩
noncomputable abbrev dS5x1 : Scope := Subtype.val (p := fun x => x = dS 5 1) ⟨_, by (conv => rhs; whnf)⟩
noncomputable abbrev dA5x2 : Arguments := Subtype.val (p := fun x => x = dA 5 2) ⟨_, by (conv => rhs; whnf)⟩
noncomputable abbrev dB5x2 : List Stmt := Subtype.val (p := fun x => x = dB 5 2) ⟨_, by (conv => rhs; whnf)⟩
noncomputable abbrev dS5x2 : Scope := Subtype.val (p := fun x => x = dS 5 2) ⟨_, by (conv => rhs; whnf)⟩
noncomputable abbrev dA5x3 : Arguments := Subtype.val (p := fun x => x = dA 5 3) ⟨_, by (conv => rhs; whnf)⟩
noncomputable abbrev dB5x3 : List Stmt := Subtype.val (p := fun x => x = dB 5 3) ⟨_, by (conv => rhs; whnf)⟩
noncomputable abbrev dS5x3 : Scope := Subtype.val (p := fun x => x = dS 5 3) ⟨_, by (conv => rhs; whnf)⟩
noncomputable abbrev dA5x4 : Arguments := Subtype.val (p := fun x => x = dA 5 4) ⟨_, by (conv => rhs; whnf)⟩
noncomputable abbrev dB5x4 : List Stmt := Subtype.val (p := fun x => x = dB 5 4) ⟨_, by (conv => rhs; whnf)⟩
noncomputable abbrev dS5x4 : Scope := Subtype.val (p := fun x => x = dS 5 4) ⟨_, by (conv => rhs; whnf)⟩
noncomputable abbrev dA5x5 : Arguments := Subtype.val (p := fun x => x = dA 5 5) ⟨_, by (conv => rhs; whnf)⟩
noncomputable abbrev dB5x5 : List Stmt := Subtype.val (p := fun x => x = dB 5 5) ⟨_, by (conv => rhs; whnf)⟩
noncomputable abbrev dS5x5 : Scope := Subtype.val (p := fun x => x = dS 5 5) ⟨_, by (conv => rhs; whnf)⟩
noncomputable abbrev dA5x6 : Arguments := Subtype.val (p := fun x => x = dA 5 6) ⟨_, by (conv => rhs; whnf)⟩
noncomputable abbrev dB5x6 : List Stmt := Subtype.val (p := fun x => x = dB 5 6) ⟨_, by (conv => rhs; whnf)⟩
noncomputable abbrev dS5x6 : Scope := Subtype.val (p := fun x => x = dS 5 6) ⟨_, by (conv => rhs; whnf)⟩
noncomputable abbrev dA5x7 : Arguments := Subtype.val (p := fun x => x = dA 5 7) ⟨_, by (conv => rhs; whnf)⟩
noncomputable abbrev dB5x7 : List Stmt := Subtype.val (p := fun x => x = dB 5 7) ⟨_, by (conv => rhs; whnf)⟩
noncomputable abbrev dS5x7 : Scope := Subtype.val (p := fun x => x = dS 5 7) ⟨_, by (conv => rhs; whnf)⟩
noncomputable abbrev dA7x0 : Arguments := Subtype.val (p := fun x => x = dA 7 0) ⟨_, by (conv => rhs; whnf)⟩
noncomputable abbrev dB7x0 : List Stmt := Subtype.val (p := fun x => x = dB 7 0) ⟨_, by (conv => rhs; whnf)⟩
noncomputable abbrev dS7x0 : Scope := Subtype.val (p := fun x => x = dS 7 0) ⟨_, by (conv => rhs; whnf)⟩
noncomputable abbrev dA8x0 : Arguments := Subtype.val (p := fun x => x = dA 8 0) ⟨_, by (conv => rhs; whnf)⟩
noncomputable abbrev dB8x0 : List Stmt := Subtype.val (p := fun x => x = dB 8 0) ⟨_, by (conv => rhs; whnf)⟩
noncomputable abbrev dS8x0 : Scope := Subtype.val (p := fun x => x = dS 8 0) ⟨_, by (conv => rhs; whnf)⟩
noncomputable abbrev dA9x0 : Arguments := Subtype.val (p := fun x => x = dA 9 0) ⟨_, by (conv => rhs; whnf)⟩
noncomputable abbrev dB9x0 : List Stmt := Subtype.val (p := fun x => x = dB 9 0) ⟨_, by (conv => rhs; whnf)⟩
noncomputable abbrev dS9x0 : Scope := Subtype.val (p := fun x => x = dS 9 0) ⟨_, by (conv => rhs; whnf)⟩
noncomputable abbrev dA10x0 : Arguments := Subtype.val (p := fun x => x = dA 10 0) ⟨_, by (conv => rhs; whnf)⟩
noncomputable abbrev dB10x0 : List Stmt := Subtype.val (p := fun x => x = dB 10 0) ⟨_, by (conv => rhs; whnf)⟩
noncomputable abbrev dS10x0 : Scope := Subtype.val (p := fun x => x = dS 10 0) ⟨_, by (conv => rhs; whnf)⟩
noncomputable abbrev dA11x0 : Arguments := Subtype.val (p := fun x => x = dA 11 0) ⟨_, by (conv => rhs; whnf)⟩
noncomputable abbrev dB11x0 : List Stmt := Subtype.val (p := fun x => x = dB 11 0) ⟨_, by (conv => rhs; whnf)⟩
noncomputable abbrev dS11x0 : Scope := Subtype.val (p := fun x => x = dS 11 0) ⟨_, by (conv => rhs; whnf)⟩
noncomputable abbrev dA12x0 : Arguments := Subtype.val (p := fun x => x = dA 12 0) ⟨_, by (conv => rhs; whnf)⟩
noncomputable abbrev dB12x0 : List Stmt := Subtype.val (p := fun x => x = dB 12 0) ⟨_, by (conv => rhs; whnf)⟩
noncomputable abbrev dS12x0 : Scope := Subtype.val (p := fun x => x = dS 12 0) ⟨_, by (conv => rhs; whnf)⟩
noncomputable abbrev dA13x0 : Arguments := Subtype.val (p := fun x => x = dA 13 0) ⟨_, by (conv => rhs; whnf)⟩
noncomputable abbrev dB13x0 : List Stmt := Subtype.val (p := fun x => x = dB 13 0) ⟨_, by (conv => rhs; whnf)⟩
noncomputable abbrev dS13x0 : Scope := Subtype.val (p := fun x => x = dS 13 0) ⟨_, by (conv => rhs; whnf)⟩
noncomputable abbrev dA14x0 : Arguments := Subtype.val (p := fun x => x = dA 14 0) ⟨_, by (conv => rhs; whnf)⟩
noncomputable abbrev dB14x0 : List Stmt := Subtype.val (p := fun x => x = dB 14 0) ⟨_, by (conv => rhs; whnf)⟩
noncomputable abbrev dS14x0 : Scope := Subtype.val (p := fun x => x = dS 14 0) ⟨_, by (conv => rhs; whnf)⟩
noncomputable abbrev dA15x0 : Arguments := Subtype.val (p := fun x => x = dA 15 0) ⟨_, by (conv => rhs; whnf)⟩
noncomputable abbrev dB15x0 : List Stmt := Subtype.val (p := fun x => x = dB 15 0) ⟨_, by (conv => rhs; whnf)⟩
noncomputable abbrev dS15x0 : Scope := Subtype.val (p := fun x => x = dS 15 0) ⟨_, by (conv => rhs; whnf)⟩
noncomputable def heapX : Params → Frag := fun P => (
  (nat_lit 2, Obj.mk Value.none Option.none (Data.dict #[]) #[]) ::
  (nat_lit 3, Obj.mk (Value.type "dict") Option.none (Data.dict #[DictEntry.mk (PyData.keyHash P (Str.ofString "__name__")) (Value.str (Str.ofString "__name__") 165) (Value.str (Str.ofString "law_ac0002_01") 392), DictEntry.mk (PyData.keyHash P (Str.ofString "__doc__")) (Value.str (Str.ofString "__doc__") 166) Value.none, DictEntry.mk (PyData.keyHash P (Str.ofString "__package__")) (Value.str (Str.ofString "__package__") 167) Value.none, DictEntry.mk (PyData.keyHash P (Str.ofString "__loader__")) (Value.str (Str.ofString "__loader__") 168) (Value.builtin "__main__.__loader__#opaque"), DictEntry.mk (PyData.keyHash P (Str.ofString "__spec__")) (Value.str (Str.ofString "__spec__") 169) Value.none, DictEntry.mk (PyData.keyHash P (Str.ofString "__annotations__")) (Value.str (Str.ofString "__annotations__") 170) (Value.ref 6), DictEntry.mk (PyData.keyHash P (Str.ofString "__builtins__")) (Value.str (Str.ofString "__builtins__") 171) (Value.ref 4), DictEntry.mk (PyData.keyHash P (Str.ofString "__file__")) (Value.str (Str.ofString "__file__") 173) (Value.str (Str.ofString "/claim/cut.py") 172), DictEntry.mk (PyData.keyHash P (Str.ofString "__cached__")) (Value.str (Str.ofString "__cached__") 174) Value.none, DictEntry.mk (PyData.keyHash P (Str.ofString "_wall")) (Value.str (Str.ofString "_wall") 193) (Value.ref 21), DictEntry.mk (PyData.keyHash P (Str.ofString "operator")) (Value.str (Str.ofString "operator") 234) (Value.ref 41), DictEntry.mk (PyData.keyHash P (Str.ofString "Algorithm")) (Value.str (Str.ofString "Algorithm") 291) (Value.ref 77), DictEntry.mk (PyData.keyHash P (Str.ofString "Parameters")) (Value.str (Str.ofString "Parameters") 391) (Value.ref 143), DictEntry.mk (PyData.keyHash P (Str.ofString "_law_draw")) (Value.str (Str.ofString "_law_draw") 401) (Value.ref 154), DictEntry.mk (PyData.keyHash P (Str.ofString "_law_step")) (Value.str (Str.ofString "_law_step") 412) (Value.ref 161), DictEntry.mk (PyData.keyHash P (Str.ofString "_law_word")) (Value.str (Str.ofString "_law_word") 424) (Value.ref 168), DictEntry.mk (PyData.keyHash P (Str.ofString "_law_bits")) (Value.str (Str.ofString "_law_bits") 430) (Value.ref 173), DictEntry.mk (PyData.keyHash P (Str.ofString "_law_number")) (Value.str (Str.ofString "_law_number") 436) (Value.ref 178), DictEntry.mk (PyData.keyHash P (Str.ofString "_law_turned")) (Value.str (Str.ofString "_law_turned") 442) (Value.ref 183), DictEntry.mk (PyData.keyHash P (Str.ofString "_law_times")) (Value.str (Str.ofString "_law_times") 452) (Value.ref 190), DictEntry.mk (PyData.keyHash P (Str.ofString "_law_told")) (Value.str (Str.ofString "_law_told") 460) (Value.ref 197), DictEntry.mk (PyData.keyHash P (Str.ofString "law")) (Value.str (Str.ofString "law") 466) (Value.ref 202)] 22) #[]) ::
  (nat_lit 15, Obj.mk (Value.type "tuple") Option.none (Data.seq #[]) #[]) ::
  (nat_lit 17, Obj.mk (Value.type "tuple") Option.none (Data.seq #[Value.str (Str.ofString "k") 190]) #[]) ::
  (nat_lit 18, Obj.mk (Value.type "tuple") Option.none (Data.seq #[]) #[]) ::
  (nat_lit 20, Obj.mk (Value.type "code") Option.none (Data.fields #[Value.str (Str.ofString "_wall") 187, Value.str (Str.ofString "_wall") 188, Value.str (Str.ofString "/claim/cut.py") 189, Value.int 1 0, Value.int 1 0, Value.int 0 0, Value.int 0 0, Value.int 3 0, Value.ref 15, Value.bool Bool.true, Value.int 181 0, Value.ref 16, Value.none, Value.ref 17, Value.ref 18, Value.ref 19, Value.int 191 0, Value.int 1 0, Value.str (Str.ofString "/claim/cut.py") 192]) #[]) ::
  (nat_lit 21, Obj.mk (Value.type "function") Option.none (Data.func (FuncData.mk (Str.ofString "_wall") (Str.ofString "_wall") dA0x0 (FuncBody.stmts dB0x0) dS0x0 3 [] Value.none Value.none Value.none (Value.str (Str.ofString "__main__") 164) Option.none (Value.ref 20) Value.none 0)) #[]) ::
  (nat_lit 29, Obj.mk (Value.type "tuple") Option.none (Data.seq #[]) #[]) ::
  (nat_lit 31, Obj.mk (Value.type "tuple") Option.none (Data.seq #[Value.str (Str.ofString "value") 211]) #[]) ::
  (nat_lit 32, Obj.mk (Value.type "tuple") Option.none (Data.seq #[]) #[]) ::
  (nat_lit 34, Obj.mk (Value.type "code") Option.none (Data.fields #[Value.str (Str.ofString "index") 208, Value.str (Str.ofString "operator.index") 209, Value.str (Str.ofString "/claim/cut.py") 210, Value.int 7 0, Value.int 1 0, Value.int 0 0, Value.int 0 0, Value.int 3 0, Value.ref 29, Value.bool Bool.true, Value.int 181 0, Value.ref 30, Value.none, Value.ref 31, Value.ref 32, Value.ref 33, Value.int 212 0, Value.int 7 0, Value.str (Str.ofString "/claim/cut.py") 213]) #[]) ::
  (nat_lit 35, Obj.mk (Value.type "function") Option.none (Data.func (FuncData.mk (Str.ofString "index") (Str.ofString "operator.index") dA2x1 (FuncBody.stmts dB2x1) dS2x1 3 [] Value.none Value.none Value.none (Value.str (Str.ofString "amaranth._unused") 194) (Option.some 38) (Value.ref 34) Value.none 0)) #[]) ::
  (nat_lit 36, Obj.mk (Value.type "dict") Option.none (Data.dict #[DictEntry.mk (PyData.keyHash P (Str.ofString "__module__")) (Value.str (Str.ofString "__module__") 215) (Value.str (Str.ofString "amaranth._unused") 194), DictEntry.mk (PyData.keyHash P (Str.ofString "__name__")) (Value.str (Str.ofString "__name__") 218) (Value.str (Str.ofString "index") 217), DictEntry.mk (PyData.keyHash P (Str.ofString "__qualname__")) (Value.str (Str.ofString "__qualname__") 221) (Value.str (Str.ofString "operator.index") 220), DictEntry.mk (PyData.keyHash P (Str.ofString "__doc__")) (Value.str (Str.ofString "__doc__") 223) Value.none, DictEntry.mk (PyData.keyHash P (Str.ofString "__annotations__")) (Value.str (Str.ofString "__annotations__") 225) (Value.ref 38)] 5) #[]) ::
  (nat_lit 37, Obj.mk (Value.type "staticmethod") (Option.some 36) (Data.fields #[Value.ref 35, Value.bool Bool.false]) #[]) ::
  (nat_lit 38, Obj.mk (Value.type "dict") Option.none (Data.dict #[]) #[]) ::
  (nat_lit 39, Obj.mk (Value.type "tuple") Option.none (Data.seq #[]) #[]) ::
  (nat_lit 40, Obj.mk (Value.type "dict") Option.none (Data.dict #[DictEntry.mk (PyData.keyHash P (Str.ofString "__module__")) (Value.str (Str.ofString "__module__") 203) (Value.str (Str.ofString "amaranth._unused") 194), DictEntry.mk (PyData.keyHash P (Str.ofString "__firstlineno__")) (Value.str (Str.ofString "__firstlineno__") 207) (Value.int 5 206), DictEntry.mk (PyData.keyHash P (Str.ofString "index")) (Value.str (Str.ofString "index") 226) (Value.ref 37), DictEntry.mk (PyData.keyHash P (Str.ofString "__static_attributes__")) (Value.str (Str.ofString "__static_attributes__") 227) (Value.ref 39), DictEntry.mk (PyData.keyHash P (Str.ofString "__dict__")) (Value.str (Str.ofString "__dict__") 229) (Value.ref 42), DictEntry.mk (PyData.keyHash P (Str.ofString "__weakref__")) (Value.str (Str.ofString "__weakref__") 231) (Value.ref 43), DictEntry.mk (PyData.keyHash P (Str.ofString "__doc__")) (Value.str (Str.ofString "__doc__") 232) Value.none] 4) #[]) ::
  (nat_lit 41, Obj.mk (Value.type "type") Option.none (Data.cls (ClassData.mk (Str.ofString "operator") [Value.type "object"] [Value.ref 41, Value.type "object"] 40 (Str.ofString "operator") Bool.true [] [] Bool.false Option.none Bool.false)) #[Option.none, Option.none, Option.some (Value.str (Str.ofString "operator") 196), Option.some (Value.str (Str.ofString "operator") 204), Option.some (Value.builtin "object.__new__"), Option.some (Value.bool Bool.true)]) ::
  (nat_lit 42, Obj.mk (Value.type "getset_descriptor") Option.none (Data.fields #[Value.str (Str.ofString "__dict__") 228, Value.ref 41, Value.builtin "function.__dict__", Value.builtin "function.__dict__#set"]) #[]) ::
  (nat_lit 43, Obj.mk (Value.type "getset_descriptor") Option.none (Data.fields #[Value.str (Str.ofString "__weakref__") 230, Value.ref 41, Value.builtin "ExceptionGroup.__weakref__", Value.none]) #[]) ::
  (nat_lit 53, Obj.mk (Value.type "tuple") Option.none (Data.seq #[]) #[]) ::
  (nat_lit 55, Obj.mk (Value.type "tuple") Option.none (Data.seq #[Value.str (Str.ofString "self") 252, Value.str (Str.ofString "crc_width") 253, Value.str (Str.ofString "polynomial") 254, Value.str (Str.ofString "initial_crc") 255, Value.str (Str.ofString "reflect_input") 256, Value.str (Str.ofString "reflect_output") 257, Value.str (Str.ofString "xor_output") 258]) #[]) ::
  (nat_lit 56, Obj.mk (Value.type "tuple") Option.none (Data.seq #[]) #[]) ::
  (nat_lit 58, Obj.mk (Value.type "code") Option.none (Data.fields #[Value.str (Str.ofString "__init__") 249, Value.str (Str.ofString "Algorithm.__init__") 250, Value.str (Str.ofString "/claim/cut.py") 251, Value.int 15 0, Value.int 1 0, Value.int 0 0, Value.int 6 0, Value.int 3 0, Value.ref 53, Value.bool Bool.true, Value.int 181 0, Value.ref 54, Value.none, Value.ref 55, Value.ref 56, Value.ref 57, Value.int 259 0, Value.int 15 0, Value.str (Str.ofString "/claim/cut.py") 260]) #[]) ::
  (nat_lit 59, Obj.mk (Value.type "function") Option.none (Data.func (FuncData.mk (Str.ofString "__init__") (Str.ofString "Algorithm.__init__") dA4x1 (FuncBody.stmts dB4x1) dS4x1 3 [] Value.none Value.none Value.none (Value.str (Str.ofString "amaranth.lib.crc") 235) Option.none (Value.ref 58) Value.none 0)) #[]) ::
  (nat_lit 60, Obj.mk (Value.type "tuple") Option.none (Data.seq #[Value.int 8 262]) #[]) ::
  (nat_lit 61, Obj.mk (Value.type "tuple") Option.none (Data.seq #[]) #[]) ::
  (nat_lit 63, Obj.mk (Value.type "tuple") Option.none (Data.seq #[Value.str (Str.ofString "self") 266, Value.str (Str.ofString "data_width") 267]) #[]) ::
  (nat_lit 64, Obj.mk (Value.type "tuple") Option.none (Data.seq #[]) #[]) ::
  (nat_lit 66, Obj.mk (Value.type "code") Option.none (Data.fields #[Value.str (Str.ofString "__call__") 263, Value.str (Str.ofString "Algorithm.__call__") 264, Value.str (Str.ofString "/claim/cut.py") 265, Value.int 31 0, Value.int 2 0, Value.int 0 0, Value.int 0 0, Value.int 3 0, Value.ref 61, Value.bool Bool.true, Value.int 181 0, Value.ref 62, Value.none, Value.ref 63, Value.ref 64, Value.ref 65, Value.int 268 0, Value.int 31 0, Value.str (Str.ofString "/claim/cut.py") 269]) #[]) ::
  (nat_lit 67, Obj.mk (Value.type "function") Option.none (Data.func (FuncData.mk (Str.ofString "__call__") (Str.ofString "Algorithm.__call__") dA4x2 (FuncBody.stmts dB4x2) dS4x2 3 [] (Value.ref 60) Value.none Value.none (Value.str (Str.ofString "amaranth.lib.crc") 235) Option.none (Value.ref 66) Value.none 0)) #[]) ::
  (nat_lit 68, Obj.mk (Value.type "tuple") Option.none (Data.seq #[]) #[]) ::
  (nat_lit 70, Obj.mk (Value.type "tuple") Option.none (Data.seq #[Value.str (Str.ofString "self") 274]) #[]) ::
  (nat_lit 71, Obj.mk (Value.type "tuple") Option.none (Data.seq #[]) #[]) ::
  (nat_lit 73, Obj.mk (Value.type "code") Option.none (Data.fields #[Value.str (Str.ofString "__repr__") 271, Value.str (Str.ofString "Algorithm.__repr__") 272, Value.str (Str.ofString "/claim/cut.py") 273, Value.int 34 0, Value.int 1 0, Value.int 0 0, Value.int 0 0, Value.int 3 0, Value.ref 68, Value.bool Bool.true, Value.int 181 0, Value.ref 69, Value.none, Value.ref 70, Value.ref 71, Value.ref 72, Value.int 275 0, Value.int 34 0, Value.str (Str.ofString "/claim/cut.py") 276]) #[]) ::
  (nat_lit 74, Obj.mk (Value.type "function") Option.none (Data.func (FuncData.mk (Str.ofString "__repr__") (Str.ofString "Algorithm.__repr__") dA4x3 (FuncBody.stmts dB4x3) dS4x3 3 [] Value.none Value.none Value.none (Value.str (Str.ofString "amaranth.lib.crc") 235) Option.none (Value.ref 73) Value.none 0)) #[]) ::
  (nat_lit 75, Obj.mk (Value.type "tuple") Option.none (Data.seq #[Value.str (Str.ofString "crc_width") 278, Value.str (Str.ofString "initial_crc") 279, Value.str (Str.ofString "polynomial") 280, Value.str (Str.ofString "reflect_input") 281, Value.str (Str.ofString "reflect_output") 282, Value.str (Str.ofString "xor_output") 283]) #[]) ::
  (nat_lit 76, Obj.mk (Value.type "dict") Option.none (Data.dict #[DictEntry.mk (PyData.keyHash P (Str.ofString "__module__")) (Value.str (Str.ofString "__module__") 244) (Value.str (Str.ofString "amaranth.lib.crc") 235), DictEntry.mk (PyData.keyHash P (Str.ofString "__firstlineno__")) (Value.str (Str.ofString "__firstlineno__") 248) (Value.int 13 247), DictEntry.mk (PyData.keyHash P (Str.ofString "__init__")) (Value.str (Str.ofString "__init__") 261) (Value.ref 59), DictEntry.mk (PyData.keyHash P (Str.ofString "__call__")) (Value.str (Str.ofString "__call__") 270) (Value.ref 67), DictEntry.mk (PyData.keyHash P (Str.ofString "__repr__")) (Value.str (Str.ofString "__repr__") 277) (Value.ref 74), DictEntry.mk (PyData.keyHash P (Str.ofString "__static_attributes__")) (Value.str (Str.ofString "__static_attributes__") 284) (Value.ref 75), DictEntry.mk (PyData.keyHash P (Str.ofString "__dict__")) (Value.str (Str.ofString "__dict__") 286) (Value.ref 78), DictEntry.mk (PyData.keyHash P (Str.ofString "__weakref__")) (Value.str (Str.ofString "__weakref__") 288) (Value.ref 79), DictEntry.mk (PyData.keyHash P (Str.ofString "__doc__")) (Value.str (Str.ofString "__doc__") 289) Value.none] 4) #[]) ::
  (nat_lit 77, Obj.mk (Value.type "type") Option.none (Data.cls (ClassData.mk (Str.ofString "Algorithm") [Value.type "object"] [Value.ref 77, Value.type "object"] 76 (Str.ofString "Algorithm") Bool.true [] [] Bool.false Option.none Bool.false)) #[Option.none, Option.none, Option.some (Value.str (Str.ofString "Algorithm") 237), Option.some (Value.str (Str.ofString "Algorithm") 245), Option.some (Value.builtin "object.__new__"), Option.some (Value.bool Bool.true)]) ::
  (nat_lit 78, Obj.mk (Value.type "getset_descriptor") Option.none (Data.fields #[Value.str (Str.ofString "__dict__") 285, Value.ref 77, Value.builtin "function.__dict__", Value.builtin "function.__dict__#set"]) #[]) ::
  (nat_lit 79, Obj.mk (Value.type "getset_descriptor") Option.none (Data.fields #[Value.str (Str.ofString "__weakref__") 287, Value.ref 77, Value.builtin "ExceptionGroup.__weakref__", Value.none]) #[]) ::
  (nat_lit 89, Obj.mk (Value.type "tuple") Option.none (Data.seq #[Value.int 8 304]) #[]) ::
  (nat_lit 90, Obj.mk (Value.type "tuple") Option.none (Data.seq #[]) #[]) ::
  (nat_lit 92, Obj.mk (Value.type "tuple") Option.none (Data.seq #[Value.str (Str.ofString "self") 308, Value.str (Str.ofString "algorithm") 309, Value.str (Str.ofString "data_width") 310]) #[]) ::
  (nat_lit 93, Obj.mk (Value.type "tuple") Option.none (Data.seq #[]) #[]) ::
  (nat_lit 95, Obj.mk (Value.type "code") Option.none (Data.fields #[Value.str (Str.ofString "__init__") 305, Value.str (Str.ofString "Parameters.__init__") 306, Value.str (Str.ofString "/claim/cut.py") 307, Value.int 38 0, Value.int 3 0, Value.int 0 0, Value.int 0 0, Value.int 3 0, Value.ref 90, Value.bool Bool.true, Value.int 181 0, Value.ref 91, Value.none, Value.ref 92, Value.ref 93, Value.ref 94, Value.int 311 0, Value.int 38 0, Value.str (Str.ofString "/claim/cut.py") 312]) #[]) ::
  (nat_lit 96, Obj.mk (Value.type "function") Option.none (Data.func (FuncData.mk (Str.ofString "__init__") (Str.ofString "Parameters.__init__") dA5x1 (FuncBody.stmts dB5x1) dS5x1 3 [] (Value.ref 89) Value.none Value.none (Value.str (Str.ofString "amaranth.lib.crc") 235) Option.none (Value.ref 95) Value.none 0)) #[]) ::
  (nat_lit 97, Obj.mk (Value.type "tuple") Option.none (Data.seq #[]) #[]) ::
  (nat_lit 99, Obj.mk (Value.type "tuple") Option.none (Data.seq #[Value.str (Str.ofString "self") 317]) #[]) ::
  (nat_lit 100, Obj.mk (Value.type "tuple") Option.none (Data.seq #[]) #[]) ::
  (nat_lit 102, Obj.mk (Value.type "code") Option.none (Data.fields #[Value.str (Str.ofString "algorithm") 314, Value.str (Str.ofString "Parameters.algorithm") 315, Value.str (Str.ofString "/claim/cut.py") 316, Value.int 49 0, Value.int 1 0, Value.int 0 0, Value.int 0 0, Value.int 3 0, Value.ref 97, Value.bool Bool.true, Value.int 181 0, Value.ref 98, Value.none, Value.ref 99, Value.ref 100, Value.ref 101, Value.int 318 0, Value.int 49 0, Value.str (Str.ofString "/claim/cut.py") 319]) #[]) ::
  (nat_lit 103, Obj.mk (Value.type "function") Option.none (Data.func (FuncData.mk (Str.ofString "algorithm") (Str.ofString "Parameters.algorithm") dA5x2 (FuncBody.stmts dB5x2) dS5x2 3 [] Value.none Value.none Value.none (Value.str (Str.ofString "amaranth.lib.crc") 235) Option.none (Value.ref 102) Value.none 0)) #[]) ::
  (nat_lit 104, Obj.mk (Value.type "property") Option.none (Data.fields #[Value.ref 103, Value.none, Value.none, Value.none, Value.str (Str.ofString "algorithm") 321, Value.bool Bool.false]) #[]) ::
  (nat_lit 105, Obj.mk (Value.type "tuple") Option.none (Data.seq #[]) #[]) ::
  (nat_lit 107, Obj.mk (Value.type "tuple") Option.none (Data.seq #[Value.str (Str.ofString "self") 325]) #[]) ::
  (nat_lit 108, Obj.mk (Value.type "tuple") Option.none (Data.seq #[]) #[]) ::
  (nat_lit 110, Obj.mk (Value.type "code") Option.none (Data.fields #[Value.str (Str.ofString "residue") 322, Value.str (Str.ofString "Parameters.residue") 323, Value.str (Str.ofString "/claim/cut.py") 324, Value.int 53 0, Value.int 1 0, Value.int 0 0, Value.int 0 0, Value.int 3 0, Value.ref 105, Value.bool Bool.true, Value.int 181 0, Value.ref 106, Value.none, Value.ref 107, Value.ref 108, Value.ref 109, Value.int 326 0, Value.int 53 0, Value.str (Str.ofString "/claim/cut.py") 327]) #[]) ::
  (nat_lit 111, Obj.mk (Value.type "function") Option.none (Data.func (FuncData.mk (Str.ofString "residue") (Str.ofString "Parameters.residue") dA5x3 (FuncBody.stmts dB5x3) dS5x3 3 [] Value.none Value.none Value.none (Value.str (Str.ofString "amaranth.lib.crc") 235) Option.none (Value.ref 110) Value.none 0)) #[]) ::
  (nat_lit 112, Obj.mk (Value.type "tuple") Option.none (Data.seq #[]) #[]) ::
  (nat_lit 114, Obj.mk (Value.type "tuple") Option.none (Data.seq #[Value.str (Str.ofString "self") 332, Value.str (Str.ofString "data") 333, Value.str (Str.ofString "word_max") 334, Value.str (Str.ofString "top_bit") 335, Value.str (Str.ofString "crc_mask") 336, Value.str (Str.ofString "poly_shifted") 337, Value.str (Str.ofString "crc") 338, Value.str (Str.ofString "word") 339, Value.str (Str.ofString "_") 340]) #[]) ::
  (nat_lit 115, Obj.mk (Value.type "tuple") Option.none (Data.seq #[]) #[]) ::
  (nat_lit 117, Obj.mk (Value.type "code") Option.none (Data.fields #[Value.str (Str.ofString "compute") 329, Value.str (Str.ofString "Parameters.compute") 330, Value.str (Str.ofString "/claim/cut.py") 331, Value.int 56 0, Value.int 2 0, Value.int 0 0, Value.int 0 0, Value.int 3 0, Value.ref 112, Value.bool Bool.true, Value.int 181 0, Value.ref 113, Value.none, Value.ref 114, Value.ref 115, Value.ref 116, Value.int 341 0, Value.int 56 0, Value.str (Str.ofString "/claim/cut.py") 342]) #[]) ::
  (nat_lit 118, Obj.mk (Value.type "function") Option.none (Data.func (FuncData.mk (Str.ofString "compute") (Str.ofString "Parameters.compute") dA5x4 (FuncBody.stmts dB5x4) dS5x4 3 [] Value.none Value.none Value.none (Value.str (Str.ofString "amaranth.lib.crc") 235) Option.none (Value.ref 117) Value.none 0)) #[]) ::
  (nat_lit 119, Obj.mk (Value.type "tuple") Option.none (Data.seq #[]) #[]) ::
  (nat_lit 121, Obj.mk (Value.type "tuple") Option.none (Data.seq #[Value.str (Str.ofString "word") 347, Value.str (Str.ofString "n") 348]) #[]) ::
  (nat_lit 122, Obj.mk (Value.type "tuple") Option.none (Data.seq #[]) #[]) ::
  (nat_lit 124, Obj.mk (Value.type "code") Option.none (Data.fields #[Value.str (Str.ofString "_reflect") 344, Value.str (Str.ofString "Parameters._reflect") 345, Value.str (Str.ofString "/claim/cut.py") 346, Value.int 80 0, Value.int 2 0, Value.int 0 0, Value.int 0 0, Value.int 3 0, Value.ref 119, Value.bool Bool.true, Value.int 181 0, Value.ref 120, Value.none, Value.ref 121, Value.ref 122, Value.ref 123, Value.int 349 0, Value.int 80 0, Value.str (Str.ofString "/claim/cut.py") 350]) #[]) ::
  (nat_lit 125, Obj.mk (Value.type "function") Option.none (Data.func (FuncData.mk (Str.ofString "_reflect") (Str.ofString "Parameters._reflect") dA5x5 (FuncBody.stmts dB5x5) dS5x5 3 [] Value.none Value.none Value.none (Value.str (Str.ofString "amaranth.lib.crc") 235) (Option.some 128) (Value.ref 124) Value.none 0)) #[]) ::
  (nat_lit 126, Obj.mk (Value.type "dict") Option.none (Data.dict #[DictEntry.mk (PyData.keyHash P (Str.ofString "__module__")) (Value.str (Str.ofString "__module__") 352) (Value.str (Str.ofString "amaranth.lib.crc") 235), DictEntry.mk (PyData.keyHash P (Str.ofString "__name__")) (Value.str (Str.ofString "__name__") 355) (Value.str (Str.ofString "_reflect") 354), DictEntry.mk (PyData.keyHash P (Str.ofString "__qualname__")) (Value.str (Str.ofString "__qualname__") 358) (Value.str (Str.ofString "Parameters._reflect") 357), DictEntry.mk (PyData.keyHash P (Str.ofString "__doc__")) (Value.str (Str.ofString "__doc__") 360) Value.none, DictEntry.mk (PyData.keyHash P (Str.ofString "__annotations__")) (Value.str (Str.ofString "__annotations__") 362) (Value.ref 128)] 5) #[]) ::
  (nat_lit 127, Obj.mk (Value.type "staticmethod") (Option.some 126) (Data.fields #[Value.ref 125, Value.bool Bool.false]) #[]) ::
  (nat_lit 128, Obj.mk (Value.type "dict") Option.none (Data.dict #[]) #[]) ::
  (nat_lit 129, Obj.mk (Value.type "tuple") Option.none (Data.seq #[]) #[]) ::
  (nat_lit 132, Obj.mk (Value.type "code") Option.none (Data.fields #[Value.str (Str.ofString "_matrices") 364, Value.str (Str.ofString "Parameters._matrices") 365, Value.str (Str.ofString "/claim/cut.py") 366, Value.int 84 0, Value.int 1 0, Value.int 0 0, Value.int 0 0, Value.int 3 0, Value.ref 129, Value.bool Bool.true, Value.int 181 0, Value.ref 130, Value.none, Value.none, Value.none, Value.ref 131, Value.int 367 0, Value.int 84 0, Value.str (Str.ofString "/claim/cut.py") 368]) #[]) ::
  (nat_lit 133, Obj.mk (Value.type "function") Option.none (Data.func (FuncData.mk (Str.ofString "_matrices") (Str.ofString "Parameters._matrices") dA5x6 (FuncBody.stmts dB5x6) dS5x6 3 [] Value.none Value.none Value.none (Value.str (Str.ofString "amaranth.lib.crc") 235) Option.none (Value.ref 132) Value.none 0)) #[]) ::
  (nat_lit 134, Obj.mk (Value.type "tuple") Option.none (Data.seq #[]) #[]) ::
  (nat_lit 136, Obj.mk (Value.type "tuple") Option.none (Data.seq #[Value.str (Str.ofString "self") 373]) #[]) ::
  (nat_lit 137, Obj.mk (Value.type "tuple") Option.none (Data.seq #[]) #[]) ::
  (nat_lit 139, Obj.mk (Value.type "code") Option.none (Data.fields #[Value.str (Str.ofString "__repr__") 370, Value.str (Str.ofString "Parameters.__repr__") 371, Value.str (Str.ofString "/claim/cut.py") 372, Value.int 101 0, Value.int 1 0, Value.int 0 0, Value.int 0 0, Value.int 3 0, Value.ref 134, Value.bool Bool.true, Value.int 181 0, Value.ref 135, Value.none, Value.ref 136, Value.ref 137, Value.ref 138, Value.int 374 0, Value.int 101 0, Value.str (Str.ofString "/claim/cut.py") 375]) #[]) ::
  (nat_lit 140, Obj.mk (Value.type "function") Option.none (Data.func (FuncData.mk (Str.ofString "__repr__") (Str.ofString "Parameters.__repr__") dA5x7 (FuncBody.stmts dB5x7) dS5x7 3 [] Value.none Value.none Value.none (Value.str (Str.ofString "amaranth.lib.crc") 235) Option.none (Value.ref 139) Value.none 0)) #[]) ::
  (nat_lit 141, Obj.mk (Value.type "tuple") Option.none (Data.seq #[Value.str (Str.ofString "_crc_width") 377, Value.str (Str.ofString "_initial_crc") 378, Value.str (Str.ofString "_polynomial") 379, Value.str (Str.ofString "_reflect_input") 380, Value.str (Str.ofString "_reflect_output") 381, Value.str (Str.ofString "_xor_output") 382, Value.str (Str.ofString "data_width") 383]) #[]) ::
  (nat_lit 142, Obj.mk (Value.type "dict") Option.none (Data.dict #[DictEntry.mk (PyData.keyHash P (Str.ofString "__module__")) (Value.str (Str.ofString "__module__") 299) (Value.str (Str.ofString "amaranth.lib.crc") 235), DictEntry.mk (PyData.keyHash P (Str.ofString "__firstlineno__")) (Value.str (Str.ofString "__firstlineno__") 303) (Value.int 36 302), DictEntry.mk (PyData.keyHash P (Str.ofString "__init__")) (Value.str (Str.ofString "__init__") 313) (Value.ref 96), DictEntry.mk (PyData.keyHash P (Str.ofString "algorithm")) (Value.str (Str.ofString "algorithm") 321) (Value.ref 104), DictEntry.mk (PyData.keyHash P (Str.ofString "residue")) (Value.str (Str.ofString "residue") 328) (Value.ref 111), DictEntry.mk (PyData.keyHash P (Str.ofString "compute")) (Value.str (Str.ofString "compute") 343) (Value.ref 118), DictEntry.mk (PyData.keyHash P (Str.ofString "_reflect")) (Value.str (Str.ofString "_reflect") 363) (Value.ref 127), DictEntry.mk (PyData.keyHash P (Str.ofString "_matrices")) (Value.str (Str.ofString "_matrices") 369) (Value.ref 133), DictEntry.mk (PyData.keyHash P (Str.ofString "__repr__")) (Value.str (Str.ofString "__repr__") 376) (Value.ref 140), DictEntry.mk (PyData.keyHash P (Str.ofString "__static_attributes__")) (Value.str (Str.ofString "__static_attributes__") 384) (Value.ref 141), DictEntry.mk (PyData.keyHash P (Str.ofString "__dict__")) (Value.str (Str.ofString "__dict__") 386) (Value.ref 144), DictEntry.mk (PyData.keyHash P (Str.ofString "__weakref__")) (Value.str (Str.ofString "__weakref__") 388) (Value.ref 145), DictEntry.mk (PyData.keyHash P (Str.ofString "__doc__")) (Value.str (Str.ofString "__doc__") 389) Value.none] 4) #[]) ::
  (nat_lit 143, Obj.mk (Value.type "type") Option.none (Data.cls (ClassData.mk (Str.ofString "Parameters") [Value.type "object"] [Value.ref 143, Value.type "object"] 142 (Str.ofString "Parameters") Bool.true [] [] Bool.false Option.none Bool.false)) #[Option.none, Option.none, Option.some (Value.str (Str.ofString "Parameters") 292), Option.some (Value.str (Str.ofString "Parameters") 300), Option.some (Value.builtin "object.__new__"), Option.some (Value.bool Bool.true)]) ::
  (nat_lit 144, Obj.mk (Value.type "getset_descriptor") Option.none (Data.fields #[Value.str (Str.ofString "__dict__") 385, Value.ref 143, Value.builtin "function.__dict__", Value.builtin "function.__dict__#set"]) #[]) ::
  (nat_lit 145, Obj.mk (Value.type "getset_descriptor") Option.none (Data.fields #[Value.str (Str.ofString "__weakref__") 387, Value.ref 143, Value.builtin "ExceptionGroup.__weakref__", Value.none]) #[]) ::
  (nat_lit 148, Obj.mk (Value.type "tuple") Option.none (Data.seq #[]) #[]) ::
  (nat_lit 150, Obj.mk (Value.type "tuple") Option.none (Data.seq #[Value.str (Str.ofString "box") 397, Value.str (Str.ofString "many") 398]) #[]) ::
  (nat_lit 151, Obj.mk (Value.type "tuple") Option.none (Data.seq #[]) #[]) ::
  (nat_lit 153, Obj.mk (Value.type "code") Option.none (Data.fields #[Value.str (Str.ofString "_law_draw") 394, Value.str (Str.ofString "_law_draw") 395, Value.str (Str.ofString "/claim/cut.py") 396, Value.int 104 0, Value.int 2 0, Value.int 0 0, Value.int 0 0, Value.int 3 0, Value.ref 148, Value.bool Bool.true, Value.int 181 0, Value.ref 149, Value.none, Value.ref 150, Value.ref 151, Value.ref 152, Value.int 399 0, Value.int 104 0, Value.str (Str.ofString "/claim/cut.py") 400]) #[]) ::
  (nat_lit 154, Obj.mk (Value.type "function") Option.none (Data.func (FuncData.mk (Str.ofString "_law_draw") (Str.ofString "_law_draw") dA7x0 (FuncBody.stmts dB7x0) dS7x0 3 [] Value.none Value.none Value.none (Value.str (Str.ofString "law_ac0002_01") 392) Option.none (Value.ref 153) Value.none 0)) #[]) ::
  (nat_lit 155, Obj.mk (Value.type "tuple") Option.none (Data.seq #[]) #[]) ::
  (nat_lit 157, Obj.mk (Value.type "tuple") Option.none (Data.seq #[Value.str (Str.ofString "state") 405, Value.str (Str.ofString "bit") 406, Value.str (Str.ofString "width") 407, Value.str (Str.ofString "poly") 408, Value.str (Str.ofString "top") 409]) #[]) ::
  (nat_lit 158, Obj.mk (Value.type "tuple") Option.none (Data.seq #[]) #[]) ::
  (nat_lit 160, Obj.mk (Value.type "code") Option.none (Data.fields #[Value.str (Str.ofString "_law_step") 402, Value.str (Str.ofString "_law_step") 403, Value.str (Str.ofString "/claim/cut.py") 404, Value.int 109 0, Value.int 4 0, Value.int 0 0, Value.int 0 0, Value.int 3 0, Value.ref 155, Value.bool Bool.true, Value.int 181 0, Value.ref 156, Value.none, Value.ref 157, Value.ref 158, Value.ref 159, Value.int 410 0, Value.int 109 0, Value.str (Str.ofString "/claim/cut.py") 411]) #[]) ::
  (nat_lit 161, Obj.mk (Value.type "function") Option.none (Data.func (FuncData.mk (Str.ofString "_law_step") (Str.ofString "_law_step") dA8x0 (FuncBody.stmts dB8x0) dS8x0 3 [] Value.none Value.none Value.none (Value.str (Str.ofString "law_ac0002_01") 392) Option.none (Value.ref 160) Value.none 0)) #[]) ::
  (nat_lit 162, Obj.mk (Value.type "tuple") Option.none (Data.seq #[]) #[]) ::
  (nat_lit 164, Obj.mk (Value.type "tuple") Option.none (Data.seq #[Value.str (Str.ofString "state") 416, Value.str (Str.ofString "word") 417, Value.str (Str.ofString "wide") 418, Value.str (Str.ofString "width") 419, Value.str (Str.ofString "poly") 420, Value.str (Str.ofString "place") 421]) #[]) ::
  (nat_lit 165, Obj.mk (Value.type "tuple") Option.none (Data.seq #[]) #[]) ::
  (nat_lit 167, Obj.mk (Value.type "code") Option.none (Data.fields #[Value.str (Str.ofString "_law_word") 413, Value.str (Str.ofString "_law_word") 414, Value.str (Str.ofString "/claim/cut.py") 415, Value.int 113 0, Value.int 5 0, Value.int 0 0, Value.int 0 0, Value.int 3 0, Value.ref 162, Value.bool Bool.true, Value.int 181 0, Value.ref 163, Value.none, Value.ref 164, Value.ref 165, Value.ref 166, Value.int 422 0, Value.int 113 0, Value.str (Str.ofString "/claim/cut.py") 423]) #[]) ::
  (nat_lit 168, Obj.mk (Value.type "function") Option.none (Data.func (FuncData.mk (Str.ofString "_law_word") (Str.ofString "_law_word") dA9x0 (FuncBody.stmts dB9x0) dS9x0 3 [] Value.none Value.none Value.none (Value.str (Str.ofString "law_ac0002_01") 392) Option.none (Value.ref 167) Value.none 0)) #[]) ::
  (nat_lit 169, Obj.mk (Value.type "tuple") Option.none (Data.seq #[]) #[]) ::
  (nat_lit 172, Obj.mk (Value.type "code") Option.none (Data.fields #[Value.str (Str.ofString "_law_bits") 425, Value.str (Str.ofString "_law_bits") 426, Value.str (Str.ofString "/claim/cut.py") 427, Value.int 117 0, Value.int 2 0, Value.int 0 0, Value.int 0 0, Value.int 3 0, Value.ref 169, Value.bool Bool.true, Value.int 181 0, Value.ref 170, Value.none, Value.none, Value.none, Value.ref 171, Value.int 428 0, Value.int 117 0, Value.str (Str.ofString "/claim/cut.py") 429]) #[]) ::
  (nat_lit 173, Obj.mk (Value.type "function") Option.none (Data.func (FuncData.mk (Str.ofString "_law_bits") (Str.ofString "_law_bits") dA10x0 (FuncBody.stmts dB10x0) dS10x0 3 [] Value.none Value.none Value.none (Value.str (Str.ofString "law_ac0002_01") 392) Option.none (Value.ref 172) Value.none 0)) #[]) ::
  (nat_lit 174, Obj.mk (Value.type "tuple") Option.none (Data.seq #[]) #[]) ::
  (nat_lit 177, Obj.mk (Value.type "code") Option.none (Data.fields #[Value.str (Str.ofString "_law_number") 431, Value.str (Str.ofString "_law_number") 432, Value.str (Str.ofString "/claim/cut.py") 433, Value.int 119 0, Value.int 1 0, Value.int 0 0, Value.int 0 0, Value.int 3 0, Value.ref 174, Value.bool Bool.true, Value.int 181 0, Value.ref 175, Value.none, Value.none, Value.none, Value.ref 176, Value.int 434 0, Value.int 119 0, Value.str (Str.ofString "/claim/cut.py") 435]) #[]) ::
  (nat_lit 178, Obj.mk (Value.type "function") Option.none (Data.func (FuncData.mk (Str.ofString "_law_number") (Str.ofString "_law_number") dA11x0 (FuncBody.stmts dB11x0) dS11x0 3 [] Value.none Value.none Value.none (Value.str (Str.ofString "law_ac0002_01") 392) Option.none (Value.ref 177) Value.none 0)) #[]) ::
  (nat_lit 179, Obj.mk (Value.type "tuple") Option.none (Data.seq #[]) #[]) ::
  (nat_lit 182, Obj.mk (Value.type "code") Option.none (Data.fields #[Value.str (Str.ofString "_law_turned") 437, Value.str (Str.ofString "_law_turned") 438, Value.str (Str.ofString "/claim/cut.py") 439, Value.int 121 0, Value.int 2 0, Value.int 0 0, Value.int 0 0, Value.int 3 0, Value.ref 179, Value.bool Bool.true, Value.int 181 0, Value.ref 180, Value.none, Value.none, Value.none, Value.ref 181, Value.int 440 0, Value.int 121 0, Value.str (Str.ofString "/claim/cut.py") 441]) #[]) ::
  (nat_lit 183, Obj.mk (Value.type "function") Option.none (Data.func (FuncData.mk (Str.ofString "_law_turned") (Str.ofString "_law_turned") dA12x0 (FuncBody.stmts dB12x0) dS12x0 3 [] Value.none Value.none Value.none (Value.str (Str.ofString "law_ac0002_01") 392) Option.none (Value.ref 182) Value.none 0)) #[]) ::
  (nat_lit 184, Obj.mk (Value.type "tuple") Option.none (Data.seq #[]) #[]) ::
  (nat_lit 186, Obj.mk (Value.type "tuple") Option.none (Data.seq #[Value.str (Str.ofString "rows") 446, Value.str (Str.ofString "number") 447, Value.str (Str.ofString "res") 448, Value.str (Str.ofString "i") 449]) #[]) ::
  (nat_lit 187, Obj.mk (Value.type "tuple") Option.none (Data.seq #[]) #[]) ::
  (nat_lit 189, Obj.mk (Value.type "code") Option.none (Data.fields #[Value.str (Str.ofString "_law_times") 443, Value.str (Str.ofString "_law_times") 444, Value.str (Str.ofString "/claim/cut.py") 445, Value.int 123 0, Value.int 2 0, Value.int 0 0, Value.int 0 0, Value.int 3 0, Value.ref 184, Value.bool Bool.true, Value.int 181 0, Value.ref 185, Value.none, Value.ref 186, Value.ref 187, Value.ref 188, Value.int 450 0, Value.int 123 0, Value.str (Str.ofString "/claim/cut.py") 451]) #[]) ::
  (nat_lit 190, Obj.mk (Value.type "function") Option.none (Data.func (FuncData.mk (Str.ofString "_law_times") (Str.ofString "_law_times") dA13x0 (FuncBody.stmts dB13x0) dS13x0 3 [] Value.none Value.none Value.none (Value.str (Str.ofString "law_ac0002_01") 392) Option.none (Value.ref 189) Value.none 0)) #[]) ::
  (nat_lit 191, Obj.mk (Value.type "tuple") Option.none (Data.seq #[]) #[]) ::
  (nat_lit 193, Obj.mk (Value.type "tuple") Option.none (Data.seq #[Value.str (Str.ofString "made") 456, Value.str (Str.ofString "told") 457]) #[]) ::
  (nat_lit 194, Obj.mk (Value.type "tuple") Option.none (Data.seq #[]) #[]) ::
  (nat_lit 196, Obj.mk (Value.type "code") Option.none (Data.fields #[Value.str (Str.ofString "_law_told") 453, Value.str (Str.ofString "_law_told") 454, Value.str (Str.ofString "/claim/cut.py") 455, Value.int 129 0, Value.int 1 0, Value.int 0 0, Value.int 0 0, Value.int 3 0, Value.ref 191, Value.bool Bool.true, Value.int 181 0, Value.ref 192, Value.none, Value.ref 193, Value.ref 194, Value.ref 195, Value.int 458 0, Value.int 129 0, Value.str (Str.ofString "/claim/cut.py") 459]) #[]) ::
  (nat_lit 197, Obj.mk (Value.type "function") Option.none (Data.func (FuncData.mk (Str.ofString "_law_told") (Str.ofString "_law_told") dA14x0 (FuncBody.stmts dB14x0) dS14x0 3 [] Value.none Value.none Value.none (Value.str (Str.ofString "law_ac0002_01") 392) Option.none (Value.ref 196) Value.none 0)) #[]) ::
  (nat_lit 198, Obj.mk (Value.type "tuple") Option.none (Data.seq #[]) #[]) ::
  (nat_lit 201, Obj.mk (Value.type "code") Option.none (Data.fields #[Value.str (Str.ofString "law") 461, Value.str (Str.ofString "law") 462, Value.str (Str.ofString "/claim/cut.py") 463, Value.int 132 0, Value.int 1 0, Value.int 0 0, Value.int 0 0, Value.int 3 0, Value.ref 198, Value.bool Bool.true, Value.int 181 0, Value.ref 199, Value.none, Value.none, Value.none, Value.ref 200, Value.int 464 0, Value.int 132 0, Value.str (Str.ofString "/claim/cut.py") 465]) #[]) ::
  (nat_lit 202, Obj.mk (Value.type "function") Option.none (Data.func (FuncData.mk (Str.ofString "law") (Str.ofString "law") dA15x0 (FuncBody.stmts dB15x0) dS15x0 3 [] Value.none Value.none Value.none (Value.str (Str.ofString "law_ac0002_01") 392) Option.none (Value.ref 201) Value.none 0)) #[]) :: [])
noncomputable def viewX : Program := { thePg with main := { thePg.main with body := (match thePg.main.body with
  | [s0, _, s2, _, s4, s5, _, s7, s8, s9, s10, s11, s12, s13, s14, s15] => [s0, s2, s4, s5, s7, s8, s9, s10, s11, s12, s13, s14, s15]
  | _ => []) } }
noncomputable abbrev hookX : Hook := kHook heapX [nat_lit 2, nat_lit 3, nat_lit 15, nat_lit 17, nat_lit 18, nat_lit 20, nat_lit 21, nat_lit 29, nat_lit 31, nat_lit 32, nat_lit 34, nat_lit 35, nat_lit 36, nat_lit 37, nat_lit 38, nat_lit 39, nat_lit 40, nat_lit 41, nat_lit 42, nat_lit 43, nat_lit 53, nat_lit 55, nat_lit 56, nat_lit 58, nat_lit 59, nat_lit 60, nat_lit 61, nat_lit 63, nat_lit 64, nat_lit 66, nat_lit 67, nat_lit 68, nat_lit 70, nat_lit 71, nat_lit 73, nat_lit 74, nat_lit 75, nat_lit 76, nat_lit 77, nat_lit 78, nat_lit 79, nat_lit 89, nat_lit 90, nat_lit 92, nat_lit 93, nat_lit 95, nat_lit 96, nat_lit 97, nat_lit 99, nat_lit 100, nat_lit 102, nat_lit 103, nat_lit 104, nat_lit 105, nat_lit 107, nat_lit 108, nat_lit 110, nat_lit 111, nat_lit 112, nat_lit 114, nat_lit 115, nat_lit 117, nat_lit 118, nat_lit 119, nat_lit 121, nat_lit 122, nat_lit 124, nat_lit 125, nat_lit 126, nat_lit 127, nat_lit 128, nat_lit 129, nat_lit 132, nat_lit 133, nat_lit 134, nat_lit 136, nat_lit 137, nat_lit 139, nat_lit 140, nat_lit 141, nat_lit 142, nat_lit 143, nat_lit 144, nat_lit 145, nat_lit 148, nat_lit 150, nat_lit 151, nat_lit 153, nat_lit 154, nat_lit 155, nat_lit 157, nat_lit 158, nat_lit 160, nat_lit 161, nat_lit 162, nat_lit 164, nat_lit 165, nat_lit 167, nat_lit 168, nat_lit 169, nat_lit 172, nat_lit 173, nat_lit 174, nat_lit 177, nat_lit 178, nat_lit 179, nat_lit 182, nat_lit 183, nat_lit 184, nat_lit 186, nat_lit 187, nat_lit 189, nat_lit 190, nat_lit 191, nat_lit 193, nat_lit 194, nat_lit 196, nat_lit 197, nat_lit 198, nat_lit 201, nat_lit 202] (fun _ => by kernel_rfl)
abbrev looseX : List Str := [Str.ofString "operator", Str.ofString "Parameters"]
abbrev annX : Option Value := some (.ref 6)
abbrev posT : Pos := ⟨0, 0, 0, 0⟩
abbrev lifeT : Life := Life.mk [] [] [] 0 [] [] Bool.false #[] [] 0 Bool.false Bool.false Bool.false 0 [2000, 10, 10] Bool.false 0 Bool.true [] [] 0 Bool.false
noncomputable def envT : Env := Env.mk thePg.main.scope mainNs mainNs [] Str.empty Option.none (Value.ref 13) (Option.some 14) 0
noncomputable def bodyT : List Stmt := behindTheImports thePg
noncomputable def codeT : Code := .body (behindTheImports thePg) envT
noncomputable def g43 (P : Params) : Obj := Obj.mk (Value.type "tuple") Option.none (Data.seq #[]) #[]
noncomputable def g44 (P : Params) : Obj := Obj.mk Value.none Option.none (Data.fields #[]) #[]
noncomputable def g45 (P : Params) : Obj := Obj.mk (Value.type "code") Option.none (Data.fields #[Value.str (Str.ofString "<module>") 182, Value.str (Str.ofString "<module>") 183, Value.str (Str.ofString "/claim/cut.py") 184, Value.int 1 0, Value.int 0 0, Value.int 0 0, Value.int 0 0, Value.int 0 0, Value.ref 11, Value.bool Bool.false, Value.int 181 0, Value.ref 12, Value.none, Value.none, Value.none, Value.none, Value.int 185 0, Value.int 1 0, Value.str (Str.ofString "/claim/cut.py") 186]) #[]
noncomputable def g46 (P : Params) : Obj := Obj.mk (Value.type "frame") Option.none Data.plain #[Option.some (Value.ref 13), Option.some (Value.ref 3), Option.some (Value.ref 3), Option.none, Option.some (Value.str (Str.ofString "__main__") 164), Option.none, Option.some (Value.ref 0)]
noncomputable def g49 (P : Params) : Obj := Obj.mk (Value.type "dict") Option.none (Data.dict #[DictEntry.mk (PyData.keyHash P (Str.ofString "__name__")) (Value.str (Str.ofString "__name__") 165) (Value.str (Str.ofString "amaranth.lib.crc") 235), DictEntry.mk (PyData.keyHash P (Str.ofString "__doc__")) (Value.str (Str.ofString "__doc__") 166) Value.none, DictEntry.mk (PyData.keyHash P (Str.ofString "__package__")) (Value.str (Str.ofString "__package__") 167) Value.none, DictEntry.mk (PyData.keyHash P (Str.ofString "__loader__")) (Value.str (Str.ofString "__loader__") 168) (Value.builtin "__main__.__loader__#opaque"), DictEntry.mk (PyData.keyHash P (Str.ofString "__spec__")) (Value.str (Str.ofString "__spec__") 169) Value.none, DictEntry.mk (PyData.keyHash P (Str.ofString "__annotations__")) (Value.str (Str.ofString "__annotations__") 170) (Value.ref 6), DictEntry.mk (PyData.keyHash P (Str.ofString "__builtins__")) (Value.str (Str.ofString "__builtins__") 171) (Value.ref 4), DictEntry.mk (PyData.keyHash P (Str.ofString "__file__")) (Value.str (Str.ofString "__file__") 173) (Value.str (Str.ofString "/claim/cut.py") 172), DictEntry.mk (PyData.keyHash P (Str.ofString "__cached__")) (Value.str (Str.ofString "__cached__") 174) Value.none, DictEntry.mk (PyData.keyHash P (Str.ofString "_wall")) (Value.str (Str.ofString "_wall") 193) (Value.ref 21), DictEntry.mk (PyData.keyHash P (Str.ofString "operator")) (Value.str (Str.ofString "operator") 234) (Value.ref 41)] 11) #[]
noncomputable def g50 (P : Params) : Obj := Obj.mk Value.none Option.none (Data.fields #[Value.int 1 0, Value.int 0 0, Value.ref 20, Value.int 5 0, Value.int 0 0, Value.ref 27]) #[]
noncomputable def g51 (P : Params) : Obj := Obj.mk (Value.type "tuple") Option.none (Data.seq #[]) #[]
noncomputable def g52 (P : Params) : Obj := Obj.mk Value.none Option.none (Data.fields #[]) #[]
noncomputable def g53 (P : Params) : Obj := Obj.mk (Value.type "tuple") Option.none (Data.seq #[Value.str (Str.ofString "k") 190]) #[]
noncomputable def g54 (P : Params) : Obj := Obj.mk (Value.type "tuple") Option.none (Data.seq #[]) #[]
noncomputable def g55 (P : Params) : Obj := Obj.mk Value.none Option.none (Data.func (FuncData.mk (Str.ofString "_wall") (Str.ofString "_wall") dA0x0 (FuncBody.stmts dB0x0) dS0x0 0 [] Value.none Value.none Value.none Value.none Option.none Value.none Value.none 0)) #[]
noncomputable def g56 (P : Params) : Obj := Obj.mk (Value.type "code") Option.none (Data.fields #[Value.str (Str.ofString "_wall") 187, Value.str (Str.ofString "_wall") 188, Value.str (Str.ofString "/claim/cut.py") 189, Value.int 1 0, Value.int 1 0, Value.int 0 0, Value.int 0 0, Value.int 3 0, Value.ref 15, Value.bool Bool.true, Value.int 181 0, Value.ref 16, Value.none, Value.ref 17, Value.ref 18, Value.ref 19, Value.int 191 0, Value.int 1 0, Value.str (Str.ofString "/claim/cut.py") 192]) #[]
noncomputable def g57 (P : Params) : Obj := Obj.mk (Value.type "function") Option.none (Data.func (FuncData.mk (Str.ofString "_wall") (Str.ofString "_wall") dA0x0 (FuncBody.stmts dB0x0) dS0x0 3 [] Value.none Value.none Value.none (Value.str (Str.ofString "__main__") 164) Option.none (Value.ref 20) Value.none 0)) #[]
noncomputable def g58 (P : Params) : Obj := Obj.mk (Value.type "tuple") Option.none (Data.seq #[]) #[]
noncomputable def g59 (P : Params) : Obj := Obj.mk (Value.type "builtin_function_or_method") Option.none (Data.fields #[Value.builtin "type.__prepare__", Value.type "type"]) #[]
noncomputable def g60 (P : Params) : Obj := Obj.mk (Value.type "dict") Option.none (Data.dict #[DictEntry.mk (PyData.keyHash P (Str.ofString "__module__")) (Value.str (Str.ofString "__module__") 203) (Value.str (Str.ofString "amaranth._unused") 194), DictEntry.mk (PyData.keyHash P (Str.ofString "__qualname__")) (Value.str (Str.ofString "__qualname__") 205) (Value.str (Str.ofString "operator") 204), DictEntry.mk (PyData.keyHash P (Str.ofString "__firstlineno__")) (Value.str (Str.ofString "__firstlineno__") 207) (Value.int 5 206), DictEntry.mk (PyData.keyHash P (Str.ofString "index")) (Value.str (Str.ofString "index") 226) (Value.ref 37), DictEntry.mk (PyData.keyHash P (Str.ofString "__static_attributes__")) (Value.str (Str.ofString "__static_attributes__") 227) (Value.ref 39)] 5) #[]
noncomputable def g61 (P : Params) : Obj := Obj.mk (Value.type "tuple") Option.none (Data.seq #[]) #[]
noncomputable def g62 (P : Params) : Obj := Obj.mk Value.none Option.none (Data.fields #[Value.int 8 0, Value.int 4 0, Value.ref 34]) #[]
noncomputable def g63 (P : Params) : Obj := Obj.mk (Value.type "code") Option.none (Data.fields #[Value.str (Str.ofString "operator") 198, Value.str (Str.ofString "operator") 199, Value.str (Str.ofString "/claim/cut.py") 200, Value.int 5 0, Value.int 0 0, Value.int 0 0, Value.int 0 0, Value.int 0 0, Value.ref 25, Value.bool Bool.false, Value.int 181 0, Value.ref 26, Value.none, Value.none, Value.none, Value.none, Value.int 201 0, Value.int 5 0, Value.str (Str.ofString "/claim/cut.py") 202]) #[]
noncomputable def g64 (P : Params) : Obj := Obj.mk (Value.type "frame") Option.none Data.plain #[Option.some (Value.ref 27), Option.some (Value.ref 3), Option.some (Value.ref 24), Option.none, Option.some (Value.str (Str.ofString "amaranth._unused") 194), Option.none, Option.some (Value.ref 0)]
noncomputable def g65 (P : Params) : Obj := Obj.mk (Value.type "tuple") Option.none (Data.seq #[]) #[]
noncomputable def g66 (P : Params) : Obj := Obj.mk Value.none Option.none (Data.fields #[]) #[]
noncomputable def g67 (P : Params) : Obj := Obj.mk (Value.type "tuple") Option.none (Data.seq #[Value.str (Str.ofString "value") 211]) #[]
noncomputable def g68 (P : Params) : Obj := Obj.mk (Value.type "tuple") Option.none (Data.seq #[]) #[]
noncomputable def g69 (P : Params) : Obj := Obj.mk Value.none Option.none (Data.func (FuncData.mk (Str.ofString "index") (Str.ofString "operator.index") dA2x1 (FuncBody.stmts dB2x1) dS2x1 0 [] Value.none Value.none Value.none Value.none Option.none Value.none Value.none 0)) #[]
noncomputable def g70 (P : Params) : Obj := Obj.mk (Value.type "code") Option.none (Data.fields #[Value.str (Str.ofString "index") 208, Value.str (Str.ofString "operator.index") 209, Value.str (Str.ofString "/claim/cut.py") 210, Value.int 7 0, Value.int 1 0, Value.int 0 0, Value.int 0 0, Value.int 3 0, Value.ref 29, Value.bool Bool.true, Value.int 181 0, Value.ref 30, Value.none, Value.ref 31, Value.ref 32, Value.ref 33, Value.int 212 0, Value.int 7 0, Value.str (Str.ofString "/claim/cut.py") 213]) #[]
noncomputable def g71 (P : Params) : Obj := Obj.mk (Value.type "function") Option.none (Data.func (FuncData.mk (Str.ofString "index") (Str.ofString "operator.index") dA2x1 (FuncBody.stmts dB2x1) dS2x1 3 [] Value.none Value.none Value.none (Value.str (Str.ofString "amaranth._unused") 194) (Option.some 38) (Value.ref 34) Value.none 0)) #[]
noncomputable def g72 (P : Params) : Obj := Obj.mk (Value.type "dict") Option.none (Data.dict #[DictEntry.mk (PyData.keyHash P (Str.ofString "__module__")) (Value.str (Str.ofString "__module__") 215) (Value.str (Str.ofString "amaranth._unused") 194), DictEntry.mk (PyData.keyHash P (Str.ofString "__name__")) (Value.str (Str.ofString "__name__") 218) (Value.str (Str.ofString "index") 217), DictEntry.mk (PyData.keyHash P (Str.ofString "__qualname__")) (Value.str (Str.ofString "__qualname__") 221) (Value.str (Str.ofString "operator.index") 220), DictEntry.mk (PyData.keyHash P (Str.ofString "__doc__")) (Value.str (Str.ofString "__doc__") 223) Value.none, DictEntry.mk (PyData.keyHash P (Str.ofString "__annotations__")) (Value.str (Str.ofString "__annotations__") 225) (Value.ref 38)] 5) #[]
noncomputable def g73 (P : Params) : Obj := Obj.mk (Value.type "staticmethod") (Option.some 36) (Data.fields #[Value.ref 35, Value.bool Bool.false]) #[]
noncomputable def g74 (P : Params) : Obj := Obj.mk (Value.type "dict") Option.none (Data.dict #[]) #[]
noncomputable def g75 (P : Params) : Obj := Obj.mk (Value.type "tuple") Option.none (Data.seq #[]) #[]
noncomputable def g76 (P : Params) : Obj := Obj.mk (Value.type "dict") Option.none (Data.dict #[DictEntry.mk (PyData.keyHash P (Str.ofString "__module__")) (Value.str (Str.ofString "__module__") 203) (Value.str (Str.ofString "amaranth._unused") 194), DictEntry.mk (PyData.keyHash P (Str.ofString "__firstlineno__")) (Value.str (Str.ofString "__firstlineno__") 207) (Value.int 5 206), DictEntry.mk (PyData.keyHash P (Str.ofString "index")) (Value.str (Str.ofString "index") 226) (Value.ref 37), DictEntry.mk (PyData.keyHash P (Str.ofString "__static_attributes__")) (Value.str (Str.ofString "__static_attributes__") 227) (Value.ref 39), DictEntry.mk (PyData.keyHash P (Str.ofString "__dict__")) (Value.str (Str.ofString "__dict__") 229) (Value.ref 42), DictEntry.mk (PyData.keyHash P (Str.ofString "__weakref__")) (Value.str (Str.ofString "__weakref__") 231) (Value.ref 43), DictEntry.mk (PyData.keyHash P (Str.ofString "__doc__")) (Value.str (Str.ofString "__doc__") 232) Value.none] 4) #[]
noncomputable def g77 (P : Params) : Obj := Obj.mk (Value.type "type") Option.none (Data.cls (ClassData.mk (Str.ofString "operator") [Value.type "object"] [Value.ref 41, Value.type "object"] 40 (Str.ofString "operator") Bool.true [] [] Bool.false Option.none Bool.false)) #[Option.none, Option.none, Option.some (Value.str (Str.ofString "operator") 196), Option.some (Value.str (Str.ofString "operator") 204), Option.some (Value.builtin "object.__new__"), Option.some (Value.bool Bool.true)]
noncomputable def g78 (P : Params) : Obj := Obj.mk (Value.type "getset_descriptor") Option.none (Data.fields #[Value.str (Str.ofString "__dict__") 228, Value.ref 41, Value.builtin "function.__dict__", Value.builtin "function.__dict__#set"]) #[]
noncomputable def g79 (P : Params) : Obj := Obj.mk (Value.type "getset_descriptor") Option.none (Data.fields #[Value.str (Str.ofString "__weakref__") 230, Value.ref 41, Value.builtin "ExceptionGroup.__weakref__", Value.none]) #[]
noncomputable def g80 (P : Params) : Obj := Obj.mk (Value.type "super") Option.none (Data.fields #[Value.ref 41, Value.ref 41, Value.ref 41]) #[]
noncomputable def g81 (P : Params) : Obj := Obj.mk (Value.type "builtin_function_or_method") Option.none (Data.fields #[Value.builtin "object.__init_subclass__", Value.ref 41]) #[]
noncomputable def g82 (P : Params) : Obj := Obj.mk (Value.type "dict") Option.none (Data.dict #[DictEntry.mk (PyData.keyHash P (Str.ofString "__name__")) (Value.str (Str.ofString "__name__") 165) (Value.str (Str.ofString "amaranth.lib.crc") 235), DictEntry.mk (PyData.keyHash P (Str.ofString "__doc__")) (Value.str (Str.ofString "__doc__") 166) Value.none, DictEntry.mk (PyData.keyHash P (Str.ofString "__package__")) (Value.str (Str.ofString "__package__") 167) Value.none, DictEntry.mk (PyData.keyHash P (Str.ofString "__loader__")) (Value.str (Str.ofString "__loader__") 168) (Value.builtin "__main__.__loader__#opaque"), DictEntry.mk (PyData.keyHash P (Str.ofString "__spec__")) (Value.str (Str.ofString "__spec__") 169) Value.none, DictEntry.mk (PyData.keyHash P (Str.ofString "__annotations__")) (Value.str (Str.ofString "__annotations__") 170) (Value.ref 6), DictEntry.mk (PyData.keyHash P (Str.ofString "__builtins__")) (Value.str (Str.ofString "__builtins__") 171) (Value.ref 4), DictEntry.mk (PyData.keyHash P (Str.ofString "__file__")) (Value.str (Str.ofString "__file__") 173) (Value.str (Str.ofString "/claim/cut.py") 172), DictEntry.mk (PyData.keyHash P (Str.ofString "__cached__")) (Value.str (Str.ofString "__cached__") 174) Value.none, DictEntry.mk (PyData.keyHash P (Str.ofString "_wall")) (Value.str (Str.ofString "_wall") 193) (Value.ref 21), DictEntry.mk (PyData.keyHash P (Str.ofString "operator")) (Value.str (Str.ofString "operator") 234) (Value.ref 41), DictEntry.mk (PyData.keyHash P (Str.ofString "Algorithm")) (Value.str (Str.ofString "Algorithm") 291) (Value.ref 77)] 12) #[]
noncomputable def g83 (P : Params) : Obj := Obj.mk Value.none Option.none (Data.fields #[Value.int 1 0, Value.int 0 0, Value.ref 20, Value.int 5 0, Value.int 0 0, Value.ref 27, Value.int 13 0, Value.int 0 0, Value.ref 51]) #[]
noncomputable def g84 (P : Params) : Obj := Obj.mk (Value.type "tuple") Option.none (Data.seq #[]) #[]
noncomputable def g85 (P : Params) : Obj := Obj.mk (Value.type "builtin_function_or_method") Option.none (Data.fields #[Value.builtin "type.__prepare__", Value.type "type"]) #[]
noncomputable def g86 (P : Params) : Obj := Obj.mk (Value.type "dict") Option.none (Data.dict #[DictEntry.mk (PyData.keyHash P (Str.ofString "__module__")) (Value.str (Str.ofString "__module__") 244) (Value.str (Str.ofString "amaranth.lib.crc") 235), DictEntry.mk (PyData.keyHash P (Str.ofString "__qualname__")) (Value.str (Str.ofString "__qualname__") 246) (Value.str (Str.ofString "Algorithm") 245), DictEntry.mk (PyData.keyHash P (Str.ofString "__firstlineno__")) (Value.str (Str.ofString "__firstlineno__") 248) (Value.int 13 247), DictEntry.mk (PyData.keyHash P (Str.ofString "__init__")) (Value.str (Str.ofString "__init__") 261) (Value.ref 59), DictEntry.mk (PyData.keyHash P (Str.ofString "__call__")) (Value.str (Str.ofString "__call__") 270) (Value.ref 67), DictEntry.mk (PyData.keyHash P (Str.ofString "__repr__")) (Value.str (Str.ofString "__repr__") 277) (Value.ref 74), DictEntry.mk (PyData.keyHash P (Str.ofString "__static_attributes__")) (Value.str (Str.ofString "__static_attributes__") 284) (Value.ref 75)] 7) #[]
noncomputable def g87 (P : Params) : Obj := Obj.mk (Value.type "tuple") Option.none (Data.seq #[]) #[]
noncomputable def g88 (P : Params) : Obj := Obj.mk Value.none Option.none (Data.fields #[Value.int 15 0, Value.int 4 0, Value.ref 58, Value.int 31 0, Value.int 4 0, Value.ref 66, Value.int 34 0, Value.int 4 0, Value.ref 73]) #[]
noncomputable def g89 (P : Params) : Obj := Obj.mk (Value.type "code") Option.none (Data.fields #[Value.str (Str.ofString "Algorithm") 239, Value.str (Str.ofString "Algorithm") 240, Value.str (Str.ofString "/claim/cut.py") 241, Value.int 13 0, Value.int 0 0, Value.int 0 0, Value.int 0 0, Value.int 0 0, Value.ref 49, Value.bool Bool.false, Value.int 181 0, Value.ref 50, Value.none, Value.none, Value.none, Value.none, Value.int 242 0, Value.int 13 0, Value.str (Str.ofString "/claim/cut.py") 243]) #[]
noncomputable def g90 (P : Params) : Obj := Obj.mk (Value.type "frame") Option.none Data.plain #[Option.some (Value.ref 51), Option.some (Value.ref 3), Option.some (Value.ref 48), Option.none, Option.some (Value.str (Str.ofString "amaranth.lib.crc") 235), Option.none, Option.some (Value.ref 0)]
noncomputable def g91 (P : Params) : Obj := Obj.mk (Value.type "tuple") Option.none (Data.seq #[]) #[]
noncomputable def g92 (P : Params) : Obj := Obj.mk Value.none Option.none (Data.fields #[]) #[]
noncomputable def g93 (P : Params) : Obj := Obj.mk (Value.type "tuple") Option.none (Data.seq #[Value.str (Str.ofString "self") 252, Value.str (Str.ofString "crc_width") 253, Value.str (Str.ofString "polynomial") 254, Value.str (Str.ofString "initial_crc") 255, Value.str (Str.ofString "reflect_input") 256, Value.str (Str.ofString "reflect_output") 257, Value.str (Str.ofString "xor_output") 258]) #[]
noncomputable def g94 (P : Params) : Obj := Obj.mk (Value.type "tuple") Option.none (Data.seq #[]) #[]
noncomputable def g95 (P : Params) : Obj := Obj.mk Value.none Option.none (Data.func (FuncData.mk (Str.ofString "__init__") (Str.ofString "Algorithm.__init__") dA4x1 (FuncBody.stmts dB4x1) dS4x1 0 [] Value.none Value.none Value.none Value.none Option.none Value.none Value.none 0)) #[]
noncomputable def g96 (P : Params) : Obj := Obj.mk (Value.type "code") Option.none (Data.fields #[Value.str (Str.ofString "__init__") 249, Value.str (Str.ofString "Algorithm.__init__") 250, Value.str (Str.ofString "/claim/cut.py") 251, Value.int 15 0, Value.int 1 0, Value.int 0 0, Value.int 6 0, Value.int 3 0, Value.ref 53, Value.bool Bool.true, Value.int 181 0, Value.ref 54, Value.none, Value.ref 55, Value.ref 56, Value.ref 57, Value.int 259 0, Value.int 15 0, Value.str (Str.ofString "/claim/cut.py") 260]) #[]
noncomputable def g97 (P : Params) : Obj := Obj.mk (Value.type "function") Option.none (Data.func (FuncData.mk (Str.ofString "__init__") (Str.ofString "Algorithm.__init__") dA4x1 (FuncBody.stmts dB4x1) dS4x1 3 [] Value.none Value.none Value.none (Value.str (Str.ofString "amaranth.lib.crc") 235) Option.none (Value.ref 58) Value.none 0)) #[]
noncomputable def g98 (P : Params) : Obj := Obj.mk (Value.type "tuple") Option.none (Data.seq #[Value.int 8 262]) #[]
noncomputable def g99 (P : Params) : Obj := Obj.mk (Value.type "tuple") Option.none (Data.seq #[]) #[]
noncomputable def g100 (P : Params) : Obj := Obj.mk Value.none Option.none (Data.fields #[]) #[]
noncomputable def g101 (P : Params) : Obj := Obj.mk (Value.type "tuple") Option.none (Data.seq #[Value.str (Str.ofString "self") 266, Value.str (Str.ofString "data_width") 267]) #[]
noncomputable def g102 (P : Params) : Obj := Obj.mk (Value.type "tuple") Option.none (Data.seq #[]) #[]
noncomputable def g103 (P : Params) : Obj := Obj.mk Value.none Option.none (Data.func (FuncData.mk (Str.ofString "__call__") (Str.ofString "Algorithm.__call__") dA4x2 (FuncBody.stmts dB4x2) dS4x2 0 [] Value.none Value.none Value.none Value.none Option.none Value.none Value.none 0)) #[]
noncomputable def g104 (P : Params) : Obj := Obj.mk (Value.type "code") Option.none (Data.fields #[Value.str (Str.ofString "__call__") 263, Value.str (Str.ofString "Algorithm.__call__") 264, Value.str (Str.ofString "/claim/cut.py") 265, Value.int 31 0, Value.int 2 0, Value.int 0 0, Value.int 0 0, Value.int 3 0, Value.ref 61, Value.bool Bool.true, Value.int 181 0, Value.ref 62, Value.none, Value.ref 63, Value.ref 64, Value.ref 65, Value.int 268 0, Value.int 31 0, Value.str (Str.ofString "/claim/cut.py") 269]) #[]
noncomputable def g105 (P : Params) : Obj := Obj.mk (Value.type "function") Option.none (Data.func (FuncData.mk (Str.ofString "__call__") (Str.ofString "Algorithm.__call__") dA4x2 (FuncBody.stmts dB4x2) dS4x2 3 [] (Value.ref 60) Value.none Value.none (Value.str (Str.ofString "amaranth.lib.crc") 235) Option.none (Value.ref 66) Value.none 0)) #[]
noncomputable def g106 (P : Params) : Obj := Obj.mk (Value.type "tuple") Option.none (Data.seq #[]) #[]
noncomputable def g107 (P : Params) : Obj := Obj.mk Value.none Option.none (Data.fields #[]) #[]
noncomputable def g108 (P : Params) : Obj := Obj.mk (Value.type "tuple") Option.none (Data.seq #[Value.str (Str.ofString "self") 274]) #[]
noncomputable def g109 (P : Params) : Obj := Obj.mk (Value.type "tuple") Option.none (Data.seq #[]) #[]
noncomputable def g110 (P : Params) : Obj := Obj.mk Value.none Option.none (Data.func (FuncData.mk (Str.ofString "__repr__") (Str.ofString "Algorithm.__repr__") dA4x3 (FuncBody.stmts dB4x3) dS4x3 0 [] Value.none Value.none Value.none Value.none Option.none Value.none Value.none 0)) #[]
noncomputable def g111 (P : Params) : Obj := Obj.mk (Value.type "code") Option.none (Data.fields #[Value.str (Str.ofString "__repr__") 271, Value.str (Str.ofString "Algorithm.__repr__") 272, Value.str (Str.ofString "/claim/cut.py") 273, Value.int 34 0, Value.int 1 0, Value.int 0 0, Value.int 0 0, Value.int 3 0, Value.ref 68, Value.bool Bool.true, Value.int 181 0, Value.ref 69, Value.none, Value.ref 70, Value.ref 71, Value.ref 72, Value.int 275 0, Value.int 34 0, Value.str (Str.ofString "/claim/cut.py") 276]) #[]
noncomputable def g112 (P : Params) : Obj := Obj.mk (Value.type "function") Option.none (Data.func (FuncData.mk (Str.ofString "__repr__") (Str.ofString "Algorithm.__repr__") dA4x3 (FuncBody.stmts dB4x3) dS4x3 3 [] Value.none Value.none Value.none (Value.str (Str.ofString "amaranth.lib.crc") 235) Option.none (Value.ref 73) Value.none 0)) #[]
noncomputable def g113 (P : Params) : Obj := Obj.mk (Value.type "tuple") Option.none (Data.seq #[Value.str (Str.ofString "crc_width") 278, Value.str (Str.ofString "initial_crc") 279, Value.str (Str.ofString "polynomial") 280, Value.str (Str.ofString "reflect_input") 281, Value.str (Str.ofString "reflect_output") 282, Value.str (Str.ofString "xor_output") 283]) #[]
noncomputable def g114 (P : Params) : Obj := Obj.mk (Value.type "dict") Option.none (Data.dict #[DictEntry.mk (PyData.keyHash P (Str.ofString "__module__")) (Value.str (Str.ofString "__module__") 244) (Value.str (Str.ofString "amaranth.lib.crc") 235), DictEntry.mk (PyData.keyHash P (Str.ofString "__firstlineno__")) (Value.str (Str.ofString "__firstlineno__") 248) (Value.int 13 247), DictEntry.mk (PyData.keyHash P (Str.ofString "__init__")) (Value.str (Str.ofString "__init__") 261) (Value.ref 59), DictEntry.mk (PyData.keyHash P (Str.ofString "__call__")) (Value.str (Str.ofString "__call__") 270) (Value.ref 67), DictEntry.mk (PyData.keyHash P (Str.ofString "__repr__")) (Value.str (Str.ofString "__repr__") 277) (Value.ref 74), DictEntry.mk (PyData.keyHash P (Str.ofString "__static_attributes__")) (Value.str (Str.ofString "__static_attributes__") 284) (Value.ref 75), DictEntry.mk (PyData.keyHash P (Str.ofString "__dict__")) (Value.str (Str.ofString "__dict__") 286) (Value.ref 78), DictEntry.mk (PyData.keyHash P (Str.ofString "__weakref__")) (Value.str (Str.ofString "__weakref__") 288) (Value.ref 79), DictEntry.mk (PyData.keyHash P (Str.ofString "__doc__")) (Value.str (Str.ofString "__doc__") 289) Value.none] 4) #[]
noncomputable def g115 (P : Params) : Obj := Obj.mk (Value.type "type") Option.none (Data.cls (ClassData.mk (Str.ofString "Algorithm") [Value.type "object"] [Value.ref 77, Value.type "object"] 76 (Str.ofString "Algorithm") Bool.true [] [] Bool.false Option.none Bool.false)) #[Option.none, Option.none, Option.some (Value.str (Str.ofString "Algorithm") 237), Option.some (Value.str (Str.ofString "Algorithm") 245), Option.some (Value.builtin "object.__new__"), Option.some (Value.bool Bool.true)]
noncomputable def g116 (P : Params) : Obj := Obj.mk (Value.type "getset_descriptor") Option.none (Data.fields #[Value.str (Str.ofString "__dict__") 285, Value.ref 77, Value.builtin "function.__dict__", Value.builtin "function.__dict__#set"]) #[]
noncomputable def g117 (P : Params) : Obj := Obj.mk (Value.type "getset_descriptor") Option.none (Data.fields #[Value.str (Str.ofString "__weakref__") 287, Value.ref 77, Value.builtin "ExceptionGroup.__weakref__", Value.none]) #[]
noncomputable def g118 (P : Params) : Obj := Obj.mk (Value.type "super") Option.none (Data.fields #[Value.ref 77, Value.ref 77, Value.ref 77]) #[]
noncomputable def g119 (P : Params) : Obj := Obj.mk (Value.type "builtin_function_or_method") Option.none (Data.fields #[Value.builtin "object.__init_subclass__", Value.ref 77]) #[]
noncomputable def g120 (P : Params) : Obj := Obj.mk (Value.type "dict") Option.none (Data.dict #[DictEntry.mk (PyData.keyHash P (Str.ofString "__name__")) (Value.str (Str.ofString "__name__") 165) (Value.str (Str.ofString "amaranth.lib.crc") 235), DictEntry.mk (PyData.keyHash P (Str.ofString "__doc__")) (Value.str (Str.ofString "__doc__") 166) Value.none, DictEntry.mk (PyData.keyHash P (Str.ofString "__package__")) (Value.str (Str.ofString "__package__") 167) Value.none, DictEntry.mk (PyData.keyHash P (Str.ofString "__loader__")) (Value.str (Str.ofString "__loader__") 168) (Value.builtin "__main__.__loader__#opaque"), DictEntry.mk (PyData.keyHash P (Str.ofString "__spec__")) (Value.str (Str.ofString "__spec__") 169) Value.none, DictEntry.mk (PyData.keyHash P (Str.ofString "__annotations__")) (Value.str (Str.ofString "__annotations__") 170) (Value.ref 6), DictEntry.mk (PyData.keyHash P (Str.ofString "__builtins__")) (Value.str (Str.ofString "__builtins__") 171) (Value.ref 4), DictEntry.mk (PyData.keyHash P (Str.ofString "__file__")) (Value.str (Str.ofString "__file__") 173) (Value.str (Str.ofString "/claim/cut.py") 172), DictEntry.mk (PyData.keyHash P (Str.ofString "__cached__")) (Value.str (Str.ofString "__cached__") 174) Value.none, DictEntry.mk (PyData.keyHash P (Str.ofString "_wall")) (Value.str (Str.ofString "_wall") 193) (Value.ref 21), DictEntry.mk (PyData.keyHash P (Str.ofString "operator")) (Value.str (Str.ofString "operator") 234) (Value.ref 41), DictEntry.mk (PyData.keyHash P (Str.ofString "Algorithm")) (Value.str (Str.ofString "Algorithm") 291) (Value.ref 77), DictEntry.mk (PyData.keyHash P (Str.ofString "Parameters")) (Value.str (Str.ofString "Parameters") 391) (Value.ref 143)] 13) #[]
noncomputable def g121 (P : Params) : Obj := Obj.mk Value.none Option.none (Data.fields #[Value.int 1 0, Value.int 0 0, Value.ref 20, Value.int 5 0, Value.int 0 0, Value.ref 27, Value.int 13 0, Value.int 0 0, Value.ref 51, Value.int 36 0, Value.int 0 0, Value.ref 87]) #[]
noncomputable def g122 (P : Params) : Obj := Obj.mk (Value.type "tuple") Option.none (Data.seq #[]) #[]
noncomputable def g123 (P : Params) : Obj := Obj.mk (Value.type "builtin_function_or_method") Option.none (Data.fields #[Value.builtin "type.__prepare__", Value.type "type"]) #[]
noncomputable def g124 (P : Params) : Obj := Obj.mk (Value.type "dict") Option.none (Data.dict #[DictEntry.mk (PyData.keyHash P (Str.ofString "__module__")) (Value.str (Str.ofString "__module__") 299) (Value.str (Str.ofString "amaranth.lib.crc") 235), DictEntry.mk (PyData.keyHash P (Str.ofString "__qualname__")) (Value.str (Str.ofString "__qualname__") 301) (Value.str (Str.ofString "Parameters") 300), DictEntry.mk (PyData.keyHash P (Str.ofString "__firstlineno__")) (Value.str (Str.ofString "__firstlineno__") 303) (Value.int 36 302), DictEntry.mk (PyData.keyHash P (Str.ofString "__init__")) (Value.str (Str.ofString "__init__") 313) (Value.ref 96), DictEntry.mk (PyData.keyHash P (Str.ofString "algorithm")) (Value.str (Str.ofString "algorithm") 321) (Value.ref 104), DictEntry.mk (PyData.keyHash P (Str.ofString "residue")) (Value.str (Str.ofString "residue") 328) (Value.ref 111), DictEntry.mk (PyData.keyHash P (Str.ofString "compute")) (Value.str (Str.ofString "compute") 343) (Value.ref 118), DictEntry.mk (PyData.keyHash P (Str.ofString "_reflect")) (Value.str (Str.ofString "_reflect") 363) (Value.ref 127), DictEntry.mk (PyData.keyHash P (Str.ofString "_matrices")) (Value.str (Str.ofString "_matrices") 369) (Value.ref 133), DictEntry.mk (PyData.keyHash P (Str.ofString "__repr__")) (Value.str (Str.ofString "__repr__") 376) (Value.ref 140), DictEntry.mk (PyData.keyHash P (Str.ofString "__static_attributes__")) (Value.str (Str.ofString "__static_attributes__") 384) (Value.ref 141)] 11) #[]
noncomputable def g125 (P : Params) : Obj := Obj.mk (Value.type "tuple") Option.none (Data.seq #[]) #[]
noncomputable def g126 (P : Params) : Obj := Obj.mk Value.none Option.none (Data.fields #[Value.int 38 0, Value.int 4 0, Value.ref 95, Value.int 50 0, Value.int 4 0, Value.ref 102, Value.int 53 0, Value.int 4 0, Value.ref 110, Value.int 56 0, Value.int 4 0, Value.ref 117, Value.int 81 0, Value.int 4 0, Value.ref 124, Value.int 84 0, Value.int 4 0, Value.ref 132, Value.int 101 0, Value.int 4 0, Value.ref 139]) #[]
noncomputable def g127 (P : Params) : Obj := Obj.mk (Value.type "code") Option.none (Data.fields #[Value.str (Str.ofString "Parameters") 294, Value.str (Str.ofString "Parameters") 295, Value.str (Str.ofString "/claim/cut.py") 296, Value.int 36 0, Value.int 0 0, Value.int 0 0, Value.int 0 0, Value.int 0 0, Value.ref 85, Value.bool Bool.false, Value.int 181 0, Value.ref 86, Value.none, Value.none, Value.none, Value.none, Value.int 297 0, Value.int 36 0, Value.str (Str.ofString "/claim/cut.py") 298]) #[]
noncomputable def g128 (P : Params) : Obj := Obj.mk (Value.type "frame") Option.none Data.plain #[Option.some (Value.ref 87), Option.some (Value.ref 3), Option.some (Value.ref 84), Option.none, Option.some (Value.str (Str.ofString "amaranth.lib.crc") 235), Option.none, Option.some (Value.ref 0)]
noncomputable def g129 (P : Params) : Obj := Obj.mk (Value.type "tuple") Option.none (Data.seq #[Value.int 8 304]) #[]
noncomputable def g130 (P : Params) : Obj := Obj.mk (Value.type "tuple") Option.none (Data.seq #[]) #[]
noncomputable def g131 (P : Params) : Obj := Obj.mk Value.none Option.none (Data.fields #[]) #[]
noncomputable def g132 (P : Params) : Obj := Obj.mk (Value.type "tuple") Option.none (Data.seq #[Value.str (Str.ofString "self") 308, Value.str (Str.ofString "algorithm") 309, Value.str (Str.ofString "data_width") 310]) #[]
noncomputable def g133 (P : Params) : Obj := Obj.mk (Value.type "tuple") Option.none (Data.seq #[]) #[]
noncomputable def g134 (P : Params) : Obj := Obj.mk Value.none Option.none (Data.func (FuncData.mk (Str.ofString "__init__") (Str.ofString "Parameters.__init__") dA5x1 (FuncBody.stmts dB5x1) dS5x1 0 [] Value.none Value.none Value.none Value.none Option.none Value.none Value.none 0)) #[]
noncomputable def g135 (P : Params) : Obj := Obj.mk (Value.type "code") Option.none (Data.fields #[Value.str (Str.ofString "__init__") 305, Value.str (Str.ofString "Parameters.__init__") 306, Value.str (Str.ofString "/claim/cut.py") 307, Value.int 38 0, Value.int 3 0, Value.int 0 0, Value.int 0 0, Value.int 3 0, Value.ref 90, Value.bool Bool.true, Value.int 181 0, Value.ref 91, Value.none, Value.ref 92, Value.ref 93, Value.ref 94, Value.int 311 0, Value.int 38 0, Value.str (Str.ofString "/claim/cut.py") 312]) #[]
noncomputable def g136 (P : Params) : Obj := Obj.mk (Value.type "function") Option.none (Data.func (FuncData.mk (Str.ofString "__init__") (Str.ofString "Parameters.__init__") dA5x1 (FuncBody.stmts dB5x1) dS5x1 3 [] (Value.ref 89) Value.none Value.none (Value.str (Str.ofString "amaranth.lib.crc") 235) Option.none (Value.ref 95) Value.none 0)) #[]
noncomputable def g137 (P : Params) : Obj := Obj.mk (Value.type "tuple") Option.none (Data.seq #[]) #[]
noncomputable def g138 (P : Params) : Obj := Obj.mk Value.none Option.none (Data.fields #[]) #[]
noncomputable def g139 (P : Params) : Obj := Obj.mk (Value.type "tuple") Option.none (Data.seq #[Value.str (Str.ofString "self") 317]) #[]
noncomputable def g140 (P : Params) : Obj := Obj.mk (Value.type "tuple") Option.none (Data.seq #[]) #[]
noncomputable def g141 (P : Params) : Obj := Obj.mk Value.none Option.none (Data.func (FuncData.mk (Str.ofString "algorithm") (Str.ofString "Parameters.algorithm") dA5x2 (FuncBody.stmts dB5x2) dS5x2 0 [] Value.none Value.none Value.none Value.none Option.none Value.none Value.none 0)) #[]
noncomputable def g142 (P : Params) : Obj := Obj.mk (Value.type "code") Option.none (Data.fields #[Value.str (Str.ofString "algorithm") 314, Value.str (Str.ofString "Parameters.algorithm") 315, Value.str (Str.ofString "/claim/cut.py") 316, Value.int 49 0, Value.int 1 0, Value.int 0 0, Value.int 0 0, Value.int 3 0, Value.ref 97, Value.bool Bool.true, Value.int 181 0, Value.ref 98, Value.none, Value.ref 99, Value.ref 100, Value.ref 101, Value.int 318 0, Value.int 49 0, Value.str (Str.ofString "/claim/cut.py") 319]) #[]
noncomputable def g143 (P : Params) : Obj := Obj.mk (Value.type "function") Option.none (Data.func (FuncData.mk (Str.ofString "algorithm") (Str.ofString "Parameters.algorithm") dA5x2 (FuncBody.stmts dB5x2) dS5x2 3 [] Value.none Value.none Value.none (Value.str (Str.ofString "amaranth.lib.crc") 235) Option.none (Value.ref 102) Value.none 0)) #[]
noncomputable def g144 (P : Params) : Obj := Obj.mk (Value.type "property") Option.none (Data.fields #[Value.ref 103, Value.none, Value.none, Value.none, Value.str (Str.ofString "algorithm") 321, Value.bool Bool.false]) #[]
noncomputable def g145 (P : Params) : Obj := Obj.mk (Value.type "tuple") Option.none (Data.seq #[]) #[]
noncomputable def g146 (P : Params) : Obj := Obj.mk Value.none Option.none (Data.fields #[]) #[]
noncomputable def g147 (P : Params) : Obj := Obj.mk (Value.type "tuple") Option.none (Data.seq #[Value.str (Str.ofString "self") 325]) #[]
noncomputable def g148 (P : Params) : Obj := Obj.mk (Value.type "tuple") Option.none (Data.seq #[]) #[]
noncomputable def g149 (P : Params) : Obj := Obj.mk Value.none Option.none (Data.func (FuncData.mk (Str.ofString "residue") (Str.ofString "Parameters.residue") dA5x3 (FuncBody.stmts dB5x3) dS5x3 0 [] Value.none Value.none Value.none Value.none Option.none Value.none Value.none 0)) #[]
noncomputable def g150 (P : Params) : Obj := Obj.mk (Value.type "code") Option.none (Data.fields #[Value.str (Str.ofString "residue") 322, Value.str (Str.ofString "Parameters.residue") 323, Value.str (Str.ofString "/claim/cut.py") 324, Value.int 53 0, Value.int 1 0, Value.int 0 0, Value.int 0 0, Value.int 3 0, Value.ref 105, Value.bool Bool.true, Value.int 181 0, Value.ref 106, Value.none, Value.ref 107, Value.ref 108, Value.ref 109, Value.int 326 0, Value.int 53 0, Value.str (Str.ofString "/claim/cut.py") 327]) #[]
noncomputable def g151 (P : Params) : Obj := Obj.mk (Value.type "function") Option.none (Data.func (FuncData.mk (Str.ofString "residue") (Str.ofString "Parameters.residue") dA5x3 (FuncBody.stmts dB5x3) dS5x3 3 [] Value.none Value.none Value.none (Value.str (Str.ofString "amaranth.lib.crc") 235) Option.none (Value.ref 110) Value.none 0)) #[]
noncomputable def g152 (P : Params) : Obj := Obj.mk (Value.type "tuple") Option.none (Data.seq #[]) #[]
noncomputable def g153 (P : Params) : Obj := Obj.mk Value.none Option.none (Data.fields #[]) #[]
noncomputable def g154 (P : Params) : Obj := Obj.mk (Value.type "tuple") Option.none (Data.seq #[Value.str (Str.ofString "self") 332, Value.str (Str.ofString "data") 333, Value.str (Str.ofString "word_max") 334, Value.str (Str.ofString "top_bit") 335, Value.str (Str.ofString "crc_mask") 336, Value.str (Str.ofString "poly_shifted") 337, Value.str (Str.ofString "crc") 338, Value.str (Str.ofString "word") 339, Value.str (Str.ofString "_") 340]) #[]
noncomputable def g155 (P : Params) : Obj := Obj.mk (Value.type "tuple") Option.none (Data.seq #[]) #[]
noncomputable def g156 (P : Params) : Obj := Obj.mk Value.none Option.none (Data.func (FuncData.mk (Str.ofString "compute") (Str.ofString "Parameters.compute") dA5x4 (FuncBody.stmts dB5x4) dS5x4 0 [] Value.none Value.none Value.none Value.none Option.none Value.none Value.none 0)) #[]
noncomputable def g157 (P : Params) : Obj := Obj.mk (Value.type "code") Option.none (Data.fields #[Value.str (Str.ofString "compute") 329, Value.str (Str.ofString "Parameters.compute") 330, Value.str (Str.ofString "/claim/cut.py") 331, Value.int 56 0, Value.int 2 0, Value.int 0 0, Value.int 0 0, Value.int 3 0, Value.ref 112, Value.bool Bool.true, Value.int 181 0, Value.ref 113, Value.none, Value.ref 114, Value.ref 115, Value.ref 116, Value.int 341 0, Value.int 56 0, Value.str (Str.ofString "/claim/cut.py") 342]) #[]
noncomputable def g158 (P : Params) : Obj := Obj.mk (Value.type "function") Option.none (Data.func (FuncData.mk (Str.ofString "compute") (Str.ofString "Parameters.compute") dA5x4 (FuncBody.stmts dB5x4) dS5x4 3 [] Value.none Value.none Value.none (Value.str (Str.ofString "amaranth.lib.crc") 235) Option.none (Value.ref 117) Value.none 0)) #[]
noncomputable def g159 (P : Params) : Obj := Obj.mk (Value.type "tuple") Option.none (Data.seq #[]) #[]
noncomputable def g160 (P : Params) : Obj := Obj.mk Value.none Option.none (Data.fields #[]) #[]
noncomputable def g161 (P : Params) : Obj := Obj.mk (Value.type "tuple") Option.none (Data.seq #[Value.str (Str.ofString "word") 347, Value.str (Str.ofString "n") 348]) #[]
noncomputable def g162 (P : Params) : Obj := Obj.mk (Value.type "tuple") Option.none (Data.seq #[]) #[]
noncomputable def g163 (P : Params) : Obj := Obj.mk Value.none Option.none (Data.func (FuncData.mk (Str.ofString "_reflect") (Str.ofString "Parameters._reflect") dA5x5 (FuncBody.stmts dB5x5) dS5x5 0 [] Value.none Value.none Value.none Value.none Option.none Value.none Value.none 0)) #[]
noncomputable def g164 (P : Params) : Obj := Obj.mk (Value.type "code") Option.none (Data.fields #[Value.str (Str.ofString "_reflect") 344, Value.str (Str.ofString "Parameters._reflect") 345, Value.str (Str.ofString "/claim/cut.py") 346, Value.int 80 0, Value.int 2 0, Value.int 0 0, Value.int 0 0, Value.int 3 0, Value.ref 119, Value.bool Bool.true, Value.int 181 0, Value.ref 120, Value.none, Value.ref 121, Value.ref 122, Value.ref 123, Value.int 349 0, Value.int 80 0, Value.str (Str.ofString "/claim/cut.py") 350]) #[]
noncomputable def g165 (P : Params) : Obj := Obj.mk (Value.type "function") Option.none (Data.func (FuncData.mk (Str.ofString "_reflect") (Str.ofString "Parameters._reflect") dA5x5 (FuncBody.stmts dB5x5) dS5x5 3 [] Value.none Value.none Value.none (Value.str (Str.ofString "amaranth.lib.crc") 235) (Option.some 128) (Value.ref 124) Value.none 0)) #[]
noncomputable def g166 (P : Params) : Obj := Obj.mk (Value.type "dict") Option.none (Data.dict #[DictEntry.mk (PyData.keyHash P (Str.ofString "__module__")) (Value.str (Str.ofString "__module__") 352) (Value.str (Str.ofString "amaranth.lib.crc") 235), DictEntry.mk (PyData.keyHash P (Str.ofString "__name__")) (Value.str (Str.ofString "__name__") 355) (Value.str (Str.ofString "_reflect") 354), DictEntry.mk (PyData.keyHash P (Str.ofString "__qualname__")) (Value.str (Str.ofString "__qualname__") 358) (Value.str (Str.ofString "Parameters._reflect") 357), DictEntry.mk (PyData.keyHash P (Str.ofString "__doc__")) (Value.str (Str.ofString "__doc__") 360) Value.none, DictEntry.mk (PyData.keyHash P (Str.ofString "__annotations__")) (Value.str (Str.ofString "__annotations__") 362) (Value.ref 128)] 5) #[]
noncomputable def g167 (P : Params) : Obj := Obj.mk (Value.type "staticmethod") (Option.some 126) (Data.fields #[Value.ref 125, Value.bool Bool.false]) #[]
noncomputable def g168 (P : Params) : Obj := Obj.mk (Value.type "dict") Option.none (Data.dict #[]) #[]
noncomputable def g169 (P : Params) : Obj := Obj.mk (Value.type "tuple") Option.none (Data.seq #[]) #[]
noncomputable def g170 (P : Params) : Obj := Obj.mk Value.none Option.none (Data.fields #[]) #[]
noncomputable def g171 (P : Params) : Obj := Obj.mk Value.none Option.none (Data.func (FuncData.mk (Str.ofString "_matrices") (Str.ofString "Parameters._matrices") dA5x6 (FuncBody.stmts dB5x6) dS5x6 0 [] Value.none Value.none Value.none Value.none Option.none Value.none Value.none 0)) #[]
noncomputable def g172 (P : Params) : Obj := Obj.mk (Value.type "code") Option.none (Data.fields #[Value.str (Str.ofString "_matrices") 364, Value.str (Str.ofString "Parameters._matrices") 365, Value.str (Str.ofString "/claim/cut.py") 366, Value.int 84 0, Value.int 1 0, Value.int 0 0, Value.int 0 0, Value.int 3 0, Value.ref 129, Value.bool Bool.true, Value.int 181 0, Value.ref 130, Value.none, Value.none, Value.none, Value.ref 131, Value.int 367 0, Value.int 84 0, Value.str (Str.ofString "/claim/cut.py") 368]) #[]
noncomputable def g173 (P : Params) : Obj := Obj.mk (Value.type "function") Option.none (Data.func (FuncData.mk (Str.ofString "_matrices") (Str.ofString "Parameters._matrices") dA5x6 (FuncBody.stmts dB5x6) dS5x6 3 [] Value.none Value.none Value.none (Value.str (Str.ofString "amaranth.lib.crc") 235) Option.none (Value.ref 132) Value.none 0)) #[]
noncomputable def g174 (P : Params) : Obj := Obj.mk (Value.type "tuple") Option.none (Data.seq #[]) #[]
noncomputable def g175 (P : Params) : Obj := Obj.mk Value.none Option.none (Data.fields #[]) #[]
noncomputable def g176 (P : Params) : Obj := Obj.mk (Value.type "tuple") Option.none (Data.seq #[Value.str (Str.ofString "self") 373]) #[]
noncomputable def g177 (P : Params) : Obj := Obj.mk (Value.type "tuple") Option.none (Data.seq #[]) #[]
noncomputable def g178 (P : Params) : Obj := Obj.mk Value.none Option.none (Data.func (FuncData.mk (Str.ofString "__repr__") (Str.ofString "Parameters.__repr__") dA5x7 (FuncBody.stmts dB5x7) dS4x3 0 [] Value.none Value.none Value.none Value.none Option.none Value.none Value.none 0)) #[]
noncomputable def g179 (P : Params) : Obj := Obj.mk (Value.type "code") Option.none (Data.fields #[Value.str (Str.ofString "__repr__") 370, Value.str (Str.ofString "Parameters.__repr__") 371, Value.str (Str.ofString "/claim/cut.py") 372, Value.int 101 0, Value.int 1 0, Value.int 0 0, Value.int 0 0, Value.int 3 0, Value.ref 134, Value.bool Bool.true, Value.int 181 0, Value.ref 135, Value.none, Value.ref 136, Value.ref 137, Value.ref 138, Value.int 374 0, Value.int 101 0, Value.str (Str.ofString "/claim/cut.py") 375]) #[]
noncomputable def g180 (P : Params) : Obj := Obj.mk (Value.type "function") Option.none (Data.func (FuncData.mk (Str.ofString "__repr__") (Str.ofString "Parameters.__repr__") dA5x7 (FuncBody.stmts dB5x7) dS4x3 3 [] Value.none Value.none Value.none (Value.str (Str.ofString "amaranth.lib.crc") 235) Option.none (Value.ref 139) Value.none 0)) #[]
noncomputable def g181 (P : Params) : Obj := Obj.mk (Value.type "tuple") Option.none (Data.seq #[Value.str (Str.ofString "_crc_width") 377, Value.str (Str.ofString "_initial_crc") 378, Value.str (Str.ofString "_polynomial") 379, Value.str (Str.ofString "_reflect_input") 380, Value.str (Str.ofString "_reflect_output") 381, Value.str (Str.ofString "_xor_output") 382, Value.str (Str.ofString "data_width") 383]) #[]
noncomputable def g182 (P : Params) : Obj := Obj.mk (Value.type "dict") Option.none (Data.dict #[DictEntry.mk (PyData.keyHash P (Str.ofString "__module__")) (Value.str (Str.ofString "__module__") 299) (Value.str (Str.ofString "amaranth.lib.crc") 235), DictEntry.mk (PyData.keyHash P (Str.ofString "__firstlineno__")) (Value.str (Str.ofString "__firstlineno__") 303) (Value.int 36 302), DictEntry.mk (PyData.keyHash P (Str.ofString "__init__")) (Value.str (Str.ofString "__init__") 313) (Value.ref 96), DictEntry.mk (PyData.keyHash P (Str.ofString "algorithm")) (Value.str (Str.ofString "algorithm") 321) (Value.ref 104), DictEntry.mk (PyData.keyHash P (Str.ofString "residue")) (Value.str (Str.ofString "residue") 328) (Value.ref 111), DictEntry.mk (PyData.keyHash P (Str.ofString "compute")) (Value.str (Str.ofString "compute") 343) (Value.ref 118), DictEntry.mk (PyData.keyHash P (Str.ofString "_reflect")) (Value.str (Str.ofString "_reflect") 363) (Value.ref 127), DictEntry.mk (PyData.keyHash P (Str.ofString "_matrices")) (Value.str (Str.ofString "_matrices") 369) (Value.ref 133), DictEntry.mk (PyData.keyHash P (Str.ofString "__repr__")) (Value.str (Str.ofString "__repr__") 376) (Value.ref 140), DictEntry.mk (PyData.keyHash P (Str.ofString "__static_attributes__")) (Value.str (Str.ofString "__static_attributes__") 384) (Value.ref 141), DictEntry.mk (PyData.keyHash P (Str.ofString "__dict__")) (Value.str (Str.ofString "__dict__") 386) (Value.ref 144), DictEntry.mk (PyData.keyHash P (Str.ofString "__weakref__")) (Value.str (Str.ofString "__weakref__") 388) (Value.ref 145), DictEntry.mk (PyData.keyHash P (Str.ofString "__doc__")) (Value.str (Str.ofString "__doc__") 389) Value.none] 4) #[]
noncomputable def g183 (P : Params) : Obj := Obj.mk (Value.type "type") Option.none (Data.cls (ClassData.mk (Str.ofString "Parameters") [Value.type "object"] [Value.ref 143, Value.type "object"] 142 (Str.ofString "Parameters") Bool.true [] [] Bool.false Option.none Bool.false)) #[Option.none, Option.none, Option.some (Value.str (Str.ofString "Parameters") 292), Option.some (Value.str (Str.ofString "Parameters") 300), Option.some (Value.builtin "object.__new__"), Option.some (Value.bool Bool.true)]
noncomputable def g184 (P : Params) : Obj := Obj.mk (Value.type "getset_descriptor") Option.none (Data.fields #[Value.str (Str.ofString "__dict__") 385, Value.ref 143, Value.builtin "function.__dict__", Value.builtin "function.__dict__#set"]) #[]
noncomputable def g185 (P : Params) : Obj := Obj.mk (Value.type "getset_descriptor") Option.none (Data.fields #[Value.str (Str.ofString "__weakref__") 387, Value.ref 143, Value.builtin "ExceptionGroup.__weakref__", Value.none]) #[]
noncomputable def g186 (P : Params) : Obj := Obj.mk (Value.type "super") Option.none (Data.fields #[Value.ref 143, Value.ref 143, Value.ref 143]) #[]
noncomputable def g187 (P : Params) : Obj := Obj.mk (Value.type "builtin_function_or_method") Option.none (Data.fields #[Value.builtin "object.__init_subclass__", Value.ref 143]) #[]
noncomputable def g239 (P : Params) : Obj := Obj.mk (Value.type "dict") Option.none (Data.dict #[DictEntry.mk (PyData.keyHash P (Str.ofString "__name__")) (Value.str (Str.ofString "__name__") 165) (Value.str (Str.ofString "law_ac0002_01") 392), DictEntry.mk (PyData.keyHash P (Str.ofString "__doc__")) (Value.str (Str.ofString "__doc__") 166) Value.none, DictEntry.mk (PyData.keyHash P (Str.ofString "__package__")) (Value.str (Str.ofString "__package__") 167) Value.none, DictEntry.mk (PyData.keyHash P (Str.ofString "__loader__")) (Value.str (Str.ofString "__loader__") 168) (Value.builtin "__main__.__loader__#opaque"), DictEntry.mk (PyData.keyHash P (Str.ofString "__spec__")) (Value.str (Str.ofString "__spec__") 169) Value.none, DictEntry.mk (PyData.keyHash P (Str.ofString "__annotations__")) (Value.str (Str.ofString "__annotations__") 170) (Value.ref 6), DictEntry.mk (PyData.keyHash P (Str.ofString "__builtins__")) (Value.str (Str.ofString "__builtins__") 171) (Value.ref 4), DictEntry.mk (PyData.keyHash P (Str.ofString "__file__")) (Value.str (Str.ofString "__file__") 173) (Value.str (Str.ofString "/claim/cut.py") 172), DictEntry.mk (PyData.keyHash P (Str.ofString "__cached__")) (Value.str (Str.ofString "__cached__") 174) Value.none, DictEntry.mk (PyData.keyHash P (Str.ofString "_wall")) (Value.str (Str.ofString "_wall") 193) (Value.ref 21), DictEntry.mk (PyData.keyHash P (Str.ofString "operator")) (Value.str (Str.ofString "operator") 234) (Value.ref 41), DictEntry.mk (PyData.keyHash P (Str.ofString "Algorithm")) (Value.str (Str.ofString "Algorithm") 291) (Value.ref 77), DictEntry.mk (PyData.keyHash P (Str.ofString "Parameters")) (Value.str (Str.ofString "Parameters") 391) (Value.ref 143), DictEntry.mk (PyData.keyHash P (Str.ofString "_law_draw")) (Value.str (Str.ofString "_law_draw") 401) (Value.ref 154), DictEntry.mk (PyData.keyHash P (Str.ofString "_law_step")) (Value.str (Str.ofString "_law_step") 412) (Value.ref 161), DictEntry.mk (PyData.keyHash P (Str.ofString "_law_word")) (Value.str (Str.ofString "_law_word") 424) (Value.ref 168), DictEntry.mk (PyData.keyHash P (Str.ofString "_law_bits")) (Value.str (Str.ofString "_law_bits") 430) (Value.ref 173), DictEntry.mk (PyData.keyHash P (Str.ofString "_law_number")) (Value.str (Str.ofString "_law_number") 436) (Value.ref 178), DictEntry.mk (PyData.keyHash P (Str.ofString "_law_turned")) (Value.str (Str.ofString "_law_turned") 442) (Value.ref 183), DictEntry.mk (PyData.keyHash P (Str.ofString "_law_times")) (Value.str (Str.ofString "_law_times") 452) (Value.ref 190), DictEntry.mk (PyData.keyHash P (Str.ofString "_law_told")) (Value.str (Str.ofString "_law_told") 460) (Value.ref 197), DictEntry.mk (PyData.keyHash P (Str.ofString "law")) (Value.str (Str.ofString "law") 466) (Value.ref 202)] 22) #[]
noncomputable def g240 (P : Params) : Obj := Obj.mk Value.none Option.none (Data.fields #[Value.int 1 0, Value.int 0 0, Value.ref 20, Value.int 5 0, Value.int 0 0, Value.ref 27, Value.int 13 0, Value.int 0 0, Value.ref 51, Value.int 36 0, Value.int 0 0, Value.ref 87, Value.int 104 0, Value.int 0 0, Value.ref 153, Value.int 109 0, Value.int 0 0, Value.ref 160, Value.int 113 0, Value.int 0 0, Value.ref 167, Value.int 117 0, Value.int 0 0, Value.ref 172, Value.int 119 0, Value.int 0 0, Value.ref 177, Value.int 121 0, Value.int 0 0, Value.ref 182, Value.int 123 0, Value.int 0 0, Value.ref 189, Value.int 129 0, Value.int 0 0, Value.ref 196, Value.int 132 0, Value.int 0 0, Value.ref 201]) #[]
noncomputable def g241 (P : Params) : Obj := Obj.mk (Value.type "tuple") Option.none (Data.seq #[]) #[]
noncomputable def g242 (P : Params) : Obj := Obj.mk Value.none Option.none (Data.fields #[]) #[]
noncomputable def g243 (P : Params) : Obj := Obj.mk (Value.type "tuple") Option.none (Data.seq #[Value.str (Str.ofString "box") 397, Value.str (Str.ofString "many") 398]) #[]
noncomputable def g244 (P : Params) : Obj := Obj.mk (Value.type "tuple") Option.none (Data.seq #[]) #[]
noncomputable def g245 (P : Params) : Obj := Obj.mk Value.none Option.none (Data.func (FuncData.mk (Str.ofString "_law_draw") (Str.ofString "_law_draw") dA7x0 (FuncBody.stmts dB7x0) dS7x0 0 [] Value.none Value.none Value.none Value.none Option.none Value.none Value.none 0)) #[]
noncomputable def g246 (P : Params) : Obj := Obj.mk (Value.type "code") Option.none (Data.fields #[Value.str (Str.ofString "_law_draw") 394, Value.str (Str.ofString "_law_draw") 395, Value.str (Str.ofString "/claim/cut.py") 396, Value.int 104 0, Value.int 2 0, Value.int 0 0, Value.int 0 0, Value.int 3 0, Value.ref 148, Value.bool Bool.true, Value.int 181 0, Value.ref 149, Value.none, Value.ref 150, Value.ref 151, Value.ref 152, Value.int 399 0, Value.int 104 0, Value.str (Str.ofString "/claim/cut.py") 400]) #[]
noncomputable def g247 (P : Params) : Obj := Obj.mk (Value.type "function") Option.none (Data.func (FuncData.mk (Str.ofString "_law_draw") (Str.ofString "_law_draw") dA7x0 (FuncBody.stmts dB7x0) dS7x0 3 [] Value.none Value.none Value.none (Value.str (Str.ofString "law_ac0002_01") 392) Option.none (Value.ref 153) Value.none 0)) #[]
noncomputable def g248 (P : Params) : Obj := Obj.mk (Value.type "tuple") Option.none (Data.seq #[]) #[]
noncomputable def g249 (P : Params) : Obj := Obj.mk Value.none Option.none (Data.fields #[]) #[]
noncomputable def g250 (P : Params) : Obj := Obj.mk (Value.type "tuple") Option.none (Data.seq #[Value.str (Str.ofString "state") 405, Value.str (Str.ofString "bit") 406, Value.str (Str.ofString "width") 407, Value.str (Str.ofString "poly") 408, Value.str (Str.ofString "top") 409]) #[]
noncomputable def g251 (P : Params) : Obj := Obj.mk (Value.type "tuple") Option.none (Data.seq #[]) #[]
noncomputable def g252 (P : Params) : Obj := Obj.mk Value.none Option.none (Data.func (FuncData.mk (Str.ofString "_law_step") (Str.ofString "_law_step") dA8x0 (FuncBody.stmts dB8x0) dS8x0 0 [] Value.none Value.none Value.none Value.none Option.none Value.none Value.none 0)) #[]
noncomputable def g253 (P : Params) : Obj := Obj.mk (Value.type "code") Option.none (Data.fields #[Value.str (Str.ofString "_law_step") 402, Value.str (Str.ofString "_law_step") 403, Value.str (Str.ofString "/claim/cut.py") 404, Value.int 109 0, Value.int 4 0, Value.int 0 0, Value.int 0 0, Value.int 3 0, Value.ref 155, Value.bool Bool.true, Value.int 181 0, Value.ref 156, Value.none, Value.ref 157, Value.ref 158, Value.ref 159, Value.int 410 0, Value.int 109 0, Value.str (Str.ofString "/claim/cut.py") 411]) #[]
noncomputable def g254 (P : Params) : Obj := Obj.mk (Value.type "function") Option.none (Data.func (FuncData.mk (Str.ofString "_law_step") (Str.ofString "_law_step") dA8x0 (FuncBody.stmts dB8x0) dS8x0 3 [] Value.none Value.none Value.none (Value.str (Str.ofString "law_ac0002_01") 392) Option.none (Value.ref 160) Value.none 0)) #[]
noncomputable def g255 (P : Params) : Obj := Obj.mk (Value.type "tuple") Option.none (Data.seq #[]) #[]
noncomputable def g256 (P : Params) : Obj := Obj.mk Value.none Option.none (Data.fields #[]) #[]
noncomputable def g257 (P : Params) : Obj := Obj.mk (Value.type "tuple") Option.none (Data.seq #[Value.str (Str.ofString "state") 416, Value.str (Str.ofString "word") 417, Value.str (Str.ofString "wide") 418, Value.str (Str.ofString "width") 419, Value.str (Str.ofString "poly") 420, Value.str (Str.ofString "place") 421]) #[]
noncomputable def g258 (P : Params) : Obj := Obj.mk (Value.type "tuple") Option.none (Data.seq #[]) #[]
noncomputable def g259 (P : Params) : Obj := Obj.mk Value.none Option.none (Data.func (FuncData.mk (Str.ofString "_law_word") (Str.ofString "_law_word") dA9x0 (FuncBody.stmts dB9x0) dS9x0 0 [] Value.none Value.none Value.none Value.none Option.none Value.none Value.none 0)) #[]
noncomputable def g260 (P : Params) : Obj := Obj.mk (Value.type "code") Option.none (Data.fields #[Value.str (Str.ofString "_law_word") 413, Value.str (Str.ofString "_law_word") 414, Value.str (Str.ofString "/claim/cut.py") 415, Value.int 113 0, Value.int 5 0, Value.int 0 0, Value.int 0 0, Value.int 3 0, Value.ref 162, Value.bool Bool.true, Value.int 181 0, Value.ref 163, Value.none, Value.ref 164, Value.ref 165, Value.ref 166, Value.int 422 0, Value.int 113 0, Value.str (Str.ofString "/claim/cut.py") 423]) #[]
noncomputable def g261 (P : Params) : Obj := Obj.mk (Value.type "function") Option.none (Data.func (FuncData.mk (Str.ofString "_law_word") (Str.ofString "_law_word") dA9x0 (FuncBody.stmts dB9x0) dS9x0 3 [] Value.none Value.none Value.none (Value.str (Str.ofString "law_ac0002_01") 392) Option.none (Value.ref 167) Value.none 0)) #[]
noncomputable def g262 (P : Params) : Obj := Obj.mk (Value.type "tuple") Option.none (Data.seq #[]) #[]
noncomputable def g263 (P : Params) : Obj := Obj.mk Value.none Option.none (Data.fields #[]) #[]
noncomputable def g264 (P : Params) : Obj := Obj.mk Value.none Option.none (Data.func (FuncData.mk (Str.ofString "_law_bits") (Str.ofString "_law_bits") dA10x0 (FuncBody.stmts dB10x0) dS10x0 0 [] Value.none Value.none Value.none Value.none Option.none Value.none Value.none 0)) #[]
noncomputable def g265 (P : Params) : Obj := Obj.mk (Value.type "code") Option.none (Data.fields #[Value.str (Str.ofString "_law_bits") 425, Value.str (Str.ofString "_law_bits") 426, Value.str (Str.ofString "/claim/cut.py") 427, Value.int 117 0, Value.int 2 0, Value.int 0 0, Value.int 0 0, Value.int 3 0, Value.ref 169, Value.bool Bool.true, Value.int 181 0, Value.ref 170, Value.none, Value.none, Value.none, Value.ref 171, Value.int 428 0, Value.int 117 0, Value.str (Str.ofString "/claim/cut.py") 429]) #[]
noncomputable def g266 (P : Params) : Obj := Obj.mk (Value.type "function") Option.none (Data.func (FuncData.mk (Str.ofString "_law_bits") (Str.ofString "_law_bits") dA10x0 (FuncBody.stmts dB10x0) dS10x0 3 [] Value.none Value.none Value.none (Value.str (Str.ofString "law_ac0002_01") 392) Option.none (Value.ref 172) Value.none 0)) #[]
noncomputable def g267 (P : Params) : Obj := Obj.mk (Value.type "tuple") Option.none (Data.seq #[]) #[]
noncomputable def g268 (P : Params) : Obj := Obj.mk Value.none Option.none (Data.fields #[]) #[]
noncomputable def g269 (P : Params) : Obj := Obj.mk Value.none Option.none (Data.func (FuncData.mk (Str.ofString "_law_number") (Str.ofString "_law_number") dA11x0 (FuncBody.stmts dB11x0) dS11x0 0 [] Value.none Value.none Value.none Value.none Option.none Value.none Value.none 0)) #[]
noncomputable def g270 (P : Params) : Obj := Obj.mk (Value.type "code") Option.none (Data.fields #[Value.str (Str.ofString "_law_number") 431, Value.str (Str.ofString "_law_number") 432, Value.str (Str.ofString "/claim/cut.py") 433, Value.int 119 0, Value.int 1 0, Value.int 0 0, Value.int 0 0, Value.int 3 0, Value.ref 174, Value.bool Bool.true, Value.int 181 0, Value.ref 175, Value.none, Value.none, Value.none, Value.ref 176, Value.int 434 0, Value.int 119 0, Value.str (Str.ofString "/claim/cut.py") 435]) #[]
noncomputable def g271 (P : Params) : Obj := Obj.mk (Value.type "function") Option.none (Data.func (FuncData.mk (Str.ofString "_law_number") (Str.ofString "_law_number") dA11x0 (FuncBody.stmts dB11x0) dS11x0 3 [] Value.none Value.none Value.none (Value.str (Str.ofString "law_ac0002_01") 392) Option.none (Value.ref 177) Value.none 0)) #[]
noncomputable def g272 (P : Params) : Obj := Obj.mk (Value.type "tuple") Option.none (Data.seq #[]) #[]
noncomputable def g273 (P : Params) : Obj := Obj.mk Value.none Option.none (Data.fields #[]) #[]
noncomputable def g274 (P : Params) : Obj := Obj.mk Value.none Option.none (Data.func (FuncData.mk (Str.ofString "_law_turned") (Str.ofString "_law_turned") dA12x0 (FuncBody.stmts dB12x0) dS12x0 0 [] Value.none Value.none Value.none Value.none Option.none Value.none Value.none 0)) #[]
noncomputable def g275 (P : Params) : Obj := Obj.mk (Value.type "code") Option.none (Data.fields #[Value.str (Str.ofString "_law_turned") 437, Value.str (Str.ofString "_law_turned") 438, Value.str (Str.ofString "/claim/cut.py") 439, Value.int 121 0, Value.int 2 0, Value.int 0 0, Value.int 0 0, Value.int 3 0, Value.ref 179, Value.bool Bool.true, Value.int 181 0, Value.ref 180, Value.none, Value.none, Value.none, Value.ref 181, Value.int 440 0, Value.int 121 0, Value.str (Str.ofString "/claim/cut.py") 441]) #[]
noncomputable def g276 (P : Params) : Obj := Obj.mk (Value.type "function") Option.none (Data.func (FuncData.mk (Str.ofString "_law_turned") (Str.ofString "_law_turned") dA12x0 (FuncBody.stmts dB12x0) dS12x0 3 [] Value.none Value.none Value.none (Value.str (Str.ofString "law_ac0002_01") 392) Option.none (Value.ref 182) Value.none 0)) #[]
noncomputable def g277 (P : Params) : Obj := Obj.mk (Value.type "tuple") Option.none (Data.seq #[]) #[]
noncomputable def g278 (P : Params) : Obj := Obj.mk Value.none Option.none (Data.fields #[]) #[]
noncomputable def g279 (P : Params) : Obj := Obj.mk (Value.type "tuple") Option.none (Data.seq #[Value.str (Str.ofString "rows") 446, Value.str (Str.ofString "number") 447, Value.str (Str.ofString "res") 448, Value.str (Str.ofString "i") 449]) #[]
noncomputable def g280 (P : Params) : Obj := Obj.mk (Value.type "tuple") Option.none (Data.seq #[]) #[]
noncomputable def g281 (P : Params) : Obj := Obj.mk Value.none Option.none (Data.func (FuncData.mk (Str.ofString "_law_times") (Str.ofString "_law_times") dA13x0 (FuncBody.stmts dB13x0) dS13x0 0 [] Value.none Value.none Value.none Value.none Option.none Value.none Value.none 0)) #[]
noncomputable def g282 (P : Params) : Obj := Obj.mk (Value.type "code") Option.none (Data.fields #[Value.str (Str.ofString "_law_times") 443, Value.str (Str.ofString "_law_times") 444, Value.str (Str.ofString "/claim/cut.py") 445, Value.int 123 0, Value.int 2 0, Value.int 0 0, Value.int 0 0, Value.int 3 0, Value.ref 184, Value.bool Bool.true, Value.int 181 0, Value.ref 185, Value.none, Value.ref 186, Value.ref 187, Value.ref 188, Value.int 450 0, Value.int 123 0, Value.str (Str.ofString "/claim/cut.py") 451]) #[]
noncomputable def g283 (P : Params) : Obj := Obj.mk (Value.type "function") Option.none (Data.func (FuncData.mk (Str.ofString "_law_times") (Str.ofString "_law_times") dA13x0 (FuncBody.stmts dB13x0) dS13x0 3 [] Value.none Value.none Value.none (Value.str (Str.ofString "law_ac0002_01") 392) Option.none (Value.ref 189) Value.none 0)) #[]
noncomputable def g284 (P : Params) : Obj := Obj.mk (Value.type "tuple") Option.none (Data.seq #[]) #[]
noncomputable def g285 (P : Params) : Obj := Obj.mk Value.none Option.none (Data.fields #[]) #[]
noncomputable def g286 (P : Params) : Obj := Obj.mk (Value.type "tuple") Option.none (Data.seq #[Value.str (Str.ofString "made") 456, Value.str (Str.ofString "told") 457]) #[]
noncomputable def g287 (P : Params) : Obj := Obj.mk (Value.type "tuple") Option.none (Data.seq #[]) #[]
noncomputable def g288 (P : Params) : Obj := Obj.mk Value.none Option.none (Data.func (FuncData.mk (Str.ofString "_law_told") (Str.ofString "_law_told") dA14x0 (FuncBody.stmts dB14x0) dS14x0 0 [] Value.none Value.none Value.none Value.none Option.none Value.none Value.none 0)) #[]
noncomputable def g289 (P : Params) : Obj := Obj.mk (Value.type "code") Option.none (Data.fields #[Value.str (Str.ofString "_law_told") 453, Value.str (Str.ofString "_law_told") 454, Value.str (Str.ofString "/claim/cut.py") 455, Value.int 129 0, Value.int 1 0, Value.int 0 0, Value.int 0 0, Value.int 3 0, Value.ref 191, Value.bool Bool.true, Value.int 181 0, Value.ref 192, Value.none, Value.ref 193, Value.ref 194, Value.ref 195, Value.int 458 0, Value.int 129 0, Value.str (Str.ofString "/claim/cut.py") 459]) #[]
noncomputable def g290 (P : Params) : Obj := Obj.mk (Value.type "function") Option.none (Data.func (FuncData.mk (Str.ofString "_law_told") (Str.ofString "_law_told") dA14x0 (FuncBody.stmts dB14x0) dS14x0 3 [] Value.none Value.none Value.none (Value.str (Str.ofString "law_ac0002_01") 392) Option.none (Value.ref 196) Value.none 0)) #[]
noncomputable def g291 (P : Params) : Obj := Obj.mk (Value.type "tuple") Option.none (Data.seq #[]) #[]
noncomputable def g292 (P : Params) : Obj := Obj.mk Value.none Option.none (Data.fields #[]) #[]
noncomputable def g293 (P : Params) : Obj := Obj.mk Value.none Option.none (Data.func (FuncData.mk (Str.ofString "law") (Str.ofString "law") dA15x0 (FuncBody.stmts dB15x0) dS15x0 0 [] Value.none Value.none Value.none Value.none Option.none Value.none Value.none 0)) #[]
noncomputable def g294 (P : Params) : Obj := Obj.mk (Value.type "code") Option.none (Data.fields #[Value.str (Str.ofString "law") 461, Value.str (Str.ofString "law") 462, Value.str (Str.ofString "/claim/cut.py") 463, Value.int 132 0, Value.int 1 0, Value.int 0 0, Value.int 0 0, Value.int 3 0, Value.ref 198, Value.bool Bool.true, Value.int 181 0, Value.ref 199, Value.none, Value.none, Value.none, Value.ref 200, Value.int 464 0, Value.int 132 0, Value.str (Str.ofString "/claim/cut.py") 465]) #[]
noncomputable def g295 (P : Params) : Obj := Obj.mk (Value.type "function") Option.none (Data.func (FuncData.mk (Str.ofString "law") (Str.ofString "law") dA15x0 (FuncBody.stmts dB15x0) dS15x0 3 [] Value.none Value.none Value.none (Value.str (Str.ofString "law_ac0002_01") 392) Option.none (Value.ref 201) Value.none 0)) #[]
noncomputable def h15 (P : Params) : Heap := ⟨Array.mk (boot_o_0 P :: boot_o_1 P :: boot_o_2 P :: boot_o_3 P :: boot_o_4 P :: boot_o_5 P :: boot_o_6 P :: boot_o_7 P :: boot_o_8 P :: boot_o_9 P :: boot_o_10 P :: g43 P :: g44 P :: g45 P :: g46 P :: []), lifeT⟩
noncomputable def h46 (P : Params) : Heap := ⟨Array.mk (boot_o_0 P :: boot_o_1 P :: boot_o_2 P :: g49 P :: boot_o_4 P :: boot_o_5 P :: boot_o_6 P :: boot_o_7 P :: boot_o_8 P :: boot_o_9 P :: boot_o_10 P :: g43 P :: g50 P :: g45 P :: g46 P :: g51 P :: g52 P :: g53 P :: g54 P :: g55 P :: g56 P :: g57 P :: g58 P :: g59 P :: g60 P :: g61 P :: g62 P :: g63 P :: g64 P :: g65 P :: g66 P :: g67 P :: g68 P :: g69 P :: g70 P :: g71 P :: g72 P :: g73 P :: g74 P :: g75 P :: g76 P :: g77 P :: g78 P :: g79 P :: g80 P :: g81 P :: []), lifeT⟩
noncomputable def h82 (P : Params) : Heap := ⟨Array.mk (boot_o_0 P :: boot_o_1 P :: boot_o_2 P :: g82 P :: boot_o_4 P :: boot_o_5 P :: boot_o_6 P :: boot_o_7 P :: boot_o_8 P :: boot_o_9 P :: boot_o_10 P :: g43 P :: g83 P :: g45 P :: g46 P :: g51 P :: g52 P :: g53 P :: g54 P :: g55 P :: g56 P :: g57 P :: g58 P :: g59 P :: g60 P :: g61 P :: g62 P :: g63 P :: g64 P :: g65 P :: g66 P :: g67 P :: g68 P :: g69 P :: g70 P :: g71 P :: g72 P :: g73 P :: g74 P :: g75 P :: g76 P :: g77 P :: g78 P :: g79 P :: g80 P :: g81 P :: g84 P :: g85 P :: g86 P :: g87 P :: g88 P :: g89 P :: g90 P :: g91 P :: g92 P :: g93 P :: g94 P :: g95 P :: g96 P :: g97 P :: g98 P :: g99 P :: g100 P :: g101 P :: g102 P :: g103 P :: g104 P :: g105 P :: g106 P :: g107 P :: g108 P :: g109 P :: g110 P :: g111 P :: g112 P :: g113 P :: g114 P :: g115 P :: g116 P :: g117 P :: g118 P :: g119 P :: []), lifeT⟩
noncomputable def h148 (P : Params) : Heap := ⟨Array.mk (boot_o_0 P :: boot_o_1 P :: boot_o_2 P :: g120 P :: boot_o_4 P :: boot_o_5 P :: boot_o_6 P :: boot_o_7 P :: boot_o_8 P :: boot_o_9 P :: boot_o_10 P :: g43 P :: g121 P :: g45 P :: g46 P :: g51 P :: g52 P :: g53 P :: g54 P :: g55 P :: g56 P :: g57 P :: g58 P :: g59 P :: g60 P :: g61 P :: g62 P :: g63 P :: g64 P :: g65 P :: g66 P :: g67 P :: g68 P :: g69 P :: g70 P :: g71 P :: g72 P :: g73 P :: g74 P :: g75 P :: g76 P :: g77 P :: g78 P :: g79 P :: g80 P :: g81 P :: g84 P :: g85 P :: g86 P :: g87 P :: g88 P :: g89 P :: g90 P :: g91 P :: g92 P :: g93 P :: g94 P :: g95 P :: g96 P :: g97 P :: g98 P :: g99 P :: g100 P :: g101 P :: g102 P :: g103 P :: g104 P :: g105 P :: g106 P :: g107 P :: g108 P :: g109 P :: g110 P :: g111 P :: g112 P :: g113 P :: g114 P :: g115 P :: g116 P :: g117 P :: g118 P :: g119 P :: g122 P :: g123 P :: g124 P :: g125 P :: g126 P :: g127 P :: g128 P :: g129 P :: g130 P :: g131 P :: g132 P :: g133 P :: g134 P :: g135 P :: g136 P :: g137 P :: g138 P :: g139 P :: g140 P :: g141 P :: g142 P :: g143 P :: g144 P :: g145 P :: g146 P :: g147 P :: g148 P :: g149 P :: g150 P :: g151 P :: g152 P :: g153 P :: g154 P :: g155 P :: g156 P :: g157 P :: g158 P :: g159 P :: g160 P :: g161 P :: g162 P :: g163 P :: g164 P :: g165 P :: g166 P :: g167 P :: g168 P :: g169 P :: g170 P :: g171 P :: g172 P :: g173 P :: g174 P :: g175 P :: g176 P :: g177 P :: g178 P :: g179 P :: g180 P :: g181 P :: g182 P :: g183 P :: g184 P :: g185 P :: g186 P :: g187 P :: []), lifeT⟩
noncomputable def h203 (P : Params) : Heap := ⟨Array.mk (boot_o_0 P :: boot_o_1 P :: boot_o_2 P :: g239 P :: boot_o_4 P :: boot_o_5 P :: boot_o_6 P :: boot_o_7 P :: boot_o_8 P :: boot_o_9 P :: boot_o_10 P :: g43 P :: g240 P :: g45 P :: g46 P :: g51 P :: g52 P :: g53 P :: g54 P :: g55 P :: g56 P :: g57 P :: g58 P :: g59 P :: g60 P :: g61 P :: g62 P :: g63 P :: g64 P :: g65 P :: g66 P :: g67 P :: g68 P :: g69 P :: g70 P :: g71 P :: g72 P :: g73 P :: g74 P :: g75 P :: g76 P :: g77 P :: g78 P :: g79 P :: g80 P :: g81 P :: g84 P :: g85 P :: g86 P :: g87 P :: g88 P :: g89 P :: g90 P :: g91 P :: g92 P :: g93 P :: g94 P :: g95 P :: g96 P :: g97 P :: g98 P :: g99 P :: g100 P :: g101 P :: g102 P :: g103 P :: g104 P :: g105 P :: g106 P :: g107 P :: g108 P :: g109 P :: g110 P :: g111 P :: g112 P :: g113 P :: g114 P :: g115 P :: g116 P :: g117 P :: g118 P :: g119 P :: g122 P :: g123 P :: g124 P :: g125 P :: g126 P :: g127 P :: g128 P :: g129 P :: g130 P :: g131 P :: g132 P :: g133 P :: g134 P :: g135 P :: g136 P :: g137 P :: g138 P :: g139 P :: g140 P :: g141 P :: g142 P :: g143 P :: g144 P :: g145 P :: g146 P :: g147 P :: g148 P :: g149 P :: g150 P :: g151 P :: g152 P :: g153 P :: g154 P :: g155 P :: g156 P :: g157 P :: g158 P :: g159 P :: g160 P :: g161 P :: g162 P :: g163 P :: g164 P :: g165 P :: g166 P :: g167 P :: g168 P :: g169 P :: g170 P :: g171 P :: g172 P :: g173 P :: g174 P :: g175 P :: g176 P :: g177 P :: g178 P :: g179 P :: g180 P :: g181 P :: g182 P :: g183 P :: g184 P :: g185 P :: g186 P :: g187 P :: g241 P :: g242 P :: g243 P :: g244 P :: g245 P :: g246 P :: g247 P :: g248 P :: g249 P :: g250 P :: g251 P :: g252 P :: g253 P :: g254 P :: g255 P :: g256 P :: g257 P :: g258 P :: g259 P :: g260 P :: g261 P :: g262 P :: g263 P :: g264 P :: g265 P :: g266 P :: g267 P :: g268 P :: g269 P :: g270 P :: g271 P :: g272 P :: g273 P :: g274 P :: g275 P :: g276 P :: g277 P :: g278 P :: g279 P :: g280 P :: g281 P :: g282 P :: g283 P :: g284 P :: g285 P :: g286 P :: g287 P :: g288 P :: g289 P :: g290 P :: g291 P :: g292 P :: g293 P :: g294 P :: g295 P :: []), lifeT⟩
abbrev stT (h : Heap) (k : Nat) (os : OsState) : Shared := ⟨h, Array.mk [], ⟨0, 0, 0, 0⟩, k, os⟩
noncomputable def l1T : List Stmt := (behindTheImports thePg).take 4
noncomputable def l2T : List Stmt := ((behindTheImports thePg).drop 4).take 1
noncomputable def l3T : List Stmt := ((behindTheImports thePg).drop 5).take 1
noncomputable def l4T : List Stmt := (behindTheImports thePg).drop 6
theorem openX : opening thePg = plainProg thePg.main.scope.names := by kernel_rfl!
theorem pcA (w : World) (os : OsState) : topGo treeTable thePg w 11 annX 12 ⟨boot_heap w.params, Array.mk [], boot_drawn, boot_toks, os⟩ (topStub thePg) = some (stT (h15 w.params) 187 os, ⟨denote treeTable (.body bodyT envT), codeT, posT, [topFrame posT]⟩) := by kernel_rfl!
theorem pcB (w : World) (os : OsState) : segRun treeTable thePg w 11 annX 1 1 (stT (h15 w.params) 187 os) (blockOf bodyT envT codeT posT [topFrame posT]) = some (.next, stT (h15 w.params) 187 os, codeT, posT) := by kernel_rfl!
theorem pcC (w : World) (os : OsState) : segRun treeTable thePg w 11 annX 1 400 (stT (h15 w.params) 187 os) (piecesOf l1T envT codeT posT [topFrame posT]) = some (.next, stT (h46 w.params) 237 os, codeT, ⟨12, 0, 12, 8⟩) := by
  unfold piecesOf
  rw [PySem.W.Fast.te14374325043358763698, PySem.W.Fast.te14364793385576792824, PySem.W.Fast.te12563942051412417395]
  kernel_rfl!
theorem pcD (w : World) (os : OsState) : segRun treeTable thePg w 11 annX 1 298 (stT (h46 w.params) 237 os) (piecesOf l2T envT codeT ⟨12, 0, 12, 8⟩ [topFrame posT]) = some (.next, stT (h82 w.params) 292 os, codeT, ⟨13, 0, 35, 299⟩) := by
  unfold piecesOf
  rw [PySem.W.Fast.te14374325043358763698, PySem.W.Fast.te14364793385576792824, PySem.W.Fast.te12563942051412417395]
  kernel_rfl!
theorem pcE (w : World) (os : OsState) : segRun treeTable thePg w 11 annX 1 614 (stT (h82 w.params) 292 os) (piecesOf l3T envT codeT ⟨13, 0, 35, 299⟩ [topFrame posT]) = some (.next, stT (h148 w.params) 392 os, codeT, ⟨36, 0, 102, 78⟩) := by
  unfold piecesOf
  rw [PySem.W.Fast.te14374325043358763698, PySem.W.Fast.te14364793385576792824, PySem.W.Fast.te12563942051412417395]
  kernel_rfl!
theorem pcF (w : World) (os : OsState) : segRun treeTable thePg w 11 annX 1 273 (stT (h148 w.params) 392 os) (piecesOf l4T envT codeT ⟨36, 0, 102, 78⟩ [topFrame posT]) = some (.next, stT (h203 w.params) 467 os, codeT, ⟨132, 0, 166, 79⟩) := by
  unfold piecesOf
  rw [PySem.W.Fast.te14374325043358763698, PySem.W.Fast.te14364793385576792824, PySem.W.Fast.te12563942051412417395]
  kernel_rfl!
theorem pcG (w : World) (os : OsState) : topRun treeTable thePg w 11 annX 2 (stT (h203 w.params) 467 os) ⟨doneF .next, codeT, ⟨132, 0, 166, 79⟩, [topFrame posT]⟩ = some (stT (h203 w.params) 467 os) := by kernel_rfl!
theorem splitT : bodyT = l1T ++ (l2T ++ (l3T ++ (l4T ++ []))) := by kernel_rfl!
theorem runT (w : World) (os : OsState) : topRun treeTable thePg w 11 annX (12 + (1 + (400 + (298 + (614 + (273 + 2)))))) ⟨boot_heap w.params, Array.mk [], boot_drawn, boot_toks, os⟩ (topStub thePg) = some (stT (h203 w.params) 467 os) := by
  refine go_top (pcA w os) (piece_block (pcB w os) ?_)
  have e : restOf bodyT envT codeT posT [topFrame posT] = restOf (l1T ++ (l2T ++ (l3T ++ (l4T ++ [])))) envT codeT posT [topFrame posT] := congrArg (fun b => restOf b envT codeT posT [topFrame posT]) splitT
  rw [e]
  exact piece_app (pcC w os) (piece_app (pcD w os) (piece_app (pcE w os) (piece_app (pcF w os) (piece_nil (pcG w os)))))
theorem sizeT (w : World) : ((boot_heap w.params).isNs mainGlobals && (Array.mk [] : Array GenState).size == 0, (boot_heap w.params).objs.size, (boot_heap w.params).nsMap mainGlobals "__annotations__") = (true, 11, annX) := by kernel_rfl!
theorem looksT (w : World) (os : OsState) : ((staticsOk (importedModules thePg.main.body) (boot_heap w.params) (h203 w.params) && namesBound thePg (h203 w.params) && gensDone (stT (h203 w.params) 467 os) && laidKept (boot_heap w.params) (h203 w.params)),
    openSeen viewX looseX (importedModules thePg.main.body) (fun s => xlAt viewX [] s && recOk (RowW.records (OpenRow.toRowW PySem.Challenge.rw_ac0002_01.row)) s) true (stT (h203 w.params) 467 os), Hook.obs hookX (stT (h203 w.params) 467 os)) = (true, openGood viewX looseX, Hook.val hookX w) := by kernel_rfl!
theorem leftX : LeftO thePg viewX looseX (fun s => xlAt viewX [] s && recOk (RowW.records (OpenRow.toRowW PySem.Challenge.rw_ac0002_01.row)) s) (Hook.obs hookX) (Hook.val hookX) 3288 :=
  LeftO.of_pieces (H₀ := boot_heap) (H₁ := h203) (gs₀ := Array.mk []) (gs₁ := Array.mk []) (d₀ := boot_drawn) (d₁ := ⟨0, 0, 0, 0⟩) (k₀ := boot_toks) (k₁ := 467) (m₀ := 11) (ann := annX)
    (boot_open openX (by decide) (fun _ => by rfl)) sizeT runT (by decide) (fun w => funext fun os => looksT w os)
end Mine
namespace Mine
/-! the plain law: what the program computes, on natural numbers -/
def stepN (w p s b : Nat) : Nat := if s / 2 ^ (w - 1) % 2 ≠ b then (s * 2 % 2 ^ w) ^^^ p else s * 2 % 2 ^ w
/-- j single steps, highest bit of the word first -/
def wordI (w p d x s : Nat) : Nat → Nat
  | 0 => s
  | j + 1 => stepN w p (wordI w p d x s j) (x / 2 ^ (d - 1 - j) % 2)
def wordN (w p d s x : Nat) : Nat := wordI w p d x s d
def bitsN (x w : Nat) : List Nat := (List.range w).map fun i => x / 2 ^ i % 2
def turnN (x W : Nat) : Nat := ((List.range W).map fun i => x / 2 ^ i % 2 * 2 ^ (W - 1 - i)).sum
def numN (bs : List Nat) : Nat := ((List.range bs.length).map fun i => bs.getD i 0 * 2 ^ i).sum
def timesI (rows : List Nat) (n : Nat) : Nat → Nat
  | 0 => 0
  | k + 1 => if n / 2 ^ k % 2 = 1 then timesI rows n k ^^^ rows.getD k 0 else timesI rows n k
def timesN (rows : List Nat) (n : Nat) : Nat := timesI rows n rows.length
/-- the program's own turn of a register above the word's places -/
def inStep (top ps c : Nat) : Nat := if c &&& top ≠ 0 then (c * 2) ^^^ ps else c * 2
def inI (top ps c : Nat) : Nat → Nat
  | 0 => c
  | j + 1 => inStep top ps (inI top ps c j)
def tw (ri : Bool) (d x : Nat) : Nat := if ri then turnN x d else x
def outStep (w d p : Nat) (ri : Bool) (c x : Nat) : Nat := inI (2 ^ (w + d - 1)) (p * 2 ^ d) (c ^^^ (tw ri d x * 2 ^ w)) d % 2 ^ (w + d)
def compN (w d p init : Nat) (ri ro : Bool) (xo : Nat) (xs : List Nat) : Nat := tw ro w (xs.foldl (outStep w d p ri) (init * 2 ^ d) / 2 ^ d) ^^^ xo

/-! ## sums of bits -/
theorem sum_lt (f : Nat → Nat) (hf : ∀ i, f i ≤ 1) : ∀ n, ((List.range n).map fun i => f i * 2 ^ i).sum < 2 ^ n
  | 0 => by simp
  | n + 1 => by
    have ih := sum_lt f hf n
    rw [List.range_succ, List.map_append, List.sum_append]
    have h := hf n
    have : f n * 2 ^ n ≤ 1 * 2 ^ n := Nat.mul_le_mul_right _ h
    simp only [List.map_cons, List.map_nil, List.sum_cons, List.sum_nil, Nat.pow_succ]
    omega
theorem sum_bits (x : Nat) : ∀ n, ((List.range n).map fun i => x / 2 ^ i % 2 * 2 ^ i).sum = x % 2 ^ n
  | 0 => by simp [Nat.mod_one]
  | n + 1 => by
    rw [List.range_succ, List.map_append, List.sum_append, sum_bits x n]
    simp only [List.map_cons, List.map_nil, List.sum_cons, List.sum_nil, Nat.add_zero]
    rw [Nat.pow_succ, Nat.mod_mul]
    rw [Nat.mul_comm (2 ^ n)]
theorem numN_bits {x w : Nat} (hx : x < 2 ^ w) : numN (bitsN x w) = x := by
  have hl : (bitsN x w).length = w := by simp [bitsN]
  unfold numN
  rw [hl]
  rw [List.map_congr_left (g := fun i => x / 2 ^ i % 2 * 2 ^ i)]
  · rw [sum_bits, Nat.mod_eq_of_lt hx]
  · intro i hi
    have hi' := List.mem_range.mp hi
    simp [bitsN, List.getD_eq_getElem?_getD, hi']
/-- the turned sum read from below -/
theorem sum_rev (f : Nat → Nat) (n : Nat) : ((List.range n).map fun i => f i * 2 ^ (n - 1 - i)).sum = ((List.range n).map fun i => f (n - 1 - i) * 2 ^ i).sum := by
  have h : (List.range n).map (fun i => f i * 2 ^ (n - 1 - i)) = ((List.range n).map fun i => f (n - 1 - i) * 2 ^ i).reverse := by
    rw [← List.map_reverse]
    apply List.ext_getElem
    · simp
    · intro i h1 h2
      simp at h1
      simp only [List.getElem_map, List.getElem_range, List.getElem_reverse, List.length_range]
      rw [show n - 1 - (n - 1 - i) = i by omega]
  rw [h, List.sum_reverse]
theorem turnN_lt (x W : Nat) : turnN x W < 2 ^ W := by
  unfold turnN
  rw [sum_rev fun i => x / 2 ^ i % 2]
  exact sum_lt (fun i => x / 2 ^ (W - 1 - i) % 2) (fun i => by omega) W

/-! ## linearity -/
theorem stepN_lt {w p s b : Nat} (hp : p < 2 ^ w) : stepN w p s b < 2 ^ w := by
  unfold stepN
  have h : s * 2 % 2 ^ w < 2 ^ w := Nat.mod_lt _ (Nat.two_pow_pos w)
  split
  · exact Nat.xor_lt_two_pow h hp
  · exact h
theorem wordI_lt {w p d x s : Nat} (hp : p < 2 ^ w) (hs : s < 2 ^ w) : ∀ j, wordI w p d x s j < 2 ^ w
  | 0 => hs
  | _ + 1 => stepN_lt hp
theorem bit_xor (a b k : Nat) : (a ^^^ b) / 2 ^ k % 2 = (a / 2 ^ k % 2 + b / 2 ^ k % 2) % 2 := by
  have h1 := Nat.testBit_xor a b k
  simp only [Nat.testBit_eq_decide_div_mod_eq] at h1
  have ha : a / 2 ^ k % 2 = 0 ∨ a / 2 ^ k % 2 = 1 := by omega
  have hb : b / 2 ^ k % 2 = 0 ∨ b / 2 ^ k % 2 = 1 := by omega
  have hc : (a ^^^ b) / 2 ^ k % 2 = 0 ∨ (a ^^^ b) / 2 ^ k % 2 = 1 := by omega
  rcases ha with ha | ha <;> rcases hb with hb | hb <;> rcases hc with hc | hc <;> simp_all
theorem dbl_xor (a b w : Nat) : (a ^^^ b) * 2 % 2 ^ w = (a * 2 % 2 ^ w) ^^^ (b * 2 % 2 ^ w) := by
  apply Nat.eq_of_testBit_eq
  intro i
  have e : ∀ z : Nat, z * 2 = z <<< 1 := fun z => by rw [Nat.shiftLeft_eq]
  simp only [e, Nat.testBit_mod_two_pow, Nat.testBit_xor, Nat.testBit_shiftLeft]
  cases decide (i < w) <;> cases decide (1 ≤ i) <;> simp
theorem stepN_xor {w p s s' b b' : Nat} (hb : b ≤ 1) (hb' : b' ≤ 1) : stepN w p (s ^^^ s') ((b + b') % 2) = stepN w p s b ^^^ stepN w p s' b' := by
  unfold stepN
  rw [bit_xor, dbl_xor]
  generalize s * 2 % 2 ^ w = u
  generalize s' * 2 % 2 ^ w = v
  have h1 : s / 2 ^ (w - 1) % 2 < 2 := Nat.mod_lt _ (by decide)
  have h2 : s' / 2 ^ (w - 1) % 2 < 2 := Nat.mod_lt _ (by decide)
  generalize s / 2 ^ (w - 1) % 2 = t at h1 ⊢
  generalize s' / 2 ^ (w - 1) % 2 = t' at h2 ⊢
  have ht : t = 0 ∨ t = 1 := by omega
  have ht' : t' = 0 ∨ t' = 1 := by omega
  have hb1 : b = 0 ∨ b = 1 := by omega
  have hb1' : b' = 0 ∨ b' = 1 := by omega
  have x1 : u ^^^ v ^^^ p = u ^^^ p ^^^ v := by rw [Nat.xor_assoc, Nat.xor_comm v p, ← Nat.xor_assoc]
  have x2 : u ^^^ (v ^^^ p) = u ^^^ p ^^^ v := by rw [← Nat.xor_assoc, x1]
  have x3 : u ^^^ p ^^^ (v ^^^ p) = u ^^^ v := by
    rw [Nat.xor_assoc, ← Nat.xor_assoc p v p, Nat.xor_comm p v, Nat.xor_assoc v p p, Nat.xor_self, Nat.xor_zero]
  rcases ht with rfl | rfl <;> rcases ht' with rfl | rfl <;> rcases hb1 with rfl | rfl <;> rcases hb1' with rfl | rfl <;> simp [x1, x2, x3]
theorem wordI_xor {w p d x x' s s' : Nat} : ∀ j, wordI w p d (x ^^^ x') (s ^^^ s') j = wordI w p d x s j ^^^ wordI w p d x' s' j
  | 0 => rfl
  | j + 1 => by
    show stepN w p (wordI w p d (x ^^^ x') (s ^^^ s') j) _ = _
    rw [wordI_xor j, bit_xor, stepN_xor (by omega) (by omega)]
    rfl
theorem stepN_zero {w p : Nat} : stepN w p 0 0 = 0 := by simp [stepN]
theorem wordI_zero {w p d : Nat} : ∀ j, wordI w p d 0 0 j = 0
  | 0 => rfl
  | j + 1 => by
    show stepN w p (wordI w p d 0 0 j) _ = _
    rw [wordI_zero j]
    simp [stepN]
theorem low_split (n k : Nat) : n % 2 ^ (k + 1) = (n % 2 ^ k) ^^^ (n / 2 ^ k % 2 * 2 ^ k) := by
  apply Nat.eq_of_testBit_eq
  intro i
  have hb : n / 2 ^ k % 2 = 0 ∨ n / 2 ^ k % 2 = 1 := by omega
  rw [Nat.testBit_mod_two_pow, Nat.testBit_xor, Nat.testBit_mod_two_pow]
  have hn : n.testBit k = decide (n / 2 ^ k % 2 = 1) := Nat.testBit_eq_decide_div_mod_eq
  rcases hb with hb | hb
  · rw [hb]
    simp only [Nat.zero_mul, Nat.zero_testBit, Bool.xor_false]
    by_cases h1 : i < k
    · simp [h1, Nat.lt_succ_of_lt h1]
    · by_cases h2 : i = k
      · subst h2; simp [hn, hb]
      · simp [h1, show ¬ i < k + 1 by omega]
  · rw [hb, Nat.one_mul, Nat.testBit_two_pow]
    by_cases h1 : i < k
    · simp [h1, Nat.lt_succ_of_lt h1, show ¬ k = i by omega]
    · by_cases h2 : i = k
      · subst h2; simp [hn, hb]
      · simp [h1, show ¬ i < k + 1 by omega, show ¬ k = i by omega]
/-- a linear map is told by its rows -/
theorem times_lin (g : Nat → Nat) (g0 : g 0 = 0) (gx : ∀ a b, g (a ^^^ b) = g a ^^^ g b) (rows : List Nat) (k : Nat) (hr : ∀ i, i < k → rows.getD i 0 = g (2 ^ i)) (n : Nat) : timesI rows n k = g (n % 2 ^ k) := by
  induction k with
  | zero => simp [timesI, Nat.mod_one, g0]
  | succ k ih =>
    have ih := ih fun i hi => hr i (Nat.lt_succ_of_lt hi)
    show (if n / 2 ^ k % 2 = 1 then timesI rows n k ^^^ rows.getD k 0 else timesI rows n k) = _
    rw [ih, hr k (Nat.lt_succ_self k), low_split]
    by_cases h : n / 2 ^ k % 2 = 1
    · rw [if_pos h, h, Nat.one_mul, gx]
    · have h0 : n / 2 ^ k % 2 = 0 := by omega
      rw [if_neg h, h0, Nat.zero_mul, Nat.xor_zero]
/-- the two matrices do a word's work -/
theorem times_word {w p d s x : Nat} (F G : List Nat) (hF : F = (List.range w).map fun i => wordN w p d (2 ^ i) 0) (hG : G = (List.range d).map fun i => wordN w p d 0 (2 ^ i)) (hs : s < 2 ^ w) (hx : x < 2 ^ d) :
    timesN F s ^^^ timesN G x = wordN w p d s x := by
  have lF : F.length = w := by simp [hF]
  have lG : G.length = d := by simp [hG]
  have e1 : timesN F s = wordN w p d s 0 := by
    unfold timesN
    rw [lF, times_lin (fun a => wordN w p d a 0) (wordI_zero d) (fun a b => by
      have := wordI_xor (w := w) (p := p) (d := d) (x := 0) (x' := 0) (s := a) (s' := b) d
      rwa [Nat.xor_zero] at this) F w (fun i hi => by simp [hF, List.getD_eq_getElem?_getD, hi]) s, Nat.mod_eq_of_lt hs]
  have e2 : timesN G x = wordN w p d 0 x := by
    unfold timesN
    rw [lG, times_lin (fun a => wordN w p d 0 a) (wordI_zero d) (fun a b => by
      have := wordI_xor (w := w) (p := p) (d := d) (x := a) (x' := b) (s := 0) (s' := 0) d
      rwa [Nat.xor_zero] at this) G d (fun i hi => by simp [hG, List.getD_eq_getElem?_getD, hi]) x, Nat.mod_eq_of_lt hx]
  rw [e1, e2]
  have := wordI_xor (w := w) (p := p) (d := d) (x := 0) (x' := x) (s := s) (s' := 0) d
  rw [Nat.zero_xor, Nat.xor_zero] at this
  exact this.symm

/-! ## the program's register -/
theorem and_top (c k : Nat) : (c &&& 2 ^ k ≠ 0) ↔ c / 2 ^ k % 2 = 1 := by
  have h : c.testBit k = decide (c / 2 ^ k % 2 = 1) := Nat.testBit_eq_decide_div_mod_eq
  by_cases hc : c / 2 ^ k % 2 = 1
  · refine ⟨fun _ => hc, fun _ h0 => ?_⟩
    have h1 : (c &&& 2 ^ k).testBit k = true := by rw [Nat.testBit_and, h, Nat.testBit_two_pow]; simp [hc]
    rw [h0, Nat.zero_testBit] at h1
    cases h1
  · refine ⟨fun h0 => absurd ?_ h0, fun q => absurd q hc⟩
    apply Nat.eq_of_testBit_eq
    intro i
    rw [Nat.testBit_and, Nat.testBit_two_pow, Nat.zero_testBit]
    by_cases hi : k = i
    · subst hi; simp [h, hc]
    · simp [hi]
/-- j turns leave, of the low w + d places: the state above the word's places, and what is left of the word -/
theorem inI_low {w p d x s : Nat} (hw : 1 ≤ w) (hp : p < 2 ^ w) (hs : s < 2 ^ w) (hx : x < 2 ^ d) : ∀ j, j ≤ d →
    inI (2 ^ (w + d - 1)) (p * 2 ^ d) ((s * 2 ^ d) ^^^ (x * 2 ^ w)) j % 2 ^ (w + d) = (wordI w p d x s j * 2 ^ d) ^^^ ((x % 2 ^ (d - j)) * 2 ^ (w + j)) := by
  intro j
  induction j with
  | zero =>
    intro _
    show ((s * 2 ^ d) ^^^ (x * 2 ^ w)) % 2 ^ (w + d) = _
    have h1 : s * 2 ^ d < 2 ^ (w + d) := by rw [Nat.pow_add]; exact Nat.mul_lt_mul_of_pos_right hs (Nat.two_pow_pos d)
    have h2 : x * 2 ^ w < 2 ^ (w + d) := by rw [Nat.pow_add, Nat.mul_comm (2 ^ w)]; exact Nat.mul_lt_mul_of_pos_right hx (Nat.two_pow_pos w)
    rw [Nat.mod_eq_of_lt (Nat.xor_lt_two_pow h1 h2), Nat.sub_zero, Nat.add_zero, Nat.mod_eq_of_lt hx]
    rfl
  | succ j ih =>
    intro hj
    have ih := ih (by omega)
    show inStep (2 ^ (w + d - 1)) (p * 2 ^ d) (inI (2 ^ (w + d - 1)) (p * 2 ^ d) ((s * 2 ^ d) ^^^ (x * 2 ^ w)) j) % 2 ^ (w + d) = (stepN w p (wordI w p d x s j) (x / 2 ^ (d - 1 - j) % 2) * 2 ^ d) ^^^ _
    generalize inI (2 ^ (w + d - 1)) (p * 2 ^ d) ((s * 2 ^ d) ^^^ (x * 2 ^ w)) j = c at ih ⊢
    have hlt := wordI_lt (d := d) (x := x) hp hs j
    generalize wordI w p d x s j = u at ih hlt ⊢
    -- the bits of c below w + d
    have cb : ∀ i, i < w + d → c.testBit i = ((decide (d ≤ i) && u.testBit (i - d)) ^^ (decide (w + j ≤ i) && (decide (i - (w + j) < d - j) && x.testBit (i - (w + j))))) := by
      intro i hi
      have h := congrArg (fun z => Nat.testBit z i) ih
      simp only [Nat.testBit_mod_two_pow, Nat.testBit_xor, ← Nat.shiftLeft_eq, Nat.testBit_shiftLeft, hi, decide_true, Bool.true_and] at h
      exact h
    have top : c / 2 ^ (w + d - 1) % 2 = 1 ↔ u / 2 ^ (w - 1) % 2 ≠ x / 2 ^ (d - 1 - j) % 2 := by
      have h := cb (w + d - 1) (by omega)
      rw [show w + d - 1 - d = w - 1 by omega, show w + d - 1 - (w + j) = d - 1 - j by omega] at h
      simp only [show d ≤ w + d - 1 by omega, show w + j ≤ w + d - 1 by omega, show d - 1 - j < d - j by omega, decide_true, Bool.true_and, Nat.testBit_eq_decide_div_mod_eq] at h
      have h1 : u / 2 ^ (w - 1) % 2 = 0 ∨ u / 2 ^ (w - 1) % 2 = 1 := by omega
      have h2 : x / 2 ^ (d - 1 - j) % 2 = 0 ∨ x / 2 ^ (d - 1 - j) % 2 = 1 := by omega
      rcases h1 with h1 | h1 <;> rcases h2 with h2 | h2 <;> simp [h1, h2] at h ⊢ <;> omega
    have dbl : (c * 2) % 2 ^ (w + d) = ((u * 2 % 2 ^ w) * 2 ^ d) ^^^ (x % 2 ^ (d - (j + 1)) * 2 ^ (w + (j + 1))) := by
      apply Nat.eq_of_testBit_eq
      intro i
      have e2 : ∀ z : Nat, z * 2 = z <<< 1 := fun z => by rw [Nat.shiftLeft_eq]
      simp only [e2, Nat.testBit_mod_two_pow, Nat.testBit_xor, ← Nat.shiftLeft_eq, Nat.testBit_shiftLeft]
      by_cases hi : i < w + d
      · by_cases h0 : 1 ≤ i
        · rw [cb (i - 1) (by omega)]
          simp only [hi, h0, decide_true, Bool.true_and]
          by_cases hd : d + 1 ≤ i
          · rw [show i - 1 - d = i - d - 1 by omega]
            simp only [show d ≤ i - 1 by omega, show d ≤ i by omega, show i - d < w by omega, show 1 ≤ i - d by omega, decide_true, Bool.true_and]
            congr 1
            by_cases hj' : w + (j + 1) ≤ i
            · simp only [hj', show w + j ≤ i - 1 by omega, decide_true, Bool.true_and]
              rw [show i - 1 - (w + j) = i - (w + (j + 1)) by omega]
              congr 1
              exact decide_eq_decide.mpr (by omega)
            · simp [hj', show ¬ w + j ≤ i - 1 by omega]
          · have : ¬ d ≤ i - 1 := by omega
            simp only [this, decide_false, Bool.false_and, Bool.false_xor]
            have hl : (decide (d ≤ i) && (decide (i - d < w) && (decide (1 ≤ i - d) && u.testBit (i - d - 1)))) = false := by
              by_cases hdi : d ≤ i
              · simp [show ¬ 1 ≤ i - d by omega]
              · simp [hdi]
            rw [hl, Bool.false_xor]
            by_cases hj' : w + (j + 1) ≤ i
            · simp only [hj', show w + j ≤ i - 1 by omega, decide_true, Bool.true_and]
              rw [show i - 1 - (w + j) = i - (w + (j + 1)) by omega]
              congr 1
              exact decide_eq_decide.mpr (by omega)
            · simp [hj', show ¬ w + j ≤ i - 1 by omega]
        · have : i = 0 := by omega
          subst this
          have hw' : ¬ w + (j + 1) ≤ 0 := by omega
          simp only [hi, h0, hw', decide_true, decide_false, Bool.true_and, Bool.false_and, Bool.xor_false]
          by_cases hd : d ≤ 0
          · simp [hd, show ¬ 1 ≤ 0 - d by omega]
          · simp [hd]
      · simp only [hi, decide_false, Bool.false_and]
        symm
        have a1 : (decide (d ≤ i) && (decide (i - d < w) && (decide (1 ≤ i - d) && u.testBit (i - d - 1)))) = false := by
          simp [show ¬ i - d < w by omega]
        have a2 : (decide (w + (j + 1) ≤ i) && (decide (i - (w + (j + 1)) < d - (j + 1)) && x.testBit (i - (w + (j + 1))))) = false := by
          simp [show ¬ i - (w + (j + 1)) < d - (j + 1) by omega]
        rw [a1, a2]
        rfl
    unfold inStep stepN
    by_cases ht : c / 2 ^ (w + d - 1) % 2 = 1
    · rw [if_pos ((and_top c _).mpr ht), if_pos (top.mp ht)]
      have hps : p * 2 ^ d < 2 ^ (w + d) := by rw [Nat.pow_add]; exact Nat.mul_lt_mul_of_pos_right hp (Nat.two_pow_pos d)
      rw [Nat.xor_mod_two_pow, dbl, Nat.mod_eq_of_lt hps]
      have hx2 : ((u * 2 % 2 ^ w) ^^^ p) * 2 ^ d = ((u * 2 % 2 ^ w) * 2 ^ d) ^^^ (p * 2 ^ d) := by
        simp only [← Nat.shiftLeft_eq, Nat.shiftLeft_xor_distrib]
      rw [hx2, Nat.xor_assoc, Nat.xor_assoc, Nat.xor_comm (p * 2 ^ d)]
    · rw [if_neg (fun h => ht ((and_top c _).mp h)), if_neg (fun h => ht (top.mpr h)), dbl]
theorem tw_lt {ri : Bool} {d x : Nat} (hx : x < 2 ^ d) : tw ri d x < 2 ^ d := by
  unfold tw
  split
  · exact turnN_lt x d
  · exact hx
theorem outStep_word {w p d x s : Nat} {ri : Bool} (hw : 1 ≤ w) (hp : p < 2 ^ w) (hs : s < 2 ^ w) (hx : x < 2 ^ d) : outStep w d p ri (s * 2 ^ d) x = wordN w p d s (tw ri d x) * 2 ^ d := by
  unfold outStep
  rw [inI_low hw hp hs (tw_lt hx) d (Nat.le_refl d), Nat.sub_self, Nat.pow_zero, Nat.mod_one, Nat.zero_mul, Nat.xor_zero]
  rfl
theorem wordN_lt {w p d s x : Nat} (hp : p < 2 ^ w) (hs : s < 2 ^ w) : wordN w p d s x < 2 ^ w := wordI_lt hp hs d
/-- the register behind the words -/
def regN (w p d : Nat) (ri : Bool) (s : Nat) (xs : List Nat) : Nat := xs.foldl (fun s x => wordN w p d s (tw ri d x)) s
theorem regN_lt {w p d : Nat} {ri : Bool} (hp : p < 2 ^ w) : ∀ (xs : List Nat) (s : Nat), s < 2 ^ w → regN w p d ri s xs < 2 ^ w
  | [], _, hs => hs
  | _ :: r, _, hs => regN_lt hp r _ (wordN_lt hp hs)
theorem fold_out {w p d : Nat} {ri : Bool} (hw : 1 ≤ w) (hp : p < 2 ^ w) : ∀ (xs : List Nat) (s : Nat), s < 2 ^ w → (∀ x ∈ xs, x < 2 ^ d) → xs.foldl (outStep w d p ri) (s * 2 ^ d) = regN w p d ri s xs * 2 ^ d
  | [], _, _, _ => rfl
  | x :: r, s, hs, hx => by
    rw [List.foldl_cons, outStep_word hw hp hs (hx x (.head _))]
    exact fold_out hw hp r _ (wordN_lt hp hs) fun y hy => hx y (.tail _ hy)
theorem compN_eq {w p d init xo : Nat} {ri ro : Bool} {xs : List Nat} (hw : 1 ≤ w) (hp : p < 2 ^ w) (hs : init < 2 ^ w) (hx : ∀ x ∈ xs, x < 2 ^ d) :
    compN w d p init ri ro xo xs = tw ro w (regN w p d ri init xs) ^^^ xo := by
  unfold compN
  rw [fold_out hw hp xs init hs hx, Nat.mul_div_cancel _ (Nat.two_pow_pos d)]
theorem regN_xor {w p d : Nat} {ri : Bool} : ∀ (xs : List Nat) (a b c e : Nat), a ^^^ b = c ^^^ e → regN w p d ri a xs ^^^ regN w p d ri b xs = regN w p d ri c xs ^^^ regN w p d ri e xs
  | [], _, _, _, _, h => h
  | x :: r, a, b, c, e, h => by
    refine regN_xor r _ _ _ _ ?_
    have k : ∀ a b y : Nat, wordN w p d a y ^^^ wordN w p d b y = wordN w p d (a ^^^ b) 0 := fun a b y => by
      have := wordI_xor (w := w) (p := p) (d := d) (x := y) (x' := y) (s := a) (s' := b) d
      rw [Nat.xor_self] at this
      exact this.symm
    rw [k, k, h]
end Mine
namespace Mine
/-- the signs of x in W binary digits, highest first -/
def binL (W x : Nat) : List Nat := (List.range W).map fun i => 48 + x / 2 ^ (W - 1 - i) % 2
def binS (W x : Nat) : Str := ⟨(binL W x).toArray⟩
def spL (W : Nat) : Str := ⟨#[48, 48 + W, 98]⟩
def fsB (W : Nat) : Builtin.Float.FormatSpec := { fill := 48, align := 61, width := some W, type := some 98 }
theorem parse_b (W : Nat) (h1 : 1 ≤ W) (h8 : W ≤ 8) : Builtin.Float.parseFormatSpec (spL W).cps.toList "int" 62 = .ok (fsB W) := by
  have hW : W = 1 ∨ W = 2 ∨ W = 3 ∨ W = 4 ∨ W = 5 ∨ W = 6 ∨ W = 7 ∨ W = 8 := by omega
  rcases hW with rfl | rfl | rfl | rfl | rfl | rfl | rfl | rfl <;> rfl
theorem asc_b (W : Nat) (h1 : 1 ≤ W) (h8 : W ≤ 8) : (((spL W).cps.toList.drop 1).any (· ≥ 128) || ((spL W).cps.getD 0 0 ≥ 128 && !([60, 62, 61, 94] : List Nat).contains ((spL W).cps.getD 1 0))) = false := by
  have hW : W = 1 ∨ W = 2 ∨ W = 3 ∨ W = 4 ∨ W = 5 ∨ W = 6 ∨ W = 7 ∨ W = 8 := by omega
  rcases hW with rfl | rfl | rfl | rfl | rfl | rfl | rfl | rfl <;> rfl
def fmtX (W n : Nat) : Str := PyProof.Rows.intField' (fsB W) false [] ((Nat.toDigits 2 n).map fun c => (if ((fsB W).type.getD (if ((spL W).cps.back? == some 0) = true then 0 else 100) == 88) = true then c.toUpper else c).toNat) [] 4
theorem fmt_text : ∀ W < 9, 1 ≤ W → ∀ n < 2 ^ W, fmtX W n = binS W n := by decide +kernel
theorem binS_len (W n : Nat) : (binS W n).length = W := by simp [Str.length, binS, binL]
theorem fmt_meets0 (t u : Tok) (W : Nat) (h1 : 1 ≤ W) (h8 : W ≤ 8) (n : Nat) (hn : n < 2 ^ W) :
    Meets (Builtin.«int.__format__» ⟨[.int (n : Int) t, .str (spL W) u], []⟩) (fun _ R s => ∀ t' k, R (.ok (.ret (.str (binS W n) t'))) { s with toks := k }) := by
  apply KPc.meets_of
  intro _ _ _ _ _ _ hq
  unfold Builtin.«int.__format__»
  refine wpAny_bind (wpAny_of_eq (a := (_, _)) rfl ?_)
  refine wpAny_bind (wpAny_of_eq (a := _) rfl ?_)
  kxf_if
  refine wpAny_bind (wpAny_typeNameOf (T := "str") (typeIs_str _ _ _) (by decide) fun _ => ?_)
  refine wpAny_bind (wpAny_of_eq (a := some _) rfl ?_)
  kxf_if
  refine wpAny_ite (KPc.ite_no (by rw [asc_b W h1 h8]; exact Bool.false_ne_true) ?_)
  refine wpAny_bind (wpAny_typeNameOfCut_int ?_)
  rw [parse_b W h1 h8]
  kxf_if
  refine wpAny_ite (KPc.ite_no (show ¬ (W > 100000) by omega) ?_)
  refine KXf.ret_text ?_ ?_ hq
  · exact (show _ = fmtX W n from rfl).trans (fmt_text W (by omega) h1 n hn)
  · exact Nat.le_trans (Nat.le_of_eq (congrArg Str.length ((show _ = fmtX W n from rfl).trans (fmt_text W (by omega) h1 n hn)))) (Nat.le_trans (Nat.le_of_eq (binS_len W n)) (by rw [sizeLine_eq]; omega))
theorem spL_eq : ∀ W : Nat, W < 9 → Str.empty ++ Str.ofString "0" ++ Str.ofString (toString (W : Int)) ++ Str.ofString "b" = spL W ∨ W = 0 := by decide +kernel
section
variable {prog : Program} {w : World} {A : Around} {E : Value → Shared → Prop} {s : Shared}
theorem fmt_field {W n : Int} {t : Tok} {Q : Value → Shared → Prop} (h1 : 1 ≤ W) (h8 : W ≤ 8) (h0 : 0 ≤ n) (hn : n < 2 ^ W.toNat)
    (h : ∀ t' k, Q (.str (binS W.toNat n.toNat) t') { s with toks := k }) :
    wpAny (model prog w) A (formatField (.int n t) (Str.empty ++ Str.ofString "0" ++ Str.ofString (toString W) ++ Str.ofString "b")) Q E s := by
  obtain ⟨W', rfl⟩ := Int.eq_ofNat_of_zero_le (show 0 ≤ W by omega)
  obtain ⟨n', rfl⟩ := Int.eq_ofNat_of_zero_le h0
  have hn' : n' < 2 ^ W' := by
    have e : ((2 ^ W' : Nat) : Int) = (2 : Int) ^ W' := kbt_cast W'
    simp only [Int.toNat_natCast] at hn
    omega
  rw [(spL_eq W' (by omega)).resolve_right (by omega)]
  refine KXf.field_int rfl ?_ ?_ (fun u => fmt_meets0 _ u W' (by omega) (by omega) n' hn') ?_
  · rfl
  · show 3 ≤ sizeLine
    rw [sizeLine_eq]; omega
  · simpa using h
end
end Mine
namespace Mine
def revL (W x : Nat) : List Nat := (List.range W).map fun i => 48 + x / 2 ^ i % 2
theorem typeCall_int_2 (a b : Value) : checkTypeCall "int" ⟨[a, b], []⟩ = pure () := by kernel_rfl
theorem newCall_int_2 (a b : Value) : checkBuiltinCall "int.__new__" ⟨[.type "int", a, b], []⟩ = pure () := by kernel_rfl
theorem args_object_init_3 (o a b : Value) : argsOk "object.__init__" ⟨[o, a, b], []⟩ := by
  unfold argsOk; kernel_rfl
noncomputable def valOf (x : int_private% "Numeral") : Option Int := (int_private% "Numeral.casesOn") (motive := fun _ => Option Int) x none (fun _ => none) none some
theorem valOf_some {x : int_private% "Numeral"} {i : Int} (h : valOf x = some i) : x = (int_private% "Numeral.value") i := by
  cases x <;> simp_all [valOf]
theorem read2 : ∀ W : Nat, W < 9 → 1 ≤ W → ∀ n < 2 ^ W, valOf ((int_private% "readNumeral") 0 2 (revL W n)) = some ((turnN n W : Nat) : Int) := by decide +kernel

def revS (W x : Nat) : Str := ⟨(revL W x).toArray⟩
theorem rev_ascii (W n : Nat) : (revS W n).cps.all (· < 128) = true := by
  simp only [revS, List.all_toArray, revL, List.all_map, List.all_eq_true, Function.comp, decide_eq_true_eq]
  intro x _
  omega
theorem rev_seen (W n : Nat) : (revL W n).takeWhile (· != 0) = revL W n := by
  have key : ∀ l : List Nat, (∀ x ∈ l, x ≠ 0) → l.takeWhile (· != 0) = l := by
    intro l
    induction l with
    | nil => intro _; rfl
    | cons a r ih =>
      intro h
      have ha : (a != 0) = true := by simpa using h a (.head _)
      rw [List.takeWhile_cons, if_pos ha, ih fun x hx => h x (.tail _ hx)]
  refine key _ ?_
  intro x hx
  simp only [revL, List.mem_map] at hx
  obtain ⟨i, _, rfl⟩ := hx
  omega
theorem rev_len (W n : Nat) : (revL W n).length = W := by simp [revL]
theorem wp_text2 {M : Model} {A : Around} {E : Value → Shared → Prop} {s : Shared} {Q : Value → Shared → Prop} {v : Value} {text : List Nat} {n : Int}
    (hs : (text.takeWhile (· != 0)).length ≤ 640) (hr : (int_private% "readNumeral") 0 2 (text.takeWhile (· != 0)) = (int_private% "Numeral.value") n)
    (ha : ((text.takeWhile (· != 0)).length == text.length) = true) (h : Q (.int n s.toks) { s with toks := s.toks + 1 }) :
    wpAny M A ((int_private% "intFromText") v text 2) Q E s := by
  obtain ⟨hp, g, d, tk, os⟩ := s
  repeat (any_goals (first
    | assumption
    | (with_reducible refine wpAny_ite_true (decide_eq_true hs) ?_)
    | (with_reducible refine wpAny_ite_true (decide_eq_true ha) ?_)
    | wp_step))
  all_goals (try rw [hr])
  all_goals (try dsimp only)
  repeat (any_goals (first
    | assumption
    | (with_reducible refine wpAny_ite_true (decide_eq_true hs) ?_)
    | (with_reducible refine wpAny_ite_true (decide_eq_true ha) ?_)
    | wp_step))
theorem wp_text3 {M : Model} {A : Around} {E : Value → Shared → Prop} {s : Shared} {Q : Value → Shared → Prop} {v : Value} {text : List Nat} {W n : Nat} (hW : W < 9)
    (h1 : 1 ≤ W) (hn : n < 2 ^ W) (e : text = revL W n) (h : Q (.int (turnN n W : Nat) s.toks) { s with toks := s.toks + 1 }) :
    wpAny M A ((int_private% "intFromText") v text 2) Q E s := by
  subst e
  refine wp_text2 ?_ ?_ ?_ h
  · rw [rev_seen, rev_len]; omega
  · rw [rev_seen]; exact valOf_some (read2 W hW h1 n hn)
  · rw [rev_seen]; exact beq_self_eq_true _
structure HidP (p : Prop) : Prop where
  out : p
theorem gives_int2 {W n : Nat} {u v : Tok} (hW : W < 9) (h1 : 1 ≤ W) (hn : n < 2 ^ W) : Gives (Builtin.«int.__new__» ⟨[.type "int", .str (revS W n) u, .int 2 v], []⟩) (.int (turnN n W : Nat)) :=
  .of_wp fun M A E s Q h => by
    obtain ⟨hp, g, d, tk, os⟩ := s
    have f1 := F.conv_sub_int
    have f2 := F.madeHere_int
    have f6 : typeOf (.str (revS W n) u) = pure (.type "str") := rfl
    have hk := HidP.mk (And.intro hW (And.intro h1 hn))
    clear hn h1 hW
    repeat (any_goals (first
      | assumption
      | ((with_reducible show wpAny _ _ ((int_private% "intFromText") _ _ _) _ _ _); refine wp_text3 hk.out.1 hk.out.2.1 hk.out.2.2 (if_pos (rev_ascii W n)) ?_)
      | wp_step))
    all_goals exact ⟨_, rfl, h⟩
section
variable {prog : Program} {w : World} {A : Around} {E : Value → Shared → Prop} {s : Shared} {h₀ : Heap} {L : Addr} {m : Str → Option Value} {news : List (Addr × Obj)}
theorem call_int2 {W n : Nat} {u v : Tok} {Q : Value → Shared → Prop} (hW : W < 9) (h1 : 1 ≤ W) (hn : n < 2 ^ W) (h : ∀ t' k, Q (.int (turnN n W : Nat) t') { s with toks := k }) :
    wpAny (model prog w) A (call (.type "int") [.str (revS W n) u, .int 2 v]) Q E s :=
  callType_new F.called_int F.newNe_int (typeCall_int_2 _ _) (newCall_int_2 _ _) (fun obj => args_object_init_3 obj _ _) F.entry_int_new (gives_int2 hW h1 hn).meets
    (show (Made.int _).post _ s from ⟨rfl, h _ _⟩)
theorem slice_rev (W n : Nat) (u : Tok) : Txt.sliceBy (binS W n) none none (-1, u) = revS W n := by
  refine Str.ext' ?_
  rw [← Array.toList_inj, step_rev_list]
  have hl := binS_len W n
  rw [hl]
  show _ = revL W n
  unfold revL
  refine List.map_congr_left fun k hk => ?_
  have hk' := List.mem_range.mp hk
  simp only [binS, binL, Array.getD_eq_getD_getElem?, List.getElem?_toArray]
  rw [List.getElem?_map, List.getElem?_range (by omega)]
  simp only [Option.map_some, Option.getD_some]
  rw [show W - 1 - (W - 1 - k) = k by omega]
theorem rev_tail {value slice : PySem.Expr} {W n : Nat} {t u : Tok} {Q : Value → Shared → Prop} (hF : Fr h₀ L s.heap m) (hN : News h₀ L s.heap news) (hW : W < 9) (h : ∀ h' t' c, Fr h₀ L h' m → News h₀ L h' news → Q (.str (revS W n) t') { s with heap := h', toks := c })
    (hs : subscripted slice false (.str (binS W n) t) (.ref s.heap.objs.size) = operate [.ref s.heap.objs.size, .str (binS W n) t] (getItem (.str (binS W n) t) (.ref s.heap.objs.size)) := by with_unfolding_all rfl)
    (ht : ∀ r, letTemporaryGo value (.str (binS W n) t) r = pure () := by intro _; with_unfolding_all rfl) :
    wpAny (model prog w) A (subscriptTail value slice (.str (binS W n) t) (.ref s.heap.objs.size)) Q E { s with heap := s.heap.push { cls := .type "slice", data := .fields #[.none, .none, .int (-1) u] } } :=
  slice_strK_nn hF hN (by decide) (fun h' t' c F' N' => by rw [slice_rev]; exact h h' t' c F' N') hs ht (by rw [binS_len, sizeLine_eq]; omega)
end
end Mine
namespace Mine
theorem owner_rvd : Manifest.owners.lookup (String.ofList ['d', 'e', 's', 'r', 'e', 'v', 'e', 'r'].reverse) = some Manifest.sig_reversed := by kernel_rfl
theorem slot_rvd_next : Slot "reversed" "__next__" "reversed.__next__" :=
  .of (owner := "reversed") (n := "__next__") (by rw [typeLookup_type, builtinLookup_eq_fast]; kernel_rfl) (by decide +kernel) (by decide +kernel) (by decide +kernel)
    (by first | exact .inl (by decide +kernel) | exact .inr (by decide +kernel)) (by rw [isSubtype_type]; kernel_rfl)
theorem entry_rvd_next : entryFor table "reversed.__next__" = some Builtin.«reversed.__next__» := entryFor_of_tree (by kernel_rfl)
theorem args_rvd_next_1 (a : Value) : argsOk "reversed.__next__" ⟨[a], []⟩ := by
  unfold argsOk; rw [signature?_of (id := "reversed.__next__") (n := ['_', '_', 't', 'x', 'e', 'n', '_', '_']) (o := ['d', 'e', 's', 'r', 'e', 'v', 'e', 'r']) (by kernel_rfl) owner_rvd]; kernel_rfl
theorem slot_rvd_iter : Slot "reversed" "__iter__" "reversed.__iter__" :=
  .of (owner := "reversed") (n := "__iter__") (by rw [typeLookup_type, builtinLookup_eq_fast]; kernel_rfl) (by decide +kernel) (by decide +kernel) (by decide +kernel)
    (by first | exact .inl (by decide +kernel) | exact .inr (by decide +kernel)) (by rw [isSubtype_type]; kernel_rfl)
theorem args_rvd_iter_1 (a : Value) : argsOk "reversed.__iter__" ⟨[a], []⟩ := by
  unfold argsOk; rw [signature?_of (id := "reversed.__iter__") (n := ['_', '_', 'r', 'e', 't', 'i', '_', '_']) (o := ['d', 'e', 's', 'r', 'e', 'v', 'e', 'r']) (by kernel_rfl) owner_rvd]; kernel_rfl
theorem entry_rvd_iter : entryFor table "reversed.__iter__" = some Builtin.«dict_keyiterator.__iter__» :=
  entryFor_alias (id' := "dict_keyiterator.__iter__") (by kernel_rfl) (by first | rfl | decide +kernel | (unfold String.splitOn; simp +decide [String.splitOnAux])) (by decide +kernel) (by kernel_rfl)
theorem slot_rvd_init : Slot "reversed" "__init__" "object.__init__" :=
  .of (owner := "object") (n := "__init__") (by rw [typeLookup_type, builtinLookup_eq_fast]; kernel_rfl) (by decide +kernel) (by decide +kernel) (by decide +kernel)
    (by first | exact .inl (by decide +kernel) | exact .inr (by decide +kernel)) (by rw [isSubtype_type]; kernel_rfl)
theorem plain_rvd_new : plainId "reversed.__new__" = true := by decide +kernel
theorem called_rvd : TypeCalled "reversed" "reversed.__new__" "object.__init__" :=
  ⟨by decide +kernel, F.create_reversed, ⟨_, _, F.mro_reversed⟩, F.made_reversed, F.plain_reversed_new, F.sub_reversed_self, slot_rvd_init⟩
theorem str_rvd : typeLookup (.type "str") "__reversed__" = pure none := by rw [typeLookup_type, builtinLookup_eq_fast]; kernel_rfl
theorem sub_str_dict : isSubtype (.type "str") (.type "dict") = pure false := by rw [isSubtype_type]; kernel_rfl
/-- the iterator that reversed makes of a text -/
def rvdObj (x : Value) (i : Int) : Obj := { cls := .type "reversed", data := .fields #[x, rawInt i] }
section
variable {prog : Program} {w : World} {A : Around} {E : Value → Shared → Prop} {s : Shared}
theorem meets_rvd_new (x : Str) (t : Tok) (hx : x.length ≤ 64) :
    Meets (Builtin.«reversed.__new__» ⟨[.type "reversed", .str x t], []⟩) (fun _ R s => ∀ k, R (.ok (.ret (.ref s.heap.objs.size))) { s with heap := s.heap.push (rvdObj (.str x t) ((x.length : Int) - 1)), toks := k }) :=
  .of_wp fun prog w A R s h => by
    obtain ⟨hp, g, d, tk, os⟩ := s
    unfold Builtin.«reversed.__new__»
    refine wpAny_bind (wpAny_of_eq (newClass_reversed _) ?_)
    try dsimp only
    refine wpAny_bind (wpAny_of_eq (a := ()) (by first | rfl | kernel_rfl) ?_)
    refine wpAny_bind (wpAny_of_eq (a := ()) (by first | rfl | kernel_rfl) ?_)
    try dsimp only
    refine wpAny_bind (wpAny_specialOf (typeIs_str _ x t) str_rvd ?_)
    try dsimp only
    have hs := sub_str_dict
    have hg := F.slot_str_getitem.lookup
    repeat (any_goals (first
      | assumption
      | ((with_reducible show wpAny _ _ (call (Value.builtin "len") _) _ _ _); refine SBL.len (by omega) ?_)
      | wp_step))
    all_goals exact ⟨_, rfl, h _⟩
theorem call_reversed_str {x : Str} {t : Tok} {Q : Value → Shared → Prop} (hx : x.length ≤ 64)
    (h : ∀ k, Q (.ref s.heap.objs.size) { s with heap := s.heap.push (rvdObj (.str x t) ((x.length : Int) - 1)), toks := k }) : wpAny (model prog w) A (call (.type "reversed") [.str x t]) Q E s := by
  refine callType_new called_rvd (by decide +kernel) (F.typeCall_reversed_1 _) (F.newCall_reversed_1 _) (fun obj => F.args_object_init_2 obj _) F.entry_reversed_new (meets_rvd_new x t hx) fun k => ?_
  exact ⟨⟨_, Heap.get?_push_size _ rfl, rfl⟩, h k⟩
abbrev IsRvd (h : Heap) (a : Addr) (x : Value) (i : Int) : Prop := h.get? a = some (rvdObj x i)
theorem IsRvd.typeIs {a : Addr} {x : Value} {i : Int} (h : IsRvd s.heap a x i) : s.TypeIs (.ref a) "reversed" := ⟨_, h, rfl⟩
theorem next_rvd_item {it : Addr} {x : Str} {t : Tok} {i : Nat} {c : Nat} {Q : Option Value → Shared → Prop} (hit : IsRvd s.heap it (.str x t) (i : Int)) (hi : i < 64) (hx : x.cps[i]? = some c)
    (hQ : ∀ h' t' k, IsRvd h' it (.str x t) ((i : Int) - 1) → Heap.SameBut it s.heap h' → Q (some (.str ⟨#[c]⟩ t')) { s with heap := h', toks := k }) : wpAny (model prog w) A (pyNext (.ref it)) Q E s := by
  have hlt : i < x.length := by
    have := Array.getElem?_eq_some_iff.mp hx
    exact this.1
  unfold pyNext
  refine wpAny_bind (wpAny_attempt (wpAny_callSpecial?_slot (name := Str.ofString "__next__") hit.typeIs slot_rvd_next
    (wpAny_call_entry slot_rvd_next hit.typeIs entry_rvd_next ?_ (args_rvd_next_1 _))))
  unfold Builtin.«reversed.__next__»
  refine wpAny_bind (wpAny_of_eq (a := (Value.ref it, [])) rfl ?_)
  try dsimp only
  refine wpAny_bind (wpAny_field hit rfl (x := .str x t) rfl ?_)
  refine wpAny_bind (wpAny_field hit rfl (x := rawInt (i : Int)) rfl ?_)
  show wpAny _ _ (if (i : Int) < 0 then _ else _) _ _ s
  rw [if_neg (by omega)]
  refine wpAny_bind (wpAny_specialOf (typeIs_str _ x t) F.slot_str_getitem.lookup ?_)
  try dsimp only
  rw [if_neg (show ¬ ((some (Value.builtin "str.__getitem__")).isNone = true) from Bool.false_ne_true)]
  refine wpAny_bind (wpAny_mkInt ?_)
  refine wpAny_bind (wpAny_attempt ?_)
  refine PyProof.Rows.getItem_str (c := c) ?_ ?_ ?_
  · simp only [Bool.or_eq_false_iff, decide_eq_false_iff_not]; omega
  · rw [show seqIndex? (i : Int) x.length = some i by (have h0 : ¬ ((i : Int) < 0) := by omega); unfold seqIndex?; simp [h0]; omega]
    exact hx
  try dsimp only
  refine wpAny_bind (wpAny_field hit rfl (x := rawInt (i : Int)) rfl ?_)
  try dsimp only
  refine wpAny_bind (wpAny_setField hit rfl (by simp) ?_)
  first
  | refine wpAny_pure ⟨_, rfl, wpAny_pure (hQ _ _ _ ?_ (Heap.SameBut.update ..))⟩
  | refine wpAny_bind (wpAny_pure (wpAny_pure ⟨_, rfl, wpAny_pure (hQ _ _ _ ?_ (Heap.SameBut.update ..))⟩))
  exact Heap.get?_update_self _ hit rfl
theorem next_rvd_end {it : Addr} {x : Value} {Q : Option Value → Shared → Prop} (hh : A.handled = none) (hit : IsRvd s.heap it x (-1))
    (hQ : ∀ h', Heap.ExtBut it s.heap h' → Q none { s with heap := h' }) : wpAny (model prog w) A (pyNext (.ref it)) Q E s := by
  unfold pyNext
  refine wpAny_bind (wpAny_attempt (wpAny_callSpecial?_slot (name := Str.ofString "__next__") hit.typeIs slot_rvd_next
    (wpAny_call_entry slot_rvd_next hit.typeIs entry_rvd_next ?_ (args_rvd_next_1 _))))
  unfold Builtin.«reversed.__next__»
  refine wpAny_bind (wpAny_of_eq (a := (Value.ref it, [])) rfl ?_)
  try dsimp only
  refine wpAny_bind (wpAny_field hit rfl (x := x) rfl ?_)
  refine wpAny_bind (wpAny_field hit rfl (x := rawInt (-1)) rfl ?_)
  show wpAny _ _ (if (-1 : Int) < 0 then _ else _) _ _ s
  rw [if_pos (by decide)]
  refine wpAny_bind (wpAny_rule ?_)
  refine wpAny_bind ?_
  show wpAny _ _ (setField (.ref it) 1 (rawInt (-1)) >>= fun _ => setField (.ref it) 0 .none) _ _ _
  refine wpAny_bind (wpAny_setField hit rfl (by simp) ?_)
  refine wpAny_setField (o := (rvdObj x (-1)).mapFields fun v => v.setIfInBounds 1 (rawInt (-1))) ?_ rfl (by simp) ?_
  · exact Heap.get?_update_self _ hit rfl
  refine wpAny_bind ?_
  show wpAny _ _ (newExc (.type "StopIteration") [] >>= _) _ _ _
  refine wpAny_bind ?_
  simp only [newExc, newTuple]
  refine wpAny_bind (wpAny_newObj_type ?_ (by size_fits))
  refine wpAny_bind (m := firstArgMember _ _) (wpAny_of_eq (a := Value.none) (by first | rfl | (simp only [firstArgMember]; rfl)) ?_)
  refine wpAny_newObj_type ?_ (by size_fits)
  simp only [raiseNew]
  refine wpAny_bind (wpAny_handled ?_)
  first | rw [show A.in1.handled = none from hh] | rw [hh]
  refine wpAny_bind (wpAny_pure (wpAny_throw ?_))
  refine wpAny_bind (wpAny_isInstance (T := "StopIteration") (b := true) ⟨_, Heap.get?_push_size _ rfl, rfl⟩ isSubtype_stop ?_)
  exact wpAny_pure (hQ _ ((((((Heap.SameBut.update ..).trans (Heap.SameBut.update ..)).extBut).push _).push _)))
theorem iter_rvd {it : Addr} {x : Value} {i : Int} {Q : Value → Shared → Prop} (hit : IsRvd s.heap it x i) (h : Q (.ref it) s) : wpAny (model prog w) A (pyIter (.ref it)) Q E s := by
  refine wpAny_pyIter_slot hit.typeIs slot_rvd_iter (wpAny_call_entry slot_rvd_iter hit.typeIs entry_rvd_iter ?_ (args_rvd_iter_1 _))
  show wpAny _ _ (ret (.ref it)) _ _ s
  exact wpAny_pure ⟨_, rfl, "reversed", _, hit.typeIs, slot_rvd_next.lookup, h⟩
end
theorem walks_rvd {prog : Program} {w : World} {A : Around} (hh : A.handled = none) (I : Addr) (x : Str) (t : Tok) (hx : x.length ≤ 64) :
    Walks prog w A I [I] [I] x.length (fun i v => ∃ c t', x.cps[x.length - 1 - i]? = some c ∧ v = .str ⟨#[c]⟩ t') (fun i h => i ≤ x.length ∧ IsRvd h I (.str x t) ((x.length : Int) - 1 - (i : Int))) where
  sub := fun b hb => hb
  frame := fun _ _ _ y hk => ⟨y.1, hk I (by simp) _ y.2⟩
  item := fun i s Q E hi y hQ => by
    have e : (x.length : Int) - 1 - (i : Int) = ((x.length - 1 - i : Nat) : Int) := by omega
    have hit := y.2
    rw [e] at hit
    have hlt : x.length - 1 - i < x.cps.size := by show x.length - 1 - i < x.length; omega
    have hc : x.cps[x.length - 1 - i]? = some x.cps[x.length - 1 - i] := Array.getElem?_eq_getElem hlt
    refine next_rvd_item hit (by omega) hc fun h' t' k hit' hs' => ?_
    have e2 : ((x.length - 1 - i : Nat) : Int) - 1 = (x.length : Int) - 1 - ((i + 1 : Nat) : Int) := by omega
    rw [e2] at hit'
    exact hQ _ h' k ⟨_, t', hc, rfl⟩ ⟨hi, hit'⟩ fun b o hb eo => hs'.extBut b o (fun h => hb (by simp [h])) eo
  done := fun s Q E y hQ => by
    have e : (x.length : Int) - 1 - (x.length : Int) = -1 := by omega
    have hit := y.2
    rw [e] at hit
    exact next_rvd_end hh hit fun h' he' => hQ h' s.toks fun b o hb eo => he' b o (fun h => hb (by simp [h])) eo
  self := fun _ _ _ _ y hQ => iter_rvd y.2 hQ
end Mine
namespace Mine
section
variable {prog : Program} {w : World} {A : Around} {h₀ : Heap} {L : Addr} {m : Str → Option Value} {env : Env} {elt : PySem.Expr} {x : Str} {scope : Scope} {cl : List (Str × Addr)} {s : Shared} {S : List (Addr × Obj) → Prop} {P : Nat → Value → Prop} {Fin : List Value → List (Addr × Obj) → Prop} {news : List (Addr × Obj)}
/-- a comprehension by what holds of the values so far and of the ledger -/
theorem rest_of {n : Nat} (J : Nat → List Value → List (Addr × Obj) → Prop)
    (turn : ∀ i v ys nw I oI C oC D m₂ h tk (E' : Value → Shared → Prop), i < n → P i v → J i ys nw → LCg.NsObj oC m₂ → m₂ x = some v → Fr h₀ L h m → News h₀ L h ((I, oI) :: (C, oC) :: (D, LCg.lst ys) :: nw) → LCg.Off3 I C D nw → ((@Ne Nat I C) ∧ (@Ne Nat I D) ∧ (@Ne Nat C D)) →
      wpAny (model prog w) A (eval elt (compEnvC scope cl C env)) (LCg.CompEnd h₀ L m { s with heap := h, toks := tk } I oI C oC D (LCg.lst ys) S (fun y news' => J (i + 1) (ys ++ [y]) news')) E' { s with heap := h, toks := tk })
    (h0 : J 0 [] news) (fin : ∀ ys nw, J n ys nw → Fin ys nw) : LCg.CompRest prog w A h₀ L m env elt x scope cl s S P Fin n 0 [] news := by
  have key : ∀ (j i : Nat) (ys : List Value) (nw : List (Addr × Obj)), i + j = n → J i ys nw → LCg.CompRest prog w A h₀ L m env elt x scope cl s S P Fin j i ys nw := by
    intro j
    induction j with
    | zero =>
      intro i ys nw hi hJ
      have e : i = n := by omega
      subst e
      exact LCg.CompRest.zero (fin ys nw hJ)
    | succ j ih =>
      intro i ys nw hi hJ
      refine LCg.CompRest.succ ?_
      intro v I oI C oC D m₂ h tk E' hv hC hx F N off ne
      refine wpAny_mono (turn i v ys nw I oI C oC D m₂ h tk E' (by omega) hv hJ hC hx F N off ne) (fun y s₂ hq => ?_) fun _ _ e => e
      obtain ⟨h', tk', nw', e, F', N', off', hS, hJ'⟩ := hq
      exact ⟨h', tk', nw', e, F', N', off', hS, ih (i + 1) _ _ (by omega) hJ'⟩
  exact key n 0 [] news (by omega) h0
end
section
variable {prog : Program} {w : World} {A : Around} {E : Value → Shared → Prop} {s : Shared} {h₀ : Heap} {L : Addr} {m : Str → Option Value} {env : Env} {news : List (Addr × Obj)}
/-- what a comprehension's source, reversed(text), is to be -/
def CompRvd (prog : Program) (w : World) (A : Around) (h₀ : Heap) (L : Addr) (m : Str → Option Value) (env : Env) (elt : PySem.Expr) (x : Str) (scope : Scope) (cl : List (Str × Addr)) (Fin : Shared → List Value → List (Addr × Obj) → Prop) (xv : Value) (s₁ : Shared) : Prop :=
  ∃ I X t news, xv = .ref I ∧ A.handled = none ∧ Fr h₀ L s₁.heap m ∧ News h₀ L s₁.heap ((I, rvdObj (.str X t) ((X.length : Int) - 1)) :: news) ∧ (∀ p ∈ news, p.1 ≠ I) ∧ X.length ≤ 64 ∧
    LCg.CompRest prog w A h₀ L m env elt x scope cl s₁ (fun _ => True) (fun i v => ∃ c t', X.cps[X.length - 1 - i]? = some c ∧ v = .str ⟨#[c]⟩ t') (Fin s₁) X.length 0 [] news
theorem rvd_call {X : Str} {t : Tok} {Q : Value → Shared → Prop} (hX : X.length ≤ 64) (F : Fr h₀ L s.heap m) (N : News h₀ L s.heap news)
    (h : ∀ I h' k, Fr h₀ L h' m → News h₀ L h' ((I, rvdObj (.str X t) ((X.length : Int) - 1)) :: news) → (∀ p ∈ news, p.1 < I) → Q (.ref I) { s with heap := h', toks := k }) :
    wpAny (model prog w) A (call (.type "reversed") [.str X t]) Q E s :=
  call_reversed_str hX fun k => h _ _ k (F.push _) (N.push F _) fun p hp => Heap.lt_size (N p hp).1
theorem ListComp_rvd {elt iter : PySem.Expr} {x : Str} {px : Pos} {scope : Scope} {cl : List (Str × Addr)} {pos : Pos} {Q : Value → Shared → Prop} (_F₀ : Fr h₀ L s.heap m)
    (hclos : closureFor scope env = pure cl) (hcell : ∀ y ∈ scope.names, y.2 ≠ .cell) (hkind : scope.kind = .function)
    (hnames : ∀ y ∈ scope.names, y.2 = .local → scope.names.lookup y.1 = some .local) (hx : scope.names.lookup x = some .local)
    (h : wpAny (model prog w) A (eval iter env) (CompRvd prog w A h₀ L m env elt x scope cl (fun s₂ => LCg.FinE h₀ L m s₂ Q)) E s)
    (hs : ∀ x, foldedSetIterable iter env x = pure x := by intro _; rfl) :
    wpAny (model prog w) A (eval (.ListComp elt [⟨.Name x px, iter, [], 0⟩] scope pos) env) Q E s := by
  rw [eval_ListComp]
  refine wpAny_comprehension_free (use := none) rfl hs hclos hkind hnames (wpAny_mono h (fun xv s₁ h₁ => ?_) fun _ _ e => e)
  obtain ⟨I, X, t, news, rfl, hh, F, N, off, hX, R⟩ := h₁
  have hI := N _ List.mem_cons_self
  have N' : News h₀ L s₁.heap news := fun p hp => N p (List.mem_cons_of_mem _ hp)
  refine iter_rvd hI.1 ?_
  refine LCg.block_U (walks_rvd hh I X t hX) (by rw [sizeLine_eq]; omega) (fun i h st => ⟨_, st.2⟩) ?_ hcell hkind hx ⟨Nat.zero_le _, by simpa using hI.1⟩ (fun b hb => ?_)
    F N' (Ne.symm hI.2.1) hI.2.2 off trivial R ?_
  · intro i h h' o nw st e e' _ _ _
    refine ⟨st.1, ?_⟩
    have q : h.get? I = some _ := st.2
    show h'.get? I = some _
    rw [e', ← e]; exact q
  · rw [List.mem_singleton.mp hb]
    exact Heap.lt_size hI.1
  · intro D C h tk m' ys news' F' N' o1 hn hC₀ hD₀ hCL hDL hCD offC fin
    refine ⟨m', hn, fun h'' hs'' => fin D h'' tk (F'.change hs'' hCL hC₀) (fun p hp => ?_) o1⟩
    refine ⟨hs''.extBut _ _ ?_ (N' p hp).1, (N' p hp).2⟩
    rcases List.mem_cons.mp hp with rfl | hp
    · exact Ne.symm hCD
    · exact offC p hp
end
end Mine
namespace Mine
/-- the walk is to stop here -/
def Hold (P : Prop) : Prop := P
theorem Hold.out {P : Prop} (h : Hold P) : P := h
section
variable {prog : Program} {w : World} {A : Around} {E : Value → Shared → Prop} {s : Shared} {env : Env} {h₀ : Heap} {x : Str} {body : List Stmt} {Q : Flow → Shared → Prop}
/-- a turn's end: the iterator's object, and the ledger by a word of one's own -/
def TurnEnd (h₀ : Heap) (L : Addr) (I : Addr) (oI : Obj) (J : (Str → Option Value) → List (Addr × Obj) → Prop) (s₁ : Shared) (f : Flow) (s₂ : Shared) : Prop :=
  (f = .next ∨ f = .cont) ∧ ∃ h' tk m' news', s₂ = { s₁ with heap := h', toks := tk } ∧ Fr h₀ L h' m' ∧ News h₀ L h' ((I, oI) :: news') ∧ (∀ p ∈ news', p.1 ≠ I) ∧ J m' news'
theorem TurnEnd.intro {L I : Addr} {oI : Obj} {J : (Str → Option Value) → List (Addr × Obj) → Prop} {s₁ : Shared} {h' : Heap} {tk : Nat} {m' : Str → Option Value} (news' : List (Addr × Obj)) (F : Fr h₀ L h' m') (N : News h₀ L h' ((I, oI) :: news')) (off : ∀ p ∈ news', p.1 ≠ I) (hJ : J m' news') :
    TurnEnd h₀ L I oI J s₁ .next { s₁ with heap := h', toks := tk } := ⟨.inl rfl, h', tk, m', news', rfl, F, N, off, hJ⟩
theorem loop_walkG {I : Addr} {n : Nat} {P : Nat → Value → Prop} {St : Nat → Heap → Prop} {m₀ : Str → Option Value} {news : List (Addr × Obj)} (J : Nat → (Str → Option Value) → List (Addr × Obj) → Prop)
    (W : Walks prog w A I [I] [I] n P St) (hLI : env.locals ≠ I) (hI₀ : h₀.get? I = none) (hnw : ∀ p ∈ news, p.1 ≠ I) (hst : St 0 s.heap) (hlive : ∀ i h, St i h → ∃ o, h.get? I = some o) (F : Fr h₀ env.locals s.heap m₀) (N : News h₀ env.locals s.heap news) (hj : J 0 m₀ news)
    (turn : ∀ i v m₁ news₁ h tk oI, i < n → P i v → J i m₁ news₁ → (∀ p ∈ news₁, p.1 ≠ I) → Fr h₀ env.locals h (fun y => if y = x then some v else m₁ y) → News h₀ env.locals h ((I, oI) :: news₁) →
      wpAny (model prog w) A (execs body env) (TurnEnd h₀ env.locals I oI (J (i + 1)) { s with heap := h, toks := tk }) E { s with heap := h, toks := tk })
    (done : ∀ m₁ news₁ h tk, J n m₁ news₁ → Fr h₀ env.locals h m₁ → News h₀ env.locals h news₁ → Q .next { s with heap := h, toks := tk }) :
    LoopAtV prog w A h₀ env x body Q E (.ref I) s := by
  refine ⟨I, [I], [I], n, P, St, m₀, news, J, rfl, W, fun hm => hLI (List.mem_singleton.mp hm), fun b hb => by rw [List.mem_singleton.mp hb]; exact hI₀, fun p hp hm => hnw p hp (List.mem_singleton.mp hm), hst, F, N, hj, ?_, ?_⟩
  · rintro i v m₁ news₁ s₁ own ⟨hh', tk', rfl⟩ hin hP hJ hoff hown hval hall hst' F₁ N₁
    obtain ⟨oI, hoI⟩ := hlive _ _ hst'
    have hIown : (I, oI) ∈ own := hall I (List.mem_singleton.mpr rfl) hI₀ oI hoI
    have hoff' : ∀ p ∈ news₁, p.1 ≠ I := fun p hp e => hoff p hp (List.mem_singleton.mpr e)
    have N₂ : News h₀ env.locals hh' ((I, oI) :: news₁) := fun p hp => by
      rcases List.mem_cons.mp hp with rfl | hp
      · exact N₁ _ (List.mem_append_left _ hIown)
      · exact N₁ p (List.mem_append_right _ hp)
    refine wpAny_mono (turn i v m₁ news₁ hh' tk' oI hin hP hJ hoff' F₁ N₂) (fun f s₂ hq => ?_) fun _ _ e => e
    obtain ⟨hf, h', tk, m', news', rfl, F', N', off', hJ'⟩ := hq
    have fin : LoopStepU h₀ env.locals [I] own (J (i + 1)) { s with heap := hh', toks := tk' } .next { s with heap := h', toks := tk } := by
      refine ⟨rfl, h', tk, m', news', rfl, F', fun p hp => ?_, fun p hp hm => off' p hp (List.mem_singleton.mp hm), hJ'⟩
      rcases List.mem_append.mp hp with hp | hp
      · have e := List.mem_singleton.mp (hown p hp)
        have q := hval p hp
        rw [e] at q
        have q2 : oI = p.2 := by
          have : some oI = some p.2 := hoI.symm.trans q
          exact Option.some.inj this
        have z := N' (I, oI) List.mem_cons_self
        rw [show p = (I, oI) from Prod.ext e q2.symm]
        exact z
      · exact N' p (List.mem_cons_of_mem _ hp)
    rcases hf with rfl | rfl
    · exact .next fin
    · exact .cont fin
  · rintro h' tk m' news' F' N' _ hJ
    exact done m' news' h' tk hJ F' N'
/-- a loop over range(b) by a word over the turn's number, the names and the ledger -/
theorem loop_rangeG {r : Addr} {b : Int} {t u v : Tok} {m₀ : Str → Option Value} {news : List (Addr × Obj)} (J : Nat → (Str → Option Value) → List (Addr × Obj) → Prop)
    (hh : A.handled = none) (hr : IsRange s.heap r 0 b 1 t u v) (hb0 : 0 ≤ b) (hb : b ≤ 1000) (F : Fr h₀ env.locals s.heap m₀) (N : News h₀ env.locals s.heap news) (hj : J 0 m₀ news)
    (turn : ∀ (i : Nat) tk₀ m₁ news₁ h tk I oI, (i : Int) < b → J i m₁ news₁ → (∀ p ∈ news₁, p.1 ≠ I) → Fr h₀ env.locals h (fun y => if y = x then some (.int (i : Int) tk₀) else m₁ y) → News h₀ env.locals h ((I, oI) :: news₁) →
      wpAny (model prog w) A (execs body env) (TurnEnd h₀ env.locals I oI (J (i + 1)) { s with heap := h, toks := tk }) E { s with heap := h, toks := tk })
    (done : ∀ m₁ news₁ h tk, J b.toNat m₁ news₁ → Fr h₀ env.locals h m₁ → News h₀ env.locals h news₁ → Q .next { s with heap := h, toks := tk }) :
    wpAny (model prog w) A (pyIter (.ref r)) (fun it s₂ => LoopAtV prog w A h₀ env x body Q E it s₂) E s := by
  have hn : Builtin.Range.rangeSize 0 b 1 = ((b.toNat : Nat) : Int) := by
    have := rangeSize_nat 0 b
    rw [this]; omega
  refine wpAny_pyIter_range hr (small_one (by omega) (by omega) (by omega) (by omega)) ?_
  have W : Walks prog w A s.heap.objs.size [s.heap.objs.size] [s.heap.objs.size] b.toNat (fun i v => i < b.toNat ∧ ∃ t, v = .int (0 + i * 1) t)
      (fun i h => IsRangeIter h s.heap.objs.size (0 + (i : Nat) * 1) ((b.toNat : Int) - (i : Nat)) 1) := (Walks.range hh _ 0 1 b.toNat).bound
  refine loop_walkG J W (Nat.ne_of_lt F.ns.lt) (next_is_new F) (fun p hp => Nat.ne_of_lt (Heap.lt_size (N p hp).1)) (by show IsRangeIter _ _ _ _ _; rw [hn]; simpa using Heap.get?_push_size _ rfl) (fun i h st => ⟨_, st⟩)
    (F.push _) (fun p hp => ⟨Heap.get?_push_of_some _ (N p hp).1, (N p hp).2⟩) hj ?_ ?_
  · rintro i v m₁ news₁ h tk oI hi ⟨_, t, rfl⟩ hJ off F₁ N₁
    have e1 : (0 : Int) + (i : Int) * 1 = (i : Int) := by omega
    rw [e1] at F₁
    exact turn i t m₁ news₁ h tk _ oI (by omega) hJ off F₁ N₁
  · intro m₁ news₁ h tk hJ F₁ N₁
    exact done m₁ news₁ h tk hJ F₁ N₁
end
end Mine
namespace Mine
/-! the program's ints and the naturals -/
theorem fdivN (a k : Nat) : ((a : Nat) : Int).fdiv ((2 : Int) ^ k) = ((a / 2 ^ k : Nat) : Int) := by
  rw [Int.fdiv_eq_ediv_of_nonneg _ (Int.le_of_lt (kbt_pos k)), ← kbt_cast, Int.natCast_ediv]
theorem fmodN (a k : Nat) : ((a : Nat) : Int).fmod ((2 : Int) ^ k) = ((a % 2 ^ k : Nat) : Int) := by
  rw [Int.fmod_eq_emod_of_nonneg _ (Int.le_of_lt (kbt_pos k)), ← kbt_cast, Int.natCast_emod]
theorem fmod2N (a : Nat) : ((a : Nat) : Int).fmod 2 = ((a % 2 : Nat) : Int) := fmodN a 1
theorem mul2N (a : Nat) : ((a : Nat) : Int) * 2 = ((a * 2 : Nat) : Int) := by omega
theorem mulN (a k : Nat) : ((a : Nat) : Int) * 2 ^ k = ((a * 2 ^ k : Nat) : Int) := by rw [← kbt_cast, Int.natCast_mul]
theorem andN (a b : Nat) : Builtin.bitAnd (a : Int) (b : Int) = ((a &&& b : Nat) : Int) := by
  rw [bitAnd_pp (Int.natCast_nonneg a) (Int.natCast_nonneg b)]; simp
theorem xor_sum (a b : Nat) : a + b = (a ^^^ b) + 2 * (a &&& b) := by
  have h : ∀ n : Nat, ∀ a b : Nat, a < 2 ^ n → b < 2 ^ n → a + b = (a ^^^ b) + 2 * (a &&& b) := by
    intro n
    induction n with
    | zero => intro a b ha hb; simp at ha hb; subst ha; subst hb; rfl
    | succ n ih =>
      intro a b ha hb
      have q := ih (a / 2) (b / 2) (by rw [Nat.pow_succ] at ha; omega) (by rw [Nat.pow_succ] at hb; omega)
      have e1 : (a ^^^ b) / 2 = a / 2 ^^^ b / 2 := Nat.xor_div_two
      have e2 : (a &&& b) / 2 = a / 2 &&& b / 2 := Nat.and_div_two
      have m1 := bit_xor a b 0
      rw [Nat.pow_zero, Nat.div_one, Nat.div_one, Nat.div_one] at m1
      have m2 := @Nat.and_mod_two_eq_one a b
      rw [← e1, ← e2] at q
      omega
  exact h (a + b) a b (Nat.lt_of_le_of_lt (Nat.le_add_right a b) Nat.lt_two_pow_self) (Nat.lt_of_le_of_lt (Nat.le_add_left b a) Nat.lt_two_pow_self)
theorem xorN (a b : Nat) : Builtin.bitXor (a : Int) (b : Int) = ((a ^^^ b : Nat) : Int) := by
  rw [bitXor_and, andN]
  have := xor_sum a b
  omega
theorem eN {a : Int} (h : 0 ≤ a) : ∃ n : Nat, a = (n : Int) := Int.eq_ofNat_of_zero_le h

def stepZ (w p s b : Int) : Int := (stepN w.toNat p.toNat s.toNat b.toNat : Nat)
theorem step_ne {w p s b : Int} (hw : 1 ≤ w) (hp : 0 ≤ p) (hs : 0 ≤ s) (hb : 0 ≤ b) (h : (s.fdiv (2 ^ (w - 1).toNat)).fmod 2 ≠ b) : Builtin.bitXor ((s * 2).fmod (2 ^ w.toNat)) p = stepZ w p s b := by
  obtain ⟨w, rfl⟩ := eN (show 0 ≤ w by omega)
  obtain ⟨p, rfl⟩ := eN hp
  obtain ⟨s, rfl⟩ := eN hs
  obtain ⟨b, rfl⟩ := eN hb
  rw [show ((w : Int) - 1).toNat = w - 1 by omega, fdivN, fmod2N] at h
  rw [mul2N, Int.toNat_natCast, fmodN, xorN]
  unfold stepZ stepN
  simp only [Int.toNat_natCast]
  rw [if_pos (by omega)]
theorem step_eq {w p s b : Int} (hw : 1 ≤ w) (_hp : 0 ≤ p) (hs : 0 ≤ s) (hb : 0 ≤ b) (h : (s.fdiv (2 ^ (w - 1).toNat)).fmod 2 = b) : (s * 2).fmod (2 ^ w.toNat) = stepZ w p s b := by
  obtain ⟨w, rfl⟩ := eN (show 0 ≤ w by omega)
  obtain ⟨s, rfl⟩ := eN hs
  obtain ⟨b, rfl⟩ := eN hb
  rw [show ((w : Int) - 1).toNat = w - 1 by omega, fdivN, fmod2N] at h
  rw [mul2N, Int.toNat_natCast, fmodN]
  unfold stepZ stepN
  simp only [Int.toNat_natCast]
  rw [if_neg (by omega)]
theorem stepZ_nonneg (w p s b : Int) : 0 ≤ stepZ w p s b := Int.natCast_nonneg _
/-- j single steps -/
def wordZ (w p d x s : Int) (j : Nat) : Int := (wordI w.toNat p.toNat d.toNat x.toNat s.toNat j : Nat)
theorem wordZ_nonneg (w p d x s : Int) (j : Nat) : 0 ≤ wordZ w p d x s j := Int.natCast_nonneg _
theorem wordZ_zero (w p d x : Int) {s : Int} (h : 0 ≤ s) : s = wordZ w p d x s 0 := by unfold wordZ wordI; omega
theorem wordZ_succ {w p d x s k b : Int} {j : Nat} (hx : 0 ≤ x) (hk : k = d - 1 - (j : Int)) (hj : (j : Int) < d) (hb : b = (x.fdiv (2 ^ k.toNat)).fmod 2) : stepZ w p (wordZ w p d x s j) b = wordZ w p d x s (j + 1) := by
  obtain ⟨x, rfl⟩ := eN hx
  rw [fdivN, fmod2N] at hb
  have e : k.toNat = d.toNat - 1 - j := by omega
  rw [e] at hb
  show stepZ w p (wordZ w p d x s j) b = ((stepN w.toNat p.toNat (wordI w.toNat p.toNat d.toNat (x : Int).toNat s.toNat j) ((x : Int).toNat / 2 ^ (d.toNat - 1 - j) % 2) : Nat) : Int)
  unfold stepZ wordZ
  rw [Int.toNat_natCast, hb]
  simp only [Int.toNat_natCast]
/-- the bits of x, lowest first -/
def bitsZ (x w : Int) : List Int := (bitsN x.toNat w.toNat).map fun (b : Nat) => (b : Int)
theorem bitsZ_eq {x w : Int} (hx : 0 ≤ x) : (rangeKs 0 (w - 0).toNat).map (fun k => (x.fdiv (2 ^ k.toNat)).fmod 2) = bitsZ x w := by
  obtain ⟨x, rfl⟩ := eN hx
  unfold bitsZ bitsN rangeKs
  rw [Int.sub_zero, List.map_map, List.map_map, Int.toNat_natCast]
  refine List.map_congr_left fun i _ => ?_
  simp only [Function.comp]
  rw [show ((0 : Int) + (i : Int)).toNat = i by omega, fdivN, fmod2N]
theorem sum_cast (f : Nat → Nat) : ∀ l : List Nat, (l.map fun i => ((f i : Nat) : Int)).sum = (((l.map f).sum : Nat) : Int)
  | [] => rfl
  | i :: r => by simp only [List.map_cons, List.sum_cons, sum_cast f r]; omega
def turnZ (x w : Int) : Int := (turnN x.toNat w.toNat : Nat)
theorem turnZ_eq {x w : Int} (hx : 0 ≤ x) (hw : 0 ≤ w) : ((rangeKs 0 (w - 0).toNat).map fun k => (x.fdiv (2 ^ k.toNat)).fmod 2 * 2 ^ (w - 1 - k).toNat).sum = turnZ x w := by
  obtain ⟨x, rfl⟩ := eN hx
  obtain ⟨w, rfl⟩ := eN hw
  unfold turnZ turnN rangeKs
  rw [Int.sub_zero, List.map_map, Int.toNat_natCast, Int.toNat_natCast, ← sum_cast]
  refine congrArg List.sum (List.map_congr_left fun i hi => ?_)
  have := List.mem_range.mp hi
  simp only [Function.comp]
  rw [show ((0 : Int) + (i : Int)).toNat = i by omega, fdivN, fmod2N, show ((w : Int) - 1 - (0 + (i : Int))).toNat = w - 1 - i by omega, mulN]
/-- the number of its bits -/
def numZ (bs : List Int) : Int := (numN (bs.map Int.toNat) : Nat)
theorem numZ_eq {bs : List Int} (hb : ∀ b ∈ bs, 0 ≤ b) : ((rangeKs 0 ((bs.length : Int) - 0).toNat).map fun k => bs.getD k.toNat 0 * 2 ^ k.toNat).sum = numZ bs := by
  unfold numZ numN rangeKs
  rw [List.map_map, show ((bs.length : Int) - 0).toNat = bs.length by omega, List.length_map, ← sum_cast]
  refine congrArg List.sum (List.map_congr_left fun i hi => ?_)
  have hi := List.mem_range.mp hi
  simp only [Function.comp]
  rw [show ((0 : Int) + (i : Int)).toNat = i by omega]
  have h : bs.getD i 0 = (((bs.map Int.toNat).getD i 0 : Nat) : Int) := by
    rw [List.getD_eq_getElem?_getD, List.getD_eq_getElem?_getD, List.getElem?_map, List.getElem?_eq_getElem hi]
    have := hb bs[i] (List.getElem_mem hi)
    simp only [Option.getD_some, Option.map_some]
    omega
  rw [h, mulN]
/-- the rows that a number's bits name, put together: the first k -/
def timesZ (rows : List Int) (n : Int) (k : Nat) : Int := (timesI (rows.map Int.toNat) n.toNat k : Nat)
theorem timesZ_zero (rows : List Int) (n : Int) : (0 : Int) = timesZ rows n 0 := rfl
theorem timesZ_nonneg (rows : List Int) (n : Int) (k : Nat) : 0 ≤ timesZ rows n k := Int.natCast_nonneg _
theorem timesZ_yes {rows : List Int} {n i : Int} {k : Nat} (hn : 0 ≤ n) (hr : ∀ b ∈ rows, 0 ≤ b) (hi : i = (k : Int)) (hk : k < rows.length) (h : (n.fdiv (2 ^ i.toNat)).fmod 2 = 1) : Builtin.bitXor (timesZ rows n k) (rows.getD i.toNat 0) = timesZ rows n (k + 1) := by
  obtain ⟨n, rfl⟩ := eN hn
  subst hi
  rw [Int.toNat_natCast, fdivN, fmod2N] at h
  have hg : rows.getD (k : Int).toNat 0 = (((rows.map Int.toNat).getD k 0 : Nat) : Int) := by
    rw [Int.toNat_natCast, List.getD_eq_getElem?_getD, List.getD_eq_getElem?_getD, List.getElem?_map, List.getElem?_eq_getElem hk]
    have := hr rows[k] (List.getElem_mem hk)
    simp only [Option.getD_some, Option.map_some]
    omega
  rw [hg]
  unfold timesZ
  rw [xorN, Int.toNat_natCast]
  show _ = ((if n / 2 ^ k % 2 = 1 then _ else _ : Nat) : Int)
  rw [if_pos (by omega)]
theorem timesZ_no {rows : List Int} {n i : Int} {k : Nat} (hn : 0 ≤ n) (hi : i = (k : Int)) (h : (n.fdiv (2 ^ i.toNat)).fmod 2 ≠ 1) : timesZ rows n k = timesZ rows n (k + 1) := by
  obtain ⟨n, rfl⟩ := eN hn
  subst hi
  rw [Int.toNat_natCast, fdivN, fmod2N] at h
  unfold timesZ
  rw [Int.toNat_natCast]
  show _ = ((if n / 2 ^ k % 2 = 1 then _ else _ : Nat) : Int)
  rw [if_neg (by omega)]
theorem word_turn {w p d x s k a : Int} {pre : List Int} (hx : 0 ≤ x) (hi : a = wordZ w p d x s pre.length ∧ 0 ≤ a) (hk : k = d - 1 - (pre.length : Int)) (hl : pre.length < (d - 1 - -1).toNat) :
    stepZ w p a ((x.fdiv (2 ^ k.toNat)).fmod 2) = wordZ w p d x s (pre ++ [k]).length ∧ 0 ≤ stepZ w p a ((x.fdiv (2 ^ k.toNat)).fmod 2) := by
  refine ⟨?_, stepZ_nonneg _ _ _ _⟩
  rw [hi.1, List.length_append, List.length_singleton]
  exact wordZ_succ hx hk (by omega) rfl
theorem times_turn_yes {rows : List Int} {n k a : Int} {pre : List Int} {m : Nat} (hn : 0 ≤ n) (hr : ∀ b ∈ rows, 0 ≤ b) (hi : a = timesZ rows n pre.length) (hk : k = 0 + (pre.length : Int)) (hl : pre.length < m) (hm : m = rows.length) (h : (n.fdiv (2 ^ k.toNat)).fmod 2 = 1) :
    Builtin.bitXor a (rows.getD k.toNat 0) = timesZ rows n (pre ++ [k]).length := by
  rw [hi, List.length_append, List.length_singleton]
  exact timesZ_yes hn hr (by omega) (by omega) h
theorem times_turn_no {rows : List Int} {n k a : Int} {pre : List Int} (hn : 0 ≤ n) (hi : a = timesZ rows n pre.length) (hk : k = 0 + (pre.length : Int)) (h : (n.fdiv (2 ^ k.toNat)).fmod 2 ≠ 1) :
    a = timesZ rows n (pre ++ [k]).length := by
  rw [hi, List.length_append, List.length_singleton]
  exact timesZ_no hn (by omega) h
/-- j turns of the register above the word's places -/
def inZ (w d p c : Int) (j : Nat) : Int := (inI (2 ^ (w.toNat + d.toNat - 1)) (p.toNat * 2 ^ d.toNat) c.toNat j : Nat)
/-- the register behind the words -/
def outZ (w d p i : Int) (ri : Bool) (xs : List Int) : Int := (((xs.map Int.toNat).foldl (outStep w.toNat d.toNat p.toNat ri) (i.toNat * 2 ^ d.toNat) : Nat) : Int)
def compZ (w d p i : Int) (ri ro : Bool) (xo : Int) (xs : List Int) : Int := (compN w.toNat d.toNat p.toNat i.toNat ri ro xo.toNat (xs.map Int.toNat) : Nat)
theorem powN (k : Int) : ((2 ^ k.toNat : Nat) : Int) = (2 : Int) ^ k.toNat := kbt_cast _
theorem pow_sum {w d : Int} (hw : 0 ≤ w) (hd : 0 ≤ d) : (w + d).toNat = w.toNat + d.toNat := by omega
theorem pow_leI {k n : Int} (h : k ≤ n) : (2 : Int) ^ k.toNat ≤ 2 ^ n.toNat := by
  rw [← kbt_cast, ← kbt_cast]
  exact Int.ofNat_le.mpr (Nat.pow_le_pow_right (by decide) (by omega))
theorem mul_lt_pow {a w d : Int} (hw : 0 ≤ w) (hd : 0 ≤ d) (ha : a < 2 ^ w.toNat) : a * 2 ^ d.toNat < 2 ^ (w + d).toNat := by
  rw [pow_sum hw hd, Int.pow_add]
  exact Int.mul_lt_mul_of_pos_right ha (kbt_pos _)
theorem out_start {w d p i : Int} {ri : Bool} (hw : 1 ≤ w) (hw2 : w ≤ 8) (hd : 1 ≤ d) (hd2 : d ≤ 6) (hi : 0 ≤ i) (hi2 : i < 2 ^ w.toNat) :
    i * 2 ^ d.toNat = outZ w d p i ri [] ∧ 0 ≤ i * 2 ^ d.toNat ∧ i * 2 ^ d.toNat < 2 ^ (w + d).toNat := by
  refine ⟨?_, Int.mul_nonneg hi (Int.le_of_lt (kbt_pos _)), mul_lt_pow (by omega) (by omega) hi2⟩
  obtain ⟨i, rfl⟩ := eN hi
  rw [mulN]
  rfl
theorem in_start {w d p c : Int} (h0 : 0 ≤ c) (h1 : c < 16384) : (0 ≤ c ∧ c < 16384) ∧ c = inZ w d p c 0 ∧ 0 ≤ c ∧ c < 1048576 := by
  refine ⟨⟨h0, h1⟩, ?_, h0, by omega⟩
  unfold inZ inI
  omega
theorem inI_lt {top ps c k : Nat} (hc : c < 2 ^ k) (hp : ps < 2 ^ k) : ∀ j, inI top ps c j < 2 ^ (k + j)
  | 0 => hc
  | j + 1 => by
    have ih := inI_lt (top := top) hc hp j
    have h2 : inI top ps c j * 2 < 2 ^ (k + (j + 1)) := by rw [show k + (j + 1) = (k + j) + 1 by omega, Nat.pow_succ]; omega
    have h3 : ps < 2 ^ (k + (j + 1)) := Nat.lt_of_lt_of_le hp (Nat.pow_le_pow_right (by decide) (by omega))
    show inStep top ps (inI top ps c j) < _
    unfold inStep
    split
    · exact Nat.xor_lt_two_pow h2 h3
    · exact h2
theorem inZ_lt {w d p c : Int} {j : Nat} (hw : 1 ≤ w) (hw2 : w ≤ 8) (hd : 1 ≤ d) (hd2 : d ≤ 6) (hp : 0 ≤ p) (hp2 : p < 2 ^ w.toNat) (h0 : 0 ≤ c) (h1 : c < 16384) (hj : j ≤ 6) : 0 ≤ inZ w d p c j ∧ inZ w d p c j < 1048576 := by
  refine ⟨Int.natCast_nonneg _, ?_⟩
  obtain ⟨p, rfl⟩ := eN hp
  obtain ⟨c, rfl⟩ := eN h0
  have hps : p * 2 ^ d.toNat < 2 ^ 14 := by
    have h := mul_lt_pow (w := w) (d := d) (by omega) (by omega) hp2
    have h2 := pow_leI (k := w + d) (n := 14) (by omega)
    rw [mulN] at h
    have h3 : ((2 : Int) ^ (14 : Int).toNat) = ((2 ^ 14 : Nat) : Int) := by decide
    rw [h3] at h2
    exact Int.ofNat_lt.mp (Int.lt_of_lt_of_le h h2)
  have h := inI_lt (top := 2 ^ (w.toNat + d.toNat - 1)) (c := c) (ps := p * 2 ^ d.toNat) (k := 14) (by omega) hps j
  have h4 : 2 ^ (14 + j) ≤ 2 ^ 20 := Nat.pow_le_pow_right (by decide) (by omega)
  unfold inZ
  simp only [Int.toNat_natCast]
  have h5 : inI (2 ^ (w.toNat + d.toNat - 1)) (p * 2 ^ d.toNat) c j < 2 ^ 20 := Nat.lt_of_lt_of_le h h4
  omega
theorem inZ_nonneg (w d p c : Int) (j : Nat) : 0 ≤ inZ w d p c j := Int.natCast_nonneg _
theorem inZ_yes {w d p c : Int} {j : Nat} (hw : 1 ≤ w) (hd : 1 ≤ d) (hp : 0 ≤ p) (h : Builtin.bitAnd (inZ w d p c j) (1 * 2 ^ (w + d - 1).toNat) ≠ 0) : Builtin.bitXor (inZ w d p c j * 2) (p * 2 ^ d.toNat) = inZ w d p c (j + 1) := by
  obtain ⟨p, rfl⟩ := eN hp
  rw [Int.one_mul, ← kbt_cast, show (w + d - 1).toNat = w.toNat + d.toNat - 1 by omega] at h
  unfold inZ at h ⊢
  rw [andN] at h
  rw [mulN, mul2N, xorN, Int.toNat_natCast] at *
  show _ = ((inStep _ _ _ : Nat) : Int)
  unfold inStep
  rw [if_pos (by intro q; exact h (by rw [q]; rfl))]
theorem inZ_no {w d p c : Int} {j : Nat} (hw : 1 ≤ w) (hd : 1 ≤ d) (h : Builtin.bitAnd (inZ w d p c j) (1 * 2 ^ (w + d - 1).toNat) = 0) : inZ w d p c j * 2 = inZ w d p c (j + 1) := by
  rw [Int.one_mul, ← kbt_cast, show (w + d - 1).toNat = w.toNat + d.toNat - 1 by omega] at h
  unfold inZ at h ⊢
  rw [andN] at h
  rw [mul2N]
  show _ = ((inStep _ _ _ : Nat) : Int)
  unfold inStep
  rw [if_neg (by simp only [ne_eq, Decidable.not_not]; exact Int.ofNat_inj.mp h)]
theorem lt_toNat {n d : Int} (h0 : 0 ≤ n) (h : n < 2 ^ d.toNat) : n.toNat < 2 ^ d.toNat := by
  obtain ⟨n, rfl⟩ := eN h0
  rw [← kbt_cast] at h
  exact Int.ofNat_lt.mp h
theorem fdiv_nn {c : Int} {k : Nat} (h : 0 ≤ c) : 0 ≤ c.fdiv (2 ^ k) := by
  obtain ⟨c, rfl⟩ := eN h
  rw [fdivN]; exact Int.natCast_nonneg _
theorem fdiv_lt {c w d : Int} (hw : 0 ≤ w) (hd : 0 ≤ d) (h0 : 0 ≤ c) (h : c < 2 ^ (w + d).toNat) : c.fdiv (2 ^ d.toNat) < 2 ^ w.toNat := by
  obtain ⟨c, rfl⟩ := eN h0
  rw [fdivN, ← kbt_cast]
  rw [← kbt_cast, pow_sum hw hd, Nat.pow_add] at h
  exact Int.ofNat_lt.mpr (Nat.div_lt_of_lt_mul (by rw [Nat.mul_comm]; exact Int.ofNat_lt.mp h))
theorem xor_bound {a b : Int} {n : Nat} (ha : 0 ≤ a) (ha2 : a < 2 ^ n) (hb : 0 ≤ b) (hb2 : b < 2 ^ n) : 0 ≤ Builtin.bitXor a b ∧ Builtin.bitXor a b < 2 ^ n := by
  obtain ⟨a, rfl⟩ := eN ha
  obtain ⟨b, rfl⟩ := eN hb
  rw [← kbt_cast] at ha2 hb2
  rw [xorN, ← kbt_cast]
  exact ⟨Int.natCast_nonneg _, Int.ofNat_lt.mpr (Nat.xor_lt_two_pow (Int.ofNat_lt.mp ha2) (Int.ofNat_lt.mp hb2))⟩
theorem turnZ_nn (x d : Int) : 0 ≤ turnZ x d := Int.natCast_nonneg _
theorem turnZ_lt (x d : Int) : turnZ x d < 2 ^ d.toNat := by
  unfold turnZ
  rw [← kbt_cast]
  exact Int.ofNat_lt.mpr (turnN_lt _ _)
theorem in_start2 {w d p c x : Int} (hw : 1 ≤ w) (hd : 1 ≤ d) (hwd : (2 : Int) ^ (w + d).toNat ≤ 16384) (h0 : 0 ≤ c) (h1 : c < 2 ^ (w + d).toNat) (hx : 0 ≤ x) (hx2 : x < 2 ^ d.toNat) :
    (0 ≤ Builtin.bitXor c (x * 2 ^ w.toNat) ∧ Builtin.bitXor c (x * 2 ^ w.toNat) < 16384) ∧ Builtin.bitXor c (x * 2 ^ w.toNat) = inZ w d p (Builtin.bitXor c (x * 2 ^ w.toNat)) ([] : List Int).length ∧ 0 ≤ Builtin.bitXor c (x * 2 ^ w.toNat) ∧ Builtin.bitXor c (x * 2 ^ w.toNat) < 1048576 := by
  have hb := mul_lt_pow (w := d) (d := w) (by omega) (by omega) hx2
  rw [Int.add_comm] at hb
  have h := xor_bound h0 h1 (Int.mul_nonneg hx (Int.le_of_lt (kbt_pos _))) hb
  exact in_start h.1 (by omega)
theorem pow1 : (2 : Int) ^ Int.toNat 1 = 2 := by decide
theorem in_yes {w d p c₀ c k : Int} {pre : List Int} (hw : 1 ≤ w) (hw2 : w ≤ 8) (hd : 1 ≤ d) (hd2 : d ≤ 6) (hp : 0 ≤ p) (hp2 : p < 2 ^ w.toNat) (h0 : 0 ≤ c₀) (h1 : c₀ < 16384) (e : c = inZ w d p c₀ pre.length) (hl : pre.length < (d - 0).toNat)
    (h : Builtin.bitAnd c (1 * 2 ^ (w + d - 1).toNat) ≠ 0) :
    (0 ≤ c₀ ∧ c₀ < 16384) ∧ Builtin.bitXor (c * 2 ^ Int.toNat 1) (p * 2 ^ d.toNat) = inZ w d p c₀ (pre ++ [k]).length ∧ 0 ≤ Builtin.bitXor (c * 2 ^ Int.toNat 1) (p * 2 ^ d.toNat) ∧ Builtin.bitXor (c * 2 ^ Int.toNat 1) (p * 2 ^ d.toNat) < 1048576 := by
  have q : Builtin.bitXor (c * 2 ^ Int.toNat 1) (p * 2 ^ d.toNat) = inZ w d p c₀ (pre ++ [k]).length := by
    rw [pow1, List.length_append, List.length_singleton]
    subst e
    exact inZ_yes hw hd hp h
  rw [q]
  exact ⟨⟨h0, h1⟩, rfl, inZ_lt hw hw2 hd hd2 hp hp2 h0 h1 (by rw [List.length_append, List.length_singleton]; omega)⟩
theorem in_no {w d p c₀ c k : Int} {pre : List Int} (hw : 1 ≤ w) (hw2 : w ≤ 8) (hd : 1 ≤ d) (hd2 : d ≤ 6) (hp : 0 ≤ p) (hp2 : p < 2 ^ w.toNat) (h0 : 0 ≤ c₀) (h1 : c₀ < 16384) (e : c = inZ w d p c₀ pre.length) (hl : pre.length < (d - 0).toNat)
    (h : Builtin.bitAnd c (1 * 2 ^ (w + d - 1).toNat) = 0) :
    (0 ≤ c₀ ∧ c₀ < 16384) ∧ c * 2 ^ Int.toNat 1 = inZ w d p c₀ (pre ++ [k]).length ∧ 0 ≤ c * 2 ^ Int.toNat 1 ∧ c * 2 ^ Int.toNat 1 < 1048576 := by
  have q : c * 2 ^ Int.toNat 1 = inZ w d p c₀ (pre ++ [k]).length := by
    rw [pow1, List.length_append, List.length_singleton]
    subst e
    exact inZ_no hw hd h
  rw [q]
  exact ⟨⟨h0, h1⟩, rfl, inZ_lt hw hw2 hd hd2 hp hp2 h0 h1 (by rw [List.length_append, List.length_singleton]; omega)⟩
theorem out_turn {w d p i x xx co c : Int} {ri : Bool} {pre : List Int} (hw : 1 ≤ w) (hd : 1 ≤ d) (hx : 0 ≤ x) (hxx : xx = ((tw ri d.toNat x.toNat : Nat) : Int)) (ho : co = outZ w d p i ri pre)
    (e : c = inZ w d p (Builtin.bitXor co (xx * 2 ^ w.toNat)) (rangeKs 0 (d - 0).toNat).length) :
    Builtin.bitAnd c (1 * 2 ^ (w + d).toNat - 1) = outZ w d p i ri (pre ++ [x]) ∧ 0 ≤ Builtin.bitAnd c (1 * 2 ^ (w + d).toNat - 1) ∧ Builtin.bitAnd c (1 * 2 ^ (w + d).toNat - 1) < 2 ^ (w + d).toNat := by
  subst ho
  subst hxx
  have q : Builtin.bitAnd c (1 * 2 ^ (w + d).toNat - 1) = outZ w d p i ri (pre ++ [x]) := by
    rw [Int.one_mul, kbt_maskF, e, rangeKs_length, show (d - 0).toNat = d.toNat by omega]
    unfold inZ outZ
    rw [fmodN, mulN, xorN, Int.toNat_natCast, List.map_append, List.foldl_append, pow_sum (by omega) (by omega)]
    rfl
  refine ⟨q, ?_, ?_⟩
  · rw [q]; exact Int.natCast_nonneg _
  · rw [Int.one_mul, kbt_maskF]; exact (kbt_rest _ _).2
theorem tw_yes {x d : Int} : turnZ x d = ((tw true d.toNat x.toNat : Nat) : Int) := rfl
theorem tw_no {x d : Int} (hx : 0 ≤ x) : x = ((tw false d.toNat x.toNat : Nat) : Int) := by
  show x = ((x.toNat : Nat) : Int)
  omega
theorem comp_end {w d p i xo c r : Int} {ri ro : Bool} {xs : List Int} (ho : c = outZ w d p i ri xs) (hxo : 0 ≤ xo) (hr : r = ((tw ro w.toNat (c.fdiv (2 ^ d.toNat)).toNat : Nat) : Int)) : Builtin.bitXor r xo = compZ w d p i ri ro xo xs := by
  obtain ⟨xo, rfl⟩ := eN hxo
  subst hr
  subst ho
  rw [xorN]
  unfold outZ compZ compN
  rw [fdivN]
  simp only [Int.toNat_natCast]
theorem natAbs_turn {x d : Int} (hd : d ≤ 60) : (turnZ x d).natAbs < 2 ^ 64 := by
  have h1 := turnZ_nn x d
  have h2 := turnZ_lt x d
  have h3 := pow_leI (k := d) (n := 60) hd
  have h4 : (2 : Int) ^ (60 : Int).toNat = 2 ^ 60 := rfl
  omega
theorem pow_ltI {k n : Int} (h0 : 0 ≤ k) (h : k < n) : (2 : Int) ^ k.toNat < 2 ^ n.toNat := by
  rw [← kbt_cast, ← kbt_cast]
  exact Int.ofNat_lt.mpr (Nat.pow_lt_pow_right (by decide) (by omega))
theorem one_zero (d : Int) : ∀ x ∈ [(0 : Int)], 0 ≤ x ∧ x < 2 ^ d.toNat := fun x hx => by
  rw [List.mem_singleton.mp hx]
  exact ⟨Int.le_refl 0, kbt_pos _⟩
theorem one_pow {k d : Int} (h0 : 0 ≤ k) (h : k < d) : ∀ x ∈ [(2 : Int) ^ k.toNat], 0 ≤ x ∧ x < 2 ^ d.toNat := fun x hx => by
  rw [List.mem_singleton.mp hx]
  exact ⟨Int.le_of_lt (kbt_pos _), pow_ltI h0 h⟩
end Mine
namespace Mine
abbrev Led := List (Addr × Obj)
/-- what a call of the def at f gives: news is the ledger ahead, Post the answer and the ledger behind -/
def Gives (w : World) (mean : ExcName → Option Value) (mg mb : Str → Option Value) (D U : Nat) (f : Addr) (vs : List Value) (news : Led) (Post : Value → Led → Prop) : Prop :=
  ∀ (dp un : Nat) (gd : Option (List Code)) (cn : Str) (cs : Scope) (a : Addr) (ccd : Value) (cl : List (Str × Addr)) (outer : List Env) (A₀ : Around) (base h₀ : Heap) (L : Addr) (m : Str → Option Value) (s : Shared) (Q E : Value → Shared → Prop),
    Below A₀ base outer h₀ → Fr h₀ L s.heap m → (Mine.heapX w.params).In h₀ → News h₀ L s.heap news → Top Mine.viewX (looseW Mine.viewX [Str.ofString "operator", Str.ofString "Parameters"]) mean mg mb h₀ → cs.kind = .function → dp + D < recursionLimit → un + U < cLine →
    (∀ (r : Value) (news' : Led) (h' : Heap) (tk' : Nat), Fr h₀ L h' m → News h₀ L h' news' → Post r news' → Q r { s with heap := h', toks := tk' }) →
    wpAny (model PySem.Challenge.rw_ac0002_01.row.prog w) (ktrTop dp un gd cn cs L a ccd cl outer) (call (.ref f) vs) Q E s
/-- the same, with keyword arguments -/
def GivesK (w : World) (mean : ExcName → Option Value) (mg mb : Str → Option Value) (D U : Nat) (f : Addr) (vs : List Value) (kw : List (Str × Value)) (news : Led) (Post : Value → Led → Prop) : Prop :=
  ∀ (dp un : Nat) (gd : Option (List Code)) (cn : Str) (cs : Scope) (a : Addr) (ccd : Value) (cl : List (Str × Addr)) (outer : List Env) (A₀ : Around) (base h₀ : Heap) (L : Addr) (m : Str → Option Value) (s : Shared) (Q E : Value → Shared → Prop),
    Below A₀ base outer h₀ → Fr h₀ L s.heap m → (Mine.heapX w.params).In h₀ → News h₀ L s.heap news → Top Mine.viewX (looseW Mine.viewX [Str.ofString "operator", Str.ofString "Parameters"]) mean mg mb h₀ → cs.kind = .function → dp + D < recursionLimit → un + U < cLine →
    (∀ (r : Value) (news' : Led) (h' : Heap) (tk' : Nat), Fr h₀ L h' m → News h₀ L h' news' → Post r news' → Q r { s with heap := h', toks := tk' }) →
    wpAny (model PySem.Challenge.rw_ac0002_01.row.prog w) (ktrTop dp un gd cn cs L a ccd cl outer) (call (.ref f) vs kw) Q E s
section
variable {w : World} {mean : ExcName → Option Value} {mg mb : Str → Option Value} {D U : Nat} {f : Addr} {vs : List Value} {news : Led} {Post : Value → Led → Prop} {dp un : Nat} {gd : Option (List Code)} {cn : Str} {cs : Scope} {a : Addr} {ccd : Value} {cl : List (Str × Addr)} {outer : List Env} {A₀ : Around} {base h₀ : Heap} {L : Addr} {m : Str → Option Value} {s : Shared} {Q E : Value → Shared → Prop}
theorem Gives.use (G : Gives w mean mg mb D U f vs news Post) (B : Below A₀ base outer h₀) (F : Fr h₀ L s.heap m) (X : (Mine.heapX w.params).In h₀) (N : News h₀ L s.heap news) (T : Top Mine.viewX (looseW Mine.viewX [Str.ofString "operator", Str.ofString "Parameters"]) mean mg mb h₀) (hk : cs.kind = .function) (hd : dp + D < recursionLimit) (hu : un + U < cLine)
    (ret : ∀ (r : Value) (news' : Led) (h' : Heap) (tk' : Nat), Fr h₀ L h' m → News h₀ L h' news' → Post r news' → Q r { s with heap := h', toks := tk' }) :
    wpAny (model PySem.Challenge.rw_ac0002_01.row.prog w) (ktrTop dp un gd cn cs L a ccd cl outer) (call (.ref f) vs) Q E s := G _ _ _ _ _ _ _ _ _ _ _ _ _ _ _ _ _ B F X N T hk hd hu ret
theorem GivesK.use {kw : List (Str × Value)} (G : GivesK w mean mg mb D U f vs kw news Post) (B : Below A₀ base outer h₀) (F : Fr h₀ L s.heap m) (X : (Mine.heapX w.params).In h₀) (N : News h₀ L s.heap news) (T : Top Mine.viewX (looseW Mine.viewX [Str.ofString "operator", Str.ofString "Parameters"]) mean mg mb h₀) (hk : cs.kind = .function) (hd : dp + D < recursionLimit) (hu : un + U < cLine)
    (ret : ∀ (r : Value) (news' : Led) (h' : Heap) (tk' : Nat), Fr h₀ L h' m → News h₀ L h' news' → Post r news' → Q r { s with heap := h', toks := tk' }) :
    wpAny (model PySem.Challenge.rw_ac0002_01.row.prog w) (ktrTop dp un gd cn cs L a ccd cl outer) (call (.ref f) vs kw) Q E s := G _ _ _ _ _ _ _ _ _ _ _ _ _ _ _ _ _ B F X N T hk hd hu ret
theorem fin_int {x y : Int} {t : Tok} {h' : Heap} {tk' : Nat} (hret : ∀ (r : Value) (news' : Led) (h' : Heap) (tk' : Nat), Fr h₀ L h' m → News h₀ L h' news' → (fun r news' => news' = news ∧ ∃ t, r = .int x t) r news' → Q r { s with heap := h', toks := tk' })
    (F : Fr h₀ L h' m) (N : News h₀ L h' news) (e : y = x) : Q (.int y t) { s with heap := h', toks := tk' } := by
  subst e
  exact hret _ _ _ _ F N ⟨rfl, _, rfl⟩
theorem news_sub {news' : Led} {h : Heap} (N : News h₀ L h news') (hs : ∀ p ∈ news, p ∈ news') : News h₀ L h news := fun p hp => N p (hs p hp)
end
theorem off_lt {news : Led} {I : Addr} (h : ∀ p ∈ news, p.1 < I) : ∀ p ∈ news, p.1 ≠ I := fun p hp => Nat.ne_of_lt (h p hp)
section
variable {prog : Program} {w : World} {A : Around} {E : Value → Shared → Prop} {s : Shared} {h₀ : Heap} {L : Addr} {news : List (Addr × Obj)}
theorem m_len {l : Addr} {vs : List Value} {ns : List Int} {c : Nat} {Q : Value → Shared → Prop} (N : News h₀ L s.heap news) (hm : (l, listOf vs.toArray c) ∈ news) (hi : IntsAre vs ns) (hfit : ns.length < 2 ^ 62)
    (h : Q (.int (ns.length : Nat) (s.toks + 1)) { s with toks := s.toks + 1 + 1 }) : wpAny (model prog w) A (call (.builtin "len") [.ref l]) Q E s :=
  len_ints_fit (News.isList N hm) hi hfit h
theorem pow_short {k : Int} (h : k ≤ 60) : Builtin.Int.intBits ((2 : Int) ^ k.toNat) ≤ 64 := by
  have hc := kbt_cast k.toNat
  have hk : k.toNat ≤ 60 := by omega
  have h2 : 2 ^ k.toNat ≤ 2 ^ 60 := Nat.pow_le_pow_right (by decide) hk
  have h3 := Int.ofNat_le.mpr h2
  have h4 := kbt_pos k.toNat
  rw [hc] at h3
  generalize (2 : Int) ^ k.toNat = z at h3 h4 ⊢
  have h5 : ((2 ^ 60 : Nat) : Int) < 2 ^ 64 := by decide
  exact PySem.intBits_le_64 (by omega) (Int.lt_of_le_of_lt h3 h5)
theorem pow_le {k n : Int} (h : k ≤ n) : (2 : Int) ^ k.toNat ≤ 2 ^ n.toNat := by
  rw [← kbt_cast, ← kbt_cast]
  exact Int.ofNat_le.mpr (Nat.pow_le_pow_right (by decide) (by omega))
theorem contains_range {r : Addr} {a b x : Int} {t u v tx : Tok} {Q : Bool → Shared → Prop} (hr : IsRange s.heap r a b 1 t u v) (h1 : a ≤ x) (h2 : x < b)
    (h : ∀ tk, Q true { s with toks := tk }) : wpAny (model prog w) A (contains (.ref r) (.int x tx)) Q E s := by
  have hT : s.TypeIs (.ref r) "range" := ⟨_, hr, rfl⟩
  refine wpAny_contains_slot hT F.slot_range_contains (wpAny_call_entry F.slot_range_contains hT F.entry_range_contains ?_ (F.args_range_contains_2 _ _))
  obtain ⟨hp, g, d, tk, os⟩ := s
  unfold Builtin.«range.__contains__»
  wp_walk
  refine ⟨_, rfl, ?_⟩
  have e : (Builtin.Range.rangePlace? a b 1 x).isSome = true := by
    unfold Builtin.Range.rangePlace?
    simp [h1, h2, Int.emod_one]
  rw [e]
  exact wpAny_truthy_bool (h tk)
theorem notin_range {r : Addr} {a b x : Int} {t u v tx : Tok} {Q : Value → Shared → Prop} (hr : IsRange s.heap r a b 1 t u v) (h1 : a ≤ x) (h2 : x < b)
    (h : ∀ tk, Q (.bool false) { s with toks := tk }) : wpAny (model prog w) A (compareOp .NotIn (.int x tx) (.ref r)) Q E s := by
  show wpAny _ _ (do return .bool (!(← contains (.ref r) (.int x tx)))) Q E s
  exact wpAny_bind (contains_range hr h1 h2 fun tk => wpAny_pure (h tk))
end
section
local macro_rules | `(tactic| k_memK) => `(tactic| assumption)
local macro_rules | `(tactic| k_mem) => `(tactic| assumption)
local macro_rules | `(tactic| k_all) => `(tactic| assumption)
local macro_rules | `(tactic| walk_at "call builtin:len") => `(tactic| (k_here; (with_reducible show wpAny _ _ (call (Value.builtin _) [Value.ref _]) _ _ _); k_dflt (refine' m_len ?k1 ?k2 ?k3 ?k4 ?_; (case k1 => k_asm); (case k2 => k_mem); (case k3 => with_reducible assumption); (case k4 => omega); k_whole)))
local macro_rules | `(tactic| is_list) => `(tactic| exact News.isList (by k_asm) (by k_mem))
local macro_rules | `(tactic| cell_enter) => `(tactic| (refine' code_defC ?k1 ?k2 ?k3 ?k4 ?k5 ?kA ?kF ?kK ?k6 ?k7 ?k8 ?k9 ?kB ?kD ?_ ?c2 ?c3 ?c4; (case kA => exact rfl); (case kF => exact rfl); (case kK => assumption); (case k1 => k_asm); (case k2 => k_asm); (case k3 => k_asm); (case k4 => k_asm); (case k5 => k_asm); (case k6 => k_is); (case k7 => k_is); (case k8 => ktr_room); (case k9 => exact BindsTo.of_eq rfl); (case kB => exact rfl); (case kD => decide +kernel); (case c2 => exact rfl); (case c3 => exact rfl); (case c4 => exact rfl); k_whole; intro g' L' h' tk' cells' FG' F' N' Y' B' X' T' l1; (try k_lt l1); k_cells Y'; (try simp only [List.cons_append, List.nil_append] at N'); (try dsimp only); (try k_lift B'); (try k_fold)))
local macro_rules | `(tactic| k_steps) => `(tactic| repeat' ((fail_if_success (with_reducible show Hold _)); first | (k_unfold; (try dsimp only)) | walk1 | (dsimp only; walk1) | (leave1; walk_say "STEP leave1"; (try dsimp only)) | fail "no step"))
local macro_rules | `(tactic| walk_at "eval BinOp") => `(tactic| (k_here; k_gentoks; (try dsimp only); walk_say "TOKS"))
local macro_rules | `(tactic| walk_at "eval Name") => `(tactic| (k_here; k_gentoks; (try dsimp only); walk_say "TOKS"))
local macro_rules | `(tactic| walk_at "eval Constant") => `(tactic| (k_here; k_gentoks; (try dsimp only); walk_say "TOKS"))
local macro_rules | `(tactic| walk_at "eval Call") => `(tactic| (k_here; k_gentoks; (try dsimp only); walk_say "TOKS"))
local macro_rules | `(tactic| k_room) => `(tactic| ((try simp only [depth_under_make, depth_under_kw, depth_in1, depth_deeper, depth_caller]); (try dsimp only [ktrTop]); first | decide | omega | (simp only [recursionLimit] at *; omega)))
local macro_rules | `(tactic| walk_at "compareOp NotIn int ref") => `(tactic| (k_here; (with_reducible show wpAny _ _ (compareOp CmpOp.NotIn (Value.int _ _) (Value.ref _)) _ _ _); k_dflt (refine' notin_range ?k1 ?k2 ?k3 ?_; (case k1 => assumption); (case k2 => first | assumption | omega); (case k3 => first | assumption | omega); k_whole); intro tk'))
local macro_rules | `(tactic| walk_at "formatField int") => `(tactic| (k_here; (with_reducible show wpAny _ _ (formatField (Value.int _ _) (Str.empty ++ Str.ofString "0" ++ _ ++ _)) _ _ _); k_dflt (refine' fmt_field ?k1 ?k2 ?k3 ?k4 ?_; (case k1 => omega); (case k2 => omega); (case k3 => omega); (case k4 => first | assumption | omega); k_whole); intro t' k'))
local macro_rules | `(tactic| walk_at "subscriptTail") => `(tactic| (k_here; (with_reducible show wpAny _ _ (subscriptTail _ (Expr.Slice none none (some _) _) (Value.str (binS _ _) _) (Value.ref _)) _ _ _); (with_reducible rename Fr _ _ _ _ => F'); (with_reducible rename News _ _ _ _ => N'); (refine rev_tail (s := ⟨_, _, _, _, _⟩) F' N' (by omega) ?_); intro h' t' c' F' N'))
local macro_rules | `(tactic| walk_at "call type:int") => `(tactic| (k_here; (with_reducible show wpAny _ _ (call _ [Value.str (revS _ _) _, Value.int 2 _]) _ _ _); k_dflt (refine' call_int2 ?k1 ?k2 ?k3 ?_; (case k1 => omega); (case k2 => omega); (case k3 => assumption); k_whole); intro t' k'))
local macro_rules | `(tactic| mul_fits) => `(tactic| exact IntMulOk.of_right (pow_short (by omega)))
local macro_rules | `(tactic| walk_at "binaryOp LShift int int") => `(tactic| (k_here; (with_reducible refine lshift_int_small ?kb1 ?kb2 ?kb3 ?_); (case kb1 => omega); (case kb2 => omega); (case kb3 => first | omega | exact natAbs_turn (by omega))))
local macro_rules | `(tactic| k_enter) => `(tactic| (refine' code_def ?k1 ?k2 ?k3 ?k4 ?k5 ?kA ?kF ?kK ?k6 ?k7 ?k8 ?k9 ?kB ?_ ?c2 ?c3 ?c4 ?c5; (case kA => exact rfl); (case kF => exact rfl); (case kK => assumption); (case k1 => k_asm); (case k2 => k_asm); (case k3 => k_asm); (case k4 => k_asm); (case k5 => k_asm); (case k6 => k_is); (case k7 => k_is); (case k8 => k_room); (case k9 => first | exact BindsTo.of_eq rfl | exact binds_K (by k_in) rfl (by k_is) rfl rfl rfl | fail "k_enter: no rule for these arguments"); (case c5 => decide); (case kB => exact locs rfl); (case c2 => exact rfl); (case c3 => exact rfl); (case c4 => exact rfl); k_whole; intro g' L' h' FG' F' N' B' X' T'; (try dsimp only); (try k_lift B'); (try k_fold)))
section
theorem step_gives (w : World) (mean : ExcName → Option Value) (mg mb : Str → Option Value) (news : Led) (s b w' p : Int) (t1 t2 t3 t4 : Nat) (h1 : 1 ≤ w') (h2 : w' ≤ 8) (h3 : 0 ≤ s) (h5 : 0 ≤ p) (h7 : 0 ≤ b) :
    Gives w mean mg mb 2 16 161 [.int s t1, .int b t2, .int w' t3, .int p t4] news (fun r news' => news' = news ∧ ∃ t, r = .int (stepZ w' p s b) t) := by
  unfold Gives
  k_fill
  intro dp un gd cn cs a ccd cl outer A₀ base h₀ L m s Q E B F X N T hk hdp hun hret
  refine wpAny_call ?_
  k_dflt cell_enter
  w_on
  k_steps
  · exact fin_int hret (by assumption) (by assumption) (step_ne h1 h5 h3 h7 (by assumption))
  · exact fin_int hret (by assumption) (by assumption) (step_eq h1 h5 h3 h7 (by assumption))
theorem turned_gives (w : World) (mean : ExcName → Option Value) (mg mb : Str → Option Value) (news : Led) (n d : Int) (t1 t2 : Nat) (h1 : 1 ≤ d) (h2 : d ≤ 8) (h3 : 0 ≤ n) :
    Gives w mean mg mb 2 24 183 [.int n t1, .int d t2] news (fun r news' => news' = news ∧ ∃ t, r = .int (turnZ n d) t) := by
  unfold Gives
  k_fill
  intro dp un gd cn cs a ccd cl outer A₀ base h₀ L m s Q E B F X N T hk hdp hun hret
  refine wpAny_call ?_
  k_dflt cell_enter
  w_on
  k_steps
  · exact fin_int hret (by assumption) (news_sub (by assumption) (fun p hp => by simp [hp])) (turnZ_eq h3 (by omega))
theorem reflect_gives (w : World) (mean : ExcName → Option Value) (mg mb : Str → Option Value) (news : Led) (n d : Int) (t1 t2 : Nat) (h1 : 1 ≤ d) (h2 : d ≤ 8) (h3 : 0 ≤ n) (h4 : n < 2 ^ d.toNat) :
    Gives w mean mg mb 2 24 125 [.int n t1, .int d t2] news (fun r news' => news' = news ∧ ∃ t, r = .int (turnZ n d) t) := by
  have h5 := lt_toNat h3 h4
  unfold Gives
  k_fill
  intro dp un gd cn cs a ccd cl outer A₀ base h₀ L m s Q E B F X N T hk hdp hun hret
  refine wpAny_call ?_
  k_dflt cell_enter
  w_on
  k_steps
  · exact fin_int hret (by assumption) (by assumption) rfl
theorem bits_gives (w : World) (mean : ExcName → Option Value) (mg mb : Str → Option Value) (news : Led) (n d : Int) (t1 t2 : Nat) (h1 : 1 ≤ d) (h2 : d ≤ 8) (h3 : 0 ≤ n) :
    Gives w mean mg mb 2 24 173 [.int n t1, .int d t2] news (fun r news' => ∃ D ys, r = .ref D ∧ news' = (D, LCg.lst ys) :: news ∧ IntsAre ys (bitsZ n d) ∧ LCg.Off1 D news) := by
  unfold Gives
  k_fill
  intro dp un gd cn cs a ccd cl outer A₀ base h₀ L m s Q E B F X N T hk hdp hun hret
  refine wpAny_call ?_
  k_dflt cell_enter
  w_on
  k_steps
  · rename IntsAre _ _ => hI
    rename (_ ≠ _ ∧ LCg.Off1 _ _) => hO
    rename News _ _ _ (_ :: _ :: _) => hN
    rw [bitsZ_eq h3] at hI
    exact hret _ _ _ _ (by assumption) (news_sub hN (fun p hp => by rcases List.mem_cons.mp hp with rfl | hp <;> simp_all)) ⟨_, _, rfl, rfl, hI, hO.2⟩
end
section
local macro_rules | `(tactic| walk_at "call ref") => `(tactic| (k_here; k_dflt (refine' Gives.use (step_gives _ _ _ _ _ _ _ _ _ _ _ _ _ ?p1 ?p2 ?p3 ?p4 ?p5) ?kB ?kF ?kX ?kN ?kT ?kK ?kd ?ku ?_; (case kB => k_asm); (case kF => k_asm); (case kX => k_asm); (case kN => k_asm); (case kT => k_asm); (case kK => first | exact rfl | assumption); (case kd => ktr_room); (case ku => ktr_units); (case p1 => omega); (case p2 => omega); (case p3 => first | assumption | omega | exact stepZ_nonneg _ _ _ _ | exact wordZ_nonneg _ _ _ _ _ _ | exact timesZ_nonneg _ _ _ | exact fmod_lo _ (by decide)); (case p4 => first | assumption | omega | exact stepZ_nonneg _ _ _ _ | exact wordZ_nonneg _ _ _ _ _ _ | exact timesZ_nonneg _ _ _ | exact fmod_lo _ (by decide)); (case p5 => first | assumption | omega | exact stepZ_nonneg _ _ _ _ | exact wordZ_nonneg _ _ _ _ _ _ | exact timesZ_nonneg _ _ _ | exact fmod_lo _ (by decide)); k_whole); intro r' n' h' tk' F' N' hP'; obtain ⟨hn', t', hr'⟩ := hP'; subst hn'; subst hr'; (try dsimp only); (try k_fold); walk_say "STEP GIVES"))
theorem number_gives (w : World) (mean : ExcName → Option Value) (mg mb : Str → Option Value) (news : Led) (l : Addr) (nl : Nat) (vs : List Value) (ns : List Int) (hm : (l, listOf vs.toArray nl) ∈ news) (hi : IntsAre vs ns) (hl : ns.length ≤ 8) (hb : ∀ x ∈ ns, 0 ≤ x) :
    Gives w mean mg mb 2 24 178 [.ref l] news (fun r news' => news' = news ∧ ∃ t, r = .int (numZ ns) t) := by
  unfold Gives
  k_fill
  intro dp un gd cn cs a ccd cl outer A₀ base h₀ L m s Q E B F X N T hk hdp hun hret
  refine wpAny_call ?_
  k_dflt cell_enter
  w_on
  k_steps
  · exact fin_int hret (by assumption) (news_sub (by assumption) (fun p hp => by simp [hp])) (numZ_eq hb)
theorem word_gives (w : World) (mean : ExcName → Option Value) (mg mb : Str → Option Value) (news : Led) (st wo d w' p : Int) (t1 t2 t3 t4 t5 : Nat) (h1 : 1 ≤ w') (h2 : w' ≤ 8) (h3 : 0 ≤ st) (h4 : 0 ≤ wo) (h7 : 1 ≤ d) (h8 : d ≤ 6) (h9 : 0 ≤ p) :
    Gives w mean mg mb 4 48 168 [.int st t1, .int wo t2, .int d t3, .int w' t4, .int p t5] news (fun r news' => news' = news ∧ ∃ t, r = .int (wordZ w' p d wo st d.toNat) t) := by
  unfold Gives
  k_fill
  intro dp un gd cn cs a ccd cl outer A₀ base h₀ L m s Q E B F X N T hk hdp hun hret
  refine wpAny_call ?_
  k_dflt cell_enter
  w_on
  k_with "pyIter ref" => k_state (fun pre (x : Int) => x = wordZ w' p d wo st pre.length ∧ 0 ≤ x) "state"
  k_with "state" => first | exact ⟨wordZ_zero _ _ _ _ h3, h3⟩ | exact word_turn h4 ⟨by assumption, by assumption⟩ (by assumption) (by assumption)
  k_steps
  · rename (_ = wordZ _ _ _ _ _ _) => hz
    rw [downKs_length, show (d - 1 - -1).toNat = d.toNat by omega] at hz
    exact fin_int hret (by assumption) (by assumption) hz
theorem times_gives (w : World) (mean : ExcName → Option Value) (mg mb : Str → Option Value) (news : Led) (l : Addr) (nl : Nat) (vs : List Value) (ns : List Int) (n : Int) (t1 : Nat) (hm : (l, listOf vs.toArray nl) ∈ news) (hi : IntsAre vs ns) (hl : ns.length ≤ 8) (hb : ∀ x ∈ ns, 0 ≤ x) (hn : 0 ≤ n) :
    Gives w mean mg mb 2 24 190 [.ref l, .int n t1] news (fun r news' => news' = news ∧ ∃ t, r = .int (timesZ ns n ns.length) t) := by
  unfold Gives
  k_fill
  intro dp un gd cn cs a ccd cl outer A₀ base h₀ L m s Q E B F X N T hk hdp hun hret
  refine wpAny_call ?_
  k_dflt cell_enter
  w_on
  k_with "pyIter ref" => k_state (fun pre (x : Int) => x = timesZ ns n pre.length) "res"
  k_with "state" => first | exact timesZ_zero _ _ | exact times_turn_yes hn hb (by assumption) (by assumption) (by assumption) (by omega) (by assumption) | exact times_turn_no hn (by assumption) (by assumption) (by assumption)
  k_steps
  · rename (_ = timesZ _ _ _) => hz
    rw [rangeKs_length, show ((ns.length : Int) - 0).toNat = ns.length by omega] at hz
    exact fin_int hret (by assumption) (by assumption) hz
end
section
theorem draw_gives (w : World) (mean : ExcName → Option Value) (mg mb : Str → Option Value) (rest : Led) (b l : Addr) (k many : Int) (t nb nl tm : Nat) (vs : List Value) (ns : List Int) (hm : (l, listOf vs.toArray nl) ∈ rest) (hi : IntsAre vs ns) (hne : ∀ p ∈ rest, p.1 ≠ b) (hl : ns.length ≤ 30) (hk0 : 0 ≤ k) (hk1 : k ≤ 40) (hmany : 0 < many) :
    Gives w mean mg mb 2 24 154 [.ref b, .int many tm] ((b, listOf [Value.ref l, Value.int k t].toArray nb) :: rest) (fun r news' => ∃ v tv t', r = .int v tv ∧ 0 ≤ v ∧ v < many ∧ news' = (b, listOf [Value.ref l, Value.int (k + 1) t'].toArray nb) :: rest) := by
  unfold Gives
  k_fill
  intro dp un gd cn cs a ccd cl outer A₀ base h₀ L m s Q E B F X N T hk hdp hun hret
  refine wpAny_call ?_
  k_dflt cell_enter
  w_on
  k_steps
  · exact hret _ _ _ _ (by assumption) (by assumption) ⟨_, _, _, rfl, Int.le_refl 0, hmany, rfl⟩
  · exact hret _ _ _ _ (by assumption) (by assumption) ⟨_, _, _, rfl, fmod_lo _ hmany, fmod_hi _ hmany, rfl⟩
end
section
local macro_rules | `(tactic| walk_at "call ref") => `(tactic| (k_here; k_dflt (refine' Gives.use (reflect_gives _ _ _ _ _ _ _ _ _ ?p1 ?p2 ?p3 ?p4) ?kB ?kF ?kX ?kN ?kT ?kK ?kd ?ku ?_; (case kB => k_asm); (case kF => k_asm); (case kX => k_asm); (case kN => k_asm); (case kT => k_asm); (case kK => first | exact rfl | assumption); (case kd => ktr_room); (case ku => ktr_units); (case p1 => omega); (case p2 => omega); (case p3 => first | assumption | omega | exact fdiv_nn (by omega)); (case p4 => first | assumption | omega | exact fdiv_lt (by omega) (by omega) (by omega) (by omega)); k_whole); intro r' n' h' tk' F' N' hP'; obtain ⟨hn', t', hr'⟩ := hP'; subst hn'; subst hr'; (try dsimp only); (try k_fold); walk_say "REFLECT GIVES"))
local macro_rules | `(tactic| walk_at "isTrue UnaryOp") => `(tactic| (k_here; (rename (@Membership.mem Int (List Int) _ _ _) => hMem9); (have hB9 := (show ∀ x ∈ _, (0 : Int) ≤ x ∧ x < _ from by assumption) _ hMem9); clear hMem9; walk_say "THE WORD"))
theorem compute_gives (w : World) (mean : ExcName → Option Value) (mg mb : Str → Option Value) (news : Led) (x dx : Addr) (W P I0 X0 D : Int) (ri ro : Bool) (u1 u2 u3 u6 u7 j1 j2 j3 j4 j5 j6 j7 nd : Nat) (hx : (x, instObj 143 dx) ∈ news) (hxd : (dx, dictOf [⟨PyData.keyHash w.params (Str.ofString "_crc_width"), .str (Str.ofString "_crc_width") j1, .int W u1⟩, ⟨PyData.keyHash w.params (Str.ofString "_polynomial"), .str (Str.ofString "_polynomial") j2, .int P u2⟩, ⟨PyData.keyHash w.params (Str.ofString "_initial_crc"), .str (Str.ofString "_initial_crc") j3, .int I0 u3⟩, ⟨PyData.keyHash w.params (Str.ofString "_reflect_input"), .str (Str.ofString "_reflect_input") j4, .bool ri⟩, ⟨PyData.keyHash w.params (Str.ofString "_reflect_output"), .str (Str.ofString "_reflect_output") j5, .bool ro⟩, ⟨PyData.keyHash w.params (Str.ofString "_xor_output"), .str (Str.ofString "_xor_output") j6, .int X0 u6⟩, ⟨PyData.keyHash w.params (Str.ofString "data_width"), .str (Str.ofString "data_width") j7, .int D u7⟩] nd) ∈ news) (hW1 : 1 ≤ W) (hW2 : W ≤ 8) (hP1 : 0 ≤ P) (hP2 : P < 2 ^ W.toNat) (hI1 : 0 ≤ I0) (hI2 : I0 < 2 ^ W.toNat) (hX1 : 0 ≤ X0) (hX2 : X0 < 2 ^ W.toNat) (hD1 : 1 ≤ D) (hD2 : D ≤ 6) (l : Addr) (nl : Nat) (vs : List Value) (ns : List Int) (hm : (l, listOf vs.toArray nl) ∈ news) (hi : IntsAre vs ns) (hl : ns.length ≤ 8) (hb : ∀ x ∈ ns, 0 ≤ x ∧ x < 2 ^ D.toNat) :
    Gives w mean mg mb 4 100 118 [.ref x, .ref l] news (fun r news' => news' = news ∧ ∃ t, r = .int (compZ W D P I0 ri ro X0 ns) t) := by
  unfold Gives
  k_fill
  intro dp un gd cn cs a ccd cl outer A₀ base h₀ L m s Q E B F X N T hk hdp hun hret
  refine wpAny_call ?_
  k_dflt cell_enter
  w_on
  have hP3 : P < 256 := Int.lt_of_lt_of_le hP2 (pow_le hW2)
  have hI3 : I0 < 256 := Int.lt_of_lt_of_le hI2 (pow_le hW2)
  have hD3 : (2 : Int) ^ D.toNat ≤ 64 := pow_le hD2
  have hW3 : (2 : Int) ^ W.toNat ≤ 256 := pow_le hW2
  have hWD : (2 : Int) ^ (W + D).toNat ≤ 16384 := pow_le (n := 14) (by omega)
  k_with "pyIter ref" => k_of "word" => k_state (fun pre (c : Int) => c = outZ W D P I0 ri pre ∧ 0 ≤ c ∧ c < 2 ^ (W + D).toNat) "crc"
  k_with "pyIter ref" => k_of "_" => k_state_given ["crc!"] (fun (c₀ : Int) pre (c : Int) => (0 ≤ c₀ ∧ c₀ < 16384) ∧ c = inZ W D P c₀ pre.length ∧ 0 ≤ c ∧ c < 1048576) "crc"
  k_with "state" => first
    | with_reducible exact out_start hW1 hW2 hD1 hD2 hI1 hI2
    | with_reducible exact in_start2 hW1 hD1 hWD (by assumption) (by assumption) (turnZ_nn _ _) (turnZ_lt _ _)
    | with_reducible exact in_start2 hW1 hD1 hWD (by assumption) (by assumption) (by omega) (by omega)
    | with_reducible exact in_yes hW1 hW2 hD1 hD2 hP1 hP2 (by assumption) (by assumption) (by assumption) (by assumption) (by assumption)
    | with_reducible exact in_no hW1 hW2 hD1 hD2 hP1 hP2 (by assumption) (by assumption) (by assumption) (by assumption) (by assumption)
    | ((rename (_ = true) => hri); subst hri; with_reducible exact out_turn hW1 hD1 (by omega) tw_yes (by assumption) (by assumption))
    | ((rename (_ = false) => hri); subst hri; with_reducible exact out_turn hW1 hD1 (by omega) (tw_no (by omega)) (by assumption) (by assumption))
  k_steps
  · rename (_ = true) => hro
    subst hro
    exact fin_int hret (by assumption) (by assumption) (comp_end (by assumption) hX1 rfl)
  · rename (_ = false) => hro
    subst hro
    exact fin_int hret (by assumption) (by assumption) (comp_end (by assumption) hX1 (tw_no (fdiv_nn (by omega))))
end
section
inductive AlgPost (w : World) (W P I0 X0 : Int) (ri ro : Bool) (u1 u2 u3 u6 : Nat) (news : Led) (r : Value) (news' : Led) : Prop
  | mk (x dx : Addr) (j1 j2 j3 j4 j5 j6 : Nat) (h0 : r = .ref x) (h1 : news' = (x, instObj 77 dx) :: (dx, dictOf [⟨PyData.keyHash w.params (Str.ofString "crc_width"), .str (Str.ofString "crc_width") j1, .int W u1⟩, ⟨PyData.keyHash w.params (Str.ofString "polynomial"), .str (Str.ofString "polynomial") j2, .int P u2⟩, ⟨PyData.keyHash w.params (Str.ofString "initial_crc"), .str (Str.ofString "initial_crc") j3, .int I0 u3⟩, ⟨PyData.keyHash w.params (Str.ofString "reflect_input"), .str (Str.ofString "reflect_input") j4, .bool ri⟩, ⟨PyData.keyHash w.params (Str.ofString "reflect_output"), .str (Str.ofString "reflect_output") j5, .bool ro⟩, ⟨PyData.keyHash w.params (Str.ofString "xor_output"), .str (Str.ofString "xor_output") j6, .int X0 u6⟩] 6) :: news) (h2 : ∀ p ∈ news, p.1 < dx) (h3 : @LT.lt Nat _ dx x) : AlgPost w W P I0 X0 ri ro u1 u2 u3 u6 news r news'
inductive ParPost (w : World) (W P I0 X0 D : Int) (ri ro : Bool) (u1 u2 u3 u6 u7 : Nat) (news : Led) (r : Value) (news' : Led) : Prop
  | mk (x dx : Addr) (k1 k2 k3 k4 k5 k6 k7 : Nat) (h0 : r = .ref x) (h1 : news' = (x, instObj 143 dx) :: (dx, dictOf [⟨PyData.keyHash w.params (Str.ofString "_crc_width"), .str (Str.ofString "_crc_width") k1, .int W u1⟩, ⟨PyData.keyHash w.params (Str.ofString "_polynomial"), .str (Str.ofString "_polynomial") k2, .int P u2⟩, ⟨PyData.keyHash w.params (Str.ofString "_initial_crc"), .str (Str.ofString "_initial_crc") k3, .int I0 u3⟩, ⟨PyData.keyHash w.params (Str.ofString "_reflect_input"), .str (Str.ofString "_reflect_input") k4, .bool ri⟩, ⟨PyData.keyHash w.params (Str.ofString "_reflect_output"), .str (Str.ofString "_reflect_output") k5, .bool ro⟩, ⟨PyData.keyHash w.params (Str.ofString "_xor_output"), .str (Str.ofString "_xor_output") k6, .int X0 u6⟩, ⟨PyData.keyHash w.params (Str.ofString "data_width"), .str (Str.ofString "data_width") k7, .int D u7⟩] 7) :: news) (h2 : ∀ p ∈ news, p.1 < dx) (h3 : @LT.lt Nat _ dx x) : ParPost w W P I0 X0 D ri ro u1 u2 u3 u6 u7 news r news'
theorem alg_gives (w : World) (mean : ExcName → Option Value) (mg mb : Str → Option Value) (news : Led) (W P I0 X0 : Int) (ri ro : Bool) (u1 u2 u3 u6 : Nat) (hW1 : 1 ≤ W) (hW2 : W ≤ 8) (hP1 : 0 ≤ P) (hP2 : P < 2 ^ W.toNat) (hI1 : 0 ≤ I0) (hI2 : I0 < 2 ^ W.toNat) (hX1 : 0 ≤ X0) (hX2 : X0 < 2 ^ W.toNat) :
    GivesK w mean mg mb 6 80 77 [] [(Str.ofString "crc_width", .int W u1), (Str.ofString "polynomial", .int P u2), (Str.ofString "initial_crc", .int I0 u3), (Str.ofString "reflect_input", .bool ri), (Str.ofString "reflect_output", .bool ro), (Str.ofString "xor_output", .int X0 u6)] news (AlgPost w W P I0 X0 ri ro u1 u2 u3 u6 news) := by
  unfold GivesK
  k_fill
  intro dp un gd cn cs a ccd cl outer A₀ base h₀ L m s Q E B F X N T hk hdp hun hret
  w_on
  k_steps
  · rename News _ _ _ (_ :: _ :: _) => hN
    exact hret _ _ _ _ (by assumption) hN ⟨_, _, _, _, _, _, _, _, rfl, rfl, (by assumption), (by assumption)⟩
theorem par_gives (w : World) (mean : ExcName → Option Value) (mg mb : Str → Option Value) (news : Led) (a da : Addr) (W P I0 X0 D : Int) (ri ro : Bool) (u1 u2 u3 u6 u7 j1 j2 j3 j4 j5 j6 na : Nat) (ha : (a, instObj 77 da) ∈ news) (hda : (da, dictOf [⟨PyData.keyHash w.params (Str.ofString "crc_width"), .str (Str.ofString "crc_width") j1, .int W u1⟩, ⟨PyData.keyHash w.params (Str.ofString "polynomial"), .str (Str.ofString "polynomial") j2, .int P u2⟩, ⟨PyData.keyHash w.params (Str.ofString "initial_crc"), .str (Str.ofString "initial_crc") j3, .int I0 u3⟩, ⟨PyData.keyHash w.params (Str.ofString "reflect_input"), .str (Str.ofString "reflect_input") j4, .bool ri⟩, ⟨PyData.keyHash w.params (Str.ofString "reflect_output"), .str (Str.ofString "reflect_output") j5, .bool ro⟩, ⟨PyData.keyHash w.params (Str.ofString "xor_output"), .str (Str.ofString "xor_output") j6, .int X0 u6⟩] na) ∈ news) (hD1 : 1 ≤ D) (hD2 : D ≤ 6) :
    Gives w mean mg mb 6 80 143 [.ref a, .int D u7] news (ParPost w W P I0 X0 D ri ro u1 u2 u3 u6 u7 news) := by
  unfold Gives
  k_fill
  intro dp un gd cn cs a ccd cl outer A₀ base h₀ L m s Q E B F X N T hk hdp hun hret
  w_on
  k_steps
  · rename News _ _ _ (_ :: _ :: _) => hN
    exact hret _ _ _ _ (by assumption) hN ⟨_, _, _, _, _, _, _, _, _, rfl, rfl, (by assumption), (by assumption)⟩
end
section
local macro_rules | `(tactic| walk_at "call ref") => `(tactic| (k_here; k_dflt (refine' GivesK.use (alg_gives _ _ _ _ _ _ _ _ _ _ _ _ _ _ _ ?q1 ?q2 ?q3 ?q4 ?q5 ?q6 ?q7 ?q8) ?kB ?kF ?kX ?kN ?kT ?kK ?kd ?ku ?_; (case kB => k_asm); (case kF => k_asm); (case kX => k_asm); (case kN => k_asm); (case kT => k_asm); (case kK => first | exact rfl | assumption); (case kd => ktr_room); (case ku => ktr_units); (case q1 => omega); (case q2 => omega); (case q3 => omega); (case q4 => first | assumption | omega); (case q5 => omega); (case q6 => first | assumption | omega | exact kbt_pos _); (case q7 => omega); (case q8 => first | assumption | omega | exact kbt_pos _); k_whole); intro r' n' h' tk' F' N' hP'; obtain ⟨x', d', j1', j2', j3', j4', j5', j6', hr', hn', l1, l2⟩ := hP'; subst hn'; subst hr'; (try k_lt l1); (try k_lt2 l2); (try k_sweep); (try dsimp only); (try k_fold); walk_say "ALGORITHM GIVES"))
local macro_rules | `(tactic| walk_at "call ref") => `(tactic| (k_here; k_dflt (refine' Gives.use (par_gives _ _ _ _ _ _ _ _ _ _ _ _ _ _ _ _ _ _ _ _ _ _ _ _ _ _ ?p1 ?p2 ?q1 ?q2) ?kB ?kF ?kX ?kN ?kT ?kK ?kd ?ku ?_; (case kB => k_asm); (case kF => k_asm); (case kX => k_asm); (case kN => k_asm); (case kT => k_asm); (case kK => first | exact rfl | assumption); (case kd => ktr_room); (case ku => ktr_units); (case p1 => k_mem); (case p2 => k_mem); (case q1 => omega); (case q2 => omega); k_whole); intro r' n' h' tk' F' N' hP'; obtain ⟨x', d', j1', j2', j3', j4', j5', j6', j7', hr', hn', l1, l2⟩ := hP'; subst hn'; subst hr'; (try k_lt l1); (try k_lt2 l2); (try k_sweep); (try dsimp only); (try k_fold); walk_say "PARAMETERS GIVES"))
theorem told_gives (w : World) (mean : ExcName → Option Value) (mg mb : Str → Option Value) (news : Led) (x dx : Addr) (W P I0 X0 D : Int) (ri ro : Bool) (u1 u2 u3 u6 u7 j1 j2 j3 j4 j5 j6 j7 nd : Nat) (hx : (x, instObj 143 dx) ∈ news) (hxd : (dx, dictOf [⟨PyData.keyHash w.params (Str.ofString "_crc_width"), .str (Str.ofString "_crc_width") j1, .int W u1⟩, ⟨PyData.keyHash w.params (Str.ofString "_polynomial"), .str (Str.ofString "_polynomial") j2, .int P u2⟩, ⟨PyData.keyHash w.params (Str.ofString "_initial_crc"), .str (Str.ofString "_initial_crc") j3, .int I0 u3⟩, ⟨PyData.keyHash w.params (Str.ofString "_reflect_input"), .str (Str.ofString "_reflect_input") j4, .bool ri⟩, ⟨PyData.keyHash w.params (Str.ofString "_reflect_output"), .str (Str.ofString "_reflect_output") j5, .bool ro⟩, ⟨PyData.keyHash w.params (Str.ofString "_xor_output"), .str (Str.ofString "_xor_output") j6, .int X0 u6⟩, ⟨PyData.keyHash w.params (Str.ofString "data_width"), .str (Str.ofString "data_width") j7, .int D u7⟩] nd) ∈ news) (hW1 : 1 ≤ W) (hW2 : W ≤ 8) (hP1 : 0 ≤ P) (hP2 : P < 2 ^ W.toNat) (hI1 : 0 ≤ I0) (hI2 : I0 < 2 ^ W.toNat) (hX1 : 0 ≤ X0) (hX2 : X0 < 2 ^ W.toNat) (hD1 : 1 ≤ D) (hD2 : D ≤ 6) :
    Gives w mean mg mb 12 200 197 [.ref x] news (fun r news' => ∃ T, r = .ref T ∧ news' = (T, listOf [Value.int W u1, Value.int P u2, Value.int I0 u3, Value.bool ri, Value.bool ro, Value.int X0 u6, Value.int D u7].toArray 0) :: news ∧ AllLt T news) := by
  unfold Gives
  k_fill
  intro dp un gd cn cs a ccd cl outer A₀ base h₀ L m s Q E B F X N T hk hdp hun hret
  refine wpAny_call ?_
  k_dflt cell_enter
  w_on
  k_steps
  · rename News _ _ _ (_ :: _ :: _ :: _) => hN
    rename (_ ∧ _ ∧ AllLt _ _) => hL
    exact hret _ _ _ _ (by assumption) (news_sub hN (fun p hp => by rcases List.mem_cons.mp hp with rfl | hp <;> simp_all)) ⟨_, rfl, rfl, hL.2.2⟩
end
section
variable {prog : Program} {w : World} {A : Around} {E : Value → Shared → Prop} {s : Shared} {env : Env} {h₀ : Heap} {x : Str} {body : List Stmt} {Q : Flow → Shared → Prop}
theorem loop_rangeL {L r : Addr} {b : Int} {t u v : Tok} {m₀ : Str → Option Value} {news : List (Addr × Obj)} (J : Nat → (Str → Option Value) → List (Addr × Obj) → Prop) (hLe : env.locals = L)
    (hh : A.handled = none) (hr : IsRange s.heap r 0 b 1 t u v) (hb0 : 0 ≤ b) (hb : b ≤ 1000) (F : Fr h₀ L s.heap m₀) (N : News h₀ L s.heap news) (hj : J 0 m₀ news)
    (turn : ∀ (i : Nat) tk₀ m₁ news₁ h tk I oI, (i : Int) < b → J i m₁ news₁ → (∀ p ∈ news₁, p.1 ≠ I) → Fr h₀ L h (fun y => if y = x then some (.int (i : Int) tk₀) else m₁ y) → News h₀ L h ((I, oI) :: news₁) →
      wpAny (model prog w) A (execs body env) (TurnEnd h₀ L I oI (J (i + 1)) { s with heap := h, toks := tk }) E { s with heap := h, toks := tk })
    (done : ∀ m₁ news₁ h tk, J b.toNat m₁ news₁ → Fr h₀ L h m₁ → News h₀ L h news₁ → Q .next { s with heap := h, toks := tk }) :
    wpAny (model prog w) A (pyIter (.ref r)) (fun it s₂ => LoopAtV prog w A h₀ env x body Q E it s₂) E s := by
  subst hLe
  exact loop_rangeG J hh hr hb0 hb F N hj turn done
end
def rowD (W D P v : Int) (xs : List Int) : Dat := .list ((bitsZ (compZ W D P v false false 0 xs) W).map .int)
def rowsF (W D P : Int) (i : Nat) : List Dat := (List.range i).map fun (k : Nat) => rowD W D P (2 ^ (k : Int).toNat) [0]
def rowsG (W D P : Int) (i : Nat) : List Dat := (List.range i).map fun (k : Nat) => rowD W D P 0 [2 ^ (k : Int).toNat]
theorem rowsF_succ (W D P : Int) (i : Nat) : rowsF W D P (i + 1) = rowsF W D P i ++ [rowD W D P (2 ^ (i : Int).toNat) [0]] := by simp [rowsF, List.range_succ]
theorem rowsG_succ (W D P : Int) (i : Nat) : rowsG W D P (i + 1) = rowsG W D P i ++ [rowD W D P 0 [2 ^ (i : Int).toNat]] := by simp [rowsG, List.range_succ]
theorem comp_row {W D P v x : Int} (hW : 1 ≤ W) (hP1 : 0 ≤ P) (hP2 : P < 2 ^ W.toNat) (hv1 : 0 ≤ v) (hv2 : v < 2 ^ W.toNat) (hx1 : 0 ≤ x) (hx2 : x < 2 ^ D.toNat) :
    compZ W D P v false false 0 [x] = wordZ W P D x v D.toNat := by
  unfold compZ wordZ
  rw [compN_eq (by omega) (lt_toNat hP1 hP2) (lt_toNat hv1 hv2) (fun y hy => by rw [List.map_cons, List.map_nil] at hy; rw [List.mem_singleton.mp hy]; exact lt_toNat hx1 hx2)]
  show ((regN W.toNat P.toNat D.toNat false v.toNat [x.toNat] ^^^ 0 : Nat) : Int) = _
  rw [Nat.xor_zero]
  rfl
theorem comp_row_lt {W D P v x : Int} (hW : 1 ≤ W) (hP1 : 0 ≤ P) (hP2 : P < 2 ^ W.toNat) (hv1 : 0 ≤ v) (hv2 : v < 2 ^ W.toNat) (hx1 : 0 ≤ x) (hx2 : x < 2 ^ D.toNat) :
    0 ≤ compZ W D P v false false 0 [x] ∧ compZ W D P v false false 0 [x] < 2 ^ W.toNat := by
  rw [comp_row hW hP1 hP2 hv1 hv2 hx1 hx2]
  refine ⟨Int.natCast_nonneg _, ?_⟩
  unfold wordZ
  rw [← kbt_cast]
  exact Int.ofNat_lt.mpr (wordN_lt (lt_toNat hP1 hP2) (lt_toNat hv1 hv2))
theorem bitsZ_range (n W : Int) : (List.range W.toNat).map (fun k => ((n.toNat / 2 ^ k % 2 : Nat) : Int)) = bitsZ n W := by
  unfold bitsZ bitsN
  rw [List.map_map]
  rfl
theorem binS_at {W n i c : Nat} (hi : i < W) (h : (binS W n).cps[(binS W n).length - 1 - i]? = some c) : c = 48 + n / 2 ^ i % 2 := by
  rw [binS_len] at h
  unfold binS binL at h
  simp only [List.getElem?_toArray, List.getElem?_map] at h
  rw [List.getElem?_range (by omega)] at h
  simp only [Option.map_some, Option.some.injEq] at h
  rw [← h, show W - 1 - (W - 1 - i) = i by omega]
theorem intsAre_one {t : Tok} {n : Int} {ys : List Value} {ns : List Int} (h : IntsAre ys ns) : IntsAre (ys ++ [.int n t]) (ns ++ [n]) := by
  induction h with
  | nil => exact .cons _ _ .nil
  | cons a b r ih => exact .cons _ _ ih
section
variable {prog : Program} {w : World} {A : Around} {h₀ : Heap} {L : Addr} {m : Str → Option Value} {env : Env} {elt : PySem.Expr} {x : Str} {scope : Scope} {cl : List (Str × Addr)} {s : Shared} {Fin : Shared → List Value → List (Addr × Obj) → Prop} {news : List (Addr × Obj)} {I : Addr}
theorem rvd_bits {W n : Int} {t : Tok} (hh : A.handled = none) (hW : W.toNat ≤ 64) (F : Fr h₀ L s.heap m) (N : News h₀ L s.heap ((I, rvdObj (.str (binS W.toNat n.toNat) t) (((binS W.toNat n.toNat).length : Int) - 1)) :: news)) (off : ∀ p ∈ news, p.1 ≠ I)
    (turn : ∀ b t' I oI C oC D ys m₂ h tk (Q E' : Value → Shared → Prop), b < 2 → LCg.NsObj oC m₂ → m₂ x = some (.str ⟨#[48 + b]⟩ t') → Fr h₀ L h m → News h₀ L h ((I, oI) :: (C, oC) :: (D, LCg.lst ys) :: news) →
      (∀ h' tk' tt, Fr h₀ L h' m → News h₀ L h' ((I, oI) :: (C, oC) :: (D, LCg.lst ys) :: news) → Q (.int (b : Nat) tt) { s with heap := h', toks := tk' }) →
      wpAny (model prog w) A (eval elt (compEnvC scope cl C env)) Q E' { s with heap := h, toks := tk })
    (fin : ∀ ys, IntsAre ys (bitsZ n W) → Fin s ys news) : CompRvd prog w A h₀ L m env elt x scope cl Fin (.ref I) s := by
  refine ⟨I, binS W.toNat n.toNat, t, news, rfl, hh, F, N, off, by rw [binS_len]; exact hW, ?_⟩
  refine rest_of (fun i ys nw => nw = news ∧ IntsAre ys ((List.range i).map fun k => ((n.toNat / 2 ^ k % 2 : Nat) : Int))) ?_ ⟨rfl, .nil⟩ ?_
  · rintro i v ys nw I2 oI C oC D m₂ h tk E' hi ⟨c, t', hc, rfl⟩ ⟨rfl, hI⟩ hC hx F₁ N₁ off₁ ne
    rw [binS_len] at hi
    have e := binS_at hi hc
    subst e
    refine turn _ t' I2 oI C oC D ys m₂ h tk (LCg.CompEnd h₀ L m { s with heap := h, toks := tk } I2 oI C oC D (LCg.lst ys) (fun _ => True) (fun y news' => news' = nw ∧ IntsAre (ys ++ [y]) ((List.range (i + 1)).map fun k => ((n.toNat / 2 ^ k % 2 : Nat) : Int)))) E' (Nat.mod_lt _ (by decide)) hC hx F₁ N₁ (fun h' tk' tt F' N' => ?_)
    refine ⟨h', tk', nw, rfl, F', N', off₁, trivial, rfl, ?_⟩
    rw [List.range_succ, List.map_append]
    exact intsAre_one hI
  · rintro ys nw ⟨rfl, hI⟩
    rw [binS_len, bitsZ_range] at hI
    exact fin ys hI
end
inductive MatJ (w : World) (news : Led) (x : Addr) (W P D : Int) (u1 u2 u7 : Nat) (a b : Str) (rows rest : List Dat) (m : Str → Option Value) (nx : Led) : Prop
  | mk (la lb xc dc : Addr) (k1 k2 k3 k4 k5 k6 k7 c c' t t6 : Nat) (vs ws : List Value) (v0 : Int) (tl : Led) (u : Str → Option Value) (h0 : nx = (dc, dictOf [⟨PyData.keyHash w.params (Str.ofString "_crc_width"), .str (Str.ofString "_crc_width") k1, .int W u1⟩, ⟨PyData.keyHash w.params (Str.ofString "_polynomial"), .str (Str.ofString "_polynomial") k2, .int P u2⟩, ⟨PyData.keyHash w.params (Str.ofString "_initial_crc"), .str (Str.ofString "_initial_crc") k3, .int v0 t⟩, ⟨PyData.keyHash w.params (Str.ofString "_reflect_input"), .str (Str.ofString "_reflect_input") k4, .bool false⟩, ⟨PyData.keyHash w.params (Str.ofString "_reflect_output"), .str (Str.ofString "_reflect_output") k5, .bool false⟩, ⟨PyData.keyHash w.params (Str.ofString "_xor_output"), .str (Str.ofString "_xor_output") k6, .int 0 t6⟩, ⟨PyData.keyHash w.params (Str.ofString "data_width"), .str (Str.ofString "data_width") k7, .int D u7⟩] 7) :: (la, listOf vs.toArray c) :: (lb, listOf ws.toArray c') :: tl) (h1 : (xc, instObj 143 dc) ∈ tl) (h2 : (∀ p ∈ tl, p.1 ≠ dc)) (h3 : (∀ p ∈ tl, p.1 ≠ la)) (h4 : (∀ p ∈ tl, p.1 ≠ lb)) (h5 : @Ne Nat dc la) (h6 : @Ne Nat dc lb) (h7 : @Ne Nat la lb) (h8 : (∀ p ∈ news, p ∈ tl)) (h9 : DatAll tl vs rows) (h10 : DatAll tl ws rest) (h11 : m = fun y => if y = Str.ofString "crc" then some (.ref xc) else if y = a then some (.ref la) else if y = b then some (.ref lb) else if y = Str.ofString "self" then some (.ref x) else u y) : MatJ w  news  x  W P D  u1 u2 u7  a b  rows rest  m  nx 
theorem names4 {m : Str → Option Value} {a b c d : Str} {v1 v2 v3 v4 : Value} (h1 : m a = some v1) (h2 : m b = some v2) (h3 : m c = some v3) (h4 : m d = some v4) :
    m = fun y => if y = a then some v1 else if y = b then some v2 else if y = c then some v3 else if y = d then some v4 else m y := by
  funext y
  split
  · rename_i e; rw [e, h1]
  split
  · rename_i e; rw [e, h2]
  split
  · rename_i e; rw [e, h3]
  split
  · rename_i e; rw [e, h4]
  rfl
theorem matJ_start {w : World} {news : Led} {x xc dc xa da lg lf L : Addr} {W P D v0 : Int} {u1 u2 u7 k1 k2 k3 k4 k5 k6 k7 t t6 c c' : Nat} {o1 o2 : Obj} {g h : Heap} {m : Str → Option Value}
    (_F : Fr g L h m) (N : News g L h ((xc, instObj 143 dc) :: (dc, dictOf [⟨PyData.keyHash w.params (Str.ofString "_crc_width"), .str (Str.ofString "_crc_width") k1, .int W u1⟩, ⟨PyData.keyHash w.params (Str.ofString "_polynomial"), .str (Str.ofString "_polynomial") k2, .int P u2⟩, ⟨PyData.keyHash w.params (Str.ofString "_initial_crc"), .str (Str.ofString "_initial_crc") k3, .int v0 t⟩, ⟨PyData.keyHash w.params (Str.ofString "_reflect_input"), .str (Str.ofString "_reflect_input") k4, .bool false⟩, ⟨PyData.keyHash w.params (Str.ofString "_reflect_output"), .str (Str.ofString "_reflect_output") k5, .bool false⟩, ⟨PyData.keyHash w.params (Str.ofString "_xor_output"), .str (Str.ofString "_xor_output") k6, .int 0 t6⟩, ⟨PyData.keyHash w.params (Str.ofString "data_width"), .str (Str.ofString "data_width") k7, .int D u7⟩] 7) :: (xa, o1) :: (da, o2) :: (lg, listOf #[] c') :: (lf, listOf #[] c) :: news))
    (h1 : ∀ p ∈ news, p.1 < lf) (h2 : @LT.lt Nat _ lf lg ∧ AllLt lg news) (h3 : @LT.lt Nat _ xa dc ∧ @LT.lt Nat _ da dc ∧ @LT.lt Nat _ lg dc ∧ @LT.lt Nat _ lf dc ∧ AllLt dc news) (h4 : @LT.lt Nat _ dc xc)
    (m1 : m (Str.ofString "crc") = some (.ref xc)) (m2 : m (Str.ofString "f") = some (.ref lf)) (m3 : m (Str.ofString "g") = some (.ref lg)) (m4 : m (Str.ofString "self") = some (.ref x)) :
    ∃ nx, News g L h nx ∧ MatJ w news x W P D u1 u2 u7 (Str.ofString "f") (Str.ofString "g") (rowsF W D P 0) [] m nx := by
  obtain ⟨h21, _⟩ := h2
  obtain ⟨h31, h32, h33, h34, _⟩ := h3
  have q1 : ∀ p ∈ news, @LT.lt Nat _ p.1 lf := h1
  refine ⟨_, news_sub N ?_, lf, lg, xc, dc, k1, k2, k3, k4, k5, k6, k7, c, c', t, t6, [], [], v0, (xc, instObj 143 dc) :: news, _, rfl, .head _, ?_, ?_, ?_, ?_, ?_, ?_, fun p hp => .tail _ hp, .nil, .nil, names4 m1 m2 m3 m4⟩
  · intro p hp
    rcases List.mem_cons.mp hp with rfl | hp
    · exact .tail _ (.head _)
    rcases List.mem_cons.mp hp with rfl | hp
    · exact .tail _ (.tail _ (.tail _ (.tail _ (.tail _ (.head _)))))
    rcases List.mem_cons.mp hp with rfl | hp
    · exact .tail _ (.tail _ (.tail _ (.tail _ (.head _))))
    rcases List.mem_cons.mp hp with rfl | hp
    · exact .head _
    · exact .tail _ (.tail _ (.tail _ (.tail _ (.tail _ (.tail _ hp)))))
  · exact List.forall_mem_cons.mpr ⟨neN (by show @Ne Nat _ _; dsimp only; omega), fun p hp => neN (by have := q1 p hp; omega)⟩
  · exact List.forall_mem_cons.mpr ⟨neN (by show @Ne Nat _ _; dsimp only; omega), fun p hp => neN (by have := q1 p hp; omega)⟩
  · exact List.forall_mem_cons.mpr ⟨neN (by show @Ne Nat _ _; dsimp only; omega), fun p hp => neN (by have := q1 p hp; omega)⟩
  · exact neN (by omega)
  · exact neN (by omega)
  · exact neN (by omega)
theorem ints_dat {news : Led} {ys : List Value} {ns : List Int} (h : IntsAre ys ns) : DatAll news ys (ns.map .int) := by
  induction h with
  | nil => exact .nil
  | cons a b r ih => exact .cons (.int _ _) ih
theorem matJ_turn {w : World} {news tl : Led} {x xc dc la lb L I Dn l : Addr} {W P D v0 : Int} {u1 u2 u7 k1 k2 k3 k4 k5 k6 k7 t t6 c c' : Nat} {oI ol : Obj} {g h : Heap} {m : Str → Option Value} {a b : Str} {rows rest : List Dat} {vs ws ys : List Value} {ns : List Int}
    (_F : Fr g L h m) (N : News g L h ((Dn, LCg.lst ys) :: (l, ol) :: (I, oI) :: (dc, dictOf [⟨PyData.keyHash w.params (Str.ofString "_crc_width"), .str (Str.ofString "_crc_width") k1, .int W u1⟩, ⟨PyData.keyHash w.params (Str.ofString "_polynomial"), .str (Str.ofString "_polynomial") k2, .int P u2⟩, ⟨PyData.keyHash w.params (Str.ofString "_initial_crc"), .str (Str.ofString "_initial_crc") k3, .int v0 t⟩, ⟨PyData.keyHash w.params (Str.ofString "_reflect_input"), .str (Str.ofString "_reflect_input") k4, .bool false⟩, ⟨PyData.keyHash w.params (Str.ofString "_reflect_output"), .str (Str.ofString "_reflect_output") k5, .bool false⟩, ⟨PyData.keyHash w.params (Str.ofString "_xor_output"), .str (Str.ofString "_xor_output") k6, .int 0 t6⟩, ⟨PyData.keyHash w.params (Str.ofString "data_width"), .str (Str.ofString "data_width") k7, .int D u7⟩] 7) :: (la, listOf (vs.toArray.push (.ref Dn)) (c + 1)) :: (lb, listOf ws.toArray c') :: tl))
    (hD : @Ne Nat l Dn ∧ @Ne Nat I Dn ∧ @Ne Nat dc Dn ∧ @Ne Nat la Dn ∧ @Ne Nat lb Dn ∧ LCg.Off1 Dn tl) (hxc : (xc, instObj 143 dc) ∈ tl) (o1 : ∀ p ∈ tl, p.1 ≠ dc) (o2 : ∀ p ∈ tl, p.1 ≠ la) (o3 : ∀ p ∈ tl, p.1 ≠ lb) (i4 : ∀ p ∈ tl, p.1 ≠ I) (i1 : @Ne Nat dc I) (i2 : @Ne Nat la I) (i3 : @Ne Nat lb I)
    (e1 : @Ne Nat dc la) (e2 : @Ne Nat dc lb) (e3 : @Ne Nat la lb) (hs : ∀ p ∈ news, p ∈ tl) (hA : DatAll tl vs rows) (hB : DatAll tl ws rest) (hI : IntsAre ys ns)
    (m1 : m (Str.ofString "crc") = some (.ref xc)) (m2 : m a = some (.ref la)) (m3 : m b = some (.ref lb)) (m4 : m (Str.ofString "self") = some (.ref x)) :
    ∃ nx, News g L h ((I, oI) :: nx) ∧ (∀ p ∈ nx, p.1 ≠ I) ∧ MatJ w news x W P D u1 u2 u7 a b (rows ++ [.list (ns.map .int)]) rest m nx := by
  obtain ⟨d1, d2, d3, d4, d5, -⟩ := hD
  rw [List.push_toArray] at N
  have ht : ∀ p ∈ tl, p ∈ (Dn, LCg.lst ys) :: tl := fun p hp => .tail _ hp
  refine ⟨_, news_sub N ?_, ?_, la, lb, xc, dc, k1, k2, k3, k4, k5, k6, k7, c + 1, c', t, t6, vs ++ [.ref Dn], ws, v0, (Dn, LCg.lst ys) :: tl, m, rfl, .tail _ hxc, ?_, ?_, ?_, e1, e2, e3, fun p hp => .tail _ (hs p hp), ?_, DatAll.mono ht hB, names4 m1 m2 m3 m4⟩
  · intro p hp
    rcases List.mem_cons.mp hp with rfl | hp
    · exact .tail _ (.tail _ (.head _))
    rcases List.mem_cons.mp hp with rfl | hp
    · exact .tail _ (.tail _ (.tail _ (.head _)))
    rcases List.mem_cons.mp hp with rfl | hp
    · exact .tail _ (.tail _ (.tail _ (.tail _ (.head _))))
    rcases List.mem_cons.mp hp with rfl | hp
    · exact .tail _ (.tail _ (.tail _ (.tail _ (.tail _ (.head _)))))
    rcases List.mem_cons.mp hp with rfl | hp
    · exact .head _
    · exact .tail _ (.tail _ (.tail _ (.tail _ (.tail _ (.tail _ hp)))))
  · exact List.forall_mem_cons.mpr ⟨i1, List.forall_mem_cons.mpr ⟨i2, List.forall_mem_cons.mpr ⟨i3, List.forall_mem_cons.mpr ⟨neN (Ne.symm d2), i4⟩⟩⟩⟩
  · exact List.forall_mem_cons.mpr ⟨neN (Ne.symm d3), o1⟩
  · exact List.forall_mem_cons.mpr ⟨neN (Ne.symm d4), o2⟩
  · exact List.forall_mem_cons.mpr ⟨neN (Ne.symm d5), o3⟩
  · exact (DatAll.mono ht hA).append (.one (.list (.head _) (ints_dat hI)))
theorem matJ_swap {w : World} {news tl : Led} {x xc dc la lb L : Addr} {W P D v0 : Int} {u1 u2 u7 k1 k2 k3 k4 k5 k6 k7 t t6 c c' : Nat} {g h : Heap} {m : Str → Option Value} {a b : Str} {rows rest : List Dat} {vs ws : List Value}
    (_F : Fr g L h m) (N : News g L h ((dc, dictOf [⟨PyData.keyHash w.params (Str.ofString "_crc_width"), .str (Str.ofString "_crc_width") k1, .int W u1⟩, ⟨PyData.keyHash w.params (Str.ofString "_polynomial"), .str (Str.ofString "_polynomial") k2, .int P u2⟩, ⟨PyData.keyHash w.params (Str.ofString "_initial_crc"), .str (Str.ofString "_initial_crc") k3, .int v0 t⟩, ⟨PyData.keyHash w.params (Str.ofString "_reflect_input"), .str (Str.ofString "_reflect_input") k4, .bool false⟩, ⟨PyData.keyHash w.params (Str.ofString "_reflect_output"), .str (Str.ofString "_reflect_output") k5, .bool false⟩, ⟨PyData.keyHash w.params (Str.ofString "_xor_output"), .str (Str.ofString "_xor_output") k6, .int 0 t6⟩, ⟨PyData.keyHash w.params (Str.ofString "data_width"), .str (Str.ofString "data_width") k7, .int D u7⟩] 7) :: (la, listOf vs.toArray c) :: (lb, listOf ws.toArray c') :: tl))
    (hxc : (xc, instObj 143 dc) ∈ tl) (o1 : ∀ p ∈ tl, p.1 ≠ dc) (o2 : ∀ p ∈ tl, p.1 ≠ la) (o3 : ∀ p ∈ tl, p.1 ≠ lb)
    (e1 : @Ne Nat dc la) (e2 : @Ne Nat dc lb) (e3 : @Ne Nat la lb) (hs : ∀ p ∈ news, p ∈ tl) (hA : DatAll tl vs rows) (hB : DatAll tl ws rest)
    (m1 : m (Str.ofString "crc") = some (.ref xc)) (m2 : m a = some (.ref la)) (m3 : m b = some (.ref lb)) (m4 : m (Str.ofString "self") = some (.ref x)) :
    ∃ nx, News g L h nx ∧ MatJ w news x W P D u1 u2 u7 b a rest rows m nx := by
  refine ⟨_, news_sub N ?_, lb, la, xc, dc, k1, k2, k3, k4, k5, k6, k7, c', c, t, t6, ws, vs, v0, tl, m, rfl, hxc, o1, o3, o2, e2, e1, Ne.symm e3, hs, hB, hA, names4 m1 m3 m2 m4⟩
  intro p hp
  rcases List.mem_cons.mp hp with rfl | hp
  · exact .head _
  rcases List.mem_cons.mp hp with rfl | hp
  · exact .tail _ (.tail _ (.head _))
  rcases List.mem_cons.mp hp with rfl | hp
  · exact .tail _ (.head _)
  · exact .tail _ (.tail _ (.tail _ hp))
inductive MatPost (W D P : Int) (news : Led) (r : Value) (news' : Led) : Prop
  | mk tup F G (h0 : r = .ref tup) (h1 : (tup, ({ cls := .type "tuple", data := .seq #[.ref F, .ref G] } : Obj)) ∈ news') (h2 : DatIn news' (.ref F) (.list (rowsF W D P W.toNat))) (h3 : DatIn news' (.ref G) (.list (rowsG W D P D.toNat))) (h4 : ∀ p ∈ news, p ∈ news') : MatPost W D P  news  r  news' 
theorem mat_post {W P D : Int} {news tl : Led} {tup dc la lb : Addr} {o : Obj} {vs ws : List Value} {c c' : Nat} (hs : ∀ p ∈ news, p ∈ tl) (hA : DatAll tl vs (rowsG W D P D.toNat)) (hB : DatAll tl ws (rowsF W D P W.toNat)) :
    MatPost W D P news (.ref tup) ((tup, ({ cls := .type "tuple", data := .seq #[.ref lb, .ref la] } : Obj)) :: (dc, o) :: (la, listOf vs.toArray c) :: (lb, listOf ws.toArray c') :: tl) := by
  have hsub : ∀ p ∈ tl, p ∈ (tup, ({ cls := .type "tuple", data := .seq #[.ref lb, .ref la] } : Obj)) :: (dc, o) :: (la, listOf vs.toArray c) :: (lb, listOf ws.toArray c') :: tl := fun p hp => .tail _ (.tail _ (.tail _ (.tail _ hp)))
  exact ⟨tup, lb, la, rfl, .head _, .list (.tail _ (.tail _ (.tail _ (.head _)))) (DatAll.mono hsub hB), .list (.tail _ (.tail _ (.head _))) (DatAll.mono hsub hA), fun p hp => hsub p (hs p hp)⟩
section
local macro_rules | `(tactic| walk_at "call ref") => `(tactic| (k_here; k_dflt (refine' Gives.use (compute_gives _ _ _ _ _ _ _ _ _ _ _ _ _ _ _ _ _ _ _ _ _ _ _ _ _ _ _ ?p1 ?p2 ?q1 ?q2 ?q3 ?q4 ?q5 ?q6 ?q7 ?q8 ?q9 ?q10 _ _ _ _ ?r1 ?r2 ?r3 ?r4) ?kB ?kF ?kX ?kN ?kT ?kK ?kd ?ku ?_; (case kB => k_asm); (case kF => k_asm); (case kX => k_asm); (case kN => k_asm); (case kT => k_asm); (case kK => first | exact rfl | assumption); (case kd => ktr_room); (case ku => ktr_units); (case p1 => k_mem); (case p2 => k_mem); (case r1 => k_mem); (case r2 => first | with_reducible assumption | exact .cons _ _ .nil | l_ints); (case q1 => omega); (case q2 => omega); (case q3 => omega); (case q4 => first | assumption | omega); (case q5 => first | omega | exact Int.le_of_lt (kbt_pos _)); (case q6 => first | assumption | omega | exact kbt_pos _ | exact pow_ltI (by omega) (by omega)); (case q7 => omega); (case q8 => first | assumption | omega | exact kbt_pos _); (case q9 => omega); (case q10 => omega); (case r3 => first | omega | exact Nat.le_of_ble_eq_true rfl); (case r4 => first | assumption | exact one_zero _ | exact one_pow (by omega) (by omega)); k_whole); intro r' n' h' tk' F' N' hP'; obtain ⟨hn', t', hr'⟩ := hP'; subst hn'; subst hr'; (try dsimp only); (try k_fold); walk_say "COMPUTE GIVES"))
local macro_rules | `(tactic| walk_at "call ref") => `(tactic| (k_here; k_dflt (refine' GivesK.use (alg_gives _ _ _ _ _ _ _ _ _ _ _ _ _ _ _ ?q1 ?q2 ?q3 ?q4 ?q5 ?q6 ?q7 ?q8) ?kB ?kF ?kX ?kN ?kT ?kK ?kd ?ku ?_; (case kB => k_asm); (case kF => k_asm); (case kX => k_asm); (case kN => k_asm); (case kT => k_asm); (case kK => first | exact rfl | assumption); (case kd => ktr_room); (case ku => ktr_units); (case q1 => omega); (case q2 => omega); (case q3 => omega); (case q4 => first | assumption | omega); (case q5 => omega); (case q6 => first | assumption | omega | exact kbt_pos _); (case q7 => omega); (case q8 => first | assumption | omega | exact kbt_pos _); k_whole); intro r' n' h' tk' F' N' hP'; obtain ⟨x', d', j1', j2', j3', j4', j5', j6', hr', hn', l1, l2⟩ := hP'; subst hn'; subst hr'; (try k_lt l1); (try k_lt2 l2); (try k_sweep); (try dsimp only); (try k_fold); walk_say "ALGORITHM GIVES"))
local macro_rules | `(tactic| walk_at "call ref") => `(tactic| (k_here; k_dflt (refine' Gives.use (par_gives _ _ _ _ _ _ _ _ _ _ _ _ _ _ _ _ _ _ _ _ _ _ _ _ _ _ ?p1 ?p2 ?q1 ?q2) ?kB ?kF ?kX ?kN ?kT ?kK ?kd ?ku ?_; (case kB => k_asm); (case kF => k_asm); (case kX => k_asm); (case kN => k_asm); (case kT => k_asm); (case kK => first | exact rfl | assumption); (case kd => ktr_room); (case ku => ktr_units); (case p1 => k_mem); (case p2 => k_mem); (case q1 => omega); (case q2 => omega); k_whole); intro r' n' h' tk' F' N' hP'; obtain ⟨x', d', j1', j2', j3', j4', j5', j6', j7', hr', hn', l1, l2⟩ := hP'; subst hn'; subst hr'; (try k_lt l1); (try k_lt2 l2); (try k_sweep); (try dsimp only); (try k_fold); walk_say "PARAMETERS GIVES"))
local macro_rules | `(tactic| walk_at "call type:range") => `(tactic| (k_here; (rename Fr _ _ _ _ => F'); (rename News _ _ _ _ => N'); (with_unfolding_all refine range1_rows F' N' ?_); intro _ _ _ _ _ _ _ _ _; walk_say "RANGE KEPT"))
local macro_rules | `(tactic| walk_at "pyIter ref") => `(tactic| (k_here; (with_reducible show wpAny _ _ (pyIter (Value.ref _)) (fun _ _ => LoopAtV _ _ _ _ _ _ _ _ _ _ _) _ _); refine Hold.out ?_))
local macro_rules | `(tactic| walk_at "eval ListComp") => `(tactic| (k_here; k_dflt (refine ListComp_rvd (_F₀ := by k_asm) (by with_unfolding_all rfl) (by decide) (by rfl) (by decide) (by rfl) ?_); walk_say "REVERSED COMP"))
local macro_rules | `(tactic| walk_at "call type:reversed") => `(tactic| (k_here; (with_reducible show wpAny _ _ (call _ [Value.str (binS _ _) _]) _ _ _); (with_reducible rename Fr _ _ _ _ => F'); (with_reducible rename News _ _ _ _ => N'); (refine rvd_call (by rw [binS_len]; omega) F' N' ?_); intro I' h' tk' F' N' l1; (have o9' := off_lt l1); (try k_lt l1); (try k_sweep); refine Hold.out ?_; walk_say "REVERSED"))
local macro_rules | `(tactic| walk_at "call type:int") => `(tactic| (k_here; (with_reducible show wpAny _ _ (call _ [Value.str _ _]) _ _ _); k_dflt (refine KIN.call_text (n := ?n) ?k1 ?k2 ?_; (case k1 => rfl); (case k2 => decide)); walk_say "INT TEXT"))
local macro_rules | `(tactic| size_fits) => `(tactic| assumption)
local macro_rules | `(tactic| walk_at "call builtin:list.append") => `(tactic| (k_here; (dsimp only [List.cons_append, List.nil_append]); (with_reducible show wpAny _ _ (call (Value.builtin _) [Value.ref _, _]) _ _ _); k_dflt (refine' append_K ?k1 ?k2 ?k3 ?_ ?z; (case k1 => k_asm); (case k2 => k_asm); (case k3 => k_upd); (case z => size_fits); k_whole); intro h' F' N'; (try k_sweep)))
theorem matrices_gives (w : World) (mean : ExcName → Option Value) (mg mb : Str → Option Value) (news : Led) (x dx : Addr) (W P I0 X0 D : Int) (ri ro : Bool) (u1 u2 u3 u6 u7 j1 j2 j3 j4 j5 j6 j7 nd : Nat) (hx : (x, instObj 143 dx) ∈ news) (hxd : (dx, dictOf [⟨PyData.keyHash w.params (Str.ofString "_crc_width"), .str (Str.ofString "_crc_width") j1, .int W u1⟩, ⟨PyData.keyHash w.params (Str.ofString "_polynomial"), .str (Str.ofString "_polynomial") j2, .int P u2⟩, ⟨PyData.keyHash w.params (Str.ofString "_initial_crc"), .str (Str.ofString "_initial_crc") j3, .int I0 u3⟩, ⟨PyData.keyHash w.params (Str.ofString "_reflect_input"), .str (Str.ofString "_reflect_input") j4, .bool ri⟩, ⟨PyData.keyHash w.params (Str.ofString "_reflect_output"), .str (Str.ofString "_reflect_output") j5, .bool ro⟩, ⟨PyData.keyHash w.params (Str.ofString "_xor_output"), .str (Str.ofString "_xor_output") j6, .int X0 u6⟩, ⟨PyData.keyHash w.params (Str.ofString "data_width"), .str (Str.ofString "data_width") j7, .int D u7⟩] nd) ∈ news) (hW1 : 1 ≤ W) (hW2 : W ≤ 8) (hP1 : 0 ≤ P) (hP2 : P < 2 ^ W.toNat) (hI1 : 0 ≤ I0) (hI2 : I0 < 2 ^ W.toNat) (hX1 : 0 ≤ X0) (hX2 : X0 < 2 ^ W.toNat) (hD1 : 1 ≤ D) (hD2 : D ≤ 6) :
    Gives w mean mg mb 8 200 133 [.ref x] news (MatPost W D P news) := by
  unfold Gives
  k_fill
  intro dp un gd cn cs a ccd cl outer A₀ base h₀ L m s Q E B F X N T hk hdp hun hret
  refine wpAny_call ?_
  k_dflt cell_enter
  w_on
  k_steps
  · with_reducible rename IsRange _ _ _ _ _ _ _ _ => hR
    with_reducible rename Fr _ _ _ _ => hF
    with_reducible rename News _ _ _ _ => hN
    obtain ⟨nx, hN1, hJ⟩ := matJ_start (w := w) (x := x) hF hN (by assumption) (by assumption) (by assumption) (by assumption) rfl rfl rfl rfl
    refine loop_rangeL (fun i => MatJ w news x W P D u1 u2 u7 (Str.ofString "f") (Str.ofString "g") (rowsF W D P i) []) ?le rfl hR (by omega) (by omega) hF hN1 hJ ?turn ?done
    case le => rfl
    case turn =>
      clear hJ hN1 hN hF hR
      intro i tk₀ m₁ news₁ h tk I oI hi hJ off F₁ N₁
      obtain ⟨la, lb, xc, dc, k1, k2, k3, k4, k5, k6, k7, c, c', t, t6, vs, ws, v0, tl, u, rfl, hxc, o1, o2, o3, e1, e2, e3, hs, hA, hB, rfl⟩ := hJ
      obtain ⟨i1, off⟩ := List.forall_mem_cons.mp off
      obtain ⟨i2, off⟩ := List.forall_mem_cons.mp off
      obtain ⟨i3, i4⟩ := List.forall_mem_cons.mp off
      replace i1 : @Ne Nat dc I := i1
      replace i2 : @Ne Nat la I := i2
      replace i3 : @Ne Nat lb I := i3
      have hz : vs.toArray.size ≤ sizeLine := by
        have := hA.length
        rw [List.size_toArray, this, sizeLine_eq]
        simp only [rowsF, List.length_map, List.length_range]
        omega
      have hx1 := hs _ hx
      have hx2 := hs _ hxd
      obtain ⟨hb1, hb2⟩ := comp_row_lt (D := D) (v := 2 ^ (i : Int).toNat) (x := 0) hW1 hP1 hP2 (Int.le_of_lt (kbt_pos _)) (pow_ltI (by omega) hi) (by omega) (kbt_pos _)
      k_steps
      · with_reducible rename Fr _ _ _ _ => F₂
        with_reducible rename News _ _ _ _ => N₂
        unfold Hold
        with_reducible refine' rvd_bits ?hh ?hW F₂ N₂ ?off ?turn2 ?fin2
        case hh => exact rfl
        case hW => omega
        case off => with_reducible assumption
        case turn2 =>
          clear F₂ N₂
          intro b t' I2 oI2 C2 oC2 D2 ys m₂ h2 tk2 Q2 E2 hb hC2 hm2 F₂ N₂ hQ
          have hb' : b = 0 ∨ b = 1 := by omega
          rcases hb' with rfl | rfl
          · k_steps
            exact hQ _ _ _ (by assumption) (by assumption)
          · k_steps
            exact hQ _ _ _ (by assumption) (by assumption)
        case fin2 =>
          intro ys hI
          k_steps
          · with_reducible rename Fr _ _ _ _ => F₃
            with_reducible rename News _ _ _ _ => N₃
            with_reducible rename (_ ∧ _ ∧ _ ∧ _ ∧ _ ∧ LCg.Off1 _ _) => hD
            obtain ⟨nx, N₄, off4, hJ⟩ := matJ_turn (w := w) (news := news) (x := x) (a := Str.ofString "f") (b := Str.ofString "g") F₃ N₃ hD hxc o1 o2 o3 i4 i1 i2 i3 e1 e2 e3 hs hA hB hI rfl rfl rfl rfl
            rw [rowsF_succ]
            exact TurnEnd.intro nx F₃ N₄ off4 hJ
    case done =>
      clear hJ hN1 hN hF hR
      intro m₁ news₁ h tk hJ F₁ N₁
      obtain ⟨la, lb, xc, dc, k1, k2, k3, k4, k5, k6, k7, c, c', t, t6, vs, ws, v0, tl, u, rfl, hxc, o1, o2, o3, e1, e2, e3, hs, hA, hB, rfl⟩ := hJ
      have hx1 := hs _ hx
      have hx2 := hs _ hxd
      k_steps
      with_reducible rename IsRange _ _ _ _ _ _ _ _ => hR
      with_reducible rename Fr _ _ _ _ => hF
      with_reducible rename News _ _ _ _ => hN
      obtain ⟨nx, hN1, hJ⟩ := matJ_swap (w := w) (x := x) (news := news) (a := Str.ofString "f") (b := Str.ofString "g") hF hN hxc o1 o2 o3 e1 e2 e3 hs hA hB rfl rfl rfl rfl
      refine loop_rangeL (fun i => MatJ w news x W P D u1 u2 u7 (Str.ofString "g") (Str.ofString "f") (rowsG W D P i) (rowsF W D P W.toNat)) ?le rfl hR (by omega) (by omega) hF hN1 hJ ?turn ?done
      case le => rfl
      case turn =>
        clear hJ hN1 hN hF hR
        intro i tk₀ m₁ news₁ h tk I oI hi hJ off F₁ N₁
        obtain ⟨la, lb, xc, dc, k1, k2, k3, k4, k5, k6, k7, c, c', t, t6, vs, ws, v0, tl, u, rfl, hxc, o1, o2, o3, e1, e2, e3, hs, hA, hB, rfl⟩ := hJ
        obtain ⟨i1, off⟩ := List.forall_mem_cons.mp off
        obtain ⟨i2, off⟩ := List.forall_mem_cons.mp off
        obtain ⟨i3, i4⟩ := List.forall_mem_cons.mp off
        replace i1 : @Ne Nat dc I := i1
        replace i2 : @Ne Nat la I := i2
        replace i3 : @Ne Nat lb I := i3
        have hz : vs.toArray.size ≤ sizeLine := by
          have := hA.length
          rw [List.size_toArray, this, sizeLine_eq]
          simp only [rowsG, List.length_map, List.length_range]
          omega
        have hx1 := hs _ hx
        have hx2 := hs _ hxd
        obtain ⟨hb1, hb2⟩ := comp_row_lt (D := D) (v := 0) (x := 2 ^ (i : Int).toNat) hW1 hP1 hP2 (by omega) (kbt_pos _) (Int.le_of_lt (kbt_pos _)) (pow_ltI (by omega) hi)
        k_steps
        · with_reducible rename Fr _ _ _ _ => F₂
          with_reducible rename News _ _ _ _ => N₂
          unfold Hold; with_reducible refine' rvd_bits ?hh ?hW F₂ N₂ ?off ?turn2 ?fin2
          case hh => exact rfl
          case hW => omega
          case off => with_reducible assumption
          case turn2 =>
            clear F₂ N₂
            intro b t' I2 oI2 C2 oC2 D2 ys m₂ h2 tk2 Q2 E2 hb hC2 hm2 F₂ N₂ hQ
            have hb' : b = 0 ∨ b = 1 := by omega
            rcases hb' with rfl | rfl
            · k_steps
              exact hQ _ _ _ (by assumption) (by assumption)
            · k_steps
              exact hQ _ _ _ (by assumption) (by assumption)
          case fin2 =>
            intro ys hI
            k_steps
            · with_reducible rename Fr _ _ _ _ => F₃
              with_reducible rename News _ _ _ _ => N₃
              with_reducible rename (_ ∧ _ ∧ _ ∧ _ ∧ _ ∧ LCg.Off1 _ _) => hD
              obtain ⟨nx, N₄, off4, hJ⟩ := matJ_turn (w := w) (news := news) (x := x) (a := Str.ofString "g") (b := Str.ofString "f") F₃ N₃ hD hxc o1 o2 o3 i4 i1 i2 i3 e1 e2 e3 hs hA hB hI rfl rfl rfl rfl
              rw [rowsG_succ]
              exact TurnEnd.intro nx F₃ N₄ off4 hJ
      case done =>
        clear hJ hN1 hN hF hR
        intro m₁ news₁ h tk hJ F₁ N₁
        obtain ⟨la, lb, xc, dc, k1, k2, k3, k4, k5, k6, k7, c, c', t, t6, vs, ws, v0, tl, u, rfl, hxc, o1, o2, o3, e1, e2, e3, hs, hA, hB, rfl⟩ := hJ
        have hx1 := hs _ hx
        have hx2 := hs _ hxd
        k_steps
        with_reducible rename News h₀ _ _ _ => kN
        exact hret _ _ _ _ (by assumption) kN (mat_post hs hA hB)
end
/-- the law's text -/
def lawF : List Stmt × Option Scope := match PySem.Challenge.rw_ac0002_01.row.prog.main.body.getLast? with
  | some (.FunctionDef _ _ body _ _ _ scope _ _ _) => (body, some scope)
  | _ => ([], none)
def lawBody : List Stmt := lawF.1
def lawScope : Scope := match lawF.2 with
  | some s => s
  | none => { kind := .function, names := [], isGenerator := false, isCoroutine := false }
/-- the law's frame at its k-th statement: from what J says there it ends by True -/
def LawAt (w : World) (mean : ExcName → Option Value) (mg mb : Str → Option Value) (k : Nat) (J : Addr → (Str → Option Value) → Led → Prop) : Prop :=
  ∀ (fa : Addr) (cd : Value) (h₀ : Heap) (L : Addr) (m : Str → Option Value) (news : Led) (s : Shared) (Q : Flow → Shared → Prop) (E : Value → Shared → Prop),
    Below callerA h₀ [] h₀ → Fr h₀ L s.heap m → (Mine.heapX w.params).In h₀ → News h₀ L s.heap news → Top Mine.viewX (looseW Mine.viewX [Str.ofString "operator", Str.ofString "Parameters"]) mean mg mb h₀ → J L m news →
    (∀ h' tk' m', Fr h₀ L h' m' → Q (.ret (.bool true)) { s with heap := h', toks := tk' }) →
    wpAny (model PySem.Challenge.rw_ac0002_01.row.prog w) (callerA.deeper (envOfC (Str.ofString "law") lawScope L fa cd)) (execs (lawBody.drop k) (envOfC (Str.ofString "law") lawScope L fa cd)) Q E s
/-- the names that are known -/
def mapOf : List (Str × Value) → (Str → Option Value) → Str → Option Value
  | [], u => u
  | (n, v) :: r, u => fun y => if y = n then some v else mapOf r u y
def Has (m : Str → Option Value) : List (Str × Value) → Prop
  | [] => True
  | (n, v) :: r => m n = some v ∧ Has m r
theorem Has.map {m : Str → Option Value} : ∀ {l : List (Str × Value)}, Has m l → m = mapOf l m
  | [], _ => rfl
  | (n, v) :: r, h => by
    funext y
    show m y = if y = n then some v else mapOf r m y
    split
    · rename_i e; rw [e, h.1]
    · rw [← h.2.map]
/-- what the cells hold -/
inductive Cells (L : Addr) (tl : Led) (b : Addr) (W P D : Int) : Prop
  | mk (o1 o2 o3 o4 : Obj) (t2 t3 t4 : Nat) (h0 : (L + 1, o1) ∈ tl) (h1 : (L + 1 + 1, o2) ∈ tl) (h2 : (L + 1 + 1 + 1, o3) ∈ tl) (h3 : (L + 1 + 1 + 1 + 1, o4) ∈ tl) (h4 : o1.data = .cell (some (.ref b))) (h5 : o2.data = .cell (some (.int W t2))) (h6 : o3.data = .cell (some (.int P t3))) (h7 : o4.data = .cell (some (.int D t4))) : Cells L  tl  b  W P D 
theorem Cells.mono {L b : Addr} {tl tl' : Led} {W P D : Int} (h : Cells L tl b W P D) (hs : ∀ p ∈ tl, p ∈ tl') : Cells L tl' b W P D := by
  obtain ⟨o1, o2, o3, o4, t2, t3, t4, a, b, c, d, e1, e2, e3, e4⟩ := h
  exact ⟨o1, o2, o3, o4, t2, t3, t4, hs _ a, hs _ b, hs _ c, hs _ d, e1, e2, e3, e4⟩
/-- the box: at most K numbers drawn -/
inductive BoxAt (K : Int) (tl : Led) (o : Obj) : Prop
  | mk (l : Addr) (k : Int) (t nb nl : Nat) (vs : List Value) (ns : List Int) (h0 : o = listOf [Value.ref l, Value.int k t].toArray nb) (h1 : (l, listOf vs.toArray nl) ∈ tl) (h2 : IntsAre vs ns) (h3 : ns.length ≤ 30) (h4 : 0 ≤ k) (h5 : k ≤ K) : BoxAt K  tl  o 
theorem BoxAt.mono {K K' : Int} {tl tl' : Led} {o : Obj} (h : BoxAt K tl o) (hs : ∀ p ∈ tl, p ∈ tl') (hK : K ≤ K') : BoxAt K' tl' o := by
  obtain ⟨l, k, t, nb, nl, vs, ns, e, a, i, z, k0, k1⟩ := h
  exact ⟨l, k, t, nb, nl, vs, ns, e, hs _ a, i, z, k0, Int.le_trans k1 hK⟩
/-- a draw, wherever the box stands in the ledger -/
theorem draw_at (w : World) (mean : ExcName → Option Value) (mg mb : Str → Option Value) (news : Led) (g : Obj → Led) (b l : Addr) (k many : Int) (t nb nl tm : Nat) (vs : List Value) (ns : List Int) (U : UpdF b (listOf [Value.ref l, Value.int k t].toArray nb) news g) (hm : (l, listOf vs.toArray nl) ∈ news) (hi : IntsAre vs ns) (hl : ns.length ≤ 30) (hk0 : 0 ≤ k) (hk1 : k ≤ 40) (hmany : 0 < many) :
    Gives w mean mg mb 2 24 154 [.ref b, .int many tm] news (fun r news' => ∃ v tv t', r = .int v tv ∧ 0 ≤ v ∧ v < many ∧ news' = g (listOf [Value.ref l, Value.int (k + 1) t'].toArray nb)) := by
  obtain ⟨pre, post, rfl, hg, ha, hb⟩ := U.split
  have hm' : (l, listOf vs.toArray nl) ∈ pre ++ post := by
    rcases List.mem_append.mp hm with h | h
    · exact List.mem_append_left _ h
    rcases List.mem_cons.mp h with h | h
    · have e : listOf vs.toArray nl = listOf [Value.ref l, Value.int k t].toArray nb := congrArg Prod.snd h
      have e2 : Data.seq vs.toArray nl = Data.seq [Value.ref l, Value.int k t].toArray nb := congrArg Obj.data e
      injection e2 with e3
      have e4 : vs = [Value.ref l, Value.int k t] := by simpa using congrArg Array.toList e3
      subst e4
      cases hi
    · exact List.mem_append_right _ h
  have hne : ∀ p ∈ pre ++ post, p.1 ≠ b := fun p hp => (List.mem_append.mp hp).elim (ha p) (hb p)
  intro dp un gd cn cs a ccd cl outer A₀ base h₀ L m s Q E B F X N T hk hd hu ret
  refine Gives.use (draw_gives w mean mg mb (pre ++ post) b l k many t nb nl tm vs ns hm' hi hne hl hk0 hk1 hmany) B F X (fun p hp => N p ?_) T hk hd hu ?_
  · rcases List.mem_cons.mp hp with rfl | hp
    · exact List.mem_append_right _ (.head _)
    · exact (List.mem_append.mp hp).elim (fun h => List.mem_append_left _ h) fun h => List.mem_append_right _ (.tail _ h)
  · rintro r n' h' tk' F' N' ⟨v, tv, t', rfl, h1, h2, rfl⟩
    refine ret _ _ h' tk' F' ?_ ⟨v, tv, t', rfl, h1, h2, rfl⟩
    rw [hg]
    intro p hp
    refine N' p ?_
    rcases List.mem_append.mp hp with h | h
    · exact .tail _ (List.mem_append_left _ h)
    rcases List.mem_cons.mp h with rfl | h
    · exact .head _
    · exact .tail _ (List.mem_append_right _ h)
section
variable {prog : Program} {w : World} {A : Around} {h₀ : Heap} {L r : Addr} {m : Str → Option Value} {env : Env} {elt : PySem.Expr} {x : Str} {scope : Scope} {cl : List (Str × Addr)} {s : Shared} {Fin : Shared → List Value → List (Addr × Obj) → Prop} {news : List (Addr × Obj)}
/-- a comprehension over range(b), by what holds of the values so far and of the ledger -/
theorem comp_range {b : Int} {t u v : Tok} (J : Nat → List Value → Led → Prop) (hh : A.handled = none) (hr : IsRange s.heap r 0 b 1 t u v) (hb0 : 0 ≤ b) (hb : b ≤ 1000) (F : Fr h₀ L s.heap m) (N : News h₀ L s.heap news) (h0 : J 0 [] news)
    (turn : ∀ (i : Nat) (ti : Tok) ys nw I oI C oC D m₂ h tk (g : Heap) (Q E' : Value → Shared → Prop), (i : Int) < b → J i ys nw → LCg.NsObj oC m₂ → m₂ x = some (.int (i : Int) ti) → Fr h₀ L h m → News h₀ L h ((I, oI) :: (C, oC) :: (D, LCg.lst ys) :: nw) → LCg.Off3 I C D nw → ((@Ne Nat I C) ∧ (@Ne Nat I D) ∧ (@Ne Nat C D)) →
      (∀ y h' tk' nw', Fr h₀ L h' m → News h₀ L h' ((I, oI) :: (C, oC) :: (D, LCg.lst ys) :: nw') → LCg.Off3 I C D nw' → J (i + 1) (ys ++ [y]) nw' → Q y { s with heap := h', toks := tk' }) →
      wpAny (model prog w) A (eval elt (compEnvC scope cl C env)) Q E' { s with heap := h, toks := tk })
    (fin : ∀ g ys nw, J b.toNat ys nw → Fin { s with heap := g } ys nw) : LCg.CompSrc prog w A h₀ L m env elt x scope cl Fin (.ref r) s := by
  have hn : Builtin.Range.rangeSize 0 b 1 = ((b.toNat : Nat) : Int) := by rw [rangeSize_nat 0 b]; omega
  refine LCg.CompSrc.range hh F N hr (small_one (by omega) (by omega) (by omega) (by omega)) hn (by rw [sizeLine_eq]; omega) fun g => ?_
  refine rest_of J ?_ h0 fun ys nw h => fin g ys nw h
  rintro i v ys nw I oI C oC D m₂ h tk E' hi ⟨ti, rfl⟩ hJ hC hx F₁ N₁ off ne
  have e : (0 : Int) + (i : Int) = (i : Int) := by omega
  rw [e] at hx
  refine turn i ti ys nw I oI C oC D m₂ h tk g _ E' (by omega) hJ hC hx F₁ N₁ off ne (fun y h' tk' nw' F' N' off' hJ' => ?_)
  exact ⟨h', tk', nw', rfl, F', N', off', trivial, hJ'⟩
end
theorem news_swap {h₀ h : Heap} {L : Addr} {a b : Addr × Obj} {tl : Led} (N : News h₀ L h (a :: b :: tl)) : News h₀ L h (b :: a :: tl) := fun p hp => N p (by
  rcases List.mem_cons.mp hp with rfl | hp
  · exact .tail _ (.head _)
  rcases List.mem_cons.mp hp with rfl | hp
  · exact .head _
  · exact .tail _ (.tail _ hp))
inductive J8 (W P I0 X0 D : Int) (ri ro : Bool) (L : Addr) (m : Str → Option Value) (news : Led) : Prop
  | mk (b : Addr) (tl : Led) (o : Obj) (t1 t2 : Nat) (h0 : news = (b, o) :: tl) (h1 : (∀ p ∈ tl, p.1 ≠ b)) (h2 : BoxAt 7 tl o) (h3 : Cells L tl b W P D) (h4 : Has m [(Str.ofString "first", .int I0 t1), (Str.ofString "last", .int X0 t2), (Str.ofString "turn_in", .bool ri), (Str.ofString "turn_out", .bool ro)]) : J8 W P I0 X0 D  ri ro  L  m  news 
inductive J9 (W P I0 X0 D : Int) (ri ro : Bool) (xs : List Int) (L : Addr) (m : Str → Option Value) (news : Led) : Prop
  | mk (b wl : Addr) (tl : Led) (o : Obj) (t1 t2 nl : Nat) (vs : List Value) (h0 : news = (b, o) :: tl) (h1 : (∀ p ∈ tl, p.1 ≠ b)) (h2 : BoxAt 13 tl o) (h3 : Cells L tl b W P D) (h4 : (wl, listOf vs.toArray nl) ∈ tl) (h5 : IntsAre vs xs) (h6 : Has m [(Str.ofString "first", .int I0 t1), (Str.ofString "last", .int X0 t2), (Str.ofString "turn_in", .bool ri), (Str.ofString "turn_out", .bool ro), (Str.ofString "words", .ref wl)]) : J9 W P I0 X0 D  ri ro  xs  L  m  news 
/-- a Parameters object -/
inductive ParObj (w : World) (tl : Led) (x : Addr) (W P I0 X0 D : Int) (ri ro : Bool) (u1 u2 u3 u6 u7 : Nat) : Prop
  | mk (dx : Addr) (j1 j2 j3 j4 j5 j6 j7 nd : Nat) (h0 : (x, instObj 143 dx) ∈ tl) (h1 : (dx, dictOf [⟨PyData.keyHash w.params (Str.ofString "_crc_width"), .str (Str.ofString "_crc_width") j1, .int W u1⟩, ⟨PyData.keyHash w.params (Str.ofString "_polynomial"), .str (Str.ofString "_polynomial") j2, .int P u2⟩, ⟨PyData.keyHash w.params (Str.ofString "_initial_crc"), .str (Str.ofString "_initial_crc") j3, .int I0 u3⟩, ⟨PyData.keyHash w.params (Str.ofString "_reflect_input"), .str (Str.ofString "_reflect_input") j4, .bool ri⟩, ⟨PyData.keyHash w.params (Str.ofString "_reflect_output"), .str (Str.ofString "_reflect_output") j5, .bool ro⟩, ⟨PyData.keyHash w.params (Str.ofString "_xor_output"), .str (Str.ofString "_xor_output") j6, .int X0 u6⟩, ⟨PyData.keyHash w.params (Str.ofString "data_width"), .str (Str.ofString "data_width") j7, .int D u7⟩] nd) ∈ tl) : ParObj w  tl  x  W P I0 X0 D  ri ro  u1 u2 u3 u6 u7 
theorem ParObj.mono {w : World} {tl tl' : Led} {x : Addr} {W P I0 X0 D : Int} {ri ro : Bool} {u1 u2 u3 u6 u7 : Nat} (h : ParObj w tl x W P I0 X0 D ri ro u1 u2 u3 u6 u7) (hs : ∀ p ∈ tl, p ∈ tl') : ParObj w tl' x W P I0 X0 D ri ro u1 u2 u3 u6 u7 := by
  obtain ⟨dx, j1, j2, j3, j4, j5, j6, j7, nd, a, b⟩ := h
  exact ⟨dx, j1, j2, j3, j4, j5, j6, j7, nd, hs _ a, hs _ b⟩
inductive J12 (w : World) (W P I0 X0 D : Int) (ri ro : Bool) (xs : List Int) (L : Addr) (m : Str → Option Value) (news : Led) : Prop
  | mk (b wl mx px T : Addr) (tl : Led) (o : Obj) (t1 t2 nl : Nat) (vs : List Value) (u1 u2 u3 u6 u7 v1 v2 v3 v6 v7 : Nat) (h0 : news = (b, o) :: tl) (h1 : (∀ p ∈ tl, p.1 ≠ b)) (h2 : BoxAt 13 tl o) (h3 : Cells L tl b W P D) (h4 : (wl, listOf vs.toArray nl) ∈ tl) (h5 : IntsAre vs xs) (h6 : ParObj w tl mx W P I0 X0 D ri ro u1 u2 u3 u6 u7) (h7 : ParObj w tl px W P 0 0 D false false v1 v2 v3 v6 v7) (h8 : (T, listOf [Value.int W u1, Value.int P u2, Value.int I0 u3, Value.bool ri, Value.bool ro, Value.int X0 u6, Value.int D u7].toArray 0) ∈ tl) (h9 : Has m [(Str.ofString "first", .int I0 t1), (Str.ofString "last", .int X0 t2), (Str.ofString "turn_in", .bool ri), (Str.ofString "turn_out", .bool ro), (Str.ofString "words", .ref wl), (Str.ofString "made", .ref mx), (Str.ofString "plain", .ref px), (Str.ofString "before", .ref T)]) : J12 w  W P I0 X0 D  ri ro  xs  L  m  news 
theorem ne_of_obj {h₀ h : Heap} {L a b : Addr} {o1 o2 : Obj} {news : Led} (N : News h₀ L h news) (ha : (a, o1) ∈ news) (hb : (b, o2) ∈ news) (ne : o1 ≠ o2) : a ≠ b := by
  rintro rfl
  exact ne (Option.some.inj ((N _ ha).1.symm.trans (N _ hb).1))
theorem inst_ne {C dx : Addr} {vs : List Value} {n : Nat} : instObj C dx ≠ listOf vs.toArray n := fun h => by
  have h2 : (instObj C dx).data = (listOf vs.toArray n).data := congrArg Obj.data h
  cases h2
theorem dict_ne {es : List DictEntry} {k : Nat} {vs : List Value} {n : Nat} : dictOf es k ≠ listOf vs.toArray n := fun h => by
  have h2 : (dictOf es k).data = (listOf vs.toArray n).data := congrArg Obj.data h
  cases h2
theorem list_ne {vs ws : List Value} {k n : Nat} (hl : vs.length ≠ ws.length) : listOf vs.toArray k ≠ listOf ws.toArray n := fun h => by
  have h2 : (listOf vs.toArray k).data = (listOf ws.toArray n).data := congrArg Obj.data h
  injection h2 with h3
  exact hl (congrArg Array.size h3)
theorem pick12 {h₀ h : Heap} {L : Addr} {tl : Led} {e0 e1 e2 e3 e4 e5 e6 e7 e8 e9 : Addr × Obj} (N : News h₀ L h (e0 :: e1 :: e2 :: e3 :: e4 :: e5 :: e6 :: e7 :: e8 :: e9 :: tl)) : News h₀ L h (e9 :: e0 :: e1 :: e2 :: e5 :: e6 :: tl) := fun p hp => N p (by
  simp only [List.mem_cons] at hp ⊢
  rcases hp with h | h | h | h | h | h | h <;> simp [h])
theorem par_at {w : World} {h₀ h : Heap} {L x dx : Addr} {tl : Led} {e0 e1 : Addr × Obj} {W P I0 X0 D : Int} {ri ro : Bool} {u1 u2 u3 u6 u7 j1 j2 j3 j4 j5 j6 j7 nd : Nat}
    (_N : News h₀ L h (e0 :: e1 :: (x, instObj 143 dx) :: (dx, dictOf [⟨PyData.keyHash w.params (Str.ofString "_crc_width"), .str (Str.ofString "_crc_width") j1, .int W u1⟩, ⟨PyData.keyHash w.params (Str.ofString "_polynomial"), .str (Str.ofString "_polynomial") j2, .int P u2⟩, ⟨PyData.keyHash w.params (Str.ofString "_initial_crc"), .str (Str.ofString "_initial_crc") j3, .int I0 u3⟩, ⟨PyData.keyHash w.params (Str.ofString "_reflect_input"), .str (Str.ofString "_reflect_input") j4, .bool ri⟩, ⟨PyData.keyHash w.params (Str.ofString "_reflect_output"), .str (Str.ofString "_reflect_output") j5, .bool ro⟩, ⟨PyData.keyHash w.params (Str.ofString "_xor_output"), .str (Str.ofString "_xor_output") j6, .int X0 u6⟩, ⟨PyData.keyHash w.params (Str.ofString "data_width"), .str (Str.ofString "data_width") j7, .int D u7⟩] nd) :: tl)) : ParObj w (e1 :: (x, instObj 143 dx) :: (dx, dictOf [⟨PyData.keyHash w.params (Str.ofString "_crc_width"), .str (Str.ofString "_crc_width") j1, .int W u1⟩, ⟨PyData.keyHash w.params (Str.ofString "_polynomial"), .str (Str.ofString "_polynomial") j2, .int P u2⟩, ⟨PyData.keyHash w.params (Str.ofString "_initial_crc"), .str (Str.ofString "_initial_crc") j3, .int I0 u3⟩, ⟨PyData.keyHash w.params (Str.ofString "_reflect_input"), .str (Str.ofString "_reflect_input") j4, .bool ri⟩, ⟨PyData.keyHash w.params (Str.ofString "_reflect_output"), .str (Str.ofString "_reflect_output") j5, .bool ro⟩, ⟨PyData.keyHash w.params (Str.ofString "_xor_output"), .str (Str.ofString "_xor_output") j6, .int X0 u6⟩, ⟨PyData.keyHash w.params (Str.ofString "data_width"), .str (Str.ofString "data_width") j7, .int D u7⟩] nd) :: tl) x W P I0 X0 D ri ro u1 u2 u3 u6 u7 :=
  ⟨dx, j1, j2, j3, j4, j5, j6, j7, nd, .tail _ (.head _), .tail _ (.tail _ (.head _))⟩
theorem par_at2 {w : World} {h₀ h : Heap} {L x dx : Addr} {tl : Led} {e0 e1 e2 e3 : Addr × Obj} {W P I0 X0 D : Int} {ri ro : Bool} {u1 u2 u3 u6 u7 j1 j2 j3 j4 j5 j6 j7 nd : Nat}
    (_N : News h₀ L h (e0 :: e1 :: e2 :: e3 :: (x, instObj 143 dx) :: (dx, dictOf [⟨PyData.keyHash w.params (Str.ofString "_crc_width"), .str (Str.ofString "_crc_width") j1, .int W u1⟩, ⟨PyData.keyHash w.params (Str.ofString "_polynomial"), .str (Str.ofString "_polynomial") j2, .int P u2⟩, ⟨PyData.keyHash w.params (Str.ofString "_initial_crc"), .str (Str.ofString "_initial_crc") j3, .int I0 u3⟩, ⟨PyData.keyHash w.params (Str.ofString "_reflect_input"), .str (Str.ofString "_reflect_input") j4, .bool ri⟩, ⟨PyData.keyHash w.params (Str.ofString "_reflect_output"), .str (Str.ofString "_reflect_output") j5, .bool ro⟩, ⟨PyData.keyHash w.params (Str.ofString "_xor_output"), .str (Str.ofString "_xor_output") j6, .int X0 u6⟩, ⟨PyData.keyHash w.params (Str.ofString "data_width"), .str (Str.ofString "data_width") j7, .int D u7⟩] nd) :: tl)) : ParObj w (e1 :: e2 :: e3 :: (x, instObj 143 dx) :: (dx, dictOf [⟨PyData.keyHash w.params (Str.ofString "_crc_width"), .str (Str.ofString "_crc_width") j1, .int W u1⟩, ⟨PyData.keyHash w.params (Str.ofString "_polynomial"), .str (Str.ofString "_polynomial") j2, .int P u2⟩, ⟨PyData.keyHash w.params (Str.ofString "_initial_crc"), .str (Str.ofString "_initial_crc") j3, .int I0 u3⟩, ⟨PyData.keyHash w.params (Str.ofString "_reflect_input"), .str (Str.ofString "_reflect_input") j4, .bool ri⟩, ⟨PyData.keyHash w.params (Str.ofString "_reflect_output"), .str (Str.ofString "_reflect_output") j5, .bool ro⟩, ⟨PyData.keyHash w.params (Str.ofString "_xor_output"), .str (Str.ofString "_xor_output") j6, .int X0 u6⟩, ⟨PyData.keyHash w.params (Str.ofString "data_width"), .str (Str.ofString "data_width") j7, .int D u7⟩] nd) :: tl) x W P I0 X0 D ri ro u1 u2 u3 u6 u7 :=
  ⟨dx, j1, j2, j3, j4, j5, j6, j7, nd, .tail _ (.tail _ (.tail _ (.head _))), .tail _ (.tail _ (.tail _ (.tail _ (.head _))))⟩
/-- the matrices are made -/
inductive JF (w : World) (W P I0 X0 D : Int) (ri ro : Bool) (xs : List Int) (L : Addr) (m : Str → Option Value) (news : Led) : Prop
  | mk (b wl mx px T F G : Addr) (tl : Led) (o : Obj) (t1 t2 nl : Nat) (vs : List Value) (u1 u2 u3 u6 u7 v1 v2 v3 v6 v7 : Nat) (h0 : (b, o) ∈ news) (h1 : (∀ p ∈ tl, p ∈ news)) (h2 : (∀ p ∈ tl, p.1 ≠ b)) (h3 : BoxAt 13 tl o) (h4 : Cells L tl b W P D) (h5 : (wl, listOf vs.toArray nl) ∈ tl) (h6 : IntsAre vs xs) (h7 : ParObj w tl mx W P I0 X0 D ri ro u1 u2 u3 u6 u7) (h8 : ParObj w tl px W P 0 0 D false false v1 v2 v3 v6 v7) (h9 : (T, listOf [Value.int W u1, Value.int P u2, Value.int I0 u3, Value.bool ri, Value.bool ro, Value.int X0 u6, Value.int D u7].toArray 0) ∈ tl) (h10 : DatIn news (.ref F) (.list (rowsF W D P W.toNat))) (h11 : DatIn news (.ref G) (.list (rowsG W D P D.toNat))) (h12 : Has m [(Str.ofString "first", .int I0 t1), (Str.ofString "last", .int X0 t2), (Str.ofString "turn_in", .bool ri), (Str.ofString "turn_out", .bool ro), (Str.ofString "words", .ref wl), (Str.ofString "made", .ref mx), (Str.ofString "plain", .ref px), (Str.ofString "before", .ref T), (Str.ofString "f", .ref F), (Str.ofString "g", .ref G)]) : JF w  W P I0 X0 D  ri ro  xs  L  m  news 
theorem rowsF_all {W P D : Int} (k : Nat) (n : Nat) : (rowsF W D P n).all (kqdOk (k + 1)) = true ∧ (rowsG W D P n).all (kqdOk (k + 1)) = true := by
  have row : ∀ v xs, kqdOk (k + 1) (rowD W D P v xs) = true := fun v xs => by
    unfold rowD
    simp only [kqdOk, List.all_map, List.all_eq_true]
    intro x _
    cases k <;> rfl
  constructor
  · simp only [rowsF, List.all_map, List.all_eq_true]
    intro k _
    exact row _ _
  · simp only [rowsG, List.all_map, List.all_eq_true]
    intro k _
    exact row _ _
theorem rowsF_ok {W P D : Int} (n : Nat) : kqdOk 8 (.list (rowsF W D P n)) = true := (rowsF_all 6 n).1
theorem rowsG_ok {W P D : Int} (n : Nat) : kqdOk 8 (.list (rowsG W D P n)) = true := (rowsF_all 6 n).2
theorem pair_ok {W P D : Int} (n k : Nat) : kqdOk 8 (.list [.list (rowsF W D P n), .list (rowsG W D P k)]) = true := by
  have h1 : kqdOk 7 (.list (rowsF W D P n)) = true := (rowsF_all 5 n).1
  have h2 : kqdOk 7 (.list (rowsG W D P k)) = true := (rowsF_all 5 k).2
  show ([Dat.list (rowsF W D P n), Dat.list (rowsG W D P k)].all (kqdOk 7)) = true
  simp only [List.all_cons, List.all_nil, h1, h2, Bool.and_self]
section
variable {prog : Program} {w : World} {A : Around} {E : Value → Shared → Prop} {s : Shared} {h₀ : Heap} {L : Addr} {news : Led} {a b : Value} {d : Dat} {Q : Value → Shared → Prop}
/-- two that read alike do not differ -/
theorem ne_same (N : News h₀ L s.heap news) (ha : DatIn news a d) (hb : DatIn news b d) (hk : kqdOk 8 d = true) (hu : A.units + 64 < cLine) (h : Q (.bool false) s) : wpAny (model prog w) A (compareOp .NotEq a b) Q E s := by
  obtain ⟨as, ra⟩ := kqd_in N 8 ha hk
  obtain ⟨bs, rb⟩ := kqd_in N 8 hb hk
  obtain ⟨l1, l2⟩ := kqd_lay 8 d hk
  have sh : SeqAt.shaped (kqdP d) = true := Bool.and_eq_true_iff.mpr ⟨l1, decide_eq_true (by omega)⟩
  refine SeqAt.compareNe_shaped ra rb sh sh hu ?_
  rw [SeqAt.eqv_refl _ l1]
  exact h
end
theorem news_row {h₀ h : Heap} {L : Addr} {a b c d : Addr × Obj} {tl : Led} (N : News h₀ L h (d :: a :: b :: c :: tl)) : News h₀ L h (a :: b :: c :: d :: tl) := fun p hp => N p (by
  simp only [List.mem_cons] at hp ⊢
  rcases hp with h | h | h | h | h <;> simp [h])
theorem sub_cons {h₀ h : Heap} {L : Addr} {a : Addr × Obj} {news nw : Led} (_N : News h₀ L h (a :: nw)) (hs : ∀ p ∈ news, p ∈ nw) : ∀ p ∈ news, p ∈ a :: nw := fun p hp => .tail _ (hs p hp)
section
variable {prog : Program} {w : World} {A : Around} {E : Value → Shared → Prop} {s : Shared} {h₀ : Heap} {L T T2 : Addr} {news : Led} {Q : Value → Shared → Prop} {W P I0 X0 D : Int} {ri ro : Bool} {u1 u2 u3 u6 u7 v1 v2 v3 v6 v7 : Nat}
theorem told_reads {k : Nat} (N : News h₀ L s.heap news) (h : (T, listOf [Value.int W u1, Value.int P u2, Value.int I0 u3, Value.bool ri, Value.bool ro, Value.int X0 u6, Value.int D u7].toArray k) ∈ news) :
    ∃ as, Reads s.heap (.ref T) (.list [.int W, .int P, .int I0, .bool ri, .bool ro, .int X0, .int D]) as :=
  ⟨_, reads_list_at (N.get h) rfl rfl (.cons (Reads.int _ _) (.cons (Reads.int _ _) (.cons (Reads.int _ _) (.cons (Reads.bool _) (.cons (Reads.bool _) (.cons (Reads.int _ _) (.cons (Reads.int _ _) .nil)))))))⟩
theorem told_shaped : SeqAt.shaped (.list [.int W, .int P, .int I0, .bool ri, .bool ro, .int X0, .int D]) = true := rfl
theorem ne_told {k k2 : Nat} (N : News h₀ L s.heap news) (h : (T, listOf [Value.int W u1, Value.int P u2, Value.int I0 u3, Value.bool ri, Value.bool ro, Value.int X0 u6, Value.int D u7].toArray k) ∈ news)
    (h2 : (T2, listOf [Value.int W v1, Value.int P v2, Value.int I0 v3, Value.bool ri, Value.bool ro, Value.int X0 v6, Value.int D v7].toArray k2) ∈ news) (hu : A.units + 64 < cLine) (hQ : Q (.bool false) s) : wpAny (model prog w) A (compareOp .NotEq (.ref T) (.ref T2)) Q E s := by
  obtain ⟨as, ra⟩ := told_reads N h
  obtain ⟨bs, rb⟩ := told_reads N h2
  refine SeqAt.compareNe_shaped ra rb told_shaped told_shaped hu ?_
  rw [SeqAt.eqv_refl _ (Bool.and_eq_true_iff.mp told_shaped).1]
  exact hQ
theorem eq_told {k k2 : Nat} (N : News h₀ L s.heap news) (h : (T, listOf [Value.int W u1, Value.int P u2, Value.int I0 u3, Value.bool ri, Value.bool ro, Value.int X0 u6, Value.int D u7].toArray k) ∈ news)
    (h2 : (T2, listOf [Value.int W v1, Value.int P v2, Value.int I0 v3, Value.bool ri, Value.bool ro, Value.int X0 v6, Value.int D v7].toArray k2) ∈ news) (hu : A.units + 64 < cLine) (hQ : Q (.bool true) s) : wpAny (model prog w) A (compareOp .Eq (.ref T) (.ref T2)) Q E s := by
  obtain ⟨as, ra⟩ := told_reads N h
  obtain ⟨bs, rb⟩ := told_reads N h2
  refine SeqAt.compareEq_shaped ra rb told_shaped told_shaped hu ?_
  rw [SeqAt.eqv_refl _ (Bool.and_eq_true_iff.mp told_shaped).1]
  exact hQ
end
theorem pair_in {h₀ h : Heap} {L a b : Addr} {x y z t : Value} {k k2 : Nat} {d1 d2 : Dat} {nw : Led} (_N : News h₀ L h ((b, listOf #[z, t] k2) :: (a, listOf #[x, y] k) :: nw)) (h1 : DatIn nw x d1) (h2 : DatIn nw y d2) (h3 : DatIn nw z d1) (h4 : DatIn nw t d2) :
    DatIn ((b, listOf #[z, t] k2) :: (a, listOf #[x, y] k) :: nw) (.ref a) (.list [d1, d2]) ∧ DatIn ((b, listOf #[z, t] k2) :: (a, listOf #[x, y] k) :: nw) (.ref b) (.list [d1, d2]) := by
  have hs : ∀ p ∈ nw, p ∈ (b, listOf #[z, t] k2) :: (a, listOf #[x, y] k) :: nw := fun p hp => .tail _ (.tail _ hp)
  exact ⟨.list (vs := [x, y]) (.tail _ (.head _)) (.cons (DatIn.mono hs h1) (.cons (DatIn.mono hs h2) .nil)), .list (vs := [z, t]) (.head _) (.cons (DatIn.mono hs h3) (.cons (DatIn.mono hs h4) .nil))⟩
theorem sub_cons2 {h₀ h : Heap} {L : Addr} {a b : Addr × Obj} {news nw : Led} (_N : News h₀ L h (a :: b :: nw)) (hs : ∀ p ∈ news, p ∈ nw) : ∀ p ∈ news, p ∈ a :: b :: nw := fun p hp => .tail _ (.tail _ (hs p hp))
theorem sub_cons3 {h₀ h : Heap} {L : Addr} {a b c : Addr × Obj} {news nw : Led} (_N : News h₀ L h (a :: b :: c :: nw)) (hs : ∀ p ∈ news, p ∈ nw) : ∀ p ∈ news, p ∈ a :: b :: c :: nw := fun p hp => .tail _ (.tail _ (.tail _ (hs p hp)))
/-! the law's second half: its numbers -/
def fZ (W P D : Int) : List Int := (List.range W.toNat).map fun (k : Nat) => wordZ W P D 0 (2 ^ (k : Int).toNat) D.toNat
def gZ (W P D : Int) : List Int := (List.range D.toNat).map fun (k : Nat) => wordZ W P D (2 ^ (k : Int).toNat) 0 D.toNat
def regZ (W P D : Int) (ri : Bool) (s : Int) (xs : List Int) : Int := ((regN W.toNat P.toNat D.toNat ri s.toNat (xs.map Int.toNat) : Nat) : Int)
theorem pow_toNat (k : Nat) : ((2 : Int) ^ (k : Int).toNat).toNat = 2 ^ k := by
  rw [← kbt_cast, Int.toNat_natCast, Int.toNat_natCast]
theorem fZ_nat (W P D : Int) : (fZ W P D).map Int.toNat = (List.range W.toNat).map fun i => wordN W.toNat P.toNat D.toNat (2 ^ i) 0 := by
  unfold fZ
  rw [List.map_map]
  refine List.map_congr_left fun k _ => ?_
  simp only [Function.comp, wordZ, pow_toNat]
  rfl
theorem gZ_nat (W P D : Int) : (gZ W P D).map Int.toNat = (List.range D.toNat).map fun i => wordN W.toNat P.toNat D.toNat 0 (2 ^ i) := by
  unfold gZ
  rw [List.map_map]
  refine List.map_congr_left fun k _ => ?_
  simp only [Function.comp, wordZ, pow_toNat]
  rfl
theorem fZ_len (W P D : Int) : (fZ W P D).length = W.toNat := by simp [fZ]
theorem gZ_len (W P D : Int) : (gZ W P D).length = D.toNat := by simp [gZ]
theorem fZ_nn (W P D : Int) : ∀ x ∈ fZ W P D, 0 ≤ x := by
  intro x hx
  obtain ⟨k, _, rfl⟩ := List.mem_map.mp hx
  exact wordZ_nonneg _ _ _ _ _ _
theorem gZ_nn (W P D : Int) : ∀ x ∈ gZ W P D, 0 ≤ x := by
  intro x hx
  obtain ⟨k, _, rfl⟩ := List.mem_map.mp hx
  exact wordZ_nonneg _ _ _ _ _ _
theorem times_wordZ {W P D s x : Int} (hs : 0 ≤ s) (hs2 : s < 2 ^ W.toNat) (hx : 0 ≤ x) (hx2 : x < 2 ^ D.toNat) :
    Builtin.bitXor (timesZ (fZ W P D) s (fZ W P D).length) (timesZ (gZ W P D) x (gZ W P D).length) = wordZ W P D x s D.toNat := by
  unfold timesZ wordZ
  rw [xorN]
  have h := times_word (w := W.toNat) (p := P.toNat) (d := D.toNat) (s := s.toNat) (x := x.toNat) _ _ (fZ_nat W P D) (gZ_nat W P D) (lt_toNat hs hs2) (lt_toNat hx hx2)
  unfold timesN at h
  rw [List.length_map, List.length_map] at h
  rw [h]
  rfl
theorem numZ_bits {n W : Int} (h0 : 0 ≤ n) (h : n < 2 ^ W.toNat) : numZ (bitsZ n W) = n := by
  unfold numZ bitsZ
  have e : ((bitsN n.toNat W.toNat).map fun (b : Nat) => (b : Int)).map Int.toNat = bitsN n.toNat W.toNat := by
    rw [List.map_map]
    exact (List.map_congr_left fun k _ => Int.toNat_natCast k).trans (List.map_id _)
  rw [e, numN_bits (lt_toNat h0 h)]
  omega
theorem regZ_nn (W P D : Int) (ri : Bool) (s : Int) (xs : List Int) : 0 ≤ regZ W P D ri s xs := Int.natCast_nonneg _
theorem regZ_lt {W P D : Int} {ri : Bool} {s : Int} {xs : List Int} (hP1 : 0 ≤ P) (hP2 : P < 2 ^ W.toNat) (hs : 0 ≤ s) (hs2 : s < 2 ^ W.toNat) : regZ W P D ri s xs < 2 ^ W.toNat := by
  unfold regZ
  rw [← kbt_cast]
  exact Int.ofNat_lt.mpr (regN_lt (lt_toNat hP1 hP2) _ _ (lt_toNat hs hs2))
theorem reg_start {W P D I0 : Int} {ri : Bool} (h : 0 ≤ I0) (h2 : I0 < 2 ^ W.toNat) : I0 = regZ W P D ri I0 [] ∧ 0 ≤ I0 ∧ I0 < 2 ^ W.toNat := by
  refine ⟨?_, h, h2⟩
  show I0 = ((I0.toNat : Nat) : Int)
  omega
theorem reg_turn {W P D I0 c x x' : Int} {ri : Bool} {pre : List Int} (hP1 : 0 ≤ P) (hP2 : P < 2 ^ W.toNat) (hI1 : 0 ≤ I0) (hI2 : I0 < 2 ^ W.toNat) (hc : c = regZ W P D ri I0 pre) (hx : 0 ≤ x) (hx2 : x < 2 ^ D.toNat) (hx' : x' = ((tw ri D.toNat x.toNat : Nat) : Int)) :
    Builtin.bitXor (timesZ (fZ W P D) c (fZ W P D).length) (timesZ (gZ W P D) x' (gZ W P D).length) = regZ W P D ri I0 (pre ++ [x]) ∧ 0 ≤ Builtin.bitXor (timesZ (fZ W P D) c (fZ W P D).length) (timesZ (gZ W P D) x' (gZ W P D).length) ∧
      Builtin.bitXor (timesZ (fZ W P D) c (fZ W P D).length) (timesZ (gZ W P D) x' (gZ W P D).length) < 2 ^ W.toNat := by
  have hx2' : x' < 2 ^ D.toNat := by
    rw [hx', ← kbt_cast]
    exact Int.ofNat_lt.mpr (tw_lt (lt_toNat hx hx2))
  have q : Builtin.bitXor (timesZ (fZ W P D) c (fZ W P D).length) (timesZ (gZ W P D) x' (gZ W P D).length) = regZ W P D ri I0 (pre ++ [x]) := by
    rw [times_wordZ (by rw [hc]; exact regZ_nn _ _ _ _ _ _) (by rw [hc]; exact regZ_lt hP1 hP2 hI1 hI2) (by rw [hx']; exact Int.natCast_nonneg _) hx2', hc, hx']
    unfold wordZ regZ
    rw [Int.toNat_natCast, Int.toNat_natCast, List.map_append]
    unfold regN
    rw [List.foldl_append]
    rfl
  rw [q]
  exact ⟨rfl, regZ_nn _ _ _ _ _ _, regZ_lt hP1 hP2 hI1 hI2⟩
theorem comp_reg {W P D I0 X0 : Int} {ri ro : Bool} {xs : List Int} (hW : 1 ≤ W) (hP1 : 0 ≤ P) (hP2 : P < 2 ^ W.toNat) (hI1 : 0 ≤ I0) (hI2 : I0 < 2 ^ W.toNat) (hx : ∀ x ∈ xs, 0 ≤ x ∧ x < 2 ^ D.toNat) :
    compZ W D P I0 ri ro X0 xs = ((tw ro W.toNat (regZ W P D ri I0 xs).toNat ^^^ X0.toNat : Nat) : Int) := by
  unfold compZ regZ
  rw [compN_eq (by omega) (lt_toNat hP1 hP2) (lt_toNat hI1 hI2) (fun y hy => by
    obtain ⟨x, hm, rfl⟩ := List.mem_map.mp hy
    exact lt_toNat (hx x hm).1 (hx x hm).2), Int.toNat_natCast]
theorem due_yes {W P D I0 X0 c : Int} {ri : Bool} {xs : List Int} (hW : 1 ≤ W) (hP1 : 0 ≤ P) (hP2 : P < 2 ^ W.toNat) (hI1 : 0 ≤ I0) (hI2 : I0 < 2 ^ W.toNat) (hX1 : 0 ≤ X0) (hx : ∀ x ∈ xs, 0 ≤ x ∧ x < 2 ^ D.toNat) (hc : c = regZ W P D ri I0 xs) :
    Builtin.bitXor (turnZ c W) X0 = compZ W D P I0 ri true X0 xs := by
  rw [comp_reg hW hP1 hP2 hI1 hI2 hx, hc]
  obtain ⟨X0, rfl⟩ := eN hX1
  unfold turnZ
  rw [xorN]
  rfl
theorem due_no {W P D I0 X0 c : Int} {ri : Bool} {xs : List Int} (hW : 1 ≤ W) (hP1 : 0 ≤ P) (hP2 : P < 2 ^ W.toNat) (hI1 : 0 ≤ I0) (hI2 : I0 < 2 ^ W.toNat) (hX1 : 0 ≤ X0) (hx : ∀ x ∈ xs, 0 ≤ x ∧ x < 2 ^ D.toNat) (hc : c = regZ W P D ri I0 xs) :
    Builtin.bitXor c X0 = compZ W D P I0 ri false X0 xs := by
  rw [comp_reg hW hP1 hP2 hI1 hI2 hx, hc]
  obtain ⟨X0, rfl⟩ := eN hX1
  unfold regZ
  rw [xorN]
  rfl
theorem comp_lin {W P D a b : Int} {ri : Bool} {xs : List Int} (hW : 1 ≤ W) (hP1 : 0 ≤ P) (hP2 : P < 2 ^ W.toNat) (ha1 : 0 ≤ a) (ha2 : a < 2 ^ W.toNat) (hb1 : 0 ≤ b) (hb2 : b < 2 ^ W.toNat) (hx : ∀ x ∈ xs, 0 ≤ x ∧ x < 2 ^ D.toNat) :
    Builtin.bitXor (compZ W D P a ri false 0 xs) (compZ W D P b ri false 0 xs) = Builtin.bitXor (compZ W D P (Builtin.bitXor a b) ri false 0 xs) (compZ W D P 0 ri false 0 xs) := by
  obtain ⟨h1, h2⟩ := xor_bound ha1 ha2 hb1 hb2
  rw [comp_reg hW hP1 hP2 ha1 ha2 hx, comp_reg hW hP1 hP2 hb1 hb2 hx, comp_reg hW hP1 hP2 h1 h2 hx, comp_reg hW hP1 hP2 (Int.le_refl 0) (kbt_pos _) hx, xorN, xorN]
  obtain ⟨a, rfl⟩ := eN ha1
  obtain ⟨b, rfl⟩ := eN hb1
  unfold regZ tw
  simp only [Bool.false_eq_true, if_false, Int.toNat_natCast, Int.toNat_zero, Nat.xor_zero, xorN]
  rw [regN_xor _ a b (a ^^^ b) 0 (by rw [Nat.xor_zero])]
theorem ints_of_dat {news : Led} : ∀ {ys : List Value} {ns : List Int}, DatAll news ys (ns.map .int) → IntsAre ys ns
  | [], [], _ => .nil
  | _ :: _, [], h => nomatch h
  | [], _ :: _, h => nomatch h
  | _ :: _, _ :: _, h => by
    rw [List.map_cons] at h
    cases h with
    | cons h r =>
      cases h
      exact .cons _ _ (ints_of_dat r)
section
variable {prog : Program} {w : World} {A : Around} {h₀ : Heap} {L : Addr} {m : Str → Option Value} {env : Env} {elt : PySem.Expr} {x : Str} {scope : Scope} {cl : List (Str × Addr)} {s : Shared} {Fin : Shared → List Value → List (Addr × Obj) → Prop} {news : List (Addr × Obj)}
/-- a comprehension over a list of the ledger -/
theorem comp_ledger {ax : Addr} {its : List Value} {k : Nat} (J : Nat → List Value → Led → Prop) (hh : A.handled = none) (F : Fr h₀ L s.heap m) (N : News h₀ L s.heap news) (hm : (ax, listOf its.toArray k) ∈ news) (hsz : its.length ≤ 1000) (h0 : J 0 [] news)
    (keep : ∀ i ys nw, J i ys nw → (ax, listOf its.toArray k) ∈ nw)
    (turn : ∀ (i : Nat) v ys nw I oI C oC D m₂ h tk (Q E' : Value → Shared → Prop), its[i]? = some v → J i ys nw → LCg.NsObj oC m₂ → m₂ x = some v → Fr h₀ L h m → News h₀ L h ((I, oI) :: (C, oC) :: (D, LCg.lst ys) :: nw) → LCg.Off3 I C D nw → ((@Ne Nat I C) ∧ (@Ne Nat I D) ∧ (@Ne Nat C D)) →
      (∀ y h' tk' nw', Fr h₀ L h' m → News h₀ L h' ((I, oI) :: (C, oC) :: (D, LCg.lst ys) :: nw') → LCg.Off3 I C D nw' → J (i + 1) (ys ++ [y]) nw' → Q y { s with heap := h', toks := tk' }) →
      wpAny (model prog w) A (eval elt (compEnvC scope cl C env)) Q E' { s with heap := h, toks := tk })
    (fin : ∀ g ys nw, J its.length ys nw → Fin { s with heap := g } ys nw) : LCg.CompSrc prog w A h₀ L m env elt x scope cl Fin (.ref ax) s := by
  refine LCg.CompSrc.ledger hh F N (k := k) hm (by rw [sizeLine_eq, List.size_toArray]; omega) fun g => ?_
  rw [List.size_toArray]
  refine rest_of J ?_ h0 fun ys nw h => fin g ys nw h
  rintro i v ys nw I oI C oC D m₂ h tk E' hi hv hJ hC hx F₁ N₁ off ne
  rw [List.getElem?_toArray] at hv
  refine turn i v ys nw I oI C oC D m₂ h tk _ E' hv hJ hC hx F₁ N₁ off ne (fun y h' tk' nw' F' N' off' hJ' => ?_)
  exact ⟨h', tk', nw', rfl, F', N', off', .inr ⟨_, keep _ _ _ hJ', rfl, _, rfl⟩, hJ'⟩
end
theorem off1_mem {D : Addr} : ∀ {l : Led}, LCg.Off1 D l → ∀ p ∈ l, p.1 ≠ D
  | [], _, _, h => nomatch h
  | _ :: _, x, p, h => by
    rcases List.mem_cons.mp h with rfl | h
    · exact x.1
    · exact off1_mem x.2 p h
theorem listIn {news : Led} {v : Value} {ds : List Dat} (h : DatIn news v (.list ds)) : ∃ a vs n, v = .ref a ∧ (a, listOf vs.toArray n) ∈ news ∧ DatAll news vs ds := by
  cases h with
  | list h r => exact ⟨_, _, _, rfl, h, r⟩
/-- the i-th row -/
theorem row_at {news : Led} {vs : List Value} {v : Value} {W P D : Int} {n i : Nat} {ds : List Dat} (f : Nat → Int × List Int) (hds : ds = (List.range n).map fun k => rowD W D P (f k).1 (f k).2) (h : DatAll news vs ds) (hv : vs[i]? = some v) :
    ∃ a zs k, v = .ref a ∧ (a, listOf zs.toArray k) ∈ news ∧ IntsAre zs (bitsZ (compZ W D P (f i).1 false false 0 (f i).2) W) ∧ i < n := by
  subst hds
  have hl := h.length
  rw [List.length_map, List.length_range] at hl
  have hi : i < vs.length := by
    rcases Nat.lt_or_ge i vs.length with h | h
    · exact h
    · rw [List.getElem?_eq_none h] at hv; cases hv
  obtain ⟨v', e, hd⟩ := h.get (k := i) (by rw [List.length_map, List.length_range]; omega)
  have e2 : v' = v := Option.some.inj (e.symm.trans hv)
  subst e2
  rw [List.getElem_map, List.getElem_range] at hd
  obtain ⟨a, zs, k, e, hm, hz⟩ := listIn hd
  exact ⟨a, zs, k, e, hm, ints_of_dat hz, by omega⟩
theorem bitsZ_nn (n W : Int) : ∀ x ∈ bitsZ n W, 0 ≤ x := fun x hx => by
  obtain ⟨k, _, rfl⟩ := List.mem_map.mp hx
  exact Int.natCast_nonneg _
theorem bitsZ_len (n W : Int) : (bitsZ n W).length = W.toNat := by simp [bitsZ, bitsN]
/-- the matrices, as numbers -/
inductive J19 (w : World) (W P I0 X0 D : Int) (ri ro : Bool) (xs : List Int) (L : Addr) (m : Str → Option Value) (news : Led) : Prop
  | mk (b wl mx T F G : Addr) (tl : Led) (o : Obj) (t1 t2 nl nf ng : Nat) (vs fs gs : List Value) (u1 u2 u3 u6 u7 : Nat) (h0 : news = (b, o) :: tl) (h1 : (∀ p ∈ tl, p.1 ≠ b)) (h2 : BoxAt 13 tl o) (h3 : Cells L tl b W P D) (h4 : (wl, listOf vs.toArray nl) ∈ tl) (h5 : IntsAre vs xs) (h6 : ParObj w tl mx W P I0 X0 D ri ro u1 u2 u3 u6 u7) (h7 : (T, listOf [Value.int W u1, Value.int P u2, Value.int I0 u3, Value.bool ri, Value.bool ro, Value.int X0 u6, Value.int D u7].toArray 0) ∈ tl) (h8 : (F, listOf fs.toArray nf) ∈ tl) (h9 : IntsAre fs (fZ W P D)) (h10 : (G, listOf gs.toArray ng) ∈ tl) (h11 : IntsAre gs (gZ W P D)) (h12 : Has m [(Str.ofString "first", .int I0 t1), (Str.ofString "last", .int X0 t2), (Str.ofString "turn_in", .bool ri), (Str.ofString "turn_out", .bool ro), (Str.ofString "words", .ref wl), (Str.ofString "made", .ref mx), (Str.ofString "before", .ref T), (Str.ofString "f", .ref F), (Str.ofString "g", .ref G), (Str.ofString "state", .int I0 t1)]) : J19 w  W P I0 X0 D  ri ro  xs  L  m  news 
theorem fZ_take {W P D : Int} {i : Nat} (h : i < W.toNat) : (fZ W P D).take (i + 1) = (fZ W P D).take i ++ [wordZ W P D 0 (2 ^ (i : Int).toNat) D.toNat] := by
  rw [List.take_succ_eq_append_getElem (by rw [fZ_len]; exact h)]
  simp [fZ]
theorem gZ_take {W P D : Int} {i : Nat} (h : i < D.toNat) : (gZ W P D).take (i + 1) = (gZ W P D).take i ++ [wordZ W P D (2 ^ (i : Int).toNat) 0 D.toNat] := by
  rw [List.take_succ_eq_append_getElem (by rw [gZ_len]; exact h)]
  simp [gZ]
theorem row_num {W P D v x : Int} (hW : 1 ≤ W) (hP1 : 0 ≤ P) (hP2 : P < 2 ^ W.toNat) (hv1 : 0 ≤ v) (hv2 : v < 2 ^ W.toNat) (hx1 : 0 ≤ x) (hx2 : x < 2 ^ D.toNat) : numZ (bitsZ (compZ W D P v false false 0 [x]) W) = wordZ W P D x v D.toNat := by
  obtain ⟨h1, h2⟩ := comp_row_lt (D := D) hW hP1 hP2 hv1 hv2 hx1 hx2
  rw [numZ_bits h1 h2, comp_row hW hP1 hP2 hv1 hv2 hx1 hx2]
theorem gen1 {h₀ h : Heap} {L : Addr} {n0 : Led} (N : News h₀ L h n0) : ∃ n1, n1 = n0 ∧ News h₀ L h n1 := ⟨_, rfl, N⟩
theorem led19 {h₀ h : Heap} {L a1 a2 b : Addr} {o1 o2 o : Obj} {news tl : Led} (N : News h₀ L h ((a2, o2) :: (a1, o1) :: news)) (h1 : LCg.Off1 a1 news) (h2 : LCg.Off1 a2 ((a1, o1) :: news)) (hbn : (b, o) ∈ news) (hsub : ∀ p ∈ tl, p ∈ news) (hb : ∀ p ∈ tl, p.1 ≠ b) :
    News h₀ L h ((b, o) :: (a2, o2) :: (a1, o1) :: tl) ∧ ∀ p ∈ (a2, o2) :: (a1, o1) :: tl, p.1 ≠ b := by
  constructor
  · intro p hp
    refine N p ?_
    simp only [List.mem_cons] at hp ⊢
    rcases hp with rfl | h | h | h
    · exact .inr (.inr hbn)
    · exact .inl h
    · exact .inr (.inl h)
    · exact .inr (.inr (hsub _ h))
  · exact List.forall_mem_cons.mpr ⟨Ne.symm (off1_mem h2 _ (.tail _ hbn)), List.forall_mem_cons.mpr ⟨Ne.symm (off1_mem h1 _ hbn), hb⟩⟩
theorem take_all {α : Type} {l : List α} {n : Nat} (h : l.length = n) : l.take n = l := List.take_of_length_le (Nat.le_of_eq h)
theorem sub19 {h₀ h : Heap} {L : Addr} {a b c : Addr × Obj} {tl : Led} (_N : News h₀ L h (a :: b :: c :: tl)) : ∀ p ∈ tl, p ∈ b :: c :: tl := fun _ hp => .tail _ (.tail _ hp)
/-- the words are taken -/
inductive J20 (w : World) (W P I0 X0 D : Int) (ri ro : Bool) (xs : List Int) (L : Addr) (m : Str → Option Value) (news : Led) : Prop
  | mk (b wl mx T : Addr) (tl : Led) (o : Obj) (t2 t3 nl : Nat) (c : Int) (vs : List Value) (u1 u2 u3 u6 u7 : Nat) (h0 : news = (b, o) :: tl) (h1 : (∀ p ∈ tl, p.1 ≠ b)) (h2 : BoxAt 13 tl o) (h3 : Cells L tl b W P D) (h4 : (wl, listOf vs.toArray nl) ∈ tl) (h5 : IntsAre vs xs) (h6 : ParObj w tl mx W P I0 X0 D ri ro u1 u2 u3 u6 u7) (h7 : (T, listOf [Value.int W u1, Value.int P u2, Value.int I0 u3, Value.bool ri, Value.bool ro, Value.int X0 u6, Value.int D u7].toArray 0) ∈ tl) (h8 : c = regZ W P D ri I0 xs) (h9 : Has m [(Str.ofString "last", .int X0 t2), (Str.ofString "turn_in", .bool ri), (Str.ofString "turn_out", .bool ro), (Str.ofString "words", .ref wl), (Str.ofString "made", .ref mx), (Str.ofString "before", .ref T), (Str.ofString "state", .int c t3)]) : J20 w  W P I0 X0 D  ri ro  xs  L  m  news 
/-- what is due is known -/
inductive J21 (w : World) (W P I0 X0 D : Int) (ri ro : Bool) (xs : List Int) (L : Addr) (m : Str → Option Value) (news : Led) : Prop
  | mk (b wl mx T : Addr) (tl : Led) (o : Obj) (t3 nl : Nat) (vs : List Value) (u1 u2 u3 u6 u7 : Nat) (h0 : news = (b, o) :: tl) (h1 : (∀ p ∈ tl, p.1 ≠ b)) (h2 : BoxAt 13 tl o) (h3 : Cells L tl b W P D) (h4 : (wl, listOf vs.toArray nl) ∈ tl) (h5 : IntsAre vs xs) (h6 : ParObj w tl mx W P I0 X0 D ri ro u1 u2 u3 u6 u7) (h7 : (T, listOf [Value.int W u1, Value.int P u2, Value.int I0 u3, Value.bool ri, Value.bool ro, Value.int X0 u6, Value.int D u7].toArray 0) ∈ tl) (h8 : Has m [(Str.ofString "turn_in", .bool ri), (Str.ofString "words", .ref wl), (Str.ofString "made", .ref mx), (Str.ofString "before", .ref T), (Str.ofString "due", .int (compZ W D P I0 ri ro X0 xs) t3)]) : J21 w  W P I0 X0 D  ri ro  xs  L  m  news 
/-- two more are drawn -/
inductive J24 (w : World) (W P I0 X0 D : Int) (ri ro : Bool) (xs : List Int) (a1 a2 : Int) (L : Addr) (m : Str → Option Value) (news : Led) : Prop
  | mk (b wl mx T : Addr) (t1 t2 nl : Nat) (vs : List Value) (u1 u2 u3 u6 u7 : Nat) (h0 : Cells L news b W P D) (h1 : (wl, listOf vs.toArray nl) ∈ news) (h2 : IntsAre vs xs) (h3 : ParObj w news mx W P I0 X0 D ri ro u1 u2 u3 u6 u7) (h4 : (T, listOf [Value.int W u1, Value.int P u2, Value.int I0 u3, Value.bool ri, Value.bool ro, Value.int X0 u6, Value.int D u7].toArray 0) ∈ news) (h5 : Has m [(Str.ofString "turn_in", .bool ri), (Str.ofString "words", .ref wl), (Str.ofString "made", .ref mx), (Str.ofString "before", .ref T), (Str.ofString "one", .int a1 t1), (Str.ofString "other", .int a2 t2)]) : J24 w  W P I0 X0 D  ri ro  xs  a1 a2  L  m  news 
theorem sub_one {h₀ h : Heap} {L : Addr} {a : Addr × Obj} {tl : Led} (_N : News h₀ L h (a :: tl)) : ∀ p ∈ tl, p ∈ a :: tl := fun _ hp => .tail _ hp
section
variable {prog : Program} {w : World} {A : Around} {E : Value → Shared → Prop} {s : Shared} {env : Env} {h₀ : Heap} {x : Str} {body : List Stmt} {Q : Flow → Shared → Prop}
/-- a loop over a list of the ledger, by a word over the turn's number, the names and the ledger -/
theorem loop_list {L ax : Addr} {its : List Value} {n : Nat} {m₀ : Str → Option Value} {news : Led} (J : Addr → Nat → (Str → Option Value) → Led → Prop) (hLe : env.locals = L) (hh : A.handled = none) (F : Fr h₀ L s.heap m₀) (N : News h₀ L s.heap news) (hm : (ax, listOf its.toArray n) ∈ news)
    (h0 : ∀ I : Addr, (∀ p ∈ news, p.1 < I) → J I 0 m₀ news)
    (turn : ∀ (i : Nat) v m₁ news₁ I it h tk (Q' : Flow → Shared → Prop), its[i]? = some v → J I i m₁ news₁ → Fr h₀ L h (fun y => if y = x then some v else m₁ y) → News h₀ L h ((I, it) :: news₁) →
      (∀ h' tk' m' n', Fr h₀ L h' m' → News h₀ L h' ((I, it) :: n') → (∀ p ∈ n', p.1 ≠ I) → (ax, listOf its.toArray n) ∈ n' → J I (i + 1) m' n' → Q' .next { s with heap := h', toks := tk' }) →
      wpAny (model prog w) A (execs body env) Q' E { s with heap := h, toks := tk })
    (done : ∀ I m₁ news₁ h tk, J I its.length m₁ news₁ → Fr h₀ L h m₁ → News h₀ L h news₁ → Q .next { s with heap := h, toks := tk }) :
    wpAny (model prog w) A (pyIter (.ref ax)) (fun it s₂ => LoopAtV prog w A h₀ env x body Q E it s₂) E s := by
  subst hLe
  refine iter_listUnr (lo := listOf its.toArray n) (vs := its) hh F N hm rfl rfl fun I hI => ?_
  have key : ∀ (r : List Value) (i : Nat) (m₁ : Str → Option Value) (n₁ : Led), i ≤ its.length → its.drop i = r → J I i m₁ n₁ → ListRest prog w A E h₀ env x body Q s I (ax, listOf its.toArray n) r m₁ n₁ := by
    intro r
    induction r with
    | nil =>
      intro i m₁ n₁ hle hd hJ
      refine ListRest.zero fun h tk F' N' => ?_
      have hi : its.length ≤ i := List.drop_eq_nil_iff.mp hd
      have e : i = its.length := Nat.le_antisymm hle hi
      subst e
      exact done I m₁ n₁ h tk hJ F' N'
    | cons v r ih =>
      intro i m₁ n₁ hle hd hJ
      have hv : its[i]? = some v := by
        have := congrArg List.head? hd
        rwa [List.head?_drop] at this
      have hlt : i < its.length := by
        rcases Nat.lt_or_ge i its.length with h | h
        · exact h
        · rw [List.getElem?_eq_none h] at hv; cases hv
      have hr : its.drop (i + 1) = r := by
        have := congrArg List.tail hd
        rwa [List.tail_drop] at this
      refine ListRest.succ fun it h tk hit F' N' => ?_
      refine turn i v m₁ n₁ I it h tk _ hv hJ F' N' fun h' tk' m' n' F₂ N₂ off hin hJ' => ?_
      exact ⟨h', tk', m', n', rfl, F₂, N₂, off, hin, ih (i + 1) m' n' hlt hr hJ'⟩
  exact key its 0 m₀ news (Nat.zero_le _) (List.drop_zero) (h0 I hI)
end
theorem ints_at {vs : List Value} {ns : List Int} (h : IntsAre vs ns) : ∀ {i : Nat} {v : Value}, vs[i]? = some v → ∃ n t, ns[i]? = some n ∧ v = .int n t := by
  induction h with
  | nil => intro i v hv; simp at hv
  | cons a b r ih =>
    intro i v hv
    cases i with
    | zero => exact ⟨_, _, rfl, by simpa using hv.symm⟩
    | succ i => exact ih (by simpa using hv)
section
variable {prog : Program} {w : World} {A : Around} {E : Value → Shared → Prop} {s : Shared} {env : Env} {h₀ : Heap} {x : Str} {body : List Stmt} {Q : Flow → Shared → Prop}
/-- the loop that fills a list with an int for each of four -/
theorem loop_rows {L ax lr : Addr} {b1 b2 b3 b4 : Int} {t1 t2 t3 t4 : Tok} {k c : Nat} {m₀ : Str → Option Value} {news : Led} (nm : Addr → List (Str × Value)) (f : Int → Int) (hLe : env.locals = L) (hh : A.handled = none)
    (F : Fr h₀ L s.heap m₀) (N : News h₀ L s.heap ((ax, listOf #[Value.int b1 t1, Value.int b2 t2, Value.int b3 t3, Value.int b4 t4] k) :: (lr, listOf #[] c) :: news)) (q1 : ∀ p ∈ news, p.1 < lr) (q2 : @LT.lt Nat _ lr ax ∧ AllLt ax news) (hm : Has m₀ (nm lr))
    (turn : ∀ (v : Int) (tv : Tok) (c : Nat) (rs : List Value) (tl : Led) (lr I : Addr) it h tk m₁ (Q' : Flow → Shared → Prop), v ∈ [b1, b2, b3, b4] → rs.toArray.size ≤ sizeLine → (∀ p ∈ tl, p.1 ≠ lr) → (∀ p ∈ tl, p.1 ≠ I) → (@Ne Nat lr I) → (∀ p ∈ news, p ∈ tl) → Has m₁ (nm lr) → Fr h₀ L h (fun y => if y = x then some (.int v tv) else m₁ y) →
      News h₀ L h ((I, it) :: (lr, listOf rs.toArray c) :: tl) →
      (∀ h' tk' m' t', Fr h₀ L h' m' → Has m' (nm lr) → News h₀ L h' ((I, it) :: (lr, listOf (rs ++ [Value.int (f v) t']).toArray (c + 1)) :: tl) → Q' .next { s with heap := h', toks := tk' }) →
      wpAny (model prog w) A (execs body env) Q' E { s with heap := h, toks := tk })
    (done : ∀ (c : Nat) (u1 u2 u3 u4 : Tok) (tl : Led) (lr : Addr) h tk m₁, (∀ p ∈ news, p ∈ tl) → Has m₁ (nm lr) → Fr h₀ L h m₁ → News h₀ L h ((lr, listOf [Value.int (f b1) u1, Value.int (f b2) u2, Value.int (f b3) u3, Value.int (f b4) u4].toArray c) :: tl) → Q .next { s with heap := h, toks := tk }) :
    wpAny (model prog w) A (pyIter (.ref ax)) (fun it s₂ => LoopAtV prog w A h₀ env x body Q E it s₂) E s := by
  refine loop_list (its := [Value.int b1 t1, Value.int b2 t2, Value.int b3 t3, Value.int b4 t4]) (n := k) (fun I i m nw => ∃ (lr : Addr) (c : Nat) (rs : List Value) (tl : Led), nw = (lr, listOf rs.toArray c) :: tl ∧ (∀ p ∈ tl, p.1 ≠ lr) ∧ (@Ne Nat lr I) ∧ (∀ p ∈ tl, p.1 ≠ I) ∧ (∀ p ∈ news, p ∈ tl) ∧
    (ax, listOf [Value.int b1 t1, Value.int b2 t2, Value.int b3 t3, Value.int b4 t4].toArray k) ∈ tl ∧ IntsAre rs (([b1, b2, b3, b4].take i).map f) ∧ Has m (nm lr)) hLe hh F (news_swap N) (.tail _ (.head _)) ?h0 ?turn ?done
  case h0 =>
    intro I hI
    refine ⟨lr, c, [], (ax, _) :: news, rfl, List.forall_mem_cons.mpr ⟨neN (Nat.ne_of_gt q2.1), fun p hp => neN (Nat.ne_of_lt (q1 p hp))⟩, Nat.ne_of_lt (hI _ (.head _)), fun p hp => neN (Nat.ne_of_lt (hI p (.tail _ hp))), fun p hp => .tail _ hp, .head _, .nil, hm⟩
  case turn =>
    rintro i v m₁ nw I it h tk Q' hv ⟨lr, c, rs, tl, rfl, o1, o2, o3, hs, hax, hI, hm⟩ F' N' hQ
    obtain ⟨n9, t9, hn, rfl⟩ := ints_at (ns := [b1, b2, b3, b4]) (.cons _ _ (.cons _ _ (.cons _ _ (.cons _ _ .nil)))) hv
    have hi : i < 4 := by
      rcases Nat.lt_or_ge i 4 with h | h
      · exact h
      · rw [List.getElem?_eq_none (by simpa using h)] at hn; cases hn
    have hl := hI.length
    rw [List.length_map, List.length_take] at hl
    refine turn n9 t9 c rs tl lr I it h tk m₁ Q' (List.mem_of_getElem? hn) (by rw [List.size_toArray, sizeLine_eq]; simp at hl; omega) o1 o3 o2 hs hm F' N' fun h' tk' m' t' F₂ hm' N₂ => ?_
    refine hQ h' tk' m' _ F₂ N₂ (List.forall_mem_cons.mpr ⟨o2, o3⟩) (.tail _ hax) ⟨lr, c + 1, _, tl, rfl, o1, o2, o3, hs, hax, ?_, hm'⟩
    have e : ([b1, b2, b3, b4].take (i + 1)).map f = ([b1, b2, b3, b4].take i).map f ++ [f n9] := by
      rw [List.take_add_one, hn, List.map_append]
      rfl
    rw [e]
    exact intsAre_one hI
  case done =>
    rintro I m₁ nw h tk ⟨lr, c, rs, tl, rfl, o1, o2, o3, hs, hax, hI, hm⟩ F' N'
    have e : ([b1, b2, b3, b4].take [Value.int b1 t1, Value.int b2 t2, Value.int b3 t3, Value.int b4 t4].length).map f = [f b1, f b2, f b3, f b4] := rfl
    rw [e] at hI
    cases hI with
    | cons u1 _ hI => cases hI with
      | cons u2 _ hI => cases hI with
        | cons u3 _ hI => cases hI with
          | cons u4 _ hI => cases hI with
            | nil => exact done c _ _ _ _ tl lr h tk m₁ hs hm F' N'
end
theorem news_rows {h₀ h : Heap} {L lr : Addr} {rs : List Value} {v : Value} {k : Nat} {tl : Led} {e0 e1 e2 e3 i : Addr × Obj} (N : News h₀ L h (e0 :: e1 :: e2 :: e3 :: i :: (lr, listOf (rs.toArray.push v) k) :: tl)) : News h₀ L h (i :: (lr, listOf (rs ++ [v]).toArray k) :: tl) := by
  rw [List.push_toArray] at N
  exact fun p hp => N p (.tail _ (.tail _ (.tail _ (.tail _ hp))))
local macro_rules | `(tactic| walk_at "call ref") => `(tactic| (k_here; k_dflt (refine' GivesK.use (alg_gives _ _ _ _ _ _ _ _ _ _ _ _ _ _ _ ?q1 ?q2 ?q3 ?q4 ?q5 ?q6 ?q7 ?q8) ?kB ?kF ?kX ?kN ?kT ?kK ?kd ?ku ?_; (case kB => k_asm); (case kF => k_asm); (case kX => k_asm); (case kN => k_asm); (case kT => k_asm); (case kK => first | exact rfl | assumption); (case kd => ktr_room); (case ku => ktr_units); (case q1 => omega); (case q2 => omega); (case q3 => omega); (case q4 => first | assumption | omega); (case q5 => omega); (case q6 => first | assumption | omega | exact kbt_pos _); (case q7 => omega); (case q8 => first | assumption | omega | exact kbt_pos _); k_whole); intro r' n' h' tk' F' N' hP'; obtain ⟨x', d', j1', j2', j3', j4', j5', j6', hr', hn', l1, l2⟩ := hP'; subst hn'; subst hr'; (try k_lt l1); (try k_lt2 l2); (try k_sweep); (try dsimp only); (try k_fold); walk_say "ALGORITHM GIVES"))
local macro_rules | `(tactic| walk_at "call ref") => `(tactic| (k_here; k_dflt (refine' Gives.use (par_gives _ _ _ _ _ _ _ _ _ _ _ _ _ _ _ _ _ _ _ _ _ _ _ _ _ _ ?p1 ?p2 ?q1 ?q2) ?kB ?kF ?kX ?kN ?kT ?kK ?kd ?ku ?_; (case kB => k_asm); (case kF => k_asm); (case kX => k_asm); (case kN => k_asm); (case kT => k_asm); (case kK => first | exact rfl | assumption); (case kd => ktr_room); (case ku => ktr_units); (case p1 => k_mem); (case p2 => k_mem); (case q1 => omega); (case q2 => omega); k_whole); intro r' n' h' tk' F' N' hP'; obtain ⟨x', d', j1', j2', j3', j4', j5', j6', j7', hr', hn', l1, l2⟩ := hP'; subst hn'; subst hr'; (try k_lt l1); (try k_lt2 l2); (try k_sweep); (try dsimp only); (try k_fold); walk_say "PARAMETERS GIVES"))
local macro_rules | `(tactic| walk_at "call ref") => `(tactic| (k_here; k_dflt (refine' Gives.use (draw_at _ _ _ _ _ _ _ _ _ _ _ _ _ _ _ _ ?p1 ?p2 ?p3 ?p4 ?p5 ?p6 ?p7) ?kB ?kF ?kX ?kN ?kT ?kK ?kd ?ku ?_; (case kB => k_asm); (case kF => k_asm); (case kX => k_asm); (case kN => k_asm); (case kT => k_asm); (case kK => first | exact rfl | assumption); (case kd => ktr_room); (case ku => ktr_units); (case p1 => k_updF); (case p2 => k_mem); (case p3 => with_reducible assumption); (case p4 => first | assumption | omega); (case p5 => omega); (case p6 => omega); (case p7 => first | assumption | omega | exact kbt_pos _); k_whole); intro r' n' h' tk' F' N' hP'; obtain ⟨v', tv', t', hr', hv1', hv2', hn'⟩ := hP'; subst hn'; subst hr'; (try dsimp only at N'); (try dsimp only); (try k_fold); walk_say "DRAW GIVES"))
local macro_rules | `(tactic| walk_at "call ref") => `(tactic| (k_here; k_dflt (refine' Gives.use (told_gives _ _ _ _ _ _ _ _ _ _ _ _ _ _ _ _ _ _ _ _ _ _ _ _ _ _ _ ?p1 ?p2 ?q1 ?q2 ?q3 ?q4 ?q5 ?q6 ?q7 ?q8 ?q9 ?q10) ?kB ?kF ?kX ?kN ?kT ?kK ?kd ?ku ?_; (case kB => k_asm); (case kF => k_asm); (case kX => k_asm); (case kN => k_asm); (case kT => k_asm); (case kK => first | exact rfl | assumption); (case kd => ktr_room); (case ku => ktr_units); (case p1 => k_mem); (case p2 => k_mem); (case q1 => omega); (case q2 => omega); (case q3 => omega); (case q4 => first | assumption | omega); (case q5 => omega); (case q6 => first | assumption | omega | exact kbt_pos _); (case q7 => omega); (case q8 => first | assumption | omega | exact kbt_pos _); (case q9 => omega); (case q10 => omega); k_whole); intro r' n' h' tk' F' N' hP'; obtain ⟨T', hr', hn', l1⟩ := hP'; subst hn'; subst hr'; (try simp only [AllLt, and_true] at l1); (try k_sweep); (try dsimp only); (try k_fold); walk_say "TOLD GIVES"))
local macro_rules | `(tactic| walk_at "call ref") => `(tactic| (k_here; k_dflt (refine' Gives.use (matrices_gives _ _ _ _ _ _ _ _ _ _ _ _ _ _ _ _ _ _ _ _ _ _ _ _ _ _ _ ?p1 ?p2 ?q1 ?q2 ?q3 ?q4 ?q5 ?q6 ?q7 ?q8 ?q9 ?q10) ?kB ?kF ?kX ?kN ?kT ?kK ?kd ?ku ?_; (case kB => k_asm); (case kF => k_asm); (case kX => k_asm); (case kN => k_asm); (case kT => k_asm); (case kK => first | exact rfl | assumption); (case kd => ktr_room); (case ku => ktr_units); (case p1 => k_mem); (case p2 => k_mem); (case q1 => omega); (case q2 => omega); (case q3 => omega); (case q4 => first | assumption | omega); (case q5 => omega); (case q6 => first | assumption | omega | exact kbt_pos _); (case q7 => omega); (case q8 => first | assumption | omega | exact kbt_pos _); (case q9 => omega); (case q10 => omega); k_whole); intro r' n' h' tk' F' N' hP'; obtain ⟨tup', FF', GG', hr', htup', hF', hG', hsub'⟩ := hP'; subst hr'; (try k_sweep); (try dsimp only); (try k_fold); refine Hold.out ?_; walk_say "MATRICES GIVE"))
local macro_rules | `(tactic| walk_at "call ref") => `(tactic| (k_here; k_dflt (refine' Gives.use (word_gives _ _ _ _ _ _ _ _ _ _ _ _ _ _ _ ?p1 ?p2 ?p3 ?p4 ?p5 ?p6 ?p7) ?kB ?kF ?kX ?kN ?kT ?kK ?kd ?ku ?_; (case kB => k_asm); (case kF => k_asm); (case kX => k_asm); (case kN => k_asm); (case kT => k_asm); (case kK => first | exact rfl | assumption); (case kd => ktr_room); (case ku => ktr_units); (case p1 => omega); (case p2 => omega); (case p3 => first | omega | exact Int.le_of_lt (kbt_pos _)); (case p4 => first | omega | exact Int.le_of_lt (kbt_pos _)); (case p5 => omega); (case p6 => omega); (case p7 => omega); k_whole); intro r' n' h' tk' F' N' hP'; obtain ⟨hn', t', hr'⟩ := hP'; subst hn'; subst hr'; (try k_sweep); (try dsimp only); (try k_fold); walk_say "WORD GIVES"))
local macro_rules | `(tactic| walk_at "call ref") => `(tactic| (k_here; k_dflt (refine' Gives.use (bits_gives _ _ _ _ _ _ _ _ _ ?p1 ?p2 ?p3) ?kB ?kF ?kX ?kN ?kT ?kK ?kd ?ku ?_; (case kB => k_asm); (case kF => k_asm); (case kX => k_asm); (case kN => k_asm); (case kT => k_asm); (case kK => first | exact rfl | assumption); (case kd => ktr_room); (case ku => ktr_units); (case p1 => omega); (case p2 => omega); (case p3 => first | omega | exact wordZ_nonneg _ _ _ _ _ _); k_whole); intro r' n' h' tk' F' N' hP'; obtain ⟨D', ys', hr', hn', hI', hO'⟩ := hP'; subst hn'; subst hr'; (try k_sweep); (try dsimp only); (try k_fold); walk_say "BITS GIVE"))
local macro_rules | `(tactic| walk_at "call ref") => `(tactic| (k_here; k_dflt (refine' Gives.use (turned_gives _ _ _ _ _ _ _ _ _ ?p1 ?p2 ?p3) ?kB ?kF ?kX ?kN ?kT ?kK ?kd ?ku ?_; (case kB => k_asm); (case kF => k_asm); (case kX => k_asm); (case kN => k_asm); (case kT => k_asm); (case kK => first | exact rfl | assumption); (case kd => ktr_room); (case ku => ktr_units); (case p1 => omega); (case p2 => omega); (case p3 => first | assumption | omega); k_whole); intro r' n' h' tk' F' N' hP'; obtain ⟨hn', t', hr'⟩ := hP'; subst hn'; subst hr'; (try k_sweep); (try dsimp only); (try k_fold); walk_say "TURNED GIVES"))
local macro_rules | `(tactic| walk_at "call ref") => `(tactic| (k_here; k_dflt (refine' Gives.use (number_gives _ _ _ _ _ _ _ _ _ ?p1 ?p2 ?p3 ?p4) ?kB ?kF ?kX ?kN ?kT ?kK ?kd ?ku ?_; (case kB => k_asm); (case kF => k_asm); (case kX => k_asm); (case kN => k_asm); (case kT => k_asm); (case kK => first | exact rfl | assumption); (case kd => ktr_room); (case ku => ktr_units); (case p1 => k_mem); (case p2 => with_reducible assumption); (case p3 => first | assumption | omega); (case p4 => with_reducible assumption); k_whole); intro r' n' h' tk' F' N' hP'; obtain ⟨hn', t', hr'⟩ := hP'; subst hn'; subst hr'; (try k_sweep); (try dsimp only); (try k_fold); walk_say "NUMBER GIVES"))
local macro_rules | `(tactic| walk_at "call ref") => `(tactic| (k_here; k_dflt (refine' Gives.use (times_gives _ _ _ _ _ _ _ _ _ _ _ ?p1 ?p2 ?p3 ?p4 ?p5) ?kB ?kF ?kX ?kN ?kT ?kK ?kd ?ku ?_; (case kB => k_asm); (case kF => k_asm); (case kX => k_asm); (case kN => k_asm); (case kT => k_asm); (case kK => first | exact rfl | assumption); (case kd => ktr_room); (case ku => ktr_units); (case p1 => k_mem); (case p2 => with_reducible assumption); (case p3 => first | assumption | omega); (case p4 => with_reducible assumption); (case p5 => first | assumption | omega | exact turnZ_nn _ _); k_whole); intro r' n' h' tk' F' N' hP'; obtain ⟨hn', t', hr'⟩ := hP'; subst hn'; subst hr'; (try k_sweep); (try dsimp only); (try k_fold); walk_say "TIMES GIVES"))
local macro_rules | `(tactic| walk_at "call ref") => `(tactic| (k_here; k_dflt (refine' Gives.use (compute_gives _ _ _ _ _ _ _ _ _ _ _ _ _ _ _ _ _ _ _ _ _ _ _ _ _ _ _ ?p1 ?p2 ?q1 ?q2 ?q3 ?q4 ?q5 ?q6 ?q7 ?q8 ?q9 ?q10 _ _ _ _ ?r1 ?r2 ?r3 ?r4) ?kB ?kF ?kX ?kN ?kT ?kK ?kd ?ku ?_; (case kB => k_asm); (case kF => k_asm); (case kX => k_asm); (case kN => k_asm); (case kT => k_asm); (case kK => first | exact rfl | assumption); (case kd => ktr_room); (case ku => ktr_units); (case p1 => k_mem); (case p2 => k_mem); (case r1 => k_mem); (case r2 => with_reducible assumption); (case q1 => omega); (case q2 => omega); (case q3 => omega); (case q4 => first | assumption | omega); (case q5 => omega); (case q6 => first | assumption | omega); (case q7 => omega); (case q8 => first | assumption | omega | exact kbt_pos _); (case q9 => omega); (case q10 => omega); (case r3 => assumption); (case r4 => assumption); k_whole); intro r' n' h' tk' F' N' hP'; obtain ⟨hn', t', hr'⟩ := hP'; subst hn'; subst hr'; (try k_sweep); (try dsimp only); (try k_fold); walk_say "COMPUTE GIVES"))
local macro_rules | `(tactic| k_steps) => `(tactic| repeat' ((fail_if_success (walk_at "STOP")); (fail_if_success (with_reducible show Hold _)); first | (k_unfold; (try dsimp only)) | walk1 | (dsimp only; walk1) | (leave1; walk_say "STEP leave1"; (try dsimp only)) | fail "no step"))
section
local macro_rules | `(tactic| walk_at "STOP") => `(tactic| (with_reducible show wpAny _ _ (execs (Stmt.Assign [Expr.Name (Str.ofString "words") _] _ _ :: _) _) _ _ _))
theorem law_from8 (H : ∀ (w : World) (mean : ExcName → Option Value) (mg mb : Str → Option Value) (W P I0 X0 D : Int) (ri ro : Bool), 1 ≤ W → W ≤ 8 → 0 ≤ P → P < 2 ^ W.toNat → 0 ≤ I0 → I0 < 2 ^ W.toNat → 0 ≤ X0 → X0 < 2 ^ W.toNat → 1 ≤ D → D ≤ 6 → LawAt w mean mg mb 8 (J8 W P I0 X0 D ri ro)) :
    PySem.Challenge.rw_ac0002_01.Holds := by
  w_on
  o_law
  refine holds_open (q := viewX) (loose := looseX) (Xt := fun s => xlAt viewX [] s && recOk (RowW.records (OpenRow.toRowW PySem.Challenge.rw_ac0002_01.row)) s) (XP := XL viewX []) (Yf := Hook.obs hookX) (Ya := Hook.val hookX) (YP := Hook.says hookX) (N := 3288) (d := ⟨Str.ofString "law", dA15x0, dB15x0, dS15x0, ⟨132, 0, 166, 79⟩⟩) (kwd := []) leftX (Hook.of hookX) (Hook.keeps hookX) (fun s e => xl_of s (Bool.and_eq_true_iff.mp e).1) XL.keeps (by kernel_rfl!) (by kernel_rfl!) (by rfl) (fun s e => recFacts_of (Bool.and_eq_true_iff.mp e).2) (by rfl) (by first | assumption | decide +kernel) (by decide +kernel) ⟨rfl, rfl, rfl, rfl, rfl, by decide +kernel⟩ ?wit9 ?walk9
  case wit9 => w_witness2
  case' walk9 =>
    dsimp only [dA15x0, dB15x0, dS15x0]
    delta hookX
    w_strict (k_go0; (all_goals try k_fold); k_steps)
  with_reducible rename Fr _ _ _ _ => F₁
  with_reducible rename News _ _ _ _ => N₁
  with_reducible rename Frag.In _ _ => X₁
  with_reducible rename Top _ _ _ _ _ _ => T₁
  with_reducible rename Below _ _ _ _ => B₁
  refine' H _ _ _ _ _ _ _ _ _ _ _ ?b1 ?b2 ?b3 ?b4 ?b5 ?b6 ?b7 ?b8 ?b9 ?b10 _ _ _ _ _ _ _ _ _ B₁ F₁ X₁ N₁ T₁ ?J ?ret
  case J =>
    refine' ⟨_, _, _, _, _, rfl, ?hb, ?hbox, ?hc, ?hm⟩
    case hm => refine ⟨?_, ?_, ?_, ?_, trivial⟩ <;> with_unfolding_all rfl
    case hbox => exact ⟨_, _, _, _, _, _, _, rfl, by k_mem, by with_reducible assumption, by omega, by omega, by omega⟩
    case hb =>
      with_reducible rename (_ ∧ _ ∧ _ ∧ _ ∧ _) => l9
      obtain ⟨q1, q2, q3, q4, q5⟩ := l9
      exact List.forall_mem_cons.mpr ⟨neN (Nat.ne_of_lt q1), List.forall_mem_cons.mpr ⟨neN (Nat.ne_of_lt q2), List.forall_mem_cons.mpr ⟨neN (Nat.ne_of_lt q3), List.forall_mem_cons.mpr ⟨neN (Nat.ne_of_lt q4), List.forall_mem_cons.mpr ⟨neN (Nat.ne_of_lt q5), List.forall_mem_nil _⟩⟩⟩⟩⟩
    case hc => exact ⟨_, _, _, _, _, _, _, by k_mem, by k_mem, by k_mem, by k_mem, by with_reducible assumption, by with_reducible assumption, by with_reducible assumption, by with_reducible assumption⟩
  case ret =>
    intro h' tk' m' F'
    k_steps
    k_end
    wrow_close
  all_goals omega
end
section
local macro_rules | `(tactic| walk_at "STOP") => `(tactic| (with_reducible show wpAny _ _ (execs (Stmt.Assign [Expr.Name (Str.ofString "made") _] _ _ :: _) _) _ _ _))
local macro_rules | `(tactic| walk_at "STOP") => `(tactic| (with_reducible show LCg.CompSrc _ _ _ _ _ _ _ _ _ _ _ _ _ _))
theorem law_8 (w : World) (mean : ExcName → Option Value) (mg mb : Str → Option Value) (W P I0 X0 D : Int) (ri ro : Bool) (hD1 : 1 ≤ D) (hD2 : D ≤ 6) (H : ∀ xs : List Int, xs.length ≤ 5 → (∀ x ∈ xs, 0 ≤ x ∧ x < 2 ^ D.toNat) → LawAt w mean mg mb 9 (J9 W P I0 X0 D ri ro xs)) : LawAt w mean mg mb 8 (J8 W P I0 X0 D ri ro) := by
  unfold LawAt
  k_fill
  intro fa cd h₀ L m news s Q E B₁ F₁ X₁ N₁ T₁ hJ hret
  obtain ⟨b, tl, o, t1, t2, rfl, hb, hbox, hc, hm⟩ := hJ
  obtain ⟨l, k, t, nb, nl, vs, ns, rfl, hl, hi, hz, hk0, hk1⟩ := hbox
  have hc' := hc
  obtain ⟨o1, o2, o3, o4, u2, u3, u4, c1, c2, c3, c4, d1, d2, d3, d4⟩ := hc'
  have em := hm.map
  dsimp only [mapOf] at em
  rw [em] at F₁
  conv in (List.drop _ _) => whnf
  w_on
  k_steps
  with_reducible rename IsRange _ _ _ _ _ _ _ _ => hR
  with_reducible rename Fr _ _ _ _ => F₂
  with_reducible rename News _ _ _ _ => N₂
  refine' comp_range (fun i ys nw => ∃ o ns, nw = (b, o) :: tl ∧ BoxAt (8 + i) tl o ∧ IntsAre ys ns ∧ ns.length = i ∧ ∀ x ∈ ns, 0 ≤ x ∧ x < 2 ^ D.toNat) ?hh hR ?hb0 ?hb9 F₂ N₂ ?h0 ?turn ?fin
  case hh => exact rfl
  case hb0 => assumption
  case hb9 => omega
  case h0 => exact ⟨_, [], rfl, ⟨l, _, _, _, _, _, _, rfl, hl, hi, hz, by omega, by omega⟩, .nil, rfl, fun x hx => nomatch hx⟩
  case turn =>
    clear N₂ F₂ hR
    rintro i ti ys nw I oI C oC Dn m₂ h2 tk2 g Q2 E2 hi2 ⟨o9, ns9, rfl, hbox9, hI9, hl9, hx9⟩ hC2 hm2 F₂ N₂ off2 ne2 hQ
    obtain ⟨l, k, t, nb, nl, vs, ns, rfl, hl, hi, hz, hk0, hk1⟩ := hbox9
    have off3 := off2
    simp only [LCg.Off3] at off3
    obtain ⟨⟨n1, n2, n3⟩, off4⟩ := off3
    obtain ⟨n4, n5, n6⟩ := ne2
    k_steps
    with_reducible rename Fr _ _ _ _ => F₃
    with_reducible rename News _ _ _ _ => N₃
    refine hQ _ _ _ _ F₃ N₃ off2 ⟨_, ns9 ++ [_], rfl, ⟨l, _, _, _, _, _, _, rfl, hl, hi, hz, ?_, ?_⟩, intsAre_one hI9, ?_, ?_⟩
    · omega
    · omega
    · rw [List.length_append, hl9]; rfl
    · intro y hy
      rcases List.mem_append.mp hy with hy | hy
      · exact hx9 y hy
      · rw [List.mem_singleton.mp hy]
        exact ⟨by assumption, by assumption⟩
  case fin =>
    clear N₂ F₂ hR
    rintro g ys nw ⟨o9, ns9, rfl, hbox9, hI9, hl9, hx9⟩
    k_steps
    with_reducible rename Fr _ _ _ _ => F₃
    with_reducible rename News _ _ _ _ => N₃
    with_reducible rename (_ ∧ LCg.Off1 _ _) => ho
    refine' H ns9 ?q1 hx9 _ _ _ _ _ _ _ _ _ B₁ F₃ X₁ (news_swap N₃) T₁ ⟨b, _, _, _, _, _, _, _, rfl, ?q2, BoxAt.mono hbox9 (fun p hp => .tail _ hp) ?q3, hc.mono (fun p hp => .tail _ hp), .head _, hI9, ?q4⟩ hret
    case q4 => refine ⟨?_, ?_, ?_, ?_, ?_, trivial⟩ <;> with_unfolding_all rfl
    case q1 => omega
    case q2 => exact List.forall_mem_cons.mpr ⟨neN (Ne.symm ho.1), hb⟩
    case q3 => omega
end
section
local macro_rules | `(tactic| walk_at "STOP") => `(tactic| (with_reducible show wpAny _ _ (execs (Stmt.Assign [Expr.Tuple _ _ _] _ _ :: _) _) _ _ _))
theorem law_9 (w : World) (mean : ExcName → Option Value) (mg mb : Str → Option Value) (W P I0 X0 D : Int) (ri ro : Bool) (xs : List Int) (hW1 : 1 ≤ W) (hW2 : W ≤ 8) (hP1 : 0 ≤ P) (hP2 : P < 2 ^ W.toNat) (hI1 : 0 ≤ I0) (hI2 : I0 < 2 ^ W.toNat) (hX1 : 0 ≤ X0) (hX2 : X0 < 2 ^ W.toNat) (hD1 : 1 ≤ D) (hD2 : D ≤ 6) (H : LawAt w mean mg mb 12 (J12 w W P I0 X0 D ri ro xs)) : LawAt w mean mg mb 9 (J9 W P I0 X0 D ri ro xs) := by
  unfold LawAt
  k_fill
  intro fa cd h₀ L m news s Q E B₁ F₁ X₁ N₁ T₁ hJ hret
  obtain ⟨b, wl, tl, o, t1, t2, nl, vs, rfl, hb, hbox, hc, hwl, hxs, hm⟩ := hJ
  have hc' := hc
  obtain ⟨o1, o2, o3, o4, z2, z3, z4, c1, c2, c3, c4, d1, d2, d3, d4⟩ := hc'
  have em := hm.map
  dsimp only [mapOf] at em
  rw [em] at F₁
  conv in (List.drop _ _) => whnf
  w_on
  k_steps
  with_reducible rename Fr _ _ _ _ => F₃
  with_reducible rename News _ _ _ _ => N₃
  obtain ⟨l, k, t, nb, nbl, bvs, ns, rfl, hl, hi, hz, hk0, hk1⟩ := hbox
  have N₄ := pick12 N₃
  clear N₃
  have hplain := par_at N₄
  have hmade := par_at2 N₄
  refine' H _ _ _ _ _ _ _ _ _ B₁ F₃ X₁ N₄ T₁ ⟨b, wl, _, _, _, _, _, t1, t2, nl, vs, _, _, _, _, _, _, _, _, _, _, rfl, ?hb, ?hbox, ?hc, ?hw, hxs, hmade, hplain, ?hbef, ?hm⟩ hret
  case hm => refine ⟨?_, ?_, ?_, ?_, ?_, ?_, ?_, ?_, trivial⟩ <;> with_unfolding_all rfl
  case hbef => exact .head _
  case hw => exact .tail _ (.tail _ (.tail _ (.tail _ (.tail _ hwl))))
  case hc => exact hc.mono fun p hp => .tail _ (.tail _ (.tail _ (.tail _ (.tail _ hp))))
  case hbox => exact ⟨l, k, t, nb, nbl, bvs, ns, rfl, .tail _ (.tail _ (.tail _ (.tail _ (.tail _ hl)))), hi, hz, hk0, hk1⟩
  case hb =>
    refine List.forall_mem_cons.mpr ⟨ne_of_obj N₄ (.tail _ (.head _)) (.head _) (list_ne (by simp)), List.forall_mem_cons.mpr ⟨ne_of_obj N₄ (.tail _ (.tail _ (.head _))) (.head _) inst_ne, List.forall_mem_cons.mpr ⟨ne_of_obj N₄ (.tail _ (.tail _ (.tail _ (.head _)))) (.head _) dict_ne,
      List.forall_mem_cons.mpr ⟨ne_of_obj N₄ (.tail _ (.tail _ (.tail _ (.tail _ (.head _))))) (.head _) inst_ne, List.forall_mem_cons.mpr ⟨ne_of_obj N₄ (.tail _ (.tail _ (.tail _ (.tail _ (.tail _ (.head _)))))) (.head _) dict_ne, hb⟩⟩⟩⟩⟩
end
section
local macro_rules | `(tactic| walk_at "STOP") => `(tactic| (with_reducible show wpAny _ _ (execs (Stmt.If _ _ _ _ :: _) _) _ _ _))
theorem law_12 (w : World) (mean : ExcName → Option Value) (mg mb : Str → Option Value) (W P I0 X0 D : Int) (ri ro : Bool) (xs : List Int) (hW1 : 1 ≤ W) (hW2 : W ≤ 8) (hP1 : 0 ≤ P) (hP2 : P < 2 ^ W.toNat) (hI1 : 0 ≤ I0) (hI2 : I0 < 2 ^ W.toNat) (hX1 : 0 ≤ X0) (hX2 : X0 < 2 ^ W.toNat) (hD1 : 1 ≤ D) (hD2 : D ≤ 6) (H : LawAt w mean mg mb 13 (JF w W P I0 X0 D ri ro xs)) : LawAt w mean mg mb 12 (J12 w W P I0 X0 D ri ro xs) := by
  unfold LawAt
  k_fill
  intro fa cd h₀ L m news s Q E B₁ F₁ X₁ N₁ T₁ hJ hret
  obtain ⟨b, wl, mx, px, T, tl, o, t1, t2, nl, vs, u1, u2, u3, u6, u7, v1, v2, v3, v6, v7, rfl, hb, hbox, hc, hwl, hxs, hmade, hplain, hbef, hm⟩ := hJ
  have hmade' := hmade
  obtain ⟨dm, j1, j2, j3, j4, j5, j6, j7, nd, hm1, hm2⟩ := hmade'
  have em := hm.map
  dsimp only [mapOf] at em
  rw [em] at F₁
  conv in (List.drop _ _) => whnf
  w_on
  k_steps
  with_reducible rename (∀ p, p ∈ _ → p ∈ _) => hsub
  unfold Hold
  k_steps
  with_reducible rename Fr _ _ _ _ => F₃
  with_reducible rename News _ _ _ _ => N₃
  with_reducible rename DatIn _ _ (Dat.list (rowsF _ _ _ _)) => hF
  with_reducible rename DatIn _ _ (Dat.list (rowsG _ _ _ _)) => hG
  refine' H _ _ _ _ _ _ _ _ _ B₁ F₃ X₁ N₃ T₁ ⟨b, wl, mx, px, T, _, _, tl, o, t1, t2, nl, vs, u1, u2, u3, u6, u7, v1, v2, v3, v6, v7, hsub _ (.head _), fun p hp => hsub _ (.tail _ hp), hb, hbox, hc, hwl, hxs, hmade, hplain, hbef, hF, hG, ?hm⟩ hret
  case hm => refine ⟨?_, ?_, ?_, ?_, ?_, ?_, ?_, ?_, ?_, ?_, trivial⟩ <;> with_unfolding_all rfl
end
section
local macro_rules | `(tactic| walk_at "STOP") => `(tactic| (with_reducible show LCg.CompSrc _ _ _ _ _ _ _ _ _ _ _ _ _ _))
local macro_rules | `(tactic| walk_at "STOP") => `(tactic| (with_reducible show wpAny _ _ (compareOp CmpOp.NotEq _ _) _ _ _))
local macro_rules | `(tactic| walk_at "STOP") => `(tactic| (with_reducible show wpAny _ _ (execs (Stmt.If _ _ _ _ :: _) _) _ _ _))
theorem law_13 (w : World) (mean : ExcName → Option Value) (mg mb : Str → Option Value) (W P I0 X0 D : Int) (ri ro : Bool) (xs : List Int) (hW1 : 1 ≤ W) (hW2 : W ≤ 8) (hP1 : 0 ≤ P) (hP2 : P < 2 ^ W.toNat) (hI1 : 0 ≤ I0) (hI2 : I0 < 2 ^ W.toNat) (hX1 : 0 ≤ X0) (hX2 : X0 < 2 ^ W.toNat) (hD1 : 1 ≤ D) (hD2 : D ≤ 6) (H : LawAt w mean mg mb 14 (JF w W P I0 X0 D ri ro xs)) : LawAt w mean mg mb 13 (JF w W P I0 X0 D ri ro xs) := by
  unfold LawAt
  k_fill
  intro fa cd h₀ L m news s Q E B₁ F₁ X₁ N₁ T₁ hJ hret
  obtain ⟨b, wl, mx, px, T, F, G, tl, o, t1, t2, nl, vs, u1, u2, u3, u6, u7, v1, v2, v3, v6, v7, hbn, hsub, hb, hbox, hc, hwl, hxs, hmade, hplain, hbef, hF, hG, hm⟩ := hJ
  have hc' := hc.mono hsub
  obtain ⟨o1, o2, o3, o4, z2, z3, z4, c1, c2, c3, c4, d1, d2, d3, d4⟩ := hc'
  have em := hm.map
  dsimp only [mapOf] at em
  rw [em] at F₁
  conv in (List.drop _ _) => whnf
  w_on
  refine wpAny_execs_cons ?_
  k_steps
  with_reducible rename IsRange _ _ _ _ _ _ _ _ => hR
  with_reducible rename Fr _ _ _ _ => F₂
  with_reducible rename News _ _ _ _ => N₂
  refine' comp_range (fun i ys nw => (∀ p ∈ news, p ∈ nw) ∧ DatAll nw ys (rowsF W D P i)) ?hh hR ?hb0 ?hb9 F₂ N₂ ?h0 ?turn ?fin
  case hh => exact rfl
  case hb0 => omega
  case hb9 => omega
  case h0 => exact ⟨fun p hp => hp, .nil⟩
  case turn =>
    clear N₂ F₂ hR
    rintro i ti ys nw I oI C oC Dn m₂ h2 tk2 g Q2 E2 hi2 ⟨hn2, hA⟩ hC2 hm2 F₂ N₂ off2 ne2 hQ
    replace c1 := hn2 _ c1
    replace c2 := hn2 _ c2
    replace c3 := hn2 _ c3
    replace c4 := hn2 _ c4
    k_steps
    with_reducible rename Fr _ _ _ _ => F₃
    with_reducible rename News _ _ _ _ => N₃
    with_reducible rename IntsAre _ _ => hI
    with_reducible rename LCg.Off1 _ _ => ho
    obtain ⟨q1, q2, q3, -⟩ := ho
    refine hQ _ _ _ _ F₃ (news_row N₃) ⟨⟨Ne.symm q1, Ne.symm q2, Ne.symm q3⟩, off2⟩ ⟨fun p hp => .tail _ (hn2 p hp), ?_⟩
    rw [rowsF_succ]
    refine (DatAll.mono (fun p hp => .tail _ hp) hA).append (.one ?_)
    unfold rowD
    rw [comp_row hW1 hP1 hP2 (Int.le_of_lt (kbt_pos _)) (pow_ltI (by omega) hi2) (Int.le_refl 0) (kbt_pos _)]
    exact .list (.head _) (ints_dat hI)
  case fin =>
    clear N₂ F₂ hR
    rintro g ys nw ⟨hn2, hA⟩
    k_steps
    with_reducible rename Fr _ _ _ _ => F₃
    with_reducible rename News _ _ _ _ => N₃
    have hs3 := sub_cons N₃ hn2
    refine ne_same N₃ (DatIn.mono hs3 hF) (.list (.head _) (DatAll.mono (fun p hp => .tail _ hp) hA)) (rowsF_ok _) (by ke_room) ?_
    k_steps
    with_reducible rename Fr _ _ _ _ => F₄
    with_reducible rename News _ _ _ _ => N₄
    refine' H _ _ _ _ _ _ _ _ _ B₁ F₄ X₁ N₄ T₁ ⟨b, wl, mx, px, T, F, G, tl, o, t1, t2, nl, vs, u1, u2, u3, u6, u7, v1, v2, v3, v6, v7, hs3 _ hbn, fun p hp => hs3 _ (hsub p hp), hb, hbox, hc, hwl, hxs, hmade, hplain, hbef, DatIn.mono hs3 hF, DatIn.mono hs3 hG, ?hm⟩ hret
    case hm => refine ⟨?_, ?_, ?_, ?_, ?_, ?_, ?_, ?_, ?_, ?_, trivial⟩ <;> with_unfolding_all rfl
end
section
local macro_rules | `(tactic| walk_at "STOP") => `(tactic| (with_reducible show LCg.CompSrc _ _ _ _ _ _ _ _ _ _ _ _ _ _))
local macro_rules | `(tactic| walk_at "STOP") => `(tactic| (with_reducible show wpAny _ _ (compareOp CmpOp.NotEq _ _) _ _ _))
local macro_rules | `(tactic| walk_at "STOP") => `(tactic| (with_reducible show wpAny _ _ (execs (Stmt.If _ _ _ _ :: _) _) _ _ _))
theorem law_14 (w : World) (mean : ExcName → Option Value) (mg mb : Str → Option Value) (W P I0 X0 D : Int) (ri ro : Bool) (xs : List Int) (hW1 : 1 ≤ W) (hW2 : W ≤ 8) (hP1 : 0 ≤ P) (hP2 : P < 2 ^ W.toNat) (hI1 : 0 ≤ I0) (hI2 : I0 < 2 ^ W.toNat) (hX1 : 0 ≤ X0) (hX2 : X0 < 2 ^ W.toNat) (hD1 : 1 ≤ D) (hD2 : D ≤ 6) (H : LawAt w mean mg mb 15 (JF w W P I0 X0 D ri ro xs)) : LawAt w mean mg mb 14 (JF w W P I0 X0 D ri ro xs) := by
  unfold LawAt
  k_fill
  intro fa cd h₀ L m news s Q E B₁ F₁ X₁ N₁ T₁ hJ hret
  obtain ⟨b, wl, mx, px, T, F, G, tl, o, t1, t2, nl, vs, u1, u2, u3, u6, u7, v1, v2, v3, v6, v7, hbn, hsub, hb, hbox, hc, hwl, hxs, hmade, hplain, hbef, hF, hG, hm⟩ := hJ
  have hc' := hc.mono hsub
  obtain ⟨o1, o2, o3, o4, z2, z3, z4, c1, c2, c3, c4, d1, d2, d3, d4⟩ := hc'
  have em := hm.map
  dsimp only [mapOf] at em
  rw [em] at F₁
  conv in (List.drop _ _) => whnf
  w_on
  refine wpAny_execs_cons ?_
  k_steps
  with_reducible rename IsRange _ _ _ _ _ _ _ _ => hR
  with_reducible rename Fr _ _ _ _ => F₂
  with_reducible rename News _ _ _ _ => N₂
  refine' comp_range (fun i ys nw => (∀ p ∈ news, p ∈ nw) ∧ DatAll nw ys (rowsG W D P i)) ?hh hR ?hb0 ?hb9 F₂ N₂ ?h0 ?turn ?fin
  case hh => exact rfl
  case hb0 => omega
  case hb9 => omega
  case h0 => exact ⟨fun p hp => hp, .nil⟩
  case turn =>
    clear N₂ F₂ hR
    rintro i ti ys nw I oI C oC Dn m₂ h2 tk2 g Q2 E2 hi2 ⟨hn2, hA⟩ hC2 hm2 F₂ N₂ off2 ne2 hQ
    replace c1 := hn2 _ c1
    replace c2 := hn2 _ c2
    replace c3 := hn2 _ c3
    replace c4 := hn2 _ c4
    k_steps
    with_reducible rename Fr _ _ _ _ => F₃
    with_reducible rename News _ _ _ _ => N₃
    with_reducible rename IntsAre _ _ => hI
    with_reducible rename LCg.Off1 _ _ => ho
    obtain ⟨q1, q2, q3, -⟩ := ho
    refine hQ _ _ _ _ F₃ (news_row N₃) ⟨⟨Ne.symm q1, Ne.symm q2, Ne.symm q3⟩, off2⟩ ⟨fun p hp => .tail _ (hn2 p hp), ?_⟩
    rw [rowsG_succ]
    refine (DatAll.mono (fun p hp => .tail _ hp) hA).append (.one ?_)
    unfold rowD
    rw [comp_row hW1 hP1 hP2 (Int.le_refl 0) (kbt_pos _) (Int.le_of_lt (kbt_pos _)) (pow_ltI (by omega) hi2)]
    exact .list (.head _) (ints_dat hI)
  case fin =>
    clear N₂ F₂ hR
    rintro g ys nw ⟨hn2, hA⟩
    k_steps
    with_reducible rename Fr _ _ _ _ => F₃
    with_reducible rename News _ _ _ _ => N₃
    have hs3 := sub_cons N₃ hn2
    refine ne_same N₃ (DatIn.mono hs3 hG) (.list (.head _) (DatAll.mono (fun p hp => .tail _ hp) hA)) (rowsG_ok _) (by ke_room) ?_
    k_steps
    with_reducible rename Fr _ _ _ _ => F₄
    with_reducible rename News _ _ _ _ => N₄
    refine' H _ _ _ _ _ _ _ _ _ B₁ F₄ X₁ N₄ T₁ ⟨b, wl, mx, px, T, F, G, tl, o, t1, t2, nl, vs, u1, u2, u3, u6, u7, v1, v2, v3, v6, v7, hs3 _ hbn, fun p hp => hs3 _ (hsub p hp), hb, hbox, hc, hwl, hxs, hmade, hplain, hbef, DatIn.mono hs3 hF, DatIn.mono hs3 hG, ?hm⟩ hret
    case hm => refine ⟨?_, ?_, ?_, ?_, ?_, ?_, ?_, ?_, ?_, ?_, trivial⟩ <;> with_unfolding_all rfl
end
section
local macro_rules | `(tactic| walk_at "STOP") => `(tactic| (with_reducible show wpAny _ _ (compareOp CmpOp.NotEq _ _) _ _ _))
local macro_rules | `(tactic| walk_at "STOP") => `(tactic| (with_reducible show wpAny _ _ (execs (Stmt.Assign _ _ _ :: _) _) _ _ _))
theorem law_15 (w : World) (mean : ExcName → Option Value) (mg mb : Str → Option Value) (W P I0 X0 D : Int) (ri ro : Bool) (xs : List Int) (hW1 : 1 ≤ W) (hW2 : W ≤ 8) (hP1 : 0 ≤ P) (hP2 : P < 2 ^ W.toNat) (hI1 : 0 ≤ I0) (hI2 : I0 < 2 ^ W.toNat) (hX1 : 0 ≤ X0) (hX2 : X0 < 2 ^ W.toNat) (hD1 : 1 ≤ D) (hD2 : D ≤ 6) (H : LawAt w mean mg mb 16 (JF w W P I0 X0 D ri ro xs)) : LawAt w mean mg mb 15 (JF w W P I0 X0 D ri ro xs) := by
  unfold LawAt
  k_fill
  intro fa cd h₀ L m news s Q E B₁ F₁ X₁ N₁ T₁ hJ hret
  obtain ⟨b, wl, mx, px, T, F, G, tl, o, t1, t2, nl, vs, u1, u2, u3, u6, u7, v1, v2, v3, v6, v7, hbn, hsub, hb, hbox, hc, hwl, hxs, hmade, hplain, hbef, hF, hG, hm⟩ := hJ
  have hplain' := hplain.mono hsub
  obtain ⟨dp, i1, i2, i3, i4, i5, i6, i7, pd, hp1, hp2⟩ := hplain'
  have em := hm.map
  dsimp only [mapOf] at em
  rw [em] at F₁
  conv in (List.drop _ _) => whnf
  w_on
  k_steps
  with_reducible rename (∀ p, p ∈ _ → p ∈ _) => hs1
  with_reducible rename DatIn _ _ (Dat.list (rowsF _ _ _ _)) => hF1
  with_reducible rename DatIn _ _ (Dat.list (rowsG _ _ _ _)) => hG1
  unfold Hold
  k_steps
  with_reducible rename Fr _ _ _ _ => F₃
  with_reducible rename News _ _ _ _ => N₃
  obtain ⟨ha, hb9⟩ := pair_in N₃ hF1 hG1 (DatIn.mono hs1 hF) (DatIn.mono hs1 hG)
  refine ne_same N₃ ha hb9 (pair_ok _ _) (by ke_room) ?_
  clear ha hb9 hF1 hG1
  have hs2 := sub_cons2 N₃ hs1
  have hmade' := hmade.mono fun p hp => hs2 p (hsub p hp)
  obtain ⟨dm, j1, j2, j3, j4, j5, j6, j7, nd, hm1, hm2⟩ := hmade'
  clear hp1 hp2
  k_steps
  with_reducible rename (∀ p, p ∈ _ → p ∈ _) => hs3
  with_reducible rename DatIn _ _ (Dat.list (rowsF _ _ _ _)) => hF3
  with_reducible rename DatIn _ _ (Dat.list (rowsG _ _ _ _)) => hG3
  have hs4 : ∀ p ∈ news, p ∈ _ := fun p hp => hs3 p (hs2 p hp)
  replace hm1 := hs3 _ hm1
  replace hm2 := hs3 _ hm2
  unfold Hold
  k_steps
  with_reducible rename Fr _ _ _ _ => F₅
  with_reducible rename News _ _ _ _ => N₅
  obtain ⟨ha, hb9⟩ := pair_in N₅ hF3 hG3 (DatIn.mono hs4 hF) (DatIn.mono hs4 hG)
  refine ne_same N₅ ha hb9 (pair_ok _ _) (by ke_room) ?_
  clear ha hb9 hF3 hG3
  k_steps
  with_reducible rename Fr _ _ _ _ => F₆
  with_reducible rename News _ _ _ _ => N₆
  have hs5 := sub_cons3 N₆ hs4
  refine ne_told N₆ (.head _) (hs5 _ (hsub _ hbef)) (by ke_room) ?_
  k_steps
  with_reducible rename Fr _ _ _ _ => F₇
  with_reducible rename News _ _ _ _ => N₇
  refine' H _ _ _ _ _ _ _ _ _ B₁ F₇ X₁ N₇ T₁ ⟨b, wl, mx, px, T, F, G, tl, o, t1, t2, nl, vs, u1, u2, u3, u6, u7, v1, v2, v3, v6, v7, hs5 _ hbn, fun p hp => hs5 _ (hsub p hp), hb, hbox, hc, hwl, hxs, hmade, hplain, hbef, DatIn.mono hs5 hF, DatIn.mono hs5 hG, ?hm⟩ hret
  case hm => refine ⟨?_, ?_, ?_, ?_, ?_, ?_, ?_, ?_, ?_, ?_, trivial⟩ <;> with_unfolding_all rfl
end
section
local macro_rules | `(tactic| walk_at "exec Assign cons ListComp") => `(tactic| (k_here; k_dflt (refine LCg.Assign_ListComp_U (F₀ := by k_asm) (by rfl) (by with_unfolding_all rfl) (by with_unfolding_all rfl) (by decide) (by rfl) (by decide) (by rfl) (by rfl) (by rfl) ?_); walk_say "COMP BY HAND"))
local macro_rules | `(tactic| walk_at "STOP") => `(tactic| (with_reducible show LCg.CompSrc _ _ _ _ _ _ _ _ _ _ _ _ _ _))
local macro_rules | `(tactic| walk_at "STOP") => `(tactic| (with_reducible show wpAny _ _ (execs (Stmt.For _ _ _ _ _ :: _) _) _ _ _))
theorem law_16 (w : World) (mean : ExcName → Option Value) (mg mb : Str → Option Value) (W P I0 X0 D : Int) (ri ro : Bool) (xs : List Int) (hW1 : 1 ≤ W) (hW2 : W ≤ 8) (hP1 : 0 ≤ P) (hP2 : P < 2 ^ W.toNat) (hD1 : 1 ≤ D) (hD2 : D ≤ 6) (H : LawAt w mean mg mb 19 (J19 w W P I0 X0 D ri ro xs)) : LawAt w mean mg mb 16 (JF w W P I0 X0 D ri ro xs) := by
  unfold LawAt
  k_fill
  intro fa cd h₀ L m news s Q E B₁ F₁ X₁ N₁ T₁ hJ hret
  obtain ⟨b, wl, mx, px, T, F, G, tl, o, t1, t2, nl, vs, u1, u2, u3, u6, u7, v1, v2, v3, v6, v7, hbn, hsub, hb, hbox, hc, hwl, hxs, hmade, hplain, hbef, hF, hG, hm⟩ := hJ
  have em := hm.map
  dsimp only [mapOf] at em
  rw [em] at F₁
  conv in (List.drop _ _) => whnf
  w_on
  k_steps
  obtain ⟨F', fv, k9, e9, hFm, hFa⟩ := listIn hF
  cases e9
  have hFl : fv.length = W.toNat := by rw [hFa.length]; simp [rowsF]
  with_reducible rename Fr _ _ _ _ => F₂
  refine' comp_ledger (fun i ys nw => nw = news ∧ IntsAre ys ((fZ W P D).take i)) ?hh F₂ N₁ hFm ?size ?h0 ?keep ?turn ?fin
  case hh => exact rfl
  case size => omega
  case h0 => exact ⟨rfl, .nil⟩
  case keep => rintro i ys nw ⟨rfl, _⟩; exact hFm
  case turn =>
    clear F₂
    rintro i v ys nw I oI C oC Dn m₂ h2 tk2 Q2 E2 hv ⟨rfl, hA⟩ hC2 hm2 F₂ N₂ off2 ne2 hQ
    obtain ⟨a, zs, k8, rfl, hz, hzi, hi⟩ := row_at (n := W.toNat) (fun k => (2 ^ (k : Int).toNat, [0])) rfl hFa hv
    have hi' : (i : Int) < W := by omega
    have hlen : (bitsZ (compZ W D P (2 ^ (i : Int).toNat) false false 0 [0]) W).length ≤ 8 := by rw [bitsZ_len]; omega
    have hnn := bitsZ_nn (compZ W D P (2 ^ (i : Int).toNat) false false 0 [0]) W
    k_steps
    with_reducible rename Fr _ _ _ _ => F₃
    with_reducible rename News _ _ _ _ => N₃
    refine hQ _ _ _ _ F₃ N₃ off2 ⟨rfl, ?_⟩
    rw [row_num hW1 hP1 hP2 (Int.le_of_lt (kbt_pos _)) (pow_ltI (by omega) hi') (Int.le_refl 0) (kbt_pos _), fZ_take hi]
    exact intsAre_one hA
  case fin =>
    clear F₂
    rintro g ys nw ⟨rfl, hA⟩
    rw [take_all (by rw [fZ_len, hFl])] at hA
    k_steps
    obtain ⟨G', gv, k7, e9, hGm, hGa⟩ := listIn hG
    cases e9
    have hGl : gv.length = D.toNat := by rw [hGa.length]; simp [rowsG]
    with_reducible rename Fr _ _ _ _ => F₂
    with_reducible rename News _ _ _ _ => N₂
    with_reducible rename LCg.Off1 _ _ => ho1
    obtain ⟨n1, hn1, N₃⟩ := gen1 N₂
    have hGm1 : (G, listOf gv.toArray k7) ∈ n1 := by rw [hn1]; exact .tail _ hGm
    have hGa1 : DatAll n1 gv (rowsG W D P D.toNat) := by rw [hn1]; exact DatAll.mono (fun p hp => .tail _ hp) hGa
    refine' comp_ledger (fun i ys nw => nw = n1 ∧ IntsAre ys ((gZ W P D).take i)) ?hh F₂ N₃ hGm1 ?size ?h0 ?keep ?turn ?fin
    case hh => exact rfl
    case size => omega
    case h0 => exact ⟨rfl, .nil⟩
    case keep => rintro i ys nw ⟨rfl, _⟩; exact hGm1
    case turn =>
      clear F₂ N₂ N₃
      rintro i v ys nw I oI C oC Dn m₂ h2 tk2 Q2 E2 hv ⟨rfl, hA⟩ hC2 hm2 F₂ N₂ off2 ne2 hQ
      obtain ⟨a, zs, k8, rfl, hz, hzi, hi⟩ := row_at (n := D.toNat) (fun k => (0, [2 ^ (k : Int).toNat])) rfl hGa1 hv
      have hi' : (i : Int) < D := by omega
      have hlen : (bitsZ (compZ W D P 0 false false 0 [2 ^ (i : Int).toNat]) W).length ≤ 8 := by rw [bitsZ_len]; omega
      have hnn := bitsZ_nn (compZ W D P 0 false false 0 [2 ^ (i : Int).toNat]) W
      k_steps
      with_reducible rename Fr _ _ _ _ => F₃
      with_reducible rename News _ _ _ _ => N₃
      refine hQ _ _ _ _ F₃ N₃ off2 ⟨rfl, ?_⟩
      rw [row_num hW1 hP1 hP2 (Int.le_refl 0) (kbt_pos _) (Int.le_of_lt (kbt_pos _)) (pow_ltI (by omega) hi'), gZ_take hi]
      exact intsAre_one hA
    case fin =>
      clear F₂ N₂ N₃
      rintro g2 ys2 nw2 ⟨rfl, hA2⟩
      rw [take_all (by rw [gZ_len, hGl])] at hA2
      k_steps
      with_reducible rename Fr _ _ _ _ => F₂
      with_reducible rename News _ _ _ _ => N₂
      with_reducible rename LCg.Off1 _ _ => ho2
      subst hn1
      obtain ⟨N₄, hb4⟩ := led19 N₂ ho1 ho2 hbn hsub hb
      have ht := sub19 N₄
      refine' H _ _ _ _ _ _ _ _ _ B₁ F₂ X₁ N₄ T₁ ⟨b, wl, mx, T, _, _, _, o, t1, t2, nl, _, _, vs, ys, ys2, u1, u2, u3, u6, u7, rfl, hb4, hbox.mono ht (by omega), hc.mono ht, ht _ hwl, hxs, hmade.mono ht, ht _ hbef, .tail _ (.head _), hA, .head _, hA2, ?hm⟩ hret
      case hm => refine ⟨?_, ?_, ?_, ?_, ?_, ?_, ?_, ?_, ?_, ?_, trivial⟩ <;> with_unfolding_all rfl
end
section
local macro_rules | `(tactic| walk_at "exec Assign") => `(tactic| (k_here; (rename (@Membership.mem Int (List Int) _ _ _) => hMem9); (have hB9 := (show ∀ x ∈ _, (0 : Int) ≤ x ∧ x < _ from by assumption) _ hMem9); clear hMem9; walk_say "THE WORD"))
local macro_rules | `(tactic| walk_at "STOP") => `(tactic| (with_reducible show wpAny _ _ (execs (Stmt.Assign [Expr.Name (Str.ofString "due") _] _ _ :: _) _) _ _ _))
local macro_rules | `(tactic| k_mem) => `(tactic| exact List.mem_append_left _ (by assumption))
theorem law_19 (w : World) (mean : ExcName → Option Value) (mg mb : Str → Option Value) (W P I0 X0 D : Int) (ri ro : Bool) (xs : List Int) (hW1 : 1 ≤ W) (hW2 : W ≤ 8) (hP1 : 0 ≤ P) (hP2 : P < 2 ^ W.toNat) (hI1 : 0 ≤ I0) (hI2 : I0 < 2 ^ W.toNat) (hD1 : 1 ≤ D) (hD2 : D ≤ 6) (hlx : xs.length ≤ 5) (hbx : ∀ x ∈ xs, 0 ≤ x ∧ x < 2 ^ D.toNat) (H : LawAt w mean mg mb 20 (J20 w W P I0 X0 D ri ro xs)) : LawAt w mean mg mb 19 (J19 w W P I0 X0 D ri ro xs) := by
  unfold LawAt
  k_fill
  intro fa cd h₀ L m news s Q E B₁ F₁ X₁ N₁ T₁ hJ hret
  obtain ⟨b, wl, mx, T, F, G, tl, o, t1, t2, nl, nf, ng, vs, fs, gs, u1, u2, u3, u6, u7, rfl, hb, hbox, hc, hwl, hxs, hmade, hbef, hF, hFi, hG, hGi, hm⟩ := hJ
  have hc' := hc
  obtain ⟨o1, o2, o3, o4, z2, z3, z4, c1, c2, c3, c4, d1, d2, d3, d4⟩ := hc'
  have hfl : (fZ W P D).length ≤ 8 := by rw [fZ_len]; omega
  have hgl : (gZ W P D).length ≤ 8 := by rw [gZ_len]; omega
  have hfn := fZ_nn W P D
  have hgn := gZ_nn W P D
  have em := hm.map
  dsimp only [mapOf] at em
  rw [em] at F₁
  conv in (List.drop _ _) => whnf
  obtain ⟨sc9, hsc9⟩ : ∃ sc, sc = lawScope := ⟨_, rfl⟩
  rw [← hsc9]
  conv at hsc9 => rhs; whnf
  subst hsc9
  refine wpAny_noRaise ?_
  w_on
  k_with "pyIter ref" => k_state (fun pre (c : Int) => c = regZ W P D ri I0 pre ∧ 0 ≤ c ∧ c < 2 ^ W.toNat) "state"
  k_with "state" => first
    | with_reducible exact reg_start hI1 hI2
    | ((rename (_ = true) => hri); subst hri; with_reducible exact reg_turn hP1 hP2 hI1 hI2 (by assumption) (by omega) (by omega) tw_yes)
    | ((rename (_ = false) => hri); subst hri; with_reducible exact reg_turn hP1 hP2 hI1 hI2 (by assumption) (by omega) (by omega) (tw_no (by omega)))
  k_steps
  with_reducible rename Fr _ _ _ _ => F₂
  with_reducible rename News _ _ _ _ => N₂
  with_reducible rename (_ = regZ _ _ _ _ _ _) => hz
  refine' H _ _ _ _ _ _ _ _ _ B₁ F₂ X₁ N₂ T₁ ⟨b, wl, mx, T, tl, o, t2, _, nl, _, vs, u1, u2, u3, u6, u7, rfl, hb, hbox, hc, hwl, hxs, hmade, hbef, hz, ?hm⟩ hret
  case hm => refine ⟨?_, ?_, ?_, ?_, ?_, ?_, ?_, trivial⟩ <;> with_unfolding_all rfl
end
section
local macro_rules | `(tactic| walk_at "STOP") => `(tactic| (with_reducible show wpAny _ _ (execs (Stmt.If _ _ _ _ :: _) _) _ _ _))
theorem law_20 (w : World) (mean : ExcName → Option Value) (mg mb : Str → Option Value) (W P I0 X0 D : Int) (ri ro : Bool) (xs : List Int) (hW1 : 1 ≤ W) (hW2 : W ≤ 8) (hP1 : 0 ≤ P) (hP2 : P < 2 ^ W.toNat) (hI1 : 0 ≤ I0) (hI2 : I0 < 2 ^ W.toNat) (hX1 : 0 ≤ X0) (hX2 : X0 < 2 ^ W.toNat) (hbx : ∀ x ∈ xs, 0 ≤ x ∧ x < 2 ^ D.toNat) (H : LawAt w mean mg mb 21 (J21 w W P I0 X0 D ri ro xs)) : LawAt w mean mg mb 20 (J20 w W P I0 X0 D ri ro xs) := by
  unfold LawAt
  k_fill
  intro fa cd h₀ L m news s Q E B₁ F₁ X₁ N₁ T₁ hJ hret
  obtain ⟨b, wl, mx, T, tl, o, t2, t3, nl, c, vs, u1, u2, u3, u6, u7, rfl, hb, hbox, hc, hwl, hxs, hmade, hbef, hcr, hm⟩ := hJ
  have hc' := hc
  obtain ⟨o1, o2, o3, o4, z2, z3, z4, c1, c2, c3, c4, d1, d2, d3, d4⟩ := hc'
  have hc0 : 0 ≤ c := by rw [hcr]; exact regZ_nn _ _ _ _ _ _
  have em := hm.map
  dsimp only [mapOf] at em
  rw [em] at F₁
  conv in (List.drop _ _) => whnf
  w_on
  k_steps
  · with_reducible rename Fr _ _ _ _ => F₂
    with_reducible rename News _ _ _ _ => N₂
    with_reducible rename (_ = true) => hro
    subst hro
    rw [due_yes hW1 hP1 hP2 hI1 hI2 hX1 hbx hcr] at F₂
    refine' H _ _ _ _ _ _ _ _ _ B₁ F₂ X₁ N₂ T₁ ⟨b, wl, mx, T, tl, o, _, nl, vs, u1, u2, u3, u6, u7, rfl, hb, hbox, hc, hwl, hxs, hmade, hbef, ?hm⟩ hret
    case hm => refine ⟨?_, ?_, ?_, ?_, ?_, trivial⟩ <;> with_unfolding_all rfl
  · with_reducible rename Fr _ _ _ _ => F₂
    with_reducible rename News _ _ _ _ => N₂
    with_reducible rename (_ = false) => hro
    subst hro
    rw [due_no hW1 hP1 hP2 hI1 hI2 hX1 hbx hcr] at F₂
    refine' H _ _ _ _ _ _ _ _ _ B₁ F₂ X₁ N₂ T₁ ⟨b, wl, mx, T, tl, o, _, nl, vs, u1, u2, u3, u6, u7, rfl, hb, hbox, hc, hwl, hxs, hmade, hbef, ?hm⟩ hret
    case hm => refine ⟨?_, ?_, ?_, ?_, ?_, trivial⟩ <;> with_unfolding_all rfl
end
section
local macro_rules | `(tactic| walk_at "STOP") => `(tactic| (with_reducible show wpAny _ _ (execs (Stmt.Assign [Expr.Name (Str.ofString "rows") _] _ _ :: _) _) _ _ _))
theorem law_21 (w : World) (mean : ExcName → Option Value) (mg mb : Str → Option Value) (W P I0 X0 D : Int) (ri ro : Bool) (xs : List Int) (hW1 : 1 ≤ W) (hW2 : W ≤ 8) (hP1 : 0 ≤ P) (hP2 : P < 2 ^ W.toNat) (hI1 : 0 ≤ I0) (hI2 : I0 < 2 ^ W.toNat) (hX1 : 0 ≤ X0) (hX2 : X0 < 2 ^ W.toNat) (hD1 : 1 ≤ D) (hD2 : D ≤ 6) (hlx : xs.length ≤ 5) (hbx : ∀ x ∈ xs, 0 ≤ x ∧ x < 2 ^ D.toNat)
    (H : ∀ a1 a2 : Int, 0 ≤ a1 → a1 < 2 ^ W.toNat → 0 ≤ a2 → a2 < 2 ^ W.toNat → LawAt w mean mg mb 24 (J24 w W P I0 X0 D ri ro xs a1 a2)) : LawAt w mean mg mb 21 (J21 w W P I0 X0 D ri ro xs) := by
  unfold LawAt
  k_fill
  intro fa cd h₀ L m news s Q E B₁ F₁ X₁ N₁ T₁ hJ hret
  obtain ⟨b, wl, mx, T, tl, o, t3, nl, vs, u1, u2, u3, u6, u7, rfl, hb, hbox, hc, hwl, hxs, hmade, hbef, hm⟩ := hJ
  have hc' := hc
  obtain ⟨o1, o2, o3, o4, z2, z3, z4, c1, c2, c3, c4, d1, d2, d3, d4⟩ := hc'
  have hmade' := hmade
  obtain ⟨dm, j1, j2, j3, j4, j5, j6, j7, nd, hm1, hm2⟩ := hmade'
  obtain ⟨l, k, t, nb, nbl, bvs, ns, rfl, hl, hi, hz, hk0, hk1⟩ := hbox
  have hlx8 : xs.length ≤ 8 := by omega
  have em := hm.map
  dsimp only [mapOf] at em
  rw [em] at F₁
  conv in (List.drop _ _) => whnf
  w_on
  k_steps
  all_goals first
    | (with_reducible rename (@Ne Int _ _) => q9; exact absurd rfl q9)
    | skip
  with_reducible rename Fr _ _ _ _ => F₂
  with_reducible rename News _ _ _ _ => N₂
  have ht := sub_one N₂
  refine' H _ _ ?a1 ?a2 ?a3 ?a4 _ _ _ _ _ _ _ _ _ B₁ F₂ X₁ N₂ T₁ ⟨b, wl, mx, T, _, _, nl, vs, u1, u2, u3, u6, u7, hc.mono ht, ht _ hwl, hxs, hmade.mono ht, ht _ hbef, ?hm⟩ hret
  case hm => refine ⟨?_, ?_, ?_, ?_, ?_, ?_, trivial⟩ <;> with_unfolding_all rfl
  all_goals assumption
end
section
local macro_rules | `(tactic| size_fits) => `(tactic| assumption)
local macro_rules | `(tactic| walk_at "call builtin:list.append") => `(tactic| (k_here; (dsimp only [List.cons_append, List.nil_append]); (with_reducible show wpAny _ _ (call (Value.builtin _) [Value.ref _, _]) _ _ _); k_dflt (refine' append_K ?k1 ?k2 ?k3 ?_ ?z; (case k1 => k_asm); (case k2 => k_asm); (case k3 => k_upd); (case z => size_fits); k_whole); intro h' F' N'; (try k_sweep)))
local macro_rules | `(tactic| walk_at "STOP") => `(tactic| (with_reducible show wpAny _ _ (pyIter (Value.ref _)) (fun _ _ => LoopAtV _ _ _ _ _ _ _ _ _ _ _) _ _))
local macro_rules | `(tactic| walk_at "STOP") => `(tactic| (with_reducible show wpAny _ _ (compareOp CmpOp.Eq (Value.ref _) _) _ _ _))
theorem law_24 (w : World) (mean : ExcName → Option Value) (mg mb : Str → Option Value) (W P I0 X0 D : Int) (ri ro : Bool) (xs : List Int) (a1 a2 : Int) (hW1 : 1 ≤ W) (hW2 : W ≤ 8) (hP1 : 0 ≤ P) (hP2 : P < 2 ^ W.toNat) (hI1 : 0 ≤ I0) (hI2 : I0 < 2 ^ W.toNat) (hX1 : 0 ≤ X0) (hX2 : X0 < 2 ^ W.toNat) (hD1 : 1 ≤ D) (hD2 : D ≤ 6) (hlx : xs.length ≤ 5) (hbx : ∀ x ∈ xs, 0 ≤ x ∧ x < 2 ^ D.toNat)
    (ha1 : 0 ≤ a1) (ha2 : a1 < 2 ^ W.toNat) (ha3 : 0 ≤ a2) (ha4 : a2 < 2 ^ W.toNat) : LawAt w mean mg mb 24 (J24 w W P I0 X0 D ri ro xs a1 a2) := by
  unfold LawAt
  k_fill
  intro fa cd h₀ L m news s Q E B₁ F₁ X₁ N₁ T₁ hJ hret
  obtain ⟨b, wl, mx, T, t1, t2, nl, vs, u1, u2, u3, u6, u7, hc, hwl, hxs, hmade, hbef, hm⟩ := hJ
  obtain ⟨o1, o2, o3, o4, z2, z3, z4, c1, c2, c3, c4, d1, d2, d3, d4⟩ := hc
  obtain ⟨dm, j1, j2, j3, j4, j5, j6, j7, nd, hm1, hm2⟩ := hmade
  have hlx8 : xs.length ≤ 8 := by omega
  obtain ⟨hy1, hy2⟩ := xor_bound ha1 ha2 ha3 ha4
  have hW256 : (2 : Int) ^ W.toNat ≤ 256 := pow_le hW2
  have em := hm.map
  dsimp only [mapOf] at em
  rw [em] at F₁
  conv in (List.drop _ _) => whnf
  obtain ⟨sc9, hsc9⟩ : ∃ sc, sc = lawScope := ⟨_, rfl⟩
  rw [← hsc9]
  conv at hsc9 => rhs; whnf
  subst hsc9
  refine wpAny_noRaise ?_
  w_on
  k_steps
  with_reducible rename Fr _ _ _ _ => F₂
  with_reducible rename News _ _ _ _ => N₂
  with_reducible rename (_ ∧ AllLt _ _) => q2
  refine' loop_rows (fun lr => [(Str.ofString "rows", .ref lr), (Str.ofString "turn_in", .bool ri), (Str.ofString "words", .ref wl), (Str.ofString "made", .ref mx), (Str.ofString "before", .ref T)]) (fun v => compZ W D P v ri false 0 xs) ?le ?hh F₂ N₂ ?q1 q2 ?hm ?turn ?done
  case q1 => assumption
  case le => rfl
  case hh => rfl
  case hm => refine ⟨?_, ?_, ?_, ?_, ?_, trivial⟩ <;> with_unfolding_all rfl
  case turn =>
    clear F₂ N₂ q2
    intro v tv c rs tl lr I it h tk m₁ Q9 hv hsz o1 o3 o2 hs hm9 F₃ N₃ hQ
    obtain ⟨hv1, hv2⟩ : 0 ≤ v ∧ v < 2 ^ W.toNat := by
      simp only [List.mem_cons, List.not_mem_nil, or_false] at hv
      rcases hv with rfl | rfl | rfl | rfl
      · exact ⟨ha1, ha2⟩
      · exact ⟨ha3, ha4⟩
      · exact ⟨hy1, hy2⟩
      · exact ⟨Int.le_refl 0, kbt_pos _⟩
    clear hv
    have em9 := hm9.map
    dsimp only [mapOf] at em9
    rw [em9] at F₃
    replace c1 := hs _ c1
    replace c2 := hs _ c2
    replace c3 := hs _ c3
    replace c4 := hs _ c4
    replace hwl := hs _ hwl
    k_steps
    with_reducible rename Fr _ _ _ _ => F₄
    with_reducible rename News _ _ _ _ => N₄
    refine hQ _ _ _ _ F₄ ⟨?_, ?_, ?_, ?_, ?_, trivial⟩ (news_rows N₄) <;> with_unfolding_all rfl
  case done =>
    clear F₂ N₂ q2
    intro c u5 u8 u9 u4 tl lr h tk m₁ hs hm9 F₃ N₃
    have hlin := comp_lin (ri := ri) (xs := xs) hW1 hP1 hP2 ha1 ha2 ha3 ha4 hbx
    have em9 := hm9.map
    dsimp only [mapOf] at em9
    rw [em9] at F₃
    replace hm1 := hs _ hm1
    replace hm2 := hs _ hm2
    replace hbef := hs _ hbef
    k_steps
    · with_reducible rename Fr _ _ _ _ => F₅
      with_reducible rename News _ _ _ _ => N₅
      have hs5 := sub_one N₅
      refine eq_told N₅ (.head _) (hs5 _ (.tail _ hbef)) (by ke_room) ?_
      k_steps
      with_reducible rename Fr _ _ _ _ => F₆
      exact hret _ _ _ F₆
    · with_reducible rename (@Ne Int _ _) => q9
      exact absurd hlin q9
end
end
end Mine
theorem PySem.Challenge.cw_ac0002_01_holds : PySem.Challenge.rw_ac0002_01.Holds :=
  Mine.law_from8 fun w mean mg mb W P I0 X0 D ri ro hW1 hW2 hP1 hP2 hI1 hI2 hX1 hX2 hD1 hD2 =>
    Mine.law_8 w mean mg mb W P I0 X0 D ri ro hD1 hD2 fun xs hlx hbx =>
    Mine.law_9 w mean mg mb W P I0 X0 D ri ro xs hW1 hW2 hP1 hP2 hI1 hI2 hX1 hX2 hD1 hD2 <|
    Mine.law_12 w mean mg mb W P I0 X0 D ri ro xs hW1 hW2 hP1 hP2 hI1 hI2 hX1 hX2 hD1 hD2 <|
    Mine.law_13 w mean mg mb W P I0 X0 D ri ro xs hW1 hW2 hP1 hP2 hI1 hI2 hX1 hX2 hD1 hD2 <|
    Mine.law_14 w mean mg mb W P I0 X0 D ri ro xs hW1 hW2 hP1 hP2 hI1 hI2 hX1 hX2 hD1 hD2 <|
    Mine.law_15 w mean mg mb W P I0 X0 D ri ro xs hW1 hW2 hP1 hP2 hI1 hI2 hX1 hX2 hD1 hD2 <|
    Mine.law_16 w mean mg mb W P I0 X0 D ri ro xs hW1 hW2 hP1 hP2 hD1 hD2 <|
    Mine.law_19 w mean mg mb W P I0 X0 D ri ro xs hW1 hW2 hP1 hP2 hI1 hI2 hD1 hD2 hlx hbx <|
    Mine.law_20 w mean mg mb W P I0 X0 D ri ro xs hW1 hW2 hP1 hP2 hI1 hI2 hX1 hX2 hbx <|
    Mine.law_21 w mean mg mb W P I0 X0 D ri ro xs hW1 hW2 hP1 hP2 hI1 hI2 hX1 hX2 hD1 hD2 hlx hbx fun a1 a2 ha1 ha2 ha3 ha4 =>
    Mine.law_24 w mean mg mb W P I0 X0 D ri ro xs a1 a2 hW1 hW2 hP1 hP2 hI1 hI2 hX1 hX2 hD1 hD2 hlx hbx ha1 ha2 ha3 ha4
