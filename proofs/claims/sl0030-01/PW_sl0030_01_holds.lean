import PyProof.Rows.All
import Wide.All
import OpenK.AllK
import Wide.FinOn
import PySem.Challenge.RW_sl0030_01
open PySem PySem.W PyProof.Rows PySem.Spec PySem.Calls
set_option Elab.async false
set_option linter.unusedSimpArgs false
namespace Mine
set_option maxRecDepth 100000
set_option maxHeartbeats 8000000
def subS : Stmt → List Stmt
  | .FunctionDef (body := b) .. => b
  | .ClassDef (body := b) .. => b
  | _ => []
def sAt : List Nat → List Stmt → List Stmt
  | [], l => l
  | i :: r, l => match l.drop i with
    | s :: _ => match r with
      | [] => [s]
      | _ => sAt r (subS s)
    | [] => []
noncomputable def sOf (p : List Nat) : List Stmt := sAt p PySem.Challenge.pw_sl0030_01.main.body
noncomputable def sBody (p : List Nat) : List Stmt := match sOf p with
  | s :: _ => subS s
  | [] => []
noncomputable def sArgs (p : List Nat) : Arguments := match sOf p with
  | .FunctionDef (args := a) .. :: _ => a
  | _ => ⟨[], [], .none, [], [], .none, []⟩
noncomputable def sScope (p : List Nat) : Scope := match sOf p with
  | .FunctionDef (scope := a) .. :: _ => a
  | _ => ⟨.function, [], false, false, []⟩
noncomputable def lawK : Params → Frag := fun P =>
  List.cons (nat_lit 2, Obj.mk Value.none Option.none (Data.dict #[]) #[]) <|
  List.cons (nat_lit 3, Obj.mk (Value.type "dict") Option.none (Data.dict #[DictEntry.mk (PyData.keyHash P (Str.ofString "__name__")) (Value.str (Str.ofString "__name__") 165) (Value.str (Str.ofString "law_sl0030_01") 499), DictEntry.mk (PyData.keyHash P (Str.ofString "__doc__")) (Value.str (Str.ofString "__doc__") 166) Value.none, DictEntry.mk (PyData.keyHash P (Str.ofString "__package__")) (Value.str (Str.ofString "__package__") 167) Value.none, DictEntry.mk (PyData.keyHash P (Str.ofString "__loader__")) (Value.str (Str.ofString "__loader__") 168) (Value.builtin "__main__.__loader__#opaque"), DictEntry.mk (PyData.keyHash P (Str.ofString "__spec__")) (Value.str (Str.ofString "__spec__") 169) Value.none, DictEntry.mk (PyData.keyHash P (Str.ofString "__annotations__")) (Value.str (Str.ofString "__annotations__") 170) (Value.ref 6), DictEntry.mk (PyData.keyHash P (Str.ofString "__builtins__")) (Value.str (Str.ofString "__builtins__") 171) (Value.ref 4), DictEntry.mk (PyData.keyHash P (Str.ofString "__file__")) (Value.str (Str.ofString "__file__") 173) (Value.str (Str.ofString "/claim/cut.py") 172), DictEntry.mk (PyData.keyHash P (Str.ofString "__cached__")) (Value.str (Str.ofString "__cached__") 174) Value.none, DictEntry.mk (PyData.keyHash P (Str.ofString "_wall")) (Value.str (Str.ofString "_wall") 193) (Value.ref 21), DictEntry.mk (PyData.keyHash P (Str.ofString "Whitespace")) (Value.str (Str.ofString "Whitespace") 296) (Value.ref 83), DictEntry.mk (PyData.keyHash P (Str.ofString "format_witnesses")) (Value.str (Str.ofString "format_witnesses") 305) (Value.ref 94), DictEntry.mk (PyData.keyHash P (Str.ofString "_DIV_LIMIT")) (Value.str (Str.ofString "_DIV_LIMIT") 309) (Value.int 4000 308), DictEntry.mk (PyData.keyHash P (Str.ofString "_div2n1n")) (Value.str (Str.ofString "_div2n1n") 326) (Value.ref 101), DictEntry.mk (PyData.keyHash P (Str.ofString "_div3n2n")) (Value.str (Str.ofString "_div3n2n") 340) (Value.ref 108), DictEntry.mk (PyData.keyHash P (Str.ofString "_int2digits")) (Value.str (Str.ofString "_int2digits") 351) (Value.ref 115), DictEntry.mk (PyData.keyHash P (Str.ofString "_digits2int")) (Value.str (Str.ofString "_digits2int") 362) (Value.ref 122), DictEntry.mk (PyData.keyHash P (Str.ofString "_divmod_pos")) (Value.str (Str.ofString "_divmod_pos") 377) (Value.ref 129), DictEntry.mk (PyData.keyHash P (Str.ofString "int_divmod")) (Value.str (Str.ofString "int_divmod") 387) (Value.ref 136), DictEntry.mk (PyData.keyHash P (Str.ofString "yiq_to_rgb")) (Value.str (Str.ofString "yiq_to_rgb") 401) (Value.ref 143), DictEntry.mk (PyData.keyHash P (Str.ofString "rgb_to_hls")) (Value.str (Str.ofString "rgb_to_hls") 420) (Value.ref 150), DictEntry.mk (PyData.keyHash P (Str.ofString "rgb_to_hsv")) (Value.str (Str.ofString "rgb_to_hsv") 438) (Value.ref 157), DictEntry.mk (PyData.keyHash P (Str.ofString "_netrclex")) (Value.str (Str.ofString "_netrclex") 498) (Value.ref 195), DictEntry.mk (PyData.keyHash P (Str.ofString "_law_reader")) (Value.str (Str.ofString "_law_reader") 511) (Value.ref 206), DictEntry.mk (PyData.keyHash P (Str.ofString "_law_written")) (Value.str (Str.ofString "_law_written") 517) (Value.ref 211), DictEntry.mk (PyData.keyHash P (Str.ofString "_law_cells")) (Value.str (Str.ofString "_law_cells") 527) (Value.ref 218), DictEntry.mk (PyData.keyHash P (Str.ofString "_law_lead")) (Value.str (Str.ofString "_law_lead") 534) (Value.ref 225), DictEntry.mk (PyData.keyHash P (Str.ofString "_law_column")) (Value.str (Str.ofString "_law_column") 544) (Value.ref 232), DictEntry.mk (PyData.keyHash P (Str.ofString "_law_payable")) (Value.str (Str.ofString "_law_payable") 550) (Value.ref 237), DictEntry.mk (PyData.keyHash P (Str.ofString "_law_rank")) (Value.str (Str.ofString "_law_rank") 556) (Value.ref 242), DictEntry.mk (PyData.keyHash P (Str.ofString "_law_told")) (Value.str (Str.ofString "_law_told") 562) (Value.ref 247), DictEntry.mk (PyData.keyHash P (Str.ofString "law")) (Value.str (Str.ofString "law") 568) (Value.ref 252)] 32) #[]) <|
  List.cons (nat_lit 15, Obj.mk (Value.type "tuple") Option.none (Data.seq #[]) #[]) <|
  List.cons (nat_lit 17, Obj.mk (Value.type "tuple") Option.none (Data.seq #[Value.str (Str.ofString "k") 190]) #[]) <|
  List.cons (nat_lit 18, Obj.mk (Value.type "tuple") Option.none (Data.seq #[]) #[]) <|
  List.cons (nat_lit 20, Obj.mk (Value.type "code") Option.none (Data.fields #[Value.str (Str.ofString "_wall") 187, Value.str (Str.ofString "_wall") 188, Value.str (Str.ofString "/claim/cut.py") 189, Value.int 1 0, Value.int 1 0, Value.int 0 0, Value.int 0 0, Value.int 3 0, Value.ref 15, Value.bool Bool.true, Value.int 181 0, Value.ref 16, Value.none, Value.ref 17, Value.ref 18, Value.ref 19, Value.int 191 0, Value.int 1 0, Value.str (Str.ofString "/claim/cut.py") 192]) #[]) <|
  List.cons (nat_lit 21, Obj.mk (Value.type "function") Option.none (Data.func (FuncData.mk (Str.ofString "_wall") (Str.ofString "_wall") (by refine' (?f1 : (x : Arguments) → x = sArgs [0] → Arguments) _ ?h1; (case h1 => conv => rhs; whnf); exact fun x _ => x) (FuncBody.stmts (by refine' (?f2 : (x : List Stmt) → x = sBody [0] → List Stmt) _ ?h2; (case h2 => conv => rhs; whnf); exact fun x _ => x)) (by refine' (?f3 : (x : Scope) → x = sScope [0] → Scope) _ ?h3; (case h3 => conv => rhs; whnf); exact fun x _ => x) 3 [] Value.none Value.none Value.none (Value.str (Str.ofString "__main__") 164) Option.none (Value.ref 20) Value.none 0)) #[]) <|
  List.cons (nat_lit 32, Obj.mk (Value.type "tuple") Option.none (Data.seq #[]) #[]) <|
  List.cons (nat_lit 34, Obj.mk (Value.type "tuple") Option.none (Data.seq #[Value.str (Str.ofString "self") 216, Value.str (Str.ofString "ws") 217, Value.str (Str.ofString "S") 218, Value.str (Str.ofString "T") 219, Value.str (Str.ofString "count") 220, Value.str (Str.ofString "b") 221, Value.str (Str.ofString "n") 222, Value.str (Str.ofString "nt") 223, Value.str (Str.ofString "ch") 224]) #[]) <|
  List.cons (nat_lit 35, Obj.mk (Value.type "tuple") Option.none (Data.seq #[]) #[]) <|
  List.cons (nat_lit 37, Obj.mk (Value.type "code") Option.none (Data.fields #[Value.str (Str.ofString "__init__") 213, Value.str (Str.ofString "Whitespace.__init__") 214, Value.str (Str.ofString "/claim/cut.py") 215, Value.int 8 0, Value.int 2 0, Value.int 0 0, Value.int 0 0, Value.int 3 0, Value.ref 32, Value.bool Bool.true, Value.int 181 0, Value.ref 33, Value.none, Value.ref 34, Value.ref 35, Value.ref 36, Value.int 225 0, Value.int 8 0, Value.str (Str.ofString "/claim/cut.py") 226]) #[]) <|
  List.cons (nat_lit 38, Obj.mk (Value.type "function") Option.none (Data.func (FuncData.mk (Str.ofString "__init__") (Str.ofString "Whitespace.__init__") (by refine' (?f4 : (x : Arguments) → x = sArgs [2, 1] → Arguments) _ ?h4; (case h4 => conv => rhs; whnf); exact fun x _ => x) (FuncBody.stmts (by refine' (?f5 : (x : List Stmt) → x = sBody [2, 1] → List Stmt) _ ?h5; (case h5 => conv => rhs; whnf); exact fun x _ => x)) (by refine' (?f6 : (x : Scope) → x = sScope [2, 1] → Scope) _ ?h6; (case h6 => conv => rhs; whnf); exact fun x _ => x) 3 [] Value.none Value.none Value.none (Value.str (Str.ofString "cpy313.tabnanny") 194) Option.none (Value.ref 37) Value.none 0)) #[]) <|
  List.cons (nat_lit 39, Obj.mk (Value.type "tuple") Option.none (Data.seq #[]) #[]) <|
  List.cons (nat_lit 41, Obj.mk (Value.type "tuple") Option.none (Data.seq #[Value.str (Str.ofString "self") 231, Value.str (Str.ofString "count") 232, Value.str (Str.ofString "trailing") 233]) #[]) <|
  List.cons (nat_lit 42, Obj.mk (Value.type "tuple") Option.none (Data.seq #[]) #[]) <|
  List.cons (nat_lit 44, Obj.mk (Value.type "code") Option.none (Data.fields #[Value.str (Str.ofString "longest_run_of_spaces") 228, Value.str (Str.ofString "Whitespace.longest_run_of_spaces") 229, Value.str (Str.ofString "/claim/cut.py") 230, Value.int 31 0, Value.int 1 0, Value.int 0 0, Value.int 0 0, Value.int 3 0, Value.ref 39, Value.bool Bool.true, Value.int 181 0, Value.ref 40, Value.none, Value.ref 41, Value.ref 42, Value.ref 43, Value.int 234 0, Value.int 31 0, Value.str (Str.ofString "/claim/cut.py") 235]) #[]) <|
  List.cons (nat_lit 45, Obj.mk (Value.type "function") Option.none (Data.func (FuncData.mk (Str.ofString "longest_run_of_spaces") (Str.ofString "Whitespace.longest_run_of_spaces") (by refine' (?f7 : (x : Arguments) → x = sArgs [2, 2] → Arguments) _ ?h7; (case h7 => conv => rhs; whnf); exact fun x _ => x) (FuncBody.stmts (by refine' (?f8 : (x : List Stmt) → x = sBody [2, 2] → List Stmt) _ ?h8; (case h8 => conv => rhs; whnf); exact fun x _ => x)) (by refine' (?f9 : (x : Scope) → x = sScope [2, 2] → Scope) _ ?h9; (case h9 => conv => rhs; whnf); exact fun x _ => x) 3 [] Value.none Value.none Value.none (Value.str (Str.ofString "cpy313.tabnanny") 194) Option.none (Value.ref 44) Value.none 0)) #[]) <|
  List.cons (nat_lit 46, Obj.mk (Value.type "tuple") Option.none (Data.seq #[]) #[]) <|
  List.cons (nat_lit 48, Obj.mk (Value.type "tuple") Option.none (Data.seq #[Value.str (Str.ofString "self") 240, Value.str (Str.ofString "tabsize") 241, Value.str (Str.ofString "count") 242, Value.str (Str.ofString "trailing") 243, Value.str (Str.ofString "il") 244, Value.str (Str.ofString "i") 245]) #[]) <|
  List.cons (nat_lit 49, Obj.mk (Value.type "tuple") Option.none (Data.seq #[]) #[]) <|
  List.cons (nat_lit 51, Obj.mk (Value.type "code") Option.none (Data.fields #[Value.str (Str.ofString "indent_level") 237, Value.str (Str.ofString "Whitespace.indent_level") 238, Value.str (Str.ofString "/claim/cut.py") 239, Value.int 35 0, Value.int 2 0, Value.int 0 0, Value.int 0 0, Value.int 3 0, Value.ref 46, Value.bool Bool.true, Value.int 181 0, Value.ref 47, Value.none, Value.ref 48, Value.ref 49, Value.ref 50, Value.int 246 0, Value.int 35 0, Value.str (Str.ofString "/claim/cut.py") 247]) #[]) <|
  List.cons (nat_lit 52, Obj.mk (Value.type "function") Option.none (Data.func (FuncData.mk (Str.ofString "indent_level") (Str.ofString "Whitespace.indent_level") (by refine' (?f10 : (x : Arguments) → x = sArgs [2, 3] → Arguments) _ ?h10; (case h10 => conv => rhs; whnf); exact fun x _ => x) (FuncBody.stmts (by refine' (?f11 : (x : List Stmt) → x = sBody [2, 3] → List Stmt) _ ?h11; (case h11 => conv => rhs; whnf); exact fun x _ => x)) (by refine' (?f12 : (x : Scope) → x = sScope [2, 3] → Scope) _ ?h12; (case h12 => conv => rhs; whnf); exact fun x _ => x) 3 [] Value.none Value.none Value.none (Value.str (Str.ofString "cpy313.tabnanny") 194) Option.none (Value.ref 51) Value.none 0)) #[]) <|
  List.cons (nat_lit 53, Obj.mk (Value.type "tuple") Option.none (Data.seq #[]) #[]) <|
  List.cons (nat_lit 55, Obj.mk (Value.type "tuple") Option.none (Data.seq #[Value.str (Str.ofString "self") 252, Value.str (Str.ofString "other") 253]) #[]) <|
  List.cons (nat_lit 56, Obj.mk (Value.type "tuple") Option.none (Data.seq #[]) #[]) <|
  List.cons (nat_lit 58, Obj.mk (Value.type "code") Option.none (Data.fields #[Value.str (Str.ofString "equal") 249, Value.str (Str.ofString "Whitespace.equal") 250, Value.str (Str.ofString "/claim/cut.py") 251, Value.int 42 0, Value.int 2 0, Value.int 0 0, Value.int 0 0, Value.int 3 0, Value.ref 53, Value.bool Bool.true, Value.int 181 0, Value.ref 54, Value.none, Value.ref 55, Value.ref 56, Value.ref 57, Value.int 254 0, Value.int 42 0, Value.str (Str.ofString "/claim/cut.py") 255]) #[]) <|
  List.cons (nat_lit 59, Obj.mk (Value.type "function") Option.none (Data.func (FuncData.mk (Str.ofString "equal") (Str.ofString "Whitespace.equal") (by refine' (?f13 : (x : Arguments) → x = sArgs [2, 4] → Arguments) _ ?h13; (case h13 => conv => rhs; whnf); exact fun x _ => x) (FuncBody.stmts (by refine' (?f14 : (x : List Stmt) → x = sBody [2, 4] → List Stmt) _ ?h14; (case h14 => conv => rhs; whnf); exact fun x _ => x)) (by refine' (?f15 : (x : Scope) → x = sScope [2, 4] → Scope) _ ?h15; (case h15 => conv => rhs; whnf); exact fun x _ => x) 3 [] Value.none Value.none Value.none (Value.str (Str.ofString "cpy313.tabnanny") 194) Option.none (Value.ref 58) Value.none 0)) #[]) <|
  List.cons (nat_lit 60, Obj.mk (Value.type "tuple") Option.none (Data.seq #[]) #[]) <|
  List.cons (nat_lit 62, Obj.mk (Value.type "tuple") Option.none (Data.seq #[Value.str (Str.ofString "self") 260, Value.str (Str.ofString "other") 261]) #[]) <|
  List.cons (nat_lit 63, Obj.mk (Value.type "tuple") Option.none (Data.seq #[]) #[]) <|
  List.cons (nat_lit 65, Obj.mk (Value.type "code") Option.none (Data.fields #[Value.str (Str.ofString "not_equal_witness") 257, Value.str (Str.ofString "Whitespace.not_equal_witness") 258, Value.str (Str.ofString "/claim/cut.py") 259, Value.int 45 0, Value.int 2 0, Value.int 0 0, Value.int 0 0, Value.int 3 0, Value.ref 60, Value.bool Bool.true, Value.int 181 0, Value.ref 61, Value.none, Value.ref 62, Value.ref 63, Value.ref 64, Value.int 262 0, Value.int 45 0, Value.str (Str.ofString "/claim/cut.py") 263]) #[]) <|
  List.cons (nat_lit 66, Obj.mk (Value.type "function") Option.none (Data.func (FuncData.mk (Str.ofString "not_equal_witness") (Str.ofString "Whitespace.not_equal_witness") (by refine' (?f16 : (x : Arguments) → x = sArgs [2, 5] → Arguments) _ ?h16; (case h16 => conv => rhs; whnf); exact fun x _ => x) (FuncBody.stmts (by refine' (?f17 : (x : List Stmt) → x = sBody [2, 5] → List Stmt) _ ?h17; (case h17 => conv => rhs; whnf); exact fun x _ => x)) (by refine' (?f18 : (x : Scope) → x = sScope [2, 5] → Scope) _ ?h18; (case h18 => conv => rhs; whnf); exact fun x _ => x) 3 [] Value.none Value.none Value.none (Value.str (Str.ofString "cpy313.tabnanny") 194) Option.none (Value.ref 65) Value.none 0)) #[]) <|
  List.cons (nat_lit 67, Obj.mk (Value.type "tuple") Option.none (Data.seq #[]) #[]) <|
  List.cons (nat_lit 69, Obj.mk (Value.type "tuple") Option.none (Data.seq #[Value.str (Str.ofString "self") 268, Value.str (Str.ofString "other") 269]) #[]) <|
  List.cons (nat_lit 70, Obj.mk (Value.type "tuple") Option.none (Data.seq #[]) #[]) <|
  List.cons (nat_lit 72, Obj.mk (Value.type "code") Option.none (Data.fields #[Value.str (Str.ofString "less") 265, Value.str (Str.ofString "Whitespace.less") 266, Value.str (Str.ofString "/claim/cut.py") 267, Value.int 48 0, Value.int 2 0, Value.int 0 0, Value.int 0 0, Value.int 3 0, Value.ref 67, Value.bool Bool.true, Value.int 181 0, Value.ref 68, Value.none, Value.ref 69, Value.ref 70, Value.ref 71, Value.int 270 0, Value.int 48 0, Value.str (Str.ofString "/claim/cut.py") 271]) #[]) <|
  List.cons (nat_lit 73, Obj.mk (Value.type "function") Option.none (Data.func (FuncData.mk (Str.ofString "less") (Str.ofString "Whitespace.less") (by refine' (?f19 : (x : Arguments) → x = sArgs [2, 6] → Arguments) _ ?h19; (case h19 => conv => rhs; whnf); exact fun x _ => x) (FuncBody.stmts (by refine' (?f20 : (x : List Stmt) → x = sBody [2, 6] → List Stmt) _ ?h20; (case h20 => conv => rhs; whnf); exact fun x _ => x)) (by refine' (?f21 : (x : Scope) → x = sScope [2, 6] → Scope) _ ?h21; (case h21 => conv => rhs; whnf); exact fun x _ => x) 3 [] Value.none Value.none Value.none (Value.str (Str.ofString "cpy313.tabnanny") 194) Option.none (Value.ref 72) Value.none 0)) #[]) <|
  List.cons (nat_lit 74, Obj.mk (Value.type "tuple") Option.none (Data.seq #[]) #[]) <|
  List.cons (nat_lit 76, Obj.mk (Value.type "tuple") Option.none (Data.seq #[Value.str (Str.ofString "self") 276, Value.str (Str.ofString "other") 277, Value.str (Str.ofString "n") 278, Value.str (Str.ofString "a") 279, Value.str (Str.ofString "ts") 280]) #[]) <|
  List.cons (nat_lit 77, Obj.mk (Value.type "tuple") Option.none (Data.seq #[]) #[]) <|
  List.cons (nat_lit 79, Obj.mk (Value.type "code") Option.none (Data.fields #[Value.str (Str.ofString "not_less_witness") 273, Value.str (Str.ofString "Whitespace.not_less_witness") 274, Value.str (Str.ofString "/claim/cut.py") 275, Value.int 51 0, Value.int 2 0, Value.int 0 0, Value.int 0 0, Value.int 3 0, Value.ref 74, Value.bool Bool.true, Value.int 181 0, Value.ref 75, Value.none, Value.ref 76, Value.ref 77, Value.ref 78, Value.int 281 0, Value.int 51 0, Value.str (Str.ofString "/claim/cut.py") 282]) #[]) <|
  List.cons (nat_lit 80, Obj.mk (Value.type "function") Option.none (Data.func (FuncData.mk (Str.ofString "not_less_witness") (Str.ofString "Whitespace.not_less_witness") (by refine' (?f22 : (x : Arguments) → x = sArgs [2, 7] → Arguments) _ ?h22; (case h22 => conv => rhs; whnf); exact fun x _ => x) (FuncBody.stmts (by refine' (?f23 : (x : List Stmt) → x = sBody [2, 7] → List Stmt) _ ?h23; (case h23 => conv => rhs; whnf); exact fun x _ => x)) (by refine' (?f24 : (x : Scope) → x = sScope [2, 7] → Scope) _ ?h24; (case h24 => conv => rhs; whnf); exact fun x _ => x) 3 [] Value.none Value.none Value.none (Value.str (Str.ofString "cpy313.tabnanny") 194) Option.none (Value.ref 79) Value.none 0)) #[]) <|
  List.cons (nat_lit 81, Obj.mk (Value.type "tuple") Option.none (Data.seq #[Value.str (Str.ofString "is_simple") 284, Value.str (Str.ofString "n") 285, Value.str (Str.ofString "norm") 286, Value.str (Str.ofString "nt") 287, Value.str (Str.ofString "raw") 288]) #[]) <|
  List.cons (nat_lit 82, Obj.mk (Value.type "dict") Option.none (Data.dict #[DictEntry.mk (PyData.keyHash P (Str.ofString "__module__")) (Value.str (Str.ofString "__module__") 203) (Value.str (Str.ofString "cpy313.tabnanny") 194), DictEntry.mk (PyData.keyHash P (Str.ofString "__firstlineno__")) (Value.str (Str.ofString "__firstlineno__") 207) (Value.int 5 206), DictEntry.mk (PyData.keyHash P (Str.ofString "S")) (Value.str (Str.ofString "S") 211) (Value.str (Str.ofString " ") 209), DictEntry.mk (PyData.keyHash P (Str.ofString "T")) (Value.str (Str.ofString "T") 212) (Value.str (Str.ofString "\t") 210), DictEntry.mk (PyData.keyHash P (Str.ofString "__init__")) (Value.str (Str.ofString "__init__") 227) (Value.ref 38), DictEntry.mk (PyData.keyHash P (Str.ofString "longest_run_of_spaces")) (Value.str (Str.ofString "longest_run_of_spaces") 236) (Value.ref 45), DictEntry.mk (PyData.keyHash P (Str.ofString "indent_level")) (Value.str (Str.ofString "indent_level") 248) (Value.ref 52), DictEntry.mk (PyData.keyHash P (Str.ofString "equal")) (Value.str (Str.ofString "equal") 256) (Value.ref 59), DictEntry.mk (PyData.keyHash P (Str.ofString "not_equal_witness")) (Value.str (Str.ofString "not_equal_witness") 264) (Value.ref 66), DictEntry.mk (PyData.keyHash P (Str.ofString "less")) (Value.str (Str.ofString "less") 272) (Value.ref 73), DictEntry.mk (PyData.keyHash P (Str.ofString "not_less_witness")) (Value.str (Str.ofString "not_less_witness") 283) (Value.ref 80), DictEntry.mk (PyData.keyHash P (Str.ofString "__static_attributes__")) (Value.str (Str.ofString "__static_attributes__") 289) (Value.ref 81), DictEntry.mk (PyData.keyHash P (Str.ofString "__dict__")) (Value.str (Str.ofString "__dict__") 291) (Value.ref 84), DictEntry.mk (PyData.keyHash P (Str.ofString "__weakref__")) (Value.str (Str.ofString "__weakref__") 293) (Value.ref 85), DictEntry.mk (PyData.keyHash P (Str.ofString "__doc__")) (Value.str (Str.ofString "__doc__") 294) Value.none] 4) #[]) <|
  List.cons (nat_lit 83, Obj.mk (Value.type "type") Option.none (Data.cls (ClassData.mk (Str.ofString "Whitespace") [Value.type "object"] [Value.ref 83, Value.type "object"] 82 (Str.ofString "Whitespace") Bool.true [] [] Bool.false Option.none Bool.false)) #[Option.none, Option.none, Option.some (Value.str (Str.ofString "Whitespace") 196), Option.some (Value.str (Str.ofString "Whitespace") 204), Option.some (Value.builtin "object.__new__"), Option.some (Value.bool Bool.true)]) <|
  List.cons (nat_lit 84, Obj.mk (Value.type "getset_descriptor") Option.none (Data.fields #[Value.str (Str.ofString "__dict__") 290, Value.ref 83, Value.builtin "function.__dict__", Value.builtin "function.__dict__#set"]) #[]) <|
  List.cons (nat_lit 85, Obj.mk (Value.type "getset_descriptor") Option.none (Data.fields #[Value.str (Str.ofString "__weakref__") 292, Value.ref 83, Value.builtin "ExceptionGroup.__weakref__", Value.none]) #[]) <|
  List.cons (nat_lit 88, Obj.mk (Value.type "tuple") Option.none (Data.seq #[]) #[]) <|
  List.cons (nat_lit 90, Obj.mk (Value.type "tuple") Option.none (Data.seq #[Value.str (Str.ofString "w") 300, Value.str (Str.ofString "firsts") 301, Value.str (Str.ofString "prefix") 302]) #[]) <|
  List.cons (nat_lit 91, Obj.mk (Value.type "tuple") Option.none (Data.seq #[]) #[]) <|
  List.cons (nat_lit 93, Obj.mk (Value.type "code") Option.none (Data.fields #[Value.str (Str.ofString "format_witnesses") 297, Value.str (Str.ofString "format_witnesses") 298, Value.str (Str.ofString "/claim/cut.py") 299, Value.int 58 0, Value.int 1 0, Value.int 0 0, Value.int 0 0, Value.int 3 0, Value.ref 88, Value.bool Bool.true, Value.int 181 0, Value.ref 89, Value.none, Value.ref 90, Value.ref 91, Value.ref 92, Value.int 303 0, Value.int 58 0, Value.str (Str.ofString "/claim/cut.py") 304]) #[]) <|
  List.cons (nat_lit 94, Obj.mk (Value.type "function") Option.none (Data.func (FuncData.mk (Str.ofString "format_witnesses") (Str.ofString "format_witnesses") (by refine' (?f25 : (x : Arguments) → x = sArgs [3] → Arguments) _ ?h25; (case h25 => conv => rhs; whnf); exact fun x _ => x) (FuncBody.stmts (by refine' (?f26 : (x : List Stmt) → x = sBody [3] → List Stmt) _ ?h26; (case h26 => conv => rhs; whnf); exact fun x _ => x)) (by refine' (?f27 : (x : Scope) → x = sScope [3] → Scope) _ ?h27; (case h27 => conv => rhs; whnf); exact fun x _ => x) 3 [] Value.none Value.none Value.none (Value.str (Str.ofString "cpy313.tabnanny") 194) Option.none (Value.ref 93) Value.none 0)) #[]) <|
  List.cons (nat_lit 95, Obj.mk (Value.type "tuple") Option.none (Data.seq #[]) #[]) <|
  List.cons (nat_lit 97, Obj.mk (Value.type "tuple") Option.none (Data.seq #[Value.str (Str.ofString "a") 313, Value.str (Str.ofString "b") 314, Value.str (Str.ofString "n") 315, Value.str (Str.ofString "pad") 316, Value.str (Str.ofString "half_n") 317, Value.str (Str.ofString "mask") 318, Value.str (Str.ofString "b1") 319, Value.str (Str.ofString "b2") 320, Value.str (Str.ofString "q1") 321, Value.str (Str.ofString "r") 322, Value.str (Str.ofString "q2") 323]) #[]) <|
  List.cons (nat_lit 98, Obj.mk (Value.type "tuple") Option.none (Data.seq #[]) #[]) <|
  List.cons (nat_lit 100, Obj.mk (Value.type "code") Option.none (Data.fields #[Value.str (Str.ofString "_div2n1n") 310, Value.str (Str.ofString "_div2n1n") 311, Value.str (Str.ofString "/claim/cut.py") 312, Value.int 66 0, Value.int 3 0, Value.int 0 0, Value.int 0 0, Value.int 3 0, Value.ref 95, Value.bool Bool.true, Value.int 181 0, Value.ref 96, Value.none, Value.ref 97, Value.ref 98, Value.ref 99, Value.int 324 0, Value.int 66 0, Value.str (Str.ofString "/claim/cut.py") 325]) #[]) <|
  List.cons (nat_lit 101, Obj.mk (Value.type "function") Option.none (Data.func (FuncData.mk (Str.ofString "_div2n1n") (Str.ofString "_div2n1n") (by refine' (?f28 : (x : Arguments) → x = sArgs [6] → Arguments) _ ?h28; (case h28 => conv => rhs; whnf); exact fun x _ => x) (FuncBody.stmts (by refine' (?f29 : (x : List Stmt) → x = sBody [6] → List Stmt) _ ?h29; (case h29 => conv => rhs; whnf); exact fun x _ => x)) (by refine' (?f30 : (x : Scope) → x = sScope [6] → Scope) _ ?h30; (case h30 => conv => rhs; whnf); exact fun x _ => x) 3 [] Value.none Value.none Value.none (Value.str (Str.ofString "cpy313._pylong") 306) Option.none (Value.ref 100) Value.none 0)) #[]) <|
  List.cons (nat_lit 102, Obj.mk (Value.type "tuple") Option.none (Data.seq #[]) #[]) <|
  List.cons (nat_lit 104, Obj.mk (Value.type "tuple") Option.none (Data.seq #[Value.str (Str.ofString "a12") 330, Value.str (Str.ofString "a3") 331, Value.str (Str.ofString "b") 332, Value.str (Str.ofString "b1") 333, Value.str (Str.ofString "b2") 334, Value.str (Str.ofString "n") 335, Value.str (Str.ofString "q") 336, Value.str (Str.ofString "r") 337]) #[]) <|
  List.cons (nat_lit 105, Obj.mk (Value.type "tuple") Option.none (Data.seq #[]) #[]) <|
  List.cons (nat_lit 107, Obj.mk (Value.type "code") Option.none (Data.fields #[Value.str (Str.ofString "_div3n2n") 327, Value.str (Str.ofString "_div3n2n") 328, Value.str (Str.ofString "/claim/cut.py") 329, Value.int 82 0, Value.int 6 0, Value.int 0 0, Value.int 0 0, Value.int 3 0, Value.ref 102, Value.bool Bool.true, Value.int 181 0, Value.ref 103, Value.none, Value.ref 104, Value.ref 105, Value.ref 106, Value.int 338 0, Value.int 82 0, Value.str (Str.ofString "/claim/cut.py") 339]) #[]) <|
  List.cons (nat_lit 108, Obj.mk (Value.type "function") Option.none (Data.func (FuncData.mk (Str.ofString "_div3n2n") (Str.ofString "_div3n2n") (by refine' (?f31 : (x : Arguments) → x = sArgs [7] → Arguments) _ ?h31; (case h31 => conv => rhs; whnf); exact fun x _ => x) (FuncBody.stmts (by refine' (?f32 : (x : List Stmt) → x = sBody [7] → List Stmt) _ ?h32; (case h32 => conv => rhs; whnf); exact fun x _ => x)) (by refine' (?f33 : (x : Scope) → x = sScope [7] → Scope) _ ?h33; (case h33 => conv => rhs; whnf); exact fun x _ => x) 3 [] Value.none Value.none Value.none (Value.str (Str.ofString "cpy313._pylong") 306) Option.none (Value.ref 107) Value.none 0)) #[]) <|
  List.cons (nat_lit 109, Obj.mk (Value.type "tuple") Option.none (Data.seq #[]) #[]) <|
  List.cons (nat_lit 111, Obj.mk (Value.type "tuple") Option.none (Data.seq #[Value.str (Str.ofString "a") 344, Value.str (Str.ofString "n") 345]) #[]) <|
  List.cons (nat_lit 112, Obj.mk (Value.type "tuple") Option.none (Data.seq #[Value.str (Str.ofString "n") 346, Value.str (Str.ofString "a_digits") 347, Value.str (Str.ofString "inner") 348]) #[]) <|
  List.cons (nat_lit 114, Obj.mk (Value.type "code") Option.none (Data.fields #[Value.str (Str.ofString "_int2digits") 341, Value.str (Str.ofString "_int2digits") 342, Value.str (Str.ofString "/claim/cut.py") 343, Value.int 92 0, Value.int 2 0, Value.int 0 0, Value.int 0 0, Value.int 3 0, Value.ref 109, Value.bool Bool.true, Value.int 181 0, Value.ref 110, Value.none, Value.ref 111, Value.ref 112, Value.ref 113, Value.int 349 0, Value.int 92 0, Value.str (Str.ofString "/claim/cut.py") 350]) #[]) <|
  List.cons (nat_lit 115, Obj.mk (Value.type "function") Option.none (Data.func (FuncData.mk (Str.ofString "_int2digits") (Str.ofString "_int2digits") (by refine' (?f34 : (x : Arguments) → x = sArgs [8] → Arguments) _ ?h34; (case h34 => conv => rhs; whnf); exact fun x _ => x) (FuncBody.stmts (by refine' (?f35 : (x : List Stmt) → x = sBody [8] → List Stmt) _ ?h35; (case h35 => conv => rhs; whnf); exact fun x _ => x)) (by refine' (?f36 : (x : Scope) → x = sScope [8] → Scope) _ ?h36; (case h36 => conv => rhs; whnf); exact fun x _ => x) 3 [] Value.none Value.none Value.none (Value.str (Str.ofString "cpy313._pylong") 306) Option.none (Value.ref 114) Value.none 0)) #[]) <|
  List.cons (nat_lit 116, Obj.mk (Value.type "tuple") Option.none (Data.seq #[]) #[]) <|
  List.cons (nat_lit 118, Obj.mk (Value.type "tuple") Option.none (Data.seq #[Value.str (Str.ofString "digits") 355, Value.str (Str.ofString "n") 356]) #[]) <|
  List.cons (nat_lit 119, Obj.mk (Value.type "tuple") Option.none (Data.seq #[Value.str (Str.ofString "digits") 357, Value.str (Str.ofString "n") 358, Value.str (Str.ofString "inner") 359]) #[]) <|
  List.cons (nat_lit 121, Obj.mk (Value.type "code") Option.none (Data.fields #[Value.str (Str.ofString "_digits2int") 352, Value.str (Str.ofString "_digits2int") 353, Value.str (Str.ofString "/claim/cut.py") 354, Value.int 108 0, Value.int 2 0, Value.int 0 0, Value.int 0 0, Value.int 3 0, Value.ref 116, Value.bool Bool.true, Value.int 181 0, Value.ref 117, Value.none, Value.ref 118, Value.ref 119, Value.ref 120, Value.int 360 0, Value.int 108 0, Value.str (Str.ofString "/claim/cut.py") 361]) #[]) <|
  List.cons (nat_lit 122, Obj.mk (Value.type "function") Option.none (Data.func (FuncData.mk (Str.ofString "_digits2int") (Str.ofString "_digits2int") (by refine' (?f37 : (x : Arguments) → x = sArgs [9] → Arguments) _ ?h37; (case h37 => conv => rhs; whnf); exact fun x _ => x) (FuncBody.stmts (by refine' (?f38 : (x : List Stmt) → x = sBody [9] → List Stmt) _ ?h38; (case h38 => conv => rhs; whnf); exact fun x _ => x)) (by refine' (?f39 : (x : Scope) → x = sScope [9] → Scope) _ ?h39; (case h39 => conv => rhs; whnf); exact fun x _ => x) 3 [] Value.none Value.none Value.none (Value.str (Str.ofString "cpy313._pylong") 306) Option.none (Value.ref 121) Value.none 0)) #[]) <|
  List.cons (nat_lit 123, Obj.mk (Value.type "tuple") Option.none (Data.seq #[]) #[]) <|
  List.cons (nat_lit 125, Obj.mk (Value.type "tuple") Option.none (Data.seq #[Value.str (Str.ofString "a") 366, Value.str (Str.ofString "b") 367, Value.str (Str.ofString "n") 368, Value.str (Str.ofString "a_digits") 369, Value.str (Str.ofString "r") 370, Value.str (Str.ofString "q_digits") 371, Value.str (Str.ofString "a_digit") 372, Value.str (Str.ofString "q_digit") 373, Value.str (Str.ofString "q") 374]) #[]) <|
  List.cons (nat_lit 126, Obj.mk (Value.type "tuple") Option.none (Data.seq #[]) #[]) <|
  List.cons (nat_lit 128, Obj.mk (Value.type "code") Option.none (Data.fields #[Value.str (Str.ofString "_divmod_pos") 363, Value.str (Str.ofString "_divmod_pos") 364, Value.str (Str.ofString "/claim/cut.py") 365, Value.int 117 0, Value.int 2 0, Value.int 0 0, Value.int 0 0, Value.int 3 0, Value.ref 123, Value.bool Bool.true, Value.int 181 0, Value.ref 124, Value.none, Value.ref 125, Value.ref 126, Value.ref 127, Value.int 375 0, Value.int 117 0, Value.str (Str.ofString "/claim/cut.py") 376]) #[]) <|
  List.cons (nat_lit 129, Obj.mk (Value.type "function") Option.none (Data.func (FuncData.mk (Str.ofString "_divmod_pos") (Str.ofString "_divmod_pos") (by refine' (?f40 : (x : Arguments) → x = sArgs [10] → Arguments) _ ?h40; (case h40 => conv => rhs; whnf); exact fun x _ => x) (FuncBody.stmts (by refine' (?f41 : (x : List Stmt) → x = sBody [10] → List Stmt) _ ?h41; (case h41 => conv => rhs; whnf); exact fun x _ => x)) (by refine' (?f42 : (x : Scope) → x = sScope [10] → Scope) _ ?h42; (case h42 => conv => rhs; whnf); exact fun x _ => x) 3 [] Value.none Value.none Value.none (Value.str (Str.ofString "cpy313._pylong") 306) Option.none (Value.ref 128) Value.none 0)) #[]) <|
  List.cons (nat_lit 130, Obj.mk (Value.type "tuple") Option.none (Data.seq #[]) #[]) <|
  List.cons (nat_lit 132, Obj.mk (Value.type "tuple") Option.none (Data.seq #[Value.str (Str.ofString "a") 381, Value.str (Str.ofString "b") 382, Value.str (Str.ofString "q") 383, Value.str (Str.ofString "r") 384]) #[]) <|
  List.cons (nat_lit 133, Obj.mk (Value.type "tuple") Option.none (Data.seq #[]) #[]) <|
  List.cons (nat_lit 135, Obj.mk (Value.type "code") Option.none (Data.fields #[Value.str (Str.ofString "int_divmod") 378, Value.str (Str.ofString "int_divmod") 379, Value.str (Str.ofString "/claim/cut.py") 380, Value.int 128 0, Value.int 2 0, Value.int 0 0, Value.int 0 0, Value.int 3 0, Value.ref 130, Value.bool Bool.true, Value.int 181 0, Value.ref 131, Value.none, Value.ref 132, Value.ref 133, Value.ref 134, Value.int 385 0, Value.int 128 0, Value.str (Str.ofString "/claim/cut.py") 386]) #[]) <|
  List.cons (nat_lit 136, Obj.mk (Value.type "function") Option.none (Data.func (FuncData.mk (Str.ofString "int_divmod") (Str.ofString "int_divmod") (by refine' (?f43 : (x : Arguments) → x = sArgs [11] → Arguments) _ ?h43; (case h43 => conv => rhs; whnf); exact fun x _ => x) (FuncBody.stmts (by refine' (?f44 : (x : List Stmt) → x = sBody [11] → List Stmt) _ ?h44; (case h44 => conv => rhs; whnf); exact fun x _ => x)) (by refine' (?f45 : (x : Scope) → x = sScope [11] → Scope) _ ?h45; (case h45 => conv => rhs; whnf); exact fun x _ => x) 3 [] Value.none Value.none Value.none (Value.str (Str.ofString "cpy313._pylong") 306) Option.none (Value.ref 135) Value.none 0)) #[]) <|
  List.cons (nat_lit 137, Obj.mk (Value.type "tuple") Option.none (Data.seq #[]) #[]) <|
  List.cons (nat_lit 139, Obj.mk (Value.type "tuple") Option.none (Data.seq #[Value.str (Str.ofString "y") 393, Value.str (Str.ofString "i") 394, Value.str (Str.ofString "q") 395, Value.str (Str.ofString "r") 396, Value.str (Str.ofString "g") 397, Value.str (Str.ofString "b") 398]) #[]) <|
  List.cons (nat_lit 140, Obj.mk (Value.type "tuple") Option.none (Data.seq #[]) #[]) <|
  List.cons (nat_lit 142, Obj.mk (Value.type "code") Option.none (Data.fields #[Value.str (Str.ofString "yiq_to_rgb") 390, Value.str (Str.ofString "yiq_to_rgb") 391, Value.str (Str.ofString "/claim/cut.py") 392, Value.int 140 0, Value.int 3 0, Value.int 0 0, Value.int 0 0, Value.int 3 0, Value.ref 137, Value.bool Bool.true, Value.int 181 0, Value.ref 138, Value.none, Value.ref 139, Value.ref 140, Value.ref 141, Value.int 399 0, Value.int 140 0, Value.str (Str.ofString "/claim/cut.py") 400]) #[]) <|
  List.cons (nat_lit 143, Obj.mk (Value.type "function") Option.none (Data.func (FuncData.mk (Str.ofString "yiq_to_rgb") (Str.ofString "yiq_to_rgb") (by refine' (?f46 : (x : Arguments) → x = sArgs [13] → Arguments) _ ?h46; (case h46 => conv => rhs; whnf); exact fun x _ => x) (FuncBody.stmts (by refine' (?f47 : (x : List Stmt) → x = sBody [13] → List Stmt) _ ?h47; (case h47 => conv => rhs; whnf); exact fun x _ => x)) (by refine' (?f48 : (x : Scope) → x = sScope [13] → Scope) _ ?h48; (case h48 => conv => rhs; whnf); exact fun x _ => x) 3 [] Value.none Value.none Value.none (Value.str (Str.ofString "cpy313.colorsys") 388) Option.none (Value.ref 142) Value.none 0)) #[]) <|
  List.cons (nat_lit 144, Obj.mk (Value.type "tuple") Option.none (Data.seq #[]) #[]) <|
  List.cons (nat_lit 146, Obj.mk (Value.type "tuple") Option.none (Data.seq #[Value.str (Str.ofString "r") 405, Value.str (Str.ofString "g") 406, Value.str (Str.ofString "b") 407, Value.str (Str.ofString "maxc") 408, Value.str (Str.ofString "minc") 409, Value.str (Str.ofString "sumc") 410, Value.str (Str.ofString "rangec") 411, Value.str (Str.ofString "l") 412, Value.str (Str.ofString "s") 413, Value.str (Str.ofString "rc") 414, Value.str (Str.ofString "gc") 415, Value.str (Str.ofString "bc") 416, Value.str (Str.ofString "h") 417]) #[]) <|
  List.cons (nat_lit 147, Obj.mk (Value.type "tuple") Option.none (Data.seq #[]) #[]) <|
  List.cons (nat_lit 149, Obj.mk (Value.type "code") Option.none (Data.fields #[Value.str (Str.ofString "rgb_to_hls") 402, Value.str (Str.ofString "rgb_to_hls") 403, Value.str (Str.ofString "/claim/cut.py") 404, Value.int 157 0, Value.int 3 0, Value.int 0 0, Value.int 0 0, Value.int 3 0, Value.ref 144, Value.bool Bool.true, Value.int 181 0, Value.ref 145, Value.none, Value.ref 146, Value.ref 147, Value.ref 148, Value.int 418 0, Value.int 157 0, Value.str (Str.ofString "/claim/cut.py") 419]) #[]) <|
  List.cons (nat_lit 150, Obj.mk (Value.type "function") Option.none (Data.func (FuncData.mk (Str.ofString "rgb_to_hls") (Str.ofString "rgb_to_hls") (by refine' (?f49 : (x : Arguments) → x = sArgs [14] → Arguments) _ ?h49; (case h49 => conv => rhs; whnf); exact fun x _ => x) (FuncBody.stmts (by refine' (?f50 : (x : List Stmt) → x = sBody [14] → List Stmt) _ ?h50; (case h50 => conv => rhs; whnf); exact fun x _ => x)) (by refine' (?f51 : (x : Scope) → x = sScope [14] → Scope) _ ?h51; (case h51 => conv => rhs; whnf); exact fun x _ => x) 3 [] Value.none Value.none Value.none (Value.str (Str.ofString "cpy313.colorsys") 388) Option.none (Value.ref 149) Value.none 0)) #[]) <|
  List.cons (nat_lit 151, Obj.mk (Value.type "tuple") Option.none (Data.seq #[]) #[]) <|
  List.cons (nat_lit 153, Obj.mk (Value.type "tuple") Option.none (Data.seq #[Value.str (Str.ofString "r") 424, Value.str (Str.ofString "g") 425, Value.str (Str.ofString "b") 426, Value.str (Str.ofString "maxc") 427, Value.str (Str.ofString "minc") 428, Value.str (Str.ofString "rangec") 429, Value.str (Str.ofString "v") 430, Value.str (Str.ofString "s") 431, Value.str (Str.ofString "rc") 432, Value.str (Str.ofString "gc") 433, Value.str (Str.ofString "bc") 434, Value.str (Str.ofString "h") 435]) #[]) <|
  List.cons (nat_lit 154, Obj.mk (Value.type "tuple") Option.none (Data.seq #[]) #[]) <|
  List.cons (nat_lit 156, Obj.mk (Value.type "code") Option.none (Data.fields #[Value.str (Str.ofString "rgb_to_hsv") 421, Value.str (Str.ofString "rgb_to_hsv") 422, Value.str (Str.ofString "/claim/cut.py") 423, Value.int 180 0, Value.int 3 0, Value.int 0 0, Value.int 0 0, Value.int 3 0, Value.ref 151, Value.bool Bool.true, Value.int 181 0, Value.ref 152, Value.none, Value.ref 153, Value.ref 154, Value.ref 155, Value.int 436 0, Value.int 180 0, Value.str (Str.ofString "/claim/cut.py") 437]) #[]) <|
  List.cons (nat_lit 157, Obj.mk (Value.type "function") Option.none (Data.func (FuncData.mk (Str.ofString "rgb_to_hsv") (Str.ofString "rgb_to_hsv") (by refine' (?f52 : (x : Arguments) → x = sArgs [15] → Arguments) _ ?h52; (case h52 => conv => rhs; whnf); exact fun x _ => x) (FuncBody.stmts (by refine' (?f53 : (x : List Stmt) → x = sBody [15] → List Stmt) _ ?h53; (case h53 => conv => rhs; whnf); exact fun x _ => x)) (by refine' (?f54 : (x : Scope) → x = sScope [15] → Scope) _ ?h54; (case h54 => conv => rhs; whnf); exact fun x _ => x) 3 [] Value.none Value.none Value.none (Value.str (Str.ofString "cpy313.colorsys") 388) Option.none (Value.ref 156) Value.none 0)) #[]) <|
  List.cons (nat_lit 165, Obj.mk (Value.type "tuple") Option.none (Data.seq #[]) #[]) <|
  List.cons (nat_lit 167, Obj.mk (Value.type "tuple") Option.none (Data.seq #[Value.str (Str.ofString "self") 456, Value.str (Str.ofString "fp") 457]) #[]) <|
  List.cons (nat_lit 168, Obj.mk (Value.type "tuple") Option.none (Data.seq #[]) #[]) <|
  List.cons (nat_lit 170, Obj.mk (Value.type "code") Option.none (Data.fields #[Value.str (Str.ofString "__init__") 453, Value.str (Str.ofString "_netrclex.__init__") 454, Value.str (Str.ofString "/claim/cut.py") 455, Value.int 202 0, Value.int 2 0, Value.int 0 0, Value.int 0 0, Value.int 3 0, Value.ref 165, Value.bool Bool.true, Value.int 181 0, Value.ref 166, Value.none, Value.ref 167, Value.ref 168, Value.ref 169, Value.int 458 0, Value.int 202 0, Value.str (Str.ofString "/claim/cut.py") 459]) #[]) <|
  List.cons (nat_lit 171, Obj.mk (Value.type "function") Option.none (Data.func (FuncData.mk (Str.ofString "__init__") (Str.ofString "_netrclex.__init__") (by refine' (?f55 : (x : Arguments) → x = sArgs [17, 0] → Arguments) _ ?h55; (case h55 => conv => rhs; whnf); exact fun x _ => x) (FuncBody.stmts (by refine' (?f56 : (x : List Stmt) → x = sBody [17, 0] → List Stmt) _ ?h56; (case h56 => conv => rhs; whnf); exact fun x _ => x)) (by refine' (?f57 : (x : Scope) → x = sScope [17, 0] → Scope) _ ?h57; (case h57 => conv => rhs; whnf); exact fun x _ => x) 3 [] Value.none Value.none Value.none (Value.str (Str.ofString "cpy313.netrc") 439) Option.none (Value.ref 170) Value.none 0)) #[]) <|
  List.cons (nat_lit 172, Obj.mk (Value.type "tuple") Option.none (Data.seq #[]) #[]) <|
  List.cons (nat_lit 174, Obj.mk (Value.type "tuple") Option.none (Data.seq #[Value.str (Str.ofString "self") 464, Value.str (Str.ofString "ch") 465]) #[]) <|
  List.cons (nat_lit 175, Obj.mk (Value.type "tuple") Option.none (Data.seq #[]) #[]) <|
  List.cons (nat_lit 177, Obj.mk (Value.type "code") Option.none (Data.fields #[Value.str (Str.ofString "_read_char") 461, Value.str (Str.ofString "_netrclex._read_char") 462, Value.str (Str.ofString "/claim/cut.py") 463, Value.int 208 0, Value.int 1 0, Value.int 0 0, Value.int 0 0, Value.int 3 0, Value.ref 172, Value.bool Bool.true, Value.int 181 0, Value.ref 173, Value.none, Value.ref 174, Value.ref 175, Value.ref 176, Value.int 466 0, Value.int 208 0, Value.str (Str.ofString "/claim/cut.py") 467]) #[]) <|
  List.cons (nat_lit 178, Obj.mk (Value.type "function") Option.none (Data.func (FuncData.mk (Str.ofString "_read_char") (Str.ofString "_netrclex._read_char") (by refine' (?f58 : (x : Arguments) → x = sArgs [17, 1] → Arguments) _ ?h58; (case h58 => conv => rhs; whnf); exact fun x _ => x) (FuncBody.stmts (by refine' (?f59 : (x : List Stmt) → x = sBody [17, 1] → List Stmt) _ ?h59; (case h59 => conv => rhs; whnf); exact fun x _ => x)) (by refine' (?f60 : (x : Scope) → x = sScope [17, 1] → Scope) _ ?h60; (case h60 => conv => rhs; whnf); exact fun x _ => x) 3 [] Value.none Value.none Value.none (Value.str (Str.ofString "cpy313.netrc") 439) Option.none (Value.ref 177) Value.none 0)) #[]) <|
  List.cons (nat_lit 179, Obj.mk (Value.type "tuple") Option.none (Data.seq #[]) #[]) <|
  List.cons (nat_lit 181, Obj.mk (Value.type "tuple") Option.none (Data.seq #[Value.str (Str.ofString "self") 472, Value.str (Str.ofString "token") 473, Value.str (Str.ofString "fiter") 474, Value.str (Str.ofString "ch") 475]) #[]) <|
  List.cons (nat_lit 182, Obj.mk (Value.type "tuple") Option.none (Data.seq #[]) #[]) <|
  List.cons (nat_lit 184, Obj.mk (Value.type "code") Option.none (Data.fields #[Value.str (Str.ofString "get_token") 469, Value.str (Str.ofString "_netrclex.get_token") 470, Value.str (Str.ofString "/claim/cut.py") 471, Value.int 214 0, Value.int 1 0, Value.int 0 0, Value.int 0 0, Value.int 3 0, Value.ref 179, Value.bool Bool.true, Value.int 181 0, Value.ref 180, Value.none, Value.ref 181, Value.ref 182, Value.ref 183, Value.int 476 0, Value.int 214 0, Value.str (Str.ofString "/claim/cut.py") 477]) #[]) <|
  List.cons (nat_lit 185, Obj.mk (Value.type "function") Option.none (Data.func (FuncData.mk (Str.ofString "get_token") (Str.ofString "_netrclex.get_token") (by refine' (?f61 : (x : Arguments) → x = sArgs [17, 2] → Arguments) _ ?h61; (case h61 => conv => rhs; whnf); exact fun x _ => x) (FuncBody.stmts (by refine' (?f62 : (x : List Stmt) → x = sBody [17, 2] → List Stmt) _ ?h62; (case h62 => conv => rhs; whnf); exact fun x _ => x)) (by refine' (?f63 : (x : Scope) → x = sScope [17, 2] → Scope) _ ?h63; (case h63 => conv => rhs; whnf); exact fun x _ => x) 3 [] Value.none Value.none Value.none (Value.str (Str.ofString "cpy313.netrc") 439) Option.none (Value.ref 184) Value.none 0)) #[]) <|
  List.cons (nat_lit 186, Obj.mk (Value.type "tuple") Option.none (Data.seq #[]) #[]) <|
  List.cons (nat_lit 188, Obj.mk (Value.type "tuple") Option.none (Data.seq #[Value.str (Str.ofString "self") 482, Value.str (Str.ofString "token") 483]) #[]) <|
  List.cons (nat_lit 189, Obj.mk (Value.type "tuple") Option.none (Data.seq #[]) #[]) <|
  List.cons (nat_lit 191, Obj.mk (Value.type "code") Option.none (Data.fields #[Value.str (Str.ofString "push_token") 479, Value.str (Str.ofString "_netrclex.push_token") 480, Value.str (Str.ofString "/claim/cut.py") 481, Value.int 241 0, Value.int 2 0, Value.int 0 0, Value.int 0 0, Value.int 3 0, Value.ref 186, Value.bool Bool.true, Value.int 181 0, Value.ref 187, Value.none, Value.ref 188, Value.ref 189, Value.ref 190, Value.int 484 0, Value.int 241 0, Value.str (Str.ofString "/claim/cut.py") 485]) #[]) <|
  List.cons (nat_lit 192, Obj.mk (Value.type "function") Option.none (Data.func (FuncData.mk (Str.ofString "push_token") (Str.ofString "_netrclex.push_token") (by refine' (?f64 : (x : Arguments) → x = sArgs [17, 3] → Arguments) _ ?h64; (case h64 => conv => rhs; whnf); exact fun x _ => x) (FuncBody.stmts (by refine' (?f65 : (x : List Stmt) → x = sBody [17, 3] → List Stmt) _ ?h65; (case h65 => conv => rhs; whnf); exact fun x _ => x)) (by refine' (?f66 : (x : Scope) → x = sScope [17, 3] → Scope) _ ?h66; (case h66 => conv => rhs; whnf); exact fun x _ => x) 3 [] Value.none Value.none Value.none (Value.str (Str.ofString "cpy313.netrc") 439) Option.none (Value.ref 191) Value.none 0)) #[]) <|
  List.cons (nat_lit 193, Obj.mk (Value.type "tuple") Option.none (Data.seq #[Value.str (Str.ofString "instream") 487, Value.str (Str.ofString "lineno") 488, Value.str (Str.ofString "pushback") 489, Value.str (Str.ofString "whitespace") 490]) #[]) <|
  List.cons (nat_lit 194, Obj.mk (Value.type "dict") Option.none (Data.dict #[DictEntry.mk (PyData.keyHash P (Str.ofString "__module__")) (Value.str (Str.ofString "__module__") 448) (Value.str (Str.ofString "cpy313.netrc") 439), DictEntry.mk (PyData.keyHash P (Str.ofString "__firstlineno__")) (Value.str (Str.ofString "__firstlineno__") 452) (Value.int 200 451), DictEntry.mk (PyData.keyHash P (Str.ofString "__init__")) (Value.str (Str.ofString "__init__") 460) (Value.ref 171), DictEntry.mk (PyData.keyHash P (Str.ofString "_read_char")) (Value.str (Str.ofString "_read_char") 468) (Value.ref 178), DictEntry.mk (PyData.keyHash P (Str.ofString "get_token")) (Value.str (Str.ofString "get_token") 478) (Value.ref 185), DictEntry.mk (PyData.keyHash P (Str.ofString "push_token")) (Value.str (Str.ofString "push_token") 486) (Value.ref 192), DictEntry.mk (PyData.keyHash P (Str.ofString "__static_attributes__")) (Value.str (Str.ofString "__static_attributes__") 491) (Value.ref 193), DictEntry.mk (PyData.keyHash P (Str.ofString "__dict__")) (Value.str (Str.ofString "__dict__") 493) (Value.ref 196), DictEntry.mk (PyData.keyHash P (Str.ofString "__weakref__")) (Value.str (Str.ofString "__weakref__") 495) (Value.ref 197), DictEntry.mk (PyData.keyHash P (Str.ofString "__doc__")) (Value.str (Str.ofString "__doc__") 496) Value.none] 4) #[]) <|
  List.cons (nat_lit 195, Obj.mk (Value.type "type") Option.none (Data.cls (ClassData.mk (Str.ofString "_netrclex") [Value.type "object"] [Value.ref 195, Value.type "object"] 194 (Str.ofString "_netrclex") Bool.true [] [] Bool.false Option.none Bool.false)) #[Option.none, Option.none, Option.some (Value.str (Str.ofString "_netrclex") 441), Option.some (Value.str (Str.ofString "_netrclex") 449), Option.some (Value.builtin "object.__new__"), Option.some (Value.bool Bool.true)]) <|
  List.cons (nat_lit 196, Obj.mk (Value.type "getset_descriptor") Option.none (Data.fields #[Value.str (Str.ofString "__dict__") 492, Value.ref 195, Value.builtin "function.__dict__", Value.builtin "function.__dict__#set"]) #[]) <|
  List.cons (nat_lit 197, Obj.mk (Value.type "getset_descriptor") Option.none (Data.fields #[Value.str (Str.ofString "__weakref__") 494, Value.ref 195, Value.builtin "ExceptionGroup.__weakref__", Value.none]) #[]) <|
  List.cons (nat_lit 200, Obj.mk (Value.type "tuple") Option.none (Data.seq #[]) #[]) <|
  List.cons (nat_lit 202, Obj.mk (Value.type "tuple") Option.none (Data.seq #[Value.str (Str.ofString "text") 504, Value.str (Str.ofString "_law_read_on") 505, Value.str (Str.ofString "stream") 506]) #[]) <|
  List.cons (nat_lit 203, Obj.mk (Value.type "tuple") Option.none (Data.seq #[Value.str (Str.ofString "text") 507, Value.str (Str.ofString "at") 508]) #[]) <|
  List.cons (nat_lit 205, Obj.mk (Value.type "code") Option.none (Data.fields #[Value.str (Str.ofString "_law_reader") 501, Value.str (Str.ofString "_law_reader") 502, Value.str (Str.ofString "/claim/cut.py") 503, Value.int 244 0, Value.int 1 0, Value.int 0 0, Value.int 0 0, Value.int 3 0, Value.ref 200, Value.bool Bool.true, Value.int 181 0, Value.ref 201, Value.none, Value.ref 202, Value.ref 203, Value.ref 204, Value.int 509 0, Value.int 244 0, Value.str (Str.ofString "/claim/cut.py") 510]) #[]) <|
  List.cons (nat_lit 206, Obj.mk (Value.type "function") Option.none (Data.func (FuncData.mk (Str.ofString "_law_reader") (Str.ofString "_law_reader") (by refine' (?f67 : (x : Arguments) → x = sArgs [19] → Arguments) _ ?h67; (case h67 => conv => rhs; whnf); exact fun x _ => x) (FuncBody.stmts (by refine' (?f68 : (x : List Stmt) → x = sBody [19] → List Stmt) _ ?h68; (case h68 => conv => rhs; whnf); exact fun x _ => x)) (by refine' (?f69 : (x : Scope) → x = sScope [19] → Scope) _ ?h69; (case h69 => conv => rhs; whnf); exact fun x _ => x) 3 [] Value.none Value.none Value.none (Value.str (Str.ofString "law_sl0030_01") 499) Option.none (Value.ref 205) Value.none 0)) #[]) <|
  List.cons (nat_lit 207, Obj.mk (Value.type "tuple") Option.none (Data.seq #[]) #[]) <|
  List.cons (nat_lit 210, Obj.mk (Value.type "code") Option.none (Data.fields #[Value.str (Str.ofString "_law_written") 512, Value.str (Str.ofString "_law_written") 513, Value.str (Str.ofString "/claim/cut.py") 514, Value.int 254 0, Value.int 2 0, Value.int 0 0, Value.int 0 0, Value.int 3 0, Value.ref 207, Value.bool Bool.true, Value.int 181 0, Value.ref 208, Value.none, Value.none, Value.none, Value.ref 209, Value.int 515 0, Value.int 254 0, Value.str (Str.ofString "/claim/cut.py") 516]) #[]) <|
  List.cons (nat_lit 211, Obj.mk (Value.type "function") Option.none (Data.func (FuncData.mk (Str.ofString "_law_written") (Str.ofString "_law_written") (by refine' (?f70 : (x : Arguments) → x = sArgs [20] → Arguments) _ ?h70; (case h70 => conv => rhs; whnf); exact fun x _ => x) (FuncBody.stmts (by refine' (?f71 : (x : List Stmt) → x = sBody [20] → List Stmt) _ ?h71; (case h71 => conv => rhs; whnf); exact fun x _ => x)) (by refine' (?f72 : (x : Scope) → x = sScope [20] → Scope) _ ?h72; (case h72 => conv => rhs; whnf); exact fun x _ => x) 3 [] Value.none Value.none Value.none (Value.str (Str.ofString "law_sl0030_01") 499) Option.none (Value.ref 210) Value.none 0)) #[]) <|
  List.cons (nat_lit 212, Obj.mk (Value.type "tuple") Option.none (Data.seq #[]) #[]) <|
  List.cons (nat_lit 214, Obj.mk (Value.type "tuple") Option.none (Data.seq #[Value.str (Str.ofString "script") 521, Value.str (Str.ofString "cells") 522, Value.str (Str.ofString "i") 523, Value.str (Str.ofString "x") 524]) #[]) <|
  List.cons (nat_lit 215, Obj.mk (Value.type "tuple") Option.none (Data.seq #[]) #[]) <|
  List.cons (nat_lit 217, Obj.mk (Value.type "code") Option.none (Data.fields #[Value.str (Str.ofString "_law_cells") 518, Value.str (Str.ofString "_law_cells") 519, Value.str (Str.ofString "/claim/cut.py") 520, Value.int 258 0, Value.int 2 0, Value.int 0 0, Value.int 0 0, Value.int 3 0, Value.ref 212, Value.bool Bool.true, Value.int 181 0, Value.ref 213, Value.none, Value.ref 214, Value.ref 215, Value.ref 216, Value.int 525 0, Value.int 258 0, Value.str (Str.ofString "/claim/cut.py") 526]) #[]) <|
  List.cons (nat_lit 218, Obj.mk (Value.type "function") Option.none (Data.func (FuncData.mk (Str.ofString "_law_cells") (Str.ofString "_law_cells") (by refine' (?f73 : (x : Arguments) → x = sArgs [21] → Arguments) _ ?h73; (case h73 => conv => rhs; whnf); exact fun x _ => x) (FuncBody.stmts (by refine' (?f74 : (x : List Stmt) → x = sBody [21] → List Stmt) _ ?h74; (case h74 => conv => rhs; whnf); exact fun x _ => x)) (by refine' (?f75 : (x : Scope) → x = sScope [21] → Scope) _ ?h75; (case h75 => conv => rhs; whnf); exact fun x _ => x) 3 [] Value.none Value.none Value.none (Value.str (Str.ofString "law_sl0030_01") 499) Option.none (Value.ref 217) Value.none 0)) #[]) <|
  List.cons (nat_lit 219, Obj.mk (Value.type "tuple") Option.none (Data.seq #[]) #[]) <|
  List.cons (nat_lit 221, Obj.mk (Value.type "tuple") Option.none (Data.seq #[Value.str (Str.ofString "c") 531]) #[]) <|
  List.cons (nat_lit 222, Obj.mk (Value.type "tuple") Option.none (Data.seq #[]) #[]) <|
  List.cons (nat_lit 224, Obj.mk (Value.type "code") Option.none (Data.fields #[Value.str (Str.ofString "_law_lead") 528, Value.str (Str.ofString "_law_lead") 529, Value.str (Str.ofString "/claim/cut.py") 530, Value.int 262 0, Value.int 1 0, Value.int 0 0, Value.int 0 0, Value.int 3 0, Value.ref 219, Value.bool Bool.true, Value.int 181 0, Value.ref 220, Value.none, Value.ref 221, Value.ref 222, Value.ref 223, Value.int 532 0, Value.int 262 0, Value.str (Str.ofString "/claim/cut.py") 533]) #[]) <|
  List.cons (nat_lit 225, Obj.mk (Value.type "function") Option.none (Data.func (FuncData.mk (Str.ofString "_law_lead") (Str.ofString "_law_lead") (by refine' (?f76 : (x : Arguments) → x = sArgs [22] → Arguments) _ ?h76; (case h76 => conv => rhs; whnf); exact fun x _ => x) (FuncBody.stmts (by refine' (?f77 : (x : List Stmt) → x = sBody [22] → List Stmt) _ ?h77; (case h77 => conv => rhs; whnf); exact fun x _ => x)) (by refine' (?f78 : (x : Scope) → x = sScope [22] → Scope) _ ?h78; (case h78 => conv => rhs; whnf); exact fun x _ => x) 3 [] Value.none Value.none Value.none (Value.str (Str.ofString "law_sl0030_01") 499) Option.none (Value.ref 224) Value.none 0)) #[]) <|
  List.cons (nat_lit 226, Obj.mk (Value.type "tuple") Option.none (Data.seq #[]) #[]) <|
  List.cons (nat_lit 228, Obj.mk (Value.type "tuple") Option.none (Data.seq #[Value.str (Str.ofString "lead") 538, Value.str (Str.ofString "m") 539, Value.str (Str.ofString "at") 540, Value.str (Str.ofString "sign") 541]) #[]) <|
  List.cons (nat_lit 229, Obj.mk (Value.type "tuple") Option.none (Data.seq #[]) #[]) <|
  List.cons (nat_lit 231, Obj.mk (Value.type "code") Option.none (Data.fields #[Value.str (Str.ofString "_law_column") 535, Value.str (Str.ofString "_law_column") 536, Value.str (Str.ofString "/claim/cut.py") 537, Value.int 264 0, Value.int 2 0, Value.int 0 0, Value.int 0 0, Value.int 3 0, Value.ref 226, Value.bool Bool.true, Value.int 181 0, Value.ref 227, Value.none, Value.ref 228, Value.ref 229, Value.ref 230, Value.int 542 0, Value.int 264 0, Value.str (Str.ofString "/claim/cut.py") 543]) #[]) <|
  List.cons (nat_lit 232, Obj.mk (Value.type "function") Option.none (Data.func (FuncData.mk (Str.ofString "_law_column") (Str.ofString "_law_column") (by refine' (?f79 : (x : Arguments) → x = sArgs [23] → Arguments) _ ?h79; (case h79 => conv => rhs; whnf); exact fun x _ => x) (FuncBody.stmts (by refine' (?f80 : (x : List Stmt) → x = sBody [23] → List Stmt) _ ?h80; (case h80 => conv => rhs; whnf); exact fun x _ => x)) (by refine' (?f81 : (x : Scope) → x = sScope [23] → Scope) _ ?h81; (case h81 => conv => rhs; whnf); exact fun x _ => x) 3 [] Value.none Value.none Value.none (Value.str (Str.ofString "law_sl0030_01") 499) Option.none (Value.ref 231) Value.none 0)) #[]) <|
  List.cons (nat_lit 233, Obj.mk (Value.type "tuple") Option.none (Data.seq #[]) #[]) <|
  List.cons (nat_lit 236, Obj.mk (Value.type "code") Option.none (Data.fields #[Value.str (Str.ofString "_law_payable") 545, Value.str (Str.ofString "_law_payable") 546, Value.str (Str.ofString "/claim/cut.py") 547, Value.int 272 0, Value.int 2 0, Value.int 0 0, Value.int 0 0, Value.int 3 0, Value.ref 233, Value.bool Bool.true, Value.int 181 0, Value.ref 234, Value.none, Value.none, Value.none, Value.ref 235, Value.int 548 0, Value.int 272 0, Value.str (Str.ofString "/claim/cut.py") 549]) #[]) <|
  List.cons (nat_lit 237, Obj.mk (Value.type "function") Option.none (Data.func (FuncData.mk (Str.ofString "_law_payable") (Str.ofString "_law_payable") (by refine' (?f82 : (x : Arguments) → x = sArgs [24] → Arguments) _ ?h82; (case h82 => conv => rhs; whnf); exact fun x _ => x) (FuncBody.stmts (by refine' (?f83 : (x : List Stmt) → x = sBody [24] → List Stmt) _ ?h83; (case h83 => conv => rhs; whnf); exact fun x _ => x)) (by refine' (?f84 : (x : Scope) → x = sScope [24] → Scope) _ ?h84; (case h84 => conv => rhs; whnf); exact fun x _ => x) 3 [] Value.none Value.none Value.none (Value.str (Str.ofString "law_sl0030_01") 499) Option.none (Value.ref 236) Value.none 0)) #[]) <|
  List.cons (nat_lit 238, Obj.mk (Value.type "tuple") Option.none (Data.seq #[]) #[]) <|
  List.cons (nat_lit 241, Obj.mk (Value.type "code") Option.none (Data.fields #[Value.str (Str.ofString "_law_rank") 551, Value.str (Str.ofString "_law_rank") 552, Value.str (Str.ofString "/claim/cut.py") 553, Value.int 282 0, Value.int 3 0, Value.int 0 0, Value.int 0 0, Value.int 3 0, Value.ref 238, Value.bool Bool.true, Value.int 181 0, Value.ref 239, Value.none, Value.none, Value.none, Value.ref 240, Value.int 554 0, Value.int 282 0, Value.str (Str.ofString "/claim/cut.py") 555]) #[]) <|
  List.cons (nat_lit 242, Obj.mk (Value.type "function") Option.none (Data.func (FuncData.mk (Str.ofString "_law_rank") (Str.ofString "_law_rank") (by refine' (?f85 : (x : Arguments) → x = sArgs [25] → Arguments) _ ?h85; (case h85 => conv => rhs; whnf); exact fun x _ => x) (FuncBody.stmts (by refine' (?f86 : (x : List Stmt) → x = sBody [25] → List Stmt) _ ?h86; (case h86 => conv => rhs; whnf); exact fun x _ => x)) (by refine' (?f87 : (x : Scope) → x = sScope [25] → Scope) _ ?h87; (case h87 => conv => rhs; whnf); exact fun x _ => x) 3 [] Value.none Value.none Value.none (Value.str (Str.ofString "law_sl0030_01") 499) Option.none (Value.ref 241) Value.none 0)) #[]) <|
  List.cons (nat_lit 243, Obj.mk (Value.type "tuple") Option.none (Data.seq #[]) #[]) <|
  List.cons (nat_lit 246, Obj.mk (Value.type "code") Option.none (Data.fields #[Value.str (Str.ofString "_law_told") 557, Value.str (Str.ofString "_law_told") 558, Value.str (Str.ofString "/claim/cut.py") 559, Value.int 287 0, Value.int 3 0, Value.int 0 0, Value.int 0 0, Value.int 3 0, Value.ref 243, Value.bool Bool.true, Value.int 181 0, Value.ref 244, Value.none, Value.none, Value.none, Value.ref 245, Value.int 560 0, Value.int 287 0, Value.str (Str.ofString "/claim/cut.py") 561]) #[]) <|
  List.cons (nat_lit 247, Obj.mk (Value.type "function") Option.none (Data.func (FuncData.mk (Str.ofString "_law_told") (Str.ofString "_law_told") (by refine' (?f88 : (x : Arguments) → x = sArgs [26] → Arguments) _ ?h88; (case h88 => conv => rhs; whnf); exact fun x _ => x) (FuncBody.stmts (by refine' (?f89 : (x : List Stmt) → x = sBody [26] → List Stmt) _ ?h89; (case h89 => conv => rhs; whnf); exact fun x _ => x)) (by refine' (?f90 : (x : Scope) → x = sScope [26] → Scope) _ ?h90; (case h90 => conv => rhs; whnf); exact fun x _ => x) 3 [] Value.none Value.none Value.none (Value.str (Str.ofString "law_sl0030_01") 499) Option.none (Value.ref 246) Value.none 0)) #[]) <|
  List.cons (nat_lit 248, Obj.mk (Value.type "tuple") Option.none (Data.seq #[]) #[]) <|
  List.cons (nat_lit 251, Obj.mk (Value.type "code") Option.none (Data.fields #[Value.str (Str.ofString "law") 563, Value.str (Str.ofString "law") 564, Value.str (Str.ofString "/claim/cut.py") 565, Value.int 294 0, Value.int 1 0, Value.int 0 0, Value.int 0 0, Value.int 3 0, Value.ref 248, Value.bool Bool.true, Value.int 181 0, Value.ref 249, Value.none, Value.none, Value.none, Value.ref 250, Value.int 566 0, Value.int 294 0, Value.str (Str.ofString "/claim/cut.py") 567]) #[]) <|
  List.cons (nat_lit 252, Obj.mk (Value.type "function") Option.none (Data.func (FuncData.mk (Str.ofString "law") (Str.ofString "law") (by refine' (?f91 : (x : Arguments) → x = sArgs [27] → Arguments) _ ?h91; (case h91 => conv => rhs; whnf); exact fun x _ => x) (FuncBody.stmts (by refine' (?f92 : (x : List Stmt) → x = sBody [27] → List Stmt) _ ?h92; (case h92 => conv => rhs; whnf); exact fun x _ => x)) (by refine' (?f93 : (x : Scope) → x = sScope [27] → Scope) _ ?h93; (case h93 => conv => rhs; whnf); exact fun x _ => x) 3 [] Value.none Value.none Value.none (Value.str (Str.ofString "law_sl0030_01") 499) Option.none (Value.ref 251) Value.none 0)) #[]) <| List.nil
noncomputable def view : Program := { PySem.Challenge.pw_sl0030_01 with main := { PySem.Challenge.pw_sl0030_01.main with body := PySem.Challenge.pw_sl0030_01.main.body.filter fun s => match s with | .Assign [.Name n _] .. => n != PySem.Str.ofString "__name__" | _ => true } }
def lawAs : List Addr := [2, 3, 15, 17, 18, 20, 21, 32, 34, 35, 37, 38, 39, 41, 42, 44, 45, 46, 48, 49, 51, 52, 53, 55, 56, 58, 59, 60, 62, 63, 65, 66, 67, 69, 70, 72, 73, 74, 76, 77, 79, 80, 81, 82, 83, 84, 85, 88, 90, 91, 93, 94, 95, 97, 98, 100, 101, 102, 104, 105, 107, 108, 109, 111, 112, 114, 115, 116, 118, 119, 121, 122, 123, 125, 126, 128, 129, 130, 132, 133, 135, 136, 137, 139, 140, 142, 143, 144, 146, 147, 149, 150, 151, 153, 154, 156, 157, 165, 167, 168, 170, 171, 172, 174, 175, 177, 178, 179, 181, 182, 184, 185, 186, 188, 189, 191, 192, 193, 194, 195, 196, 197, 200, 202, 203, 205, 206, 207, 210, 211, 212, 214, 215, 217, 218, 219, 221, 222, 224, 225, 226, 228, 229, 231, 232, 233, 236, 237, 238, 241, 242, 243, 246, 247, 248, 251, 252]
theorem lawAs_eq (P : Params) : lawAs = (lawK P).map (·.1) := by kernel_rfl
noncomputable abbrev hk : Hook := kmHook lawK lawAs lawAs_eq [89, 110, 117, 201]
noncomputable abbrev lawXt : Shared → Bool := fun s => xlAt view [] s && recOk (RowW.records PySem.Challenge.rw_sl0030_01.row.toRowW) s
noncomputable abbrev lawP : Program := PySem.Challenge.rw_sl0030_01.row.toRowW.prog
noncomputable abbrev seenBy (s : Shared) := (openSeen view [PySem.Str.ofString "Whitespace"] (importedModules lawP.main.body) lawXt true s, Hook.obs hk s)
theorem run_f (w : World) (os : OsState) : (topFrom treeTable lawP (w.withFollow "special-get-raises" false) 3148 ⟨boot_heap w.params, Array.mk [], boot_drawn, boot_toks, os⟩).map seenBy = some (openGood view [PySem.Str.ofString "Whitespace"], Hook.val hk (w.withFollow "special-get-raises" false)) := by
  unfold topFrom seenBy
  rw [PySem.W.Fast.te14364793385576792824, PySem.W.Fast.te14082659384304107361, PySem.W.Fast.te4187177175401517315]
  kernel_rfl
theorem run_t (w : World) (os : OsState) : (topFrom treeTable lawP (w.withFollow "special-get-raises" true) 3148 ⟨boot_heap w.params, Array.mk [], boot_drawn, boot_toks, os⟩).map seenBy = some (openGood view [PySem.Str.ofString "Whitespace"], Hook.val hk (w.withFollow "special-get-raises" true)) := by
  unfold topFrom seenBy
  rw [PySem.W.Fast.te14364793385576792824, PySem.W.Fast.te14082659384304107361, PySem.W.Fast.te4187177175401517315]
  kernel_rfl
theorem left_law : LeftO lawP view [PySem.Str.ofString "Whitespace"] lawXt (Hook.obs hk) (Hook.val hk) 3148 := by
  refine LeftO.of_split "special-get-raises" fun w => ?_
  have hb := boot_open (p := lawP) (N := 3148) rfl (by decide) (fun s => rfl) w
  obtain ⟨s₀, h1, h2⟩ := Option.map_eq_some_iff.mp hb
  obtain ⟨hp, gs, dr, tk, os⟩ := s₀
  cases h2
  rw [h1]
  exact congrArg some (Prod.ext (run_f w os) (run_t w os))
noncomputable abbrev saidL := PySem.Challenge.rw_sl0030_01
noncomputable abbrev saidP : Program := PySem.Challenge.rw_sl0030_01.row.prog
theorem said1 : (sreFenced saidP.main && ((moduleNames saidP.main.body).isEmpty || lookedIntoSs (moduleNames saidP.main.body) saidP.main.body)) = true := by kernel_rfl
theorem said2 : namesResolve saidP = true := by kernel_rfl
theorem said3 :  saidP.boundNames.all (fun n => !worldNames.contains n) = true := by kernel_rfl
theorem said4 :  noRoadLSs { strict := !(importedModules saidP.main.body).all cThrough.contains, foot := none, bare := (["vars", "dir", "locals"] : List Str).filter (readsOut saidP saidP.main.body) } saidP.main.body = true := by kernel_rfl
theorem said5 : (namesMeet saidP saidP.main.body fun _ n => attrL n) = true := by kernel_rfl
theorem saidR : looksOpen saidP = true := by
  unfold looksOpen
  rw [said1, said2, said3, said4, said5]
  rfl
theorem saidT : saidL.row.wellSaid = true := by
  unfold OpenRow.wellSaid OpenRow.partSaid
  rw [show looksOpen saidL.row.prog = true from saidR]
  kernel_rfl
theorem said0 : saidL.wellSaid = true := by
  unfold OpenLaw.wellSaid
  rw [saidT]
  kernel_rfl
theorem aE2 {A B P : Prop} (h : A ∧ B) (k : A → B → P) : P := k h.1 h.2
theorem aE3 {A0 A1 A2 P : Prop} (h : A0 ∧ A1 ∧ A2) (k : A0 → A1 → A2 → P) : P := aE2 h fun a b => aE2 b (k a)
theorem aE4 {A0 A1 A2 A3 P : Prop} (h : A0 ∧ A1 ∧ A2 ∧ A3) (k : A0 → A1 → A2 → A3 → P) : P := aE2 h fun a b => aE3 b (k a)
theorem aE5 {A0 A1 A2 A3 A4 P : Prop} (h : A0 ∧ A1 ∧ A2 ∧ A3 ∧ A4) (k : A0 → A1 → A2 → A3 → A4 → P) : P := aE2 h fun a b => aE4 b (k a)
theorem aE6 {A0 A1 A2 A3 A4 A5 P : Prop} (h : A0 ∧ A1 ∧ A2 ∧ A3 ∧ A4 ∧ A5) (k : A0 → A1 → A2 → A3 → A4 → A5 → P) : P := aE2 h fun a b => aE5 b (k a)
theorem aE7 {A0 A1 A2 A3 A4 A5 A6 P : Prop} (h : A0 ∧ A1 ∧ A2 ∧ A3 ∧ A4 ∧ A5 ∧ A6) (k : A0 → A1 → A2 → A3 → A4 → A5 → A6 → P) : P := aE2 h fun a b => aE6 b (k a)
theorem aE8 {A0 A1 A2 A3 A4 A5 A6 A7 P : Prop} (h : A0 ∧ A1 ∧ A2 ∧ A3 ∧ A4 ∧ A5 ∧ A6 ∧ A7) (k : A0 → A1 → A2 → A3 → A4 → A5 → A6 → A7 → P) : P := aE2 h fun a b => aE7 b (k a)
theorem aE9 {A0 A1 A2 A3 A4 A5 A6 A7 A8 P : Prop} (h : A0 ∧ A1 ∧ A2 ∧ A3 ∧ A4 ∧ A5 ∧ A6 ∧ A7 ∧ A8) (k : A0 → A1 → A2 → A3 → A4 → A5 → A6 → A7 → A8 → P) : P := aE2 h fun a b => aE8 b (k a)
theorem aE10 {A0 A1 A2 A3 A4 A5 A6 A7 A8 A9 P : Prop} (h : A0 ∧ A1 ∧ A2 ∧ A3 ∧ A4 ∧ A5 ∧ A6 ∧ A7 ∧ A8 ∧ A9) (k : A0 → A1 → A2 → A3 → A4 → A5 → A6 → A7 → A8 → A9 → P) : P := aE2 h fun a b => aE9 b (k a)
theorem aE11 {A0 A1 A2 A3 A4 A5 A6 A7 A8 A9 A10 P : Prop} (h : A0 ∧ A1 ∧ A2 ∧ A3 ∧ A4 ∧ A5 ∧ A6 ∧ A7 ∧ A8 ∧ A9 ∧ A10) (k : A0 → A1 → A2 → A3 → A4 → A5 → A6 → A7 → A8 → A9 → A10 → P) : P := aE2 h fun a b => aE10 b (k a)
theorem aE12 {A0 A1 A2 A3 A4 A5 A6 A7 A8 A9 A10 A11 P : Prop} (h : A0 ∧ A1 ∧ A2 ∧ A3 ∧ A4 ∧ A5 ∧ A6 ∧ A7 ∧ A8 ∧ A9 ∧ A10 ∧ A11) (k : A0 → A1 → A2 → A3 → A4 → A5 → A6 → A7 → A8 → A9 → A10 → A11 → P) : P := aE2 h fun a b => aE11 b (k a)
theorem aE13 {A0 A1 A2 A3 A4 A5 A6 A7 A8 A9 A10 A11 A12 P : Prop} (h : A0 ∧ A1 ∧ A2 ∧ A3 ∧ A4 ∧ A5 ∧ A6 ∧ A7 ∧ A8 ∧ A9 ∧ A10 ∧ A11 ∧ A12) (k : A0 → A1 → A2 → A3 → A4 → A5 → A6 → A7 → A8 → A9 → A10 → A11 → A12 → P) : P := aE2 h fun a b => aE12 b (k a)
theorem aE14 {A0 A1 A2 A3 A4 A5 A6 A7 A8 A9 A10 A11 A12 A13 P : Prop} (h : A0 ∧ A1 ∧ A2 ∧ A3 ∧ A4 ∧ A5 ∧ A6 ∧ A7 ∧ A8 ∧ A9 ∧ A10 ∧ A11 ∧ A12 ∧ A13) (k : A0 → A1 → A2 → A3 → A4 → A5 → A6 → A7 → A8 → A9 → A10 → A11 → A12 → A13 → P) : P := aE2 h fun a b => aE13 b (k a)
theorem aE15 {A0 A1 A2 A3 A4 A5 A6 A7 A8 A9 A10 A11 A12 A13 A14 P : Prop} (h : A0 ∧ A1 ∧ A2 ∧ A3 ∧ A4 ∧ A5 ∧ A6 ∧ A7 ∧ A8 ∧ A9 ∧ A10 ∧ A11 ∧ A12 ∧ A13 ∧ A14) (k : A0 → A1 → A2 → A3 → A4 → A5 → A6 → A7 → A8 → A9 → A10 → A11 → A12 → A13 → A14 → P) : P := aE2 h fun a b => aE14 b (k a)
theorem aE16 {A0 A1 A2 A3 A4 A5 A6 A7 A8 A9 A10 A11 A12 A13 A14 A15 P : Prop} (h : A0 ∧ A1 ∧ A2 ∧ A3 ∧ A4 ∧ A5 ∧ A6 ∧ A7 ∧ A8 ∧ A9 ∧ A10 ∧ A11 ∧ A12 ∧ A13 ∧ A14 ∧ A15) (k : A0 → A1 → A2 → A3 → A4 → A5 → A6 → A7 → A8 → A9 → A10 → A11 → A12 → A13 → A14 → A15 → P) : P := aE2 h fun a b => aE15 b (k a)
theorem aE17 {A0 A1 A2 A3 A4 A5 A6 A7 A8 A9 A10 A11 A12 A13 A14 A15 A16 P : Prop} (h : A0 ∧ A1 ∧ A2 ∧ A3 ∧ A4 ∧ A5 ∧ A6 ∧ A7 ∧ A8 ∧ A9 ∧ A10 ∧ A11 ∧ A12 ∧ A13 ∧ A14 ∧ A15 ∧ A16) (k : A0 → A1 → A2 → A3 → A4 → A5 → A6 → A7 → A8 → A9 → A10 → A11 → A12 → A13 → A14 → A15 → A16 → P) : P := aE2 h fun a b => aE16 b (k a)
theorem aE18 {A0 A1 A2 A3 A4 A5 A6 A7 A8 A9 A10 A11 A12 A13 A14 A15 A16 A17 P : Prop} (h : A0 ∧ A1 ∧ A2 ∧ A3 ∧ A4 ∧ A5 ∧ A6 ∧ A7 ∧ A8 ∧ A9 ∧ A10 ∧ A11 ∧ A12 ∧ A13 ∧ A14 ∧ A15 ∧ A16 ∧ A17) (k : A0 → A1 → A2 → A3 → A4 → A5 → A6 → A7 → A8 → A9 → A10 → A11 → A12 → A13 → A14 → A15 → A16 → A17 → P) : P := aE2 h fun a b => aE17 b (k a)
theorem aE19 {A0 A1 A2 A3 A4 A5 A6 A7 A8 A9 A10 A11 A12 A13 A14 A15 A16 A17 A18 P : Prop} (h : A0 ∧ A1 ∧ A2 ∧ A3 ∧ A4 ∧ A5 ∧ A6 ∧ A7 ∧ A8 ∧ A9 ∧ A10 ∧ A11 ∧ A12 ∧ A13 ∧ A14 ∧ A15 ∧ A16 ∧ A17 ∧ A18) (k : A0 → A1 → A2 → A3 → A4 → A5 → A6 → A7 → A8 → A9 → A10 → A11 → A12 → A13 → A14 → A15 → A16 → A17 → A18 → P) : P := aE2 h fun a b => aE18 b (k a)
theorem aE20 {A0 A1 A2 A3 A4 A5 A6 A7 A8 A9 A10 A11 A12 A13 A14 A15 A16 A17 A18 A19 P : Prop} (h : A0 ∧ A1 ∧ A2 ∧ A3 ∧ A4 ∧ A5 ∧ A6 ∧ A7 ∧ A8 ∧ A9 ∧ A10 ∧ A11 ∧ A12 ∧ A13 ∧ A14 ∧ A15 ∧ A16 ∧ A17 ∧ A18 ∧ A19) (k : A0 → A1 → A2 → A3 → A4 → A5 → A6 → A7 → A8 → A9 → A10 → A11 → A12 → A13 → A14 → A15 → A16 → A17 → A18 → A19 → P) : P := aE2 h fun a b => aE19 b (k a)
theorem mkJ {G : Prop} {α : Type} (B : α → (Shared → Prop) → Prop) (k : ∀ J : α → Shared → Prop, (∀ n s', (∀ P, B n P → P s') → J n s') → (∀ n s' P, J n s' → B n P → P s') → G) : G := k (fun n s' => ∀ P, B n P → P s') (fun _ _ h => h) (fun _ _ P h k => h P k)
theorem swapL {α : Type} (a b : List α) {l : List α} : ∀ q ∈ a ++ (b ++ l), q ∈ b ++ (a ++ l) := fun q hq => by
  simp only [List.mem_append] at hq ⊢
  rcases hq with h | h | h
  · exact .inr (.inl h)
  · exact .inl h
  · exact .inr (.inr h)
theorem ne_same {prog : Program} {w : World} {A : Around} {E : Value → Shared → Prop} {s : Shared} {h₀ : Heap} {L a b : Addr} {oa ob : Obj} {news n₁ n₂ : CbLed} {xs ys : List Value} {ka kb : Nat} {ds : List Dat} {Q : Value → Shared → Prop} (N : News h₀ L s.heap news) (ma : (a, oa) ∈ news) (ca : oa.cls = .type "list") (da : oa.data = .seq xs.toArray ka) (Da : DatAll n₁ xs ds) (sa : ∀ p ∈ n₁, p ∈ news)
    (mb : (b, ob) ∈ news) (cb : ob.cls = .type "list") (db : ob.data = .seq ys.toArray kb) (Db : DatAll n₂ ys ds) (sb : ∀ p ∈ n₂, p ∈ news)
    (ha : ∀ d ∈ ds, kqdOk 8 d = true) (hu : A.units + 64 < cLine) (h : Q (.bool false) s) : wpAny (model prog w) A (compareOp .NotEq (.ref a) (.ref b)) Q E s :=
  kqd_ne N ma ca da Da sa mb cb db Db sb ha ha hu (by
    have e : ∀ i : Decidable (ds = ds), (!@decide (ds = ds) i) = false := fun i => by simp
    rw [e]; exact h)
theorem lt_rm0 {a m n : Nat} (h : a < m) (e : Nat.ble m n = true) : a < n := Nat.lt_of_lt_of_le h (Nat.le_of_ble_eq_true e)
theorem lt_rm {a k m n : Nat} (h : a < m) (e : Nat.ble (m + k) n = true) : a + k < n := Nat.lt_of_lt_of_le (Nat.add_lt_add_right h k) (Nat.le_of_ble_eq_true e)
theorem lt_rmB {a k j m n : Nat} (h : a < m) (e : Nat.ble (m + k + j) n = true) : a + k + j < n := lt_rm (lt_rm (n := m + k) h (Nat.ble_eq_true_of_le (Nat.le_refl _))) e
theorem lt_rmC {a k j i m n : Nat} (h : a < m) (e : Nat.ble (m + k + j + i) n = true) : a + k + j + i < n := lt_rm (lt_rmB (n := m + k + j) h (Nat.ble_eq_true_of_le (Nat.le_refl _))) e
theorem lt_rmS {a m f n : Nat} (h : a < m - f) (e : Nat.ble m n = true) : a < n := Nat.lt_of_lt_of_le (Nat.lt_of_lt_of_le h (Nat.sub_le m f)) (Nat.le_of_ble_eq_true e)
theorem dpS {a f : Nat} (h : a < 890 - (f + 1)) : a + 1 < 890 - f := by omega
theorem unS {a f : Nat} (h : a < 4990 - 5 * (f + 1)) (hf : f + 1 ≤ 3) : a + 3 < 4990 - 5 * f := by omega
theorem two_of {k : Nat} {l r : Int} (h : 1 ≤ k) (e : l + k = r) (ne : l + 1 ≠ r) : ∃ j, k = j + 2 := ⟨k - 2, by omega⟩
noncomputable abbrev MyProg : Program := PySem.Challenge.rw_sl0030_01.row.prog
noncomputable abbrev MyK (w : World) : Frag := lawK w.params
abbrev Frm := Str → Option Value
/-- what a contract hands back: any result and ledger named by Ret -/
abbrev ClmD (dm um : Nat) (w : World) (f : Addr) (vs : List Value) (news : CbLed) (pre : Prop) (Ret : Heap → Addr → Frm → Shared → (Value → Shared → Prop) → Prop) : Prop :=
  ∀ (loose : List Str) (mean : ExcName → Option Value) (mg mb : Str → Option Value) (dp un : Nat) (gd : Option (List Code)) (cn : Str) (cs : Scope) (a : Addr) (ccd : Value) (cl : List (Str × Addr)) (outer : List Env) (A₀ : Around) (base h₀ : Heap) (L : Addr) (m : Frm) (s : Shared) (Q E : Value → Shared → Prop),
    Below A₀ base outer h₀ → Fr h₀ L s.heap m → (MyK w).In h₀ → News h₀ L s.heap news → Top topProg loose mean mg mb h₀ → cs.kind = .function → pre → dp < dm → un < um → Ret h₀ L m s Q →
      wpAny (model MyProg w) (ktrTop dp un gd cn cs L a ccd cl outer) (call (.ref f) vs) Q E s
abbrev Clm := ClmD 900 5000
abbrev RetV (news : CbLed) (R : Tok → Value) : Heap → Addr → Frm → Shared → (Value → Shared → Prop) → Prop := fun h₀ L m s Q =>
  ∀ (t : Tok) (h' : Heap) (tk' : Nat), Fr h₀ L h' m → News h₀ L h' news → Q (R t) { s with heap := h', toks := tk' }
theorem retI {h₀ h' : Heap} {L : Addr} {m : Frm} {news news' : CbLed} {s : Shared} {Q : Value → Shared → Prop} {t : Tok} {tk' : Nat} {x y : Int}
    (hret : RetV news (fun t => .int x t) h₀ L m s Q) (e : y = x) (F : Fr h₀ L h' m) (N : News h₀ L h' news') (hs : ∀ p ∈ news, p ∈ news') : Q (.int y t) { s with heap := h', toks := tk' } := by
  subst e
  exact hret t h' tk' F (cb_drop N hs)
theorem retS {h₀ h' : Heap} {L : Addr} {m : Frm} {news news' : CbLed} {s : Shared} {Q : Value → Shared → Prop} {t : Tok} {tk' : Nat} {x y : Str}
    (hret : RetV news (fun t => .str x t) h₀ L m s Q) (e : y = x) (F : Fr h₀ L h' m) (N : News h₀ L h' news') (hs : ∀ p ∈ news, p ∈ news') : Q (.str y t) { s with heap := h', toks := tk' } := by
  subst e
  exact hret t h' tk' F (cb_drop N hs)
theorem tnAll {l : CbLed} {d e : Nat} (h : ∀ p ∈ l, p.1 < d) (hd : d ≤ e) : ∀ p ∈ l, p.1 ≠ e := fun p hp => Nat.ne_of_lt (Nat.lt_of_lt_of_le (h p hp) hd)
abbrev tupO (vs : Array Value) : Obj := { cls := .type "tuple", data := .seq vs }
abbrev RetF3 (news : CbLed) (r g b : UInt64) : Heap → Addr → Frm → Shared → (Value → Shared → Prop) → Prop := fun h₀ L m s Q =>
  ∀ (D : Addr) (t1 t2 t3 : Tok) (h' : Heap) (tk' : Nat), Fr h₀ L h' m → News h₀ L h' ((D, tupO #[.float r t1, .float g t2, .float b t3]) :: news) → AllLt D news → Q (.ref D) { s with heap := h', toks := tk' }
theorem flt_join {prog : Program} {w : World} {A : Around} {cn : Str} {cs : Scope} {L a : Addr} {cd : Value} {h₀ h : Heap} {m : Frm} {news : CbLed} {g : Array GenState} {dr : Drawn} {tk : Nat} {os : OsState} {x : Str} {old d : UInt64} {t0 : Tok} {b : Bool} {k : Nat} {p1 p2 p3 : Pos}
    {QQ : Flow → Shared → Prop} {E : Value → Shared → Prop}
    (F : Fr h₀ L h m) (N : News h₀ L h news) (hm : m x = some (.float old t0)) (hk : cs.kind = .function) (hl : (envOf cn cs L a cd).kindOf x = some .local)
    (next : ∀ t h' tk', Fr h₀ L h' (fun y => if y = x then some (.float (if b then d else old) t) else m y) → News h₀ L h' news → QQ .next ⟨h', g, dr, tk', os⟩) :
    if b = true then wpAny (model prog w) A (execs [Stmt.Assign [Expr.Name x p1] (Expr.Constant (Const.float d) k p2) p3] (envOf cn cs L a cd)) QQ E ⟨h, g, dr, tk, os⟩ else wpAny (model prog w) A (execs [] (envOf cn cs L a cd)) QQ E ⟨h, g, dr, tk, os⟩ := by
  cases b with
  | false =>
    rw [if_neg Bool.false_ne_true]
    walk1
    refine next t0 h tk ?_ N
    have : (fun y => if y = x then some (Value.float (if false = true then d else old) t0) else m y) = m := by
      funext y
      by_cases e : y = x
      · subst e; simp [hm]
      · simp [e]
    rw [this]; exact F
  | true =>
    rw [if_pos rfl]
    repeat' walk1
    refine storeX_L (cl := []) F N (fun h' F' N' => ?_) hk hl
    dsimp only
    walk1
    exact next _ _ _ F' N'
def max3 (x y z : UInt64) : UInt64 := if (Float64.cmp (if (Float64.cmp x y == some .lt) = true then y else x) z == some .lt) = true then z else (if (Float64.cmp x y == some .lt) = true then y else x)
theorem max_three_f {prog : Program} {w : World} {A : Around} {E : Value → Shared → Prop} {s : Shared} {Q : Value → Shared → Prop} {x y z : UInt64} {tx ty tz : Tok} {h₀ : Heap} {L : Addr} {m : Frm} {news : CbLed} (hh : A.handled = none)
    (F : Fr h₀ L s.heap m) (N : News h₀ L s.heap news)
    (h : ∀ h' tk t, Fr h₀ L h' m → News h₀ L h' news → Q (.float (max3 x y z) t) { s with heap := h', toks := tk }) :
    wpAny (model prog w) A (call (.builtin "max") [.float x tx, .float y ty, .float z tz]) Q E s := by
  have hT : (s.heap.push { cls := .type "tuple", data := .seq #[.float x tx, .float y ty, .float z tz] }).IsTuple s.heap.objs.size #[.float x tx, .float y ty, .float z tz] := ⟨_, Heap.get?_push_size _ rfl, rfl, 0, rfl⟩
  refine call_max_three (wpAny_pyIter_tuple hT ?_)
  have hsz : (s.heap.push { cls := .type "tuple", data := .seq #[.float x tx, .float y ty, .float z tz] }).objs.size = s.heap.objs.size + 1 := Heap.size_push ..
  refine ⟨_, [_, s.heap.objs.size], [_], _, _, _, _, rfl, Walks.tuple (A := A.in1) hh _ s.heap.objs.size (by rw [hsz]; exact Nat.ne_of_lt (Nat.lt_succ_self _)) #[.float x tx, .float y ty, .float z tz],
    ⟨⟨_, Heap.get?_push_size _ rfl, rfl, rfl⟩, hT.push _⟩, fun c hc => ?_, by simp, PySem.Flt.cmpOf_gt #[.float x tx, .float y ty, .float z tz] (by intro v hv; simp at hv; rcases hv with rfl | rfl | rfl <;> exact PySem.Flt.NumV.float _ _), fun v h' tk hP hk => ?_⟩
  · show c < ((s.heap.push _).push _).objs.size
    rw [Heap.size_push, hsz]
    rcases List.mem_cons.mp hc with rfl | hc
    · rw [hsz]; exact Nat.lt_succ_self _
    · rcases List.mem_cons.mp hc with rfl | hc
      · exact Nat.lt_succ_of_lt (Nat.lt_succ_self _)
      · cases hc
  · have hold : ∀ c o, s.heap.get? c = some o → h'.get? c = some o := fun c o e => by
      refine hk c o (fun hm => ?_) (Heap.get?_push_of_some _ (Heap.get?_push_of_some _ e))
      rcases List.mem_cons.mp hm with e1 | hm
      · have := Heap.lt_size e; rw [e1, hsz] at this; exact Nat.lt_irrefl _ (Nat.lt_of_succ_lt this)
      · cases hm
    have hv : ∃ t, v = .float (max3 x y z) t := by
      cases h1 : ((Float64.cmp x y == some .lt) : Bool) <;> cases h2 : ((Float64.cmp x z == some .lt) : Bool) <;> cases h3 : ((Float64.cmp y z == some .lt) : Bool) <;> simp [argBest, PySem.Flt.ltV, h1, h2, h3] at hP <;> subst hP <;> simp [max3, h1, h2, h3]
    obtain ⟨t, rfl⟩ := hv
    exact h h' tk t (F.grownK hold) (N.grown hold)
def min3 (x y z : UInt64) : UInt64 := if (Float64.cmp z (if (Float64.cmp y x == some .lt) = true then y else x) == some .lt) = true then z else (if (Float64.cmp y x == some .lt) = true then y else x)
theorem min_three_f {prog : Program} {w : World} {A : Around} {E : Value → Shared → Prop} {s : Shared} {Q : Value → Shared → Prop} {x y z : UInt64} {tx ty tz : Tok} {h₀ : Heap} {L : Addr} {m : Frm} {news : CbLed} (hh : A.handled = none)
    (F : Fr h₀ L s.heap m) (N : News h₀ L s.heap news)
    (h : ∀ h' tk t, Fr h₀ L h' m → News h₀ L h' news → Q (.float (min3 x y z) t) { s with heap := h', toks := tk }) :
    wpAny (model prog w) A (call (.builtin "min") [.float x tx, .float y ty, .float z tz]) Q E s := by
  have hT : (s.heap.push { cls := .type "tuple", data := .seq #[.float x tx, .float y ty, .float z tz] }).IsTuple s.heap.objs.size #[.float x tx, .float y ty, .float z tz] := ⟨_, Heap.get?_push_size _ rfl, rfl, 0, rfl⟩
  refine call_min_three (wpAny_pyIter_tuple hT ?_)
  have hsz : (s.heap.push { cls := .type "tuple", data := .seq #[.float x tx, .float y ty, .float z tz] }).objs.size = s.heap.objs.size + 1 := Heap.size_push ..
  refine ⟨_, [_, s.heap.objs.size], [_], _, _, _, _, rfl, Walks.tuple (A := A.in1) hh _ s.heap.objs.size (by rw [hsz]; exact Nat.ne_of_lt (Nat.lt_succ_self _)) #[.float x tx, .float y ty, .float z tz],
    ⟨⟨_, Heap.get?_push_size _ rfl, rfl, rfl⟩, hT.push _⟩, fun c hc => ?_, by simp, PySem.Flt.cmpOf_lt #[.float x tx, .float y ty, .float z tz] (by intro v hv; simp at hv; rcases hv with rfl | rfl | rfl <;> exact PySem.Flt.NumV.float _ _), fun v h' tk hP hk => ?_⟩
  · show c < ((s.heap.push _).push _).objs.size
    rw [Heap.size_push, hsz]
    rcases List.mem_cons.mp hc with rfl | hc
    · rw [hsz]; exact Nat.lt_succ_self _
    · rcases List.mem_cons.mp hc with rfl | hc
      · exact Nat.lt_succ_of_lt (Nat.lt_succ_self _)
      · cases hc
  · have hold : ∀ c o, s.heap.get? c = some o → h'.get? c = some o := fun c o e => by
      refine hk c o (fun hm => ?_) (Heap.get?_push_of_some _ (Heap.get?_push_of_some _ e))
      rcases List.mem_cons.mp hm with e1 | hm
      · have := Heap.lt_size e; rw [e1, hsz] at this; exact Nat.lt_irrefl _ (Nat.lt_of_succ_lt this)
      · cases hm
    have hv : ∃ t, v = .float (min3 x y z) t := by
      cases h1 : ((Float64.cmp y x == some .lt) : Bool) <;> cases h2 : ((Float64.cmp z x == some .lt) : Bool) <;> cases h3 : ((Float64.cmp z y == some .lt) : Bool) <;> simp [argBest, PySem.Flt.ltV, h1, h2, h3] at hP <;> subst hP <;> simp [min3, h1, h2, h3]
    obtain ⟨t, rfl⟩ := hv
    exact h h' tk t (F.grownK hold) (N.grown hold)
theorem truediv_nz {prog : Program} {w : World} {A : Around} {E : Value → Shared → Prop} {s : Shared} {Q : Value → Shared → Prop} {a b : UInt64} {t u : Tok} (hA : A.handled = none) (hz : Float64.isZero b = false)
    (h : ∀ v, v = Float64.div a b → Q (.float v s.toks) { s with toks := s.toks + 1 }) : wpAny (model prog w) A (binaryOp .Div (.float a t) (.float b u)) Q E s :=
  truediv_float_or hA (fun c => by rw [hz] at c; cases c) (fun _ => h _ rfl)
abbrev hsvPre (x y z : UInt64) : Prop :=
  ((Float64.cmp (min3 x y z) (max3 x y z) == some Ordering.eq) = false → Float64.isZero (max3 x y z) = false ∧ Float64.isZero (Float64.sub (max3 x y z) (min3 x y z)) = false) ∧
  ((Float64.cmp x (max3 x y z) == some Ordering.eq) = false → (Float64.cmp y (max3 x y z) == some Ordering.eq) = true)
abbrev RetF3x (news : CbLed) (b : UInt64) : Heap → Addr → Frm → Shared → (Value → Shared → Prop) → Prop := fun h₀ L m s Q =>
  ∀ (D : Addr) (r g : UInt64) (t1 t2 t3 : Tok) (h' : Heap) (tk' : Nat), Fr h₀ L h' m → News h₀ L h' ((D, tupO #[.float r t1, .float g t2, .float b t3]) :: news) → AllLt D news → Q (.ref D) { s with heap := h', toks := tk' }
abbrev RetF3y (news : CbLed) (g : UInt64) : Heap → Addr → Frm → Shared → (Value → Shared → Prop) → Prop := fun h₀ L m s Q =>
  ∀ (D : Addr) (r b : UInt64) (t1 t2 t3 : Tok) (h' : Heap) (tk' : Nat), Fr h₀ L h' m → News h₀ L h' ((D, tupO #[.float r t1, .float g t2, .float b t3]) :: news) → AllLt D news → Q (.ref D) { s with heap := h', toks := tk' }
def JoinF (h₀ : Heap) (L : Addr) (m : Frm) (news : CbLed) (x : Str) (g : Array GenState) (dr : Drawn) (os : OsState) : Flow → Shared → Prop := fun f s' =>
  ∃ (v : UInt64) (t : Tok) (h' : Heap) (tk' : Nat), f = .next ∧ s' = ⟨h', g, dr, tk', os⟩ ∧ Fr h₀ L h' (fun y => if y = x then some (.float v t) else m y) ∧ News h₀ L h' news
theorem join2f {M : Model} {A : Around} {S1 S2 : List Stmt} {env : Env} {QQ : Flow → Shared → Prop} {E : Value → Shared → Prop} {b : Bool} {h₀ h : Heap} {L : Addr} {m : Frm} {news : CbLed} {g : Array GenState} {dr : Drawn} {tk : Nat} {os : OsState} (x : Str)
    (F : Fr h₀ L h m) (N : News h₀ L h news)
    (h1 : b = true → wpAny M A (execs S1 env) (JoinF h₀ L m news x g dr os) E ⟨h, g, dr, tk, os⟩) (h2 : b = false → wpAny M A (execs S2 env) (JoinF h₀ L m news x g dr os) E ⟨h, g, dr, tk, os⟩)
    (next : ∀ v t h' tk', Fr h₀ L h' (fun y => if y = x then some (.float v t) else m y) → News h₀ L h' news → QQ .next ⟨h', g, dr, tk', os⟩) :
    if b = true then wpAny M A (execs S1 env) QQ E ⟨h, g, dr, tk, os⟩ else wpAny M A (execs S2 env) QQ E ⟨h, g, dr, tk, os⟩ := by
  have key : ∀ f s', JoinF h₀ L m news x g dr os f s' → QQ f s' := by
    rintro f s' ⟨v, t, h', tk', rfl, rfl, F', N'⟩
    exact next v t h' tk' F' N'
  cases b with
  | true => rw [if_pos rfl]; exact wpAny_mono (h1 rfl) key (fun _ _ y => y)
  | false => rw [if_neg Bool.false_ne_true]; exact wpAny_mono (h2 rfl) key (fun _ _ y => y)
abbrev hlsPre (x y z : UInt64) : Prop := hsvPre x y z ∧
  ((Float64.cmp (min3 x y z) (max3 x y z) == some Ordering.eq) = false → Float64.isZero (Float64.add (max3 x y z) (min3 x y z)) = false ∧ Float64.isZero (Float64.sub (Float64.sub 4611686018427387904 (max3 x y z)) (min3 x y z)) = false)
theorem retF3y {h₀ h' : Heap} {L D : Addr} {m : Frm} {news : CbLed} {s : Shared} {Q : Value → Shared → Prop} {g v r b : UInt64} {t1 t2 t3 : Tok} {tk' : Nat}
    (hret : RetF3y news g h₀ L m s Q) (e : v = g) (F : Fr h₀ L h' m) (N : News h₀ L h' ((D, tupO #[.float r t1, .float v t2, .float b t3]) :: news)) (l : AllLt D news) : Q (.ref D) { s with heap := h', toks := tk' } := by
  subst e
  exact hret _ _ _ _ _ _ _ _ F N l
theorem updF_mem {d : Addr} {o : Obj} {l : CbLed} {g : Obj → CbLed} (U : UpdF d o l g) : (d, o) ∈ l := by
  obtain ⟨pre, post, rfl, _⟩ := U.split
  exact List.mem_append_right _ (.head _)
theorem updF_lt {d e : Addr} {o : Obj} {l : CbLed} {g : Obj → CbLed} (U : UpdF d o l g) (h : ∀ p ∈ l, p.1 < e) : ∀ o', ∀ p ∈ g o', p.1 < e := by
  obtain ⟨pre, post, rfl, hg, _⟩ := U.split
  intro o' p hp
  rw [hg] at hp
  rcases List.mem_append.mp hp with hp | hp
  · exact h p (List.mem_append_left _ hp)
  · rcases List.mem_cons.mp hp with rfl | hp
    · exact h (d, o) (List.mem_append_right _ (.head _))
    · exact h p (List.mem_append_right _ (.tail _ hp))
def KCEnd (h₀ : Heap) (L : Addr) (m₀ : Frm) (a : Addr) (rest : CbLed) (s : Shared) (P : Int → Prop) (μ : Int → Nat) (e : Int) (s₂ : Shared) : Prop :=
  ∃ (e' : Int) (t' : Tok) (o' : Obj) (h' : Heap) (tk' : Nat), s₂ = { s with heap := h', toks := tk' } ∧ Fr h₀ L h' m₀ ∧ News h₀ L h' ((a, o') :: rest) ∧ o'.data = .cell (some (.int e' t')) ∧ P e' ∧ μ e' < μ e
def KCPost (h₀ : Heap) (L : Addr) (m₀ : Frm) (a : Addr) (rest : CbLed) (s : Shared) (P : Int → Prop) (μ : Int → Nat) (Q : Flow → Shared → Prop) (e : Int) (f : Flow) (s₂ : Shared) : Prop :=
  match f with
  | .ret v => Q (.ret v) s₂
  | .brk => Q .next s₂
  | _ => KCEnd h₀ L m₀ a rest s P μ e s₂
theorem while_cell {prog : Program} {w : World} {A : Around} {E : Value → Shared → Prop} {Q : Flow → Shared → Prop} {s : Shared} {env : Env} {h₀ : Heap} {L : Addr} {test : Expr} {body : List Stmt} {pos : Pos} {m₀ : Frm} {a : Addr} {o₀ : Obj} {rest : CbLed} {e₀ : Int} {t₀ : Tok} (P : Int → Prop) (μ : Int → Nat)
    (F : Fr h₀ L s.heap m₀) (N : News h₀ L s.heap ((a, o₀) :: rest)) (hd : o₀.data = .cell (some (.int e₀ t₀))) (hp : P e₀)
    (turn : ∀ e t o h tk, o.data = .cell (some (.int e t)) → P e → Fr h₀ L h m₀ → News h₀ L h ((a, o) :: rest) →
      wpAny (model prog w) A (isTrue test env (eval test env)) (fun b s₂ =>
        if b = true then wpAny (model prog w) A (execs body env) (KCPost h₀ L m₀ a rest s P μ Q e) E s₂ else Q .next s₂) E { s with heap := h, toks := tk })
    (hE : PassesOwn (model prog w) A env E := by passes_own) : wpAny (model prog w) A (exec (.While test body [] pos) env) Q E s := by
  refine ksw_while (σ := Int × Tok × Obj) (fun c => (a, c.2.2) :: rest) (fun _ => []) (fun c => c.2.2.data = .cell (some (.int c.1 c.2.1))) [] (fun c => P c.1) (fun c => μ c.1) (e₀, t₀, o₀) F N hd (fun p hp => nomatch hp) hp ?_ hE
  rintro ⟨e, t, o⟩ u h tk hf hP F₁ N₁
  have F₂ : Fr h₀ L h m₀ := F₁
  refine wpAny_mono (turn e t o h tk hf hP F₂ N₁) (fun b s₂ x => ?_) (fun _ _ x => x)
  cases b with
  | false => simpa using x
  | true =>
    simp only [if_true] at x ⊢
    refine wpAny_mono x (fun f s₃ q => ?_) fun _ _ x => x
    have key : KCEnd h₀ L m₀ a rest s P μ e s₃ → KswEnd h₀ L s (fun c : Int × Tok × Obj => (a, c.2.2) :: rest) (fun _ => []) (fun c => c.2.2.data = .cell (some (.int c.1 c.2.1))) [] m₀ (fun c => P c.1) (fun c => μ c.1) (e, t, o) s₃ := by
      rintro ⟨e', t', o', h', tk', rfl, F', N', hd', hP', hm'⟩
      exact ⟨(e', t', o'), h', tk', m₀, (a, o') :: rest, rfl, F', N', fun _ hp => hp, hd', (fun p hp => nomatch hp), (fun _ _ _ => rfl), hP', hm'⟩
    cases f with
    | ret v => exact q
    | brk => exact q
    | next => exact key q
    | cont => exact key q
/-- the table of a def that makes one def: not yet filled, or filled with the code made of it -/
def TabAt (P : Addr) (pos : Pos) (qual : Str) (news : CbLed) : Prop :=
  (P, tabObj #[]) ∈ news ∨ ∃ (c' : Addr) (oc : Obj) (vs : Array Value) (t : Tok), (P, tabObj #[rawInt pos.line, rawInt pos.col, .ref c']) ∈ news ∧ (c', oc) ∈ news ∧ oc.data = .fields vs ∧ vs[1]? = some (.str qual t) ∧ c' ≠ 110 ∧ c' ≠ 117
theorem TabAt.mem {P : Addr} {pos : Pos} {qual : Str} {news : CbLed} (h : TabAt P pos qual news) : ∃ o, (P, o) ∈ news := by
  rcases h with h1 | ⟨c', oc, vs, t, h1, _⟩
  · exact ⟨_, h1⟩
  · exact ⟨_, h1⟩
theorem TabAt.keep {P Pc : Addr} {pos : Pos} {qual : Str} {news base' : CbLed} (h : TabAt P pos qual news) (hk : ∀ p ∈ news, p.1 ≠ Pc → p ∈ base') (hP : P ≠ Pc) (hc : Pc = 110 ∨ Pc = 117) : TabAt P pos qual base' := by
  rcases h with h1 | ⟨c', oc, vs, t, h1, h2, h3, h4, h5, h6⟩
  · exact .inl (hk _ h1 hP)
  · refine .inr ⟨c', oc, vs, t, hk _ h1 hP, hk _ h2 ?_, h3, h4, h5, h6⟩
    rcases hc with rfl | rfl
    · exact h5
    · exact h6
theorem TabAt.sub {P : Addr} {pos : Pos} {qual : Str} {news base' : CbLed} (h : TabAt P pos qual news) (hk : ∀ p ∈ news, p ∈ base') : TabAt P pos qual base' := by
  rcases h with h1 | ⟨c', oc, vs, t, h1, h2, h3⟩
  · exact .inl (hk _ h1)
  · exact .inr ⟨c', oc, vs, t, hk _ h1, hk _ h2, h3⟩
theorem TabAt.cons {P : Addr} {pos : Pos} {qual : Str} {news : CbLed} {p : Addr × Obj} (h : TabAt P pos qual news) : TabAt P pos qual (p :: news) := h.sub fun _ x => .tail _ x
theorem updF_front {P : Addr} {o : Obj} {base : CbLed} {g : Obj → CbLed} (U : UpdF P o base g) : ∀ (front : CbLed), (∀ q ∈ front, q.1 ≠ P) → UpdF P o (front ++ base) (fun o' => front ++ g o')
  | [], _ => U
  | q :: r, h => .tail (h q (.head _)) (updF_front U r fun x hx => h x (.tail _ hx))
theorem updF_addr {d : Addr} {o : Obj} {l : CbLed} {g : Obj → CbLed} (U : UpdF d o l g) : ∀ o', ∀ p ∈ g o', ∃ p' ∈ l, p'.1 = p.1 := by
  obtain ⟨pre, post, rfl, hg, _⟩ := U.split
  intro o' p hp
  rw [hg] at hp
  rcases List.mem_append.mp hp with hp | hp
  · exact ⟨p, List.mem_append_left _ hp, rfl⟩
  · rcases List.mem_cons.mp hp with rfl | hp
    · exact ⟨(d, o), List.mem_append_right _ (.head _), rfl⟩
    · exact ⟨p, List.mem_append_right _ (.tail _ hp), rfl⟩
theorem updF_keep {d : Addr} {o : Obj} {l : CbLed} {g : Obj → CbLed} (U : UpdF d o l g) : ∀ o', ∀ p ∈ l, p.1 ≠ d → p ∈ g o' := by
  obtain ⟨pre, post, rfl, hg, _⟩ := U.split
  intro o' p hp hne
  rw [hg]
  rcases List.mem_append.mp hp with hp | hp
  · exact List.mem_append_left _ hp
  · rcases List.mem_cons.mp hp with rfl | hp
    · exact absurd rfl hne
    · exact List.mem_append_right _ (.tail _ hp)
theorem updF_new {d : Addr} {o : Obj} {l : CbLed} {g : Obj → CbLed} (U : UpdF d o l g) : ∀ o', (d, o') ∈ g o' := by
  obtain ⟨pre, post, rfl, hg, _⟩ := U.split
  intro o'
  rw [hg]
  exact List.mem_append_right _ (.head _)
theorem nest_any {M : Model} {A : Around} {E : Value → Shared → Prop} {s : Shared} {h₀ : Heap} {L a c P : Addr} {m mg mb : Str → Option Value} {cn : Str} {cs : Scope} {ccd : Value} {cl : List (Str × Addr)} {front base : CbLed}
  {p : Program} {loose : List Str} {mean : ExcName → Option Value} {name qual : Str} {params : Arguments} {body : List Stmt} {scope : Scope} {pos : Pos} {firstLine : Nat} {clos : List (Str × Addr)}
  {Q : Value → Shared → Prop} (F : Fr h₀ L s.heap m) (N : News h₀ L s.heap (front ++ base)) (T : Top p loose mean mg mb h₀) (C : CodeHd h₀ c P) (hcd : ccd = .ref c) (hb : TabAt P pos qual base) (x1 : ∃ o, (110, o) ∈ base) (x2 : ∃ o, (117, o) ∈ base) (hf : ∀ q ∈ front, ∀ p ∈ base, p.1 < q.1)
    (hcl : closureFor scope (envX cn cs L a ccd cl) = pure clos)
    (h : ∀ f c' oc vs t ctv doc h' tk base', Fr h₀ L h' m →
      News h₀ L h' ((f, fnMade name qual params body scope clos doc ((mg "__name__").getD .none) c' ctv) :: (front ++ base')) →
      (c', oc) ∈ base' → oc.data = .fields vs → vs[1]? = some (.str qual t) → TabAt P pos qual base' → (∀ p ∈ base, p.1 ≠ P → p ∈ base') →
      (∀ q ∈ front, ∀ p ∈ base', p.1 ≠ q.1) → (∀ q ∈ front, q.1 < f) → (∀ q ∈ base', q.1 < f) → Q (.ref f) { s with heap := h', toks := tk }) :
    wpAny M A (makeFunction name qual params (.stmts body) scope (envX cn cs L a ccd cl) [] [] [] pos firstLine) Q E s := by
  rcases hb with hm0 | ⟨c', oc, vs, t, h1, h2, h3, h4, h5, h6⟩
  · have hfP : ∀ q ∈ front, q.1 ≠ P := fun q hq => Nat.ne_of_gt (hf q hq _ hm0)
    have hfil : ∀ {q : Addr × Obj}, q ∈ base.filter (fun p => p.1 != P) ↔ q ∈ base ∧ q.1 ≠ P := fun {q} => by rw [List.mem_filter]; simp
    have U : UpdF P (tabObj #[]) ((P, tabObj #[]) :: base.filter (fun p => p.1 != P)) (fun o' => (P, o') :: base.filter (fun p => p.1 != P)) := .head fun q hq => (hfil.mp hq).2
    have N0 : News h₀ L s.heap (front ++ ((P, tabObj #[]) :: base.filter (fun p => p.1 != P))) := cb_drop N fun q hq => by
      rcases List.mem_append.mp hq with hq | hq
      · exact List.mem_append_left _ hq
      · rcases List.mem_cons.mp hq with rfl | hq
        · exact List.mem_append_right _ hm0
        · exact List.mem_append_right _ (hfil.mp hq).1
    refine nest_K F N0 T C hcd (updF_front U front hfP) True.intro rfl hcl ?_
    intro f c' oc vs t ctv doc h' tk F' N' d1 d2 l1 l2
    have lP : P < c' := l1 _ (List.mem_append_right _ (.head _))
    have lb : ∀ q ∈ base, q.1 < c' := fun q hq => by
      by_cases e : q.1 = P
      · rw [e]; exact lP
      · exact l1 q (List.mem_append_right _ (.tail _ (hfil.mpr ⟨hq, e⟩)))
    obtain ⟨y1, x1⟩ := x1
    obtain ⟨y2, x2⟩ := x2
    have hx1 : c' ≠ 110 := Nat.ne_of_gt (lb _ x1)
    have hx2 : c' ≠ 117 := Nat.ne_of_gt (lb _ x2)
    refine h f c' oc vs t ctv doc h' tk ((c', oc) :: (P, tabObj #[rawInt pos.line, rawInt pos.col, .ref c']) :: base.filter (fun p => p.1 != P)) F' ?_ (.head _) d1 d2 ?_ ?_ ?_ ?_ ?_
    · intro q hq
      refine N' q ?_
      rcases List.mem_cons.mp hq with rfl | hq
      · exact .head _
      · rcases List.mem_append.mp hq with hq | hq
        · exact .tail _ (.tail _ (List.mem_append_left _ hq))
        · rcases List.mem_cons.mp hq with rfl | hq
          · exact .tail _ (.head _)
          · exact .tail _ (.tail _ (List.mem_append_right _ hq))
    · exact .inr ⟨c', oc, vs, t, .tail _ (.head _), .head _, d1, d2, hx1, hx2⟩
    · intro q hq hne
      exact .tail _ (.tail _ (hfil.mpr ⟨hq, hne⟩))
    · intro q hq p hp
      rcases List.mem_cons.mp hp with rfl | hp
      · exact Nat.ne_of_gt (l1 q (List.mem_append_left _ hq))
      · rcases List.mem_cons.mp hp with rfl | hp
        · exact Nat.ne_of_lt (hf q hq (P, tabObj #[]) hm0)
        · exact Nat.ne_of_lt (hf q hq p (hfil.mp hp).1)
    · intro q hq
      exact Nat.lt_trans (l1 q (List.mem_append_left _ hq)) l2
    · intro q hq
      rcases List.mem_cons.mp hq with rfl | hq
      · exact l2
      · rcases List.mem_cons.mp hq with rfl | hq
        · exact Nat.lt_trans lP l2
        · exact Nat.lt_trans (lb q (hfil.mp hq).1) l2
  · refine nestHit_K F N T C hcd (List.mem_append_right _ h1) True.intro (codeAmong_snoc (c := .ref c') [] True.intro rfl) hcl ?_
    intro f ctv doc h' tk F' N' l1
    exact h f c' oc vs t ctv doc h' tk base F' N' h2 h3 h4 (.inr ⟨c', oc, vs, t, h1, h2, h3, h4, h5, h6⟩) (fun p hp _ => hp) (fun q hq p hp => Nat.ne_of_lt (hf q hq p hp)) (fun q hq => l1 q (List.mem_append_left _ hq)) (fun q hq => l1 q (List.mem_append_right _ hq))
abbrev Tab110 : CbLed → Prop := TabAt 110 { line := 95, col := 4, endLine := 104, endCol := 28 } "_int2digits.<locals>.inner"
/-- hands back a list of these numbers; the table P of the made def stays in order -/
abbrev RetD (news : CbLed) (P : Addr) (T : CbLed → Prop) (ds : List Int) : Heap → Addr → Frm → Shared → (Value → Shared → Prop) → Prop := fun h₀ L m s Q =>
  ∀ (D : Addr) (vs : List Value) (k : Nat) (base' : CbLed) (h' : Heap) (tk' : Nat), Fr h₀ L h' m → News h₀ L h' ((D, W.listOf vs.toArray k) :: base') → IntsAre vs ds → T base' → (∀ p ∈ news, p.1 ≠ P → p ∈ base') → (∀ p ∈ base', p.1 ≠ D) → Q (.ref D) { s with heap := h', toks := tk' }
theorem news_dup {h₀ h : Heap} {L : Addr} {x p : Addr × Obj} {l : CbLed} (N : News h₀ L h (x :: l)) (hp : p ∈ l) : News h₀ L h (x :: p :: l) := fun q hq => by
  rcases List.mem_cons.mp hq with rfl | hq
  · exact N _ (.head _)
  · rcases List.mem_cons.mp hq with rfl | hq
    · exact N _ (.tail _ hp)
    · exact N _ (.tail _ hq)
theorem retD {h₀ h' : Heap} {L : Addr} {m : Frm} {news all base' : CbLed} {s : Shared} {Q : Value → Shared → Prop} {P : Addr} {T : CbLed → Prop} {ds ds' : List Int} {vs : List Value} {D : Addr} {k tk' : Nat}
    (hret : RetD news P T ds h₀ L m s Q) (F : Fr h₀ L h' m) (N : News h₀ L h' all) (hD : (D, W.listOf vs.toArray k) ∈ all) (hB : ∀ p ∈ base', p ∈ all) (hi : IntsAre vs ds') (e : ds' = ds) (hT : T base') (hk : ∀ p ∈ news, p.1 ≠ P → p ∈ base') (hd : ∀ p ∈ base', p.1 ≠ D) : Q (.ref D) { s with heap := h', toks := tk' } := by
  subst e
  exact hret D vs k base' h' tk' F (cb_drop N (List.forall_mem_cons.mpr ⟨hD, hB⟩)) hi hT hk hd
abbrev Tab117 : CbLed → Prop := TabAt 117 { line := 110, col := 4, endLine := 115, endCol := 55 } "_digits2int.<locals>.inner"
def Tabs (news : CbLed) : Prop := Tab110 news ∧ Tab117 news
theorem Tabs.cons {news : CbLed} {p : Addr × Obj} (h : Tabs news) : Tabs (p :: news) := ⟨h.1.cons, h.2.cons⟩
theorem Tabs.of110 {news base' : CbLed} (h : Tabs news) (hk : ∀ p ∈ news, p.1 ≠ 110 → p ∈ base') (h1 : Tab110 base') : Tabs base' := ⟨h1, h.2.keep hk (by decide) (.inl rfl)⟩
theorem Tabs.of117 {news base' : CbLed} (h : Tabs news) (hk : ∀ p ∈ news, p.1 ≠ 117 → p ∈ base') (h1 : Tab117 base') : Tabs base' := ⟨h.1.keep hk (by decide) (.inr rfl), h1⟩
/-- hands back some int; the table P of the made def stays in order -/
abbrev RetQ (news : CbLed) (P : Addr) (T : CbLed → Prop) : Heap → Addr → Frm → Shared → (Value → Shared → Prop) → Prop := fun h₀ L m s Q =>
  ∀ (v : Int) (t : Tok) (base' : CbLed) (h' : Heap) (tk' : Nat), Fr h₀ L h' m → News h₀ L h' base' → 0 ≤ v → v < 16777216 → T base' → (∀ p ∈ news, p.1 ≠ P → p ∈ base') → Q (.int v t) { s with heap := h', toks := tk' }
def Hold (p : Prop) : Prop := p
theorem hold {p : Prop} (h : Hold p) : p := h
theorem mid_eq {a b : Int} (h1 : a + 2 ≤ b) (h2 : b ≤ a + 3) : (a + b).fdiv (2 ^ Int.toNat 1) = a + 1 := by
  show (a + b).fdiv 2 = a + 1
  rw [Int.fdiv_eq_ediv_of_nonneg _ (by decide)]
  omega
theorem sh_eq {a n : Int} : (a + 1 - a) * n = n := by
  rw [show a + 1 - a = 1 by omega, Int.one_mul]
/-- hands back a pair of ints -/
abbrev RetT2 (news : CbLed) (q r : Int) : Heap → Addr → Frm → Shared → (Value → Shared → Prop) → Prop := fun h₀ L m s Q =>
  ∀ (D : Addr) (t1 t2 : Tok) (h' : Heap) (tk' : Nat), Fr h₀ L h' m → News h₀ L h' ((D, tupO #[.int q t1, .int r t2]) :: news) → AllLt D news → Q (.ref D) { s with heap := h', toks := tk' }
theorem offI_lt {I : Addr} {it : Obj} : ∀ {l : CbLed}, AllLt I l → OffI I it l
  | [], _ => True.intro
  | _ :: _, h => ⟨.inl (Nat.ne_of_lt h.1), offI_lt h.2⟩
theorem tnAll2 {A : Prop} {l : CbLed} {d e : Nat} (h : A ∧ AllLt d l) (hd : d ≤ e) : ∀ p ∈ l, p.1 ≠ e := fun p hp => Nat.ne_of_lt (Nat.lt_of_lt_of_le (kst_ltOf h.2 p hp) hd)
theorem unrEnd_drop1 {h₀ : Heap} {L I : Addr} {it : Obj} {R : (Str → Option Value) → List (Addr × Obj) → Prop} {s₁ : Shared} {h' : Heap} {tk : Nat} {m' : Str → Option Value} {rest : CbLed} {x : Addr × Obj} (F : Fr h₀ L h' m') (N : News h₀ L h' (x :: (I, it) :: rest)) (off : AllLt I rest) (r : R m' rest) :
    UnrEnd h₀ L s₁ I it R { s₁ with heap := h', toks := tk } :=
  ⟨h', tk, m', rest, rfl, F, fun p hp => N p (.tail _ hp), fun p hp => Nat.ne_of_lt (kst_ltOf off p hp), r⟩
theorem tabs_ne {A : Prop} {d : Addr} {l : CbLed} (h : A ∧ AllLt d l) (T : Tabs l) : d ≠ 117 := by
  obtain ⟨o, ho⟩ := T.2.mem
  exact Nat.ne_of_gt (kst_ltOf h.2 _ ho)
def rst (n b : Int) (ds : List Int) : Int := ds.foldr (fun d r => (r * 2 ^ n.toNat + d).fmod b) 0
section
local macro_rules | `(tactic| k_room) => `(tactic| k_extra "my room")
local macro_rules | `(tactic| ktr_room) => `(tactic| k_extra "my room")
local macro_rules | `(tactic| k_all) => `(tactic| k_extra "my all")
local macro_rules | `(tactic| k_ne) => `(tactic| k_extra "my ne")
local macro_rules | `(tactic| walk_at $s:str) => `(tactic| k_extra $(Lean.Syntax.mkStrLit ("my " ++ s.getString)))
def clip0 (x : UInt64) : UInt64 := if (Float64.cmp x 0 == some .lt) = true then 0 else x
def clip1 (x : UInt64) : UInt64 := if (Float64.cmp x 4607182418800017408 == some .gt) = true then 4607182418800017408 else x
def clip (x : UInt64) : UInt64 := clip1 (clip0 x)
def yR (x : UInt64) : UInt64 := Float64.add (Float64.add x (Float64.mul 4606703976345377586 0)) (Float64.mul 4603791717925830846 0)
def yG (x : UInt64) : UInt64 := Float64.sub (Float64.sub x (Float64.mul 4598621754083818298 0)) (Float64.mul 4603901015759978483 0)
def yB (x : UInt64) : UInt64 := Float64.add (Float64.sub x (Float64.mul 4607671262177584182 0)) (Float64.mul 4610375502138591871 0)
theorem c_yiq (w : World) (news : CbLed) (x : UInt64) (tx t1 t2 : CbTok) :
    Clm w 143 [.float x tx, .float 0 t1, .float 0 t2] news (True) (RetF3 news (clip (yR x)) (clip (yG x)) (clip (yB x))) := by
  dsimp only [Clm, ClmD, MyProg, MyK]
  k_fill
  k_with_none
  k_with "my room" => ((try simp only [depth_under_make, depth_under_kw, depth_in1, depth_deeper, depth_caller]); show _ < 1000; (try dsimp only [ktrTop]); (first | exact lt_rm hdp rfl | exact lt_rm hun rfl | exact lt_rm0 hdp rfl | exact lt_rm0 hun rfl | exact lt_rmB hdp rfl | exact lt_rmB hun rfl | exact lt_rmC hdp rfl | exact lt_rmC hun rfl | omega))
  k_with "my all" => (refine tnAll (by assumption) ?_; omega)
  k_with "enter" => (refine wpAny_call ?_; k_dflt (first
    | cell_enter
    | (refine' code_defC ?k1 ?k2 ?k3 ?k4 ?k5 ?kA ?kF ?kK ?k6 ?k7 ?k8 ?k9 ?kB ?kD ?_ ?c2 ?c3 ?c4; (case kA => exact rfl); (case kF => exact rfl); (case kK => assumption); (case k1 => k_asm); (case k2 => k_asm); (case k3 => k_asm); (case k4 => k_asm); (case k5 => k_asm); (case k6 => k_is); (case k7 => k_is); (case k8 => k_room); (case k9 => exact BindsTo.of_eq rfl); (case kB => exact rfl); (case kD => decide +kernel); (case c2 => exact rfl); (case c3 => exact rfl); (case c4 => exact rfl); k_whole; intro g' L' h' tk' cells' FG' F' N' Y' B' X' T' l1; (try k_lt l1); k_cells Y'; (try simp only [List.cons_append, List.nil_append] at N'); (try dsimp only); (try k_lift B'); (try k_fold))))
  k_with "my ite" => (k_here; k_dflt (refine flt_join (by k_asm) (by k_asm) (by rfl) (by rfl) (by rfl) ?_); intro t9 h9 tk9 F9 N9; (try dsimp only); (try k_sweep))
  intro loose mean mg mb dp un gd cn cs a ccd cl outer A₀ base h₀ L m0 s Q E hB hF hX hN hT hcs hpre hdp hun hret
  k_extra "enter"
  k_steps
  simp only [RetF3, clip, clip0, clip1, yR, yG, yB] at hret
  exact hret _ _ _ _ _ _ (by assumption) (by assumption) (allLt_of (by assumption))
theorem c_hsv (w : World) (news : CbLed) (x y z : UInt64) (tx ty tz : CbTok) :
    Clm w 157 [.float x tx, .float y ty, .float z tz] news (hsvPre x y z) (RetF3x news (max3 x y z)) := by
  dsimp only [Clm, ClmD, MyProg, MyK]
  k_fill
  k_with_none
  k_with "my room" => ((try simp only [depth_under_make, depth_under_kw, depth_in1, depth_deeper, depth_caller]); show _ < 1000; (try dsimp only [ktrTop]); (first | exact lt_rm hdp rfl | exact lt_rm hun rfl | exact lt_rm0 hdp rfl | exact lt_rm0 hun rfl | exact lt_rmB hdp rfl | exact lt_rmB hun rfl | exact lt_rmC hdp rfl | exact lt_rmC hun rfl | omega))
  k_with "my all" => (first | assumption | (refine tnAll (by assumption) ?_; omega) | (refine tnAll2 (by assumption) ?_; omega))
  k_with "my ne" => (first | (with_reducible assumption) | exact Ne.symm (by with_reducible assumption))
  k_with "enter" => (refine wpAny_call ?_; k_dflt (first
    | cell_enter
    | (refine' code_defC ?k1 ?k2 ?k3 ?k4 ?k5 ?kA ?kF ?kK ?k6 ?k7 ?k8 ?k9 ?kB ?kD ?_ ?c2 ?c3 ?c4; (case kA => exact rfl); (case kF => exact rfl); (case kK => assumption); (case k1 => k_asm); (case k2 => k_asm); (case k3 => k_asm); (case k4 => k_asm); (case k5 => k_asm); (case k6 => k_is); (case k7 => k_is); (case k8 => k_room); (case k9 => exact BindsTo.of_eq rfl); (case kB => exact rfl); (case kD => decide +kernel); (case c2 => exact rfl); (case c3 => exact rfl); (case c4 => exact rfl); k_whole; intro g' L' h' tk' cells' FG' F' N' Y' B' X' T' l1; (try k_lt l1); k_cells Y'; (try simp only [List.cons_append, List.nil_append] at N'); (try dsimp only); (try k_lift B'); (try k_fold))))
  k_with "my call builtin:max" => (k_here; k_dflt (refine max_three_f (by with_unfolding_all rfl) (by k_asm) (by k_asm) ?_); intro h9 tk9 t9 F9 N9; (try k_sweep))
  k_with "my call builtin:min" => (k_here; k_dflt (refine min_three_f (by with_unfolding_all rfl) (by k_asm) (by k_asm) ?_); intro h9 tk9 t9 F9 N9; (try k_sweep))
  k_with "my binaryOp Div float float" => (k_dflt (refine truediv_nz (by with_unfolding_all rfl) (by first | assumption | exact (hp1 (by assumption)).1 | exact (hp1 (by assumption)).2 | decide +kernel) ?_); intro v9 e9; clear e9; (try dsimp only))
  k_with "my ite" => (k_dflt (refine ite_pos (hp2 (by assumption)) ?_))
  intro loose mean mg mb dp un gd cn cs a ccd cl outer A₀ base h₀ L m0 s Q E hB hF hX hN hT hcs hpre hdp hun hret
  obtain ⟨hp1, hp2⟩ := hpre
  k_extra "enter"
  k_steps
  all_goals exact hret _ _ _ _ _ _ _ _ (by assumption) (by assumption) (allLt_of (by assumption))
theorem c_hls (w : World) (news : CbLed) (x y z : UInt64) (tx ty tz : CbTok) :
    Clm w 150 [.float x tx, .float y ty, .float z tz] news (hlsPre x y z) (RetF3y news (Float64.div (Float64.add (max3 x y z) (min3 x y z)) 4611686018427387904)) := by
  dsimp only [Clm, ClmD, MyProg, MyK]
  k_fill
  k_with_none
  k_with "my room" => ((try simp only [depth_under_make, depth_under_kw, depth_in1, depth_deeper, depth_caller]); show _ < 1000; (try dsimp only [ktrTop]); (first | exact lt_rm hdp rfl | exact lt_rm hun rfl | exact lt_rm0 hdp rfl | exact lt_rm0 hun rfl | exact lt_rmB hdp rfl | exact lt_rmB hun rfl | exact lt_rmC hdp rfl | exact lt_rmC hun rfl | omega))
  k_with "my all" => (first | assumption | (refine tnAll (by assumption) ?_; omega) | (refine tnAll2 (by assumption) ?_; omega))
  k_with "my ne" => (first | (with_reducible assumption) | exact Ne.symm (by with_reducible assumption))
  k_with "enter" => (refine wpAny_call ?_; k_dflt (first
    | cell_enter
    | (refine' code_defC ?k1 ?k2 ?k3 ?k4 ?k5 ?kA ?kF ?kK ?k6 ?k7 ?k8 ?k9 ?kB ?kD ?_ ?c2 ?c3 ?c4; (case kA => exact rfl); (case kF => exact rfl); (case kK => assumption); (case k1 => k_asm); (case k2 => k_asm); (case k3 => k_asm); (case k4 => k_asm); (case k5 => k_asm); (case k6 => k_is); (case k7 => k_is); (case k8 => k_room); (case k9 => exact BindsTo.of_eq rfl); (case kB => exact rfl); (case kD => decide +kernel); (case c2 => exact rfl); (case c3 => exact rfl); (case c4 => exact rfl); k_whole; intro g' L' h' tk' cells' FG' F' N' Y' B' X' T' l1; (try k_lt l1); k_cells Y'; (try simp only [List.cons_append, List.nil_append] at N'); (try dsimp only); (try k_lift B'); (try k_fold))))
  k_with "my call builtin:max" => (k_here; k_dflt (refine max_three_f (by with_unfolding_all rfl) (by k_asm) (by k_asm) ?_); intro h9 tk9 t9 F9 N9; (try k_sweep))
  k_with "my call builtin:min" => (k_here; k_dflt (refine min_three_f (by with_unfolding_all rfl) (by k_asm) (by k_asm) ?_); intro h9 tk9 t9 F9 N9; (try k_sweep))
  k_with "my binaryOp Div float float" => (k_dflt (refine truediv_nz (by with_unfolding_all rfl) (by first | assumption | exact (hp1 (by assumption)).1 | exact (hp1 (by assumption)).2 | exact (hp3 (by assumption)).1 | exact (hp3 (by assumption)).2 | decide +kernel) ?_); intro v9 e9; (try dsimp only))
  k_with "my ite" => (k_dflt (refine ite_pos (hp2 (by assumption)) ?_))
  k_with "my ite" => (k_here; (with_reducible show (if (_ || _) = true then _ else _)); k_dflt (refine join2f (Str.ofString "s") (by k_asm) (by k_asm) ?_ ?_ ?_); (all_goals intros); (all_goals try dsimp only))
  intro loose mean mg mb dp un gd cn cs a ccd cl outer A₀ base h₀ L m0 s Q E hB hF hX hN hT hcs hpre hdp hun hret
  obtain ⟨⟨hp1, hp2⟩, hp3⟩ := hpre
  k_extra "enter"
  k_steps
  all_goals first | exact ⟨_, _, _, _, rfl, rfl, by assumption, by assumption⟩ | exact retF3y hret (by assumption) (by assumption) (by assumption) (allLt_of (by assumption))
def colStep (m a c : Int) : Int := if c = 32 then a + 1 else a + m - Int.fmod a m
def colL (m : Int) (cs : List Int) : Int := cs.foldl (colStep m) 0
def col (lead : Str) (m : Int) : Int := colL m (KStt.codes lead)
theorem colL_snoc (m : Int) (cs : List Int) (c : Int) : colL m (cs ++ [c]) = colStep m (colL m cs) c := by simp [colL]
theorem one_space (k : Nat) : (({ cps := #[k] } : Str) == Str.ofString " ") = decide (k = 32) := by
  rw [show Str.ofString " " = ({ cps := #[32] } : Str) from by decide +kernel]
  by_cases h : k = 32
  · subst h; decide
  · simp [h]
theorem fmod_bd {a m : Int} (hm : 0 < m) : 0 ≤ a.fmod m ∧ a.fmod m < m := ⟨Int.fmod_nonneg_of_pos a hm, Int.fmod_lt_of_pos a hm⟩
theorem col_st1 {a m : Int} {pre : List Int} {k : Nat} (h0 : 0 ≤ a) (h1 : a ≤ 100 * (pre.length : Int)) (h2 : a = colL m pre) (hc : (({ cps := #[k] } : Str) == Str.ofString " ") = true) :
    0 ≤ a + 1 ∧ a + 1 ≤ 100 * ((pre ++ [(k : Int)]).length : Int) ∧ a + 1 = colL m (pre ++ [(k : Int)]) := by
  rw [one_space, decide_eq_true_eq] at hc
  subst hc
  refine ⟨by omega, by simp; omega, ?_⟩
  rw [colL_snoc, ← h2]; rfl
theorem col_st2 {a m : Int} {pre : List Int} {k : Nat} (hm : 0 < m) (hm2 : m < 100) (h0 : 0 ≤ a) (h1 : a ≤ 100 * (pre.length : Int)) (h2 : a = colL m pre) (hc : (({ cps := #[k] } : Str) == Str.ofString " ") = false) :
    0 ≤ a + m - a.fmod m ∧ a + m - a.fmod m ≤ 100 * ((pre ++ [(k : Int)]).length : Int) ∧ a + m - a.fmod m = colL m (pre ++ [(k : Int)]) := by
  rw [one_space, decide_eq_false_iff_not] at hc
  have hb := fmod_bd (a := a) hm
  refine ⟨by omega, by simp; omega, ?_⟩
  rw [colL_snoc, ← h2]
  unfold colStep
  rw [if_neg (by omega)]
theorem c_col (w : World) (news : CbLed) (x : CbStr) (tx : CbTok) (m : Int) (tm : CbTok) :
    Clm w 232 [.str x tx, .int m tm] news (0 < m ∧ m < 100 ∧ x.cps.size < 1000) (RetV news (fun t => .int (col x m) t)) := by
  dsimp only [Clm, ClmD, MyProg, MyK]
  k_fill
  k_with_none
  k_with "my room" => ((try simp only [depth_under_make, depth_under_kw, depth_in1, depth_deeper, depth_caller]); show _ < 1000; (try dsimp only [ktrTop]); (first | exact lt_rm hdp rfl | exact lt_rm hun rfl | exact lt_rm0 hdp rfl | exact lt_rm0 hun rfl | exact lt_rmB hdp rfl | exact lt_rmB hun rfl | exact lt_rmC hdp rfl | exact lt_rmC hun rfl | omega))
  k_with "my all" => (refine tnAll (by assumption) ?_; omega)
  k_with "enter" => (refine wpAny_call ?_; k_dflt (first
    | cell_enter
    | (refine' code_defC ?k1 ?k2 ?k3 ?k4 ?k5 ?kA ?kF ?kK ?k6 ?k7 ?k8 ?k9 ?kB ?kD ?_ ?c2 ?c3 ?c4; (case kA => exact rfl); (case kF => exact rfl); (case kK => assumption); (case k1 => k_asm); (case k2 => k_asm); (case k3 => k_asm); (case k4 => k_asm); (case k5 => k_asm); (case k6 => k_is); (case k7 => k_is); (case k8 => k_room); (case k9 => exact BindsTo.of_eq rfl); (case kB => exact rfl); (case kD => decide +kernel); (case c2 => exact rfl); (case c3 => exact rfl); (case c4 => exact rfl); k_whole; intro g' L' h' tk' cells' FG' F' N' Y' B' X' T' l1; (try k_lt l1); k_cells Y'; (try simp only [List.cons_append, List.nil_append] at N'); (try dsimp only); (try k_lift B'); (try k_fold))))
  k_with "pyIter str" => (k_state (fun pre (at_ : Int) => 0 ≤ at_ ∧ at_ ≤ 100 * pre.length ∧ at_ = colL m pre) "at")
  k_with "state" => (first | exact col_st1 (by assumption) (by assumption) (by assumption) (by assumption) | exact col_st2 hp1 hp2 (by assumption) (by assumption) (by assumption) (by assumption))
  intro loose mean mg mb dp un gd cn cs a ccd cl outer A₀ base h₀ L m0 s Q E hB hF hX hN hT hcs hpre hdp hun hret
  refine aE3 hpre ?_; clear hpre; intro hp1 hp2 hp3
  k_extra "enter"
  k_steps
  all_goals first | exact retI hret (by assumption) (by assumption) (by assumption) (fun _ h => h)
def lead (c : Int) : Str := Txt.mul (Str.ofString " ") (c.fmod 3) ++ Txt.mul (Str.ofString "\t") ((c.fdiv 3).fmod 2) ++ Txt.mul (Str.ofString " ") ((c.fdiv 6).fmod 4)
theorem sp_is : Str.ofString " " = (⟨#[32]⟩ : Str) := by decide +kernel
theorem tb_is : Str.ofString "\t" = (⟨#[9]⟩ : Str) := by decide +kernel
theorem lead_sz1 (c : Int) : (Txt.mul (Str.ofString " ") (c.fmod 3)).length + (Txt.mul (Str.ofString "\t") ((c.fdiv 3).fmod 2)).length ≤ 5 := by
  have h1 := len_mul_one sp_is (n := c.fmod 3) (N := 3) (Int.le_of_lt (Int.fmod_lt_of_pos _ (by decide)))
  have h2 := len_mul_one tb_is (n := (c.fdiv 3).fmod 2) (N := 2) (Int.le_of_lt (Int.fmod_lt_of_pos _ (by decide)))
  omega
theorem lead_sz2 (c : Int) : (Txt.mul (Str.ofString " ") (c.fmod 3) ++ Txt.mul (Str.ofString "\t") ((c.fdiv 3).fmod 2)).length + (Txt.mul (Str.ofString " ") ((c.fdiv 6).fmod 4)).length ≤ 9 := by
  have h1 := lead_sz1 c
  have h2 := len_mul_one sp_is (n := (c.fdiv 6).fmod 4) (N := 4) (Int.le_of_lt (Int.fmod_lt_of_pos _ (by decide)))
  rw [Str.length_append]
  omega
theorem le_size {n k : Nat} (h : n ≤ k) (hk : Nat.ble k 1000000 = true) : n ≤ sizeLine := Nat.le_trans h (Nat.le_trans (Nat.le_of_ble_eq_true hk) (Nat.le_of_ble_eq_true (by decide +kernel)))
theorem c_lead (w : World) (news : CbLed) (c : Int) (tc : CbTok) :
    Clm w 225 [.int c tc] news (0 ≤ c ∧ c < 1152921504606846976) (RetV news (fun t => .str (lead c) t)) := by
  dsimp only [Clm, ClmD, MyProg, MyK]
  k_fill
  k_with_none
  k_with "my room" => ((try simp only [depth_under_make, depth_under_kw, depth_in1, depth_deeper, depth_caller]); show _ < 1000; (try dsimp only [ktrTop]); (first | exact lt_rm hdp rfl | exact lt_rm hun rfl | exact lt_rm0 hdp rfl | exact lt_rm0 hun rfl | exact lt_rmB hdp rfl | exact lt_rmB hun rfl | exact lt_rmC hdp rfl | exact lt_rmC hun rfl | omega))
  k_with "my all" => (refine tnAll (by assumption) ?_; omega)
  k_with "enter" => (refine wpAny_call ?_; k_dflt (first
    | cell_enter
    | (refine' code_defC ?k1 ?k2 ?k3 ?k4 ?k5 ?kA ?kF ?kK ?k6 ?k7 ?k8 ?k9 ?kB ?kD ?_ ?c2 ?c3 ?c4; (case kA => exact rfl); (case kF => exact rfl); (case kK => assumption); (case k1 => k_asm); (case k2 => k_asm); (case k3 => k_asm); (case k4 => k_asm); (case k5 => k_asm); (case k6 => k_is); (case k7 => k_is); (case k8 => k_room); (case k9 => exact BindsTo.of_eq rfl); (case kB => exact rfl); (case kD => decide +kernel); (case c2 => exact rfl); (case c3 => exact rfl); (case c4 => exact rfl); k_whole; intro g' L' h' tk' cells' FG' F' N' Y' B' X' T' l1; (try k_lt l1); k_cells Y'; (try simp only [List.cons_append, List.nil_append] at N'); (try dsimp only); (try k_lift B'); (try k_fold))))
  k_with "my binaryOp Add str str" => ((first | (k_dflt (refine PyProof.Rows.add_str ?_ (le_size (lead_sz1 c) rfl))) | (k_dflt (refine PyProof.Rows.add_str ?_ (le_size (lead_sz2 c) rfl)))); intro t9 tk9)
  intro loose mean mg mb dp un gd cn cs a ccd cl outer A₀ base h₀ L m0 s Q E hB hF hX hN hT hcs hpre hdp hun hret
  obtain ⟨hp1, hp2⟩ := hpre
  k_extra "enter"
  k_steps
  all_goals first | exact retS hret rfl (by assumption) (by assumption) (fun _ h => h)
def rkG (x y m e : Int) : List Int → Int → List Int := fun l k => if x + y - e < (x - k).fmod m then l ++ [k] else l
def rkEm (x y m e : Int) : Bool := decide ((rangeKs 0 (e + 1 - 0).toNat).foldl (rkG x y m e) [] = [])
def rkP (x y m r : Int) : Prop := 0 ≤ r ∧ r < 1000 ∧ (∀ e, 0 ≤ e → e < r → rkEm x y m e = true) ∧ rkEm x y m r = false
theorem rkG_grows (x y m e : Int) : KPfGrows (rkG x y m e) := by
  intro l k
  unfold rkG
  split <;> simp
theorem rk_next {x y m r e : Int} (h : rkP x y m r) (h0 : 0 ≤ e) (hr : e ≤ r) (hem : rkEm x y m e = true) : e < r := by
  rcases Int.lt_or_eq_of_le hr with h1 | h1
  · exact h1
  · subst h1; rw [h.2.2.2] at hem; cases hem
theorem rk_stop {x y m r e : Int} (h : rkP x y m r) (h0 : 0 ≤ e) (hr : e ≤ r) (hem : rkEm x y m e = false) : e = r := by
  rcases Int.lt_or_eq_of_le hr with h1 | h1
  · rw [h.2.2.1 e h0 h1] at hem; cases hem
  · exact h1
theorem c_rank (w : World) (news : CbLed) (r : Int) (x : Int) (tx : CbTok) (y : Int) (ty : CbTok) (m : Int) (tm : CbTok) :
    Clm w 242 [.int x tx, .int y ty, .int m tm] news (0 < m ∧ m < 100 ∧ -1000 < x ∧ x < 1000 ∧ -1000 < y ∧ y < 1000 ∧ rkP x y m r) (RetV news (fun t => .int (r - 1) t)) := by
  dsimp only [Clm, ClmD, MyProg, MyK]
  k_fill
  k_with_none
  k_with "my room" => ((try simp only [depth_under_make, depth_under_kw, depth_in1, depth_deeper, depth_caller]); show _ < 1000; (try dsimp only [ktrTop]); (first | exact lt_rm hdp rfl | exact lt_rm hun rfl | exact lt_rm0 hdp rfl | exact lt_rm0 hun rfl | exact lt_rmB hdp rfl | exact lt_rmB hun rfl | exact lt_rmC hdp rfl | exact lt_rmC hun rfl | omega))
  k_with "my all" => (first | assumption | (refine tnAll (by assumption) ?_; omega) | (refine tnAll2 (by assumption) ?_; omega))
  k_with "my ne" => (first | (with_reducible assumption) | exact Ne.symm (by with_reducible assumption))
  k_with "enter" => (refine wpAny_call ?_; k_dflt (first
    | cell_enter
    | (refine' code_defC ?k1 ?k2 ?k3 ?k4 ?k5 ?kA ?kF ?kK ?k6 ?k7 ?k8 ?k9 ?kB ?kD ?_ ?c2 ?c3 ?c4; (case kA => exact rfl); (case kF => exact rfl); (case kK => assumption); (case k1 => k_asm); (case k2 => k_asm); (case k3 => k_asm); (case k4 => k_asm); (case k5 => k_asm); (case k6 => k_is); (case k7 => k_is); (case k8 => k_room); (case k9 => exact BindsTo.of_eq rfl); (case kB => exact rfl); (case kD => decide +kernel); (case c2 => exact rfl); (case c3 => exact rfl); (case c4 => exact rfl); k_whole; intro g' L' h' tk' cells' FG' F' N' Y' B' X' T' l1; (try k_lt l1); k_cells Y'; (try simp only [List.cons_append, List.nil_append] at N'); (try dsimp only); (try k_lift B'); (try k_fold))))
  k_with "my exec While Compare cons nil" => (k_dflt (refine while_cell (fun e => 0 ≤ e ∧ e ≤ r) (fun e => (r - e).toNat) (by k_asm) (by k_asm) (by k_asm) (And.intro (by decide) hr1) ?_); intro e9 t9 o9 h9 tk9 hd9 hP9 F9 N9; (obtain ⟨hP1, hP2⟩ := hP9))
  k_with "my CompSrcT" => (k_here; k_dflt (refine LCt.CompSrcT.range (by rfl) (by k_asm) (by k_asm) (by assumption) (by exact small_one (by omega) (by omega) (by omega) (by omega)) (by first | exact rangeSize_nat _ _ | rfl) (by first | exact Nat.le_of_ble_eq_true rfl | (rw [PySem.sizeLine_eq]; omega)) ?_; intro g'; (refine' kci_range (rkG x y m e9) (fun k' t' I' oI' C' oC' D' m' ys' l' h' tk' E' hlo' hhi' hI' hC' hx' F' N' off' ne' mk' => ?_) ?_ (rkG_grows _ _ _ _)); rotate_left; unfold KPfDone; intro ys8 hI8 hlen8; (have hL8 := hI8.length); rotate_left; (try (simp only [LCg.Off3, and_true] at off'))))
  k_with "my CompEnd" => (k_here; k_dflt (refine LCg.CompEnd.intro (by assumption) (by assumption) _ (fun _ h => h) (by with_unfolding_all assumption) trivial ?_); k_dflt (first | exact kci_el (by unfold rkG; rw [if_pos (by assumption)]) rfl rfl | exact kci_no (by unfold rkG; rw [if_neg (by assumption)]) rfl | exact kci_no (by unfold rkG; rw [if_neg (by omega)]) rfl))
  intro loose mean mg mb dp un gd cn cs a ccd cl outer A₀ base h₀ L m0 s Q E hB hF hX hN hT hcs hpre hdp hun hret
  refine aE7 hpre ?_; clear hpre; intro hp1 hp2 hp3 hp4 hp5 hp6 hr
  have hr1 := hr.1
  have hr2 := hr.2.1
  k_extra "enter"
  k_steps
  · refine ⟨_, _, _, _, _, rfl, by k_asm, fun p hp => (by k_asm : News _ _ _ _) p (.tail _ (.tail _ hp)), by k_asm, ⟨by omega, ?_⟩, ?_⟩
    · have := rk_next hr hP1 hP2 (by assumption); omega
    · have := rk_next hr hP1 hP2 (by assumption); (show (r - (e9 + 1)).toNat < (r - e9).toNat); omega
  · refine retI hret (by have := rk_stop hr hP1 hP2 (by assumption); omega) (by k_asm) (by k_asm) (fun p hp => by repeat' (first | assumption | apply List.mem_cons_of_mem))
section
local macro_rules | `(tactic| k_updF) => `(tactic| assumption)
def digs (n : Int) : Nat → Int → List Int
  | 0, _ => []
  | 1, x => [x]
  | k + 2, x => Builtin.bitXor x (x.fdiv (2 ^ n.toNat) * 2 ^ n.toNat) :: digs n (k + 1) (x.fdiv (2 ^ n.toNat))
abbrev RetI2 (D : Addr) (kk : Nat) (rest : CbLed) (ds : List Int) : Heap → Addr → Frm → Shared → (Value → Shared → Prop) → Prop := fun h₀ L m s Q =>
  ∀ (vs' : List Value) (h' : Heap) (tk' : Nat), Fr h₀ L h' m → News h₀ L h' ((D, W.listOf vs'.toArray kk) :: rest) → IntsAre vs' ds → Q .none { s with heap := h', toks := tk' }
def InnerI (w : World) (D f : Addr) (o : Obj) (c : Addr) (oc : Obj) (c1 : Addr) (o1 : Obj) (c2 : Addr) (o2 : Obj) (c3 : Addr) (o3 : Obj) (n : Int) (fuel : Nat) : Prop :=
  ∀ (k : Nat) (base : CbLed) (x LL R : Int) (tx tl tr : CbTok) (vs : List Value) (kk : Nat) (p q r : List Int), 
    ClmD (890 - fuel) (4990 - 5 * fuel) w f [.int x tx, .int LL tl, .int R tr] ((D, W.listOf vs.toArray kk) :: (f, o) :: (c, oc) :: (c1, o1) :: (c2, o2) :: (c3, o3) :: base)
      (1 ≤ k ∧ k ≤ fuel ∧ fuel ≤ 3 ∧ 0 ≤ x ∧ x < 64 ∧ IntsAre vs (p ++ q ++ r) ∧ (p.length : Int) = LL ∧ q.length = k ∧ LL + k = R ∧ R ≤ 3 ∧ (∀ p ∈ base, p.1 ≠ D)) 
      (RetI2 D kk ((f, o) :: (c, oc) :: (c1, o1) :: (c2, o2) :: (c3, o3) :: base) (p ++ digs n k x ++ r))
theorem inner_have {w : World} {D f : Addr} {o : Obj} {c : Addr} {oc : Obj} {l : Addr} {ol : Obj} {c1 : Addr} {o1 : Obj} {c2 : Addr} {o2 : Obj} {c3 : Addr} {o3 : Obj} {n : Int} {base : CbLed} {h₀ h : Heap} {L : Addr} {oD : Obj} {G : Prop}
    (N : News h₀ L h ((f, o) :: (c, oc) :: (D, oD) :: (l, ol) :: (c3, o3) :: (c2, o2) :: (c1, o1) :: base)) (inn : ∀ fuel, InnerI w D f o c oc c1 o1 c2 o2 c3 o3 n fuel) (next : InnerI w D f o c oc c1 o1 c2 o2 c3 o3 n 3 → G) : G := next (inn 3)
theorem bx_all : ∀ i : Fin 64, ∀ j : Fin 8, 0 ≤ Builtin.bitXor (i.val : Int) ((i.val : Int).fdiv (2 ^ ((j.val : Int)).toNat) * 2 ^ ((j.val : Int)).toNat) ∧ Builtin.bitXor (i.val : Int) ((i.val : Int).fdiv (2 ^ ((j.val : Int)).toNat) * 2 ^ ((j.val : Int)).toNat) < 64 ∧ 0 ≤ (i.val : Int).fdiv (2 ^ ((j.val : Int)).toNat) ∧ (i.val : Int).fdiv (2 ^ ((j.val : Int)).toNat) < 64 := by decide +kernel
theorem bx_bnd {x n : Int} (h0 : 0 ≤ x) (h1 : x < 64) (h2 : 0 < n) (h3 : n < 8) : 0 ≤ Builtin.bitXor x (x.fdiv (2 ^ n.toNat) * 2 ^ n.toNat) ∧ Builtin.bitXor x (x.fdiv (2 ^ n.toNat) * 2 ^ n.toNat) < 64 ∧ 0 ≤ x.fdiv (2 ^ n.toNat) ∧ x.fdiv (2 ^ n.toNat) < 64 := by
  obtain ⟨i, rfl⟩ := Int.eq_ofNat_of_zero_le h0
  obtain ⟨j, rfl⟩ := Int.eq_ofNat_of_zero_le (Int.le_of_lt h2)
  exact bx_all ⟨i, by omega⟩ ⟨j, by omega⟩
theorem set_mid {p q r : List Int} {x : Int} {j : Nat} (hp : p.length = j) (hq : q.length = 1) : (p ++ q ++ r).set j x = p ++ [x] ++ r := by
  match q, hq with
  | [y], _ =>
    subst hp
    simp
theorem one_cons {q : List Int} {k : Nat} (h : q.length = k + 2) : ∃ a q', q = [a] ++ q' ∧ q'.length = k + 1 := by
  match q, h with
  | a :: q', h => exact ⟨a, q', rfl, by simpa using h⟩
theorem c_i2 (w : World) (news : CbLed) (d : Nat) (a : Int) (ta : CbTok) (n : Int) (tn : CbTok) :
    ClmD 880 4900 w 115 [.int a ta, .int n tn] news (0 ≤ a ∧ a < 64 ∧ 0 < n ∧ n < 8 ∧ Tabs news ∧ ((Builtin.Int.intBits a : Int) + n - 1).fdiv n = d ∧ d ≤ 3 ∧ (0 < a ↔ 0 < d)) (RetD news 110 Tabs (digs n d a)) := by
  dsimp only [Clm, ClmD, MyProg, MyK]
  k_fill
  k_with_none
  k_with "my room" => ((try simp only [depth_under_make, depth_under_kw, depth_in1, depth_deeper, depth_caller]); show _ < 1000; (try dsimp only [ktrTop]); (first | exact lt_rm hdp rfl | exact lt_rm hun rfl | exact lt_rm0 hdp rfl | exact lt_rm0 hun rfl | exact lt_rmB hdp rfl | exact lt_rmB hun rfl | exact lt_rmC hdp rfl | exact lt_rmC hun rfl | exact dpS hdp2 | exact unS hun2 (by assumption) | exact lt_rmS hdp2 rfl | exact lt_rmS hun2 rfl | omega))
  k_with "my all" => (first | (refine tnAll (by assumption) ?_; omega) | (refine tnAll2 (by assumption) ?_; omega))
  k_with "my ne" => (first | (with_reducible assumption) | exact Ne.symm (by with_reducible assumption))
  k_with "enter" => (refine wpAny_call ?_; k_dflt (first
    | cell_enter
    | (refine' code_defC ?k1 ?k2 ?k3 ?k4 ?k5 ?kA ?kF ?kK ?k6 ?k7 ?k8 ?k9 ?kB ?kD ?_ ?c2 ?c3 ?c4; (case kA => exact rfl); (case kF => exact rfl); (case kK => assumption); (case k1 => k_asm); (case k2 => k_asm); (case k3 => k_asm); (case k4 => k_asm); (case k5 => k_asm); (case k6 => k_is); (case k7 => k_is); (case k8 => k_room); (case k9 => exact BindsTo.of_eq rfl); (case kB => exact rfl); (case kD => decide +kernel); (case c2 => exact rfl); (case c3 => exact rfl); (case c4 => exact rfl); k_whole; intro g' L' h' tk' cells' FG' F' N' Y' B' X' T' l1; (try k_lt l1); k_cells Y'; (try simp only [List.cons_append, List.nil_append] at N'); (try dsimp only); (try k_lift B'); (try k_fold))))
  k_with "my all" => (first | assumption | (refine tnAll hnl ?_; omega) | (refine tnAll hbf ?_; omega))
  k_with "my binaryOp Mult ref int" => (rw [hD])
  k_with "my exec FunctionDef" => (k_here; k_dflt (refine nestDef_K rfl rfl rfl ?_); k_dflt (refine nest_any (front := [_, _, _, _, _]) (base := news) (by k_asm) (by with_unfolding_all assumption) (by k_asm) (by kn_code) rfl hT0.1 hT0.1.mem hT0.2.mem ?_ rfl ?_); (k_dflt (simp only [List.forall_mem_cons, List.forall_mem_nil]; refine ⟨fun p hp => ?_, fun p hp => ?_, fun p hp => ?_, fun p hp => ?_, fun p hp => ?_, fun _ h => nomatch h⟩ <;> exact Nat.lt_of_lt_of_le (hnl p hp) (by omega))); intro f9 c9 oc9 vs9 t9 ct9 dc9 h9 tk9 base9 F9 N9 hc9 hoc9 hvs9 hT9 hK9 hfr9 hff9 hbf; (replace N9 := news_dup N9 (List.mem_append_right _ hc9)); (simp only [List.cons_append, List.nil_append] at N9); (simp only [List.forall_mem_cons, List.forall_mem_nil] at hfr9); (k_lt hff9); refine aE6 hfr9 ?_; clear hfr9; intro hfa hfb hfc hfd hfe hff; (have hca := hfa _ hc9); (have hcb := hfb _ hc9); (have hcc := hfc _ hc9); (have hcd := hfd _ hc9); (have hce := hfe _ hc9); (have hcg : @LT.lt Nat _ _ _ := hbf _ hc9); (try dsimp only at hca hcb hcc hcd hce hcg))
  k_with "my storeName" => (first | rw [mid_eq (by omega) (by omega)] | rw [sh_eq])
  k_with "enter inner" => (refine' code_nest ?k1 ?k2 ?k3 ?k4 ?k5 ?kA ?kF ?kK ?k6 ?k7 ?k8 ?k9 ?kB ?_ ?c2 ?c3 ?c4 ?c5; (case kA => exact rfl); (case kF => exact rfl); (case kK => first | exact rfl | exact hcs2); (case k1 => k_asm); (case k2 => k_asm); (case k3 => k_asm); (case k4 => k_asm); (case k5 => k_asm); (case k6 => k_mem); (case k7 => exact codeRec_news (by k_asm) (by k_mem) (by assumption) (by assumption)); (case k8 => k_room); (case k9 => exact BindsTo.of_eq rfl); (case c5 => decide); (case kB => exact locs rfl); (case c2 => first | exact rfl | assumption); (case c3 => first | exact rfl | assumption); (case c4 => first | exact rfl | assumption); k_whole; intro g' L' h' FG' F' N' B' X' T'; (try dsimp only); (try k_lift B'); (try k_fold))
  k_with "my call ref" => (refine hold ?_)
  intro loose mean mg mb dp un gd cn cs a ccd cl outer A₀ base h₀ L m0 s Q E hB hF hX hN hT hcs hpre hdp hun hret
  refine aE8 hpre ?_; clear hpre; intro hp1 hp2 hp3 hp4 hT0 hD hp5 hp6
  k_extra "enter"
  (rename Frag.In _ g' => hX9)
  have codeHd1 := codeHd_of_K (c := 114) (P := 110) hX9 (by kernel_rfl)
  have hnl := l1
  k_steps
  · unfold Hold
    refine inner_have (w := w) (n := n) (by with_unfolding_all assumption) ?_ (fun hin => ?_)
    · intro fuel
      induction fuel with
      | zero => (intro k base x LL R tx tl tr vs kk p q r; dsimp only [ClmD]; intro loose2 mean2 mg2 mb2 dp2 un2 gd2 cn2 cs2 a2 ccd2 cl2 outer2 A₂ base2 hh2 L2 m2 s2 Q2 E2 hB2 hF2 hX2 hN2 hT2 hcs2 hpre2 hdp2 hun2 hret2; exfalso; have e1 := hpre2.1; have e2 := hpre2.2.1; omega)
      | succ fu ih =>
        intro k base x LL R tx tl tr vs kk p q r
        dsimp only [ClmD, MyProg, MyK]
        intro loose2 mean2 mg2 mb2 dp2 un2 gd2 cn2 cs2 a2 ccd2 cl2 outer2 A₂ base2 hh2 L2 m2 s2 Q2 E2 hB2 hF2 hX2 hN2 hT2 hcs2 hpre2 hdp2 hun2 hret2
        refine aE11 hpre2 ?_; clear hpre2; intro hq1 hq2 hq3 hq4 hq5 hq6 hq7 hq8 hq9 hq10 hq11
        have hlen : (p ++ q ++ r).length = p.length + q.length + r.length := by simp only [List.length_append]
        refine wpAny_call ?_
        k_extra "enter inner"
        k_steps
        · obtain rfl : k = 1 := by omega
          rename IntsAre _ (List.set _ _ _) => hi9
          rw [set_mid (by omega) hq8] at hi9
          exact hret2 _ _ _ (by k_asm) (by k_asm) hi9
        · unfold Hold
          obtain ⟨k2, rfl⟩ := two_of hq1 hq9 (by assumption)
          obtain ⟨q0, q1, rfl, hq1l⟩ := one_cons hq8
          refine ih 1 base _ LL _ _ _ _ vs kk p [q0] (q1 ++ r) _ _ _ _ _ _ _ _ _ _ _ _ _ _ _ _ _ _ _ _ _ (by k_asm) (by k_asm) (by k_asm) (by k_asm) (by k_asm) (by first | rfl | assumption) (⟨by omega, by omega, by omega, ?_, ?_, by simpa [List.append_assoc] using hq6, hq7, rfl, by omega, by omega, hq11⟩) (by (try simp only [depth_under_make, depth_under_kw, depth_in1, depth_deeper, depth_caller]); show _ < _; (try dsimp only [ktrTop]); (first | exact lt_rm hdp rfl | exact lt_rm hun rfl | exact lt_rm0 hdp rfl | exact lt_rm0 hun rfl | exact lt_rmB hdp rfl | exact lt_rmB hun rfl | exact lt_rmC hdp rfl | exact lt_rmC hun rfl | exact dpS hdp2 | exact unS hun2 (by assumption) | exact lt_rmS hdp2 rfl | exact lt_rmS hun2 rfl | omega)) (by (try simp only [units_under_make, units_under_kw, units_in1, units_deeper, units_caller]); show _ < _; (try dsimp only [ktrTop]); (first | exact lt_rm hdp rfl | exact lt_rm hun rfl | exact lt_rm0 hdp rfl | exact lt_rm0 hun rfl | exact lt_rmB hdp rfl | exact lt_rmB hun rfl | exact lt_rmC hdp rfl | exact lt_rmC hun rfl | exact dpS hdp2 | exact unS hun2 (by assumption) | exact lt_rmS hdp2 rfl | exact lt_rmS hun2 rfl | omega)) ?_
          · exact (bx_bnd hq4 hq5 hp3 hp4).1
          · exact (bx_bnd hq4 hq5 hp3 hp4).2.1
          · intro vs3 h3 tk3 F3 N3 I3
            k_steps
            unfold Hold
            refine ih (k2 + 1) base _ (LL + 1) _ _ _ _ vs3 kk (p ++ digs n 1 (Builtin.bitXor x (x.fdiv (2 ^ n.toNat) * 2 ^ n.toNat))) q1 r _ _ _ _ _ _ _ _ _ _ _ _ _ _ _ _ _ _ _ _ _ (by k_asm) (by k_asm) (by k_asm) (by k_asm) (by k_asm) (by first | rfl | assumption) (⟨by omega, by omega, by omega, (bx_bnd hq4 hq5 hp3 hp4).2.2.1, (bx_bnd hq4 hq5 hp3 hp4).2.2.2, by simpa [List.append_assoc] using I3, by simp [digs]; omega, hq1l, by omega, by omega, hq11⟩) (by (try simp only [depth_under_make, depth_under_kw, depth_in1, depth_deeper, depth_caller]); show _ < _; (try dsimp only [ktrTop]); (first | exact lt_rm hdp rfl | exact lt_rm hun rfl | exact lt_rm0 hdp rfl | exact lt_rm0 hun rfl | exact lt_rmB hdp rfl | exact lt_rmB hun rfl | exact lt_rmC hdp rfl | exact lt_rmC hun rfl | exact dpS hdp2 | exact unS hun2 (by assumption) | exact lt_rmS hdp2 rfl | exact lt_rmS hun2 rfl | omega)) (by (try simp only [units_under_make, units_under_kw, units_in1, units_deeper, units_caller]); show _ < _; (try dsimp only [ktrTop]); (first | exact lt_rm hdp rfl | exact lt_rm hun rfl | exact lt_rm0 hdp rfl | exact lt_rm0 hun rfl | exact lt_rmB hdp rfl | exact lt_rmB hun rfl | exact lt_rmC hdp rfl | exact lt_rmC hun rfl | exact dpS hdp2 | exact unS hun2 (by assumption) | exact lt_rmS hdp2 rfl | exact lt_rmS hun2 rfl | omega)) ?_
            intro vs4 h4 tk4 F4 N4 I4
            k_steps
            exact hret2 _ _ _ (by k_asm) (by k_asm) (by simpa [digs, List.append_assoc] using I4)
    · rename IntsAre _ (List.flatten _) => hi9
      have hd0 : 1 ≤ d := by have := hp6.mp (by omega); omega
      refine hin d base9 _ _ _ _ _ _ _ _ [] (List.replicate (d : Int).toNat [(0 : Int)]).flatten [] _ _ _ _ _ _ _ _ _ _ _ _ _ _ _ _ _ _ _ _ _ (by k_asm) (by k_asm) (by k_asm) (cb_drop (by k_asm) (by simp only [List.forall_mem_cons]; exact ⟨by k_mem, by k_mem, by k_mem, by k_mem, by k_mem, by k_mem, fun p hp => by repeat' (first | assumption | apply List.mem_cons_of_mem)⟩)) (by k_asm) (by first | rfl | assumption) (⟨hd0, hp5, by omega, hp1, hp2, by simpa using hi9, rfl, by omega, by omega, by omega, hfa⟩) (by (try simp only [depth_under_make, depth_under_kw, depth_in1, depth_deeper, depth_caller]); show _ < _; (try dsimp only [ktrTop]); (first | exact lt_rm hdp rfl | exact lt_rm hun rfl | exact lt_rm0 hdp rfl | exact lt_rm0 hun rfl | exact lt_rmB hdp rfl | exact lt_rmB hun rfl | exact lt_rmC hdp rfl | exact lt_rmC hun rfl | exact dpS hdp2 | exact unS hun2 (by assumption) | exact lt_rmS hdp2 rfl | exact lt_rmS hun2 rfl | omega)) (by (try simp only [units_under_make, units_under_kw, units_in1, units_deeper, units_caller]); show _ < _; (try dsimp only [ktrTop]); (first | exact lt_rm hdp rfl | exact lt_rm hun rfl | exact lt_rm0 hdp rfl | exact lt_rm0 hun rfl | exact lt_rmB hdp rfl | exact lt_rmB hun rfl | exact lt_rmC hdp rfl | exact lt_rmC hun rfl | exact dpS hdp2 | exact unS hun2 (by assumption) | exact lt_rmS hdp2 rfl | exact lt_rmS hun2 rfl | omega)) ?_
      intro vs3 h3 tk3 F3 N3 I3
      k_steps
      refine retD (base' := base9) hret (by k_asm) (by k_asm) (by k_mem) (fun p hp => by repeat' (first | assumption | apply List.mem_cons_of_mem)) (by assumption) ?_ (hT0.of110 hK9 hT9) hK9 hfa
      simp
  · obtain rfl : d = 0 := by omega
    refine retD (base' := base9) hret (by k_asm) (by k_asm) (by k_mem) (fun p hp => by repeat' (first | assumption | apply List.mem_cons_of_mem)) (by assumption) ?_ (hT0.of110 hK9 hT9) hK9 hfa
    simp [digs]
end
section
local macro_rules | `(tactic| k_updF) => `(tactic| assumption)
abbrev RetV2 (rest : CbLed) (k : Nat) : Heap → Addr → Frm → Shared → (Value → Shared → Prop) → Prop := fun h₀ L m s Q =>
  ∀ (v : Int) (t : Tok) (h' : Heap) (tk' : Nat), Fr h₀ L h' m → News h₀ L h' rest → 0 ≤ v → v < 256 ^ k → Q (.int v t) { s with heap := h', toks := tk' }
def InnerV (w : World) (f : Addr) (o : Obj) (c : Addr) (oc : Obj) (D : Addr) (oD : Obj) (c1 : Addr) (o1 : Obj) (c2 : Addr) (o2 : Obj) (c3 : Addr) (o3 : Obj) (ds : List Int) (fuel : Nat) : Prop :=
  ∀ (k : Nat) (base : CbLed) (LL R : Int) (tl tr : CbTok), 
    ClmD (890 - fuel) (4990 - 5 * fuel) w f [.int LL tl, .int R tr] ((f, o) :: (c, oc) :: (D, oD) :: (c1, o1) :: (c2, o2) :: (c3, o3) :: base)
      (1 ≤ k ∧ k ≤ fuel ∧ fuel ≤ 3 ∧ 0 ≤ LL ∧ LL + k = R ∧ R ≤ ds.length ∧ ds.length ≤ 3) 
      (RetV2 ((f, o) :: (c, oc) :: (D, oD) :: (c1, o1) :: (c2, o2) :: (c3, o3) :: base) k)
theorem innerv_have {w : World} {D f : Addr} {o : Obj} {c : Addr} {oc : Obj} {c1 : Addr} {o1 : Obj} {c2 : Addr} {o2 : Obj} {c3 : Addr} {o3 : Obj} {base : CbLed} {h₀ h : Heap} {L : Addr} {oD : Obj} {G : Prop} (ds : List Int)
    (N : News h₀ L h ((f, o) :: (c, oc) :: (D, oD) :: (c3, o3) :: (c2, o2) :: (c1, o1) :: base)) (inn : ∀ fuel, InnerV w f o c oc D oD c1 o1 c2 o2 c3 o3 ds fuel) (next : InnerV w f o c oc D oD c1 o1 c2 o2 c3 o3 ds 3 → G) : G := next (inn 3)
theorem getD_bnd {ds : List Int} (h : ∀ d ∈ ds, 0 ≤ d ∧ d < 256) (j : Nat) : 0 ≤ ds.getD j 0 ∧ ds.getD j 0 < 256 := by
  rw [List.getD_eq_getElem?_getD]
  cases e : ds[j]? with
  | none => exact ⟨Int.le_refl _, by decide⟩
  | some v => exact h v (List.mem_of_getElem? e)
theorem v_bnd {v : Int} {k : Nat} (h1 : v < 256 ^ (k + 1)) (hk : k ≤ 1) : v < 65536 := by
  rcases Nat.le_one_iff_eq_zero_or_eq_one.mp hk with rfl | rfl <;> simp at h1 <;> omega
theorem pw_bnd : ∀ j : Fin 8, (0 : Int) ≤ 2 ^ j.val ∧ (2 : Int) ^ j.val ≤ 128 := by decide
theorem sh_bnd {v n w : Int} {k : Nat} (h0 : 0 ≤ v) (h1 : v < 256 ^ (k + 1)) (hk : k ≤ 1) (n0 : 0 < n) (n1 : n < 8) (w0 : 0 ≤ w) (w1 : w < 256 ^ 1) : 0 ≤ v * 2 ^ n.toNat + w ∧ v * 2 ^ n.toNat + w < 256 ^ (k + 2) := by
  obtain ⟨j, rfl⟩ := Int.eq_ofNat_of_zero_le (Int.le_of_lt n0)
  have hP := pw_bnd ⟨j, by omega⟩
  have h3 := Int.mul_nonneg h0 hP.1
  have e : (j : Int).toNat = j := rfl
  rw [e]
  rcases Nat.le_one_iff_eq_zero_or_eq_one.mp hk with rfl | rfl
  · have h4 := Int.mul_le_mul (Int.le_sub_one_of_lt h1) hP.2 hP.1 (by decide)
    simp at h1 w1 h4 h3 ⊢
    omega
  · have h4 := Int.mul_le_mul (Int.le_sub_one_of_lt h1) hP.2 hP.1 (by decide)
    simp at h1 w1 h4 h3 ⊢
    omega
theorem w_bnd {v : Int} {k : Nat} (h1 : v < 256 ^ k) (hk : k ≤ 3) : v < 16777216 := by
  have hj : k = 0 ∨ k = 1 ∨ k = 2 ∨ k = 3 := by omega
  rcases hj with rfl | rfl | rfl | rfl <;> simp at h1 <;> omega
theorem c_d2i (w : World) (news : CbLed) (D : Addr) (vs : List Value) (kk : Nat) (ds : List Int) (n : Int) (tn : CbTok) :
    ClmD 880 4900 w 122 [.ref D, .int n tn] ((D, W.listOf vs.toArray kk) :: news) (0 < n ∧ n < 8 ∧ D ≠ 117 ∧ Tabs news ∧ IntsAre vs ds ∧ ds.length ≤ 3 ∧ (∀ d ∈ ds, 0 ≤ d ∧ d < 256)) (RetQ ((D, W.listOf vs.toArray kk) :: news) 117 Tabs) := by
  dsimp only [Clm, ClmD, MyProg, MyK]
  k_fill
  k_with_none
  k_with "my room" => ((try simp only [depth_under_make, depth_under_kw, depth_in1, depth_deeper, depth_caller]); show _ < 1000; (try dsimp only [ktrTop]); (first | exact lt_rm hdp rfl | exact lt_rm hun rfl | exact lt_rm0 hdp rfl | exact lt_rm0 hun rfl | exact lt_rmB hdp rfl | exact lt_rmB hun rfl | exact lt_rmC hdp rfl | exact lt_rmC hun rfl | exact dpS hdp2 | exact unS hun2 (by assumption) | exact lt_rmS hdp2 rfl | exact lt_rmS hun2 rfl | omega))
  k_with "my all" => (first | (refine tnAll (by assumption) ?_; omega) | (refine tnAll2 (by assumption) ?_; omega))
  k_with "my ne" => (first | (with_reducible assumption) | exact Ne.symm (by with_reducible assumption))
  k_with "enter" => (refine wpAny_call ?_; k_dflt (first
    | cell_enter
    | (refine' code_defC ?k1 ?k2 ?k3 ?k4 ?k5 ?kA ?kF ?kK ?k6 ?k7 ?k8 ?k9 ?kB ?kD ?_ ?c2 ?c3 ?c4; (case kA => exact rfl); (case kF => exact rfl); (case kK => assumption); (case k1 => k_asm); (case k2 => k_asm); (case k3 => k_asm); (case k4 => k_asm); (case k5 => k_asm); (case k6 => k_is); (case k7 => k_is); (case k8 => k_room); (case k9 => exact BindsTo.of_eq rfl); (case kB => exact rfl); (case kD => decide +kernel); (case c2 => exact rfl); (case c3 => exact rfl); (case c4 => exact rfl); k_whole; intro g' L' h' tk' cells' FG' F' N' Y' B' X' T' l1; (try k_lt l1); k_cells Y'; (try simp only [List.cons_append, List.nil_append] at N'); (try dsimp only); (try k_lift B'); (try k_fold))))
  k_with "my all" => (first | assumption | (refine tnAll hnl ?_; omega) | (refine tnAll hbf ?_; omega))
  k_with "my exec FunctionDef" => (k_here; k_dflt (refine nestDef_K rfl rfl rfl ?_); k_dflt (refine nest_any (front := [_, _, _]) (base := (D, W.listOf vs.toArray kk) :: news) (by k_asm) (by with_unfolding_all assumption) (by k_asm) (by kn_code) rfl hT1.2 hT1.1.mem hT1.2.mem ?_ rfl ?_); (k_dflt (intro q8 hq8 p8 hp8; simp only [List.mem_cons, List.not_mem_nil, or_false] at hq8; rcases hq8 with rfl | rfl | rfl <;> exact Nat.lt_of_lt_of_le (hnl p8 hp8) (by omega))); intro f9 c9 oc9 vs9 t9 ct9 dc9 h9 tk9 base9 F9 N9 hc9 hoc9 hvs9 hT9 hK9 hfr9 hff9 hbf; (have hD9 := hK9 _ (.head _) hp3); (replace N9 := news_dup (news_dup N9 (List.mem_append_right _ hD9)) (.tail _ (List.mem_append_right _ hc9))); (simp only [List.cons_append, List.nil_append] at N9); (simp only [List.forall_mem_cons, List.forall_mem_nil] at hfr9); (k_lt hff9); refine aE4 hfr9 ?_; clear hfr9; intro hfa hfb hfc hff; (have hca := hfa _ hc9); (have hcb := hfb _ hc9); (have hcc := hfc _ hc9); (have hcg : @LT.lt Nat _ _ _ := hbf _ hc9); (try dsimp only at hca hcb hcc hcg))
  k_with "my storeName" => (first | rw [mid_eq (by omega) (by omega)] | rw [sh_eq])
  k_with "enter inner" => (refine' code_nest ?k1 ?k2 ?k3 ?k4 ?k5 ?kA ?kF ?kK ?k6 ?k7 ?k8 ?k9 ?kB ?_ ?c2 ?c3 ?c4 ?c5; (case kA => exact rfl); (case kF => exact rfl); (case kK => first | exact rfl | exact hcs2); (case k1 => k_asm); (case k2 => k_asm); (case k3 => k_asm); (case k4 => k_asm); (case k5 => k_asm); (case k6 => k_mem); (case k7 => exact codeRec_news (by k_asm) (by k_mem) (by assumption) (by assumption)); (case k8 => k_room); (case k9 => exact BindsTo.of_eq rfl); (case c5 => decide); (case kB => exact locs rfl); (case c2 => first | exact rfl | assumption); (case c3 => first | exact rfl | assumption); (case c4 => first | exact rfl | assumption); k_whole; intro g' L' h' FG' F' N' B' X' T'; (try dsimp only); (try k_lift B'); (try k_fold))
  k_with "my call ref" => (refine hold ?_)
  intro loose mean mg mb dp un gd cn cs a ccd cl outer A₀ base h₀ L m0 s Q E hB hF hX hN hT hcs hpre hdp hun hret
  refine aE7 hpre ?_; clear hpre; intro hp1 hp2 hp3 hT0 hi0 hp5 hp6
  have hT1 := Tabs.cons (p := (D, W.listOf vs.toArray kk)) hT0
  k_extra "enter"
  (rename Frag.In _ g' => hX9)
  have codeHd1 := codeHd_of_K (c := 121) (P := 117) hX9 (by kernel_rfl)
  have hnl := kst_ltOf (l := (D, W.listOf vs.toArray kk) :: news) l1
  k_steps
  · unfold Hold
    refine innerv_have (w := w) ds (by with_unfolding_all assumption) ?_ (fun hin => ?_)
    · intro fuel
      induction fuel with
      | zero => (intro k base LL R tl tr; dsimp only [ClmD]; intro loose2 mean2 mg2 mb2 dp2 un2 gd2 cn2 cs2 a2 ccd2 cl2 outer2 A₂ base2 hh2 L2 m2 s2 Q2 E2 hB2 hF2 hX2 hN2 hT2 hcs2 hpre2 hdp2 hun2 hret2; exfalso; have e1 := hpre2.1; have e2 := hpre2.2.1; omega)
      | succ fu ih =>
        intro k base LL R tl tr
        dsimp only [ClmD, MyProg, MyK]
        intro loose2 mean2 mg2 mb2 dp2 un2 gd2 cn2 cs2 a2 ccd2 cl2 outer2 A₂ base2 hh2 L2 m2 s2 Q2 E2 hB2 hF2 hX2 hN2 hT2 hcs2 hpre2 hdp2 hun2 hret2
        refine aE7 hpre2 ?_; clear hpre2; intro hq1 hq2 hq3 hq4 hq5 hq6 hq7
        refine wpAny_call ?_
        k_extra "enter inner"
        k_steps
        · obtain rfl : k = 1 := by omega
          exact hret2 _ _ _ _ (by k_asm) (by k_asm) (getD_bnd hp6 _).1 (getD_bnd hp6 _).2
        · unfold Hold
          obtain ⟨k2, rfl⟩ := two_of hq1 hq5 (by assumption)
          refine ih (k2 + 1) base (LL + 1) R _ _ _ _ _ _ _ _ _ _ _ _ _ _ _ _ _ _ _ _ _ _ _ (by k_asm) (by k_asm) (by k_asm) (by k_asm) (by k_asm) (by first | rfl | assumption) (⟨by omega, by omega, by omega, by omega, by omega, hq6, hq7⟩) (by (try simp only [depth_under_make, depth_under_kw, depth_in1, depth_deeper, depth_caller]); show _ < _; (try dsimp only [ktrTop]); (first | exact lt_rm hdp rfl | exact lt_rm hun rfl | exact lt_rm0 hdp rfl | exact lt_rm0 hun rfl | exact lt_rmB hdp rfl | exact lt_rmB hun rfl | exact lt_rmC hdp rfl | exact lt_rmC hun rfl | exact dpS hdp2 | exact unS hun2 (by assumption) | exact lt_rmS hdp2 rfl | exact lt_rmS hun2 rfl | omega)) (by (try simp only [units_under_make, units_under_kw, units_in1, units_deeper, units_caller]); show _ < _; (try dsimp only [ktrTop]); (first | exact lt_rm hdp rfl | exact lt_rm hun rfl | exact lt_rm0 hdp rfl | exact lt_rm0 hun rfl | exact lt_rmB hdp rfl | exact lt_rmB hun rfl | exact lt_rmC hdp rfl | exact lt_rmC hun rfl | exact dpS hdp2 | exact unS hun2 (by assumption) | exact lt_rmS hdp2 rfl | exact lt_rmS hun2 rfl | omega)) ?_
          intro v3 t3 h3 tk3 F3 N3 b1 b2
          have b3 := v_bnd b2 (by omega)
          k_steps
          unfold Hold
          refine ih 1 base LL (LL + 1) _ _ _ _ _ _ _ _ _ _ _ _ _ _ _ _ _ _ _ _ _ _ _ (by k_asm) (by k_asm) (by k_asm) (by k_asm) (by k_asm) (by first | rfl | assumption) (⟨by omega, by omega, by omega, by omega, rfl, by omega, hq7⟩) (by (try simp only [depth_under_make, depth_under_kw, depth_in1, depth_deeper, depth_caller]); show _ < _; (try dsimp only [ktrTop]); (first | exact lt_rm hdp rfl | exact lt_rm hun rfl | exact lt_rm0 hdp rfl | exact lt_rm0 hun rfl | exact lt_rmB hdp rfl | exact lt_rmB hun rfl | exact lt_rmC hdp rfl | exact lt_rmC hun rfl | exact dpS hdp2 | exact unS hun2 (by assumption) | exact lt_rmS hdp2 rfl | exact lt_rmS hun2 rfl | omega)) (by (try simp only [units_under_make, units_under_kw, units_in1, units_deeper, units_caller]); show _ < _; (try dsimp only [ktrTop]); (first | exact lt_rm hdp rfl | exact lt_rm hun rfl | exact lt_rm0 hdp rfl | exact lt_rm0 hun rfl | exact lt_rmB hdp rfl | exact lt_rmB hun rfl | exact lt_rmC hdp rfl | exact lt_rmC hun rfl | exact dpS hdp2 | exact unS hun2 (by assumption) | exact lt_rmS hdp2 rfl | exact lt_rmS hun2 rfl | omega)) ?_
          intro v4 t4 h4 tk4 F4 N4 b4 b5
          k_steps
          have b6 := sh_bnd b1 b2 (by omega) hp1 hp2 b4 b5
          exact hret2 _ _ _ _ (by k_asm) (by k_asm) b6.1 b6.2
    · refine hin ds.length base9 _ _ _ _ _ _ _ _ _ _ _ _ _ _ _ _ _ _ _ _ _ _ _ _ _ (by k_asm) (by k_asm) (by k_asm) (cb_drop (by k_asm) (by simp only [List.forall_mem_cons]; exact ⟨by k_mem, by k_mem, by k_mem, by k_mem, by k_mem, by k_mem, fun p hp => by repeat' (first | assumption | apply List.mem_cons_of_mem)⟩)) (by k_asm) (by first | rfl | assumption) (⟨by omega, by omega, by omega, by omega, by omega, by omega, hp5⟩) (by (try simp only [depth_under_make, depth_under_kw, depth_in1, depth_deeper, depth_caller]); show _ < _; (try dsimp only [ktrTop]); (first | exact lt_rm hdp rfl | exact lt_rm hun rfl | exact lt_rm0 hdp rfl | exact lt_rm0 hun rfl | exact lt_rmB hdp rfl | exact lt_rmB hun rfl | exact lt_rmC hdp rfl | exact lt_rmC hun rfl | exact dpS hdp2 | exact unS hun2 (by assumption) | exact lt_rmS hdp2 rfl | exact lt_rmS hun2 rfl | omega)) (by (try simp only [units_under_make, units_under_kw, units_in1, units_deeper, units_caller]); show _ < _; (try dsimp only [ktrTop]); (first | exact lt_rm hdp rfl | exact lt_rm hun rfl | exact lt_rm0 hdp rfl | exact lt_rm0 hun rfl | exact lt_rmB hdp rfl | exact lt_rmB hun rfl | exact lt_rmC hdp rfl | exact lt_rmC hun rfl | exact dpS hdp2 | exact unS hun2 (by assumption) | exact lt_rmS hdp2 rfl | exact lt_rmS hun2 rfl | omega)) ?_
      intro v3 t3 h3 tk3 F3 N3 b1 b2
      have b7 := w_bnd b2 hp5
      k_steps
      exact hret _ _ base9 _ _ (by k_asm) (cb_drop (by k_asm) (fun p hp => by repeat' (first | assumption | apply List.mem_cons_of_mem))) b1 b7 (hT1.of117 hK9 hT9) hK9
  exact hret _ _ base9 _ _ (by k_asm) (cb_drop (by k_asm) (fun p hp => by repeat' (first | assumption | apply List.mem_cons_of_mem))) (by decide) (by decide) (hT1.of117 hK9 hT9) hK9
end
abbrev RetT3 (news : CbLed) (a b : Int) : Heap → Addr → Frm → Shared → (Value → Shared → Prop) → Prop := fun h₀ L m s Q =>
  ∀ (D : Addr) (q r : Int) (t1 t2 : Tok) (h' : Heap) (tk' : Nat), r = a.fmod b → 0 ≤ r → r < b → 0 ≤ q → q < 256 → Fr h₀ L h' m → News h₀ L h' ((D, tupO #[.int q t1, .int r t2]) :: news) → AllLt D news → Q (.ref D) { s with heap := h', toks := tk' }
theorem bits_all : ∀ i : Fin 256, Builtin.Int.intBits (i.val : Int) ≤ 8 := by decide +kernel
theorem bits_le {x : Int} (h0 : 0 ≤ x) (h1 : x < 256) : Builtin.Int.intBits x ≤ 8 := by
  obtain ⟨i, rfl⟩ := Int.eq_ofNat_of_zero_le h0
  exact bits_all ⟨i, by omega⟩
theorem fm_bnd {a b : Int} (hb : 0 < b) : 0 ≤ a.fmod b ∧ a.fmod b < b := ⟨Int.fmod_nonneg_of_pos a hb, Int.fmod_lt_of_pos a hb⟩
theorem fd_bnd {a b : Int} (h0 : 0 ≤ a) (h1 : a < 256) (hb : 0 < b) : 0 ≤ a.fdiv b ∧ a.fdiv b < 256 := by
  rw [Int.fdiv_eq_ediv_of_nonneg _ (Int.le_of_lt hb)]
  exact ⟨Int.ediv_nonneg h0 (Int.le_of_lt hb), Int.lt_of_le_of_lt (Int.ediv_le_self _ h0) h1⟩
theorem c_d2 (w : World) (news : CbLed) (a : Int) (ta : CbTok) (b : Int) (tb : CbTok) (n : Int) (tn : CbTok) :
    ClmD 890 4950 w 101 [.int a ta, .int b tb, .int n tn] news (0 ≤ a ∧ a < 256 ∧ 0 < b ∧ b < 256 ∧ 0 < n ∧ n < 9) (RetT3 news a b) := by
  dsimp only [Clm, ClmD, MyProg, MyK]
  k_fill
  k_with_none
  k_with "my room" => ((try simp only [depth_under_make, depth_under_kw, depth_in1, depth_deeper, depth_caller]); show _ < 1000; (try dsimp only [ktrTop]); (first | exact lt_rm hdp rfl | exact lt_rm hun rfl | exact lt_rm0 hdp rfl | exact lt_rm0 hun rfl | exact lt_rmB hdp rfl | exact lt_rmB hun rfl | exact lt_rmC hdp rfl | exact lt_rmC hun rfl | omega))
  k_with "my all" => (refine tnAll (by assumption) ?_; omega)
  k_with "my ne" => (first | (with_reducible assumption) | exact Ne.symm (by with_reducible assumption))
  k_with "enter" => (refine wpAny_call ?_; k_dflt (first
    | cell_enter
    | (refine' code_defC ?k1 ?k2 ?k3 ?k4 ?k5 ?kA ?kF ?kK ?k6 ?k7 ?k8 ?k9 ?kB ?kD ?_ ?c2 ?c3 ?c4; (case kA => exact rfl); (case kF => exact rfl); (case kK => assumption); (case k1 => k_asm); (case k2 => k_asm); (case k3 => k_asm); (case k4 => k_asm); (case k5 => k_asm); (case k6 => k_is); (case k7 => k_is); (case k8 => k_room); (case k9 => exact BindsTo.of_eq rfl); (case kB => exact rfl); (case kD => decide +kernel); (case c2 => exact rfl); (case c3 => exact rfl); (case c4 => exact rfl); k_whole; intro g' L' h' tk' cells' FG' F' N' Y' B' X' T' l1; (try k_lt l1); k_cells Y'; (try simp only [List.cons_append, List.nil_append] at N'); (try dsimp only); (try k_lift B'); (try k_fold))))
  intro loose mean mg mb dp un gd cn cs a ccd cl outer A₀ base h₀ L m0 s Q E hB hF hX hN hT hcs hpre hdp hun hret
  refine aE6 hpre ?_; clear hpre; intro hp1 hp2 hp3 hp4 hp5 hp6
  have hp7 := bits_le hp1 hp2
  k_extra "enter"
  k_steps
  exact hret _ _ _ _ _ _ _ rfl (fm_bnd hp3).1 (fm_bnd hp3).2 (fd_bnd hp1 hp2 hp3).1 (fd_bnd hp1 hp2 hp3).2 (by k_asm) (by k_asm) (allLt_of (fun p hp => Heap.lt_size ((by assumption : News _ _ _ news) p hp).1))
abbrev RetP (news : CbLed) (r : Int) : Heap → Addr → Frm → Shared → (Value → Shared → Prop) → Prop := fun h₀ L m s Q =>
  ∀ (D : Addr) (q : Int) (t1 t2 : Tok) (base' : CbLed) (h' : Heap) (tk' : Nat), 0 ≤ q → q < 16777216 → Fr h₀ L h' m → News h₀ L h' ((D, tupO #[.int q t1, .int r t2]) :: base') → Tabs base' → (∀ p ∈ news, p.1 ≠ 110 → p.1 ≠ 117 → p ∈ base') → Q (.ref D) { s with heap := h', toks := tk' }
theorem ia0 {vs : List Value} {P : List Value → Prop} (h : IntsAre vs []) (k : P []) : P vs := by cases h with | nil => exact k
theorem ia1 {vs : List Value} {a : Int} {P : List Value → Prop} (h : IntsAre vs [a]) (k : ∀ t, P [.int a t]) : P vs := by
  cases h with | cons x t J => exact ia0 (P := fun l => P (_ :: l)) J (k t)
theorem ia2 {vs : List Value} {a b : Int} {P : List Value → Prop} (h : IntsAre vs [a, b]) (k : ∀ t u, P [.int a t, .int b u]) : P vs := by
  cases h with | cons x t J => exact ia1 (P := fun l => P (_ :: l)) J (k t)
theorem ia3 {vs : List Value} {a b c : Int} {P : List Value → Prop} (h : IntsAre vs [a, b, c]) (k : ∀ t u v, P [.int a t, .int b u, .int c v]) : P vs := by
  cases h with | cons x t J => exact ia2 (P := fun l => P (_ :: l)) J (k t)
theorem st_bnd {r n x b : Int} (r0 : 0 ≤ r) (r1 : r < b) (hb : b ≤ 5) (n0 : 0 < n) (n1 : n ≤ 3) (x0 : 0 ≤ x) (x1 : x < 8) : 0 ≤ r * 2 ^ n.toNat + x ∧ r * 2 ^ n.toNat + x < 256 := by
  obtain ⟨j, rfl⟩ := Int.eq_ofNat_of_zero_le (Int.le_of_lt n0)
  have hj : j = 1 ∨ j = 2 ∨ j = 3 := by omega
  rcases hj with rfl | rfl | rfl <;> simp <;> omega
theorem c_dmp (w : World) (news : CbLed) (d : Nat) (n : Int) (a : Int) (ta : CbTok) (b : Int) (tb : CbTok) :
    ClmD 870 4880 w 129 [.int a ta, .int b tb] news (0 ≤ a ∧ a < 64 ∧ 0 < b ∧ b ≤ 5 ∧ (Builtin.Int.intBits b : Int) = n ∧ 0 < n ∧ n ≤ 3 ∧ Tabs news ∧ ((Builtin.Int.intBits a : Int) + n - 1).fdiv n = d ∧ d ≤ 3 ∧ (0 < a ↔ 0 < d) ∧ (∀ x ∈ digs n d a, 0 ≤ x ∧ x < 8)) (RetP news (rst n b (digs n d a))) := by
  dsimp only [Clm, ClmD, MyProg, MyK]
  k_fill
  k_with_none
  k_with "my room" => ((try simp only [depth_under_make, depth_under_kw, depth_in1, depth_deeper, depth_caller]); show _ < 1000; (try dsimp only [ktrTop]); (first | exact lt_rm hdp rfl | exact lt_rm hun rfl | exact lt_rm0 hdp rfl | exact lt_rm0 hun rfl | exact lt_rmB hdp rfl | exact lt_rmB hun rfl | exact lt_rmC hdp rfl | exact lt_rmC hun rfl | omega))
  k_with "my all" => (first | assumption | (refine tnAll (by assumption) ?_; omega) | (refine tnAll2 (by assumption) ?_; omega))
  k_with "my ne" => (first | (with_reducible assumption) | exact Ne.symm (by with_reducible assumption))
  k_with "enter" => (refine wpAny_call ?_; k_dflt (first
    | cell_enter
    | (refine' code_defC ?k1 ?k2 ?k3 ?k4 ?k5 ?kA ?kF ?kK ?k6 ?k7 ?k8 ?k9 ?kB ?kD ?_ ?c2 ?c3 ?c4; (case kA => exact rfl); (case kF => exact rfl); (case kK => assumption); (case k1 => k_asm); (case k2 => k_asm); (case k3 => k_asm); (case k4 => k_asm); (case k5 => k_asm); (case k6 => k_is); (case k7 => k_is); (case k8 => k_room); (case k9 => exact BindsTo.of_eq rfl); (case kB => exact rfl); (case kD => decide +kernel); (case c2 => exact rfl); (case c3 => exact rfl); (case c4 => exact rfl); k_whole; intro g' L' h' tk' cells' FG' F' N' Y' B' X' T' l1; (try k_lt l1); k_cells Y'; (try simp only [List.cons_append, List.nil_append] at N'); (try dsimp only); (try k_lift B'); (try k_fold))))
  k_with "my call ref" => (first | (k_dflt (refine c_d2 w _ _ _ _ _ _ _ _ _ _ _ _ _ _ _ _ _ _ _ _ _ _ _ _ _ _ _ _ (by k_asm) (by k_asm) (by k_asm) (by k_asm) (by k_asm) (by first | rfl | assumption) (⟨(st_bnd (b := b) (by omega) (by omega) hp4 hp6 hp7 (by assumption) (by assumption)).1, (st_bnd (b := b) (by omega) (by omega) hp4 hp6 hp7 (by assumption) (by assumption)).2, hp3, by omega, hp6, by omega⟩) (by (try simp only [depth_under_make, depth_under_kw, depth_in1, depth_deeper, depth_caller]); show _ < _; (try dsimp only [ktrTop]); (first | exact lt_rm hdp rfl | exact lt_rm hun rfl | exact lt_rm0 hdp rfl | exact lt_rm0 hun rfl | exact lt_rmB hdp rfl | exact lt_rmB hun rfl | exact lt_rmC hdp rfl | exact lt_rmC hun rfl | omega)) (by (try simp only [units_under_make, units_under_kw, units_in1, units_deeper, units_caller]); show _ < _; (try dsimp only [ktrTop]); (first | exact lt_rm hdp rfl | exact lt_rm hun rfl | exact lt_rm0 hdp rfl | exact lt_rm0 hun rfl | exact lt_rmB hdp rfl | exact lt_rmB hun rfl | exact lt_rmC hdp rfl | exact lt_rmC hun rfl | omega)) ?_); intro D2 q2 r2 t2 t3 h2 tk2 hr2 hr3 hr4 hq2 hq3 F2 N2 L2; (rw [← hr2] at hret); (try simp only [AllLt, and_true] at L2)) | (refine hold ?_))
  k_with "my pyIter ref" => (refine iter_revUnr (by rfl) (by k_asm) (by k_asm) (offI_lt (by with_unfolding_all assumption)) (by k_mem) (by rfl) (by rfl) ?_)
  k_with "my UnrEnd" => (k_dflt (refine unrEnd_drop1 (by assumption) (by assumption) (by with_unfolding_all assumption) ⟨by k_mem, ?_⟩))
  k_with "my storeName" => (rw [hp5])
  intro loose mean mg mb dp un gd cn cs a ccd cl outer A₀ base h₀ L m0 s Q E hB hF hX hN hT hcs hpre hdp hun hret
  refine aE12 hpre ?_
  clear hpre
  intro hp1 hp2 hp3 hp4 hp5 hp6 hp7 hT1 hD hp8 hp9 hx
  k_extra "enter"
  k_steps
  unfold Hold
  refine c_i2 w _ d _ _ _ _ _ _ _ _ _ _ _ _ _ _ _ _ _ _ _ _ _ _ _ _ _ (by k_asm) (by k_asm) (by k_asm) (by k_asm) (by k_asm) (by first | rfl | assumption) (⟨hp1, hp2, hp6, by omega, hT1, hD, hp8, hp9⟩) (by (try simp only [depth_under_make, depth_under_kw, depth_in1, depth_deeper, depth_caller]); show _ < _; (try dsimp only [ktrTop]); (first | exact lt_rm hdp rfl | exact lt_rm hun rfl | exact lt_rm0 hdp rfl | exact lt_rm0 hun rfl | exact lt_rmB hdp rfl | exact lt_rmB hun rfl | exact lt_rmC hdp rfl | exact lt_rmC hun rfl | omega)) (by (try simp only [units_under_make, units_under_kw, units_in1, units_deeper, units_caller]); show _ < _; (try dsimp only [ktrTop]); (first | exact lt_rm hdp rfl | exact lt_rm hun rfl | exact lt_rm0 hdp rfl | exact lt_rm0 hun rfl | exact lt_rmB hdp rfl | exact lt_rmB hun rfl | exact lt_rmC hdp rfl | exact lt_rmC hun rfl | omega)) ?_
  intro D1 vs1 k1 base1 h1 tk1 F1 N1 I1 T1 K1 D1n
  rcases d with _ | _ | _ | _ | d
  · simp only [digs] at I1 hx hret
    simp only [rst, List.foldr_cons, List.foldr_nil] at hret
    revert N1
    refine ia0 (P := fun nn => News _ _ _ ((D1, W.listOf nn.toArray k1) :: base1) → _) I1 ?_
    clear I1
    intro N1
    k_steps
    unfold Hold
    refine c_d2i w _ _ _ _ _ _ _ _ _ _ _ _ _ _ _ _ _ _ _ _ _ _ _ _ _ _ _ _ (by k_asm) (by k_asm) (by k_asm) (by k_asm) (by k_asm) (by first | rfl | assumption) (⟨hp6, by omega, tabs_ne (by assumption) T1, T1.cons, .nil, by simp, by simp <;> omega⟩) (by (try simp only [depth_under_make, depth_under_kw, depth_in1, depth_deeper, depth_caller]); show _ < _; (try dsimp only [ktrTop]); (first | exact lt_rm hdp rfl | exact lt_rm hun rfl | exact lt_rm0 hdp rfl | exact lt_rm0 hun rfl | exact lt_rmB hdp rfl | exact lt_rmB hun rfl | exact lt_rmC hdp rfl | exact lt_rmC hun rfl | omega)) (by (try simp only [units_under_make, units_under_kw, units_in1, units_deeper, units_caller]); show _ < _; (try dsimp only [ktrTop]); (first | exact lt_rm hdp rfl | exact lt_rm hun rfl | exact lt_rm0 hdp rfl | exact lt_rm0 hun rfl | exact lt_rmB hdp rfl | exact lt_rmB hun rfl | exact lt_rmC hdp rfl | exact lt_rmC hun rfl | omega)) ?_
    intro q9 t9 base9 h9 tk9 F9 N9 b8 b9 T9 K9
    k_steps
    exact hret _ _ _ _ base9 _ _ b8 b9 (by k_asm) (by k_asm) T9 (fun p hp e1 e2 => K9 _ (.tail _ (.tail _ (K1 p hp e1))) e2)
  · simp only [digs] at I1 hx hret
    simp only [rst, List.foldr_cons, List.foldr_nil] at hret
    simp only [List.forall_mem_cons] at hx
    obtain ⟨⟨hxa0, hxb0⟩, hxz⟩ := hx
    revert N1
    refine ia1 (P := fun nn => News _ _ _ ((D1, W.listOf nn.toArray k1) :: base1) → _) I1 ?_
    clear I1
    intro uu0 N1
    k_steps
    unfold Hold
    refine c_d2i w _ _ _ _ _ _ _ _ _ _ _ _ _ _ _ _ _ _ _ _ _ _ _ _ _ _ _ _ (by k_asm) (by k_asm) (by k_asm) (by k_asm) (by k_asm) (by first | rfl | assumption) (⟨hp6, by omega, tabs_ne (by assumption) T1, T1.cons, .cons _ _ .nil, by simp, by simp <;> omega⟩) (by (try simp only [depth_under_make, depth_under_kw, depth_in1, depth_deeper, depth_caller]); show _ < _; (try dsimp only [ktrTop]); (first | exact lt_rm hdp rfl | exact lt_rm hun rfl | exact lt_rm0 hdp rfl | exact lt_rm0 hun rfl | exact lt_rmB hdp rfl | exact lt_rmB hun rfl | exact lt_rmC hdp rfl | exact lt_rmC hun rfl | omega)) (by (try simp only [units_under_make, units_under_kw, units_in1, units_deeper, units_caller]); show _ < _; (try dsimp only [ktrTop]); (first | exact lt_rm hdp rfl | exact lt_rm hun rfl | exact lt_rm0 hdp rfl | exact lt_rm0 hun rfl | exact lt_rmB hdp rfl | exact lt_rmB hun rfl | exact lt_rmC hdp rfl | exact lt_rmC hun rfl | omega)) ?_
    intro q9 t9 base9 h9 tk9 F9 N9 b8 b9 T9 K9
    k_steps
    exact hret _ _ _ _ base9 _ _ b8 b9 (by k_asm) (by k_asm) T9 (fun p hp e1 e2 => K9 _ (.tail _ (.tail _ (K1 p hp e1))) e2)
  · simp only [digs] at I1 hx hret
    simp only [rst, List.foldr_cons, List.foldr_nil] at hret
    simp only [List.forall_mem_cons] at hx
    obtain ⟨⟨hxa0, hxb0⟩, ⟨hxa1, hxb1⟩, hxz⟩ := hx
    revert N1
    refine ia2 (P := fun nn => News _ _ _ ((D1, W.listOf nn.toArray k1) :: base1) → _) I1 ?_
    clear I1
    intro uu0 uu1 N1
    k_steps
    unfold Hold
    refine c_d2i w _ _ _ _ _ _ _ _ _ _ _ _ _ _ _ _ _ _ _ _ _ _ _ _ _ _ _ _ (by k_asm) (by k_asm) (by k_asm) (by k_asm) (by k_asm) (by first | rfl | assumption) (⟨hp6, by omega, tabs_ne (by assumption) T1, T1.cons, .cons _ _ (.cons _ _ .nil), by simp, by simp <;> omega⟩) (by (try simp only [depth_under_make, depth_under_kw, depth_in1, depth_deeper, depth_caller]); show _ < _; (try dsimp only [ktrTop]); (first | exact lt_rm hdp rfl | exact lt_rm hun rfl | exact lt_rm0 hdp rfl | exact lt_rm0 hun rfl | exact lt_rmB hdp rfl | exact lt_rmB hun rfl | exact lt_rmC hdp rfl | exact lt_rmC hun rfl | omega)) (by (try simp only [units_under_make, units_under_kw, units_in1, units_deeper, units_caller]); show _ < _; (try dsimp only [ktrTop]); (first | exact lt_rm hdp rfl | exact lt_rm hun rfl | exact lt_rm0 hdp rfl | exact lt_rm0 hun rfl | exact lt_rmB hdp rfl | exact lt_rmB hun rfl | exact lt_rmC hdp rfl | exact lt_rmC hun rfl | omega)) ?_
    intro q9 t9 base9 h9 tk9 F9 N9 b8 b9 T9 K9
    k_steps
    exact hret _ _ _ _ base9 _ _ b8 b9 (by k_asm) (by k_asm) T9 (fun p hp e1 e2 => K9 _ (.tail _ (.tail _ (K1 p hp e1))) e2)
  · simp only [digs] at I1 hx hret
    simp only [rst, List.foldr_cons, List.foldr_nil] at hret
    simp only [List.forall_mem_cons] at hx
    obtain ⟨⟨hxa0, hxb0⟩, ⟨hxa1, hxb1⟩, ⟨hxa2, hxb2⟩, hxz⟩ := hx
    revert N1
    refine ia3 (P := fun nn => News _ _ _ ((D1, W.listOf nn.toArray k1) :: base1) → _) I1 ?_
    clear I1
    intro uu0 uu1 uu2 N1
    k_steps
    unfold Hold
    refine c_d2i w _ _ _ _ _ _ _ _ _ _ _ _ _ _ _ _ _ _ _ _ _ _ _ _ _ _ _ _ (by k_asm) (by k_asm) (by k_asm) (by k_asm) (by k_asm) (by first | rfl | assumption) (⟨hp6, by omega, tabs_ne (by assumption) T1, T1.cons, .cons _ _ (.cons _ _ (.cons _ _ .nil)), by simp, by simp <;> omega⟩) (by (try simp only [depth_under_make, depth_under_kw, depth_in1, depth_deeper, depth_caller]); show _ < _; (try dsimp only [ktrTop]); (first | exact lt_rm hdp rfl | exact lt_rm hun rfl | exact lt_rm0 hdp rfl | exact lt_rm0 hun rfl | exact lt_rmB hdp rfl | exact lt_rmB hun rfl | exact lt_rmC hdp rfl | exact lt_rmC hun rfl | omega)) (by (try simp only [units_under_make, units_under_kw, units_in1, units_deeper, units_caller]); show _ < _; (try dsimp only [ktrTop]); (first | exact lt_rm hdp rfl | exact lt_rm hun rfl | exact lt_rm0 hdp rfl | exact lt_rm0 hun rfl | exact lt_rmB hdp rfl | exact lt_rmB hun rfl | exact lt_rmC hdp rfl | exact lt_rmC hun rfl | omega)) ?_
    intro q9 t9 base9 h9 tk9 F9 N9 b8 b9 T9 K9
    k_steps
    exact hret _ _ _ _ base9 _ _ b8 b9 (by k_asm) (by k_asm) T9 (fun p hp e1 e2 => K9 _ (.tail _ (.tail _ (K1 p hp e1))) e2)
  · omega
theorem c_idm (w : World) (news : CbLed) (d : Nat) (n : Int) (a : Int) (ta : CbTok) (b : Int) (tb : CbTok) :
    ClmD 860 4870 w 136 [.int a ta, .int b tb] news (0 ≤ a ∧ a < 64 ∧ 0 < b ∧ b ≤ 5 ∧ (Builtin.Int.intBits b : Int) = n ∧ 0 < n ∧ n ≤ 3 ∧ Tabs news ∧ ((Builtin.Int.intBits a : Int) + n - 1).fdiv n = d ∧ d ≤ 3 ∧ (0 < a ↔ 0 < d) ∧ (∀ x ∈ digs n d a, 0 ≤ x ∧ x < 8)) (RetP news (rst n b (digs n d a))) := by
  dsimp only [Clm, ClmD, MyProg, MyK]
  k_fill
  k_with_none
  k_with "my room" => ((try simp only [depth_under_make, depth_under_kw, depth_in1, depth_deeper, depth_caller]); show _ < 1000; (try dsimp only [ktrTop]); (first | exact lt_rm hdp rfl | exact lt_rm hun rfl | exact lt_rm0 hdp rfl | exact lt_rm0 hun rfl | exact lt_rmB hdp rfl | exact lt_rmB hun rfl | exact lt_rmC hdp rfl | exact lt_rmC hun rfl | omega))
  k_with "my all" => (first | (refine tnAll (by assumption) ?_; omega) | (refine tnAll2 (by assumption) ?_; omega))
  k_with "my ne" => (first | (with_reducible assumption) | exact Ne.symm (by with_reducible assumption))
  k_with "enter" => (refine wpAny_call ?_; k_dflt (first
    | cell_enter
    | (refine' code_defC ?k1 ?k2 ?k3 ?k4 ?k5 ?kA ?kF ?kK ?k6 ?k7 ?k8 ?k9 ?kB ?kD ?_ ?c2 ?c3 ?c4; (case kA => exact rfl); (case kF => exact rfl); (case kK => assumption); (case k1 => k_asm); (case k2 => k_asm); (case k3 => k_asm); (case k4 => k_asm); (case k5 => k_asm); (case k6 => k_is); (case k7 => k_is); (case k8 => k_room); (case k9 => exact BindsTo.of_eq rfl); (case kB => exact rfl); (case kD => decide +kernel); (case c2 => exact rfl); (case c3 => exact rfl); (case c4 => exact rfl); k_whole; intro g' L' h' tk' cells' FG' F' N' Y' B' X' T' l1; (try k_lt l1); k_cells Y'; (try simp only [List.cons_append, List.nil_append] at N'); (try dsimp only); (try k_lift B'); (try k_fold))))
  k_with "my call ref" => (k_dflt (refine c_dmp w _ _ _ _ _ _ _ _ _ _ _ _ _ _ _ _ _ _ _ _ _ _ _ _ _ _ _ _ (by k_asm) (by k_asm) (by k_asm) (by k_asm) (by k_asm) (by first | rfl | assumption) (⟨hp1, hp2, hp3, hp4, hp5, hp6, hp7, hT1, hD, hp8, hp9, hx⟩) (by (try simp only [depth_under_make, depth_under_kw, depth_in1, depth_deeper, depth_caller]); show _ < _; (try dsimp only [ktrTop]); (first | exact lt_rm hdp rfl | exact lt_rm hun rfl | exact lt_rm0 hdp rfl | exact lt_rm0 hun rfl | exact lt_rmB hdp rfl | exact lt_rmB hun rfl | exact lt_rmC hdp rfl | exact lt_rmC hun rfl | omega)) (by (try simp only [units_under_make, units_under_kw, units_in1, units_deeper, units_caller]); show _ < _; (try dsimp only [ktrTop]); (first | exact lt_rm hdp rfl | exact lt_rm hun rfl | exact lt_rm0 hdp rfl | exact lt_rm0 hun rfl | exact lt_rmB hdp rfl | exact lt_rmB hun rfl | exact lt_rmC hdp rfl | exact lt_rmC hun rfl | omega)) ?_); intro D2 q2 t2 t3 base2 h2 tk2 b1 b2 F2 N2 T2 K2)
  intro loose mean mg mb dp un gd cn cs a ccd cl outer A₀ base h₀ L m0 s Q E hB hF hX hN hT hcs hpre hdp hun hret
  refine aE12 hpre ?_; clear hpre; intro hp1 hp2 hp3 hp4 hp5 hp6 hp7 hT1 hD hp8 hp9 hx
  k_extra "enter"
  k_steps
  · exfalso; omega
  · exact hret _ _ _ _ base2 _ _ b1 b2 (by k_asm) (by k_asm) T2 K2
theorem news_drop2 {h₀ h : Heap} {L : Addr} {x y : Addr × Obj} {l : CbLed} (N : News h₀ L h (x :: y :: l)) : News h₀ L h (x :: l) := fun p hp => by
  rcases List.mem_cons.mp hp with rfl | hp
  · exact N _ (.head _)
  · exact N _ (.tail _ (.tail _ hp))
abbrev RetP2 (news : CbLed) (r : Int) : Heap → Addr → Frm → Shared → (Value → Shared → Prop) → Prop := fun h₀ L m s Q =>
  ∀ (D : Addr) (q : Int) (t1 t2 : Tok) (base' : CbLed) (h' : Heap) (tk' : Nat), Fr h₀ L h' m → News h₀ L h' ((D, tupO #[.int q t1, .int r t2]) :: base') → Tabs base' → (∀ p ∈ news, p.1 ≠ 110 → p.1 ≠ 117 → p ∈ base') → Q (.ref D) { s with heap := h', toks := tk' }
theorem c_idmn (w : World) (news : CbLed) (d : Nat) (n : Int) (a : Int) (ta : CbTok) (b : Int) (tb : CbTok) :
    ClmD 850 4860 w 136 [.int a ta, .int b tb] news (a < 0 ∧ 0 ≤ Builtin.bitNot a ∧ Builtin.bitNot a < 64 ∧ 0 < b ∧ b ≤ 5 ∧ (Builtin.Int.intBits b : Int) = n ∧ 0 < n ∧ n ≤ 3 ∧ Tabs news ∧ ((Builtin.Int.intBits (Builtin.bitNot a) : Int) + n - 1).fdiv n = d ∧ d ≤ 3 ∧ (0 < Builtin.bitNot a ↔ 0 < d) ∧ (∀ x ∈ digs n d (Builtin.bitNot a), 0 ≤ x ∧ x < 8)) (RetP2 news (b + Builtin.bitNot (rst n b (digs n d (Builtin.bitNot a))))) := by
  dsimp only [Clm, ClmD, MyProg, MyK]
  k_fill
  k_with_none
  k_with "my room" => ((try simp only [depth_under_make, depth_under_kw, depth_in1, depth_deeper, depth_caller]); show _ < 1000; (try dsimp only [ktrTop]); (first | exact lt_rm hdp rfl | exact lt_rm hun rfl | exact lt_rm0 hdp rfl | exact lt_rm0 hun rfl | exact lt_rmB hdp rfl | exact lt_rmB hun rfl | exact lt_rmC hdp rfl | exact lt_rmC hun rfl | omega))
  k_with "my all" => (first | (refine tnAll (by assumption) ?_; omega) | (refine tnAll2 (by assumption) ?_; omega))
  k_with "my ne" => (first | (with_reducible assumption) | exact Ne.symm (by with_reducible assumption))
  k_with "enter" => (refine wpAny_call ?_; k_dflt (first
    | cell_enter
    | (refine' code_defC ?k1 ?k2 ?k3 ?k4 ?k5 ?kA ?kF ?kK ?k6 ?k7 ?k8 ?k9 ?kB ?kD ?_ ?c2 ?c3 ?c4; (case kA => exact rfl); (case kF => exact rfl); (case kK => assumption); (case k1 => k_asm); (case k2 => k_asm); (case k3 => k_asm); (case k4 => k_asm); (case k5 => k_asm); (case k6 => k_is); (case k7 => k_is); (case k8 => k_room); (case k9 => exact BindsTo.of_eq rfl); (case kB => exact rfl); (case kD => decide +kernel); (case c2 => exact rfl); (case c3 => exact rfl); (case c4 => exact rfl); k_whole; intro g' L' h' tk' cells' FG' F' N' Y' B' X' T' l1; (try k_lt l1); k_cells Y'; (try simp only [List.cons_append, List.nil_append] at N'); (try dsimp only); (try k_lift B'); (try k_fold))))
  k_with "my call ref" => (refine hold ?_)
  intro loose mean mg mb dp un gd cn cs a ccd cl outer A₀ base h₀ L m0 s Q E hB hF hX hN hT hcs hpre hdp hun hret
  refine aE13 hpre ?_; clear hpre; intro hp1 hp2a hp2b hp3 hp4 hp5 hp6 hp7 hT1 hD hp8 hp9 hx
  k_extra "enter"
  k_steps
  · exfalso; omega
  · unfold Hold
    refine c_idm w _ d n _ _ _ _ _ _ _ _ _ _ _ _ _ _ _ _ _ _ _ _ _ _ _ _ _ (by k_asm) (by k_asm) (by k_asm) (by k_asm) (by k_asm) (by first | rfl | assumption) (⟨hp2a, hp2b, hp3, hp4, hp5, hp6, hp7, hT1, hD, hp8, hp9, hx⟩) (by (try simp only [depth_under_make, depth_under_kw, depth_in1, depth_deeper, depth_caller]); show _ < _; (try dsimp only [ktrTop]); (first | exact lt_rm hdp rfl | exact lt_rm hun rfl | exact lt_rm0 hdp rfl | exact lt_rm0 hun rfl | exact lt_rmB hdp rfl | exact lt_rmB hun rfl | exact lt_rmC hdp rfl | exact lt_rmC hun rfl | omega)) (by (try simp only [units_under_make, units_under_kw, units_in1, units_deeper, units_caller]); show _ < _; (try dsimp only [ktrTop]); (first | exact lt_rm hdp rfl | exact lt_rm hun rfl | exact lt_rm0 hdp rfl | exact lt_rm0 hun rfl | exact lt_rmB hdp rfl | exact lt_rmB hun rfl | exact lt_rmC hdp rfl | exact lt_rmC hun rfl | omega)) ?_
    intro D2 q2 t2 t3 base2 h2 tk2 b1 b2 F2 N2 T2 K2
    k_steps
    exact hret _ _ _ _ base2 _ _ (by k_asm) (news_drop2 (by assumption)) T2 K2
abbrev dmOk (a b r : Int) (n : Int) (d : Nat) : Prop :=
  (0 ≤ a ∧ a < 64 ∧ 0 < b ∧ b ≤ 5 ∧ (Builtin.Int.intBits b : Int) = n ∧ 0 < n ∧ n ≤ 3 ∧ ((Builtin.Int.intBits a : Int) + n - 1).fdiv n = d ∧ d ≤ 3 ∧ (0 < a ↔ 0 < d) ∧ (∀ x ∈ digs n d a, 0 ≤ x ∧ x < 8) ∧ r = rst n b (digs n d a)) ∨
  (a < 0 ∧ 0 ≤ Builtin.bitNot a ∧ Builtin.bitNot a < 64 ∧ 0 < b ∧ b ≤ 5 ∧ (Builtin.Int.intBits b : Int) = n ∧ 0 < n ∧ n ≤ 3 ∧ ((Builtin.Int.intBits (Builtin.bitNot a) : Int) + n - 1).fdiv n = d ∧ d ≤ 3 ∧ (0 < Builtin.bitNot a ↔ 0 < d) ∧ (∀ x ∈ digs n d (Builtin.bitNot a), 0 ≤ x ∧ x < 8) ∧ r = b + Builtin.bitNot (rst n b (digs n d (Builtin.bitNot a))))
theorem c_dm (w : World) (news : CbLed) (a : Int) (ta : CbTok) (b : Int) (tb : CbTok) (r n : Int) (d : Nat) :
    ClmD 850 4860 w 136 [.int a ta, .int b tb] news (Tabs news ∧ dmOk a b r n d) (RetP2 news r) := by
  intro loose mean mg mb dp un gd cn cs aa ccd cl outer A₀ base h₀ L m0 s Q E hB hF hX hN hT hcs hpre hdp hun hret
  obtain ⟨hT1, ⟨h1, h2, h3, h4, h5, h6, h7, h8, h9, h10, h11, rfl⟩ | ⟨h1, h2a, h2, h3, h4, h5, h6, h7, h8, h9, h10, h11, rfl⟩⟩ := hpre
  · refine c_idm w news d n a ta b tb loose mean mg mb dp un gd cn cs aa ccd cl outer A₀ base h₀ L m0 s Q E hB hF hX hN hT hcs ⟨h1, h2, h3, h4, h5, h6, h7, hT1, h8, h9, h10, h11⟩ (by omega) (by omega) ?_
    intro D q t1 t2 base' h' tk' _ _ F N T K
    exact hret D q t1 t2 base' h' tk' F N T K
  · exact c_idmn w news d n a ta b tb loose mean mg mb dp un gd cn cs aa ccd cl outer A₀ base h₀ L m0 s Q E hB hF hX hN hT hcs ⟨h1, h2a, h2, h3, h4, h5, h6, h7, hT1, h8, h9, h10, h11⟩ hdp hun hret
/-- what the chain says of every pair that the law comes to -/
def dmN (b : Int) : Int := if b = 1 then 1 else if b ≤ 3 then 2 else 3
def dmD (a b : Int) : Nat := let x := if a < 0 then Builtin.bitNot a else a; (((Builtin.Int.intBits x : Int) + dmN b - 1).fdiv (dmN b)).toNat
theorem dm_all : ∀ i : Fin 16, ∀ j : Fin 5, ((i.val : Int) - 7 ≤ 7 ∨ 3 ≤ j.val) → dmOk ((i.val : Int) - 7) ((j.val : Int) + 1) (((i.val : Int) - 7).fmod ((j.val : Int) + 1)) (dmN ((j.val : Int) + 1)) (dmD ((i.val : Int) - 7) ((j.val : Int) + 1)) := by decide +kernel
theorem dm_ok {a b : Int} (h1 : -7 ≤ a) (h2 : a ≤ 8) (h3 : 1 ≤ b) (h4 : b ≤ 5) (h5 : a ≤ 7 ∨ 4 ≤ b) : dmOk a b (a.fmod b) (dmN b) (dmD a b) := by
  obtain ⟨i, hi⟩ := Int.eq_ofNat_of_zero_le (show 0 ≤ a + 7 by omega)
  obtain ⟨j, hj⟩ := Int.eq_ofNat_of_zero_le (show 0 ≤ b - 1 by omega)
  have e1 : a = (i : Int) - 7 := by omega
  have e2 : b = (j : Int) + 1 := by omega
  rw [e1, e2]
  exact dm_all ⟨i, by omega⟩ ⟨j, by omega⟩ (by show (i : Int) - 7 ≤ 7 ∨ 3 ≤ j; omega)
def lit (k : Int) : UInt64 := clip (yR (Float64.ofFrac (decide (k < 0) != decide ((64 : Int) < 0)) k.natAbs (Int.natAbs 64)))
def tA (x m : Int) : UInt64 := lit (x.fmod m + 1)
def tB (x y m : Int) : UInt64 := lit (x + y - x.fmod m + 1)
def tC (x y m : Int) : UInt64 := lit (x + y + 2 - m)
def tW (x y m : Int) : UInt64 := Float64.sub (Float64.mul (Float64.ofInt 2) (Float64.div (Float64.add (max3 (tA x m) (tB x y m) (tB x y m)) (min3 (tA x m) (tB x y m) (tB x y m))) 4611686018427387904)) (max3 (tA x m) (tB x y m) (tB x y m))
def toldV (x y m : Int) : UInt64 := Float64.sub (Float64.mul (Float64.ofInt 64) (max3 (tW x y m) (tC x y m) 0)) (Float64.ofInt 1)
def toldPre (x y m : Int) : Prop := hsvPre (tA x m) (tB x y m) (tB x y m) ∧ hlsPre (tA x m) (tB x y m) (tB x y m) ∧ hsvPre (tW x y m) (tC x y m) 0
abbrev RetFl (news : CbLed) (v : UInt64) : Heap → Addr → Frm → Shared → (Value → Shared → Prop) → Prop := fun h₀ L m s Q =>
  ∀ (t : Tok) (base' : CbLed) (h' : Heap) (tk' : Nat), Fr h₀ L h' m → News h₀ L h' base' → Tabs base' → (∀ p ∈ news, p.1 ≠ 110 → p.1 ≠ 117 → p ∈ base') → Q (.float v t) { s with heap := h', toks := tk' }
theorem abs_small {a : Int} (h1 : -1000 < a) (h2 : a < 1000) : a.natAbs < 2 ^ 1023 := Nat.lt_of_lt_of_le (show a.natAbs < 1000 by omega) (by decide +kernel)
theorem fm_bd {a b : Int} (hb : 1 ≤ b) : 0 ≤ a.fmod b ∧ a.fmod b < b := ⟨Int.fmod_nonneg_of_pos a (by omega), Int.fmod_lt_of_pos a (by omega)⟩
theorem c_told (w : World) (news : CbLed) (x : Int) (tx : CbTok) (y : Int) (ty : CbTok) (m : Int) (tm : CbTok) :
    ClmD 840 4850 w 247 [.int x tx, .int y ty, .int m tm] news (-7 ≤ x ∧ x ≤ 8 ∧ 1 ≤ m ∧ m ≤ 5 ∧ (x ≤ 7 ∨ 4 ≤ m) ∧ -10 < y ∧ y < 15 ∧ Tabs news ∧ toldPre x y m) (RetFl news (toldV x y m)) := by
  dsimp only [Clm, ClmD, MyProg, MyK]
  k_fill
  k_with_none
  k_with "my room" => ((try simp only [depth_under_make, depth_under_kw, depth_in1, depth_deeper, depth_caller]); show _ < 1000; (try dsimp only [ktrTop]); (first | exact lt_rm hdp rfl | exact lt_rm hun rfl | exact lt_rm0 hdp rfl | exact lt_rm0 hun rfl | exact lt_rmB hdp rfl | exact lt_rmB hun rfl | exact lt_rmC hdp rfl | exact lt_rmC hun rfl | omega))
  k_with "my all" => (first | assumption | (refine tnAll (by assumption) ?_; omega) | (refine tnAll2 (by assumption) ?_; omega))
  k_with "my ne" => (first | (with_reducible assumption) | exact Ne.symm (by with_reducible assumption))
  k_with "enter" => (refine wpAny_call ?_; k_dflt (first
    | cell_enter
    | (refine' code_defC ?k1 ?k2 ?k3 ?k4 ?k5 ?kA ?kF ?kK ?k6 ?k7 ?k8 ?k9 ?kB ?kD ?_ ?c2 ?c3 ?c4; (case kA => exact rfl); (case kF => exact rfl); (case kK => assumption); (case k1 => k_asm); (case k2 => k_asm); (case k3 => k_asm); (case k4 => k_asm); (case k5 => k_asm); (case k6 => k_is); (case k7 => k_is); (case k8 => k_room); (case k9 => exact BindsTo.of_eq rfl); (case kB => exact rfl); (case kD => decide +kernel); (case c2 => exact rfl); (case c3 => exact rfl); (case c4 => exact rfl); k_whole; intro g' L' h' tk' cells' FG' F' N' Y' B' X' T' l1; (try k_lt l1); k_cells Y'; (try simp only [List.cons_append, List.nil_append] at N'); (try dsimp only); (try k_lift B'); (try k_fold))))
  k_with "my binaryOp Div int int" => (k_here; k_dflt (refine PySem.Flt.div_ii_fits (by with_unfolding_all rfl) (abs_small (by omega) (by omega)) (fun h => absurd h (by decide)) (fun _ _ => ?_)))
  k_with "my CompEnd" => (k_here; k_dflt (refine LCg.CompEnd.intro (by assumption) (by assumption) _ (fun _ h => .tail _ h) (by with_unfolding_all assumption) (by lcg_src) ?_))
  k_with "my call ref" => (first
    | (k_dflt (refine c_dm w _ _ _ _ _ (x.fmod m) (dmN m) (dmD x m) _ _ _ _ _ _ _ _ _ _ _ _ _ _ _ _ _ _ _ _ _ (by k_asm) (by k_asm) (by k_asm) (by k_asm) (by k_asm) (by first | rfl | assumption) (⟨hT0, dm_ok hp1 hp2 hp3 hp4 hp5⟩) (by (try simp only [depth_under_make, depth_under_kw, depth_in1, depth_deeper, depth_caller]); show _ < _; (try dsimp only [ktrTop]); (first | exact lt_rm hdp rfl | exact lt_rm hun rfl | exact lt_rm0 hdp rfl | exact lt_rm0 hun rfl | exact lt_rmB hdp rfl | exact lt_rmB hun rfl | exact lt_rmC hdp rfl | exact lt_rmC hun rfl | omega)) (by (try simp only [units_under_make, units_under_kw, units_in1, units_deeper, units_caller]); show _ < _; (try dsimp only [ktrTop]); (first | exact lt_rm hdp rfl | exact lt_rm hun rfl | exact lt_rm0 hdp rfl | exact lt_rm0 hun rfl | exact lt_rmB hdp rfl | exact lt_rmB hun rfl | exact lt_rmC hdp rfl | exact lt_rmC hun rfl | omega)) ?_); intro D2 q2 t2 t3 base2 h2 tk2 F2 N2 T2 K2)
    | (k_dflt (refine c_yiq w _ _ _ _ _ _ _ _ _ _ _ _ _ _ _ _ _ _ _ _ _ _ _ _ _ _ (by k_asm) (by k_asm) (by k_asm) (by k_asm) (by k_asm) (by first | rfl | assumption) (True.intro) (by (try simp only [depth_under_make, depth_under_kw, depth_in1, depth_deeper, depth_caller]); show _ < _; (try dsimp only [ktrTop]); (first | exact lt_rm hdp rfl | exact lt_rm hun rfl | exact lt_rm0 hdp rfl | exact lt_rm0 hun rfl | exact lt_rmB hdp rfl | exact lt_rmB hun rfl | exact lt_rmC hdp rfl | exact lt_rmC hun rfl | omega)) (by (try simp only [units_under_make, units_under_kw, units_in1, units_deeper, units_caller]); show _ < _; (try dsimp only [ktrTop]); (first | exact lt_rm hdp rfl | exact lt_rm hun rfl | exact lt_rm0 hdp rfl | exact lt_rm0 hun rfl | exact lt_rmB hdp rfl | exact lt_rmB hun rfl | exact lt_rmC hdp rfl | exact lt_rmC hun rfl | omega)) ?_); intro D3 t31 t32 t33 h3 tk3 F3 N3 L3; (try simp only [AllLt, and_true] at L3))
    | (k_dflt (refine c_hsv w _ _ _ _ _ _ _ _ _ _ _ _ _ _ _ _ _ _ _ _ _ _ _ _ _ _ _ _ (by k_asm) (by k_asm) (by k_asm) (by k_asm) (by k_asm) (by first | rfl | assumption) (by first | exact ht.1 | exact ht.2.2) (by (try simp only [depth_under_make, depth_under_kw, depth_in1, depth_deeper, depth_caller]); show _ < _; (try dsimp only [ktrTop]); (first | exact lt_rm hdp rfl | exact lt_rm hun rfl | exact lt_rm0 hdp rfl | exact lt_rm0 hun rfl | exact lt_rmB hdp rfl | exact lt_rmB hun rfl | exact lt_rmC hdp rfl | exact lt_rmC hun rfl | omega)) (by (try simp only [units_under_make, units_under_kw, units_in1, units_deeper, units_caller]); show _ < _; (try dsimp only [ktrTop]); (first | exact lt_rm hdp rfl | exact lt_rm hun rfl | exact lt_rm0 hdp rfl | exact lt_rm0 hun rfl | exact lt_rmB hdp rfl | exact lt_rmB hun rfl | exact lt_rmC hdp rfl | exact lt_rmC hun rfl | omega)) ?_); intro D4 r4 g4 t41 t42 t43 h4 tk4 F4 N4 L4; (try simp only [AllLt, and_true] at L4))
    | (k_dflt (refine c_hls w _ _ _ _ _ _ _ _ _ _ _ _ _ _ _ _ _ _ _ _ _ _ _ _ _ _ _ _ (by k_asm) (by k_asm) (by k_asm) (by k_asm) (by k_asm) (by first | rfl | assumption) (ht.2.1) (by (try simp only [depth_under_make, depth_under_kw, depth_in1, depth_deeper, depth_caller]); show _ < _; (try dsimp only [ktrTop]); (first | exact lt_rm hdp rfl | exact lt_rm hun rfl | exact lt_rm0 hdp rfl | exact lt_rm0 hun rfl | exact lt_rmB hdp rfl | exact lt_rmB hun rfl | exact lt_rmC hdp rfl | exact lt_rmC hun rfl | omega)) (by (try simp only [units_under_make, units_under_kw, units_in1, units_deeper, units_caller]); show _ < _; (try dsimp only [ktrTop]); (first | exact lt_rm hdp rfl | exact lt_rm hun rfl | exact lt_rm0 hdp rfl | exact lt_rm0 hun rfl | exact lt_rmB hdp rfl | exact lt_rmB hun rfl | exact lt_rmC hdp rfl | exact lt_rmC hun rfl | omega)) ?_); intro D5 r5 g5 t51 t52 t53 h5 tk5 F5 N5 L5; (try simp only [AllLt, and_true] at L5))
    | (refine hold ?_))
  intro loose mean mg mb dp un gd cn cs a ccd cl outer A₀ base h₀ L m0 s Q E hB hF hX hN hT hcs hpre hdp hun hret
  refine aE9 hpre ?_; clear hpre; intro hp1 hp2 hp3 hp4 hp5 hp6 hp7 hT0 ht
  obtain ⟨hf1, hf2⟩ := fm_bd (a := x) hp3
  k_extra "enter"
  k_steps
  exact hret _ base2 _ _ (by k_asm) (cb_drop (by k_asm) (fun p hp => by repeat' (first | assumption | apply List.mem_cons_of_mem))) T2 K2
def SrcS (prog : Program) (w : World) (A : Around) (h₀ : Heap) (L : Addr) (m : Frm) (env : Env) (elt : Expr) (x : Str) (scope : Scope) (cl : List (Str × Addr)) (Fin : Shared → List Value → CbLed → Prop) (xv : Value) (s₁ : Shared) : Prop :=
  ∃ tx t news, xv = .str tx t ∧ A.handled = none ∧ Fr h₀ L s₁.heap m ∧ News h₀ L s₁.heap news ∧ tx.cps.size ≤ sizeLine ∧
    ∀ s₂ : Shared, (∃ h, s₂ = { s₁ with heap := h }) → LCg.CompRest prog w A h₀ L m env elt x scope cl s₂ (fun _ => True) (SignAt tx) (Fin s₂) tx.cps.size 0 [] news
theorem SrcS.intro {prog : Program} {w : World} {A : Around} {h₀ : Heap} {L : Addr} {m : Frm} {env : Env} {elt : Expr} {x : Str} {scope : Scope} {cl : List (Str × Addr)} {Fin : Shared → List Value → CbLed → Prop} {tx : Str} {t : Tok} {news : CbLed} {s₁ : Shared}
    (hh : A.handled = none) (F : Fr h₀ L s₁.heap m) (N : News h₀ L s₁.heap news) (hsz : tx.cps.size ≤ sizeLine)
    (h : ∀ g, LCg.CompRest prog w A h₀ L m env elt x scope cl { s₁ with heap := g } (fun _ => True) (SignAt tx) (Fin { s₁ with heap := g }) tx.cps.size 0 [] news) : SrcS prog w A h₀ L m env elt x scope cl Fin (.str tx t) s₁ :=
  ⟨tx, t, news, rfl, hh, F, N, hsz, fun _ ⟨g, e⟩ => e ▸ h g⟩
theorem ListComp_S {prog : Program} {w : World} {A : Around} {E : Value → Shared → Prop} {s : Shared} {h₀ : Heap} {L : Addr} {m : Frm} {env : Env} {elt iter : Expr} {x : Str} {px : Pos} {scope : Scope} {cl : List (Str × Addr)} {pos : Pos} {Q : Value → Shared → Prop} (_F₀ : Fr h₀ L s.heap m)
    (hclos : closureFor scope env = pure cl) (hcell : ∀ y ∈ scope.names, y.2 ≠ .cell) (hkind : scope.kind = .function)
    (hnames : ∀ y ∈ scope.names, y.2 = .local → scope.names.lookup y.1 = some .local) (hx : scope.names.lookup x = some .local)
    (h : wpAny (model prog w) A (eval iter env) (SrcS prog w A h₀ L m env elt x scope cl (fun s₂ => LCg.FinE h₀ L m s₂ Q)) E s)
    (hs : ∀ x, foldedSetIterable iter env x = pure x := by intro _; rfl) :
    wpAny (model prog w) A (eval (.ListComp elt [⟨.Name x px, iter, [], 0⟩] scope pos) env) Q E s := by
  rw [eval_ListComp]
  refine wpAny_comprehension_free (use := none) rfl hs hclos hkind hnames (wpAny_mono h (fun xv s₁ h₁ => ?_) fun _ _ e => e)
  obtain ⟨tx, t, news, rfl, hh, F, N, hsz, R⟩ := h₁
  cases ha : tx.cps.all (· < 128)
  · refine wpAny_pyIter_wide ha ?_
    refine LCg.block_U (Walks.strWide hh s₁.heap.objs.size tx t) hsz (fun i h st => let ⟨o, e, _⟩ := st; ⟨o, e⟩) (S := fun _ => True)
      (fun i h h' o' nw st e e' _ _ _ => (Walks.strWide (prog := prog) (w := w) hh s₁.heap.objs.size tx t).frame i h h' st fun b hb o₂ e₂ => by
        rw [List.mem_singleton.mp hb] at e₂ ⊢
        rw [e] at e₂; cases e₂; exact e') hcell hkind hx ⟨_, Heap.get?_push_size _ rfl, rfl, rfl⟩ (fun b hb => ?_)
      (F.keeps fun _ _ e => Heap.get?_push_of_some _ e) (N.grown fun _ _ e => Heap.get?_push_of_some _ e) (Nat.ne_of_lt F.ns.lt) (next_is_new F) (fun p hp => Nat.ne_of_lt (Heap.lt_size (N p hp).1)) trivial (R _ ⟨_, rfl⟩) ?_
    · rw [List.mem_singleton.mp hb]
      show s₁.heap.objs.size < (s₁.heap.push _).objs.size
      rw [Heap.size_push]; exact Nat.lt_succ_self _
    · intro D C h tk m' ys news' F' N' o1 hn hC₀ hD₀ hCL hDL hCD offC fin
      refine ⟨m', hn, fun h'' hs'' => fin D h'' tk (F'.change hs'' hCL hC₀) (fun p hp => ?_) o1⟩
      refine ⟨hs''.extBut _ _ ?_ (N' p hp).1, (N' p hp).2⟩
      rcases List.mem_cons.mp hp with rfl | hp
      · exact Ne.symm hCD
      · exact offC p hp
  · refine wpAny_pyIter_ascii ha ?_
    refine LCg.block_U (Walks.strAscii hh s₁.heap.objs.size tx t) hsz (fun i h st => let ⟨o, e, _⟩ := st; ⟨o, e⟩) (S := fun _ => True)
      (fun i h h' o' nw st e e' _ _ _ => (Walks.strAscii (prog := prog) (w := w) hh s₁.heap.objs.size tx t).frame i h h' st fun b hb o₂ e₂ => by
        rw [List.mem_singleton.mp hb] at e₂ ⊢
        rw [e] at e₂; cases e₂; exact e') hcell hkind hx ⟨_, Heap.get?_push_size _ rfl, rfl, rfl⟩ (fun b hb => ?_)
      (F.keeps fun _ _ e => Heap.get?_push_of_some _ e) (N.grown fun _ _ e => Heap.get?_push_of_some _ e) (Nat.ne_of_lt F.ns.lt) (next_is_new F) (fun p hp => Nat.ne_of_lt (Heap.lt_size (N p hp).1)) trivial (R _ ⟨_, rfl⟩) ?_
    · rw [List.mem_singleton.mp hb]
      show s₁.heap.objs.size < (s₁.heap.push _).objs.size
      rw [Heap.size_push]; exact Nat.lt_succ_self _
    · intro D C h tk m' ys news' F' N' o1 hn hC₀ hD₀ hCL hDL hCD offC fin
      refine ⟨m', hn, fun h'' hs'' => fin D h'' tk (F'.change hs'' hCL hC₀) (fun p hp => ?_) o1⟩
      refine ⟨hs''.extBut _ _ ?_ (N' p hp).1, (N' p hp).2⟩
      rcases List.mem_cons.mp hp with rfl | hp
      · exact Ne.symm hCD
      · exact offC p hp
/-- a comprehension over signs whose element is a text -/
theorem rest_strs {prog : Program} {w : World} {A : Around} {h₀ : Heap} {L : Addr} {m : Frm} {env : Env} {elt : Expr} {x : Str} {scope : Scope} {cl : List (Str × Addr)} {s : Shared} {S : CbLed → Prop} {P : Nat → Value → Prop} {Fin : List Value → CbLed → Prop} {news : CbLed}
    {α : Type} (ks : List α) (g : α → Str) {n : Nat} (hks : ks.length = n)
    (turn : ∀ i k v I oI C oC D m₂ ys h tk (E' : Value → Shared → Prop), ks[i]? = some k → P i v → LCg.NsObj oC m₂ → m₂ x = some v → Fr h₀ L h m → News h₀ L h ((I, oI) :: (C, oC) :: (D, LCg.lst ys) :: news) → LCg.Off3 I C D news → ((@Ne Nat I C) ∧ (@Ne Nat I D) ∧ (@Ne Nat C D)) →
      wpAny (model prog w) A (eval elt (compEnvC scope cl C env)) (LCg.CompEnd h₀ L m { s with heap := h, toks := tk } I oI C oC D (LCg.lst ys) S (fun y news' => KCtEl news (g k) y news')) E' { s with heap := h, toks := tk })
    (fin : ∀ ys, StrsAre ys (ks.map g) → Fin ys news) : LCg.CompRest prog w A h₀ L m env elt x scope cl s S P Fin n 0 [] news := by
  have key : ∀ (j i : Nat) (ys : List Value), i + j = n → StrsAre ys ((ks.take i).map g) → LCg.CompRest prog w A h₀ L m env elt x scope cl s S P Fin j i ys news := by
    intro j
    induction j with
    | zero =>
      intro i ys hi hy
      have e : i = ks.length := by omega
      subst e
      rw [List.take_length] at hy
      exact LCg.CompRest.zero (fin ys hy)
    | succ j ih =>
      intro i ys hi hy
      refine LCg.CompRest.succ ?_
      intro v I oI C oC D m₂ h tk E' hv hC hx F N off ne
      have hk : ks[i]? = some (ks[i]'(by omega)) := List.getElem?_eq_getElem _
      refine wpAny_mono (turn i _ v I oI C oC D m₂ ys h tk E' hk hv hC hx F N off ne) (fun y s₂ hq => ?_) fun _ _ e => e
      obtain ⟨h', tk', nw, e, F', N', off', hS, hn, t', hy'⟩ := hq
      rw [hn] at N' off' hS
      refine ⟨h', tk', news, e, F', N', off', hS, ?_⟩
      rw [hy']
      refine ih (i + 1) _ (by omega) ?_
      rw [List.take_add_one, hk, List.map_append]
      exact kct_snoc hy
  exact key n 0 [] (by omega) (by simp only [List.take_zero, List.map_nil]; exact .nil)
def IntEl (news : CbLed) (r : Int) (y : Value) (news' : CbLed) : Prop := news' = news ∧ ∃ t : Tok, y = .int r t
theorem ints_snoc {y : Int} {t : Tok} : ∀ {vs : List Value} {ys : List Int}, IntsAre vs ys → IntsAre (vs ++ [.int y t]) (ys ++ [y])
  | _, _, .nil => .cons y t .nil
  | _, _, .cons z u r => .cons z u (ints_snoc r)
/-- a comprehension over signs whose element is an int -/
theorem rest_ints {prog : Program} {w : World} {A : Around} {h₀ : Heap} {L : Addr} {m : Frm} {env : Env} {elt : Expr} {x : Str} {scope : Scope} {cl : List (Str × Addr)} {s : Shared} {S : CbLed → Prop} {P : Nat → Value → Prop} {Fin : List Value → CbLed → Prop} {news : CbLed}
    {α : Type} (ks : List α) (g : α → Int) {n : Nat} (hks : ks.length = n)
    (turn : ∀ i k v I oI C oC D m₂ ys h tk (E' : Value → Shared → Prop), ks[i]? = some k → P i v → LCg.NsObj oC m₂ → m₂ x = some v → Fr h₀ L h m → News h₀ L h ((I, oI) :: (C, oC) :: (D, LCg.lst ys) :: news) → LCg.Off3 I C D news → ((@Ne Nat I C) ∧ (@Ne Nat I D) ∧ (@Ne Nat C D)) →
      wpAny (model prog w) A (eval elt (compEnvC scope cl C env)) (LCg.CompEnd h₀ L m { s with heap := h, toks := tk } I oI C oC D (LCg.lst ys) S (fun y news' => IntEl news (g k) y news')) E' { s with heap := h, toks := tk })
    (fin : ∀ ys, IntsAre ys (ks.map g) → Fin ys news) : LCg.CompRest prog w A h₀ L m env elt x scope cl s S P Fin n 0 [] news := by
  have key : ∀ (j i : Nat) (ys : List Value), i + j = n → IntsAre ys ((ks.take i).map g) → LCg.CompRest prog w A h₀ L m env elt x scope cl s S P Fin j i ys news := by
    intro j
    induction j with
    | zero =>
      intro i ys hi hy
      have e : i = ks.length := by omega
      subst e
      rw [List.take_length] at hy
      exact LCg.CompRest.zero (fin ys hy)
    | succ j ih =>
      intro i ys hi hy
      refine LCg.CompRest.succ ?_
      intro v I oI C oC D m₂ h tk E' hv hC hx F N off ne
      have hk : ks[i]? = some (ks[i]'(by omega)) := List.getElem?_eq_getElem _
      refine wpAny_mono (turn i _ v I oI C oC D m₂ ys h tk E' hk hv hC hx F N off ne) (fun y s₂ hq => ?_) fun _ _ e => e
      obtain ⟨h', tk', nw, e, F', N', off', hS, hn, t', hy'⟩ := hq
      rw [hn] at N' off' hS
      refine ⟨h', tk', news, e, F', N', off', hS, ?_⟩
      rw [hy']
      refine ih (i + 1) _ (by omega) ?_
      rw [List.take_add_one, hk, List.map_append]
      exact ints_snoc hy
  exact key n 0 [] (by omega) (by simp only [List.take_zero, List.map_nil]; exact .nil)
abbrev ClmH (dm um : Nat) (w : World) (f : Addr) (vs : List Value) (news : CbLed) (pre : Heap → Prop) (Ret : Heap → Addr → Frm → Shared → (Value → Shared → Prop) → Prop) : Prop :=
  ∀ (loose : List Str) (mean : ExcName → Option Value) (mg mb : Str → Option Value) (dp un : Nat) (gd : Option (List Code)) (cn : Str) (cs : Scope) (a : Addr) (ccd : Value) (cl : List (Str × Addr)) (outer : List Env) (A₀ : Around) (base h₀ : Heap) (L : Addr) (m : Frm) (s : Shared) (Q E : Value → Shared → Prop),
    Below A₀ base outer h₀ → Fr h₀ L s.heap m → (MyK w).In h₀ → News h₀ L s.heap news → Top topProg loose mean mg mb h₀ → cs.kind = .function → pre h₀ → dp < dm → un < um → Ret h₀ L m s Q →
      wpAny (model MyProg w) (ktrTop dp un gd cn cs L a ccd cl outer) (call (.ref f) vs) Q E s
theorem isl_up {h₀ h : Heap} {L l : Addr} {m : Frm} {its : Array Value} (F : Fr h₀ L h m) (H : h₀.IsList l its) : h.IsList l its := H.at fun o e => F.keep _ o e
abbrev RetCel (news : CbLed) (D : Addr) (k : Nat) (ab : Int × Int) : Heap → Addr → Frm → Shared → (Value → Shared → Prop) → Prop := fun h₀ L m s Q =>
  ∀ (t1 t2 : Tok) (h' : Heap) (tk' : Nat), 22 ≤ ab.1 → 33 ≤ ab.2 → ab.1 < 20000000 → ab.2 < 20000000 → Fr h₀ L h' m → News h₀ L h' ((D, W.listOf #[.int ab.1 t1, .int ab.2 t2] k) :: news) → Q (.ref D) { s with heap := h', toks := tk' }
def celStep (i : Nat) (ab : Int × Int) (x : Int) : Int × Int := if i % 2 = 0 then (ab.1 + x.fmod (10 ^ 6), ab.2) else (ab.1, ab.2 + x.fmod (10 ^ 6))
def celF : Nat → Int × Int → List Int → Int × Int
  | _, ab, [] => ab
  | i, ab, x :: r => celF (i + 1) (celStep i ab x) r
theorem cel_off {I d D : Addr} {o1 o2 x y : Obj} {z : Obj} {news : CbLed} (h : ∀ p ∈ (d, x) :: (D, z) :: news, p.1 < I) : ∀ p ∈ (d, x) :: (D, y) :: news, ∀ q ∈ [(I + 1, o1), (I, o2)], p.1 ≠ q.1 := by
  intro p hp q hq
  have hlt : p.1 < I := by
    rcases List.mem_cons.mp hp with rfl | hp
    · exact h _ (.head _)
    · rcases List.mem_cons.mp hp with rfl | hp
      · exact h (D, z) (.tail _ (.head _))
      · exact h p (.tail _ (.tail _ hp))
  rcases List.mem_cons.mp hq with rfl | hq
  · exact Nat.ne_of_lt (Nat.lt_succ_of_lt hlt)
  · rcases List.mem_cons.mp hq with rfl | hq
    · exact Nat.ne_of_lt hlt
    · cases hq
theorem par2 (i : Nat) : ((i : Int).fmod 2 = 0 ∧ i % 2 = 0) ∨ ((i : Int).fmod 2 = 1 ∧ i % 2 = 1) := by
  rw [Int.fmod_eq_emod_of_nonneg _ (by decide)]
  omega
theorem m6_bd (x : Int) : 0 ≤ x.fmod (10 ^ 6) ∧ x.fmod (10 ^ 6) < 1000000 := fmod_bd (a := x) (m := 10 ^ 6) (by decide)
theorem ints_cons {v : Value} {r : List Value} {ns : List Int} (h : IntsAre (v :: r) ns) : ∃ x rs t, v = .int x t ∧ ns = x :: rs ∧ IntsAre r rs := by
  cases h
  exact ⟨_, _, _, rfl, rfl, by assumption⟩
theorem allObj_mono : ∀ {ws : List (Addr × String)} {k k' : List (Addr × Obj) → Prop}, AllObj ws k → (∀ its, k its → k' its) → AllObj ws k'
  | [], _, _, h, m => m _ h
  | _ :: _, _, _, h, m => fun o ho => allObj_mono (h o ho) fun its x => m _ x
theorem items_ind {prog : Program} {w : World} {A : Around} {E : Value → Shared → Prop} {s : Shared} {env : Env} {h₀ : Heap} {target : Expr} {body : List Stmt} {Q : Flow → Shared → Prop} {ws : List (Addr × String)} {keep : CbLed} (J : Nat → List Value → Frm → CbLed → Prop)
    (step : ∀ i v r m news T t h tk, J i (v :: r) m news → IsTup h T #[.int (i : Int) t, v] → Fr h₀ env.locals h m → AllObj ws (fun its => News h₀ env.locals h (its ++ news) →
      wpAny (model prog w) A (assign target env (.ref T)) (fun _ s₂ => wpAny (model prog w) A (execs body env) (UnrPostW h₀ env.locals { s with heap := h, toks := tk } its (fun m' n' => SubL keep n' ∧ J (i + 1) r m' n') Q) E s₂) E { s with heap := h, toks := tk }))
    (done : ∀ i m news h tk, J i [] m news → Fr h₀ env.locals h m → News h₀ env.locals h news → Q .next { s with heap := h, toks := tk }) :
    ∀ (vs : List Value) (i : Nat) (m : Frm) (news : CbLed), J i vs m news → ItemsRest prog w A E h₀ env target body Q s ws keep (enumItems i vs) m news
  | [], i, m, news, hJ => fun h tk F N => done i m news h tk hJ F N
  | v :: r, i, m, news, hJ => by
    refine ItemsRest.pair fun T t h tk hT F => ?_
    have key := step i v r m news T t h tk hJ hT F
    refine allObj_mono key fun its k N => ?_
    refine wpAny_mono (k N) (fun _ s₂ x => wpAny_mono x (fun f s₃ y => ?_) fun _ _ e => e) fun _ _ e => e
    have up : ∀ s₃, UnrEndW h₀ env.locals { s with heap := h, toks := tk } its (fun m' n' => SubL keep n' ∧ J (i + 1) r m' n') s₃ → UnrEndW h₀ env.locals { s with heap := h, toks := tk } its (fun m' n' => SubL keep n' ∧ ItemsRest prog w A E h₀ env target body Q s ws keep (enumItems (i + 1) r) m' n') s₃ := by
      rintro s₃ ⟨h', tk', m', n', e, F', N', o', k', j'⟩
      exact ⟨h', tk', m', n', e, F', N', o', k', items_ind J step done r (i + 1) m' n' j'⟩
    cases f with
    | ret v => exact y
    | brk => exact y
    | next => exact up _ y
    | cont => exact up _ y
def JC (D2 D : Addr) (ws2 : List Value) (k : Nat) (news : CbLed) (fin : Int × Int) (i : Nat) (r : List Value) (m' : Frm) (n' : CbLed) : Prop :=
  ∀ P : Prop, (∀ (rs : List Int) (a b : Int) (ta tb : CbTok), n' = ((D2, W.listOf ws2.toArray 0) :: (D, W.listOf #[.int a ta, .int b tb] k) :: news) → IntsAre r rs → m' (Str.ofString "cells") = some (.ref D) → 22 ≤ a → 33 ≤ b → a + 1000000 * rs.length < 20000000 → b + 1000000 * rs.length < 20000000 → celF i (a, b) rs = fin → P) → P
theorem JC_mk {D2 D : Addr} {ws2 : List Value} {k : Nat} {news : CbLed} {fin : Int × Int} {i : Nat} {r : List Value} {m' : Frm} {rs : List Int} {a b : Int} {ta tb : CbTok} : IntsAre r rs → m' (Str.ofString "cells") = some (.ref D) → 22 ≤ a → 33 ≤ b → a + 1000000 * rs.length < 20000000 → b + 1000000 * rs.length < 20000000 → celF i (a, b) rs = fin → JC D2 D ws2 k news fin i r m' ((D2, W.listOf ws2.toArray 0) :: (D, W.listOf #[.int a ta, .int b tb] k) :: news) := fun a1 a2 a3 a4 a5 a6 a7 _ x => x rs a b ta tb rfl a1 a2 a3 a4 a5 a6 a7
theorem cel_end {h₀ h' : Heap} {L : Addr} {its : CbLed} {R : Frm → CbLed → Prop} {s₁ : Shared} {tk : Nat} {m' : Frm} {n' : CbLed} (F : Fr h₀ L h' m') (N : News h₀ L h' (its ++ n')) (off : ∀ p ∈ n', ∀ q ∈ its, p.1 ≠ q.1) (j : R m' n') : UnrEndW h₀ L s₁ its R { s₁ with heap := h', toks := tk } := ⟨h', tk, m', n', rfl, F, N, off, j⟩
theorem c_cel (w : World) (news : CbLed) (S D : Addr) (k : Nat) (vs : List Value) (ns : List Int) (t1 t2 : CbTok) :
    ClmH 900 5000 w 218 [.ref S, .ref D] ((D, W.listOf #[.int 22 t1, .int 33 t2] k) :: news) (fun h => h.IsList S vs.toArray ∧ IntsAre vs ns ∧ ns.length ≤ 63 ∧ (∀ p ∈ news, p.1 ≠ D)) (RetCel news D k (celF 0 (22, 33) (ns.take 18))) := by
  dsimp only [ClmH, MyProg, MyK]
  k_fill
  k_with_none
  k_with "my room" => ((try simp only [depth_under_make, depth_under_kw, depth_in1, depth_deeper, depth_caller]); show _ < 1000; (try dsimp only [ktrTop]); (first | exact lt_rm hdp rfl | exact lt_rm hun rfl | exact lt_rm0 hdp rfl | exact lt_rm0 hun rfl | exact lt_rmB hdp rfl | exact lt_rmB hun rfl | exact lt_rmC hdp rfl | exact lt_rmC hun rfl | omega))
  k_with "my all" => (first | assumption | (refine tnAll (by assumption) ?_; omega) | (refine tnAll2 (by assumption) ?_; omega))
  k_with "my ne" => (first | (with_reducible assumption) | exact Ne.symm (by with_reducible assumption))
  k_with "enter" => (refine wpAny_call ?_; k_dflt (first
    | cell_enter
    | (refine' code_defC ?k1 ?k2 ?k3 ?k4 ?k5 ?kA ?kF ?kK ?k6 ?k7 ?k8 ?k9 ?kB ?kD ?_ ?c2 ?c3 ?c4; (case kA => exact rfl); (case kF => exact rfl); (case kK => assumption); (case k1 => k_asm); (case k2 => k_asm); (case k3 => k_asm); (case k4 => k_asm); (case k5 => k_asm); (case k6 => k_is); (case k7 => k_is); (case k8 => k_room); (case k9 => exact BindsTo.of_eq rfl); (case kB => exact rfl); (case kD => decide +kernel); (case c2 => exact rfl); (case c3 => exact rfl); (case c4 => exact rfl); k_whole; intro g' L' h' tk' cells' FG' F' N' Y' B' X' T' l1; (try k_lt l1); k_cells Y'; (try simp only [List.cons_append, List.nil_append] at N'); (try dsimp only); (try k_lift B'); (try k_fold))))
  k_with "my subscriptTail Name Slice ref ref" => (k_here; k_dflt (refine kmk_slice_ints (ms := ns.take 18) (c := (ns.take 18).length) (by k_asm) (by k_asm) (isl_up (by k_asm) hq1) IsPart.none (IsPart.int _ _) hp2 (kmk_upto hp2 (by decide)) rfl ?_ (by with_unfolding_all rfl) (by intro _; with_unfolding_all rfl) (kmk_sz hp2 (Nat.le_trans hp3 (Nat.le_of_ble_eq_true rfl)))); intro D2 ws2 h2 F2 N2 l2 I2 c2 le2)
  k_with "my all" => assumption
  k_with "my setItem ref int" => (k_here; k_dflt (refine ksa_set (k := Int.fmod _ 2) (by k_asm) (by k_asm) (by k_upd) hab2 (fmod_bd (by decide)).1 (fmod_bd (by decide)).2 (Int.lt_trans (fmod_bd (by decide)).2 (by decide)) ?_); intro h8 F8 N8 I8 _ _)
  k_with "my eval Name" => (k_here; k_dflt (refine ld (by k_asm) (by with_unfolding_all exact hm) ?_))
  k_with "my exec For Tuple Call cons nil" => (k_here; (rename Fr _ _ _ _ => lF'); (with_unfolding_all refine' For_turns lF' ?_))
  intro loose mean mg mb dp un gd cn cs a ccd cl outer A₀ base h₀ L m0 s Q E hB hF hX hN hT hcs hpre hdp hun hret
  refine aE4 hpre ?_
  clear hpre
  intro hp1 hp2 hp3 hp4
  k_extra "enter"
  rename Fr h₀ L _ m0 => hFG
  have hq1 := isl_up hFG hp1
  k_steps
  refine ktu_enum (vs := ws2) (by rfl) F2 N2 (by k_mem) rfl rfl rfl ?_
  intro I1 hI1
  have d1 : D ≠ D2 := Nat.ne_of_lt (l2 _ (.head _))
  have d2 : D ≠ I1 := Nat.ne_of_lt (hI1 _ (.tail _ (.head _)))
  have d3 : D ≠ I1 + 1 := Nat.ne_of_lt (Nat.lt_succ_of_lt (hI1 _ (.tail _ (.head _))))
  refine items_ind (JC D2 D ws2 k news (celF 0 (22, 33) (ns.take 18))) ?_ ?_ _ _ _ _ ?_
  · intro i v r m1 n1 T1 t1 h1 tk1 hJ hT1 F1
    refine hJ _ ?_
    clear hJ
    intro rs a b ta tb e9 hI hm ha hb hab hbb hc
    subst e9
    obtain ⟨x, rs, tx, rfl, rfl, hI9⟩ := ints_cons hI
    have hab2 : IntsAre [.int a ta, .int b tb] [a, b] := .cons _ _ (.cons _ _ .nil)
    k_dflt ktu_objs
    k_steps
    have hx := m6_bd x
    simp only [List.length_cons] at hab hbb
    rcases par2 i with ⟨e, e'⟩ | ⟨e, e'⟩
    · rw [e] at N8
      refine cel_end (n' := (D2, W.listOf ws2.toArray 0) :: (D, W.listOf #[.int (a + x.fmod (10 ^ 6)) _, .int b tb] k) :: news) (by k_asm) N8 ?_ ⟨And.intro (.head _) trivial, JC_mk hI9 (by with_unfolding_all exact hm) (by omega) hb (by omega) (by omega) ?_⟩
      · exact cel_off hI1
      · rw [← hc, celF, celStep, if_pos e']
    · rw [e] at N8
      refine cel_end (n' := (D2, W.listOf ws2.toArray 0) :: (D, W.listOf #[.int a ta, .int (b + x.fmod (10 ^ 6)) _] k) :: news) (by k_asm) N8 ?_ ⟨And.intro (.head _) trivial, JC_mk hI9 (by with_unfolding_all exact hm) ha (by omega) (by omega) (by omega) ?_⟩
      · exact cel_off hI1
      · rw [← hc, celF, celStep, if_neg (by omega)]
  · intro i m1 n1 h1 tk1 hJ F1 N1
    refine hJ _ ?_
    clear hJ
    intro rs a b ta tb e9 hI hm ha hb hab hbb hc
    subst e9
    cases hI
    simp only [celF] at hc
    k_steps
    rw [← hc] at hret
    refine hret ta tb _ _ ha hb (by simp only [List.length_nil] at hab; omega) (by simp only [List.length_nil] at hbb; omega) (by k_asm) ?_
    refine fun p hp => (by k_asm : News h₀ L _ ((D2, W.listOf ws2.toArray 0) :: (D, W.listOf #[.int a ta, .int b tb] k) :: news)) p (List.mem_cons_of_mem _ hp)
  · have hlt : (ns.take 18).length ≤ 18 := by rw [List.length_take]; omega
    exact JC_mk I2 rfl (by decide) (by decide) (by omega) (by omega) rfl
def esc (wd : Str) : List Str := wd.cps.toList.map fun c => Str.ofString "\\" ++ ⟨#[c]⟩
def wri (wd : Str) (k : Int) : Str := if k = 0 ∨ (wd == Str.ofString "") = true then Str.ofString "\"" ++ wd ++ Str.ofString "\"\n" else Txt.join (Str.ofString "") (esc wd) ++ Str.ofString "\n"
theorem esc_one (c : Nat) : (Str.ofString "\\" ++ (⟨#[c]⟩ : Str)).length = 2 := by
  rw [Str.length_append]
  rfl
theorem esc_sum : ∀ l : List Nat, ((l.map fun c => Str.ofString "\\" ++ (⟨#[c]⟩ : Str)).map (·.length)).sum = 2 * l.length
  | [] => rfl
  | c :: r => by
    simp only [List.map_cons, List.sum_cons, esc_one, List.length_cons, esc_sum r]
    omega
theorem esc_len (wd : Str) : (Txt.join (Str.ofString "") (esc wd)).length = 2 * wd.length := by
  show (Builtin.Str.glued (PySem.Str.ofString "") (esc wd)).length = _
  rw [StrLaws.glued_eq_join]
  unfold esc
  have hl : wd.length = wd.cps.toList.length := by simp [Str.length]
  rw [hl]
  cases e : wd.cps.toList with
  | nil => rfl
  | cons a r =>
    have z : (PySem.Str.ofString "").length = 0 := by decide
    rw [List.map_cons, len_join_cons, z, ← List.map_cons (f := fun c => Str.ofString "\\" ++ (⟨#[c]⟩ : Str)), esc_sum]
    simp
theorem esc_ok {wd : Str} (h : wd.length ≤ 20) : ((esc wd).map (·.length)).sum + (esc wd).length * (Str.ofString "").length ≤ 16777216 := by
  have hl : wd.length = wd.cps.toList.length := by simp [Str.length]
  have z : (PySem.Str.ofString "").length = 0 := by decide
  unfold esc
  rw [esc_sum, z]
  omega
theorem ab1 (c : Nat) : (Str.ofString "\\").length + (⟨#[c]⟩ : Str).length ≤ 60 := by
  rw [show (Str.ofString "\\").length = 1 by decide]
  show 1 + 1 ≤ 60
  decide
theorem ab2 {wd : Str} (h : wd.length ≤ 20) : (Txt.join (Str.ofString "") (esc wd)).length + (Str.ofString "\n").length ≤ 60 := by
  rw [esc_len, show (Str.ofString "\n").length = 1 by decide]
  omega
theorem wri_q {wd : Str} {k : Int} (h : k = 0 ∨ (wd == Str.ofString "") = true) : Str.ofString "\"" ++ wd ++ Str.ofString "\"\n" = wri wd k := by unfold wri; rw [if_pos h]
theorem wri_e {wd : Str} {k : Int} (h : k ≠ 0) (h2 : (wd == Str.ofString "") = false) : Txt.join (Str.ofString "") (wd.cps.toList.map fun c => Str.ofString "\\" ++ ⟨#[c]⟩) ++ Str.ofString "\n" = wri wd k := by
  unfold wri; rw [if_neg (by rintro (h' | h'); · exact h h'
                             · rw [h2] at h'; cases h')]; rfl
theorem c_wri (w : World) (news : CbLed) (wd : CbStr) (tw : CbTok) (k : Int) (tk0 : CbTok) :
    Clm w 211 [.str wd tw, .int k tk0] news (wd.length ≤ 20 ∧ 0 ≤ k ∧ k ≤ 1) (RetV news (fun t => .str (wri wd k) t)) := by
  dsimp only [Clm, ClmD, MyProg, MyK]
  k_fill
  k_with_none
  k_with "my room" => ((try simp only [depth_under_make, depth_under_kw, depth_in1, depth_deeper, depth_caller]); show _ < 1000; (try dsimp only [ktrTop]); (first | exact lt_rm hdp rfl | exact lt_rm hun rfl | exact lt_rm0 hdp rfl | exact lt_rm0 hun rfl | exact lt_rmB hdp rfl | exact lt_rmB hun rfl | exact lt_rmC hdp rfl | exact lt_rmC hun rfl | omega))
  k_with "my all" => (first | (refine tnAll (by assumption) ?_; omega) | (refine tnAll2 (by assumption) ?_; omega))
  k_with "my ne" => (first | (with_reducible assumption) | exact Ne.symm (by with_reducible assumption))
  k_with "enter" => (refine wpAny_call ?_; k_dflt (first
    | cell_enter
    | (refine' code_defC ?k1 ?k2 ?k3 ?k4 ?k5 ?kA ?kF ?kK ?k6 ?k7 ?k8 ?k9 ?kB ?kD ?_ ?c2 ?c3 ?c4; (case kA => exact rfl); (case kF => exact rfl); (case kK => assumption); (case k1 => k_asm); (case k2 => k_asm); (case k3 => k_asm); (case k4 => k_asm); (case k5 => k_asm); (case k6 => k_is); (case k7 => k_is); (case k8 => k_room); (case k9 => exact BindsTo.of_eq rfl); (case kB => exact rfl); (case kD => decide +kernel); (case c2 => exact rfl); (case c3 => exact rfl); (case c4 => exact rfl); k_whole; intro g' L' h' tk' cells' FG' F' N' Y' B' X' T' l1; (try k_lt l1); k_cells Y'; (try simp only [List.cons_append, List.nil_append] at N'); (try dsimp only); (try k_lift B'); (try k_fold))))
  k_with "my eval ListComp" => (k_here; k_dflt (refine ListComp_S (by k_asm) (by with_unfolding_all rfl) (by decide) (by rfl) (by decide) (by rfl) ?_))
  k_with "my CompEnd" => (k_here; k_dflt (refine LCg.CompEnd.intro (by assumption) (by assumption) _ (fun _ h => h) (by with_unfolding_all assumption) trivial ?_); k_dflt (exact kct_el rfl rfl rfl))
  k_with "my binaryOp Add str str" => (k_here; k_dflt (first | (refine PyProof.Rows.add_str ?_ (le_size (ab1 _) rfl)) | (refine PyProof.Rows.add_str ?_ (le_size (ab2 hp1) rfl))); intro t9 tk9)
  k_with "my call builtin:str.join" => (k_here; k_dflt (refine PyProof.Rows.join_list (D := D) (items := ys.toArray) (ys := esc wd) ⟨_, (N9 _ (.head _)).1, rfl, _, rfl⟩ hy (esc_ok hp1) ?_); intro t7 k7)
  intro loose mean mg mb dp un gd cn cs a ccd cl outer A₀ base h₀ L m0 s Q E hB hF hX hN hT hcs hpre hdp hun hret
  refine aE3 hpre ?_; clear hpre; intro hp1 hp2 hp3
  k_extra "enter"
  k_steps
  · exact retS hret (wri_q (.inl (by assumption))) (by k_asm) (by k_asm) (fun _ h => h)
  · exact retS hret (wri_q (.inr (by assumption))) (by k_asm) (by k_asm) (fun _ h => h)
  · refine SrcS.intro (by rfl) (by k_asm) (by k_asm) (le_size (n := wd.length) (k := 20) hp1 rfl) ?_
    intro g9
    refine rest_strs wd.cps.toList (fun c => Str.ofString "\\" ++ ⟨#[c]⟩) (by simp) ?_ ?_
    · intro i k9 v I oI C oC D m2 ys h8 tk8 E8 hk9 hv9 hC9 hx9 F9 N9 off9 ne9
      obtain ⟨c, u, hc, rfl⟩ := hv9
      obtain rfl : k9 = c := by simpa [hc] using hk9.symm
      k_steps
    · intro ys hy D h9 tk9 F9 N9 O9
      k_steps
      exact retS hret (wri_e (by assumption) (by assumption)) (by k_asm) (by k_asm) (fun _ h => .tail _ h)
section
open Builtin Builtin.ObjectAttr
theorem sf_function : StoreFacts "function" [.type "function", .type "object"] "object.__setattr__" "object" where
  mro := by kernel_rfl
  slot := .of (owner := "object") (n := "__setattr__") (by rw [typeLookup_type, builtinLookup_eq_fast]; kernel_rfl) (by decide +kernel) (by decide +kernel) (by decide +kernel)
    (by first | exact .inl (by decide +kernel) | exact .inr (by decide +kernel)) (by rw [isSubtype_type]; kernel_rfl)
  entry := F.entry_object_sa
  kind := by decide +kernel
  split := by decide +kernel
  hasOwner := by decide +kernel
  args := fun a b c => by unfold argsOk; kernel_rfl
  passes := fun self => by kernel_rfl
theorem tl_function_read : typeLookup (.type "function") (Str.ofString "read") = pure none := by rw [typeLookup_type, builtinLookup_eq_fast]; kernel_rfl
theorem fn_setattr {prog : Program} {w : World} {A : Around} {E : Value → Shared → Prop} {s : Shared} {x : Addr} {o : Obj} {v : Value} {Q : Unit → Shared → Prop}
    (hx : s.heap.get? x = some o) (hc : o.cls = .type "function") (hdn : o.dict = none) (hnc : ∀ c, o.data ≠ .cls c)
    (hq : ∀ h' tk' od, h'.get? x = some { o with dict := some s.heap.objs.size } → h'.get? s.heap.objs.size = some od → LCg.NsObj od (fun y => if y = Str.ofString "read" then some v else none) →
      (∀ b ob, b ≠ x → s.heap.get? b = some ob → h'.get? b = some ob) → Q () { s with heap := h', toks := tk' }) :
    wpAny (model prog w) A (setAttr (.ref x) (Str.ofString "read") v) Q E s := by
  have hT : ∀ t, ({ s with toks := t } : Shared).TypeIs (.ref x) "function" := fun _ => ⟨o, hx, hc⟩
  have hpass := sf_function.passes (.ref x)
  unfold setAttr
  refine wpAny_bind (wpAny_mkText (wpAny_bind ?_))
  refine wpAny_callSpecial?_slot (hT _) sf_function.slot (wpAny_call_entry sf_function.slot (hT _) sf_function.entry ?_ (sf_function.args _ _ _))
  unfold Builtin.«object.__setattr__»
  repeat (first | rw [refuse_eq] | (with_reducible refine wpAny_typeOf (hT _) ?_) | (rw [sf_function.mro]) | (rw [hpass]) | (rw [tl_function_read]) | (with_reducible refine wpAny_loadPart_at hx ?_; rw [hc]) | wp_step)
  have hhd : (!true || !typeHasDict (Value.type "function")) = false := by decide +kernel
  have hfc : finalisedInACycleAlone "function" = false := by decide +kernel
  dsimp only
  rw [hdn]
  dsimp only
  rw [if_neg (by rw [hhd]; exact Bool.false_ne_true)]
  split
  · rename_i c hcd
    exact absurd hcd (hnc c)
  · have hx₁ : (s.heap.push { cls := .type "dict", data := .dict #[] }).get? x = some o := Heap.get?_push_of_some _ hx
    have hxs : x ≠ s.heap.objs.size := Nat.ne_of_lt (Heap.lt_size hx)
    refine wpAny_bind (wpAny_alloc' ?_)
    refine wpAny_bind (wpAny_update' hx₁ ?_)
    unfold dictMade
    dsimp only
    rw [if_neg (by rw [hfc]; exact Bool.false_ne_true)]
    refine wpAny_bind (wpAny_pure (wpAny_pure ?_))
    have hgd : ((s.heap.push { cls := .type "dict", data := .dict #[] }).update x fun o => { cls := o.cls, dict := some s.heap.objs.size, data := o.data, slots := o.slots }).get? s.heap.objs.size
        = some { cls := .type "dict", data := .dict #[] } :=
      (Heap.get?_update_ne _ _ _ _ hxs.symm).trans (Heap.get?_push_at rfl rfl)
    have hnd : ((s.heap.push { cls := .type "dict", data := .dict #[] }).update x fun o => { cls := o.cls, dict := some s.heap.objs.size, data := o.data, slots := o.slots }).Ns s.heap.objs.size (fun _ => none) :=
      ⟨_, #[], _, hgd, rfl, fun e he => absurd he (by simp), fun _ => rfl⟩
    show wpAny _ _ (storeInDict s.heap.objs.size (.str (Str.ofString "read") s.toks) (Str.ofString "read") v) _ _ _
    unfold storeInDict newKeyGuard
    refine wpAny_bind (wpAny_pure (wpAny_bind (wpAny_nsSet1 (Heap.Ns1.of_empty hnd) fun h' hn' hs => ?_)))
    obtain ⟨oD, esD, epD, hoD, hdD, hcD⟩ := hn'.count (Within.cons (Str.ofString "read") v Within.nil)
    refine wpAny_bind (wpAny_lookBehind hoD (by rw [hdD]; exact pastItsLine_dict (Nat.le_trans hcD (by rw [List.length_cons, List.length_nil, sizeLine_eq]; omega))) ?_)
    refine wpAny_pure ⟨_, rfl, wpAny_pure ?_⟩
    refine hq h' _ oD ?_ hoD ?_ ?_
    · refine (hs.2 x hxs).trans (Heap.get?_update_self _ hx₁ ?_)
      have hfr := (Heap.get?_some_iff.mp hx).2
      obtain ⟨oc, od, odt, osl⟩ := o
      cases odt <;> first | rfl | exact hfr
    · obtain ⟨o', es, ep, e1, e2, e3, eu, e4⟩ := hn'
      rw [hoD] at e1
      cases e1
      exact ⟨es, ep, e2, e3, e4⟩
    · intro b ob hbx hb
      exact (hs.2 b (Nat.ne_of_lt (Heap.lt_size hb))).trans ((Heap.get?_update_ne _ _ _ _ hbx).trans (Heap.get?_push_of_some _ hb))
theorem fn_set_K {prog : Program} {w : World} {A : Around} {E : Value → Shared → Prop} {s : Shared} {x : Addr} {o : Obj} {v : Value} {Q : Unit → Shared → Prop} {h₀ : Heap} {L : Addr} {m : Frm} {news : CbLed} {g : Obj → CbLed}
    (F : Fr h₀ L s.heap m) (N : News h₀ L s.heap news) (U : UpdF x o news g)
    (hc : o.cls = .type "function") (hdn : o.dict = none) (hnc : ∀ c, o.data ≠ .cls c)
    (h : ∀ n od h' tk', Fr h₀ L h' m → News h₀ L h' ((n, od) :: g { o with dict := some n }) → LCg.NsObj od (fun y => if y = Str.ofString "read" then some v else none) → (∀ p ∈ news, p.1 < n) → Q () { s with heap := h', toks := tk' }) :
    wpAny (model prog w) A (setAttr (.ref x) (Str.ofString "read") v) Q E s := by
  have hx := N _ (updF_mem U)
  refine fn_setattr hx.1 hc hdn hnc fun h' tk' od e1 e2 e3 e4 => ?_
  have hn : h₀.get? s.heap.objs.size = none := next_is_new F
  refine h s.heap.objs.size od h' tk' ⟨F.ns.at' fun o' e => e4 L o' (Ne.symm hx.2.1) e, fun b o' e => e4 b o' (fun q => by rw [q, hx.2.2] at e; cases e) (F.keep b o' e), F.above⟩ ?_ e3 (fun p hp => Heap.lt_size (N p hp).1)
  obtain ⟨pre, post, rfl, hg, a, b⟩ := U.split
  rw [hg]
  intro p hp
  rcases List.mem_cons.mp hp with rfl | hp
  · exact ⟨e2, Ne.symm (Nat.ne_of_lt F.ns.lt), hn⟩
  · rcases List.mem_append.mp hp with hp | hp
    · have z := N p (List.mem_append_left _ hp)
      exact ⟨e4 _ _ (a p hp) z.1, z.2⟩
    · rcases List.mem_cons.mp hp with rfl | hp
      · exact ⟨e1, hx.2⟩
      · have z := N p (List.mem_append_right _ (.tail _ hp))
        exact ⟨e4 _ _ (b p hp) z.1, z.2⟩
theorem tl_function_ga : typeLookup (.type "function") "__getattribute__" = pure (some (.builtin "object.__getattribute__")) := by rw [typeLookup_type, builtinLookup_eq_fast]; kernel_rfl
theorem tl_function_gx : typeLookup (.type "function") "__getattr__" = pure none := by rw [typeLookup_type, builtinLookup_eq_fast]; kernel_rfl
theorem slot_function_ga : Slot "function" "__getattribute__" "object.__getattribute__" := .of (owner := "object") (n := "__getattribute__") (by rw [typeLookup_type, builtinLookup_eq_fast]; kernel_rfl) (by decide +kernel) (by decide +kernel) (by decide +kernel)
    (by first | exact .inl (by decide +kernel) | exact .inr (by decide +kernel)) (by rw [isSubtype_type]; kernel_rfl)
theorem ga_args (o a : Value) : argsOk "object.__getattribute__" ⟨[o, a], []⟩ := by unfold argsOk; kernel_rfl
theorem entry_ga : entryFor table "object.__getattribute__" = some Builtin.«object.__getattribute__» := entryFor_of_tree (by kernel_rfl)
theorem canon_ga : (Manifest.canonical "object.__getattribute__" != "object.__getattribute__") = false := by decide +kernel
theorem fn_getMethod {prog : Program} {w : World} {A : Around} {E : Value → Shared → Prop} {s : Shared} {x n gf : Addr} {o : Obj} {pl : Sem Bool} {Q : Value × List Value → Shared → Prop} {mm : Str → Option Value}
    (hx : s.heap.get? x = some o) (hc : o.cls = .type "function") (hdn : o.dict = some n) (hnc : ∀ c, o.data ≠ .cls c) (hn : s.heap.Ns n mm) (hm : mm (Str.ofString "read") = some (.ref gf))
    (h : Q (.ref gf, []) { s with toks := s.toks + 1 }) :
    wpAny (model prog w) A (getMethod (.ref x) (Str.ofString "read") pl) Q E s := by
  have hT : ∀ t, ({ s with toks := t } : Shared).TypeIs (.ref x) "function" := fun _ => ⟨o, hx, hc⟩
  have hT0 : s.TypeIs (.ref x) "function" := ⟨o, hx, hc⟩
  unfold getMethod
  refine wpAny_bind (wpAny_specialOf hT0 tl_function_ga ?_)
  show wpAny _ _ (if (Manifest.canonical "object.__getattribute__" != "object.__getattribute__") = true then _ else _) _ _ _
  rw [if_neg (by rw [canon_ga]; exact Bool.false_ne_true)]
  refine wpAny_bind (wpAny_specialOf hT0 tl_function_gx ?_)
  dsimp only
  rw [if_neg (by simp)]
  refine wpAny_bind (wpAny_specialOf hT0 tl_function_read ?_)
  dsimp only
  unfold getAttr getAttrBy
  refine wpAny_bind (wpAny_bind (wpAny_mkText (wpAny_holding (wpAny_bind (wpAny_typeOf (hT _) (wpAny_bind (wpAny_of_eq tl_function_ga ?_)))))))
  show wpAny _ _ (getAttrByItsOwn (.ref x) (.str (Str.ofString "read") s.toks) (.type "function") (.builtin "object.__getattribute__") true false) _ _ _
  unfold getAttrByItsOwn hookBefore callGetattribute boundAndCalled
  refine wpAny_bind (wpAny_of_eq (show (if onTheHeap (.type "function") then typeLookup (.type "function") "__getattr__" else pure none) = pure none from rfl) ?_)
  refine wpAny_bind (wpAny_attempt (wpAny_holding ?_))
  show wpAny _ _ (bindSpecial (.builtin "object.__getattribute__") (.ref x) >>= _) _ _ _
  refine wpAny_bind (wpAny_of_eq (slot_function_ga.bind _) ?_)
  refine wpAny_call_entry slot_function_ga (hT _) entry_ga ?_ (ga_args _ _)
  unfold Builtin.«object.__getattribute__» find ownThenClass inOwnDict ObjectAttr.ownDict
  repeat (first | (with_reducible refine wpAny_typeOf (hT _) ?_) | (rw [tl_function_read]) | (with_reducible refine wpAny_loadPart_at hx ?_; rw [hc]) | wp_step)
  split
  · rename_i c hcd
    exact absurd hcd (hnc c)
  · unfold instanceDict inDict
    refine wpAny_bind (wpAny_loadPart_at hx ?_)
    rw [hc]
    dsimp only
    rw [hdn]
    refine wpAny_pure ?_
    refine wpAny_nsGet hn ?_
    rw [hm]
    dsimp only
    repeat (first | (refine ⟨_, rfl, ?_⟩) | wp_step)
    all_goals exact h
theorem fn_read_K {prog : Program} {w : World} {A : Around} {E : Value → Shared → Prop} {s : Shared} {x n gf : Addr} {o od : Obj} {pl : Sem Bool} {Q : Value × List Value → Shared → Prop} {mm : Str → Option Value} {h₀ : Heap} {L : Addr} {news : CbLed}
    (N : News h₀ L s.heap news) (hx : (x, o) ∈ news) (hno : (n, od) ∈ news) (hc : o.cls = .type "function") (hdn : o.dict = some n) (hnc : ∀ c, o.data ≠ .cls c) (hn : LCg.NsObj od mm) (hm : mm (Str.ofString "read") = some (.ref gf))
    (h : Q (.ref gf, []) { s with toks := s.toks + 1 }) :
    wpAny (model prog w) A (getMethod (.ref x) (Str.ofString "read") pl) Q E s := fn_getMethod (N _ hx).1 hc hdn hnc (hn.ns (N _ hno).1) hm h
end
section
local macro_rules | `(tactic| k_updF) => `(tactic| assumption)
abbrev RetRd (led : Int → Tok → CbLed) (p : Int) (c : Nat) : Heap → Addr → Frm → Shared → (Value → Shared → Prop) → Prop := fun h₀ L m s Q =>
  ∀ (t tp : Tok) (h' : Heap) (tk' : Nat), Fr h₀ L h' m → News h₀ L h' (led p tp) → Q (.str ⟨#[c]⟩ t) { s with heap := h', toks := tk' }
def ReadC (w : World) (g cg lst cat ctx : Addr) (og ocg ocat octx : Obj) (T : Str) : Prop :=
  ∀ (base : CbLed) (p : Int) (tp t1 : CbTok) (kk c : Nat), ClmD 895 4990 w g [.int 1 t1] ((lst, W.listOf #[.int p tp] kk) :: (g, og) :: (cg, ocg) :: (cat, ocat) :: (ctx, octx) :: base)
    (0 ≤ p ∧ T.cps[p.toNat]? = some c ∧ T.cps.size < 100 ∧ (∀ q ∈ base, q.1 ≠ lst)) (RetRd (fun p tp => (lst, W.listOf #[.int p tp] kk) :: (g, og) :: (cg, ocg) :: (cat, ocat) :: (ctx, octx) :: base) (p + 1) c)
theorem slice_one {T : Str} {p : Int} {c : Nat} (h0 : 0 ≤ p) (h : T.cps[p.toNat]? = some c) : Txt.slice T (some ([p].getD (Int.toNat 0) 0)) (some ([p].getD (Int.toNat 0) 0 + 1)) = ⟨#[c]⟩ := by
  have hlt : p.toNat < T.cps.size := (Array.getElem?_eq_some_iff.mp h).1
  have hl : T.length = T.cps.size := rfl
  have e := slice_one_closes (x := T) (n := p) h0 (by omega)
  have e2 : T.cps.getD p.toNat 0 = c := by rw [Array.getD_eq_getD_getElem?, h]; rfl
  rw [e2] at e
  exact eq_of_beq e
theorem fnAt_news {h₀ h : Heap} {L q : Addr} {o : Obj} {news : CbLed} (N : News h₀ L h news) (hm : (q, o) ∈ news) (hd : ∃ fd, o.data = .func fd) : FnAt q h := by
  obtain ⟨fd, hd⟩ := hd
  obtain ⟨c, d, da, sl⟩ := o
  cases hd
  exact ⟨c, d, fd, sl, (N _ hm).1⟩
theorem rdr_have {w : World} {h₀ h : Heap} {L : Addr} {pl x d n8 f c2 g cg lst cat ctx : Addr} {o1 ox od od8 of oc2 og ocg ol ocat octx : Obj} {p : Addr × Obj} {news : CbLed} {G : Prop} (T : Str)
    (_N : News h₀ L h ((pl, o1) :: (x, ox) :: (d, od) :: (n8, od8) :: (f, of) :: (c2, oc2) :: (g, og) :: (cg, ocg) :: (lst, ol) :: (cat, ocat) :: (ctx, octx) :: p :: news))
    (inn : ReadC w g cg lst cat ctx og ocg ocat octx T) (next : ReadC w g cg lst cat ctx og ocg ocat octx T → G) : G := next inn
abbrev rdDict (w : World) (ln : Int) (f pl : Addr) (k1 t1 k2 k3 t3 k4 : Tok) : Obj := dictOf [{ hash := PyData.keyHash w.params (Str.ofString "lineno"), key := .str (Str.ofString "lineno") k1, val := .int ln t1 }, { hash := PyData.keyHash w.params (Str.ofString "instream"), key := .str (Str.ofString "instream") k2, val := .ref f }, { hash := PyData.keyHash w.params (Str.ofString "whitespace"), key := .str (Str.ofString "whitespace") k3, val := .str (Str.ofString "\n\t\r ") t3 }, { hash := PyData.keyHash w.params (Str.ofString "pushback"), key := .str (Str.ofString "pushback") k4, val := .ref pl }] 4
abbrev RetRdr (w : World) (news : CbLed) (T : Str) : Heap → Addr → Frm → Shared → (Value → Shared → Prop) → Prop := fun h₀ L m s Q =>
  ∀ (x d pl n8 f g cg lst cat ctx : Addr) (od8 ofn og ocg ocat octx : Obj) (k1 t1 k2 k3 t3 k4 : CbTok) (kk : Nat) (pt : Array Value) (tp : Tok) (h' : Heap) (tk' : Nat), @LT.lt Nat _ ctx cat ∧ @LT.lt Nat _ cat lst ∧ @LT.lt Nat _ lst cg ∧ @LT.lt Nat _ cg g ∧ @LT.lt Nat _ g f ∧ @LT.lt Nat _ f n8 ∧ @LT.lt Nat _ n8 d ∧ @LT.lt Nat _ d x ∧ @LT.lt Nat _ x pl ∧ AllLt ctx ((201, tabObj pt) :: news) → ofn.cls = .type "function" ∧ ofn.dict = some n8 ∧ (∀ c, ofn.data ≠ .cls c) ∧ LCg.NsObj od8 (fun y => if y = Str.ofString "read" then some (.ref g) else none) ∧ (∃ fd, og.data = .func fd) → ReadC w g cg lst cat ctx og ocg ocat octx T → Fr h₀ L h' m → News h₀ L h' ((x, instObj 195 d) :: (d, rdDict w 1 f pl k1 t1 k2 k3 t3 k4) :: (lst, W.listOf #[.int 0 tp] kk) :: (pl, W.listOf #[] 0) :: (n8, od8) :: (f, ofn) :: (g, og) :: (cg, ocg) :: (cat, ocat) :: (ctx, octx) :: ((201, tabObj pt) :: news)) → Q (.ref x) { s with heap := h', toks := tk' }
theorem allLt_le {l : CbLed} {a b : Addr} (h : AllLt a l) (e : a ≤ b) : AllLt b l := allLt_of fun p hp => Nat.lt_of_lt_of_le (kst_ltOf h p hp) e
theorem rdr_ret {w : World} {news : CbLed} {T : Str} {h₀ h' : Heap} {L : Addr} {m : Frm} {s : Shared} {Q : Value → Shared → Prop} {tk' : Nat} {tp : Tok} {x d pl n8 f c2 g cg lst cat ctx : Addr} {od8 ofn oc2 og ocg ocat octx : Obj} {k1 t1 k2 k3 t3 k4 : Tok} {kk : Nat} {pt : Array Value}
    (hret : RetRdr w news T h₀ L m s Q) (F : Fr h₀ L h' m)
    (N : News h₀ L h' ((pl, W.listOf #[] 0) :: (x, instObj 195 d) :: (d, rdDict w 1 f pl k1 t1 k2 k3 t3 k4) :: (n8, od8) :: (f, ofn) :: (c2, oc2) :: (g, og) :: (cg, ocg) :: (lst, W.listOf #[.int 0 tp] kk) ::(cat, ocat) :: (ctx, octx) :: (201, tabObj pt) :: news))
    (hR : ReadC w g cg lst cat ctx og ocg ocat octx T) (hC : @LT.lt Nat _ ctx cat ∧ @LT.lt Nat _ cat lst ∧ @LT.lt Nat _ lst cg ∧ @LT.lt Nat _ cg g ∧ @LT.lt Nat _ g f ∧ @LT.lt Nat _ f n8 ∧ @LT.lt Nat _ n8 d ∧ @LT.lt Nat _ d x ∧ @LT.lt Nat _ x pl ∧ AllLt ctx ((201, tabObj pt) :: news)) (hF : ofn.cls = .type "function" ∧ ofn.dict = some n8 ∧ (∀ c, ofn.data ≠ .cls c) ∧ LCg.NsObj od8 (fun y => if y = Str.ofString "read" then some (.ref g) else none) ∧ (∃ fd, og.data = .func fd)) : Q (.ref x) { s with heap := h', toks := tk' } := by
  refine hret x d pl n8 f g cg lst cat ctx od8 ofn og ocg ocat octx k1 t1 k2 k3 t3 k4 kk pt tp h' tk' hC hF hR F (cb_drop N fun q hq => ?_)
  simp only [List.mem_cons] at hq ⊢
  rcases hq with h | h | h | h | h | h | h | h | h | h | h | h <;> simp [h]
theorem c_rdr (w : World) (news : CbLed) (x : CbStr) (tx : CbTok) :
    Clm w 206 [.str x tx] ((201, tabObj #[]) :: news) (x.cps.size < 100 ∧ ∀ p ∈ news, p.1 ≠ 201) (RetRdr w news x) := by
  dsimp only [Clm, ClmD, MyProg, MyK]
  k_fill
  k_with_none
  k_with "my room" => ((try simp only [depth_under_make, depth_under_kw, depth_in1, depth_deeper, depth_caller]); show _ < 1000; (try dsimp only [ktrTop]); (first | exact lt_rm hdp rfl | exact lt_rm hun rfl | exact lt_rm0 hdp rfl | exact lt_rm0 hun rfl | exact lt_rmB hdp rfl | exact lt_rmB hun rfl | exact lt_rmC hdp rfl | exact lt_rmC hun rfl | exact dpS hdp2 | exact unS hun2 (by assumption) | exact lt_rmS hdp2 rfl | exact lt_rmS hun2 rfl | omega))
  k_with "my all" => (first | assumption | assumption | (refine tnAll (by assumption) ?_; omega) | (refine tnAll2 (by assumption) ?_; omega))
  k_with "my ne" => (first | (with_reducible assumption) | exact Ne.symm (by with_reducible assumption))
  k_with "enter" => (refine wpAny_call ?_; k_dflt (first
    | cell_enter
    | (refine' code_defC ?k1 ?k2 ?k3 ?k4 ?k5 ?kA ?kF ?kK ?k6 ?k7 ?k8 ?k9 ?kB ?kD ?_ ?c2 ?c3 ?c4; (case kA => exact rfl); (case kF => exact rfl); (case kK => assumption); (case k1 => k_asm); (case k2 => k_asm); (case k3 => k_asm); (case k4 => k_asm); (case k5 => k_asm); (case k6 => k_is); (case k7 => k_is); (case k8 => k_room); (case k9 => exact BindsTo.of_eq rfl); (case kB => exact rfl); (case kD => decide +kernel); (case c2 => exact rfl); (case c3 => exact rfl); (case c4 => exact rfl); k_whole; intro g' L' h' tk' cells' FG' F' N' Y' B' X' T' l1; (try k_lt l1); k_cells Y'; (try simp only [List.cons_append, List.nil_append] at N'); (try dsimp only); (try k_lift B'); (try k_fold))))
  k_with "my setAttr ref" => (k_here; k_dflt (refine fn_set_K (by k_asm) (by k_asm) (by k_updF) rfl rfl (by intro c h; cases h) ?_); intro n8 od8 h8 tk8 F8 N8 hod8 l8; (try dsimp only at N8); (try k_lt l8))
  k_with "my storeName" => (rw [slice_one hq1 hq2])
  k_with "enter inner" => (refine' code_nest ?k1 ?k2 ?k3 ?k4 ?k5 ?kA ?kF ?kK ?k6 ?k7 ?k8 ?k9 ?kB ?_ ?c2 ?c3 ?c4 ?c5; (case kA => exact rfl); (case kF => exact rfl); (case kK => first | exact rfl | exact hcs2); (case k1 => k_asm); (case k2 => k_asm); (case k3 => k_asm); (case k4 => k_asm); (case k5 => k_asm); (case k6 => k_mem); (case k7 => exact codeRec_news (by k_asm) (by k_mem) (by assumption) (by assumption)); (case k8 => k_room); (case k9 => exact BindsTo.of_eq rfl); (case c5 => decide); (case kB => exact locs rfl); (case c2 => first | exact rfl | assumption); (case c3 => first | exact rfl | assumption); (case c4 => first | exact rfl | assumption); k_whole; intro g' L' h' FG' F' N' B' X' T'; (try dsimp only); (try k_lift B'); (try k_fold))
  intro loose mean mg mb dp un gd cn cs a ccd cl outer A₀ base h₀ L m0 s Q E hB hF hX hN hT hcs hpre hdp hun hret
  obtain ⟨hp1, hp2⟩ := hpre
  k_extra "enter"
  (rename Frag.In _ g' => hX9)
  have codeHd1 := codeHd_of_K (c := 205) (P := 201) hX9 (by kernel_rfl)
  k_steps
  refine rdr_have (w := w) x (by with_unfolding_all assumption) ?_ (fun hin => ?_)
  · intro base2 p tp t1 kk c
    dsimp only [ClmD, MyProg, MyK]
    intro loose2 mean2 mg2 mb2 dp2 un2 gd2 cn2 cs2 a2 ccd2 cl2 outer2 A₂ base3 hh2 L2 m2 s2 Q2 E2 hB2 hF2 hX2 hN2 hT2 hcs2 hpre2 hdp2 hun2 hret2
    refine aE4 hpre2 ?_; clear hpre2; intro hq1 hq2 hq3 hq4
    refine wpAny_call ?_
    k_extra "enter inner"
    k_steps
    exact hret2 _ _ _ _ (by k_asm) (by with_unfolding_all assumption)
  · have hlt := l1
    refine rdr_ret hret (by k_asm) (by with_unfolding_all assumption) hin ⟨?_, ?_, ?_, ?_, ?_, ?_, ?_, ?_, ?_, ?_⟩ ⟨?_, ?_, ?_, by assumption, ⟨_, rfl⟩⟩
    any_goals (first | omega | exact rfl)
    · exact allLt_le (l := (201, tabObj _) :: news) ⟨hlt.1, hlt.2⟩ (Nat.le_succ _)
    · intro c h; cases h
end
theorem rc_sub {base : CbLed} (a b : Addr × Obj) (l p n f g cg cat ctx : Addr × Obj) (_u : Unit := ()) : ∀ q ∈ l :: g :: cg :: cat :: ctx :: a :: b :: p :: n :: f :: base, q ∈ a :: b :: l :: p :: n :: f :: g :: cg :: cat :: ctx :: base := by
  intro q hq
  simp only [List.mem_cons] at hq ⊢
  rcases hq with h | h | h | h | h | h | h | h | h | h | h <;> simp [h]
theorem rc_off {x d pl n8 f g cg lst cat ctx : Addr} {base : CbLed} {o1 o2 o3 o4 o5 : Obj} (hC : @LT.lt Nat _ ctx cat ∧ @LT.lt Nat _ cat lst ∧ @LT.lt Nat _ lst cg ∧ @LT.lt Nat _ cg g ∧ @LT.lt Nat _ g f ∧ @LT.lt Nat _ f n8 ∧ @LT.lt Nat _ n8 d ∧ @LT.lt Nat _ d x ∧ @LT.lt Nat _ x pl ∧ (∀ p ∈ base, p.1 ≠ d) ∧ (∀ p ∈ base, p.1 ≠ lst)) : ∀ q ∈ (x, o1) :: (d, o2) :: (pl, o3) :: (n8, o4) :: (f, o5) :: base, q.1 ≠ lst := by
  have hCh := hC
  refine aE11 hC ?_; clear hC; intro hc1 hc2 hc3 hc4 hc5 hc6 hc7 hc8 hc9 hc10 hc11
  intro q hq
  simp only [List.mem_cons] at hq
  rcases hq with rfl | rfl | rfl | rfl | rfl | hq
  · exact neN (by show @Ne Nat _ _; omega)
  · exact neN (by show @Ne Nat _ _; omega)
  · exact neN (by show @Ne Nat _ _; omega)
  · exact neN (by show @Ne Nat _ _; omega)
  · exact neN (by show @Ne Nat _ _; omega)
  · exact hc11 q hq
theorem rc_sub2 {base : CbLed} (a b : Addr × Obj) (l p n f g cg cat ctx : Addr × Obj) : ∀ q ∈ a :: b :: l :: p :: n :: f :: g :: cg :: cat :: ctx :: base, q ∈ l :: g :: cg :: cat :: ctx :: a :: b :: p :: n :: f :: base := by
  intro q hq
  simp only [List.mem_cons] at hq ⊢
  rcases hq with h | h | h | h | h | h | h | h | h | h | h <;> simp [h]
abbrev RetRc (led : Int → Tok → Tok → Tok → CbLed) (ln : Int) (c : Nat) : Heap → Addr → Frm → Shared → (Value → Shared → Prop) → Prop := fun h₀ L m s Q =>
  ∀ (ln' : Int) (k1 t1 t tp : Tok) (h' : Heap) (tk' : Nat), ln ≤ ln' → ln' ≤ ln + 1 → Fr h₀ L h' m → News h₀ L h' (led ln' k1 t1 tp) → Q (.str ⟨#[c]⟩ t) { s with heap := h', toks := tk' }
abbrev ClmC (dm um : Nat) (w : World) (f : Addr) (vs : List Value) (news : CbLed) (pre : Prop) (Ret : Heap → Addr → Frm → Shared → (Value → Shared → Prop) → Prop) : Prop :=
  ∀ (loose : List Str) (mean : ExcName → Option Value) (mg mb : Str → Option Value) (dp un : Nat) (gd : Option (List Code)) (cn : Str) (cs : Scope) (a : Addr) (ccd : Value) (cl : List (Str × Addr)) (outer : List Env) (A₀ : Around) (base h₀ : Heap) (L : Addr) (m : Frm) (s : Shared) (Q E : Value → Shared → Prop),
    Below A₀ base outer h₀ → Fr h₀ L s.heap m → (MyK w).In h₀ → News h₀ L s.heap news → Top topProg loose mean mg mb h₀ → cs.kind = .function → pre → dp < dm → un < um → Ret h₀ L m s Q →
      codeAny (model MyProg w) (ktrTop dp un gd cn cs L a ccd cl outer) (.call (.ref f) ⟨vs, []⟩) (fun r s' => match r with | .ok (.ret v) => Q v s' | .ok _ => False | .error e => E e s') s
theorem ClmC.call {dm um : Nat} {w : World} {f : Addr} {vs : List Value} {news : CbLed} {pre : Prop} {Ret : Heap → Addr → Frm → Shared → (Value → Shared → Prop) → Prop} (h : ClmC dm um w f vs news pre Ret) : ClmD dm um w f vs news pre Ret :=
  fun l me mg mb dp un gd cn cs a cd cl ou A b h0 L m s Q E x1 x2 x3 x4 x5 x6 x7 x8 x9 x10 => wpAny_call (h l me mg mb dp un gd cn cs a cd cl ou A b h0 L m s Q E x1 x2 x3 x4 x5 x6 x7 x8 x9 x10)
theorem c_rcC (w : World)  (x d pl n8 f g cg lst cat ctx : Addr) (od8 ofn og ocg ocat octx : Obj) (k1 t1 k2 k3 t3 k4 : CbTok) (kk : Nat) (base : CbLed) (T : CbStr) (ln p : Int) (tp : CbTok) (c : Nat) :
    ClmC 885 4980 w 178 [.ref x] ((x, instObj 195 d) :: (d, rdDict w ln f pl k1 t1 k2 k3 t3 k4) :: (lst, W.listOf #[.int p tp] kk) :: (pl, W.listOf #[] 0) :: (n8, od8) :: (f, ofn) :: (g, og) :: (cg, ocg) :: (cat, ocat) :: (ctx, octx) :: base) (0 ≤ p ∧ T.cps[p.toNat]? = some c ∧ T.cps.size < 100 ∧ 0 ≤ ln ∧ ln < 1000 ∧ (@LT.lt Nat _ ctx cat ∧ @LT.lt Nat _ cat lst ∧ @LT.lt Nat _ lst cg ∧ @LT.lt Nat _ cg g ∧ @LT.lt Nat _ g f ∧ @LT.lt Nat _ f n8 ∧ @LT.lt Nat _ n8 d ∧ @LT.lt Nat _ d x ∧ @LT.lt Nat _ x pl ∧ (∀ p ∈ base, p.1 ≠ d) ∧ (∀ p ∈ base, p.1 ≠ lst)) ∧ (ofn.cls = .type "function" ∧ ofn.dict = some n8 ∧ (∀ c, ofn.data ≠ .cls c) ∧ LCg.NsObj od8 (fun y => if y = Str.ofString "read" then some (.ref g) else none) ∧ (∃ fd, og.data = .func fd)) ∧ ReadC w g cg lst cat ctx og ocg ocat octx T) ((RetRc (fun ln k1 t1 tp => ((x, instObj 195 d) :: (d, rdDict w ln f pl k1 t1 k2 k3 t3 k4) :: (lst, W.listOf #[.int (p + 1) tp] kk) :: (pl, W.listOf #[] 0) :: (n8, od8) :: (f, ofn) :: (g, og) :: (cg, ocg) :: (cat, ocat) :: (ctx, octx) :: base)) ln c)) := by
  dsimp only [ClmC, MyProg, MyK]
  k_fill
  k_with_none
  k_with "my room" => ((try simp only [depth_under_make, depth_under_kw, depth_in1, depth_deeper, depth_caller]); show _ < 1000; (try dsimp only [ktrTop]); (first | exact lt_rm hdp rfl | exact lt_rm hun rfl | exact lt_rm0 hdp rfl | exact lt_rm0 hun rfl | exact lt_rmB hdp rfl | exact lt_rmB hun rfl | exact lt_rmC hdp rfl | exact lt_rmC hun rfl | omega))
  k_with "my all" => (first | assumption | (refine tnAll (by assumption) ?_; omega) | (refine tnAll2 (by assumption) ?_; omega))
  k_with "my ne" => (first | (with_reducible assumption) | exact Ne.symm (by with_reducible assumption))
  k_with "enter" => (k_dflt (first
    | cell_enter
    | (refine' code_defC ?k1 ?k2 ?k3 ?k4 ?k5 ?kA ?kF ?kK ?k6 ?k7 ?k8 ?k9 ?kB ?kD ?_ ?c2 ?c3 ?c4; (case kA => exact rfl); (case kF => exact rfl); (case kK => assumption); (case k1 => k_asm); (case k2 => k_asm); (case k3 => k_asm); (case k4 => k_asm); (case k5 => k_asm); (case k6 => k_is); (case k7 => k_is); (case k8 => k_room); (case k9 => exact BindsTo.of_eq rfl); (case kB => exact rfl); (case kD => decide +kernel); (case c2 => exact rfl); (case c3 => exact rfl); (case c4 => exact rfl); k_whole; intro g' L' h' tk' cells' FG' F' N' Y' B' X' T' l1; (try k_lt l1); k_cells Y'; (try simp only [List.cons_append, List.nil_append] at N'); (try dsimp only); (try k_lift B'); (try k_fold))))
  k_with "my getMethod ref" => (k_here; k_dflt (refine fn_read_K (by k_asm) (x := f) (by k_mem) (by k_mem) hF1 hF2 hF3 hF4 (if_pos rfl) ?_); (try dsimp only))
  k_with "my callWith ref" => (k_here; k_dflt (refine callWith_F (fnAt_news (by k_asm) (q := g) (by k_mem) hF5) ?_))
  k_with "my FnAt" => (k_dflt (exact fnAt_news (by k_asm) (by k_mem) hF5))
  k_with "my call ref" => (k_dflt (refine hR _ _ _ _ _ _ _ _ _ _ _ _ _ _ _ _ _ _ _ _ _ _ _ _ _ _ _ (by k_asm) (by k_asm) (by k_asm) (cb_drop (by k_asm) (rc_sub _ _ _ _ _ _ _ _ _ _)) (by k_asm) (by first | rfl | assumption) (⟨hp1, hp2, hp3, rc_off hCh⟩) (by (try simp only [depth_under_make, depth_under_kw, depth_in1, depth_deeper, depth_caller]); show _ < _; (try dsimp only [ktrTop]); (first | exact lt_rm hdp rfl | exact lt_rm hun rfl | exact lt_rm0 hdp rfl | exact lt_rm0 hun rfl | exact lt_rmB hdp rfl | exact lt_rmB hun rfl | exact lt_rmC hdp rfl | exact lt_rmC hun rfl | omega)) (by (try simp only [units_under_make, units_under_kw, units_in1, units_deeper, units_caller]); show _ < _; (try dsimp only [ktrTop]); (first | exact lt_rm hdp rfl | exact lt_rm hun rfl | exact lt_rm0 hdp rfl | exact lt_rm0 hun rfl | exact lt_rmB hdp rfl | exact lt_rmB hun rfl | exact lt_rmC hdp rfl | exact lt_rmC hun rfl | omega)) ?_); intro t7 tp7 h7 tk7 F7 N7; (replace N7 := cb_drop N7 (rc_sub2 _ _ _ _ _ _ _ _ _ _)))
  intro loose mean mg mb dp un gd cn cs a ccd cl outer A₀ base h₀ L m0 s Q E hB hF hX hN hT hcs hpre hdp hun hret
  refine aE8 hpre ?_; clear hpre; intro hp1 hp2 hp3 hp4 hp5 hC hq96 hR; refine aE5 hq96 ?_; clear hq96; intro hF1 hF2 hF3 hF4 hF5
  have hCh := hC
  refine aE11 hC ?_; clear hC; intro hc1 hc2 hc3 hc4 hc5 hc6 hc7 hc8 hc9 hc10 hc11
  k_extra "enter"
  k_steps
  · exact hret (ln + 1) _ _ _ _ _ _ (by omega) (by omega) (by k_asm) (by with_unfolding_all assumption)
  · exact hret ln _ _ _ _ _ _ (by omega) (by omega) (by k_asm) (by with_unfolding_all assumption)
theorem callBorrowed_eq (f : Value) (pos : List Value) : callBorrowed f pos = (call f pos).keep [borrowed] := by
  unfold callBorrowed call runValue run
  show Sem.call _ _ _ _ _ = Sem.call _ _ _ _ _
  congr 1
  funext r
  rcases r with e | (v | _ | _ | _) <;> rfl
theorem slot_ci_iter : Slot "callable_iterator" "__iter__" "callable_iterator.__iter__" := .of (owner := "callable_iterator") (n := "__iter__") (by rw [typeLookup_type, builtinLookup_eq_fast]; kernel_rfl) (by decide +kernel) (by decide +kernel) (by decide +kernel)
    (by first | exact .inl (by decide +kernel) | exact .inr (by decide +kernel)) (by rw [isSubtype_type]; kernel_rfl)
theorem slot_ci_next : Slot "callable_iterator" "__next__" "callable_iterator.__next__" := .of (owner := "callable_iterator") (n := "__next__") (by rw [typeLookup_type, builtinLookup_eq_fast]; kernel_rfl) (by decide +kernel) (by decide +kernel) (by decide +kernel)
    (by first | exact .inl (by decide +kernel) | exact .inr (by decide +kernel)) (by rw [isSubtype_type]; kernel_rfl)
theorem entry_ci_iter : entryFor table "callable_iterator.__iter__" = some Builtin.«dict_keyiterator.__iter__» := entryFor_alias (id' := "dict_keyiterator.__iter__") (by kernel_rfl) rfl (by decide +kernel) (by kernel_rfl)
theorem entry_ci_next : entryFor table "callable_iterator.__next__" = some Builtin.«callable_iterator.__next__» := entryFor_of_tree (by kernel_rfl)
theorem args_ci_iter (a : Value) : argsOk "callable_iterator.__iter__" ⟨[a], []⟩ := by unfold argsOk; kernel_rfl
theorem args_ci_next (a : Value) : argsOk "callable_iterator.__next__" ⟨[a], []⟩ := by unfold argsOk; kernel_rfl
abbrev ciObj (f sen : Value) : Obj := { cls := .type "callable_iterator", data := .fields #[f, sen, .bool false] }
section
variable {prog : Program} {w : World} {A : Around} {E : Value → Shared → Prop} {s : Shared} {I q fn x : Addr} {sen : Str} {t : Tok}
theorem ci_pyIter {f sv : Value} {Q : Value → Shared → Prop} (hI : s.heap.get? I = some (ciObj f sv)) (h : Q (.ref I) s) : wpAny (model prog w) A (pyIter (.ref I)) Q E s := by
  have hT : s.TypeIs (.ref I) "callable_iterator" := ⟨_, hI, rfl⟩
  refine wpAny_pyIter_slot hT slot_ci_iter (wpAny_call_entry slot_ci_iter hT entry_ci_iter ?_ (args_ci_iter _))
  show wpAny _ _ (ret (.ref I)) _ _ s
  exact wpAny_pure ⟨_, rfl, "callable_iterator", _, hT, slot_ci_next.lookup, h⟩
theorem ci_pyNext {Q : Option Value → Shared → Prop} (hI : s.heap.get? I = some (ciObj (.ref q) (.str sen t))) (hq : s.heap.get? q = some (methodObj (.ref fn) (.ref x))) (hf : FnAt fn s.heap)
    (h : codeAny (model prog w) A.in1 (.call (.ref fn) ⟨[.ref x], []⟩) (fun r s' => match r with
      | .ok (.ret v) => ∃ y u, v = .str y u ∧ s'.heap.get? I = some (ciObj (.ref q) (.str sen t)) ∧ (sen == y) = false ∧ Q (some v) s'
      | .ok _ => False
      | .error _ => False) s) : wpAny (model prog w) A (pyNext (.ref I)) Q E s := by
  have hT : s.TypeIs (.ref I) "callable_iterator" := ⟨_, hI, rfl⟩
  have hdt : (ciObj (.ref q) (.str sen t)).data = .fields #[.ref q, .str sen t, .bool false] := rfl
  have f0 : (#[.ref q, .str sen t, .bool false] : Array Value)[0]? = some (.ref q) := rfl
  have f1 : (#[.ref q, .str sen t, .bool false] : Array Value)[1]? = some (.str sen t) := rfl
  have f2 : (#[.ref q, .str sen t, .bool false] : Array Value)[2]? = some (.bool false) := rfl
  unfold pyNext
  refine wpAny_bind (wpAny_attempt (wpAny_callSpecial?_slot (name := Str.ofString "__next__") hT slot_ci_next (wpAny_call_entry slot_ci_next hT entry_ci_next ?_ (args_ci_next _))))
  unfold Builtin.«callable_iterator.__next__»
  repeat (first
    | (with_reducible refine wpAny_field hI hdt f2 ?_)
    | (with_reducible refine wpAny_field hI hdt f0 ?_)
    | wp_step)
  obtain ⟨oc, od, fd, sl, hfn⟩ := hf
  refine wpAny_load hfn ?_
  dsimp only
  refine wpAny_pure ?_
  rw [if_pos rfl, callBorrowed_eq]
  refine Calls.wpAny_keep (wpAny_call (method_call hq (codeAny_mono h fun r s' z => ?_)))
  rcases r with e | (v | _ | _ | _) <;> first | exact z.elim | skip
  obtain ⟨y, u, rfl, hI', hne, hQ⟩ := z
  dsimp only
  repeat (first
    | (with_reducible refine wpAny_field hI' hdt f2 ?_)
    | (with_reducible refine wpAny_field hI' hdt f1 ?_)
    | (refine eqBool_str ?_; rw [hne])
    | (refine ⟨_, rfl, ?_⟩)
    | wp_step)
  all_goals exact hQ
theorem kind_iter : builtinKind "iter" = none := by decide +kernel
theorem plain_iter : plainId "iter" = true := by decide +kernel
theorem entry_iter : entryFor table "iter" = some Builtin.«iter» := entryFor_of_tree (by kernel_rfl)
theorem args_iter2 (a b : Value) : argsOk "iter" ⟨[a, b], []⟩ := by unfold argsOk; kernel_rfl
theorem tl_method_call : typeLookup (.type "method") "__call__" = pure (some (.builtin "method.__call__")) := by rw [typeLookup_type, builtinLookup_eq_fast]; kernel_rfl
theorem ci_new {f self : Value} {Q : Value → Shared → Prop} (hq : s.heap.get? q = some (methodObj f self))
    (h : Q (.ref s.heap.objs.size) { s with heap := s.heap.push (ciObj (.ref q) (.str sen t)) }) : wpAny (model prog w) A (call (.builtin "iter") [.ref q, .str sen t]) Q E s := by
  have hT : s.TypeIs (.ref q) "method" := ⟨_, hq, rfl⟩
  refine Calls.call_function_entry kind_iter plain_iter entry_iter (args_iter2 _ _) ?_
  unfold Builtin.«iter»
  repeat (first
    | (with_reducible refine wpAny_specialOf hT tl_method_call ?_)
    | (refine ⟨_, rfl, ?_⟩)
    | wp_step)
  all_goals exact h
theorem ci_new_K {f self : Value} {Q : Value → Shared → Prop} {h₀ : Heap} {L : Addr} {m : Frm} {news : CbLed} (F : Fr h₀ L s.heap m) (N : News h₀ L s.heap news) (hm : (q, methodObj f self) ∈ news)
    (h : ∀ q7, q7 = q → ∀ I h', Fr h₀ L h' m → News h₀ L h' ((I, ciObj (.ref q) (.str sen t)) :: news) → (∀ p ∈ news, p.1 < I) → Q (.ref I) { s with heap := h' }) : wpAny (model prog w) A (call (.builtin "iter") [.ref q, .str sen t]) Q E s := by
  refine ci_new (N _ hm).1 (h _ rfl _ _ (F.keeps fun _ _ e => Heap.get?_push_of_some _ e) ?_ fun p hp => Heap.lt_size (N p hp).1)
  intro p hp
  rcases List.mem_cons.mp hp with rfl | hp
  · exact ⟨Heap.get?_push_size _ rfl, Ne.symm (Nat.ne_of_lt F.ns.lt), next_is_new F⟩
  · exact (N.grown fun _ _ e => Heap.get?_push_of_some _ e) p hp
end
section
variable {prog : Program} {w : World} {A : Around} {E : Value → Shared → Prop} {env : Env} {v : Str} {body : List Stmt} {Q : Flow → Shared → Prop} {I : Addr}
theorem owit_turn_mono {P R : Shared → Prop} (hpr : ∀ s, P s → R s) {r : Option Value} {s : Shared} (h : OwitTurn prog w A E env v body Q P r s) : OwitTurn prog w A E env v body Q R r s := by
  cases r with
  | none => exact h
  | some y =>
    refine wpAny_mono (show wpAny _ _ _ _ _ _ from h) (fun _ s₂ h₂ => wpAny_mono h₂ (fun f s₃ h₃ => ?_) fun _ _ z => z) fun _ _ z => z
    cases f with
    | next => exact hpr _ h₃
    | cont => exact hpr _ h₃
    | brk => exact h₃
    | ret _ => exact h₃
theorem owit_ind (J : Nat → Shared → Prop) (h0 : ∀ s, ¬ J 0 s) (step : ∀ n s, J (n + 1) s → wpAny (model prog w) A (pyNext (.ref I)) (OwitTurn prog w A E env v body Q (J n)) E s) :
    ∀ n s, J n s → OwitRest prog w A E env v body Q I n s
  | 0, s, h => absurd h (h0 s)
  | n + 1, s, h => OwitRest.succ (wpAny_mono (step n s h) (fun _ _ x => owit_turn_mono (owit_ind J h0 step n) x) fun _ _ z => z)
end
theorem empty_ne (c : Nat) : (Str.ofString "" == (⟨#[c]⟩ : Str)) = false := by
  rw [show Str.ofString "" = (⟨#[]⟩ : Str) from by decide +kernel]
  simp
theorem fn178 {w : World} {h₀ h : Heap} {L : Addr} {m : Frm} (X : (MyK w).In h₀) (F : Fr h₀ L h m) : FnAt 178 h :=
  ⟨_, _, _, _, (X.keeps F.keep) _ _ (show (lawK w.params).lookup 178 = some _ from rfl)⟩
theorem rc_next (w : World) (x d pl n8 f g cg lst cat ctx : Addr) (od8 ofn og ocg ocat octx : Obj) (k1 t1 k2 k3 t3 k4 : CbTok) (kk : Nat) (base : CbLed) (T : CbStr) (ln p : Int) (tp t0 : CbTok) (c : Nat) (I q : Addr)
    {loose : List Str} {mean : ExcName → Option Value} {mg mb : Str → Option Value} {dp un : Nat} {gd : Option (List Code)} {cn : Str} {cs : Scope} {a : Addr} {ccd : Value} {cl : List (Str × Addr)} {outer : List Env} {A₀ : Around} {base0 h₀ : Heap} {L : Addr} {m : Frm} {s : Shared} {Q : Option Value → Shared → Prop} {E : Value → Shared → Prop}
    (hB : Below A₀ base0 outer h₀) (hF : Fr h₀ L s.heap m) (hX : (MyK w).In h₀) (hN : News h₀ L s.heap ((I, ciObj (.ref q) (.str (Str.ofString "") t0)) :: (q, methodObj (.ref 178) (.ref x)) :: ((x, instObj 195 d) :: (d, rdDict w ln f pl k1 t1 k2 k3 t3 k4) :: (lst, W.listOf #[.int p tp] kk) :: (pl, W.listOf #[] 0) :: (n8, od8) :: (f, ofn) :: (g, og) :: (cg, ocg) :: (cat, ocat) :: (ctx, octx) :: base))) (hT : Top topProg loose mean mg mb h₀) (hcs : cs.kind = .function)
    (hpre : 0 ≤ p ∧ T.cps[p.toNat]? = some c ∧ T.cps.size < 100 ∧ 0 ≤ ln ∧ ln < 1000 ∧ (@LT.lt Nat _ ctx cat ∧ @LT.lt Nat _ cat lst ∧ @LT.lt Nat _ lst cg ∧ @LT.lt Nat _ cg g ∧ @LT.lt Nat _ g f ∧ @LT.lt Nat _ f n8 ∧ @LT.lt Nat _ n8 d ∧ @LT.lt Nat _ d x ∧ @LT.lt Nat _ x pl ∧ (∀ p ∈ base, p.1 ≠ d) ∧ (∀ p ∈ base, p.1 ≠ lst)) ∧ (ofn.cls = .type "function" ∧ ofn.dict = some n8 ∧ (∀ c, ofn.data ≠ .cls c) ∧ LCg.NsObj od8 (fun y => if y = Str.ofString "read" then some (.ref g) else none) ∧ (∃ fd, og.data = .func fd)) ∧ ReadC w g cg lst cat ctx og ocg ocat octx T) (hI : @LT.lt Nat _ x I) (hq : @LT.lt Nat _ x q) (hdp : dp < 884) (hun : un < 4970)
    (next : ∀ (ln' : Int) (k1 t1 t tp : Tok) (h' : Heap) (tk' : Nat), ln ≤ ln' → ln' ≤ ln + 1 → Fr h₀ L h' m → News h₀ L h' ((I, ciObj (.ref q) (.str (Str.ofString "") t0)) :: (q, methodObj (.ref 178) (.ref x)) :: ((x, instObj 195 d) :: (d, rdDict w ln' f pl k1 t1 k2 k3 t3 k4) :: (lst, W.listOf #[.int (p + 1) tp] kk) :: (pl, W.listOf #[] 0) :: (n8, od8) :: (f, ofn) :: (g, og) :: (cg, ocg) :: (cat, ocat) :: (ctx, octx) :: base)) → Q (some (.str ⟨#[c]⟩ t)) { s with heap := h', toks := tk' }) :
    wpAny (model MyProg w) (ktrTop dp un gd cn cs L a ccd cl outer) (pyNext (.ref I)) Q E s := by
  refine aE8 hpre ?_; clear hpre; intro p1 p2 p3 p4 p5 hq95 p6 p7; refine aE11 hq95 ?_; clear hq95; intro c1 c2 c3 c4 c5 c6 c7 c8 c9 c10 c11
  have hoff : ∀ e : Addr, @LT.lt Nat _ e x → (∀ r ∈ base, r.1 ≠ e) → ∀ r ∈ (I, ciObj (.ref q) (.str (Str.ofString "") t0)) :: (q, methodObj (.ref 178) (.ref x)) :: base, r.1 ≠ e := fun e he2 he3 r hr => by
    rcases List.mem_cons.mp hr with rfl | hr
    · exact neN (by show @Ne Nat _ _; dsimp only; omega)
    · rcases List.mem_cons.mp hr with rfl | hr
      · exact neN (by show @Ne Nat _ _; dsimp only; omega)
      · exact he3 r hr
  refine ci_pyNext (hN _ (.head _)).1 (hN _ (.tail _ (.head _))).1 (fn178 hX hF) (codeAny_mono (c_rcC w x d pl n8 f g cg lst cat ctx od8 ofn og ocg ocat octx k1 t1 k2 k3 t3 k4 kk ((I, ciObj (.ref q) (.str (Str.ofString "") t0)) :: (q, methodObj (.ref 178) (.ref x)) :: base) T ln p tp c loose mean mg mb dp (un + 1) gd cn cs a ccd cl outer A₀ base0 h₀ L m s
    (fun v s' => ∃ y u, v = .str y u ∧ s'.heap.get? I = some (ciObj (.ref q) (.str (Str.ofString "") t0)) ∧ (Str.ofString "" == y) = false ∧ Q (some v) s') (fun _ _ => False) hB hF hX (cb_drop hN fun r hr => ?_) hT hcs
    ⟨p1, p2, p3, p4, p5, ⟨c1, c2, c3, c4, c5, c6, c7, c8, c9, hoff d (by omega) c10, hoff lst (by omega) c11⟩, p6, p7⟩ (by omega) (by omega) ?_) fun r s' z => ?_)
  · simp only [List.mem_cons] at hr ⊢
    rcases hr with h | h | h | h | h | h | h | h | h | h | h | h | h <;> simp [h]
  · intro ln' k1' t1' t tp' h' tk' e1 e2 F' N'
    have N2 : News h₀ L h' ((I, ciObj (.ref q) (.str (Str.ofString "") t0)) :: (q, methodObj (.ref 178) (.ref x)) :: ((x, instObj 195 d) :: (d, rdDict w ln' f pl k1' t1' k2 k3 t3 k4) :: (lst, W.listOf #[.int (p + 1) tp'] kk) :: (pl, W.listOf #[] 0) :: (n8, od8) :: (f, ofn) :: (g, og) :: (cg, ocg) :: (cat, ocat) :: (ctx, octx) :: base)) := cb_drop N' fun r hr => by
      simp only [List.mem_cons] at hr ⊢
      rcases hr with h | h | h | h | h | h | h | h | h | h | h | h | h <;> simp [h]
    exact ⟨_, _, rfl, (N2 _ (.head _)).1, empty_ne c, next ln' k1' t1' t tp' h' tk' e1 e2 F' N2⟩
  · rcases r with e | (v | _ | _ | _) <;> first | exact z | exact z.elim
theorem rc_call (w : World) (x d pl n8 f g cg lst cat ctx : Addr) (od8 ofn og ocg ocat octx : Obj) (k1 t1 k2 k3 t3 k4 : CbTok) (kk : Nat) (base : CbLed) (T : CbStr) (ln p : Int) (tp t0 : CbTok) (c : Nat) (I q : Addr)
    {loose : List Str} {mean : ExcName → Option Value} {mg mb : Str → Option Value} {dp un : Nat} {gd : Option (List Code)} {cn : Str} {cs : Scope} {a : Addr} {ccd : Value} {cl : List (Str × Addr)} {outer : List Env} {A₀ : Around} {base0 h₀ : Heap} {L : Addr} {m : Frm} {s : Shared} {Q : Value → Shared → Prop} {E : Value → Shared → Prop}
    (hB : Below A₀ base0 outer h₀) (hF : Fr h₀ L s.heap m) (hX : (MyK w).In h₀) (hN : News h₀ L s.heap ((I, ciObj (.ref q) (.str (Str.ofString "") t0)) :: (q, methodObj (.ref 178) (.ref x)) :: ((x, instObj 195 d) :: (d, rdDict w ln f pl k1 t1 k2 k3 t3 k4) :: (lst, W.listOf #[.int p tp] kk) :: (pl, W.listOf #[] 0) :: (n8, od8) :: (f, ofn) :: (g, og) :: (cg, ocg) :: (cat, ocat) :: (ctx, octx) :: base))) (hT : Top topProg loose mean mg mb h₀) (hcs : cs.kind = .function)
    (hpre : 0 ≤ p ∧ T.cps[p.toNat]? = some c ∧ T.cps.size < 100 ∧ 0 ≤ ln ∧ ln < 1000 ∧ (@LT.lt Nat _ ctx cat ∧ @LT.lt Nat _ cat lst ∧ @LT.lt Nat _ lst cg ∧ @LT.lt Nat _ cg g ∧ @LT.lt Nat _ g f ∧ @LT.lt Nat _ f n8 ∧ @LT.lt Nat _ n8 d ∧ @LT.lt Nat _ d x ∧ @LT.lt Nat _ x pl ∧ (∀ p ∈ base, p.1 ≠ d) ∧ (∀ p ∈ base, p.1 ≠ lst)) ∧ (ofn.cls = .type "function" ∧ ofn.dict = some n8 ∧ (∀ c, ofn.data ≠ .cls c) ∧ LCg.NsObj od8 (fun y => if y = Str.ofString "read" then some (.ref g) else none) ∧ (∃ fd, og.data = .func fd)) ∧ ReadC w g cg lst cat ctx og ocg ocat octx T) (hI : @LT.lt Nat _ x I) (hq : @LT.lt Nat _ x q) (hdp : dp < 884) (hun : un < 4970)
    (next : ∀ (ln' : Int) (k1 t1 t tp : Tok) (h' : Heap) (tk' : Nat), ln ≤ ln' → ln' ≤ ln + 1 → Fr h₀ L h' m → News h₀ L h' ((I, ciObj (.ref q) (.str (Str.ofString "") t0)) :: (q, methodObj (.ref 178) (.ref x)) :: ((x, instObj 195 d) :: (d, rdDict w ln' f pl k1 t1 k2 k3 t3 k4) :: (lst, W.listOf #[.int (p + 1) tp] kk) :: (pl, W.listOf #[] 0) :: (n8, od8) :: (f, ofn) :: (g, og) :: (cg, ocg) :: (cat, ocat) :: (ctx, octx) :: base)) → Q (.str ⟨#[c]⟩ t) { s with heap := h', toks := tk' }) :
    wpAny (model MyProg w) (ktrTop dp un gd cn cs L a ccd cl outer) (call (.ref 178) [.ref x]) Q E s := by
  refine aE8 hpre ?_; clear hpre; intro p1 p2 p3 p4 p5 hq95 p6 p7; refine aE11 hq95 ?_; clear hq95; intro c1 c2 c3 c4 c5 c6 c7 c8 c9 c10 c11
  have hoff : ∀ e : Addr, @LT.lt Nat _ e x → (∀ r ∈ base, r.1 ≠ e) → ∀ r ∈ (I, ciObj (.ref q) (.str (Str.ofString "") t0)) :: (q, methodObj (.ref 178) (.ref x)) :: base, r.1 ≠ e := fun e he2 he3 r hr => by
    rcases List.mem_cons.mp hr with rfl | hr
    · exact neN (by show @Ne Nat _ _; dsimp only; omega)
    · rcases List.mem_cons.mp hr with rfl | hr
      · exact neN (by show @Ne Nat _ _; dsimp only; omega)
      · exact he3 r hr
  refine ClmC.call (c_rcC w x d pl n8 f g cg lst cat ctx od8 ofn og ocg ocat octx k1 t1 k2 k3 t3 k4 kk ((I, ciObj (.ref q) (.str (Str.ofString "") t0)) :: (q, methodObj (.ref 178) (.ref x)) :: base) T ln p tp c) loose mean mg mb dp un gd cn cs a ccd cl outer A₀ base0 h₀ L m s Q E hB hF hX (cb_drop hN fun r hr => ?_) hT hcs
    ⟨p1, p2, p3, p4, p5, ⟨c1, c2, c3, c4, c5, c6, c7, c8, c9, hoff d (by omega) c10, hoff lst (by omega) c11⟩, p6, p7⟩ (by omega) (by omega) ?_
  · simp only [List.mem_cons] at hr ⊢
    rcases hr with h | h | h | h | h | h | h | h | h | h | h | h | h <;> simp [h]
  · intro ln' k1' t1' t tp' h' tk' e1 e2 F' N'
    have N2 : News h₀ L h' ((I, ciObj (.ref q) (.str (Str.ofString "") t0)) :: (q, methodObj (.ref 178) (.ref x)) :: ((x, instObj 195 d) :: (d, rdDict w ln' f pl k1' t1' k2 k3 t3 k4) :: (lst, W.listOf #[.int (p + 1) tp'] kk) :: (pl, W.listOf #[] 0) :: (n8, od8) :: (f, ofn) :: (g, og) :: (cg, ocg) :: (cat, ocat) :: (ctx, octx) :: base)) := cb_drop N' fun r hr => by
      simp only [List.mem_cons] at hr ⊢
      rcases hr with h | h | h | h | h | h | h | h | h | h | h | h | h <;> simp [h]
    exact next ln' k1' t1' t tp' h' tk' e1 e2 F' N2
theorem str_ind {prog : Program} {w : World} {A : Around} {E : Value → Shared → Prop} {s : Shared} {env : Env} {h₀ : Heap} {x : Str} {body : List Stmt} {Q : Flow → Shared → Prop} {I : Addr} (J : List Nat → Frm → CbLed → Prop)
    (step : ∀ c r m news u it h tk, J (c :: r) m news → Fr h₀ env.locals h (fun y => if y = x then some (.str ⟨#[c]⟩ u) else m y) → News h₀ env.locals h ((I, it) :: news) →
      wpAny (model prog w) A (execs body env) (UnrPost h₀ env.locals { s with heap := h, toks := tk } I it (J r) Q) E { s with heap := h, toks := tk })
    (done : ∀ m news h tk, J [] m news → Fr h₀ env.locals h m → News h₀ env.locals h news → Q .next { s with heap := h, toks := tk }) :
    ∀ (l : List Nat) (m : Frm) (news : CbLed), J l m news → StrRest prog w A E h₀ env x body Q s I (l.map fun c => (⟨#[c]⟩ : Str)) m news
  | [], m, news, hJ => fun h tk F N => done m news h tk hJ F N
  | c :: r, m, news, hJ => by
    refine StrRest.succ fun u it h tk F N => wpAny_mono (step c r m news u it h tk hJ F N) (fun f s₃ y => ?_) fun _ _ e => e
    have up : ∀ s₃, UnrEnd h₀ env.locals { s with heap := h, toks := tk } I it (J r) s₃ → UnrEnd h₀ env.locals { s with heap := h, toks := tk } I it (StrRest prog w A E h₀ env x body Q s I (r.map fun c => (⟨#[c]⟩ : Str))) s₃ := by
      rintro s₃ ⟨h', tk', m', n', e, F', N', o', j'⟩
      exact ⟨h', tk', m', n', e, F', N', o', str_ind J step done r m' n' j'⟩
    cases f with
    | ret v => exact y
    | brk => exact y
    | next => exact up _ y
    | cont => exact up _ y
theorem news_tail {h₀ h : Heap} {L : Addr} {p : Addr × Obj} {rest : CbLed} {G : Prop} (_N : News h₀ L h (p :: rest)) (k : ∀ r, r = rest → G) : G := k _ rfl
theorem tuple_K {prog : Program} {w : World} {A : Around} {E : Value → Shared → Prop} {s : Shared} {h₀ : Heap} {L l : Addr} {m : Frm} {news : CbLed} {vs : List Value} {k : Nat} {Q : Value → Shared → Prop} (F : Fr h₀ L s.heap m) (N : News h₀ L s.heap news) (hm : (l, W.listOf vs.toArray k) ∈ news) (hz : vs.length ≤ sizeLine)
    (h : ∀ D h', Fr h₀ L h' m → News h₀ L h' ((D, tupO vs.toArray) :: news) → (∀ p ∈ news, p.1 < D) → Q (.ref D) { s with heap := h' }) : wpAny (model prog w) A (call (.type "tuple") [.ref l]) Q E s := by
  refine call_tuple_list (PySem.IsL.isList (n := k) (N _ hm).1) (fun h' hk => ?_) (by rw [List.size_toArray]; exact hz)
  have F' : Fr h₀ L h' m := F.keeps hk
  have N' := N.grown hk
  refine h _ _ (F'.push _) (fun p hp => ?_) (fun p hp => Heap.lt_size (N' p hp).1)
  rcases List.mem_cons.mp hp with rfl | hp
  · exact ⟨Heap.get?_push_size _ rfl, Ne.symm (Nat.ne_of_lt F'.ns.lt), next_is_new F'⟩
  · exact (N'.grown fun _ _ e => Heap.get?_push_of_some _ e) p hp
theorem ws_end {h₀ h' : Heap} {L I D : Addr} {it o : Obj} {R : Frm → CbLed → Prop} {s₁ : Shared} {tk : Nat} {m' : Frm} {rest : CbLed} {p1 p2 p3 : Addr × Obj} (F : Fr h₀ L h' m') (N : News h₀ L h' ((D, o) :: p1 :: p2 :: (I, it) :: p3 :: rest)) (off : ∀ p ∈ (D, o) :: rest, p.1 ≠ I) (j : R m' ((D, o) :: rest)) :
    UnrEnd h₀ L s₁ I it R { s₁ with heap := h', toks := tk } :=
  ⟨h', tk, m', (D, o) :: rest, rfl, F, cb_drop N (fun p hp => by
    simp only [List.mem_cons] at hp ⊢
    rcases hp with h | h | h <;> simp [h]), off, j⟩
theorem ws_end2 {h₀ h' : Heap} {L I D : Addr} {it o : Obj} {R : Frm → CbLed → Prop} {s₁ : Shared} {tk : Nat} {m' : Frm} {rest : CbLed} (F : Fr h₀ L h' m') (N : News h₀ L h' ((I, it) :: (D, o) :: rest)) (off : ∀ p ∈ (D, o) :: rest, p.1 ≠ I) (j : R m' ((D, o) :: rest)) :
    UnrEnd h₀ L s₁ I it R { s₁ with heap := h', toks := tk } := ⟨h', tk, m', (D, o) :: rest, rfl, F, N, off, j⟩
def ext (cnt : List Int) (b : Int) : List Int := if (cnt.length : Int) ≤ b then cnt ++ (List.replicate (b - cnt.length + 1).toNat [(0 : Int)]).flatten else cnt
def wsTab (cnt : List Int) (b : Int) : List Int := (ext cnt b).set b.toNat ((ext cnt b).getD b.toNat 0 + 1)
abbrev WsS := List Int × Int × Int × Int
def wsStep (st : WsS) (c : Nat) : WsS := if c = 32 then (st.1, st.2.1 + 1, st.2.2.1 + 1, st.2.2.2) else (wsTab st.1 st.2.1, 0, st.2.2.1 + 1, st.2.2.2 + 1)
def wsF (l : List Nat) (st : WsS) : WsS := l.foldl wsStep st
theorem ext_a {cnt : List Int} {b : Int} (h : (cnt.length : Int) ≤ b) : ext cnt b = cnt ++ (List.replicate (b - cnt.length + 1).toNat [(0 : Int)]).flatten := if_pos h
theorem ext_b {cnt : List Int} {b : Int} (h : ¬ (cnt.length : Int) ≤ b) : ext cnt b = cnt := if_neg h
theorem tab_a {cnt : List Int} {b : Int} (h : (cnt.length : Int) ≤ b) : wsTab cnt b = (cnt ++ (List.replicate (b - cnt.length + 1).toNat [(0 : Int)]).flatten).set b.toNat ((cnt ++ (List.replicate (b - cnt.length + 1).toNat [(0 : Int)]).flatten).getD b.toNat 0 + 1) := by
  unfold wsTab; rw [ext_a h]
theorem tab_b {cnt : List Int} {b : Int} (h : ¬ (cnt.length : Int) ≤ b) : wsTab cnt b = cnt.set b.toNat (cnt.getD b.toNat 0 + 1) := by
  unfold wsTab; rw [ext_b h]
theorem ext_len {cnt : List Int} {b : Int} (h1 : b ≤ 12) (hl : cnt.length ≤ 13) : (ext cnt b).length ≤ 13 := by
  unfold ext
  split
  · simp only [List.length_append, List.length_flatten, List.map_replicate, List.length_cons, List.length_nil, List.sum_replicate_nat]
    omega
  · exact hl
theorem tab_len {cnt : List Int} {b : Int} (h1 : b ≤ 12) (hl : cnt.length ≤ 13) : (wsTab cnt b).length ≤ 13 := by
  unfold wsTab
  rw [List.length_set]
  exact ext_len h1 hl
def wsC (c : Nat) : Prop := c = 32 ∨ c = 9
def JW (x0 : Addr) (rest : CbLed) (I : Addr) (fin : WsS) (l : List Nat) (m : Frm) (n' : CbLed) : Prop :=
  ∀ P : CbLed → Prop, (∀ (cD : Addr) (vs : List Value) (kc : Nat) (cnt : List Int) (b n nt : Int) (tb tn tnt ts tt : Tok), IntsAre vs cnt → cD ≠ I → (∀ p ∈ rest, p.1 ≠ cD) → 0 ≤ b → b + l.length ≤ 12 → 0 ≤ n → n + l.length ≤ 12 → 0 ≤ nt → nt + l.length ≤ 12 → cnt.length ≤ 13 → (∀ c ∈ l, wsC c) → wsF l (cnt, b, n, nt) = fin → m (Str.ofString "self") = some (.ref x0) → m (Str.ofString "count") = some (.ref cD) → m (Str.ofString "b") = some (.int b tb) → m (Str.ofString "n") = some (.int n tn) → m (Str.ofString "nt") = some (.int nt tnt) → m (Str.ofString "S") = some (.str (Str.ofString " ") ts) → m (Str.ofString "T") = some (.str (Str.ofString "\t") tt) → P ((cD, W.listOf vs.toArray kc) :: rest)) → P n'
theorem JW_mk {x0 : Addr} {rest : CbLed} {I : Addr} {fin : WsS} {l : List Nat} {m : Frm} {cD : Addr} {vs : List Value} {kc : Nat} {cnt : List Int} {b n nt : Int} {tb tn tnt ts tt : Tok} : IntsAre vs cnt → cD ≠ I → (∀ p ∈ rest, p.1 ≠ cD) → 0 ≤ b → b + l.length ≤ 12 → 0 ≤ n → n + l.length ≤ 12 → 0 ≤ nt → nt + l.length ≤ 12 → cnt.length ≤ 13 → (∀ c ∈ l, wsC c) → wsF l (cnt, b, n, nt) = fin → m (Str.ofString "self") = some (.ref x0) → m (Str.ofString "count") = some (.ref cD) → m (Str.ofString "b") = some (.int b tb) → m (Str.ofString "n") = some (.int n tn) → m (Str.ofString "nt") = some (.int nt tnt) → m (Str.ofString "S") = some (.str (Str.ofString " ") ts) → m (Str.ofString "T") = some (.str (Str.ofString "\t") tt) → JW x0 rest I fin l m ((cD, W.listOf vs.toArray kc) :: rest) := fun a1 a2 a3 a4 a5 a6 a7 a8 a9 b1 b2 b3 b4 b5 b6 b7 b8 b9 c1 _ k => k cD vs kc cnt b n nt tb tn tnt ts tt a1 a2 a3 a4 a5 a6 a7 a8 a9 b1 b2 b3 b4 b5 b6 b7 b8 b9 c1
abbrev wsDict (w : World) (x : Str) (n nt : Int) (nT : Addr) (bs : Bool) (tx tn tnt k1 k2 k3 k4 k5 : Tok) : Obj := dictOf [{ hash := PyData.keyHash w.params (Str.ofString "raw"), key := .str (Str.ofString "raw") k1, val := .str x tx }, { hash := PyData.keyHash w.params (Str.ofString "n"), key := .str (Str.ofString "n") k2, val := .int n tn }, { hash := PyData.keyHash w.params (Str.ofString "nt"), key := .str (Str.ofString "nt") k3, val := .int nt tnt }, { hash := PyData.keyHash w.params (Str.ofString "norm"), key := .str (Str.ofString "norm") k4, val := .ref nT }, { hash := PyData.keyHash w.params (Str.ofString "is_simple"), key := .str (Str.ofString "is_simple") k5, val := .bool bs }] 5
abbrev RetWs (w : World) (news : CbLed) (x : Str) (st : WsS) : Heap → Addr → Frm → Shared → (Value → Shared → Prop) → Prop := fun h₀ L m s Q =>
  ∀ (x0 d0 nT cT : Addr) (vs : List Value) (bs : Bool) (tx tb tn tnt k1 k2 k3 k4 k5 : Tok) (h' : Heap) (tk' : Nat), @LT.lt Nat _ d0 x0 → @LT.lt Nat _ x0 cT → @LT.lt Nat _ cT nT → AllLt d0 news → Fr h₀ L h' m →
    News h₀ L h' ((x0, instObj 83 d0) :: (d0, wsDict w x st.2.2.1 st.2.2.2 nT bs tx tn tnt k1 k2 k3 k4 k5) :: (nT, tupO #[.ref cT, .int st.2.1 tb]) :: (cT, tupO vs.toArray) :: news) → IntsAre vs st.1 → Q (.ref x0) { s with heap := h', toks := tk' }
theorem ws_ret {w : World} {news : CbLed} {x : Str} {st : WsS} {h₀ h' : Heap} {L : Addr} {m : Frm} {s : Shared} {Q : Value → Shared → Prop} {tk' : Nat} {x0 d0 nT cT : Addr} {vs : List Value} {bs : Bool} {tx tb tn tnt k1 k2 k3 k4 k5 : Tok} {cnt : List Int} {b n nt : Int} {p1 p2 : Addr × Obj}
    (hret : RetWs w news x st h₀ L m s Q) (F : Fr h₀ L h' m) (N : News h₀ L h' ((nT, tupO #[.ref cT, .int b tb]) :: (cT, tupO vs.toArray) :: p1 :: p2 :: (x0, instObj 83 d0) :: (d0, wsDict w x n nt nT bs tx tn tnt k1 k2 k3 k4 k5) :: news))
    (hI : IntsAre vs cnt) (e : (cnt, b, n, nt) = st) (l1 : @LT.lt Nat _ d0 x0) (l2 : @LT.lt Nat _ x0 cT) (l3 : @LT.lt Nat _ cT nT) (l4 : AllLt d0 news) : Q (.ref x0) { s with heap := h', toks := tk' } := by
  subst e
  exact hret x0 d0 nT cT vs bs tx tb tn tnt k1 k2 k3 k4 k5 h' tk' l1 l2 l3 l4 F (cb_drop N fun p hp => by
    simp only [List.mem_cons] at hp ⊢
    rcases hp with h | h | h | h | h <;> simp [h]) hI
theorem c_ws (w : World) (news : CbLed) (x : CbStr) (tx : CbTok) :
    Clm w 83 [.str x tx] news (x.cps.size < 12 ∧ (∀ c ∈ x.cps.toList, wsC c)) (RetWs w news x (wsF x.cps.toList ([], 0, 0, 0))) := by
  dsimp only [Clm, ClmD, MyProg, MyK]
  k_fill
  k_with_none
  k_with "my room" => ((try simp only [depth_under_make, depth_under_kw, depth_in1, depth_deeper, depth_caller]); show _ < 1000; (try dsimp only [ktrTop]); (first | exact lt_rm hdp rfl | exact lt_rm hun rfl | exact lt_rm0 hdp rfl | exact lt_rm0 hun rfl | exact lt_rmB hdp rfl | exact lt_rmB hun rfl | exact lt_rmC hdp rfl | exact lt_rmC hun rfl | omega))
  k_with "my all" => (first | assumption | (refine tnAll (by assumption) ?_; omega) | (refine tnAll2 (by assumption) ?_; omega))
  k_with "my ne" => (first | (with_reducible assumption) | exact Ne.symm (by with_reducible assumption))
  k_with "enter" => (refine wpAny_call ?_; k_dflt (first
    | cell_enter
    | (refine' code_defC ?k1 ?k2 ?k3 ?k4 ?k5 ?kA ?kF ?kK ?k6 ?k7 ?k8 ?k9 ?kB ?kD ?_ ?c2 ?c3 ?c4; (case kA => exact rfl); (case kF => exact rfl); (case kK => assumption); (case k1 => k_asm); (case k2 => k_asm); (case k3 => k_asm); (case k4 => k_asm); (case k5 => k_asm); (case k6 => k_is); (case k7 => k_is); (case k8 => k_room); (case k9 => exact BindsTo.of_eq rfl); (case kB => exact rfl); (case kD => decide +kernel); (case c2 => exact rfl); (case c3 => exact rfl); (case c4 => exact rfl); k_whole; intro g' L' h' tk' cells' FG' F' N' Y' B' X' T' l1; (try k_lt l1); k_cells Y'; (try simp only [List.cons_append, List.nil_append] at N'); (try dsimp only); (try k_lift B'); (try k_fold))))
  k_with "enter class" => (k_here; k_dflt (refine' call_cls (by k_asm) (by k_asm) (by k_asm) (by k_is) (by k_is) (by k_is) ?_); intro x0 d0 h0 F0 N0 l01 l02; (try k_lt l01); (try k_lt2 l02); k_dflt (refine' code_def ?k1 ?k2 ?k3 ?k4 ?k5 ?kA ?kF ?kK ?k6 ?k7 ?k8 ?k9 ?kB ?_ ?c2 ?c3 ?c4 ?c5; (case kA => exact rfl); (case kF => exact rfl); (case kK => assumption); (case k1 => k_asm); (case k2 => k_asm); (case k3 => k_asm); (case k4 => k_asm); (case k5 => k_asm); (case k6 => k_is); (case k7 => k_is); (case k8 => k_room); (case k9 => exact BindsTo.of_eq rfl); (case c5 => decide); (case kB => exact locs rfl); (case c2 => exact rfl); (case c3 => exact rfl); (case c4 => exact rfl); k_whole; intro gx Lx hx FGx Fx Nx Bx Xx Tx; (try dsimp only); (try k_lift Bx); (try k_fold)))
  k_with "my exec For Name Attribute cons nil" => (k_here; k_dflt (refine For_invV gx (by rfl) (by rfl) ?_))
  k_with "my call type:tuple" => (k_here; k_dflt (refine tuple_K (by k_asm) (by k_asm) (by k_mem) (le_size (k := 20) (by have := hI.length; omega) rfl) ?_); intro D5 h5 F5 N5 l5; (k_lt l5))
  k_with "my eval Name" => (k_here; k_dflt (first | (refine ld (by k_asm) (by with_unfolding_all exact hm1) ?_) | (refine ld (by k_asm) (by with_unfolding_all exact hm2) ?_) | (refine ld (by k_asm) (by with_unfolding_all exact hm3) ?_) | (refine ld (by k_asm) (by with_unfolding_all exact hm4) ?_) | (refine ld (by k_asm) (by with_unfolding_all exact hm5) ?_) | (refine ld (by k_asm) (by with_unfolding_all exact hm6) ?_) | (refine ld (by k_asm) (by with_unfolding_all exact hm7) ?_)))
  k_with "my ite" => (first | (rw [if_pos (by decide +kernel)]) | (rw [if_neg (by decide +kernel)]))
  intro loose mean mg mb dp un gd cn cs a ccd cl outer A₀ base h₀ L m0 s Q E hB hF hX hN hT hcs hpre hdp hun hret
  obtain ⟨hp1, hp2⟩ := hpre
  k_extra "enter class"
  k_steps
  k_dflt (refine iter_strUnr (by rfl) (by k_asm) (by k_asm) rfl ?_)
  intro I1 lI1
  refine news_tail (by k_asm) ?_
  intro rest9 hr9
  have hrI : ∀ p ∈ rest9, p.1 ≠ I1 := fun p hp => Nat.ne_of_lt (lI1 p (.tail _ (hr9 ▸ hp)))
  refine' str_ind (JW x0 rest9 I1 (wsF x.cps.toList ([], 0, 0, 0))) ?step ?done _ _ _ ?init
  case init => subst hr9; refine JW_mk (vs := []) (cnt := []) .nil (Nat.ne_of_lt (lI1 _ (.head _))) ?_ (by decide) (by simp; omega) (by decide) (by simp; omega) (by decide) (by simp; omega) (by decide) hp2 rfl rfl rfl rfl rfl rfl rfl rfl; rename _ ∧ _ ∧ _ ∧ AllLt _ news => hl1; exact List.forall_mem_cons.mpr ⟨neN (by show @Ne Nat _ _; (try dsimp only); omega), List.forall_mem_cons.mpr ⟨neN (by show @Ne Nat _ _; (try dsimp only); omega), List.forall_mem_cons.mpr ⟨neN (by show @Ne Nat _ _; (try dsimp only); omega), fun p hp => Nat.ne_of_lt (kst_ltOf hl1.2.2.2 p hp)⟩⟩⟩
  case done =>
    intro m1 n1 h1 tk1 hJ F1 N1
    revert N1
    refine hJ (fun nn => News gx _ h1 nn → _) ?_
    clear hJ
    intro cD vs kc cnt b n nt tb tn tnt ts tt hI hcD hcr hb0 hb1 hn0 hn1 ht0 ht1 hcl hw hfin hm1 hm2 hm3 hm4 hm5 hm6 hm7 N1
    rw [hr9] at N1 hcr
    simp only [List.forall_mem_cons] at hcr
    refine aE4 hcr ?_
    clear hcr
    intro q1 q2 q3 q4
    k_steps
    exact ws_ret hret (by k_asm) (by with_unfolding_all assumption) hI hfin (by omega) (by omega) (by omega) (allLt_of l01)
  case step =>
    intro c r m1 n1 u it h1 tk1 hJ F1 N1
    revert N1
    refine hJ (fun nn => News gx _ h1 ((I1, it) :: nn) → _) ?_
    clear hJ
    intro cD vs kc cnt b n nt tb tn tnt ts tt hI hcD hcr hb0 hb1 hn0 hn1 ht0 ht1 hcl hw hfin hm1 hm2 hm3 hm4 hm5 hm6 hm7 N1
    rcases hw c (.head _) with rfl | rfl
    · simp only [List.length_cons] at hb1 hn1 ht1
      k_steps
      refine ws_end2 (by k_asm) (by k_asm) (List.forall_mem_cons.mpr ⟨hcD, hrI⟩) ?_
      exact JW_mk (b := b + 1) (n := n + 1) (nt := nt) hI hcD hcr (by omega) (by omega) (by omega) (by omega) (by omega) (by omega) hcl (fun c hc => hw c (.tail _ hc)) hfin (by with_unfolding_all exact hm1) (by with_unfolding_all exact hm2) (by with_unfolding_all rfl) (by with_unfolding_all rfl) (by with_unfolding_all exact hm5) (by with_unfolding_all exact hm6) (by with_unfolding_all exact hm7)
    · simp only [List.length_cons] at hb1 hn1 ht1
      have htl := tab_len (cnt := cnt) (b := b) (by omega) hcl
      k_steps
      · rename IntsAre (List.set _ _ _) _ => hi9
        rename _ ∧ _ ∧ _ ∧ _ ∧ AllLt _ rest9 => hl9
        rw [← tab_a (by assumption)] at hi9
        refine ws_end (by k_asm) (by k_asm) (List.forall_mem_cons.mpr ⟨neN (by show @Ne Nat _ _; (try dsimp only); omega), hrI⟩) ?_
        exact JW_mk (b := 0) (n := n + 1) (nt := nt + 1) hi9 (neN (by show @Ne Nat _ _; (try dsimp only); omega)) (fun p hp => Nat.ne_of_lt (kst_ltOf hl9.2.2.2.2 p hp)) (by decide) (by omega) (by omega) (by omega) (by omega) (by omega) htl (fun c hc => hw c (.tail _ hc)) hfin (by with_unfolding_all exact hm1) (by with_unfolding_all rfl) (by with_unfolding_all rfl) (by with_unfolding_all rfl) (by with_unfolding_all rfl) (by with_unfolding_all exact hm6) (by with_unfolding_all exact hm7)
      · rename IntsAre (List.set _ _ _) _ => hi9
        rw [← tab_b (by assumption)] at hi9
        refine ws_end2 (by k_asm) (by k_asm) (List.forall_mem_cons.mpr ⟨hcD, hrI⟩) ?_
        exact JW_mk (b := 0) (n := n + 1) (nt := nt + 1) hi9 hcD hcr (by decide) (by omega) (by omega) (by omega) (by omega) (by omega) htl (fun c hc => hw c (.tail _ hc)) hfin (by with_unfolding_all exact hm1) (by with_unfolding_all exact hm2) (by with_unfolding_all rfl) (by with_unfolding_all rfl) (by with_unfolding_all rfl) (by with_unfolding_all exact hm6) (by with_unfolding_all exact hm7)
theorem hold_mk {p : Prop} (h : p) : Hold p := h
theorem range_ind {prog : Program} {w : World} {A : Around} {E : Value → Shared → Prop} {s : Shared} {env : Env} {h₀ : Heap} {x : Str} {body : List Stmt} {Q : Flow → Shared → Prop} {I : Addr} {a : Int} {n : Nat} (J : Nat → Frm → CbLed → Prop)
    (step : ∀ i m news t h tk it, i < n → J i m news → Fr h₀ env.locals h (fun y => if y = x then some (.int (a + (i : Int)) t) else m y) → News h₀ env.locals h ((I, it) :: news) →
      wpAny (model prog w) A (execs body env) (UnrPost h₀ env.locals { s with heap := h, toks := tk } I it (J (i + 1)) Q) E { s with heap := h, toks := tk })
    (done : ∀ m news h tk, J n m news → Fr h₀ env.locals h m → News h₀ env.locals h news → Q .next { s with heap := h, toks := tk }) :
    ∀ (k i : Nat) (m : Frm) (news : CbLed), i + k = n → J i m news → RangeRest prog w A E h₀ env x body Q s I a n k i m news
  | 0, i, m, news, e, hJ => fun h tk F N => done m news h tk ((show i = n by omega) ▸ hJ) F N
  | k + 1, i, m, news, e, hJ => by
    refine RangeRest.succ fun t h tk F N => wpAny_mono (step i m news t h tk _ (by omega) hJ F N) (fun f s₃ y => ?_) fun _ _ e => e
    have up : ∀ it s₃, UnrEnd h₀ env.locals { s with heap := h, toks := tk } I it (J (i + 1)) s₃ → UnrEnd h₀ env.locals { s with heap := h, toks := tk } I it (RangeRest prog w A E h₀ env x body Q s I a n k (i + 1)) s₃ := by
      rintro it s₃ ⟨h', tk', m', n', e', F', N', o', j'⟩
      exact ⟨h', tk', m', n', e', F', N', o', range_ind J step done k (i + 1) m' n' (by omega) j'⟩
    cases f with
    | ret v => exact y
    | brk => exact y
    | next => exact up _ _ y
    | cont => exact up _ _ y
theorem range_turns2 {prog : Program} {w : World} {A : Around} {E : Value → Shared → Prop} {s : Shared} {env : Env} {h₀ : Heap} {x : Str} {px : Pos} {body : List Stmt} {Q : Flow → Shared → Prop} {r : Addr} {a₀ b₀ : Int} {t₀ u₀ v₀ : Tok} {n : Nat} {m₀ : Frm} {news : CbLed}
    (hh : A.handled = none) (hr : IsRange s.heap r a₀ b₀ 1 t₀ u₀ v₀) (hsmall : Builtin.Range.small a₀ b₀ 1 = true) (hn : Builtin.Range.rangeSize a₀ b₀ 1 = (n : Int)) (F : Fr h₀ env.locals s.heap m₀) (N : News h₀ env.locals s.heap news)
    (rest : ∀ I : Addr, (∀ p ∈ news, p.1 < I) → ∃ J : Nat → Frm → CbLed → Prop, J 0 m₀ news ∧
      (∀ i m₁ n₁ t h tk it, i < n → J i m₁ n₁ → Fr h₀ env.locals h m₁ → News h₀ env.locals h ((I, it) :: n₁) → (∀ (fs : Array Value) (q : Str) (t : Tok), it.data = .fields fs → fs[1]? ≠ some (.str q t)) →
        wpAny (model prog w) A (assign (.Name x px) env (.int (a₀ + (i : Int)) t)) (fun _ s₂ => wpAny (model prog w) A (execs body env) (UnrPost h₀ env.locals { s with heap := h, toks := tk } I it (J (i + 1)) Q) E s₂) E { s with heap := h, toks := tk }) ∧
      (∀ m₁ n₁ h tk, J n m₁ n₁ → Fr h₀ env.locals h m₁ → News h₀ env.locals h n₁ → Q .next { s with heap := h, toks := tk })) :
    wpAny (model prog w) A (pyIter (.ref r)) (fun it s₂ => TurnsAt prog w A h₀ env (.Name x px) body Q E it s₂) E s := by
  refine wpAny_pyIter_range hr hsmall ?_
  obtain ⟨J, h0, step, done⟩ := rest s.heap.objs.size fun p hp => Heap.lt_size (N p hp).1
  have hnew := next_is_new F
  refine ⟨s.heap.objs.size, [s.heap.objs.size], [s.heap.objs.size], n, _, _, _, m₀, news, J, rfl, KTurns.ofWalks (LCg.range_walks hh a₀ n) (fun i v s Q E st q => wpAny_pure q), ?_, ?_, ?_, ?_, F.push _, (fun p hp => ⟨Heap.get?_push_of_some _ (N p hp).1, (N p hp).2⟩), h0, ?_, ?_⟩
  · intro hm
    exact absurd F.ns.lt ((List.mem_singleton.mp hm) ▸ Nat.lt_irrefl _)
  · intro b hb
    rw [List.mem_singleton.mp hb]
    exact hnew
  · intro p hp hI
    exact absurd (Heap.lt_size (N p hp).1) ((List.mem_singleton.mp hI) ▸ Nat.lt_irrefl _)
  · show IsRangeIter _ _ _ _ _
    rw [hn]
    simpa using Heap.get?_push_size _ rfl
  · intro i v m₁ n₁ h₁ tk₁ own hin hP hJ hoff hown hget hall hst' F₁ N₁
    obtain ⟨t, rfl⟩ := hP
    obtain ⟨it, hit⟩ : ∃ it, h₁.get? s.heap.objs.size = some it := ⟨_, hst'⟩
    have hitF : ∀ (fs : Array Value) (q : Str) (t : Tok), it.data = .fields fs → fs[1]? ≠ some (.str q t) := by
      have e := hit.symm.trans hst'
      intro fs q t hd hq
      rw [Option.some.inj e] at hd
      cases hd
      simp [rawInt] at hq
    have hmemI := hall s.heap.objs.size (List.mem_singleton.mpr rfl) hnew _ hit
    have N₂ : News h₀ env.locals h₁ ((s.heap.objs.size, it) :: n₁) := fun p hp => by
      rcases List.mem_cons.mp hp with rfl | hp
      · exact N₁ _ (List.mem_append_left _ hmemI)
      · exact N₁ _ (List.mem_append_right _ hp)
    refine wpAny_mono (step i m₁ n₁ t h₁ tk₁ it hin hJ F₁ N₂ hitF) (fun _ s₂ h₂ => wpAny_mono h₂ (fun f s₃ p => ?_) fun _ _ e => e) fun _ _ e => e
    have fin : ∀ s₃, UnrEnd h₀ env.locals { s with heap := h₁, toks := tk₁ } s.heap.objs.size it (J (i + 1)) s₃ → LoopStepU h₀ env.locals [s.heap.objs.size] own (J (i + 1)) { s with heap := h₁, toks := tk₁ } .next s₃ := by
      rintro s₃ ⟨h', tk, m', news', e, F', N', ho, rr⟩
      refine ⟨rfl, h', tk, m', news', e, F', fun p hp => ?_, fun p hp hI => ho p hp (List.mem_singleton.mp hI), rr⟩
      rcases List.mem_append.mp hp with hp | hp
      · have e1 : p.1 = s.heap.objs.size := List.mem_singleton.mp (hown p hp)
        have e2 : h₁.get? p.1 = some p.2 := hget p hp
        have e3 : p = (s.heap.objs.size, it) := by
          rw [e1, hit] at e2
          exact Prod.ext e1 (Option.some.inj e2).symm
        rw [e3]; exact N' _ (List.mem_cons_self ..)
      · exact N' _ (List.mem_cons_of_mem _ hp)
    cases f with
    | ret v => exact .ret p
    | brk => exact .brk p
    | next => exact .next (fin _ p)
    | cont => exact .cont (fin _ p)
  · intro h' tk m' news' F' N' _ hJ
    exact done m' news' h' tk hJ F' N'
def At (T : Str) (p : Int) (l : List Nat) : Prop := 0 ≤ p ∧ T.cps.toList.drop p.toNat = l
theorem At.get {T : Str} {p : Int} {c : Nat} {l : List Nat} (h : At T p (c :: l)) : T.cps[p.toNat]? = some c := by
  rw [← Array.getElem?_toList, ← List.head?_drop, h.2]; rfl
theorem At.next {T : Str} {p : Int} {c : Nat} {l : List Nat} (h : At T p (c :: l)) : At T (p + 1) l := by
  refine ⟨by have := h.1; omega, ?_⟩
  have e : (p + 1).toNat = p.toNat + 1 := by have := h.1; omega
  rw [e, ← List.drop_drop, h.2]; rfl
def escL : List Nat → List Nat
  | [] => []
  | c :: r => 92 :: c :: escL r
theorem owit_start {prog : Program} {w : World} {A : Around} {E : Value → Shared → Prop} {env : Env} {v : Str} {body : List Stmt} {Q : Flow → Shared → Prop} {I : Addr} {s : Shared} (J : Nat → Shared → Prop) (main : ∀ n s, J n s → OwitRest prog w A E env v body Q I n s)
    (start : J 64 s ∨ wpAny (model prog w) A (pyNext (.ref I)) (OwitTurn prog w A E env v body Q (J 63)) E s) : OwitRest prog w A E env v body Q I 64 s := by
  rcases start with h | h
  · exact main _ _ h
  · exact OwitRest.succ (wpAny_mono h (fun _ _ x => owit_turn_mono (main 63) x) fun _ _ z => z)
theorem tok_nil {wd : List Nat} : Str.ofString "" ++ (⟨wd.toArray⟩ : Str) = ⟨wd.toArray⟩ := by
  rw [show Str.ofString "" = (⟨#[]⟩ : Str) from by decide +kernel]
  show (⟨#[] ++ wd.toArray⟩ : Str) = _
  simp
theorem tok_len {t c : Str} (h : t.length ≤ 20) (hc : c.length ≤ 1) : t.length + c.length ≤ 60 := by omega
theorem tok_done {t : Str} {wd : List Nat} (h : t ++ (⟨([] : List Nat).toArray⟩ : Str) = ⟨wd.toArray⟩) : t = ⟨wd.toArray⟩ := by
  rw [← h]
  obtain ⟨a⟩ := t
  show (⟨a⟩ : Str) = ⟨a ++ #[]⟩
  simp
theorem tok_step {t : Str} {c : Nat} {l wd : List Nat} (h : t ++ (⟨(c :: l).toArray⟩ : Str) = ⟨wd.toArray⟩) : (t ++ (⟨#[c]⟩ : Str)) ++ (⟨l.toArray⟩ : Str) = ⟨wd.toArray⟩ := by
  rw [← h]
  obtain ⟨a⟩ := t
  show (⟨(a ++ #[c]) ++ l.toArray⟩ : Str) = ⟨a ++ (c :: l).toArray⟩
  congr 1
  apply Array.toList_inj.mp
  simp
theorem tok_bnd {t : Str} {l wd : List Nat} (h : t ++ (⟨l.toArray⟩ : Str) = ⟨wd.toArray⟩) (hl : wd.length ≤ 10) : t.length ≤ 20 := by
  have e : (t ++ (⟨l.toArray⟩ : Str)).length = wd.length := by rw [h]; simp [Str.length]
  rw [Str.length_append] at e
  omega
abbrev RetTok (w : World) (x d pl n8 f g cg lst cat ctx : Addr) (od8 ofn og ocg ocat octx : Obj) (k1 t1 k2 k3 t3 k4 : CbTok) (kk : Nat) (bl : CbLed) (T : Str) (ln : Int) (wd rest : List Nat) : Heap → Addr → Frm → Shared → (Value → Shared → Prop) → Prop := fun h₀ L m s Q =>
  ∀ (ln' p' : Int) (k1 t1 t tp : Tok) (h' : Heap) (tk' : Nat), ln ≤ ln' → ln' ≤ ln + 40 → At T p' rest → Fr h₀ L h' m → News h₀ L h' ((x, instObj 195 d) :: (d, rdDict w ln' f pl k1 t1 k2 k3 t3 k4) :: (lst, W.listOf #[.int p' tp] kk) :: (pl, W.listOf #[] 0) :: (n8, od8) :: (f, ofn) :: (g, og) :: (cg, ocg) :: (cat, ocat) :: (ctx, octx) :: bl) → Q (.str ⟨wd.toArray⟩ t) { s with heap := h', toks := tk' }
theorem tok_ret {w : World} {x d pl n8 f g cg lst cat ctx : Addr} {od8 ofn og ocg ocat octx : Obj} {k1 t1 k2 k3 t3 k4 : Tok} {kk : Nat} {bl : CbLed} {T : Str} {ln ln' p' : Int} {wd rest : List Nat} {h₀ h' : Heap} {L I7 q7 : Addr} {m : Frm} {s : Shared} {Q : Value → Shared → Prop} {tok : Str} {k1' t1' t tp t07 : Tok} {tk' : Nat}
    (hret : RetTok w x d pl n8 f g cg lst cat ctx od8 ofn og ocg ocat octx k1 t1 k2 k3 t3 k4 kk bl T ln wd rest h₀ L m s Q) (F : Fr h₀ L h' m) (N : News h₀ L h' ((I7, ciObj (.ref q7) (.str (Str.ofString "") t07)) :: (q7, methodObj (.ref 178) (.ref x)) :: (x, instObj 195 d) :: (d, rdDict w ln' f pl k1' t1' k2 k3 t3 k4) :: (lst, W.listOf #[.int p' tp] kk) :: (pl, W.listOf #[] 0) :: (n8, od8) :: (f, ofn) :: (g, og) :: (cg, ocg) :: (cat, ocat) :: (ctx, octx) :: bl)) (e1 : ln ≤ ln') (e2 : ln' ≤ ln + 40) (hA : At T p' rest) (ht : tok = ⟨wd.toArray⟩) : Q (.str tok t) { s with heap := h', toks := tk' } := by
  subst ht
  exact hret _ _ _ _ _ _ _ _ e1 e2 hA F (fun q hq => N q (.tail _ (.tail _ hq)))
theorem c_tok (w : World)  (x d pl n8 f g cg lst cat ctx : Addr) (od8 ofn og ocg ocat octx : Obj) (k1 t1 k2 k3 t3 k4 : CbTok) (kk : Nat) (bl : CbLed) (T : CbStr) (ln p : Int) (tp : CbTok) (nl : List Nat) (qt : Bool) (wd rest : List Nat) :
    ClmD 880 4900 w 185 [.ref x] ((x, instObj 195 d) :: (d, rdDict w ln f pl k1 t1 k2 k3 t3 k4) :: (lst, W.listOf #[.int p tp] kk) :: (pl, W.listOf #[] 0) :: (n8, od8) :: (f, ofn) :: (g, og) :: (cg, ocg) :: (cat, ocat) :: (ctx, octx) :: bl) (At T p (nl ++ ((if qt then 34 :: (wd ++ [34]) else escL wd ++ [10]) ++ rest)) ∧ (nl = [] ∨ nl = [10]) ∧ (qt = false → wd ≠ []) ∧ T.cps.size < 100 ∧ 0 ≤ ln ∧ ln < 500 ∧ (@LT.lt Nat _ ctx cat ∧ @LT.lt Nat _ cat lst ∧ @LT.lt Nat _ lst cg ∧ @LT.lt Nat _ cg g ∧ @LT.lt Nat _ g f ∧ @LT.lt Nat _ f n8 ∧ @LT.lt Nat _ n8 d ∧ @LT.lt Nat _ d x ∧ @LT.lt Nat _ x pl ∧ (∀ p ∈ bl, p.1 ≠ d) ∧ (∀ p ∈ bl, p.1 ≠ lst)) ∧ (ofn.cls = .type "function" ∧ ofn.dict = some n8 ∧ (∀ c, ofn.data ≠ .cls c) ∧ LCg.NsObj od8 (fun y => if y = Str.ofString "read" then some (.ref g) else none) ∧ (∃ fd, og.data = .func fd)) ∧ ReadC w g cg lst cat ctx og ocg ocat octx T ∧ (∀ c ∈ wd, wsC c) ∧ wd.length ≤ 10) (RetTok w x d pl n8 f g cg lst cat ctx od8 ofn og ocg ocat octx k1 t1 k2 k3 t3 k4 kk bl T ln wd rest) := by
  dsimp only [Clm, ClmD, MyProg, MyK]
  k_fill
  k_with_none
  k_with "my room" => ((try simp only [depth_under_make, depth_under_kw, depth_in1, depth_deeper, depth_caller]); show _ < 1000; (try dsimp only [ktrTop]); (first | exact lt_rm hdp rfl | exact lt_rm hun rfl | exact lt_rm0 hdp rfl | exact lt_rm0 hun rfl | exact lt_rmB hdp rfl | exact lt_rmB hun rfl | exact lt_rmC hdp rfl | exact lt_rmC hun rfl | omega))
  k_with "my all" => (first | assumption | (refine tnAll (by assumption) ?_; omega) | (refine tnAll2 (by assumption) ?_; omega))
  k_with "my ne" => (first | (with_reducible assumption) | exact Ne.symm (by with_reducible assumption))
  k_with "enter" => (refine wpAny_call ?_; k_dflt (first
    | cell_enter
    | (refine' code_defC ?k1 ?k2 ?k3 ?k4 ?k5 ?kA ?kF ?kK ?k6 ?k7 ?k8 ?k9 ?kB ?kD ?_ ?c2 ?c3 ?c4; (case kA => exact rfl); (case kF => exact rfl); (case kK => assumption); (case k1 => k_asm); (case k2 => k_asm); (case k3 => k_asm); (case k4 => k_asm); (case k5 => k_asm); (case k6 => k_is); (case k7 => k_is); (case k8 => k_room); (case k9 => exact BindsTo.of_eq rfl); (case kB => exact rfl); (case kD => decide +kernel); (case c2 => exact rfl); (case c3 => exact rfl); (case c4 => exact rfl); k_whole; intro g' L' h' tk' cells' FG' F' N' Y' B' X' T' l1; (try k_lt l1); k_cells Y'; (try simp only [List.cons_append, List.nil_append] at N'); (try dsimp only); (try k_lift B'); (try k_fold))))
  k_with "enter2" => (refine wpAny_call ?_; k_dflt (refine' code_def ?k1 ?k2 ?k3 ?k4 ?k5 ?kA ?kF ?kK ?k6 ?k7 ?k8 ?k9 ?kB ?_ ?c2 ?c3 ?c4 ?c5; (case kA => exact rfl); (case kF => exact rfl); (case kK => assumption); (case k1 => k_asm); (case k2 => k_asm); (case k3 => k_asm); (case k4 => k_asm); (case k5 => k_asm); (case k6 => k_is); (case k7 => k_is); (case k8 => ktr_room); (case k9 => exact BindsTo.of_eq rfl); (case c5 => decide); (case kB => exact locs rfl); (case c2 => exact rfl); (case c3 => exact rfl); (case c4 => exact rfl); k_whole; intro gx Lx hx FGx Fx Nx Bx Xx Tx; (try dsimp only); (try k_lift Bx); (try k_fold)))
  k_with "my exec For Name Name cons nil" => (k_here; k_dflt (refine owit_for ?_))
  k_with "my pyIter ref" => (k_here; k_dflt (refine ci_pyIter ((by k_asm : News _ _ _ _) _ (by k_mem)).1 ?_))
  k_with "my OwitRest" => (refine hold ?_)
  k_with "my call ref" => (refine hold ?_)
  k_with "my ite" => (first | (rw [if_pos (by decide +kernel)]) | (rw [if_neg (by decide +kernel)]))
  k_with "my eval Name" => (k_here; k_dflt (first | (refine ld (by k_asm) (by with_unfolding_all exact hmT) ?_) | (refine ld (by k_asm) (by with_unfolding_all exact hmS) ?_) | (refine ld (by k_asm) (by with_unfolding_all exact hmF) ?_)))
  k_with "my inplaceOp Add str str" => (k_here; k_dflt (refine PyProof.Rows.iadd_str ?_ (le_size (k := 60) (tok_len (by first | exact tok_bnd htok hL | decide) (by first | exact Nat.le_refl _ | decide)) rfl)); intro t9 tk9)
  k_with "my loadName" => (k_here; k_dflt (first | (refine ldn (by k_asm) (by with_unfolding_all exact hmT) ?_) | (refine ldn (by k_asm) (by with_unfolding_all exact hmS) ?_) | (refine ldn (by k_asm) (by with_unfolding_all exact hmF) ?_)))
  k_with "my binaryOp Add str str" => (k_here; k_dflt (refine PyProof.Rows.add_str ?_ (le_size (k := 60) (tok_len (by first | exact tok_bnd htok hL | decide) (by first | exact Nat.le_refl _ | decide)) rfl)); intro t9 tk9)
  k_with "my call builtin:iter" => (k_here; k_dflt (refine ci_new_K (by k_asm) (by k_asm) (by k_mem) ?_); intro q7 eq7; subst eq7; intro I7 h7 F7 N7 l7; (k_lt l7))
  intro loose mean mg mb dp un gd cn cs a ccd cl outer A₀ base h₀ L m0 s Q E hB hF hX hN hT hcs hpre hdp hun hret
  obtain ⟨sH, sG, sD, sT, sO⟩ := s
  change Fr h₀ L sH m0 at hF
  change News h₀ L sH _ at hN
  refine aE11 hpre ?_
  clear hpre
  intro hA hnl hqt hp3 hp4 hp5 hC hFF hR hW hL
  refine aE5 hFF ?_
  clear hFF
  intro hF1 hF2 hF3 hF4 hF5
  have hCh := hC
  refine aE11 hC ?_
  clear hC
  intro hc1 hc2 hc3 hc4 hc5 hc6 hc7 hc8 hc9 hc10 hc11
  k_extra "enter2"
  k_steps
  refine hold_mk ?_
  refine mkJ (fun (n : Nat) P => ∀ (l : List Nat) (tok : Str) (ln' p' : Int) (k1' t1' tp' tt' t07 : Tok) (m' : Frm) (h' : Heap) (tk' : Nat), Fr gx Lx h' m' → News gx Lx h' ((I7, ciObj (.ref q7) (.str (Str.ofString "") t07)) :: (q7, methodObj (.ref 178) (.ref x)) :: (x, instObj 195 d) :: (d, rdDict w ln' f pl k1' t1' k2 k3 t3 k4) :: (lst, W.listOf #[.int p' tp'] kk) :: (pl, W.listOf #[] 0) :: (n8, od8) :: (f, ofn) :: (g, og) :: (cg, ocg) :: (cat, ocat) :: (ctx, octx) :: bl) → At T p' ((if qt then 34 :: (l ++ [34]) else escL l ++ [10]) ++ rest) → (∀ c ∈ l, wsC c) → 1 ≤ n → ln ≤ ln' → ln' + 2 * l.length ≤ ln + 28 → tok ++ (⟨l.toArray⟩ : Str) = ⟨wd.toArray⟩ → m' (Str.ofString "self") = some (.ref x) → m' (Str.ofString "fiter") = some (.ref I7) → m' (Str.ofString "token") = some (.str tok tt') → l = wd → tok = Str.ofString "" → P ⟨h', sG, sD, tk', sO⟩) ?_
  intro J1 mk1 el1
  refine owit_start J1 ?_ ?_
  · intro n s' hJ
    refine el1 _ _ _ hJ ?_
    clear hJ
    intro wd tok ln9 p9 k19 t19 tp9 tt9 t079 m9 h9 tk9 F9 N9 hA9 hW9 hn9 hl9 hl9b htok hmS hmF hmT e8 e9
    subst e8
    subst e9
    obtain ⟨n, rfl⟩ : ∃ k, n = k + 1 := ⟨n - 1, by omega⟩
    refine OwitRest.succ ?_
    cases qt with
    | true =>
      simp only [if_true, List.cons_append, List.append_assoc, List.singleton_append, List.nil_append] at hA9
      refine rc_next w x d pl n8 f g cg lst cat ctx od8 ofn og ocg ocat octx _ _ k2 k3 t3 k4 kk bl T _ _ _ _ 34 _ _ (by k_asm) (by k_asm) (by k_asm) (by k_asm) (by k_asm) (by first | rfl | assumption) ⟨hA9.1, hA9.get, hp3, by omega, by omega, hCh, ⟨hF1, hF2, hF3, hF4, hF5⟩, hR⟩ (by omega) (by omega) (by (try simp only [depth_under_make, depth_under_kw, depth_in1, depth_deeper, depth_caller]); show _ < _; (try dsimp only [ktrTop]); (first | exact lt_rm hdp rfl | exact lt_rm hun rfl | exact lt_rm0 hdp rfl | exact lt_rm0 hun rfl | exact lt_rmB hdp rfl | exact lt_rmB hun rfl | exact lt_rmC hdp rfl | exact lt_rmC hun rfl | omega)) (by (try simp only [units_under_make, units_under_kw, units_in1, units_deeper, units_caller]); show _ < _; (try dsimp only [ktrTop]); (first | exact lt_rm hdp rfl | exact lt_rm hun rfl | exact lt_rm0 hdp rfl | exact lt_rm0 hun rfl | exact lt_rmB hdp rfl | exact lt_rmB hun rfl | exact lt_rmC hdp rfl | exact lt_rmC hun rfl | omega)) ?_
      intro ln8 k18 t18 t8 tp8 h8 tk8 e18 e28 F8 N8
      have hA8 := hA9.next
      k_steps
      refine hold_mk ?_
      refine mkJ (fun (n : Nat) P => ∀ (l : List Nat) (tok : Str) (ln' p' : Int) (k1' t1' tp' tt' t07 : Tok) (m' : Frm) (h' : Heap) (tk' : Nat), Fr gx Lx h' m' → News gx Lx h' ((I7, ciObj (.ref q7) (.str (Str.ofString "") t07)) :: (q7, methodObj (.ref 178) (.ref x)) :: (x, instObj 195 d) :: (d, rdDict w ln' f pl k1' t1' k2 k3 t3 k4) :: (lst, W.listOf #[.int p' tp'] kk) :: (pl, W.listOf #[] 0) :: (n8, od8) :: (f, ofn) :: (g, og) :: (cg, ocg) :: (cat, ocat) :: (ctx, octx) :: bl) → At T p' (l ++ (34 :: rest)) → (∀ c ∈ l, wsC c) → l.length + 1 ≤ n → ln ≤ ln' → ln' + 2 * l.length ≤ ln + 30 → tok ++ (⟨l.toArray⟩ : Str) = ⟨wd.toArray⟩ → m' (Str.ofString "self") = some (.ref x) → m' (Str.ofString "fiter") = some (.ref I7) → m' (Str.ofString "token") = some (.str tok tt') → P ⟨h', sG, sD, tk', sO⟩) ?_
      intro J2 mk2 el2
      refine owit_ind J2 ?_ ?_ 64 _ (mk2 _ _ fun P k => k wd _ _ _ _ _ _ _ _ _ _ _ (by k_asm) (by k_asm) hA8 hW9 (by omega) (by omega) (by omega) htok (by with_unfolding_all exact hmS) (by with_unfolding_all exact hmF) (by with_unfolding_all exact hmT))
      · intro s' hJ
        refine el2 _ _ (fun _ => False) hJ ?_
        clear hJ
        intro l tok ln9 p9 k19 t19 tp9 tt9 t079 m9 h9 tk9 F9 N9 hA9 hW9 hn9 hl9 hl9b htok hmS hmF hmT
        omega
      · intro n s' hJ
        clear hmS hmF hmT hA8 hA9 htok hW9
        refine el2 _ _ _ hJ ?_
        clear hJ
        intro l tok ln9 p9 k19 t19 tp9 tt9 t079 m9 h9 tk9 F9 N9 hA9 hW9 hn9 hl9 hl9b htok hmS hmF hmT
        cases l with
        | nil =>
          simp only [List.nil_append] at hA9
          refine rc_next w x d pl n8 f g cg lst cat ctx od8 ofn og ocg ocat octx _ _ k2 k3 t3 k4 kk bl T _ _ _ _ 34 _ _ (by k_asm) (by k_asm) (by k_asm) (by k_asm) (by k_asm) (by first | rfl | assumption) ⟨hA9.1, hA9.get, hp3, by omega, by omega, hCh, ⟨hF1, hF2, hF3, hF4, hF5⟩, hR⟩ (by omega) (by omega) (by (try simp only [depth_under_make, depth_under_kw, depth_in1, depth_deeper, depth_caller]); show _ < _; (try dsimp only [ktrTop]); (first | exact lt_rm hdp rfl | exact lt_rm hun rfl | exact lt_rm0 hdp rfl | exact lt_rm0 hun rfl | exact lt_rmB hdp rfl | exact lt_rmB hun rfl | exact lt_rmC hdp rfl | exact lt_rmC hun rfl | omega)) (by (try simp only [units_under_make, units_under_kw, units_in1, units_deeper, units_caller]); show _ < _; (try dsimp only [ktrTop]); (first | exact lt_rm hdp rfl | exact lt_rm hun rfl | exact lt_rm0 hdp rfl | exact lt_rm0 hun rfl | exact lt_rmB hdp rfl | exact lt_rmB hun rfl | exact lt_rmC hdp rfl | exact lt_rmC hun rfl | omega)) ?_
          intro ln8 k18 t18 t8 tp8 h8 tk8 e18 e28 F8 N8
          have hA8 := hA9.next
          k_steps
          exact tok_ret hret (by k_asm) (by k_asm) (by omega) (by omega) hA8 (tok_done htok)
        | cons c l =>
          simp only [List.cons_append, List.length_cons] at hA9 hn9 hl9b
          rcases hW9 c (.head _) with rfl | rfl
          · refine rc_next w x d pl n8 f g cg lst cat ctx od8 ofn og ocg ocat octx _ _ k2 k3 t3 k4 kk bl T _ _ _ _ 32 _ _ (by k_asm) (by k_asm) (by k_asm) (by k_asm) (by k_asm) (by first | rfl | assumption) ⟨hA9.1, hA9.get, hp3, by omega, by omega, hCh, ⟨hF1, hF2, hF3, hF4, hF5⟩, hR⟩ (by omega) (by omega) (by (try simp only [depth_under_make, depth_under_kw, depth_in1, depth_deeper, depth_caller]); show _ < _; (try dsimp only [ktrTop]); (first | exact lt_rm hdp rfl | exact lt_rm hun rfl | exact lt_rm0 hdp rfl | exact lt_rm0 hun rfl | exact lt_rmB hdp rfl | exact lt_rmB hun rfl | exact lt_rmC hdp rfl | exact lt_rmC hun rfl | omega)) (by (try simp only [units_under_make, units_under_kw, units_in1, units_deeper, units_caller]); show _ < _; (try dsimp only [ktrTop]); (first | exact lt_rm hdp rfl | exact lt_rm hun rfl | exact lt_rm0 hdp rfl | exact lt_rm0 hun rfl | exact lt_rmB hdp rfl | exact lt_rmB hun rfl | exact lt_rmC hdp rfl | exact lt_rmC hun rfl | omega)) ?_
            intro ln8 k18 t18 t8 tp8 h8 tk8 e18 e28 F8 N8
            have hA8 := hA9.next
            k_steps
            exact mk2 _ _ fun P k => k l _ _ _ _ _ _ _ _ _ _ _ (by k_asm) (by k_asm) hA8 (fun c hc => hW9 c (.tail _ hc)) (by omega) (by omega) (by omega) (tok_step htok) (by with_unfolding_all exact hmS) (by with_unfolding_all exact hmF) (by with_unfolding_all rfl)
          · refine rc_next w x d pl n8 f g cg lst cat ctx od8 ofn og ocg ocat octx _ _ k2 k3 t3 k4 kk bl T _ _ _ _ 9 _ _ (by k_asm) (by k_asm) (by k_asm) (by k_asm) (by k_asm) (by first | rfl | assumption) ⟨hA9.1, hA9.get, hp3, by omega, by omega, hCh, ⟨hF1, hF2, hF3, hF4, hF5⟩, hR⟩ (by omega) (by omega) (by (try simp only [depth_under_make, depth_under_kw, depth_in1, depth_deeper, depth_caller]); show _ < _; (try dsimp only [ktrTop]); (first | exact lt_rm hdp rfl | exact lt_rm hun rfl | exact lt_rm0 hdp rfl | exact lt_rm0 hun rfl | exact lt_rmB hdp rfl | exact lt_rmB hun rfl | exact lt_rmC hdp rfl | exact lt_rmC hun rfl | omega)) (by (try simp only [units_under_make, units_under_kw, units_in1, units_deeper, units_caller]); show _ < _; (try dsimp only [ktrTop]); (first | exact lt_rm hdp rfl | exact lt_rm hun rfl | exact lt_rm0 hdp rfl | exact lt_rm0 hun rfl | exact lt_rmB hdp rfl | exact lt_rmB hun rfl | exact lt_rmC hdp rfl | exact lt_rmC hun rfl | omega)) ?_
            intro ln8 k18 t18 t8 tp8 h8 tk8 e18 e28 F8 N8
            have hA8 := hA9.next
            k_steps
            exact mk2 _ _ fun P k => k l _ _ _ _ _ _ _ _ _ _ _ (by k_asm) (by k_asm) hA8 (fun c hc => hW9 c (.tail _ hc)) (by omega) (by omega) (by omega) (tok_step htok) (by with_unfolding_all exact hmS) (by with_unfolding_all exact hmF) (by with_unfolding_all rfl)
    | false =>
      obtain ⟨c0, wd1, rfl⟩ : ∃ c0 w0, wd = c0 :: w0 := by
        cases wd with
        | nil => exact absurd rfl (hqt rfl)
        | cons a b => exact ⟨a, b, rfl⟩
      simp only [Bool.false_eq_true, if_false, escL, List.cons_append, List.append_assoc, List.singleton_append, List.nil_append] at hA9
      refine rc_next w x d pl n8 f g cg lst cat ctx od8 ofn og ocg ocat octx _ _ k2 k3 t3 k4 kk bl T _ _ _ _ 92 _ _ (by k_asm) (by k_asm) (by k_asm) (by k_asm) (by k_asm) (by first | rfl | assumption) ⟨hA9.1, hA9.get, hp3, by omega, by omega, hCh, ⟨hF1, hF2, hF3, hF4, hF5⟩, hR⟩ (by omega) (by omega) (by (try simp only [depth_under_make, depth_under_kw, depth_in1, depth_deeper, depth_caller]); show _ < _; (try dsimp only [ktrTop]); (first | exact lt_rm hdp rfl | exact lt_rm hun rfl | exact lt_rm0 hdp rfl | exact lt_rm0 hun rfl | exact lt_rmB hdp rfl | exact lt_rmB hun rfl | exact lt_rmC hdp rfl | exact lt_rmC hun rfl | omega)) (by (try simp only [units_under_make, units_under_kw, units_in1, units_deeper, units_caller]); show _ < _; (try dsimp only [ktrTop]); (first | exact lt_rm hdp rfl | exact lt_rm hun rfl | exact lt_rm0 hdp rfl | exact lt_rm0 hun rfl | exact lt_rmB hdp rfl | exact lt_rmB hun rfl | exact lt_rmC hdp rfl | exact lt_rmC hun rfl | omega)) ?_
      intro ln8 k18 t18 t8 tp8 h8 tk8 e18 e28 F8 N8
      have hA8 := hA9.next
      k_steps
      refine hold_mk ?_
      refine rc_call w x d pl n8 f g cg lst cat ctx od8 ofn og ocg ocat octx _ _ k2 k3 t3 k4 kk bl T _ _ _ _ c0 _ _ (by k_asm) (by k_asm) (by k_asm) (by k_asm) (by k_asm) (by first | rfl | assumption) ⟨hA8.1, hA8.get, hp3, by omega, by omega, hCh, ⟨hF1, hF2, hF3, hF4, hF5⟩, hR⟩ (by omega) (by omega) (by (try simp only [depth_under_make, depth_under_kw, depth_in1, depth_deeper, depth_caller]); show _ < _; (try dsimp only [ktrTop]); (first | exact lt_rm hdp rfl | exact lt_rm hun rfl | exact lt_rm0 hdp rfl | exact lt_rm0 hun rfl | exact lt_rmB hdp rfl | exact lt_rmB hun rfl | exact lt_rmC hdp rfl | exact lt_rmC hun rfl | omega)) (by (try simp only [units_under_make, units_under_kw, units_in1, units_deeper, units_caller]); show _ < _; (try dsimp only [ktrTop]); (first | exact lt_rm hdp rfl | exact lt_rm hun rfl | exact lt_rm0 hdp rfl | exact lt_rm0 hun rfl | exact lt_rmB hdp rfl | exact lt_rmB hun rfl | exact lt_rmC hdp rfl | exact lt_rmC hun rfl | omega)) ?_
      intro ln7 k17 t17 t7 tp7 h7 tk7 e17 e27 F7 N7
      have hA7 := hA8.next
      k_steps
      refine hold_mk ?_
      refine mkJ (fun (n : Nat) P => ∀ (l : List Nat) (tok : Str) (ln' p' : Int) (k1' t1' tp' tt' t07 : Tok) (m' : Frm) (h' : Heap) (tk' : Nat), Fr gx Lx h' m' → News gx Lx h' ((I7, ciObj (.ref q7) (.str (Str.ofString "") t07)) :: (q7, methodObj (.ref 178) (.ref x)) :: (x, instObj 195 d) :: (d, rdDict w ln' f pl k1' t1' k2 k3 t3 k4) :: (lst, W.listOf #[.int p' tp'] kk) :: (pl, W.listOf #[] 0) :: (n8, od8) :: (f, ofn) :: (g, og) :: (cg, ocg) :: (cat, ocat) :: (ctx, octx) :: bl) → At T p' (escL l ++ (10 :: rest)) → (∀ c ∈ l, wsC c) → l.length + 1 ≤ n → ln ≤ ln' → ln' + 2 * l.length ≤ ln + 30 → tok ++ (⟨l.toArray⟩ : Str) = ⟨(c0 :: wd1).toArray⟩ → m' (Str.ofString "self") = some (.ref x) → m' (Str.ofString "fiter") = some (.ref I7) → m' (Str.ofString "token") = some (.str tok tt') → P ⟨h', sG, sD, tk', sO⟩) ?_
      intro J2 mk2 el2
      refine owit_ind J2 ?_ ?_ 64 _ (mk2 _ _ fun P k => k wd1 _ _ _ _ _ _ _ _ _ _ _ (by k_asm) (by k_asm) hA7 (fun c hc => hW9 c (.tail _ hc)) (by simp only [List.length_cons] at hL; omega) (by omega) (by simp only [List.length_cons] at hl9b; omega) (tok_step htok) (by with_unfolding_all exact hmS) (by with_unfolding_all exact hmF) (by with_unfolding_all rfl))
      · intro s' hJ
        refine el2 _ _ (fun _ => False) hJ ?_
        clear hJ
        intro l tok ln9 p9 k19 t19 tp9 tt9 t079 m9 h9 tk9 F9 N9 hA9 hW9 hn9 hl9 hl9b htok hmS hmF hmT
        omega
      · intro n s' hJ
        clear hmS hmF hmT hA8 hA9 hA7 htok hW9
        refine el2 _ _ _ hJ ?_
        clear hJ
        intro l tok ln9 p9 k19 t19 tp9 tt9 t079 m9 h9 tk9 F9 N9 hA9 hW9 hn9 hl9 hl9b htok hmS hmF hmT
        cases l with
        | nil =>
          simp only [escL, List.nil_append] at hA9
          refine rc_next w x d pl n8 f g cg lst cat ctx od8 ofn og ocg ocat octx _ _ k2 k3 t3 k4 kk bl T _ _ _ _ 10 _ _ (by k_asm) (by k_asm) (by k_asm) (by k_asm) (by k_asm) (by first | rfl | assumption) ⟨hA9.1, hA9.get, hp3, by omega, by omega, hCh, ⟨hF1, hF2, hF3, hF4, hF5⟩, hR⟩ (by omega) (by omega) (by (try simp only [depth_under_make, depth_under_kw, depth_in1, depth_deeper, depth_caller]); show _ < _; (try dsimp only [ktrTop]); (first | exact lt_rm hdp rfl | exact lt_rm hun rfl | exact lt_rm0 hdp rfl | exact lt_rm0 hun rfl | exact lt_rmB hdp rfl | exact lt_rmB hun rfl | exact lt_rmC hdp rfl | exact lt_rmC hun rfl | omega)) (by (try simp only [units_under_make, units_under_kw, units_in1, units_deeper, units_caller]); show _ < _; (try dsimp only [ktrTop]); (first | exact lt_rm hdp rfl | exact lt_rm hun rfl | exact lt_rm0 hdp rfl | exact lt_rm0 hun rfl | exact lt_rmB hdp rfl | exact lt_rmB hun rfl | exact lt_rmC hdp rfl | exact lt_rmC hun rfl | omega)) ?_
          intro ln8 k18 t18 t8 tp8 h8 tk8 e18 e28 F8 N8
          have hA8 := hA9.next
          k_steps
          exact tok_ret hret (by k_asm) (by k_asm) (by omega) (by omega) hA8 (tok_done htok)
        | cons c l =>
          simp only [escL, List.cons_append, List.length_cons] at hA9 hn9 hl9b
          refine rc_next w x d pl n8 f g cg lst cat ctx od8 ofn og ocg ocat octx _ _ k2 k3 t3 k4 kk bl T _ _ _ _ 92 _ _ (by k_asm) (by k_asm) (by k_asm) (by k_asm) (by k_asm) (by first | rfl | assumption) ⟨hA9.1, hA9.get, hp3, by omega, by omega, hCh, ⟨hF1, hF2, hF3, hF4, hF5⟩, hR⟩ (by omega) (by omega) (by (try simp only [depth_under_make, depth_under_kw, depth_in1, depth_deeper, depth_caller]); show _ < _; (try dsimp only [ktrTop]); (first | exact lt_rm hdp rfl | exact lt_rm hun rfl | exact lt_rm0 hdp rfl | exact lt_rm0 hun rfl | exact lt_rmB hdp rfl | exact lt_rmB hun rfl | exact lt_rmC hdp rfl | exact lt_rmC hun rfl | omega)) (by (try simp only [units_under_make, units_under_kw, units_in1, units_deeper, units_caller]); show _ < _; (try dsimp only [ktrTop]); (first | exact lt_rm hdp rfl | exact lt_rm hun rfl | exact lt_rm0 hdp rfl | exact lt_rm0 hun rfl | exact lt_rmB hdp rfl | exact lt_rmB hun rfl | exact lt_rmC hdp rfl | exact lt_rmC hun rfl | omega)) ?_
          intro ln8 k18 t18 t8 tp8 h8 tk8 e18 e28 F8 N8
          have hA8 := hA9.next
          k_steps
          refine hold_mk ?_
          refine rc_call w x d pl n8 f g cg lst cat ctx od8 ofn og ocg ocat octx _ _ k2 k3 t3 k4 kk bl T _ _ _ _ c _ _ (by k_asm) (by k_asm) (by k_asm) (by k_asm) (by k_asm) (by first | rfl | assumption) ⟨hA8.1, hA8.get, hp3, by omega, by omega, hCh, ⟨hF1, hF2, hF3, hF4, hF5⟩, hR⟩ (by omega) (by omega) (by (try simp only [depth_under_make, depth_under_kw, depth_in1, depth_deeper, depth_caller]); show _ < _; (try dsimp only [ktrTop]); (first | exact lt_rm hdp rfl | exact lt_rm hun rfl | exact lt_rm0 hdp rfl | exact lt_rm0 hun rfl | exact lt_rmB hdp rfl | exact lt_rmB hun rfl | exact lt_rmC hdp rfl | exact lt_rmC hun rfl | omega)) (by (try simp only [units_under_make, units_under_kw, units_in1, units_deeper, units_caller]); show _ < _; (try dsimp only [ktrTop]); (first | exact lt_rm hdp rfl | exact lt_rm hun rfl | exact lt_rm0 hdp rfl | exact lt_rm0 hun rfl | exact lt_rmB hdp rfl | exact lt_rmB hun rfl | exact lt_rmC hdp rfl | exact lt_rmC hun rfl | omega)) ?_
          intro ln7 k17 t17 t7 tp7 h7 tk7 e17 e27 F7 N7
          have hA7 := hA8.next
          k_steps
          exact mk2 _ _ fun P k => k l _ _ _ _ _ _ _ _ _ _ _ (by k_asm) (by k_asm) hA7 (fun c hc => hW9 c (.tail _ hc)) (by omega) (by omega) (by omega) (tok_step htok) (by with_unfolding_all exact hmS) (by with_unfolding_all exact hmF) (by with_unfolding_all rfl)
  · rcases hnl with rfl | rfl
    · exact .inl (mk1 _ _ fun P k => k wd (Str.ofString "") ln p _ _ _ _ _ _ _ _ (by k_asm) (by k_asm) (by simpa only [List.nil_append] using hA) hW (by omega) (by omega) (by omega) tok_nil (by with_unfolding_all rfl) (by with_unfolding_all rfl) (by with_unfolding_all rfl) rfl rfl)
    · refine .inr ?_
      simp only [List.cons_append, List.nil_append] at hA
      refine rc_next w x d pl n8 f g cg lst cat ctx od8 ofn og ocg ocat octx _ _ k2 k3 t3 k4 kk bl T _ _ _ _ 10 _ _ (by k_asm) (by k_asm) (by k_asm) (by k_asm) (by k_asm) (by first | rfl | assumption) ⟨hA.1, hA.get, hp3, by omega, by omega, hCh, ⟨hF1, hF2, hF3, hF4, hF5⟩, hR⟩ (by omega) (by omega) (by (try simp only [depth_under_make, depth_under_kw, depth_in1, depth_deeper, depth_caller]); show _ < _; (try dsimp only [ktrTop]); (first | exact lt_rm hdp rfl | exact lt_rm hun rfl | exact lt_rm0 hdp rfl | exact lt_rm0 hun rfl | exact lt_rmB hdp rfl | exact lt_rmB hun rfl | exact lt_rmC hdp rfl | exact lt_rmC hun rfl | omega)) (by (try simp only [units_under_make, units_under_kw, units_in1, units_deeper, units_caller]); show _ < _; (try dsimp only [ktrTop]); (first | exact lt_rm hdp rfl | exact lt_rm hun rfl | exact lt_rm0 hdp rfl | exact lt_rm0 hun rfl | exact lt_rmB hdp rfl | exact lt_rmB hun rfl | exact lt_rmC hdp rfl | exact lt_rmC hun rfl | omega)) ?_
      intro ln8 k18 t18 t8 tp8 h8 tk8 e18 e28 F8 N8
      have hA8 := hA.next
      k_steps
      exact mk1 _ _ fun P k => k wd (Str.ofString "") _ _ _ _ _ _ _ _ _ _ (by k_asm) (by k_asm) hA8 hW (by omega) (by omega) (by omega) tok_nil (by with_unfolding_all rfl) (by with_unfolding_all rfl) (by with_unfolding_all rfl) rfl rfl
theorem news_whole {h₀ h : Heap} {L : Addr} {l : CbLed} {G : Prop} (_N : News h₀ L h l) (k : ∀ r, r = l → G) : G := k _ rfl
def ilN (ts : Int) (cnt : List Int) : Nat → Int
  | 0 => 0
  | i + 1 => ilN ts cnt i + (ts + (i : Int)).fdiv ts * cnt.getD (ts + (i : Int)).toNat 0
def il (st : WsS) (ts : Int) : Int := st.2.1 + ts * (ilN ts st.1 ((st.1.length : Int) - ts).toNat + st.2.2.2)
theorem len_tup_ints {prog : Program} {w : World} {A : Around} {E : Value → Shared → Prop} {s : Shared} {h₀ : Heap} {L t : Addr} {news : CbLed} {vs : List Value} {ns : List Int} {Q : Value → Shared → Prop} (N : News h₀ L s.heap news) (hm : (t, tupO vs.toArray) ∈ news) (hi : IntsAre vs ns) (hl : ns.length ≤ 100)
    (h : Q (.int (ns.length : Int) (s.toks + 1)) { s with toks := s.toks + 1 + 1 }) : wpAny (model prog w) A (call (.builtin "len") [.ref t]) Q E s := by
  have e : vs.toArray.size = ns.length := by rw [List.size_toArray]; exact hi.length
  exact len_tuple (N.isTup hm) (by rw [e]; omega) (by rw [e]; exact h)
theorem mul_all : ∀ i : Fin 128, Builtin.Int.intBits (i.val : Int) ≤ 64 := by decide +kernel
theorem mul_ok {a b : Int} (h0 : 0 ≤ a) (h1 : a < 128) : IntMulOk a b := by
  obtain ⟨i, rfl⟩ := Int.eq_ofNat_of_zero_le h0
  exact IntMulOk.of_left (mul_all ⟨i, by omega⟩)
theorem getD_bd {cnt : List Int} {k : Nat} (h : ∀ v ∈ cnt, 0 ≤ v ∧ v ≤ 12) : 0 ≤ cnt.getD k 0 ∧ cnt.getD k 0 ≤ 12 := by
  rw [List.getD_eq_getElem?_getD]
  cases e : cnt[k]? with
  | none => simp
  | some v => exact h v (List.mem_of_getElem? e)
theorem fdiv_bd {a b : Int} (h0 : 0 ≤ a) (h1 : a ≤ 100) (hb : 1 ≤ b) : 0 ≤ a.fdiv b ∧ a.fdiv b ≤ 100 := by
  rw [Int.fdiv_eq_ediv_of_nonneg _ (by omega)]
  exact ⟨Int.ediv_nonneg h0 (by omega), Int.le_trans (Int.ediv_le_self _ h0) h1⟩
theorem mul_bd {a b A B : Int} (h0 : 0 ≤ a) (h1 : a ≤ A) (k0 : 0 ≤ b) (k1 : b ≤ B) : 0 ≤ a * b ∧ a * b ≤ A * B :=
  ⟨Int.mul_nonneg h0 k0, Int.mul_le_mul h1 k1 k0 (Int.le_trans h0 h1)⟩
theorem c_il (w : World)  (x0 d0 nT cT : Addr) (vs : List Value) (bs : Bool) (wx : Str) (st : WsS) (twx twb twn twnt wk1 wk2 wk3 wk4 wk5 : CbTok) (base : CbLed) (ts : Int) (tts : CbTok) :
    Clm w 52 [.ref x0, .int ts tts] ((x0, instObj 83 d0) :: (d0, wsDict w wx st.2.2.1 st.2.2.2 nT bs twx twn twnt wk1 wk2 wk3 wk4 wk5) :: (nT, tupO #[.ref cT, .int st.2.1 twb]) :: (cT, tupO vs.toArray) :: base) (1 ≤ ts ∧ ts ≤ 20 ∧ 0 ≤ st.2.1 ∧ st.2.1 ≤ 12 ∧ 0 ≤ st.2.2.2 ∧ st.2.2.2 ≤ 12 ∧ st.1.length ≤ 13 ∧ (∀ v ∈ st.1, 0 ≤ v ∧ v ≤ 12) ∧ IntsAre vs st.1) (RetV ((x0, instObj 83 d0) :: (d0, wsDict w wx st.2.2.1 st.2.2.2 nT bs twx twn twnt wk1 wk2 wk3 wk4 wk5) :: (nT, tupO #[.ref cT, .int st.2.1 twb]) :: (cT, tupO vs.toArray) :: base) (fun t => .int (il st ts) t)) := by
  dsimp only [Clm, ClmD, MyProg, MyK]
  k_fill
  k_with_none
  k_with "my room" => ((try simp only [depth_under_make, depth_under_kw, depth_in1, depth_deeper, depth_caller]); show _ < 1000; (try dsimp only [ktrTop]); (first | exact lt_rm hdp rfl | exact lt_rm hun rfl | exact lt_rm0 hdp rfl | exact lt_rm0 hun rfl | exact lt_rmB hdp rfl | exact lt_rmB hun rfl | exact lt_rmC hdp rfl | exact lt_rmC hun rfl | omega))
  k_with "my all" => (first | assumption | (refine tnAll (by assumption) ?_; omega) | (refine tnAll2 (by assumption) ?_; omega))
  k_with "my ne" => (first | (with_reducible assumption) | exact Ne.symm (by with_reducible assumption))
  k_with "enter" => (refine wpAny_call ?_; k_dflt (first
    | cell_enter
    | (refine' code_defC ?k1 ?k2 ?k3 ?k4 ?k5 ?kA ?kF ?kK ?k6 ?k7 ?k8 ?k9 ?kB ?kD ?_ ?c2 ?c3 ?c4; (case kA => exact rfl); (case kF => exact rfl); (case kK => assumption); (case k1 => k_asm); (case k2 => k_asm); (case k3 => k_asm); (case k4 => k_asm); (case k5 => k_asm); (case k6 => k_is); (case k7 => k_is); (case k8 => k_room); (case k9 => exact BindsTo.of_eq rfl); (case kB => exact rfl); (case kD => decide +kernel); (case c2 => exact rfl); (case c3 => exact rfl); (case c4 => exact rfl); k_whole; intro g' L' h' tk' cells' FG' F' N' Y' B' X' T' l1; (try k_lt l1); k_cells Y'; (try simp only [List.cons_append, List.nil_append] at N'); (try dsimp only); (try k_lift B'); (try k_fold))))
  k_with "enter2" => (refine wpAny_call ?_; k_dflt (refine' code_def ?k1 ?k2 ?k3 ?k4 ?k5 ?kA ?kF ?kK ?k6 ?k7 ?k8 ?k9 ?kB ?_ ?c2 ?c3 ?c4 ?c5; (case kA => exact rfl); (case kF => exact rfl); (case kK => assumption); (case k1 => k_asm); (case k2 => k_asm); (case k3 => k_asm); (case k4 => k_asm); (case k5 => k_asm); (case k6 => k_is); (case k7 => k_is); (case k8 => ktr_room); (case k9 => exact BindsTo.of_eq rfl); (case c5 => decide); (case kB => exact locs rfl); (case c2 => exact rfl); (case c3 => exact rfl); (case c4 => exact rfl); k_whole; intro gx Lx hx FGx Fx Nx Bx Xx Tx; (try dsimp only); (try k_lift Bx); (try k_fold)))
  k_with "my exec For Name Call cons nil" => (k_here; k_dflt (refine For_invV gx (by rfl) (by rfl) ?_))
  k_with "my pyIter ref" => (refine hold ?_)
  k_with "my eval Name" => (k_here; k_dflt (first | (refine ld (by k_asm) (by with_unfolding_all exact hm1) ?_) | (refine ld (by k_asm) (by with_unfolding_all exact hm2) ?_) | (refine ld (by k_asm) (by with_unfolding_all exact hm3) ?_) | (refine ld (by k_asm) (by with_unfolding_all exact hm4) ?_) | (refine ld (by k_asm) (by with_unfolding_all exact hm5) ?_)))
  k_with "my call builtin:len" => (k_here; k_dflt (refine len_tup_ints (by k_asm) (by k_mem) hI (by omega) ?_))
  k_with "my subscriptTail Name Name ref int" => (k_here; k_dflt (refine item_tuple_ints (News.isTup (by k_asm) (by k_mem)) hI (by omega) (by omega) (by omega) ?_ (by with_unfolding_all rfl) (by intro _; with_unfolding_all rfl)); intro t8)
  k_with "my binaryOp Mult int int" => (k_here; k_dflt (refine PyProof.Rows.mul_int ?_ (mul_ok hbA.1 (by omega))))
  intro loose mean mg mb dp un gd cn cs a ccd cl outer A₀ base h₀ L m0 s Q E hB hF hX hN hT hcs hpre hdp hun hret
  refine aE9 hpre ?_; clear hpre; intro hp1 hp2 hb1 hb2 hb3 hb4 hb5 hb6 hI
  k_extra "enter2"
  k_steps
  refine hold_mk ?_
  k_dflt (refine iter_rangeUnr (n := ((st.1.length : Int) - ts).toNat) (by rfl) (by assumption) (by exact small_one (by omega) (by omega) (by omega) (by omega)) (by first | exact rangeSize_nat _ _ | rfl) (by k_asm) (by k_asm) ?_)
  intro I1 lI1
  refine news_whole (by k_asm) ?_
  intro rest9 hr9
  have hrI : ∀ p ∈ rest9, p.1 ≠ I1 := fun p hp => Nat.ne_of_lt (lI1 p (hr9 ▸ hp))
  refine' range_ind (fun i m' n' => ∃ tl : Tok, n' = rest9 ∧ m' (Str.ofString "tabsize") = some (.int ts tts) ∧ m' (Str.ofString "count") = some (.ref cT) ∧ m' (Str.ofString "self") = some (.ref x0) ∧ m' (Str.ofString "trailing") = some (.int st.2.1 twb) ∧ m' (Str.ofString "il") = some (.int (ilN ts st.1 i) tl) ∧ 0 ≤ ilN ts st.1 i ∧ ilN ts st.1 i ≤ 1200 * i) ?step ?done _ _ _ _ ?e ?init
  case e => omega
  case init => exact ⟨_, hr9.symm, rfl, rfl, rfl, rfl, rfl, Int.le_refl _, Int.le_refl _⟩
  case step =>
    intro i1 m1 n1 t1 h1 tk1 it hi hJ F1 N1
    obtain ⟨tl, rfl, hm1, hm2, hm3, hm4, hm5, hs1, hs2⟩ := hJ
    rw [hr9] at N1
    have hbA := fdiv_bd (a := ts + (i1 : Int)) (b := ts) (by omega) (by omega) hp1
    have hbB := getD_bd (k := (ts + (i1 : Int)).toNat) hb6
    have hbC := mul_bd hbA.1 hbA.2 hbB.1 hbB.2
    k_steps
    exact ⟨_, _, _, n1, rfl, by k_asm, by rw [hr9]; k_asm, hrI, _, rfl, by with_unfolding_all exact hm1, by with_unfolding_all exact hm2, by with_unfolding_all exact hm3, by with_unfolding_all exact hm4, by with_unfolding_all rfl, by show 0 ≤ _ + _; omega, by show _ + _ ≤ _; omega⟩
  case done =>
    intro m1 n1 h1 tk1 hJ F1 N1
    obtain ⟨tl, rfl, hm1, hm2, hm3, hm4, hm5, hs1, hs2⟩ := hJ
    rw [hr9] at N1
    k_steps
    exact retI hret rfl (by k_asm) (by k_asm) (fun _ h => h)
def lr (st : WsS) : Int := if st.2.1 > (st.1.length : Int) - 1 then st.2.1 else (st.1.length : Int) - 1
theorem c_lr (w : World)  (x0 d0 nT cT : Addr) (vs : List Value) (bs : Bool) (wx : Str) (st : WsS) (twx twb twn twnt wk1 wk2 wk3 wk4 wk5 : CbTok) (base : CbLed) :
    Clm w 45 [.ref x0] ((x0, instObj 83 d0) :: (d0, wsDict w wx st.2.2.1 st.2.2.2 nT bs twx twn twnt wk1 wk2 wk3 wk4 wk5) :: (nT, tupO #[.ref cT, .int st.2.1 twb]) :: (cT, tupO vs.toArray) :: base) (0 ≤ st.2.1 ∧ st.2.1 ≤ 12 ∧ 0 ≤ st.2.2.2 ∧ st.2.2.2 ≤ 12 ∧ st.1.length ≤ 13 ∧ (∀ v ∈ st.1, 0 ≤ v ∧ v ≤ 12) ∧ IntsAre vs st.1) (RetV ((x0, instObj 83 d0) :: (d0, wsDict w wx st.2.2.1 st.2.2.2 nT bs twx twn twnt wk1 wk2 wk3 wk4 wk5) :: (nT, tupO #[.ref cT, .int st.2.1 twb]) :: (cT, tupO vs.toArray) :: base) (fun t => .int (lr st) t)) := by
  dsimp only [Clm, ClmD, MyProg, MyK]
  k_fill
  k_with_none
  k_with "my room" => ((try simp only [depth_under_make, depth_under_kw, depth_in1, depth_deeper, depth_caller]); show _ < 1000; (try dsimp only [ktrTop]); (first | exact lt_rm hdp rfl | exact lt_rm hun rfl | exact lt_rm0 hdp rfl | exact lt_rm0 hun rfl | exact lt_rmB hdp rfl | exact lt_rmB hun rfl | exact lt_rmC hdp rfl | exact lt_rmC hun rfl | omega))
  k_with "my all" => (first | assumption | (refine tnAll (by assumption) ?_; omega) | (refine tnAll2 (by assumption) ?_; omega))
  k_with "my ne" => (first | (with_reducible assumption) | exact Ne.symm (by with_reducible assumption))
  k_with "enter" => (refine wpAny_call ?_; k_dflt (first
    | cell_enter
    | (refine' code_defC ?k1 ?k2 ?k3 ?k4 ?k5 ?kA ?kF ?kK ?k6 ?k7 ?k8 ?k9 ?kB ?kD ?_ ?c2 ?c3 ?c4; (case kA => exact rfl); (case kF => exact rfl); (case kK => assumption); (case k1 => k_asm); (case k2 => k_asm); (case k3 => k_asm); (case k4 => k_asm); (case k5 => k_asm); (case k6 => k_is); (case k7 => k_is); (case k8 => k_room); (case k9 => exact BindsTo.of_eq rfl); (case kB => exact rfl); (case kD => decide +kernel); (case c2 => exact rfl); (case c3 => exact rfl); (case c4 => exact rfl); k_whole; intro g' L' h' tk' cells' FG' F' N' Y' B' X' T' l1; (try k_lt l1); k_cells Y'; (try simp only [List.cons_append, List.nil_append] at N'); (try dsimp only); (try k_lift B'); (try k_fold))))
  k_with "my call builtin:len" => (k_here; k_dflt (refine len_tup_ints (by k_asm) (by k_mem) hI (by omega) ?_))
  intro loose mean mg mb dp un gd cn cs a ccd cl outer A₀ base h₀ L m0 s Q E hB hF hX hN hT hcs hpre hdp hun hret
  refine aE7 hpre ?_; clear hpre; intro hb1 hb2 hb3 hb4 hb5 hb6 hI
  k_extra "enter"
  k_steps
  exact retI hret rfl (by k_asm) (by k_asm) (fun _ h => h)
def wits (st stq : WsS) : Nat → List Dat
  | 0 => []
  | i + 1 => wits st stq i ++ (if il stq (1 + (i : Int)) ≤ il st (1 + (i : Int)) then [Dat.tuple [.int (1 + (i : Int)), .int (il st (1 + (i : Int))), .int (il stq (1 + (i : Int)))]] else [])
theorem swap8 {a1 a2 a3 a4 b1 b2 b3 b4 : Addr × Obj} {l : CbLed} : ∀ q ∈ b1 :: b2 :: b3 :: b4 :: a1 :: a2 :: a3 :: a4 :: l, q ∈ a1 :: a2 :: a3 :: a4 :: b1 :: b2 :: b3 :: b4 :: l := swapL [b1, b2, b3, b4] [a1, a2, a3, a4]
theorem led8 {a1 a2 a3 a4 b1 b2 b3 b4 l1 l2 : Addr × Obj} {bl tl : CbLed} (hs : ∀ p ∈ a1 :: a2 :: a3 :: a4 :: b1 :: b2 :: b3 :: b4 :: bl, p ∈ tl) : ∀ q ∈ a1 :: a2 :: a3 :: a4 :: b1 :: b2 :: b3 :: b4 :: l1 :: l2 :: tl, q ∈ l1 :: l2 :: tl := by
  intro q hq
  have h8 : q = a1 ∨ q = a2 ∨ q = a3 ∨ q = a4 ∨ q = b1 ∨ q = b2 ∨ q = b3 ∨ q = b4 ∨ q ∈ l1 :: l2 :: tl := by simpa only [List.mem_cons] using hq
  rcases h8 with h | h | h | h | h | h | h | h | h <;> first | exact h | exact .tail _ (.tail _ (hs q (by simp [h])))
theorem lr_bd {st : WsS} (h1 : 0 ≤ st.2.1) (h2 : st.2.1 ≤ 12) (h3 : st.1.length ≤ 13) : 0 ≤ lr st ∧ lr st ≤ 12 := by
  unfold lr
  split <;> omega
theorem max_bd {a b : Int} (h1 : 0 ≤ a ∧ a ≤ 12) (h2 : 0 ≤ b ∧ b ≤ 12) : 0 ≤ (if b > a then b else a) ∧ (if b > a then b else a) ≤ 12 := by
  split <;> omega
theorem nlw_end1 {h₀ h' : Heap} {L I aD T : Addr} {it o tt : Obj} {R : Frm → CbLed → Prop} {s₁ : Shared} {tk : Nat} {m' : Frm} {tl : CbLed} {a1 a2 a3 a4 b1 b2 b3 b4 : Addr × Obj} (F : Fr h₀ L h' m') (N : News h₀ L h' ((T, tt) :: a1 :: a2 :: a3 :: a4 :: b1 :: b2 :: b3 :: b4 :: (I, it) :: (aD, o) :: tl))
    (o1 : aD ≠ I) (o2 : T ≠ I) (o3 : ∀ p ∈ tl, p.1 ≠ I) (j : R m' ((aD, o) :: (T, tt) :: tl)) : UnrEnd h₀ L s₁ I it R { s₁ with heap := h', toks := tk } :=
  ⟨h', tk, m', (aD, o) :: (T, tt) :: tl, rfl, F, cb_drop N (fun p hp => by
    simp only [List.mem_cons] at hp ⊢
    rcases hp with h | h | h | h <;> simp [h]), List.forall_mem_cons.mpr ⟨o1, List.forall_mem_cons.mpr ⟨o2, o3⟩⟩, j⟩
theorem nlw_end2 {h₀ h' : Heap} {L I aD : Addr} {it o : Obj} {R : Frm → CbLed → Prop} {s₁ : Shared} {tk : Nat} {m' : Frm} {tl : CbLed} {a1 a2 a3 a4 b1 b2 b3 b4 : Addr × Obj} (F : Fr h₀ L h' m') (N : News h₀ L h' (a1 :: a2 :: a3 :: a4 :: b1 :: b2 :: b3 :: b4 :: (I, it) :: (aD, o) :: tl))
    (o1 : aD ≠ I) (o3 : ∀ p ∈ tl, p.1 ≠ I) (j : R m' ((aD, o) :: tl)) : UnrEnd h₀ L s₁ I it R { s₁ with heap := h', toks := tk } :=
  ⟨h', tk, m', (aD, o) :: tl, rfl, F, cb_drop N (fun p hp => by
    simp only [List.mem_cons] at hp ⊢
    rcases hp with h | h | h <;> simp [h]), List.forall_mem_cons.mpr ⟨o1, o3⟩, j⟩
def JN (bl8 : CbLed) (st stq : WsS) (x0 x0q I1 : Addr) (i : Nat) (m' : Frm) (n' : CbLed) : Prop :=
  ∀ P : CbLed → Prop, (∀ (aD : Addr) (vsA : List Value) (kA : Nat) (tl : CbLed), (∀ p ∈ bl8, p ∈ tl) → DatAll tl vsA (wits st stq i) → (∀ p ∈ tl, p.1 ≠ aD) → (∀ p ∈ tl, p.1 ≠ I1) → aD ≠ I1 → vsA.length ≤ i → m' (Str.ofString "self") = some (.ref x0) → m' (Str.ofString "other") = some (.ref x0q) → m' (Str.ofString "a") = some (.ref aD) → P ((aD, W.listOf vsA.toArray kA) :: tl)) → P n'
theorem JN_mk {bl8 : CbLed} {st stq : WsS} {x0 x0q I1 : Addr} {i : Nat} {m' : Frm} {aD : Addr} {vsA : List Value} {kA : Nat} {tl : CbLed} : (∀ p ∈ bl8, p ∈ tl) → DatAll tl vsA (wits st stq i) → (∀ p ∈ tl, p.1 ≠ aD) → (∀ p ∈ tl, p.1 ≠ I1) → aD ≠ I1 → vsA.length ≤ i → m' (Str.ofString "self") = some (.ref x0) → m' (Str.ofString "other") = some (.ref x0q) → m' (Str.ofString "a") = some (.ref aD) → JN bl8 st stq x0 x0q I1 i m' ((aD, W.listOf vsA.toArray kA) :: tl) := fun a1 a2 a3 a4 a5 a6 a7 a8 a9 _ k => k aD vsA kA tl a1 a2 a3 a4 a5 a6 a7 a8 a9
theorem wits_yes {st stq : WsS} {i : Nat} {tl : CbLed} {vsA : List Value} {T : Addr} {t1 t2 t3 : Tok} (h : il stq (1 + (i : Int)) ≤ il st (1 + (i : Int))) (hD : DatAll tl vsA (wits st stq i)) :
    DatAll ((T, tupO #[.int (1 + (i : Int)) t1, .int (il st (1 + (i : Int))) t2, .int (il stq (1 + (i : Int))) t3]) :: tl) (vsA ++ [.ref T]) (wits st stq (i + 1)) := by
  simp only [wits]
  rw [if_pos h]
  exact (hD.mono fun p hp => .tail _ hp).append (.one (.tuple (n := 0) (vs := [_, _, _]) (.head _) (.cons (.int _ _) (.cons (.int _ _) (.cons (.int _ _) .nil)))))
theorem wits_no {st stq : WsS} {i : Nat} {tl : CbLed} {vsA : List Value} (h : ¬ il stq (1 + (i : Int)) ≤ il st (1 + (i : Int))) (hD : DatAll tl vsA (wits st stq i)) : DatAll tl vsA (wits st stq (i + 1)) := by
  simp only [wits]
  rw [if_neg h, List.append_nil]
  exact hD
abbrev RetDat (news : CbLed) (ds : List Dat) : Heap → Addr → Frm → Shared → (Value → Shared → Prop) → Prop := fun h₀ L m s Q =>
  ∀ (D : Addr) (vs : List Value) (k : Nat) (base' : CbLed) (h' : Heap) (tk' : Nat), Fr h₀ L h' m → News h₀ L h' ((D, W.listOf vs.toArray k) :: base') → DatAll base' vs ds → (∀ p ∈ news, p ∈ base') → (∀ p ∈ base', p.1 ≠ D) → Q (.ref D) { s with heap := h', toks := tk' }
theorem c_nlw (w : World)  (x0 d0 nT cT : Addr) (vs : List Value) (bs : Bool) (wx : Str) (st : WsS) (twx twb twn twnt wk1 wk2 wk3 wk4 wk5 : CbTok) (x0q d0q nTq cTq : Addr) (vsq : List Value) (bsq : Bool) (wxq : Str) (stq : WsS) (twxq twbq twnq twntq wk1q wk2q wk3q wk4q wk5q : CbTok) (bl : CbLed) :
    ClmD 890 4980 w 80 [.ref x0, .ref x0q] ((x0, instObj 83 d0) :: (d0, wsDict w wx st.2.2.1 st.2.2.2 nT bs twx twn twnt wk1 wk2 wk3 wk4 wk5) :: (nT, tupO #[.ref cT, .int st.2.1 twb]) :: (cT, tupO vs.toArray) :: (x0q, instObj 83 d0q) :: (d0q, wsDict w wxq stq.2.2.1 stq.2.2.2 nTq bsq twxq twnq twntq wk1q wk2q wk3q wk4q wk5q) :: (nTq, tupO #[.ref cTq, .int stq.2.1 twbq]) :: (cTq, tupO vsq.toArray) :: bl) ((0 ≤ st.2.1 ∧ st.2.1 ≤ 12 ∧ 0 ≤ st.2.2.2 ∧ st.2.2.2 ≤ 12 ∧ st.1.length ≤ 13 ∧ (∀ v ∈ st.1, 0 ≤ v ∧ v ≤ 12) ∧ IntsAre vs st.1) ∧ (0 ≤ stq.2.1 ∧ stq.2.1 ≤ 12 ∧ 0 ≤ stq.2.2.2 ∧ stq.2.2.2 ≤ 12 ∧ stq.1.length ≤ 13 ∧ (∀ v ∈ stq.1, 0 ≤ v ∧ v ≤ 12) ∧ IntsAre vsq stq.1)) (RetDat ((x0, instObj 83 d0) :: (d0, wsDict w wx st.2.2.1 st.2.2.2 nT bs twx twn twnt wk1 wk2 wk3 wk4 wk5) :: (nT, tupO #[.ref cT, .int st.2.1 twb]) :: (cT, tupO vs.toArray) :: (x0q, instObj 83 d0q) :: (d0q, wsDict w wxq stq.2.2.1 stq.2.2.2 nTq bsq twxq twnq twntq wk1q wk2q wk3q wk4q wk5q) :: (nTq, tupO #[.ref cTq, .int stq.2.1 twbq]) :: (cTq, tupO vsq.toArray) :: bl) (wits st stq ((if lr stq > lr st then lr stq else lr st) + 1).toNat)) := by
  dsimp only [Clm, ClmD, MyProg, MyK]
  k_fill
  k_with_none
  k_with "my room" => ((try simp only [depth_under_make, depth_under_kw, depth_in1, depth_deeper, depth_caller]); show _ < 1000; (try dsimp only [ktrTop]); (first | exact lt_rm hdp rfl | exact lt_rm hun rfl | exact lt_rm0 hdp rfl | exact lt_rm0 hun rfl | exact lt_rmB hdp rfl | exact lt_rmB hun rfl | exact lt_rmC hdp rfl | exact lt_rmC hun rfl | omega))
  k_with "my all" => (first | assumption | (refine tnAll (by assumption) ?_; omega) | (refine tnAll2 (by assumption) ?_; omega))
  k_with "my ne" => (first | (with_reducible assumption) | exact Ne.symm (by with_reducible assumption))
  k_with "enter" => (refine wpAny_call ?_; k_dflt (first
    | cell_enter
    | (refine' code_defC ?k1 ?k2 ?k3 ?k4 ?k5 ?kA ?kF ?kK ?k6 ?k7 ?k8 ?k9 ?kB ?kD ?_ ?c2 ?c3 ?c4; (case kA => exact rfl); (case kF => exact rfl); (case kK => assumption); (case k1 => k_asm); (case k2 => k_asm); (case k3 => k_asm); (case k4 => k_asm); (case k5 => k_asm); (case k6 => k_is); (case k7 => k_is); (case k8 => k_room); (case k9 => exact BindsTo.of_eq rfl); (case kB => exact rfl); (case kD => decide +kernel); (case c2 => exact rfl); (case c3 => exact rfl); (case c4 => exact rfl); k_whole; intro g' L' h' tk' cells' FG' F' N' Y' B' X' T' l1; (try k_lt l1); k_cells Y'; (try simp only [List.cons_append, List.nil_append] at N'); (try dsimp only); (try k_lift B'); (try k_fold))))
  k_with "enter2" => (refine wpAny_call ?_; k_dflt (refine' code_def ?k1 ?k2 ?k3 ?k4 ?k5 ?kA ?kF ?kK ?k6 ?k7 ?k8 ?k9 ?kB ?_ ?c2 ?c3 ?c4 ?c5; (case kA => exact rfl); (case kF => exact rfl); (case kK => assumption); (case k1 => k_asm); (case k2 => k_asm); (case k3 => k_asm); (case k4 => k_asm); (case k5 => k_asm); (case k6 => k_is); (case k7 => k_is); (case k8 => ktr_room); (case k9 => exact BindsTo.of_eq rfl); (case c5 => decide); (case kB => exact locs rfl); (case c2 => exact rfl); (case c3 => exact rfl); (case c4 => exact rfl); k_whole; intro gx Lx hx FGx Fx Nx Bx Xx Tx; (try dsimp only); (try k_lift Bx); (try k_fold)))
  k_with "my pyIter ref" => (refine hold ?_)
  k_with "my exec For Name Call cons nil" => (k_here; k_dflt (refine For_invV gx (by rfl) (by rfl) ?_))
  k_with "my eval Name" => (k_here; k_dflt (first | (refine ld (by k_asm) (by with_unfolding_all exact hm1) ?_) | (refine ld (by k_asm) (by with_unfolding_all exact hm2) ?_) | (refine ld (by k_asm) (by with_unfolding_all exact hm3) ?_)))
  k_with "my call ref" => (first | (k_dflt (refine c_lr w x0 d0 nT cT vs bs wx st twx twb twn twnt wk1 wk2 wk3 wk4 wk5 _ _ _ _ _ _ _ _ _ _ _ _ _ _ _ _ _ _ _ _ _ _ (by k_asm) (by k_asm) (by k_asm) (by k_asm) (by k_asm) (by first | rfl | assumption) (hBd) (by (try simp only [depth_under_make, depth_under_kw, depth_in1, depth_deeper, depth_caller]); show _ < _; (try dsimp only [ktrTop]); (first | exact lt_rm hdp rfl | exact lt_rm hun rfl | exact lt_rm0 hdp rfl | exact lt_rm0 hun rfl | exact lt_rmB hdp rfl | exact lt_rmB hun rfl | exact lt_rmC hdp rfl | exact lt_rmC hun rfl | omega)) (by (try simp only [units_under_make, units_under_kw, units_in1, units_deeper, units_caller]); show _ < _; (try dsimp only [ktrTop]); (first | exact lt_rm hdp rfl | exact lt_rm hun rfl | exact lt_rm0 hdp rfl | exact lt_rm0 hun rfl | exact lt_rmB hdp rfl | exact lt_rmB hun rfl | exact lt_rmC hdp rfl | exact lt_rmC hun rfl | omega)) ?_); intro t6 h6 tk6 F6 N6) | (k_dflt (refine c_lr w x0q d0q nTq cTq vsq bsq wxq stq twxq twbq twnq twntq wk1q wk2q wk3q wk4q wk5q _ _ _ _ _ _ _ _ _ _ _ _ _ _ _ _ _ _ _ _ _ _ (by k_asm) (by k_asm) (by k_asm) (cb_drop (by k_asm) swap8) (by k_asm) (by first | rfl | assumption) (hBq) (by (try simp only [depth_under_make, depth_under_kw, depth_in1, depth_deeper, depth_caller]); show _ < _; (try dsimp only [ktrTop]); (first | exact lt_rm hdp rfl | exact lt_rm hun rfl | exact lt_rm0 hdp rfl | exact lt_rm0 hun rfl | exact lt_rmB hdp rfl | exact lt_rmB hun rfl | exact lt_rmC hdp rfl | exact lt_rmC hun rfl | omega)) (by (try simp only [units_under_make, units_under_kw, units_in1, units_deeper, units_caller]); show _ < _; (try dsimp only [ktrTop]); (first | exact lt_rm hdp rfl | exact lt_rm hun rfl | exact lt_rm0 hdp rfl | exact lt_rm0 hun rfl | exact lt_rmB hdp rfl | exact lt_rmB hun rfl | exact lt_rmC hdp rfl | exact lt_rmC hun rfl | omega)) ?_); intro t6 h6 tk6 F6 N6; (replace N6 := cb_drop N6 swap8)) | (k_dflt (refine c_il w x0 d0 nT cT vs bs wx st twx twb twn twnt wk1 wk2 wk3 wk4 wk5 _ _ _ _ _ _ _ _ _ _ _ _ _ _ _ _ _ _ _ _ _ _ _ _ (by k_asm) (by k_asm) (by k_asm) (by k_asm) (by k_asm) (by first | rfl | assumption) (⟨by omega, by omega, hBd⟩) (by (try simp only [depth_under_make, depth_under_kw, depth_in1, depth_deeper, depth_caller]); show _ < _; (try dsimp only [ktrTop]); (first | exact lt_rm hdp rfl | exact lt_rm hun rfl | exact lt_rm0 hdp rfl | exact lt_rm0 hun rfl | exact lt_rmB hdp rfl | exact lt_rmB hun rfl | exact lt_rmC hdp rfl | exact lt_rmC hun rfl | omega)) (by (try simp only [units_under_make, units_under_kw, units_in1, units_deeper, units_caller]); show _ < _; (try dsimp only [ktrTop]); (first | exact lt_rm hdp rfl | exact lt_rm hun rfl | exact lt_rm0 hdp rfl | exact lt_rm0 hun rfl | exact lt_rmB hdp rfl | exact lt_rmB hun rfl | exact lt_rmC hdp rfl | exact lt_rmC hun rfl | omega)) ?_); intro t6 h6 tk6 F6 N6) | (k_dflt (refine c_il w x0q d0q nTq cTq vsq bsq wxq stq twxq twbq twnq twntq wk1q wk2q wk3q wk4q wk5q _ _ _ _ _ _ _ _ _ _ _ _ _ _ _ _ _ _ _ _ _ _ _ _ (by k_asm) (by k_asm) (by k_asm) (cb_drop (by k_asm) swap8) (by k_asm) (by first | rfl | assumption) (⟨by omega, by omega, hBq⟩) (by (try simp only [depth_under_make, depth_under_kw, depth_in1, depth_deeper, depth_caller]); show _ < _; (try dsimp only [ktrTop]); (first | exact lt_rm hdp rfl | exact lt_rm hun rfl | exact lt_rm0 hdp rfl | exact lt_rm0 hun rfl | exact lt_rmB hdp rfl | exact lt_rmB hun rfl | exact lt_rmC hdp rfl | exact lt_rmC hun rfl | omega)) (by (try simp only [units_under_make, units_under_kw, units_in1, units_deeper, units_caller]); show _ < _; (try dsimp only [ktrTop]); (first | exact lt_rm hdp rfl | exact lt_rm hun rfl | exact lt_rm0 hdp rfl | exact lt_rm0 hun rfl | exact lt_rmB hdp rfl | exact lt_rmB hun rfl | exact lt_rmC hdp rfl | exact lt_rmC hun rfl | omega)) ?_); intro t6 h6 tk6 F6 N6; (replace N6 := cb_drop N6 swap8)))
  intro loose mean mg mb dp un gd cn cs a ccd cl outer A₀ base h₀ L m0 s Q E hB hF hX hN hT hcs hpre hdp hun hret
  refine aE2 hpre ?_
  clear hpre
  intro hBd hBq
  have hBd2 := hBd
  have hBq2 := hBq
  refine aE7 hBd2 ?_
  clear hBd2
  intro hb1 hb2 hb3 hb4 hb5 hb6 hI
  refine aE7 hBq2 ?_
  clear hBq2
  intro hc1 hc2 hc3 hc4 hc5 hc6 hIq
  have hlb := max_bd (lr_bd hb1 hb2 hb5) (lr_bd hc1 hc2 hc5)
  k_extra "enter2"
  k_steps
  refine hold_mk ?_
  generalize hmx : (if lr stq > lr st then lr stq else lr st) = mx at *
  k_dflt (refine iter_rangeUnr (n := (mx + 1 + 1 - 1).toNat) (by rfl) (by assumption) (by exact small_one (by omega) (by omega) (by omega) (by omega)) (by first | exact rangeSize_nat _ _ | rfl) (by k_asm) (by k_asm) ?_)
  intro I1 lI1
  refine' range_ind (JN ((x0, instObj 83 d0) :: (d0, wsDict w wx st.2.2.1 st.2.2.2 nT bs twx twn twnt wk1 wk2 wk3 wk4 wk5) :: (nT, tupO #[.ref cT, .int st.2.1 twb]) :: (cT, tupO vs.toArray) :: (x0q, instObj 83 d0q) :: (d0q, wsDict w wxq stq.2.2.1 stq.2.2.2 nTq bsq twxq twnq twntq wk1q wk2q wk3q wk4q wk5q) :: (nTq, tupO #[.ref cTq, .int stq.2.1 twbq]) :: (cTq, tupO vsq.toArray) :: bl) st stq x0 x0q I1) ?step ?done _ _ _ _ ?e ?init
  case e => omega
  case init =>
    refine JN_mk (vsA := []) (fun p hp => hp) .nil ?_ (fun p hp => Nat.ne_of_lt (lI1 p (.tail _ hp))) (Nat.ne_of_lt (lI1 _ (.head _))) (by decide) rfl rfl rfl
    rename _ ∧ _ ∧ _ ∧ _ ∧ _ ∧ _ ∧ _ ∧ _ ∧ AllLt _ bl => hl1
    intro p hp
    simp only [List.mem_cons] at hp
    rcases hp with rfl | rfl | rfl | rfl | rfl | rfl | rfl | rfl | hp
    iterate 8 (exact neN (by show @Ne Nat _ _; (try dsimp only); omega))
    exact Nat.ne_of_lt (kst_ltOf hl1.2.2.2.2.2.2.2.2 p hp)
  case step =>
    intro i1 m1 n1 t1 h1 tk1 it hi hJ F1 N1
    revert N1
    refine hJ (fun nn => News _ _ _ ((I1, it) :: nn) → _) ?_
    clear hJ
    intro aD vsA kA tl hs hD ho1 ho2 ho3 hvl hm1 hm2 hm3 N1
    replace N1 := cb_drop N1 (led8 hs)
    have hm : ∀ p ∈ ((x0, instObj 83 d0) :: (d0, wsDict w wx st.2.2.1 st.2.2.2 nT bs twx twn twnt wk1 wk2 wk3 wk4 wk5) :: (nT, tupO #[.ref cT, .int st.2.1 twb]) :: (cT, tupO vs.toArray) :: (x0q, instObj 83 d0q) :: (d0q, wsDict w wxq stq.2.2.1 stq.2.2.2 nTq bsq twxq twnq twntq wk1q wk2q wk3q wk4q wk5q) :: (nTq, tupO #[.ref cTq, .int stq.2.1 twbq]) :: (cTq, tupO vsq.toArray) :: bl), p.1 ≠ aD := fun p hp => ho1 p (hs p hp)
    simp only [List.forall_mem_cons] at hm
    refine aE9 hm ?_
    clear hm
    intro e1 e2 e3 e4 e5 e6 e7 e8 _
    k_steps
    · refine nlw_end1 (by k_asm) (by k_asm) ho3 (neN (by show @Ne Nat _ _; omega)) ho2 ?_
      exact JN_mk (fun p hp => .tail _ (hs p hp)) (by rw [List.concat_eq_append]; exact wits_yes (by assumption) hD) (List.forall_mem_cons.mpr ⟨neN (by show @Ne Nat _ _; (try dsimp only); omega), ho1⟩) (List.forall_mem_cons.mpr ⟨neN (by show @Ne Nat _ _; (try dsimp only); omega), ho2⟩) ho3 (by simp; omega) (by with_unfolding_all exact hm1) (by with_unfolding_all exact hm2) (by with_unfolding_all exact hm3)
    · refine nlw_end2 (by k_asm) (by k_asm) ho3 ho2 ?_
      exact JN_mk hs (wits_no (by assumption) hD) ho1 ho2 ho3 (by omega) (by with_unfolding_all exact hm1) (by with_unfolding_all exact hm2) (by with_unfolding_all exact hm3)
  case done =>
    intro m1 n1 h1 tk1 hJ F1 N1
    revert N1
    refine hJ (fun nn => News _ _ _ nn → _) ?_
    clear hJ
    intro aD vsA kA tl hs hD ho1 ho2 ho3 hvl hm1 hm2 hm3 N1
    rw [show mx + 1 + 1 - 1 = mx + 1 by omega] at hD
    k_steps
    exact hret _ _ _ _ _ _ (by k_asm) (by k_asm) hD hs ho1
def runsL (x y : Str) : List Int := (Txt.split (x ++ Str.ofString "\t" ++ y) (Str.ofString "\t")).map fun r => (r.length : Int)
def payG (m coins debt : Int) : List Int → Int → List Int := fun l k => if debt ≤ k * m ∧ k * m ≤ coins then l ++ [k * m] else l
theorem payG_grows (m coins debt : Int) : KPfGrows (payG m coins debt) := by
  intro l k
  unfold payG
  split <;> simp
def sentL (x y : Str) (m : Int) : List Int := (rangeKs 0 (col x m + 1 - 0).toNat).foldl (payG m (col x m) (col y m + 1)) []
def dues (x y : Str) : Nat → List Dat
  | 0 => []
  | i + 1 => dues x y i ++ (if sentL x y (1 + (i : Int)) = [] then [] else [Dat.tuple [.int (1 + (i : Int)), .int (col x (1 + (i : Int))), .int ((sentL x y (1 + (i : Int))).getD 0 0)]])
theorem colL_bd {m : Int} (h0 : 0 < m) (h1 : m < 100) : ∀ (cs : List Int) (a : Int), 0 ≤ a → 0 ≤ cs.foldl (colStep m) a ∧ cs.foldl (colStep m) a ≤ a + 100 * cs.length
  | [], a, h => by simp; exact h
  | c :: r, a, h => by
    have hb := fmod_bd (a := a) h0
    have hs : 0 ≤ colStep m a c ∧ colStep m a c ≤ a + 100 := by
      unfold colStep
      split <;> omega
    have := colL_bd h0 h1 r (colStep m a c) hs.1
    simp only [List.foldl_cons, List.length_cons]
    omega
theorem col_bd {m : Int} {x : Str} (h0 : 0 < m) (h1 : m < 100) : 0 ≤ col x m ∧ col x m ≤ 100 * x.cps.size := by
  have := colL_bd h0 h1 (KStt.codes x) 0 (by decide)
  have e : (KStt.codes x).length = x.cps.size := by simp [KStt.codes]
  unfold col colL
  omega
theorem sv_at {l : List (Str × Tok)} {i : Nat} {v : Value} {k : Str} (h1 : (l.map (·.1))[i]? = some k) (h2 : (strValues l).toArray[i]? = some v) : ∃ t, v = .str k t := by
  simp only [strValues, List.getElem?_toArray, List.getElem?_map] at h1 h2
  cases e : l[i]? with
  | none => simp [e] at h1
  | some p =>
    simp only [e, Option.map_some, Option.some.injEq] at h1 h2
    exact ⟨p.2, by rw [← h2, ← h1]⟩
theorem runs_len {x y : Str} {l : List (Str × Tok)} {i : Nat} {k : Str} {M : Int} (e : l.map (·.1) = Txt.split (x ++ Str.ofString "	" ++ y) (Str.ofString "	")) (h : (l.map (·.1))[i]? = some k) (hM : ∀ a ∈ runsL x y, a ≤ M) : (k.length : Int) ≤ M := by
  refine hM _ ?_
  unfold runsL
  rw [← e]
  exact List.mem_map.mpr ⟨k, List.mem_of_getElem? h, rfl⟩
theorem mul_okr {a b : Int} (h0 : 0 ≤ b) (h1 : b < 128) : IntMulOk a b := by
  obtain ⟨i, rfl⟩ := Int.eq_ofNat_of_zero_le h0
  exact IntMulOk.of_right (mul_all ⟨i, by omega⟩)
theorem pay_drop {h₀ h : Heap} {L : Addr} {a b l c1 c2 c3 : Addr × Obj} {news : CbLed} (N : News h₀ L h (a :: b :: l :: c1 :: c2 :: c3 :: news)) : News h₀ L h (l :: c1 :: c2 :: c3 :: news) := fun p hp => N p (.tail _ (.tail _ hp))
theorem pay_keep {h₀ h : Heap} {L : Addr} {l c1 c2 c3 : Addr × Obj} {tl : CbLed} (N : News h₀ L h (l :: c1 :: c2 :: c3 :: tl)) : News h₀ L h (l :: tl) := fun p hp => by
  rcases List.mem_cons.mp hp with rfl | hp
  · exact N _ (.head _)
  · exact N _ (.tail _ (.tail _ (.tail _ (.tail _ hp))))
theorem pay_end1 {h₀ h' : Heap} {L I aD T : Addr} {it o tt : Obj} {R : Frm → CbLed → Prop} {s₁ : Shared} {tk : Nat} {m' : Frm} {tl : CbLed} {e d c1 c2 c3 : Addr × Obj} (F : Fr h₀ L h' m') (N : News h₀ L h' ((T, tt) :: e :: d :: (I, it) :: (aD, o) :: c1 :: c2 :: c3 :: tl))
    (o1 : aD ≠ I) (o2 : T ≠ I) (q1 : c1.1 ≠ I) (q2 : c2.1 ≠ I) (q3 : c3.1 ≠ I) (o3 : ∀ p ∈ tl, p.1 ≠ I) (j : R m' ((aD, o) :: c1 :: c2 :: c3 :: (T, tt) :: tl)) : UnrEnd h₀ L s₁ I it R { s₁ with heap := h', toks := tk } :=
  ⟨h', tk, m', (aD, o) :: c1 :: c2 :: c3 :: (T, tt) :: tl, rfl, F, cb_drop N (fun p hp => by
    simp only [List.mem_cons] at hp ⊢
    rcases hp with h | h | h | h | h | h | h <;> simp [h]), List.forall_mem_cons.mpr ⟨o1, List.forall_mem_cons.mpr ⟨q1, List.forall_mem_cons.mpr ⟨q2, List.forall_mem_cons.mpr ⟨q3, List.forall_mem_cons.mpr ⟨o2, o3⟩⟩⟩⟩⟩, j⟩
theorem pay_end2 {h₀ h' : Heap} {L I aD : Addr} {it o : Obj} {R : Frm → CbLed → Prop} {s₁ : Shared} {tk : Nat} {m' : Frm} {tl : CbLed} {e d c1 c2 c3 : Addr × Obj} (F : Fr h₀ L h' m') (N : News h₀ L h' (e :: d :: (I, it) :: (aD, o) :: c1 :: c2 :: c3 :: tl))
    (o1 : aD ≠ I) (q1 : c1.1 ≠ I) (q2 : c2.1 ≠ I) (q3 : c3.1 ≠ I) (o3 : ∀ p ∈ tl, p.1 ≠ I) (j : R m' ((aD, o) :: c1 :: c2 :: c3 :: tl)) : UnrEnd h₀ L s₁ I it R { s₁ with heap := h', toks := tk } :=
  ⟨h', tk, m', (aD, o) :: c1 :: c2 :: c3 :: tl, rfl, F, cb_drop N (fun p hp => .tail _ (.tail _ hp)), List.forall_mem_cons.mpr ⟨o1, List.forall_mem_cons.mpr ⟨q1, List.forall_mem_cons.mpr ⟨q2, List.forall_mem_cons.mpr ⟨q3, o3⟩⟩⟩⟩, j⟩
def JP (news : CbLed) (x y : Str) (tx ty : Tok) (I1 L' : Addr) (i : Nat) (m' : Frm) (n' : CbLed) : Prop :=
  ∀ P : CbLed → Prop, (∀ (aD : Addr) (vsA : List Value) (kA : Nat) (o1 o2 o3 : Obj) (q1 q2 q3 : Option Value) (tl : CbLed), o1.data = .cell q1 → o2.data = .cell q2 → o3.data = .cell q3 → (∀ p ∈ news, p ∈ tl) → DatAll tl vsA (dues x y i) → (∀ p ∈ tl, p.1 ≠ aD) → (∀ p ∈ tl, p.1 ≠ I1) → (∀ p ∈ tl, p.1 ≠ L' + 1) → (∀ p ∈ tl, p.1 ≠ L' + 1 + 1) → (∀ p ∈ tl, p.1 ≠ L' + 1 + 1 + 1) → aD ≠ I1 → aD ≠ L' + 1 → aD ≠ L' + 1 + 1 → aD ≠ L' + 1 + 1 + 1 → vsA.length ≤ i → m' (Str.ofString "first") = some (.str x tx) → m' (Str.ofString "second") = some (.str y ty) → m' (Str.ofString "due") = some (.ref aD) → P ((aD, W.listOf vsA.toArray kA) :: (L' + 1 + 1 + 1, o1) :: (L' + 1 + 1, o2) :: (L' + 1, o3) :: tl)) → P n'
theorem JP_mk {news : CbLed} {x y : Str} {tx ty : Tok} {I1 L' : Addr} {i : Nat} {m' : Frm} {aD : Addr} {vsA : List Value} {kA : Nat} {o1 o2 o3 : Obj} {q1 q2 q3 : Option Value} {tl : CbLed} : o1.data = .cell q1 → o2.data = .cell q2 → o3.data = .cell q3 → (∀ p ∈ news, p ∈ tl) → DatAll tl vsA (dues x y i) → (∀ p ∈ tl, p.1 ≠ aD) → (∀ p ∈ tl, p.1 ≠ I1) → (∀ p ∈ tl, p.1 ≠ L' + 1) → (∀ p ∈ tl, p.1 ≠ L' + 1 + 1) → (∀ p ∈ tl, p.1 ≠ L' + 1 + 1 + 1) → aD ≠ I1 → aD ≠ L' + 1 → aD ≠ L' + 1 + 1 → aD ≠ L' + 1 + 1 + 1 → vsA.length ≤ i → m' (Str.ofString "first") = some (.str x tx) → m' (Str.ofString "second") = some (.str y ty) → m' (Str.ofString "due") = some (.ref aD) → JP news x y tx ty I1 L' i m' ((aD, W.listOf vsA.toArray kA) :: (L' + 1 + 1 + 1, o1) :: (L' + 1 + 1, o2) :: (L' + 1, o3) :: tl) := fun a1 a2 a3 a4 a5 a6 a7 a8 a9 b1 b2 b3 b4 b5 b6 b7 b8 b9 _ k => k aD vsA kA o1 o2 o3 q1 q2 q3 tl a1 a2 a3 a4 a5 a6 a7 a8 a9 b1 b2 b3 b4 b5 b6 b7 b8 b9
theorem dues_yes {x y : Str} {i : Nat} {tl : CbLed} {vsA : List Value} {T : Addr} {t1 t2 t3 : Tok} (h : decide (sentL x y (1 + (i : Int)) = []) = false) (hD : DatAll tl vsA (dues x y i)) :
    DatAll ((T, tupO #[.int (1 + (i : Int)) t1, .int (col x (1 + (i : Int))) t2, .int ((sentL x y (1 + (i : Int))).getD 0 0) t3]) :: tl) (vsA ++ [.ref T]) (dues x y (i + 1)) := by
  simp only [dues]
  rw [if_neg (of_decide_eq_false h)]
  exact (hD.mono fun p hp => .tail _ hp).append (.one (.tuple (n := 0) (vs := [_, _, _]) (.head _) (.cons (.int _ _) (.cons (.int _ _) (.cons (.int _ _) .nil)))))
theorem dues_no {x y : Str} {i : Nat} {tl : CbLed} {vsA : List Value} (h : decide (sentL x y (1 + (i : Int)) = []) = true) (hD : DatAll tl vsA (dues x y i)) : DatAll tl vsA (dues x y (i + 1)) := by
  simp only [dues]
  rw [if_pos (of_decide_eq_true h), List.append_nil]
  exact hD
theorem sent_pos {L : List Int} (h : decide (L = []) = false) : (0 : Int) < L.length := by
  have := of_decide_eq_false h
  cases L with
  | nil => exact absurd rfl this
  | cons a r => simp
theorem pay_bd {x y : Str} (h1 : x.cps.size ≤ 9) (h2 : y.cps.size ≤ 9) : x.length + (Str.ofString "\t").length ≤ 30 ∧ (x ++ Str.ofString "\t").length + y.length ≤ 30 ∧ (x ++ Str.ofString "\t" ++ y).length + 2 ≤ 30 := by
  have e : (Str.ofString "\t").length = 1 := by decide
  simp only [Str.length_append, e]
  show x.cps.size + 1 ≤ 30 ∧ x.cps.size + 1 + y.cps.size ≤ 30 ∧ x.cps.size + 1 + y.cps.size + 2 ≤ 30
  omega
theorem c_pay (w : World) (news : CbLed) (x y : CbStr) (tx ty : CbTok) (M : Int) :
    ClmD 890 4950 w 237 [.str x tx, .str y ty] news (x.cps.size ≤ 9 ∧ y.cps.size ≤ 9 ∧ M ∈ runsL x y ∧ (∀ a ∈ runsL x y, a ≤ M) ∧ 0 ≤ M ∧ M ≤ 12 ∧ (runsL x y).length ≤ 100) (RetDat news (dues x y (M + 1).toNat)) := by
  dsimp only [Clm, ClmD, MyProg, MyK]
  k_fill
  k_with_none
  k_with "my room" => ((try simp only [depth_under_make, depth_under_kw, depth_in1, depth_deeper, depth_caller]); show _ < 1000; (try dsimp only [ktrTop]); (first | exact lt_rm hdp rfl | exact lt_rm hun rfl | exact lt_rm0 hdp rfl | exact lt_rm0 hun rfl | exact lt_rmB hdp rfl | exact lt_rmB hun rfl | exact lt_rmC hdp rfl | exact lt_rmC hun rfl | omega))
  k_with "my all" => (first | assumption | (refine tnAll (by assumption) ?_; omega) | (refine tnAll2 (by assumption) ?_; omega))
  k_with "my ne" => (first | (with_reducible assumption) | exact Ne.symm (by with_reducible assumption))
  k_with "enter" => (refine wpAny_call ?_; k_dflt (first
    | cell_enter
    | (refine' code_defC ?k1 ?k2 ?k3 ?k4 ?k5 ?kA ?kF ?kK ?k6 ?k7 ?k8 ?k9 ?kB ?kD ?_ ?c2 ?c3 ?c4; (case kA => exact rfl); (case kF => exact rfl); (case kK => assumption); (case k1 => k_asm); (case k2 => k_asm); (case k3 => k_asm); (case k4 => k_asm); (case k5 => k_asm); (case k6 => k_is); (case k7 => k_is); (case k8 => k_room); (case k9 => exact BindsTo.of_eq rfl); (case kB => exact rfl); (case kD => decide +kernel); (case c2 => exact rfl); (case c3 => exact rfl); (case c4 => exact rfl); k_whole; intro g' L' h' tk' cells' FG' F' N' Y' B' X' T' l1; (try k_lt l1); k_cells Y'; (try simp only [List.cons_append, List.nil_append] at N'); (try dsimp only); (try k_lift B'); (try k_fold))))
  k_with "my binaryOp Add str str" => (k_here; k_dflt (first | (refine PyProof.Rows.add_str ?_ (le_size hpb.1 rfl)) | (refine PyProof.Rows.add_str ?_ (le_size hpb.2.1 rfl))); intro t9 tk9)
  k_with "my call builtin:str.split" => (k_here; k_dflt (refine KSpl.split1 (by k_asm) (by k_asm) (by decide) ?_ (le_size hpb.2.2 rfl)); intro D5 l5 h5 k5 e5 a5 F5 N5 l5a; (k_lt l5a))
  k_with "my eval ListComp" => (k_here; k_dflt (refine LCg.ListComp_U (by k_asm) (by with_unfolding_all rfl) (by decide) (by rfl) (by decide) (by rfl) ?_))
  k_with "my eval Name" => (k_here; k_dflt (first | (refine nameX_L (by k_asm) (by with_unfolding_all exact hm1) ?_ (by rfl) (by rfl)) | (refine nameX_L (by k_asm) (by with_unfolding_all exact hm2) ?_ (by rfl) (by rfl)) | (refine nameX_L (by k_asm) (by with_unfolding_all exact hm3) ?_ (by rfl) (by rfl))))
  k_with "my subscriptTail Name Constant ref int" => (k_here; k_dflt (refine item_list_intsT (News.isList (by k_asm) (by k_mem)) hI8 (by decide) (sent_pos (by assumption)) (by decide) ?_ (by with_unfolding_all rfl)); intro t8)
  k_with "my CompEnd" => (k_here; k_dflt (refine LCg.CompEnd.intro (by assumption) (by assumption) _ (fun _ h => h) (by with_unfolding_all assumption) ?_ ?_))
  k_with "my binaryOp Mult int int" => (k_here; k_dflt (refine PyProof.Rows.mul_int ?_ (mul_okr (by omega) (by omega))))
  k_with "my call builtin:max" => (k_here; k_dflt (refine max_list_N (by rfl) (by k_asm) (by k_asm) (l := D) (vs := ys) ⟨_, (N9 _ (.head _)).1, rfl, _, rfl⟩ hy2 (List.length_pos_of_mem hM1) ?_); intro h7 M7 t7 tk7 F7 N7 hM7 hM8; (obtain rfl : M7 = M := Int.le_antisymm (hM2 _ hM7) (hM8 _ hM1)))
  k_with "my exec For Name Call cons nil" => (k_here; k_dflt (refine For_turns (by k_asm) ?_))
  k_with "my pyIter ref" => (refine hold ?_)
  k_with "my call ref" => (k_dflt (refine c_col w _ _ _ _ _ _ _ _ _ _ _ _ _ _ _ _ _ _ _ _ _ _ _ _ _ _ (by k_asm) (by k_asm) (by k_asm) (by k_asm) (by k_asm) (by first | rfl | assumption) (⟨by omega, by omega, by omega⟩) (by (try simp only [depth_under_make, depth_under_kw, depth_in1, depth_deeper, depth_caller]); show _ < _; (try dsimp only [ktrTop]); (first | exact lt_rm hdp rfl | exact lt_rm hun rfl | exact lt_rm0 hdp rfl | exact lt_rm0 hun rfl | exact lt_rmB hdp rfl | exact lt_rmB hun rfl | exact lt_rmC hdp rfl | exact lt_rmC hun rfl | omega)) (by (try simp only [units_under_make, units_under_kw, units_in1, units_deeper, units_caller]); show _ < _; (try dsimp only [ktrTop]); (first | exact lt_rm hdp rfl | exact lt_rm hun rfl | exact lt_rm0 hdp rfl | exact lt_rm0 hun rfl | exact lt_rmB hdp rfl | exact lt_rmB hun rfl | exact lt_rmC hdp rfl | exact lt_rmC hun rfl | omega)) ?_); intro t6 h6 tk6 F6 N6)
  k_with "my CompSrcT" => (refine hold ?_)
  k_with "my CompSrc" => (refine hold ?_)
  intro loose mean mg mb dp un gd cn cs a ccd cl outer A₀ base h₀ L m0 s Q E hB hF hX hN hT hcs hpre hdp hun hret
  refine aE7 hpre ?_
  clear hpre
  intro hp1 hp2 hM1 hM2 hM3 hM4 hM5
  have hpb := pay_bd hp1 hp2
  k_extra "enter"
  k_steps
  refine hold_mk ?_
  k_dflt (refine LCg.CompSrc.ledger (by rfl) (by k_asm) (by k_asm) (by k_mem) (le_size (k := 100) ?hz rfl) ?_)
  case hz => (have e9 := congrArg List.length e5; simp only [List.length_map] at e9; simp only [runsL, List.length_map] at hM5; simp [strValues]; omega)
  intro g9
  refine rest_ints (l5.map (·.1)) (fun r => (r.length : Int)) (by simp [strValues]) ?_ ?_
  · intro i k9 v I oI C oC D m2 ys h8 tk8 E8 hk9 hv9 hC9 hx9 F9 N9 off9 ne9
    have hkl := runs_len e5 hk9 hM2
    obtain ⟨u, rfl⟩ := sv_at hk9 hv9
    k_steps
    · exact .inr ⟨_, .head _, rfl, _, rfl⟩
    · exact ⟨rfl, _, rfl⟩
  · intro ys hy D h9 tk9 F9 N9 O9
    have hy2 : IntsAre ys (runsL x y) := by unfold runsL; rw [← e5]; exact hy
    k_steps
    refine hold_mk ?_
    k_dflt (refine range_turns2 (n := (M7 + 2 - 1).toNat) (by rfl) (by assumption) (by exact small_one (by omega) (by omega) (by omega) (by omega)) (by first | exact rangeSize_nat _ _ | rfl) (by k_asm) (pay_drop (by k_asm)) ?_)
    intro I1 lI1
    refine ⟨JP news x y tx ty I1 L', ?_, ?_, ?_⟩
    · rename _ ∧ _ ∧ _ ∧ AllLt _ news => hl1
      exact JP_mk (vsA := []) (by assumption) (by assumption) (by assumption) (fun p hp => hp) .nil (fun p hp => Nat.ne_of_lt (kst_ltOf hl1.2.2.2 p hp)) (fun p hp => Nat.ne_of_lt (lI1 p (.tail _ (.tail _ (.tail _ (.tail _ hp)))))) (fun p hp => Nat.ne_of_lt (Nat.lt_succ_of_lt (l1 p hp))) (fun p hp => Nat.ne_of_lt (Nat.lt_succ_of_lt (Nat.lt_succ_of_lt (l1 p hp)))) (fun p hp => Nat.ne_of_lt (Nat.lt_succ_of_lt (Nat.lt_succ_of_lt (Nat.lt_succ_of_lt (l1 p hp))))) (Nat.ne_of_lt (lI1 _ (.head _))) (neN (by show @Ne Nat _ _; omega)) (neN (by show @Ne Nat _ _; omega)) (neN (by show @Ne Nat _ _; omega)) (by decide) rfl rfl rfl
    · intro i1 m1 n1 t1 h1 tk1 it hi hJ F1 N1 _
      revert N1
      refine hJ (fun nn => News _ _ _ ((I1, it) :: nn) → _) ?_
      clear hJ
      intro aD vsA kA o1 o2 o3 q1 q2 q3 tl hd1 hd2 hd3 hs hD ho1 ho2 ho3 ho4 ho5 ho6 ho7 ho8 ho9 hvl hm1 hm2 hm3 N1
      have hcI1 : @LT.lt Nat _ (L' + 1 + 1 + 1) I1 := lI1 _ (.tail _ (.head _))
      have hcb1 := col_bd (x := x) (m := 1 + (i1 : Int)) (by omega) (by omega)
      have hcb2 := col_bd (x := y) (m := 1 + (i1 : Int)) (by omega) (by omega)
      k_steps
      refine hold_mk ?_
      k_dflt (refine LCt.CompSrcT.range (by rfl) (by k_asm) (by k_asm) (by assumption) (by exact small_one (by omega) (by omega) (by omega) (by omega)) (by first | exact rangeSize_nat _ _ | rfl) (by rw [PySem.sizeLine_eq]; omega) ?_)
      intro g8
      refine' kci_range (payG (1 + (i1 : Int)) (col x (1 + (i1 : Int))) (col y (1 + (i1 : Int)) + 1)) (fun k4 t4 I4 oI4 C4 oC4 D4 m4 ys4 l4 h4 tk4 E4 hlo4 hhi4 hI4 hC4 hx4 F4 N4 off4 ne4 mk4 => ?_) ?_ (payG_grows _ _ _)
      · k_steps
        all_goals first
          | trivial
          | exact kci_el (by unfold payG; rw [if_pos ⟨by assumption, by assumption⟩]) rfl rfl
          | exact kci_no (by unfold payG; rw [if_neg (fun h => absurd h.2 (by assumption))]) rfl
          | exact kci_no (by unfold payG; rw [if_neg (fun h => absurd h.1 (by assumption))]) rfl
      · unfold KPfDone
        intro ys8 hI8 hlen8
        k_steps
        · refine pay_end2 (by k_asm) (by k_asm) ho6 (Nat.ne_of_lt hcI1) (neN (by show @Ne Nat _ _; (try dsimp only); omega)) (neN (by show @Ne Nat _ _; (try dsimp only); omega)) ho2 ?_
          exact JP_mk (by assumption) (by assumption) (by assumption) hs (dues_no (by assumption) hD) ho1 ho2 ho3 ho4 ho5 ho6 ho7 ho8 ho9 (by omega) (by with_unfolding_all exact hm1) (by with_unfolding_all exact hm2) (by with_unfolding_all exact hm3)
        · refine pay_end1 (by k_asm) (by k_asm) ho6 (neN (by show @Ne Nat _ _; omega)) (Nat.ne_of_lt hcI1) (neN (by show @Ne Nat _ _; (try dsimp only); omega)) (neN (by show @Ne Nat _ _; (try dsimp only); omega)) ho2 ?_
          exact JP_mk (by assumption) (by assumption) (by assumption) (fun p hp => .tail _ (hs p hp)) (by rw [List.concat_eq_append]; exact dues_yes (by assumption) hD) (List.forall_mem_cons.mpr ⟨neN (by show @Ne Nat _ _; (try dsimp only); omega), ho1⟩) (List.forall_mem_cons.mpr ⟨neN (by show @Ne Nat _ _; (try dsimp only); omega), ho2⟩) (List.forall_mem_cons.mpr ⟨neN (by show @Ne Nat _ _; (try dsimp only); omega), ho3⟩) (List.forall_mem_cons.mpr ⟨neN (by show @Ne Nat _ _; (try dsimp only); omega), ho4⟩) (List.forall_mem_cons.mpr ⟨neN (by show @Ne Nat _ _; (try dsimp only); omega), ho5⟩) ho6 ho7 ho8 ho9 (by simp; omega) (by with_unfolding_all exact hm1) (by with_unfolding_all exact hm2) (by with_unfolding_all exact hm3)
    · intro m1 n1 h1 tk1 hJ F1 N1
      revert N1
      refine hJ (fun nn => News _ _ _ nn → _) ?_
      clear hJ
      intro aD vsA kA o1 o2 o3 q1 q2 q3 tl hd1 hd2 hd3 hs hD ho1 ho2 ho3 ho4 ho5 ho6 ho7 ho8 ho9 hvl hm1 hm2 hm3 N1
      rw [show M7 + 2 - 1 = M7 + 1 by omega] at hD
      k_steps
      exact hret aD vsA kA tl _ _ (by k_asm) (pay_keep (by k_asm)) hD hs ho1
/-- the generator ga, its frame C, its iterator I: joined later, under any heap that keeps the ledger -/
def GJoin (prog : Program) (w : World) (A : Around) (h₀ : Heap) (L ga C I : Addr) (led : CbLed) (gens : Array GenState) (n : Nat) (texts : Nat → Str) : Prop :=
  ∀ (sj : Shared) (mj : Frm) (nj : CbLed) (sep : Str) (t : Tok) (Q' E' : Value → Shared → Prop), sj.gens = gens → Fr h₀ L sj.heap mj → News h₀ L sj.heap nj → (∀ p ∈ led, p ∈ nj) → JoinOk sep ((List.range n).map texts) = true →
    (∀ h'' g'' tk'' t'', AllBare g'' → Fr h₀ L h'' mj → (∀ q ∈ nj, q.1 ≠ I → q.1 ≠ C → h''.get? q.1 = some q.2) → Q' (.str (Txt.join sep ((List.range n).map texts)) t'') ⟨h'', g'', sj.drawn, tk'', sj.os⟩) →
      wpAny (model prog w) A (call (.builtin "str.join") [.str sep t, .ref ga]) Q' E' sj
theorem passing_true (n : Nat) : passing (fun _ => true) n 0 = List.range n := by simp [passing]
theorem gx_join {prog : Program} {w : World} {A : Around} {h₀ : Heap} {L ga C I : Addr} {g : Nat} {led : CbLed} {n : Nat} {texts : Nat → Str} {s₅ : Shared} {fp : List Addr} {m : Frm}
    (hh : A.handled = none) (hroom : A.depth < recursionLimit) (F₅ : Fr h₀ L s₅.heap m) (N₅ : News h₀ L s₅.heap led) (hB : AllBare s₅.gens) (hlim : h₀.NoLimit)
    (hfp : ∀ b ∈ C :: fp, (∃ o, (b, o) ∈ led) ∨ ∃ o, h₀.get? b = some o) (hga : ∃ o, (ga, o) ∈ led) (hgC : ga ≠ C) (hgf : ga ∉ fp) (hIf : I ∈ fp) (hcf : cStatics ∈ fp) (hcC : cStatics ≠ C) (hcI : cStatics ≠ I) (hIL : L ≠ I) (hCL : L ≠ C) (hI₀ : h₀.get? I = none) (hC₀ : h₀.get? C = none) (hn : n ≤ sizeLine)
    (st : GenAt prog w A.in4 ga g C fp [I] (fun _ => true) n (fun i y => ∃ u, y = .str (texts i) u) 0 s₅) : GJoin prog w A h₀ L ga C I led s₅.gens n texts := by
  intro sj mj nj sep t Q' E' hg F N hs hok hQ
  have keep : ∀ b ∈ C :: fp, ∀ o, s₅.heap.get? b = some o → sj.heap.get? b = some o := fun b hb o e => by
    rcases hfp b hb with ⟨o', hm⟩ | ⟨o', h'⟩
    · have e1 := (N₅ _ hm).1
      have e2 := (N _ (hs _ hm)).1
      rw [e] at e1
      rw [e2, ← e1]
    · have e1 := F₅.keep _ _ h'
      rw [e] at e1
      rw [F.keep _ _ h', ← e1]
  obtain ⟨oga, hmga⟩ := hga
  have kga : ∀ o, s₅.heap.get? ga = some o → sj.heap.get? ga = some o := fun o e => by
    have e1 := (N₅ _ hmga).1
    have e2 := (N _ (hs _ hmga)).1
    rw [e] at e1
    rw [e2, ← e1]
  have st' : GenAt prog w A.in4 ga g C fp [I] (fun _ => true) n (fun i y => ∃ u, y = .str (texts i) u) 0 sj := by
    obtain ⟨h1, h2, gs, h3, h4⟩ := st
    refine ⟨?_, hlim.keeps F.keep, gs, by rw [hg]; exact h3, fun s'' hk => h4 s'' fun b hb o e => hk b hb o (keep b hb o e)⟩
    obtain ⟨a1, a2, a3, e, r⟩ := h1
    exact ⟨a1, a2, a3, kga _ e, r⟩
  have hlt : ∀ b ∈ ga :: C :: fp, b < sj.heap.objs.size := fun b hb => by
    rcases List.mem_cons.mp hb with rfl | hb
    · exact Heap.lt_size (N _ (hs _ hmga)).1
    · rcases hfp b hb with ⟨o', hm⟩ | ⟨o', h'⟩
      · exact Heap.lt_size (N _ (hs _ hm)).1
      · exact Heap.lt_size (F.keep _ _ h')
  have W := WalksS.genexpQ (prog := prog) (w := w) (A := A.in4) hh ga g C fp [I] (fun _ => true) n (fun i y => ∃ u, y = .str (texts i) u) hgC hgf (fun b hb => by rw [List.mem_singleton.mp hb]; exact hIf) hroom hcf hcC (fun hm => hcI (List.mem_singleton.mp hm))
  have W2 := W.in4_2
  rw [passing_true, List.length_range] at W2
  refine SC.joinGen W2 (fun i s st => st.1.typeIs) st' hlt (List.mem_cons_self ..) (fun j v hv => let ⟨i, _, u, e⟩ := hv; ⟨_, u, e⟩) (fun s' lt hm hacc => ?_) hn
  have hl : lt.map (·.1) = (List.range n).map texts := by
    apply List.ext_getElem?
    intro j
    have hsz : lt.length = n := by simpa [strValues] using hacc.1
    by_cases hj : j < n
    · have hj' : j < lt.length := hsz ▸ hj
      obtain ⟨i, hi, u, hv⟩ := hacc.2 j (.str lt[j].1 lt[j].2) (by simp [strValues, List.getElem?_eq_getElem hj'])
      injection hv with h1 _
      have hij : i = j := by
        rw [List.getElem?_range hj] at hi
        exact (Option.some.inj hi).symm
      subst hij
      simp [List.getElem?_eq_getElem hj', hj, h1]
    · rw [List.getElem?_eq_none (by simpa [hsz] using Nat.le_of_not_lt hj), List.getElem?_eq_none (by simpa using Nat.le_of_not_lt hj)]
  rw [hl]
  have hnot : ∀ b, b ≠ I → b ≠ C → b ∉ [C, I] := fun b h1 h2 hm => by
    rcases List.mem_cons.mp hm with rfl | hm
    · exact h2 rfl
    · exact h1 (List.mem_singleton.mp hm)
  have f1 : Fr h₀ L s'.heap mj := ⟨F.ns.at' fun o e => hm.heap L o (hnot L hIL hCL) e, fun b o e => hm.heap b o (hnot b (fun q => by rw [q, hI₀] at e; cases e) (fun q => by rw [q, hC₀] at e; cases e)) (F.keep b o e), F.above⟩
  have g1 : AllBare s'.gens := (show AllBare sj.gens by rw [hg]; exact hB).moved hm.gens
  refine ⟨hok, fun t' k => ?_⟩
  have e1 := hm.drawn
  have e2 := hm.os
  obtain ⟨hh', gg', dd', tt', oo'⟩ := s'
  dsimp only at e1 e2
  subst e1 e2
  exact hQ hh' gg' k t' g1 f1 fun q hq h1 h2 => hm.heap _ _ (hnot _ h1 h2) (N q hq).1
theorem gx_new {prog : Program} {w : World} {A : Around} {E : Value → Shared → Prop} {s : Shared} {h₀ : Heap} {L a c P l : Addr} {m mg mb : Frm} {cn : Str} {cs : Scope} {ccd : Value} {cl : List (Str × Addr)} {p : Program} {loose : List Str} {mean : ExcName → Option Value} {news : CbLed} {g : Obj → CbLed} {vs : List Value} {kl : Nat}
    {elt : Expr} {y x : Str} {py px : Pos} {scope : Scope} {pos : Pos} {Q : Value → Shared → Prop} (texts : Nat → Str)
    (F : Fr h₀ L s.heap m) (N : News h₀ L s.heap news) (T : Top p loose mean mg mb h₀) (Cd : CodeHd h₀ c P) (hcd : ccd = .ref c) (U : UpdF P (tabObj #[]) news g) (G : AllBare s.gens)
    (hl : (l, W.listOf vs.toArray kl) ∈ news) (hy : m y = some (.ref l)) (hk : cs.kind = .function) (hyl : (envX cn cs L a ccd cl).kindOf y = some .local) (hyd : (y == ("__debug__" : Str)) = false) (hn : vs.length ≤ sizeLine)
    (hh : A.handled = none) (hco : scope.isCoroutine = false) (hclos : closureFor scope (envX cn cs L a ccd cl) = pure []) (hcell : ∀ z ∈ scope.names, z.2 ≠ .cell) (h0 : scope.names.lookup (".0" : Str) = some NameKind.local)
    (hx : scope.names.lookup x = some .local) (hkind : scope.kind = .function) (hroom : A.depth < recursionLimit)
    (helt : ∀ (code : Value) (C : Addr) (A' : Around) (E' : Value → Shared → Prop) (i : Nat) (v : Value) (s₂ : Shared) (m₂ : Frm), A'.handled = none → vs[i]? = some v → Fr h₀ C s₂.heap m₂ → (∀ q ∈ news, q.1 ≠ P → s₂.heap.get? q.1 = some q.2) → m₂ x = some v →
      wpAny (model prog w) A' (eval elt (genEnv scope [] C code builtinsNs (envX cn cs L a ccd cl))) (fun yv s₃ => (∃ u, yv = .str (texts i) u) ∧ Keeps s₂ s₃) E' s₂)
    (h : ∀ (ga C I : Addr) (oa oC oI : Obj) (c' : Addr) (h' : Heap) (tk' : Nat) (gs : GenState), Fr h₀ L h' m → News h₀ L h' ((ga, oa) :: (C, oC) :: (I, oI) :: g (tabObj (#[] ++ #[rawInt pos.line, rawInt pos.col, .ref c']))) → (∀ q ∈ news, q.1 < I) → @LT.lt Nat _ I C → @LT.lt Nat _ C ga → AllBare (s.gens.push gs) →
      GJoin prog w A h₀ L ga C I ((ga, oa) :: (C, oC) :: (I, oI) :: g (tabObj (#[] ++ #[rawInt pos.line, rawInt pos.col, .ref c']))) (s.gens.push gs) vs.length texts → Q (.ref ga) ⟨h', s.gens.push gs, s.drawn, tk', s.os⟩) :
    wpAny (model prog w) A (eval (.GeneratorExp elt [⟨.Name x px, .Name y py, [], 0⟩] scope pos) (envX cn cs L a ccd cl)) Q E s := by
  have hUP := updF_mem U
  obtain ⟨own, rest, rfl, hgr, u1, u2⟩ := U.split
  have hm := N (P, tabObj #[]) hUP
  have hgs := T.g.keeps F.keep
  obtain ⟨bm, ob, b1, b2, b3, b4, b5, b6⟩ := T.bmain
  have hgP : mainGlobals ≠ P := fun q => by
    obtain ⟨o, es, ep, e, hd, _⟩ := hgs
    rw [q, hm.1] at e; cases e; cases hd
  have hbP : bm ≠ P := fun q => by
    have e := F.keep _ _ b3
    rw [q, hm.1] at e; cases e; cases b4
  have hbG : bm ≠ mainGlobals := fun q => by
    obtain ⟨o, es, ep, e, hd, _⟩ := T.g
    rw [q, e] at b3; cases b3; rw [hd] at b6; cases b6
  have hlP : l ≠ P := fun q => by
    have e1 := (N _ hl).1
    rw [q, hm.1] at e1; cases e1
  obtain ⟨ocs, hcs⟩ : ∃ o, h₀.get? cStatics = some o := by
    obtain ⟨_, ⟨o, _, _, e, _⟩, _⟩ := T.nolimit
    exact ⟨o, e⟩
  have hcP : cStatics ≠ P := fun q => by rw [← q, hcs] at hm; exact absurd hm.2.2 (by simp)
  have hls : s.heap.IsList l vs.toArray := ⟨_, (N _ hl).1, rfl, _, rfl⟩
  have hlt : l < s.heap.objs.size := Heap.lt_size (N _ hl).1
  have hLs : L < s.heap.objs.size := F.ns.lt
  refine wpAny_GeneratorExp_make hco hclos hcell h0 hkind hroom (wpAny_Name (wpAny_loadName_local hk hyl F.ns hy ?_) hyd) (fun _ => rfl)
  refine wpAny_pyIter_list hls ⟨(T.nolimit.keeps F.keep).push _, ?_⟩
  have N₂ : News h₀ L (s.heap.push { cls := .type "list_iterator", data := .fields #[.ref l, .int 0 0] }) (own ++ (P, tabObj #[]) :: rest) := N.grown fun _ _ e => Heap.get?_push_of_some _ e
  have F₂ : Fr h₀ L (s.heap.push { cls := .type "list_iterator", data := .fields #[.ref l, .int 0 0] }) m := F.push _
  have hm₂ := N₂ (P, tabObj #[]) hUP
  have hI := Heap.get?_push_size s.heap (o := { cls := .type "list_iterator", data := .fields #[.ref l, .int 0 0] }) rfl
  generalize hH2 : s.heap.push { cls := .type "list_iterator", data := .fields #[.ref l, .int 0 0] } = H2 at *
  have hs2 : H2.objs.size = s.heap.objs.size + 1 := by rw [← hH2, Heap.size_push]
  refine wpAny_genexprCodeX hcd ((Cd.keeps F₂.keep).code hm₂.1 True.intro) ((Cd.keeps F₂.keep).tab hm₂.1) rfl fun c' h₃ tk₃ hx₃ hge hlt₃ hcode₃ _ htab₃ _ => ?_
  refine wpAny_builtinsFor ((T.g.keeps F₂.keep).extBut hx₃ hgP) b1 b2 (hx₃ _ _ hbP (F₂.keep _ _ b3)) b4 b5 b6 ?_
  intro h' hn' hs'
  have hsz : h'.objs.size = h₃.objs.size + 1 := by rw [hs'.1, Heap.size_push]
  have keep' : ∀ b o, h₃.get? b = some o → h'.get? b = some o := fun b o e => hs'.extBut b o (Nat.ne_of_lt (Heap.lt_size e)) (Heap.get?_push_of_some _ e)
  obtain ⟨oC, hoC, hnC⟩ := LCg.ns_obj hn'
  have hIlt : s.heap.objs.size < h₃.objs.size := Nat.lt_of_lt_of_le (hs2 ▸ Nat.lt_succ_self _) (Nat.le_trans hge (Nat.le_of_lt hlt₃))
  have hCga : h₃.objs.size < h'.objs.size := hsz ▸ Nat.lt_succ_self _
  have hLI : L < s.heap.objs.size := hLs
  have none₀ : ∀ b, s.heap.objs.size ≤ b → h₀.get? b = none := fun b hb => by
    cases e : h₀.get? b with
    | none => rfl
    | some o => exact absurd (Heap.lt_size (F.keep b o e)) (Nat.not_lt_of_le hb)
  have hPI : P < s.heap.objs.size := Heap.lt_size hm.1
  have k23 : ∀ b o, b ≠ P → H2.get? b = some o → h'.get? b = some o := fun b o hb e => keep' b o (hx₃ b o hb e)
  have hs2' : ∀ b o, s.heap.get? b = some o → H2.get? b = some o := fun b o e => by rw [← hH2]; exact Heap.get?_push_of_some _ e
  have k₀ : ∀ b o, h₀.get? b = some o → h'.get? b = some o := fun b o e => k23 b o (fun q => by rw [q, hm.2.2] at e; cases e) (F₂.keep b o e)
  generalize hgo : ({ cls := .type "generator", data := .fields #[.int s.gens.size 0, .str "<genexpr>" (tk₃ + 1), .str ((envX cn cs L a ccd cl).qual ++ "<genexpr>") (tk₃ + 1 + 1)] } : Obj) = og
  have hga : (h'.push og).get? h'.objs.size = some og := Heap.get?_push_size _ (by rw [← hgo]; rfl)
  have k5 : ∀ b o, h'.get? b = some o → (h'.push og).get? b = some o := fun b o e => Heap.get?_push_of_some _ e
  have hIP : s.heap.objs.size ≠ P := fun q => Nat.lt_irrefl _ (q ▸ hPI)
  have hsm : ∀ q ∈ own ++ (P, tabObj #[]) :: rest, q.1 < s.heap.objs.size := fun q hq => Heap.lt_size (N q hq).1
  have F₅ : Fr h₀ L (h'.push og) m := ⟨F₂.ns.at' fun o e => k5 L o (k23 L o (fun q => hm₂.2.1 q.symm) e), fun b o e => k5 b o (k₀ b o e), F.above⟩
  have hPt : (h'.push og).get? P = some (tabObj (#[] ++ #[rawInt pos.line, rawInt pos.col, .ref c'])) := k5 _ _ (keep' _ _ htab₃.2)
  have hI5 : (h'.push og).get? s.heap.objs.size = some { cls := .type "list_iterator", data := .fields #[.ref l, .int 0 0] } := k5 _ _ (k23 _ _ hIP hI)
  have hold : ∀ q ∈ own ++ (P, tabObj #[]) :: rest, q.1 ≠ P → (h'.push og).get? q.1 = some q.2 := fun q hq hne => k5 _ _ (k23 _ _ hne (N₂ q hq).1)
  have hne2 : ∀ q ∈ own ++ rest, q.1 ≠ P := fun q hq => by
    rcases List.mem_append.mp hq with hq | hq
    · exact u1 q hq
    · exact u2 q hq
  have hin2 : ∀ q ∈ own ++ rest, q ∈ own ++ (P, tabObj #[]) :: rest := fun q hq => by
    rcases List.mem_append.mp hq with hq | hq
    · exact List.mem_append_left _ hq
    · exact List.mem_append_right _ (List.mem_cons_of_mem _ hq)
  have hC5 : (h'.push og).get? h₃.objs.size = some oC := k5 _ _ hoC
  have N₅ : News h₀ L (h'.push og) ((h'.objs.size, og) :: (h₃.objs.size, oC) :: (s.heap.objs.size, { cls := .type "list_iterator", data := .fields #[.ref l, .int 0 0] }) :: g (tabObj (#[] ++ #[rawInt pos.line, rawInt pos.col, .ref c']))) := by
    intro q hq
    rcases List.mem_cons.mp hq with rfl | hq
    · exact ⟨hga, Nat.ne_of_gt (Nat.lt_trans hLs (Nat.lt_trans hIlt hCga)), none₀ _ (Nat.le_of_lt (Nat.lt_trans hIlt hCga))⟩
    rcases List.mem_cons.mp hq with rfl | hq
    · exact ⟨hC5, Nat.ne_of_gt (Nat.lt_trans hLs hIlt), none₀ _ (Nat.le_of_lt hIlt)⟩
    rcases List.mem_cons.mp hq with rfl | hq
    · exact ⟨hI5, Nat.ne_of_gt hLs, none₀ _ (Nat.le_refl _)⟩
    rw [hgr] at hq
    rcases List.mem_append.mp hq with hq | hq
    · exact ⟨hold q (hin2 q (List.mem_append_left _ hq)) (u1 q hq), (N q (hin2 q (List.mem_append_left _ hq))).2⟩
    rcases List.mem_cons.mp hq with rfl | hq
    · exact ⟨hPt, hm.2⟩
    · exact ⟨hold q (hin2 q (List.mem_append_right _ hq)) (u2 q hq), (N q (hin2 q (List.mem_append_right _ hq))).2⟩
  let fp : List Addr := s.heap.objs.size :: (((own ++ rest).map (·.1)) ++ (List.range h₀.objs.size).filter (fun b => (h₀.get? b).isSome))
  have hfpl : ∀ b ∈ fp, b = s.heap.objs.size ∨ (∃ q ∈ own ++ rest, q.1 = b) ∨ ∃ o, h₀.get? b = some o := fun b hb => by
    rcases List.mem_cons.mp hb with rfl | hb
    · exact .inl rfl
    rcases List.mem_append.mp hb with hb | hb
    · obtain ⟨q, hq, rfl⟩ := List.mem_map.mp hb
      exact .inr (.inl ⟨q, hq, rfl⟩)
    · have := (List.mem_filter.mp hb).2
      exact .inr (.inr (Option.isSome_iff_exists.mp this))
  have hfplt : ∀ b ∈ fp, b < h₃.objs.size := fun b hb => by
    rcases hfpl b hb with rfl | ⟨q, hq, rfl⟩ | ⟨o, e⟩
    · exact hIlt
    · exact Nat.lt_trans (hsm q (hin2 q hq)) hIlt
    · exact Nat.lt_trans (Heap.lt_size (F.keep _ _ e)) hIlt
  have hfp0 : ∀ b o, h₀.get? b = some o → b ∈ fp := fun b o e => List.mem_cons_of_mem _ (List.mem_append_right _ (List.mem_filter.mpr ⟨List.mem_range.mpr (Heap.lt_size e), by rw [e]; rfl⟩))
  have hfpq : ∀ q ∈ own ++ rest, q.1 ∈ fp := fun q hq => List.mem_cons_of_mem _ (List.mem_append_left _ (List.mem_map_of_mem hq))
  have hlr : (l, W.listOf vs.toArray kl) ∈ own ++ rest := by
    rcases List.mem_append.mp hl with hq | hq
    · exact List.mem_append_left _ hq
    rcases List.mem_cons.mp hq with hq | hq
    · exact absurd (congrArg Prod.fst hq) hlP
    · exact List.mem_append_right _ hq
  have hlf : l ∈ fp := hfpq _ hlr
  have hlI : l ≠ s.heap.objs.size := Nat.ne_of_lt hlt
  have hnI : ∀ q ∈ own ++ (P, tabObj #[]) :: rest, q.1 ≠ s.heap.objs.size := fun q hq => Nat.ne_of_lt (hsm q hq)
  have hcC0 : @LT.lt Nat _ cStatics h₃.objs.size := Nat.lt_trans (Heap.lt_size (F.keep _ _ hcs)) hIlt
  have hlim₅ : (h'.push og).NoLimit := T.nolimit.keeps fun b o e => k5 b o (k₀ b o e)
  have hla : (envX cn cs L a ccd cl).scope = cs := rfl
  have hG5 : AllBare (s.gens.push (.fresh (.compStart (.GeneratorExp elt [⟨.Name x px, .Name y py, [], 0⟩] scope pos) 0 (.ref s.heap.objs.size) .none (genEnv scope [] h₃.objs.size (.ref c') builtinsNs (envX cn cs L a ccd cl))))) := G.push rfl
  refine h _ _ _ _ _ _ _ _ _ _ F₅ N₅ hsm hIlt hCga hG5 ?_
  refine gx_join (s₅ := ⟨h'.push og, s.gens.push _, s.drawn, tk₃ + 1 + 1 + 1, s.os⟩) (g := s.gens.size) (fp := fp) hh hroom F₅ N₅ hG5 T.nolimit ?_ ⟨_, List.mem_cons_self ..⟩ (Nat.ne_of_gt hCga) (fun hb => Nat.lt_irrefl _ (Nat.lt_trans hCga (hfplt _ hb))) (List.mem_cons_self ..) (hfp0 _ _ hcs) (Nat.ne_of_lt hcC0) (Nat.ne_of_lt (Heap.lt_size (F.keep _ _ hcs))) (Nat.ne_of_lt hLs) (Nat.ne_of_lt (Nat.lt_trans hLs hIlt)) (none₀ _ (Nat.le_refl _)) (none₀ _ (Nat.le_of_lt hIlt)) hn ?_
  · intro b hb
    rcases List.mem_cons.mp hb with rfl | hb
    · exact .inl ⟨_, List.mem_cons_of_mem _ (List.mem_cons_self ..)⟩
    rcases hfpl b hb with rfl | ⟨q, hq, rfl⟩ | e
    · exact .inl ⟨_, List.mem_cons_of_mem _ (List.mem_cons_of_mem _ (List.mem_cons_self ..))⟩
    · refine .inl ⟨q.2, List.mem_cons_of_mem _ (List.mem_cons_of_mem _ (List.mem_cons_of_mem _ ?_))⟩
      rw [hgr]
      rcases List.mem_append.mp hq with hq | hq
      · exact List.mem_append_left _ hq
      · exact List.mem_append_right _ (List.mem_cons_of_mem _ hq)
    · exact .inr e
  · refine GenAt.fresh (A := A.in4) (elt := elt) (iter := .Name y py) (x := x) (px := px) (ifs := []) (scope := scope) (pos := pos) (cenv := genEnv scope [] h₃.objs.size (.ref c') builtinsNs (envX cn cs L a ccd cl)) (m := fun y => if y = ".0" then some (.ref s.heap.objs.size) else none) hh
      (fun A' hA => (Walks.list hA s.heap.objs.size l hlI vs.toArray).mono_fp (fp' := fp) fun b hb => ?_) (fun _ => true) (fun i y => ∃ u, y = .str (texts i) u) hx (by simp [genEnv, hkind]) hco
      (fun hm => Nat.lt_irrefl _ (hfplt _ hm)) ?_ ⟨_, _, _, hga, by rw [← hgo], by rw [← hgo], by rw [← hgo]⟩ (Array.getElem?_push_size ..) ?_ (hn'.push _) hlim₅
    · rcases List.mem_cons.mp hb with rfl | hb
      · exact List.mem_cons_self ..
      · rw [List.mem_singleton.mp hb]; exact hlf
    · refine ⟨fun A' E' i v s₂ m₂ _ _ _ _ _ => wpAny_pure ⟨rfl, _, _, rfl, fun _ _ e => e⟩, fun A' E' i v s₂ m₂ hA hv _ hns hmx hk => ?_⟩
      have hk' : ∀ b ∈ fp, b ≠ s.heap.objs.size → ∀ o, (h'.push og).get? b = some o → s₂.heap.get? b = some o := fun b hb hne o e => hk b hb (fun hm => hne (List.mem_singleton.mp hm)) o e
      refine helt _ _ A' E' i v s₂ m₂ hA (by simpa using hv) ⟨hns, fun b o e => hk' b (hfp0 b o e) (fun q => ?_) o (k5 b o (k₀ b o e)), Nat.le_of_lt (Nat.lt_of_le_of_lt F.above (Nat.lt_trans hLs hIlt))⟩ (fun q hq hne => ?_) hmx
      · rw [q, none₀ _ (Nat.le_refl _)] at e; cases e
      · refine hk' _ (hfpq q ?_) (hnI q hq) _ (hold q hq hne)
        rcases List.mem_append.mp hq with hq | hq
        · exact List.mem_append_left _ hq
        rcases List.mem_cons.mp hq with rfl | hq
        · exact absurd rfl hne
        · exact List.mem_append_right _ hq
    · exact ⟨⟨_, hI5, rfl, rfl⟩, ⟨_, hold _ hl hlP, rfl, _, rfl⟩⟩
abbrev ClmS (dm um : Nat) (w : World) (f : Addr) (vs : List Value) (news : CbLed) (pre : Heap → Array GenState → Prop) (Ret : Heap → Addr → Frm → Shared → (Value → Shared → Prop) → Prop) : Prop :=
  ∀ (loose : List Str) (mean : ExcName → Option Value) (mg mb : Str → Option Value) (dp un : Nat) (gd : Option (List Code)) (cn : Str) (cs : Scope) (a : Addr) (ccd : Value) (cl : List (Str × Addr)) (outer : List Env) (A₀ : Around) (base h₀ : Heap) (L : Addr) (m : Frm) (s : Shared) (Q E : Value → Shared → Prop),
    Below A₀ base outer h₀ → Fr h₀ L s.heap m → (MyK w).In h₀ → News h₀ L s.heap news → Top topProg loose mean mg mb h₀ → cs.kind = .function → pre h₀ s.gens → dp < dm → un < um → Ret h₀ L m s Q →
      wpAny (model MyProg w) (ktrTop dp un gd cn cs L a ccd cl outer) (call (.ref f) vs) Q E s
abbrev I3 := Int × Int × Int
abbrev dat3 (r : I3) : Dat := Dat.tuple [.int r.1, .int r.2.1, .int r.2.2]
abbrev RetFw (news : CbLed) (x : Str) : Heap → Addr → Frm → Shared → (Value → Shared → Prop) → Prop := fun h₀ L m s Q =>
  ∀ (pt : Array Value) (t : Tok) (h' : Heap) (tk' : Nat) (g' : Array GenState), AllBare g' → Fr h₀ L h' m → News h₀ L h' ((89, tabObj pt) :: news) → Q (.str x t) ⟨h', g', s.drawn, tk', s.os⟩
def fwTx (ns : List I3) (i : Nat) : Str := toString (ns.getD i (0, 0, 0)).1
theorem fwTx_at {ns : List I3} {i : Nat} {r : I3} (h : ns[i]? = some r) : fwTx ns i = (toString r.1 : Str) := by
  unfold fwTx
  rw [List.getD_eq_getElem?_getD, h]
  rfl
theorem di_int {n : CbLed} {v : Value} {i : Int} (h : DatIn n v (.int i)) : ∃ t, v = .int i t := by cases h; exact ⟨_, rfl⟩
theorem da_nil {n : CbLed} {vs : List Value} (h : DatAll n vs []) : vs = [] := by cases h; rfl
theorem da_cons {n : CbLed} {vs : List Value} {d : Dat} {ds : List Dat} (h : DatAll n vs (d :: ds)) : ∃ v vs', vs = v :: vs' ∧ DatIn n v d ∧ DatAll n vs' ds := by
  cases h with | cons a b => exact ⟨_, _, rfl, a, b⟩
theorem di_tup {n : CbLed} {v : Value} {ds : List Dat} (h : DatIn n v (.tuple ds)) : ∃ (a : Addr) (vs : List Value) (k : Nat), v = .ref a ∧ (a, ({ cls := .type "tuple", data := .seq vs.toArray k } : Obj)) ∈ n ∧ DatAll n vs ds := by
  cases h with | tuple a b => exact ⟨_, _, _, rfl, a, b⟩
theorem dat3_inv {n : CbLed} {v : Value} {r : I3} (h : DatIn n v (dat3 r)) : ∃ (T : Addr) (t1 t2 t3 : Tok) (k : Nat), v = .ref T ∧ (T, ({ cls := .type "tuple", data := .seq #[.int r.1 t1, .int r.2.1 t2, .int r.2.2 t3] k } : Obj)) ∈ n := by
  obtain ⟨a, vs, k, e, hm, ha⟩ := di_tup h
  obtain ⟨v1, w1, e1, i1, ha⟩ := da_cons ha
  obtain ⟨v2, w2, e2, i2, ha⟩ := da_cons ha
  obtain ⟨v3, w3, e3, i3, ha⟩ := da_cons ha
  obtain ⟨t1, e4⟩ := di_int i1
  obtain ⟨t2, e5⟩ := di_int i2
  obtain ⟨t3, e6⟩ := di_int i3
  rw [e1, e2, e3, da_nil ha, e4, e5, e6] at hm
  exact ⟨a, t1, t2, t3, k, e, hm⟩
theorem dat3_at {bl : CbLed} {ns : List I3} {vs : List Value} {i : Nat} {v : Value} (h : DatAll bl vs (ns.map dat3)) (e : vs[i]? = some v) : ∃ (r : I3) (T : Addr) (t1 t2 t3 : Tok) (k : Nat), ns[i]? = some r ∧ v = .ref T ∧ (T, ({ cls := .type "tuple", data := .seq #[.int r.1 t1, .int r.2.1 t2, .int r.2.2 t3] k } : Obj)) ∈ bl := by
  have hi : i < (ns.map dat3).length := by rw [← h.length]; exact (List.getElem?_eq_some_iff.mp e).1
  obtain ⟨v', e', hd⟩ := h.get hi
  rw [e] at e'
  cases e'
  rw [List.getElem_map] at hd
  obtain ⟨T, t1, t2, t3, k, h2, h3⟩ := dat3_inv hd
  exact ⟨_, T, t1, t2, t3, k, List.getElem?_eq_getElem (by rw [List.length_map] at hi; exact hi), h2, h3⟩
theorem fw_len {prog : Program} {w : World} {A : Around} {E : Value → Shared → Prop} {s : Shared} {h₀ : Heap} {L D : Addr} {news : CbLed} {vs : List Value} {k n : Nat} {Q : Value → Shared → Prop} (N : News h₀ L s.heap news) (hm : (D, W.listOf vs.toArray k) ∈ news) (e : vs.length = n) (hn : n ≤ 100)
    (h : Q (.int n (s.toks + 1)) { s with toks := s.toks + 1 + 1 }) : wpAny (model prog w) A (call (.builtin "len") [.ref D]) Q E s := by
  have e2 : vs.toArray.size = n := by simpa using e
  exact len_list (News.isList N hm) (by rw [e2]; omega) (by rw [e2]; exact h)
abbrev fwTs (ns : List I3) : List Str := (List.range ns.length).map (fwTx ns)
def fwJoin (ns : List I3) : Str := Txt.join (Str.ofString ", ") (fwTs ns)
def fwT (ns : List I3) : Str := (if 1 < ns.length then Str.ofString "at tab sizes" else Str.ofString "at tab size") ++ Str.ofString " " ++ fwJoin ns
theorem int_tx : ∀ i : Fin 100, (Str.ofString (toString (i.val : Int))).length ≤ 2 := by decide +kernel
theorem fw_tx {ns : List I3} (hbd : ∀ r ∈ ns, 0 ≤ r.1 ∧ r.1 < 100) : ∀ y ∈ fwTs ns, y.length ≤ 2 := by
  intro y hy
  obtain ⟨i, hi, rfl⟩ := List.mem_map.mp hy
  have hi := List.mem_range.mp hi
  rw [fwTx_at (List.getElem?_eq_getElem hi)]
  have := hbd _ (List.getElem_mem hi)
  obtain ⟨k, hk⟩ := Int.eq_ofNat_of_zero_le this.1
  rw [hk]
  exact int_tx ⟨k, by omega⟩
theorem fw_ok {ns : List I3} (hbd : ∀ r ∈ ns, 0 ≤ r.1 ∧ r.1 < 100) (hl : ns.length ≤ 100) : JoinOk (Str.ofString ", ") (fwTs ns) = true := by
  unfold JoinOk
  rw [StrLaws.joinFits (B := 2) (fw_tx hbd) ?_]
  · rfl
  · have : (fwTs ns).length = ns.length := by simp [fwTs]
    rw [this, show (Str.ofString ", ").length = 2 from by decide]
    omega
theorem sum_le2 : ∀ {l : List Nat}, (∀ y ∈ l, y ≤ 2) → l.sum ≤ 2 * l.length
  | [], _ => by simp
  | a :: l, h => by
    have h1 := h a (.head _)
    have h2 := sum_le2 fun y hy => h y (.tail _ hy)
    simp only [List.sum_cons, List.length_cons]
    omega
theorem fw_jl {ns : List I3} (hbd : ∀ r ∈ ns, 0 ≤ r.1 ∧ r.1 < 100) (hl : ns.length ≤ 100) : (fwJoin ns).length ≤ 400 := by
  have h := StrLaws.join_length_le (Str.ofString ", ") (fwTs ns)
  have e : (fwTs ns).length = ns.length := by simp [fwTs]
  have h2 := sum_le2 (l := (fwTs ns).map (·.length)) fun y hy => by
    obtain ⟨z, hz, rfl⟩ := List.mem_map.mp hy
    exact fw_tx hbd z hz
  rw [List.length_map] at h2
  rw [e, show (Str.ofString ", ").length = 2 from by decide] at h
  rw [e] at h2
  unfold fwJoin
  rw [show Txt.join (Str.ofString ", ") (fwTs ns) = Str.join (Str.ofString ", ") (fwTs ns) from StrLaws.glued_eq_join ..]
  refine Nat.le_trans h ?_
  omega
theorem fw_sz {ns : List I3} {x : Str} (hx : x.length ≤ 100) (hbd : ∀ r ∈ ns, 0 ≤ r.1 ∧ r.1 < 100) (hl : ns.length ≤ 100) : x.length + (fwJoin ns).length ≤ 500 := by
  have := fw_jl hbd hl
  omega
theorem fw_news {h₀ h h'' : Heap} {L C I P : Addr} {x1 x2 x3 : Addr × Obj} {o o' : Obj} {led : CbLed} (N : News h₀ L h (x1 :: x2 :: x3 :: (P, o) :: led)) (H : ∀ q ∈ x1 :: x2 :: x3 :: (P, o) :: led, q.1 ≠ I → q.1 ≠ C → h''.get? q.1 = some q.2) (hsm : ∀ q ∈ (P, o') :: led, q.1 < I) (hIC : @LT.lt Nat _ I C) : News h₀ L h'' ((P, o) :: led) := fun q hq =>
  have hm : q ∈ x1 :: x2 :: x3 :: (P, o) :: led := .tail _ (.tail _ (.tail _ hq))
  have hlt : @LT.lt Nat _ q.1 I := by
    rcases List.mem_cons.mp hq with rfl | hq
    · exact hsm (P, o') (.head _)
    · exact hsm q (.tail _ hq)
  ⟨H q hm (Nat.ne_of_lt hlt) (Nat.ne_of_lt (Nat.lt_trans hlt hIC)), (N q hm).2⟩
theorem fw_elt {w : World} {loose : List Str} {mean : ExcName → Option Value} {mg mb : Frm} {A' : Around} {E' : Value → Shared → Prop} {K : Frag} {gx : Heap} {C T : Addr} {m₂ : Frm} {h₂ : Heap} {gg : Array GenState} {dd : Drawn} {tk : Nat} {os : OsState} {scope : Scope} {env : Env} {code : Value} {r : I3} {t1 t2 t3 : Tok} {k kk : Nat} {p1 p2 p3 p4 p5 : Pos}
    (X : K.In gx) (hT : Top topProg loose mean mg mb gx) (e : nsIn K mainGlobals (Str.ofString "str") = some none) (hE : env.globals = mainGlobals) (F : Fr gx C h₂ m₂) (hm : m₂ (Str.ofString "tup") = some (.ref T)) (hkind : scope.kind = .function)
    (hx : (genEnv scope [] C code builtinsNs env).kindOf (Str.ofString "str") = some .globalImplicit) (hy : (genEnv scope [] C code builtinsNs env).kindOf (Str.ofString "tup") = some .local)
    (hse : backTo p5 (starEach [.Subscript (.Name (Str.ofString "tup") p2) (.Constant (.int 0) k p3) p4] (genEnv scope [] C code builtinsNs env)) = [(false, eval (.Subscript (.Name (Str.ofString "tup") p2) (.Constant (.int 0) k p3) p4) (genEnv scope [] C code builtinsNs env))])
    (hO : h₂.get? T = some { cls := .type "tuple", data := .seq #[.int r.1 t1, .int r.2.1 t2, .int r.2.2 t3] kk }) (h0 : 0 ≤ r.1) (h1 : r.1 < 100) :
    wpAny (model MyProg w) A' (eval (.Call (.Name (Str.ofString "str") p1) [.Subscript (.Name (Str.ofString "tup") p2) (.Constant (.int 0) k p3) p4] [] p5) (genEnv scope [] C code builtinsNs env))
      (fun yv s₃ => (∃ u, yv = .str (toString r.1) u) ∧ Keeps ⟨h₂, gg, dd, tk, os⟩ s₃) E' ⟨h₂, gg, dd, tk, os⟩ := by
  have TR := topRead_of hT
  refine wpAny_Call_NameR (Name_function_global hkind hx (loadGlobal_builtin (env := genEnv scope [] C code builtinsNs env) (mg := mg) (mb := mb) (v := .type "str") (show Heap.Ns _ env.globals mg from hE ▸ TR.g.keeps F.keep) (mg_none_of X TR.g e) (TR.b.keeps F.keep) ((TR.builtins _ (by decide +kernel)).trans (by decide +kernel)) ?_))
  rw [hse]
  have ht : IsTup h₂ T #[.int r.1 t1, .int r.2.1 t2, .int r.2.2 t3] := ⟨_, hO, rfl, _, rfl⟩
  refine PySem.callWith_type rfl (evalArgs_plain (spliced_cons ?_))
  refine wpAny_Subscript_Constant_late ?_
  refine wpAny_Name ?_
  refine wpAny_loadName_local hkind hy F.ns hm ?_
  refine wpAny_Constant_int ?_
  refine ⟨"tuple", _, slot_tuple_getitem.lookup, IsTup.typeIs (s := ⟨h₂, gg, dd, tk + 1, os⟩) ht, getItem_tuple (j := 0) ht (by decide) (by decide) rfl rfl (spliced_nil ?_)⟩
  exact P.str_of_int (shown (N := 2 ^ 1920) (by omega) (by omega) (Int.le_refl _)) ⟨⟨_, rfl⟩, _, _, rfl, fun _ _ e => e⟩
theorem c_fw (w : World)  (D : Addr) (vs : List Value) (k : Nat) (bl : CbLed) (ns : List I3) :
    ClmS 890 4950 w 94 [.ref D] ((89, tabObj #[]) :: (D, W.listOf vs.toArray k) :: bl) (fun (_ : Heap) gs => AllBare gs ∧ DatAll bl vs (ns.map dat3) ∧ (∀ p ∈ bl, p.1 ≠ D) ∧ (∀ p ∈ (D, W.listOf vs.toArray k) :: bl, p.1 ≠ 89) ∧ ns.length ≤ 100 ∧ ∀ r ∈ ns, 0 ≤ r.1 ∧ r.1 < 100) (RetFw ((D, W.listOf vs.toArray k) :: bl) (fwT ns)) := by
  dsimp only [ClmS, MyProg, MyK]
  k_fill
  k_with_none
  k_with "my room" => ((try simp only [depth_under_make, depth_under_kw, depth_in1, depth_deeper, depth_caller]); show _ < 1000; (try dsimp only [ktrTop]); (first | exact lt_rm hdp rfl | exact lt_rm hun rfl | exact lt_rm0 hdp rfl | exact lt_rm0 hun rfl | exact lt_rmB hdp rfl | exact lt_rmB hun rfl | exact lt_rmC hdp rfl | exact lt_rmC hun rfl | omega))
  k_with "my all" => (first | assumption | (refine tnAll (by assumption) ?_; omega) | (refine tnAll2 (by assumption) ?_; omega))
  k_with "my ne" => (first | (with_reducible assumption) | exact Ne.symm (by with_reducible assumption))
  k_with "enter" => (refine wpAny_call ?_; k_dflt (first
    | cell_enter
    | (refine' code_defC ?k1 ?k2 ?k3 ?k4 ?k5 ?kA ?kF ?kK ?k6 ?k7 ?k8 ?k9 ?kB ?kD ?_ ?c2 ?c3 ?c4; (case kA => exact rfl); (case kF => exact rfl); (case kK => assumption); (case k1 => k_asm); (case k2 => k_asm); (case k3 => k_asm); (case k4 => k_asm); (case k5 => k_asm); (case k6 => k_is); (case k7 => k_is); (case k8 => k_room); (case k9 => exact BindsTo.of_eq rfl); (case kB => exact rfl); (case kD => decide +kernel); (case c2 => exact rfl); (case c3 => exact rfl); (case c4 => exact rfl); k_whole; intro g' L' h' tk' cells' FG' F' N' Y' B' X' T' l1; (try k_lt l1); k_cells Y'; (try simp only [List.cons_append, List.nil_append] at N'); (try dsimp only); (try k_lift B'); (try k_fold))))
  k_with "enter2" => (refine wpAny_call ?_; k_dflt (refine' code_def ?k1 ?k2 ?k3 ?k4 ?k5 ?kA ?kF ?kK ?k6 ?k7 ?k8 ?k9 ?kB ?_ ?c2 ?c3 ?c4 ?c5; (case kA => exact rfl); (case kF => exact rfl); (case kK => assumption); (case k1 => k_asm); (case k2 => k_asm); (case k3 => k_asm); (case k4 => k_asm); (case k5 => k_asm); (case k6 => k_is); (case k7 => k_is); (case k8 => ktr_room); (case k9 => exact BindsTo.of_eq rfl); (case c5 => decide); (case kB => exact locs rfl); (case c2 => exact rfl); (case c3 => exact rfl); (case c4 => exact rfl); k_whole; intro gx Lx hx FGx Fx Nx Bx Xx Tx; (try dsimp only); (try k_lift Bx); (try k_fold)))
  k_with "my call builtin:str.join" => (k_here; k_dflt (rw [hvl] at hJ; refine hJ _ _ _ _ _ _ _ rfl (by k_asm) (by k_asm) (fun _ h => h) (fw_ok hbd hlen) ?_); intro h5 g5 k5 t5 G5 F5 N5; (replace N5 := fw_news (by k_asm) N5 hsm hIC); k_dflt (change wpAny _ _ (binaryOp .Add _ (.str (fwJoin ns) _)) _ _ _; refine PyProof.Rows.add_str ?_ (le_size (fw_sz (by decide +kernel) hbd hlen) rfl)); intro t9 tk9)
  k_with "my call builtin:len" => (k_here; k_dflt (refine fw_len (n := ns.length) (by k_asm) (by k_mem) (hD.length.trans (List.length_map ..)) hlen ?_))
  intro loose mean mg mb dp un gd cn cs a ccd cl outer A₀ base h₀ L m0 s Q E hB hF hX hN hT hcs hpre hdp hun hret
  refine aE6 hpre ?_; clear hpre; intro hG hD hoff h89 hlen hbd
  k_extra "enter2"
  (rename Frag.In _ gx => hX9)
  have codeHd1 := codeHd_of_K (c := 93) (P := 89) hX9 (by kernel_rfl)
  k_steps
  refine gx_new (l := D) (vs := vs) (kl := k) (cl := []) (fwTx ns) (by k_asm) (by k_asm) (by k_asm) codeHd1 rfl (.head h89) hG (by k_mem) (by with_unfolding_all rfl) rfl rfl rfl ?_ rfl rfl rfl (by decide) rfl rfl rfl (by k_room) ?_ ?_
  · rw [hD.length, List.length_map]; unfold sizeLine; omega
  · intro code C A' E' i v s₂ m₂ hA hv hF2 hk2 hm2
    obtain ⟨r, T, t1, t2, t3, k3, hr, rfl, hT3⟩ := dat3_at hD hv
    obtain ⟨hh2, gg2, dd2, tk2, os2⟩ := s₂
    have hT4 := hk2 _ (.tail _ (.tail _ hT3)) (h89 _ (.tail _ hT3))
    dsimp only at hF2 hT4
    refine wpAny_mono (fw_elt (by k_asm) (by k_asm) (by kernel_rfl) rfl hF2 hm2 rfl rfl rfl rfl hT4 (hbd r (List.mem_of_getElem? hr)).1 (hbd r (List.mem_of_getElem? hr)).2) (fun yv s₃ h3 => ?_) (fun _ _ e => e)
    obtain ⟨⟨u, hu⟩, hk3⟩ := h3
    exact ⟨⟨u, by rw [hu, fwTx_at hr]⟩, hk3⟩
  · intro ga C I oa oC oI c9 h9 tk9 gs9 F9 N9 hsm hIC hCga hG9 hJ
    dsimp only at N9 hJ
    have hvl : vs.length = ns.length := hD.length.trans (List.length_map ..)
    k_steps
    · rw [show Str.ofString "at tab sizes" ++ Str.ofString " " ++ fwJoin ns = fwT ns from by unfold fwT; rw [if_pos (by omega)]]
      exact hret _ _ _ _ _ G5 (by k_asm) (by with_unfolding_all assumption)
    · rw [show Str.ofString "at tab size" ++ Str.ofString " " ++ fwJoin ns = fwT ns from by unfold fwT; rw [if_neg (by omega)]]
      exact hret _ _ _ _ _ G5 (by k_asm) (by with_unfolding_all assumption)
def mk2 (c : Int) : Str := wri (lead c) ((c.fdiv 24).fmod 2)
def textOf (a b : Int) : Str := Txt.join (Str.ofString "") [mk2 a, mk2 b]
def ll (c : Int) : List Nat := (lead c).cps.toList
def qOf (i : Int) : Bool := (i.fdiv 24).fmod 2 == 0 || (lead i == Str.ofString "")
def one48 (i : Int) : Bool := (mk2 i).cps.toList == (if qOf i then 34 :: (ll i ++ [34]) else escL (ll i) ++ [10]) ++ (if qOf i then [10] else []) && (qOf i || !(ll i).isEmpty) && decide ((mk2 i).cps.size ≤ 20) && (ll i).all (fun x => x == 32 || x == 9) && decide ((ll i).length ≤ 8) && PyData.strOk (lead i)
theorem one_all : ∀ i : Fin 48, one48 (i.val : Int) = true := by decide +kernel
theorem cell48 (c : Int) : ∃ i : Fin 48, lead c = lead (i.val : Int) ∧ mk2 c = mk2 (i.val : Int) := by
  have e : c.fmod 48 = c % 48 := Int.fmod_eq_emod_of_nonneg c (by decide)
  have hi : ((⟨(c % 48).toNat, by omega⟩ : Fin 48).val : Int) = c % 48 := by show (((c % 48).toNat : Nat) : Int) = _; omega
  have hl : lead c = lead (c % 48) := by
    unfold lead
    simp only [Int.fmod_eq_emod_of_nonneg _ (show (0 : Int) ≤ 3 by decide), Int.fmod_eq_emod_of_nonneg _ (show (0 : Int) ≤ 2 by decide), Int.fmod_eq_emod_of_nonneg _ (show (0 : Int) ≤ 4 by decide), Int.fdiv_eq_ediv_of_nonneg _ (show (0 : Int) ≤ 3 by decide), Int.fdiv_eq_ediv_of_nonneg _ (show (0 : Int) ≤ 6 by decide)]
    rw [show c % 48 % 3 = c % 3 by omega, show c % 48 / 3 % 2 = c / 3 % 2 by omega, show c % 48 / 6 % 4 = c / 6 % 4 by omega]
  refine ⟨⟨(c % 48).toNat, by omega⟩, ?_, ?_⟩
  · rw [hi]; exact hl
  · rw [hi]
    unfold mk2
    rw [← hl]
    simp only [Int.fmod_eq_emod_of_nonneg _ (show (0 : Int) ≤ 2 by decide), Int.fdiv_eq_ediv_of_nonneg _ (show (0 : Int) ≤ 24 by decide)]
    rw [show c % 48 / 24 % 2 = c / 24 % 2 by omega]
theorem one_of (c : Int) : ∃ q : Bool, (mk2 c).cps.toList = (if q then 34 :: (ll c ++ [34]) else escL (ll c) ++ [10]) ++ (if q then [10] else []) ∧ (q = false → ll c ≠ []) ∧ (mk2 c).cps.size ≤ 20 ∧ (∀ x ∈ ll c, wsC x) ∧ (ll c).length ≤ 8 ∧ PyData.strOk (lead c) = true := by
  obtain ⟨i, h1, h2⟩ := cell48 c
  have h := one_all i
  have h3 : ll c = ll (i.val : Int) := by unfold ll; rw [h1]
  rw [h2, h3]
  unfold one48 at h
  simp only [Bool.and_eq_true, beq_iff_eq, decide_eq_true_eq, List.all_eq_true, Bool.or_eq_true, Bool.not_eq_true'] at h
  obtain ⟨⟨⟨⟨⟨a1, a2⟩, a3⟩, a4⟩, a5⟩, a6⟩ := h
  refine ⟨qOf i.val, a1, fun hq hn => ?_, a3, fun x hx => a4 x hx, a5, by rw [h1]; exact a6⟩
  rcases a2 with a2 | a2
  · rw [hq] at a2; cases a2
  · rw [hn] at a2; cases a2
theorem join2 (x y : Str) : (Txt.join (Str.ofString "") [x, y]).cps.toList = x.cps.toList ++ y.cps.toList := by
  have e : Txt.join (Str.ofString "") [x, y] = Str.join (Str.ofString "") [x, y] := StrLaws.glued_eq_join ..
  have e0 : Str.ofString "" = (⟨#[]⟩ : Str) := by decide +kernel
  rw [e, e0]
  show (x ++ (⟨#[]⟩ : Str) ++ y).cps.toList = _
  show (x.cps ++ #[] ++ y.cps).toList = _
  simp
theorem text_ok (a b : Int) : ([mk2 a, mk2 b].map (·.length)).sum + [mk2 a, mk2 b].length * (Str.ofString "").length ≤ 16777216 := by
  obtain ⟨_, _, _, ha, _⟩ := one_of a
  obtain ⟨_, _, _, hb, _⟩ := one_of b
  have e0 : (Str.ofString "").length = 0 := by decide +kernel
  have ea : (mk2 a).length = (mk2 a).cps.size := rfl
  have eb : (mk2 b).length = (mk2 b).cps.size := rfl
  simp only [List.map_cons, List.map_nil, List.sum_cons, List.sum_nil, e0, ea, eb]
  omega
theorem text_size (a b : Int) : (textOf a b).cps.size < 100 := by
  obtain ⟨_, _, _, ha, _⟩ := one_of a
  obtain ⟨_, _, _, hb, _⟩ := one_of b
  have e := congrArg List.length (join2 (mk2 a) (mk2 b))
  rw [List.length_append, Array.length_toList, Array.length_toList, Array.length_toList] at e
  show (Txt.join (Str.ofString "") [mk2 a, mk2 b]).cps.size < 100
  omega
theorem text_at (a b : Int) : ∃ (qa qb : Bool) (na ra : List Nat), At (textOf a b) 0 ([] ++ ((if qa then 34 :: (ll a ++ [34]) else escL (ll a) ++ [10]) ++ (na ++ ((if qb then 34 :: (ll b ++ [34]) else escL (ll b) ++ [10]) ++ ra)))) ∧ (na = [] ∨ na = [10]) ∧ (qa = false → ll a ≠ []) ∧ (qb = false → ll b ≠ []) := by
  obtain ⟨qa, ha, ha1, _⟩ := one_of a
  obtain ⟨qb, hb, hb1, _⟩ := one_of b
  refine ⟨qa, qb, if qa then [10] else [], if qb then [10] else [], ⟨by decide, ?_⟩, by cases qa <;> simp, ha1, hb1⟩
  show (Txt.join (Str.ofString "") [mk2 a, mk2 b]).cps.toList = _
  rw [join2, ha, hb]
  simp only [List.nil_append, List.append_assoc]
theorem lead_ws (c : Int) : (∀ x ∈ ll c, wsC x) ∧ (ll c).length ≤ 8 := by
  obtain ⟨_, _, _, _, h1, h2, _⟩ := one_of c
  exact ⟨h1, h2⟩
theorem lead_ok (c : Int) : PyData.strOk (lead c) = true := by
  obtain ⟨_, _, _, _, _, _, h⟩ := one_of c
  exact h
theorem ll_str (c : Int) : (⟨(ll c).toArray⟩ : Str) = lead c := by
  show (⟨(lead c).cps.toList.toArray⟩ : Str) = lead c
  rw [Array.toArray_toList]
def wsOf (c : Int) : WsS := wsF (lead c).cps.toList ([], 0, 0, 0)
def leadT (c : Int) : Str := lead c ++ Str.ofString "\t"
def wsT (c : Int) : WsS := wsF (leadT c).cps.toList ([], 0, 0, 0)
abbrev wsBd (st : WsS) : Prop := 0 ≤ st.2.1 ∧ st.2.1 ≤ 12 ∧ 0 ≤ st.2.2.2 ∧ st.2.2.2 ≤ 12 ∧ st.1.length ≤ 13 ∧ (∀ v ∈ st.1, 0 ≤ v ∧ v ≤ 12)
def wsck (l : List Nat) : Bool := l.all (fun x => x == 32 || x == 9) && decide (wsBd (wsF l ([], 0, 0, 0)))
def wsS (x : Str) : WsS := wsF x.cps.toList ([], 0, 0, 0)
def colck (x : Str) (m : Int) : Bool := il (wsS x) m == col x m && decide (0 ≤ col x m) && decide (col x m ≤ 8) && decide ((col x m ≤ 7 ∨ 4 ≤ m) ∧ col x m ≤ m + 5)
def ltab : List (List Nat) := [[], [32], [32, 32], [9], [32, 9], [32, 32, 9], [32, 32, 32], [9, 32], [32, 9, 32], [32, 32, 9, 32], [32, 32, 32, 32], [9, 32, 32], [32, 9, 32, 32], [32, 32, 9, 32, 32], [32, 32, 32, 32, 32], [9, 32, 32, 32], [32, 9, 32, 32, 32], [32, 32, 9, 32, 32, 32]]
def lidx : List Nat := [0, 1, 2, 3, 4, 5, 1, 2, 6, 7, 8, 9, 2, 6, 10, 11, 12, 13, 6, 10, 14, 15, 16, 17]
def ls (i : Nat) : Str := ⟨(ltab.getD i []).toArray⟩
theorem lead_ls : ∀ i : Fin 24, lead (i.val : Int) = ls (lidx.getD i.val 0) ∧ lidx.getD i.val 0 < 18 := by decide +kernel
theorem cell24 (c : Int) : ∃ i : Fin 24, lead c = lead (i.val : Int) := by
  have hi : ((⟨(c % 24).toNat, by omega⟩ : Fin 24).val : Int) = c % 24 := by show (((c % 24).toNat : Nat) : Int) = _; omega
  refine ⟨⟨(c % 24).toNat, by omega⟩, ?_⟩
  rw [hi]
  unfold lead
  simp only [Int.fmod_eq_emod_of_nonneg _ (show (0 : Int) ≤ 3 by decide), Int.fmod_eq_emod_of_nonneg _ (show (0 : Int) ≤ 2 by decide), Int.fmod_eq_emod_of_nonneg _ (show (0 : Int) ≤ 4 by decide), Int.fdiv_eq_ediv_of_nonneg _ (show (0 : Int) ≤ 3 by decide), Int.fdiv_eq_ediv_of_nonneg _ (show (0 : Int) ≤ 6 by decide)]
  rw [show c % 24 % 3 = c % 3 by omega, show c % 24 / 3 % 2 = c / 3 % 2 by omega, show c % 24 / 6 % 4 = c / 6 % 4 by omega]
theorem cell18 (c : Int) : ∃ i : Fin 18, lead c = ls i.val := by
  obtain ⟨i, hi⟩ := cell24 c
  exact ⟨⟨_, (lead_ls i).2⟩, hi.trans (lead_ls i).1⟩
theorem one18 : ∀ i : Fin 18, (wsck (ls i.val).cps.toList && wsck (ls i.val ++ Str.ofString "\t").cps.toList && decide ((ls i.val).cps.size < 9) && decide ((ls i.val ++ Str.ofString "\t").cps.size < 12) && decide ((ls i.val).length + (Str.ofString "\t").length ≤ 100) &&
    colck (ls i.val) 1 && colck (ls i.val) 2 && colck (ls i.val) 3 && colck (ls i.val) 4 && colck (ls i.val) 5) = true := by decide +kernel
theorem wsck_of {l : List Nat} (h : wsck l = true) : (∀ x ∈ l, wsC x) ∧ wsBd (wsF l ([], 0, 0, 0)) := by
  unfold wsck at h
  simp only [Bool.and_eq_true, decide_eq_true_eq, List.all_eq_true, Bool.or_eq_true, beq_iff_eq] at h
  exact ⟨fun x hx => h.1 x hx, h.2⟩
theorem colck_of {x : Str} {m : Int} (h : colck x m = true) : il (wsS x) m = col x m ∧ 0 ≤ col x m ∧ col x m ≤ 8 ∧ ((col x m ≤ 7 ∨ 4 ≤ m) ∧ col x m ≤ m + 5) := by
  unfold colck at h
  simp only [Bool.and_eq_true, decide_eq_true_eq, beq_iff_eq] at h
  exact ⟨h.1.1.1, h.1.1.2, h.1.2, h.2⟩
theorem all24 (c : Int) : (∀ x ∈ (lead c).cps.toList, wsC x) ∧ wsBd (wsOf c) ∧ (∀ x ∈ (leadT c).cps.toList, wsC x) ∧ wsBd (wsT c) ∧ (lead c).cps.size < 9 ∧ (leadT c).cps.size < 12 ∧ (lead c).length + (Str.ofString "\t").length ≤ 100 ∧
    ∀ m : Int, 1 ≤ m → m ≤ 5 → il (wsOf c) m = col (lead c) m ∧ 0 ≤ col (lead c) m ∧ col (lead c) m ≤ 8 ∧ ((col (lead c) m ≤ 7 ∨ 4 ≤ m) ∧ col (lead c) m ≤ m + 5) := by
  obtain ⟨i, hi⟩ := cell18 c
  have h := one18 i
  have e1 : wsOf c = wsS (ls i.val) := by unfold wsOf wsS; rw [hi]
  have e2 : leadT c = ls i.val ++ Str.ofString "\t" := by unfold leadT; rw [hi]
  have e3 : wsT c = wsS (ls i.val ++ Str.ofString "\t") := by unfold wsT wsS; rw [e2]
  rw [e1, e3, e2, hi]
  simp only [Bool.and_eq_true, decide_eq_true_eq, and_assoc] at h
  refine aE10 h ?_
  clear h
  intro h1 h2 h3 h4 h5 c1 c2 c3 c4 c5
  obtain ⟨a1, a2⟩ := wsck_of h1
  obtain ⟨b1, b2⟩ := wsck_of h2
  refine ⟨a1, a2, b1, b2, h3, h4, h5, fun m m1 m2 => ?_⟩
  obtain rfl | rfl | rfl | rfl | rfl : m = 1 ∨ m = 2 ∨ m = 3 ∨ m = 4 ∨ m = 5 := by omega
  · exact colck_of c1
  · exact colck_of c2
  · exact colck_of c3
  · exact colck_of c4
  · exact colck_of c5
theorem wsOf_bd (c : Int) : wsBd (wsOf c) := (all24 c).2.1
theorem wsT_bd (c : Int) : wsBd (wsT c) := (all24 c).2.2.2.1
theorem lead_pre (c : Int) : (lead c).cps.size < 9 ∧ ∀ x ∈ (lead c).cps.toList, wsC x := ⟨(all24 c).2.2.2.2.1, (all24 c).1⟩
theorem leadT_pre (c : Int) : (leadT c).cps.size < 12 ∧ ∀ x ∈ (leadT c).cps.toList, wsC x := ⟨(all24 c).2.2.2.2.2.1, (all24 c).2.2.1⟩
theorem leadT_len (c : Int) : (lead c).length + (Str.ofString "\t").length ≤ 100 := (all24 c).2.2.2.2.2.2.1
theorem il_col (c : Int) {m : Int} (h1 : 1 ≤ m) (h2 : m ≤ 5) : il (wsOf c) m = col (lead c) m ∧ 0 ≤ col (lead c) m ∧ col (lead c) m ≤ 8 ∧ ((col (lead c) m ≤ 7 ∨ 4 ≤ m) ∧ col (lead c) m ≤ m + 5) := (all24 c).2.2.2.2.2.2.2 m h1 h2
def rck : List Int → Int → Bool → Nat → Bool
  | [], _, s, n => s && decide (n ≤ 100)
  | v :: r, M, s, n => decide (v ≤ M) && rck r M (s || v == M) (n + 1)
theorem rck_of {M : Int} : ∀ {R : List Int} {s : Bool} {n : Nat}, rck R M s n = true → (∀ v ∈ R, v ≤ M) ∧ (s = true ∨ M ∈ R) ∧ R.length + n ≤ 100
  | [], s, n, h => by
    simp only [rck, Bool.and_eq_true, decide_eq_true_eq] at h
    exact ⟨(fun _ h => nomatch h), .inl h.1, by simpa using h.2⟩
  | v :: r, s, n, h => by
    simp only [rck, Bool.and_eq_true, decide_eq_true_eq] at h
    obtain ⟨h1, h2, h3⟩ := rck_of h.2
    refine ⟨fun u hu => ?_, ?_, by rw [List.length_cons]; omega⟩
    · rcases List.mem_cons.mp hu with rfl | hu
      · exact h.1
      · exact h1 u hu
    · rcases h2 with h2 | h2
      · rcases Bool.or_eq_true_iff.mp h2 with h2 | h2
        · exact .inl h2
        · exact .inr (beq_iff_eq.mp h2 ▸ .head _)
      · exact .inr (.tail _ h2)
def dInt : Dat → Int
  | .int i => i
  | _ => 0
def dInts : Dat → List Int
  | .tuple l => l.map dInt
  | _ => []
def r3 (d : Dat) : I3 := ((dInts d).getD 0 0, (dInts d).getD 1 0, (dInts d).getD 2 0)
def isI : Dat → Bool
  | .int _ => true
  | _ => false
def is3 : Dat → Bool
  | .tuple l => decide (l.length = 3) && l.all isI
  | _ => false
theorem isI_of {d : Dat} (h : isI d = true) : d = .int (dInt d) := by cases d <;> first | rfl | cases h
theorem is3_of {d : Dat} (h : is3 d = true) : dat3 (r3 d) = d := by
  cases d with
  | tuple l =>
    obtain ⟨h1, h2⟩ := Bool.and_eq_true_iff.mp (show (decide (l.length = 3) && l.all isI) = true from h)
    have h4 := of_decide_eq_true h1
    match l, h4, h2 with
    | [a, b, c], _, h2 =>
      have h3 := List.all_eq_true.mp h2
      rw [isI_of (h3 a (.head _)), isI_of (h3 b (.tail _ (.head _))), isI_of (h3 c (.tail _ (.tail _ (.head _))))]
      rfl
  | _ => cases h
theorem all3 : ∀ {ds : List Dat}, ds.all is3 = true → (ds.map r3).map dat3 = ds
  | [], _ => rfl
  | d :: ds, h => by
    obtain ⟨h1, h2⟩ := Bool.and_eq_true_iff.mp (show (is3 d && ds.all is3) = true from h)
    show dat3 (r3 d) :: (ds.map r3).map dat3 = d :: ds
    rw [is3_of h1, all3 h2]
def dck (ds ws : List Dat) : Bool := ds.all is3 && (ws.all is3 && (decide (ds.map r3 = ws.map r3) && (decide (ds.length ≤ 100) && (ds.map r3).all fun r => decide (0 ≤ r.1 ∧ r.1 < 100))))
theorem dck_of {ds ws : List Dat} (h : dck ds ws = true) : ∃ ns : List I3, ds = ns.map dat3 ∧ ws = ns.map dat3 ∧ ns.length ≤ 100 ∧ ∀ r ∈ ns, 0 ≤ r.1 ∧ r.1 < 100 := by
  obtain ⟨h1, h⟩ := Bool.and_eq_true_iff.mp h
  obtain ⟨h2, h⟩ := Bool.and_eq_true_iff.mp h
  obtain ⟨h5, h⟩ := Bool.and_eq_true_iff.mp h
  obtain ⟨h3, h⟩ := Bool.and_eq_true_iff.mp h
  exact ⟨ds.map r3, (all3 h1).symm, by rw [of_decide_eq_true h5]; exact (all3 h2).symm, by rw [List.length_map]; exact of_decide_eq_true h3, fun r hr => of_decide_eq_true (List.all_eq_true.mp h r hr)⟩
def bigL (st stq : WsS) : Int := if lr stq > lr st then lr stq else lr st
def pairck (x y : Str) (st stq : WsS) : Bool := rck (runsL x y) (bigL st stq) false 0 && decide (0 ≤ bigL st stq) && decide (bigL st stq ≤ 12) && dck (dues x y (bigL st stq + 1).toNat) (wits st stq (bigL st stq + 1).toNat)
theorem pair_all : ∀ i j : Fin 18, pairck (ls i.val) (ls j.val) (wsS (ls i.val)) (wsS (ls j.val ++ Str.ofString "\t")) = true := by decide +kernel
theorem plain2 (a b : Int) : ∃ (M : Int) (ns : List I3), (M ∈ runsL (lead a) (lead b) ∧ (∀ v ∈ runsL (lead a) (lead b), v ≤ M) ∧ 0 ≤ M ∧ M ≤ 12 ∧ (runsL (lead a) (lead b)).length ≤ 100) ∧
    dues (lead a) (lead b) (M + 1).toNat = ns.map dat3 ∧ wits (wsOf a) (wsT b) ((if lr (wsT b) > lr (wsOf a) then lr (wsT b) else lr (wsOf a)) + 1).toNat = ns.map dat3 ∧ ns.length ≤ 100 ∧ (∀ r ∈ ns, 0 ≤ r.1 ∧ r.1 < 100) := by
  obtain ⟨i, hi⟩ := cell18 a
  obtain ⟨j, hj⟩ := cell18 b
  have h := pair_all i j
  unfold pairck at h
  have e1 : wsOf a = wsS (ls i.val) := by unfold wsOf wsS; rw [hi]
  have e3 : wsT b = wsS (ls j.val ++ Str.ofString "\t") := by unfold wsT wsS leadT; rw [hj]
  rw [← e1, ← e3, ← hi, ← hj] at h
  simp only [Bool.and_eq_true, decide_eq_true_eq] at h
  obtain ⟨⟨⟨h1, h2⟩, h3⟩, h4⟩ := h
  obtain ⟨r1, r2, r3⟩ := rck_of h1
  obtain ⟨ns, d1, d2, d3, d4⟩ := dck_of h4
  have r4 := r2.resolve_left Bool.false_ne_true
  unfold bigL at d2
  exact ⟨bigL (wsOf a) (wsT b), ns, ⟨r4, r1, h2, h3, r3⟩, d1, d2, d3, d4⟩
def rkFind (x y m : Int) : Nat → Int → Int
  | 0, e => e
  | n + 1, e => if rkEm x y m e = true then rkFind x y m n (e + 1) else e
theorem rkFind_low (x y m : Int) : ∀ (n : Nat) (e : Int), e ≤ rkFind x y m n e ∧ rkFind x y m n e ≤ e + n ∧ ∀ k, e ≤ k → k < rkFind x y m n e → rkEm x y m k = true
  | 0, e => ⟨Int.le_refl _, by simp [rkFind], fun k h1 h2 => by unfold rkFind at h2; omega⟩
  | n + 1, e => by
    obtain ⟨h1, h2, h3⟩ := rkFind_low x y m n (e + 1)
    unfold rkFind
    by_cases h : rkEm x y m e = true
    · rw [if_pos h]
      refine ⟨by omega, by omega, fun k k1 k2 => ?_⟩
      by_cases hk : k = e
      · rw [hk]; exact h
      · exact h3 k (by omega) k2
    · rw [if_neg h]
      exact ⟨Int.le_refl _, by omega, fun k k1 k2 => by omega⟩
def rkR (x y m : Int) : Int := rkFind x y m 40 0
def litTab : List UInt64 := [0, 4580160821035794432, 4584664420663164928, 4586916220476850176, 4589168020290535424, 4590293920197378048, 4591419820104220672, 4592545720011063296, 4593671619917905920, 4594234569871327232, 4594797519824748544, 4595360469778169856, 4595923419731591168, 4596486369685012480, 4597049319638433792, 4597612269591855104, 4598175219545276416, 4598456694521987072, 4598738169498697728, 4599019644475408384, 4599301119452119040, 4599582594428829696, 4599864069405540352, 4600145544382251008, 4600427019358961664]
def litN (n : Nat) : UInt64 := litTab.getD n 0
theorem lit_tab : ∀ i : Fin 45, lit ((i.val : Int) - 20) = litN ((i.val : Int) - 20).toNat := by decide +kernel
def wF (a b : UInt64) : UInt64 := Float64.sub (Float64.mul (Float64.ofInt 2) (Float64.div (Float64.add (max3 a b b) (min3 a b b)) 4611686018427387904)) (max3 a b b)
def vF (a c : UInt64) : UInt64 := Float64.sub (Float64.mul (Float64.ofInt 64) (max3 a c 0)) (Float64.ofInt 1)
def fN (n : Nat) : UInt64 := Float64.ofInt ((n : Int) - 1)
theorem lights1 : ∀ (a : Fin 5) (b : Fin 17), hsvPre (litN (a.val + 1)) (litN b.val) (litN b.val) ∧ hlsPre (litN (a.val + 1)) (litN b.val) (litN b.val) ∧ wF (litN (a.val + 1)) (litN b.val) = litN (min (a.val + 1) b.val) := by decide +kernel
theorem lights2 : ∀ (k : Fin 6) (c : Fin 17), hsvPre (litN k.val) (litN c.val) 0 ∧ vF (litN k.val) (litN c.val) = fN (max k.val c.val) := by decide +kernel
theorem lights3 : ∀ n : Fin 18, (Float64.cmpInt (fN n.val) ((n.val : Int) - 1) != some Ordering.eq) = false := by decide +kernel
theorem lights4 : ∀ n k : Fin 18, (Float64.cmpInt (Float64.sub (fN n.val) (fN k.val)) ((n.val : Int) - (k.val : Int)) != some Ordering.eq) = false := by decide +kernel
/-- one more than the rank -/
def nn (x y m : Int) : Nat := max (min (x.fmod m + 1).toNat (x + y - x.fmod m + 1).toNat) (x + y + 2 - m).toNat
theorem lit_is {k : Int} (h1 : -20 ≤ k) (h2 : k < 25) : lit k = litN k.toNat := by
  have h := lit_tab ⟨(k + 20).toNat, by omega⟩
  have e : (((k + 20).toNat : Nat) : Int) - 20 = k := by omega
  simp only [e] at h
  exact h
theorem told_is {x y m : Int} (hm1 : 1 ≤ m) (hm2 : m ≤ 5) (h1 : -9 ≤ x + y) (h2 : x + y ≤ 15) : toldPre x y m ∧ toldV x y m = fN (nn x y m) := by
  have b := fm_bd (a := x) hm1
  have eA : tA x m = litN (x.fmod m + 1).toNat := lit_is (by omega) (by omega)
  have eB : tB x y m = litN (x + y - x.fmod m + 1).toNat := lit_is (by omega) (by omega)
  have eC : tC x y m = litN (x + y + 2 - m).toNat := lit_is (by omega) (by omega)
  have q1 := lights1 ⟨(x.fmod m).toNat, by omega⟩ ⟨(x + y - x.fmod m + 1).toNat, by omega⟩
  have e1 : (x.fmod m).toNat + 1 = (x.fmod m + 1).toNat := by omega
  simp only [e1] at q1
  have q2 := lights2 ⟨min (x.fmod m + 1).toNat (x + y - x.fmod m + 1).toNat, by omega⟩ ⟨(x + y + 2 - m).toNat, by omega⟩
  simp only at q2
  have eW : tW x y m = litN (min (x.fmod m + 1).toNat (x + y - x.fmod m + 1).toNat) := by
    show wF (tA x m) (tB x y m) = _
    rw [eA, eB]; exact q1.2.2
  refine ⟨⟨?_, ?_, ?_⟩, ?_⟩
  · rw [eA, eB]; exact q1.1
  · rw [eA, eB]; exact q1.2.1
  · rw [eW, eC]; exact q2.1
  · show vF (tW x y m) (tC x y m) = _
    rw [eW, eC]; exact q2.2
def rkOk (x y m : Int) : Bool := rkR x y m == (nn x y m : Int) && !rkEm x y m (nn x y m)
def ck (X Y m : Int) : Bool := rkOk X (0 - Y - 1) m && rkOk (m - 2 - X) (m - 2 - (0 - Y - 1)) m && ((nn X (0 - Y - 1) m : Int) - (nn (m - 2 - X) (m - 2 - (0 - Y - 1)) m : Int) == X + (0 - Y - 1) + 2 - m) && decide (nn X (0 - Y - 1) m < 18) && decide (nn (m - 2 - X) (m - 2 - (0 - Y - 1)) m < 18)
theorem ck_all : ∀ (X Y : Fin 9) (m : Fin 5), ck (X.val : Int) (Y.val : Int) ((m.val : Int) + 1) = true := by decide +kernel
theorem rkP_of {x y m : Int} (h : rkOk x y m = true) : rkP x y m (nn x y m) := by
  unfold rkOk at h
  simp only [Bool.and_eq_true, beq_iff_eq, Bool.not_eq_true'] at h
  obtain ⟨h1, h2⟩ := h
  have l := rkFind_low x y m 40 0
  have e : rkFind x y m 40 0 = (nn x y m : Int) := h1
  rw [e] at l
  exact ⟨by omega, by omega, fun k k1 k2 => l.2.2 k k1 k2, h2⟩
/-- all that the law's loop asks at one m -/
theorem plain3 {X Y m : Int} (hx : 0 ≤ X) (hx2 : X ≤ 8) (hy : 0 ≤ Y) (hy2 : Y ≤ 8) (hm1 : 1 ≤ m) (hm2 : m ≤ 5) :
    ∃ (r1 r2 : Int), (toldPre X (0 - Y - 1) m ∧ toldPre (m - 2 - X) (m - 2 - (0 - Y - 1)) m) ∧ (rkP X (0 - Y - 1) m r1 ∧ rkP (m - 2 - X) (m - 2 - (0 - Y - 1)) m r2) ∧
      (Float64.cmpInt (toldV X (0 - Y - 1) m) (r1 - 1) != some Ordering.eq) = false ∧ (Float64.cmpInt (toldV (m - 2 - X) (m - 2 - (0 - Y - 1)) m) (r2 - 1) != some Ordering.eq) = false ∧
      (Float64.cmpInt (Float64.sub (toldV X (0 - Y - 1) m) (toldV (m - 2 - X) (m - 2 - (0 - Y - 1)) m)) (X + (0 - Y - 1) + 2 - m) != some Ordering.eq) = false := by
  have h := ck_all ⟨X.toNat, by omega⟩ ⟨Y.toNat, by omega⟩ ⟨(m - 1).toNat, by omega⟩
  have e1 : ((X.toNat : Nat) : Int) = X := by omega
  have e2 : ((Y.toNat : Nat) : Int) = Y := by omega
  have e3 : (((m - 1).toNat : Nat) : Int) + 1 = m := by omega
  simp only [e1, e2, e3] at h
  unfold ck at h
  simp only [Bool.and_eq_true, beq_iff_eq, decide_eq_true_eq] at h
  obtain ⟨⟨⟨⟨h1, h2⟩, h3⟩, h4⟩, h5⟩ := h
  obtain ⟨p1, v1⟩ := told_is (x := X) (y := 0 - Y - 1) hm1 hm2 (by omega) (by omega)
  obtain ⟨p2, v2⟩ := told_is (x := m - 2 - X) (y := m - 2 - (0 - Y - 1)) hm1 hm2 (by omega) (by omega)
  refine ⟨_, _, ⟨p1, p2⟩, ⟨rkP_of h1, rkP_of h2⟩, ?_, ?_, ?_⟩
  · rw [v1]; exact lights3 ⟨_, h4⟩
  · rw [v2]; exact lights3 ⟨_, h5⟩
  · rw [v1, v2, ← h3]; exact lights4 ⟨_, h4⟩ ⟨_, h5⟩
noncomputable abbrev lawScope : Scope := (by refine' (?f1 : (x : Scope) → x = sScope [27] → Scope) _ ?h1; (case h1 => conv => rhs; whnf); exact fun x _ => x)
noncomputable abbrev lawBody : List Stmt := (by refine' (?f2 : (x : List Stmt) → x = sBody [27] → List Stmt) _ ?h2; (case h2 => conv => rhs; whnf); exact fun x _ => x)
noncomputable abbrev lawRest2 : List Stmt := (by refine' (?f3 : (x : List Stmt) → x = List.drop 5 lawBody → List Stmt) _ ?h3; (case h3 => conv => rhs; whnf); exact fun x _ => x)
noncomputable abbrev lawRest3 : List Stmt := (by refine' (?f4 : (x : List Stmt) → x = List.drop 12 lawBody → List Stmt) _ ?h4; (case h4 => conv => rhs; whnf); exact fun x _ => x)
/-- what the law's body hands back at its end -/
abbrev RetLw (g : Heap) (L : Addr) (s : Shared) (Q : Flow → Shared → Prop) : Prop :=
  ∀ (h' : Heap) (tk' : Nat) (g' : Array GenState) (m' : Frm), AllBare g' → Fr g L h' m' → GrownAt 89 h' → GrownAt 110 h' → GrownAt 117 h' → GrownAt 201 h' → Q (.ret (.bool true)) ⟨h', g', s.drawn, tk', s.os⟩
noncomputable abbrev lwEnv (L : Addr) : Env := envOfC (Str.ofString "law") lawScope L 252 (.ref 251)
noncomputable abbrev lwA (dp un : Nat) (gd : Option (List Code)) (L : Addr) (outer : List Env) : Around := ktrTop dp un gd (Str.ofString "law") lawScope L 252 (.ref 251) (cellsFrom (L + 1) lawScope.names []) outer
theorem pre_of3 {st : WsS} {vs : List Value} (h : wsBd st) (hI : IntsAre vs st.1) : 0 ≤ st.2.1 ∧ st.2.1 ≤ 12 ∧ 0 ≤ st.2.2.2 ∧ st.2.2.2 ≤ 12 ∧ st.1.length ≤ 13 ∧ (∀ v ∈ st.1, 0 ≤ v ∧ v ≤ 12) ∧ IntsAre vs st.1 := ⟨h.1, h.2.1, h.2.2.1, h.2.2.2.1, h.2.2.2.2.1, h.2.2.2.2.2, hI⟩
theorem permA {i c a1 a2 a3 a4 : Addr × Obj} {l : CbLed} : ∀ q ∈ a1 :: a2 :: a3 :: a4 :: i :: c :: l, q ∈ i :: c :: a1 :: a2 :: a3 :: a4 :: l := swapL [a1, a2, a3, a4] [i, c]
theorem permA' {i c a1 a2 a3 a4 : Addr × Obj} {l : CbLed} : ∀ q ∈ i :: c :: a1 :: a2 :: a3 :: a4 :: l, q ∈ a1 :: a2 :: a3 :: a4 :: i :: c :: l := swapL [i, c] [a1, a2, a3, a4]
theorem permB {i c a1 a2 a3 a4 b1 b2 b3 b4 : Addr × Obj} {l : CbLed} : ∀ q ∈ b1 :: b2 :: b3 :: b4 :: i :: c :: a1 :: a2 :: a3 :: a4 :: l, q ∈ i :: c :: a1 :: a2 :: a3 :: a4 :: b1 :: b2 :: b3 :: b4 :: l := swapL [b1, b2, b3, b4] [i, c, a1, a2, a3, a4]
theorem permB' {i c a1 a2 a3 a4 b1 b2 b3 b4 : Addr × Obj} {l : CbLed} : ∀ q ∈ i :: c :: a1 :: a2 :: a3 :: a4 :: b1 :: b2 :: b3 :: b4 :: l, q ∈ b1 :: b2 :: b3 :: b4 :: i :: c :: a1 :: a2 :: a3 :: a4 :: l := swapL [i, c, a1, a2, a3, a4] [b1, b2, b3, b4]
theorem sub_fix {i c : Addr × Obj} {f r : CbLed} (h : ∀ p ∈ f, p ∈ r) : ∀ p ∈ i :: c :: (f ++ r), p ∈ i :: c :: r := by
  intro p hp
  rcases List.mem_cons.mp hp with rfl | hp
  · exact .head _
  · rcases List.mem_cons.mp hp with rfl | hp
    · exact .tail _ (.head _)
    · rcases List.mem_append.mp hp with hp | hp
      · exact .tail _ (.tail _ (h p hp))
      · exact .tail _ (.tail _ hp)
theorem Tabs.sub {l l' : CbLed} (T : Tabs l) (h : ∀ p ∈ l, p ∈ l') : Tabs l' := ⟨TabAt.sub T.1 h, TabAt.sub T.2 h⟩
theorem tab_grown {h₀ h : Heap} {L P : Addr} {pos : Pos} {qual : Str} {l : CbLed} (T : TabAt P pos qual l) (N : News h₀ L h l) : GrownAt P h := by
  rcases T with h1 | ⟨c', oc, vs, t, h1, _⟩
  · exact .of N h1
  · exact .of N h1
theorem tab_off {h₀ h : Heap} {L Q P : Addr} {pos : Pos} {qual : Str} {o : Obj} {bl : CbLed} (T : TabAt Q pos qual bl) (N : News h₀ L h bl) (hP : (P, o) ∈ bl) (hne : Q ≠ P) (ho : ∀ (fs : Array Value) (q : Str) (t : Tok), o.data = .fields fs → fs[1]? ≠ some (.str q t)) : TabAt Q pos qual (bl.filter fun p => p.1 != P) := by
  rcases T with h1 | ⟨c', oc, vs, t, h1, h2, h3, h4, h5⟩
  · exact .inl (List.mem_filter.mpr ⟨h1, bne_iff_ne.mpr hne⟩)
  · refine .inr ⟨c', oc, vs, t, List.mem_filter.mpr ⟨h1, bne_iff_ne.mpr hne⟩, List.mem_filter.mpr ⟨h2, bne_iff_ne.mpr fun q => ?_⟩, h3, h4, h5⟩
    have e1 := (N _ h2).1
    have e2 := (N _ hP).1
    dsimp only at e1 e2 q
    rw [q, e2] at e1
    exact ho vs _ _ ((congrArg Obj.data (Option.some.inj e1)).trans h3) h4
theorem law_end {h₀ h' : Heap} {L I c : Addr} {it oc : Obj} {J : Frm → CbLed → Prop} {s₁ : Shared} {tk : Nat} {m' : Frm} {fix bs : CbLed} {q : Option Value} (F : Fr h₀ L h' m') (N : News h₀ L h' bs) (mi : (I, it) ∈ bs) (mc : (c, oc) ∈ bs) (hcI : c ≠ I) (hit : ∀ (fs : Array Value) (q : Str) (t : Tok), it.data = .fields fs → fs[1]? ≠ some (.str q t)) (hoc : oc.data = .cell q)
    (hfix : ∀ p ∈ fix, p ∈ bs ∧ p.1 ≠ c ∧ p.1 ≠ I) (T : Tabs bs) (n1 : (110 : Addr) ≠ c ∧ (110 : Addr) ≠ I ∧ (117 : Addr) ≠ c ∧ (117 : Addr) ≠ I)
    (j : ∀ rest : CbLed, (∀ p ∈ fix, p ∈ rest) → Tabs rest → (∀ p ∈ rest, p.1 ≠ c) → (∀ p ∈ rest, p.1 ≠ I) → J m' ((c, oc) :: rest)) : UnrEnd h₀ L s₁ I it J { s₁ with heap := h', toks := tk } := by
  have N1 : News h₀ L h' (bs.filter fun p => p.1 != c) := fun p hp => N p (List.mem_filter.mp hp).1
  have mi1 : (I, it) ∈ bs.filter fun p => p.1 != c := List.mem_filter.mpr ⟨mi, bne_iff_ne.mpr (Ne.symm hcI)⟩
  have hc0 : ∀ (fs : Array Value) (q : Str) (t : Tok), oc.data = .fields fs → fs[1]? ≠ some (.str q t) := fun fs q t e => by rw [hoc] at e; cases e
  have hI : ∀ p ∈ (bs.filter fun p => p.1 != c).filter (fun p => p.1 != I), p.1 ≠ I := fun p hp => bne_iff_ne.mp (List.mem_filter.mp hp).2
  refine ⟨h', tk, m', (c, oc) :: (bs.filter fun p => p.1 != c).filter (fun p => p.1 != I), rfl, F, ?_, List.forall_mem_cons.mpr ⟨hcI, hI⟩, j _ (fun p hp => ?_) ?_ (fun p hp => bne_iff_ne.mp (List.mem_filter.mp (List.mem_filter.mp hp).1).2) hI⟩
  · intro p hp
    rcases List.mem_cons.mp hp with rfl | hp
    · exact N _ mi
    · rcases List.mem_cons.mp hp with rfl | hp
      · exact N _ mc
      · exact N1 p (List.mem_filter.mp hp).1
  · obtain ⟨a1, a2, a3⟩ := hfix p hp
    exact List.mem_filter.mpr ⟨List.mem_filter.mpr ⟨a1, bne_iff_ne.mpr a2⟩, bne_iff_ne.mpr a3⟩
  · exact ⟨tab_off (tab_off T.1 N mc n1.1 hc0) N1 mi1 n1.2.1 hit, tab_off (tab_off T.2 N mc n1.2.2.1 hc0) N1 mi1 n1.2.2.2 hit⟩
def JL (fix9 : CbLed) (x0 x0q D4 I1 L : Addr) (_ : Nat) (m' : Frm) (n' : CbLed) : Prop :=
  ∀ P : CbLed → Prop, (∀ (oc : Obj) (qc : Option Value) (rest : CbLed), oc.data = .cell qc → (∀ p ∈ fix9, p ∈ rest) → Tabs rest → (∀ p ∈ rest, p.1 ≠ L + 1 + 1) → (∀ p ∈ rest, p.1 ≠ I1) → m' (Str.ofString "coins") = some (.ref x0) → m' (Str.ofString "debts") = some (.ref x0q) → m' (Str.ofString "words") = some (.ref D4) → P ((L + 1 + 1, oc) :: rest)) → P n'
theorem JL_mk {fix9 : CbLed} {x0 x0q D4 I1 L : Addr} {i : Nat} {m' : Frm} {oc : Obj} {qc : Option Value} {rest : CbLed} : oc.data = .cell qc → (∀ p ∈ fix9, p ∈ rest) → Tabs rest → (∀ p ∈ rest, p.1 ≠ L + 1 + 1) → (∀ p ∈ rest, p.1 ≠ I1) → m' (Str.ofString "coins") = some (.ref x0) → m' (Str.ofString "debts") = some (.ref x0q) → m' (Str.ofString "words") = some (.ref D4) → JL fix9 x0 x0q D4 I1 L i m' ((L + 1 + 1, oc) :: rest) := fun a1 a2 a3 a4 a5 a6 a7 a8 _ k => k oc qc rest a1 a2 a3 a4 a5 a6 a7 a8
theorem ints_dat {n : CbLed} : ∀ {vs : List Value} {xs : List Int}, IntsAre vs xs → DatAll n vs (xs.map Dat.int)
  | _, _, .nil => .nil
  | _, _, .cons _ _ r => .cons (.int _ _) (ints_dat r)
theorem two_str {a b c : Int} {ta tb : Tok} {i : Nat} {v : Value} (h : [a, b][i]? = some c) (hv : (#[Value.str (lead a) ta, .str (lead b) tb] : Array Value)[i]? = some v) : ∃ t, v = .str (lead c) t := by
  match i with
  | 0 => simp at h hv; exact ⟨ta, by rw [← hv, ← h]⟩
  | 1 => simp at h hv; exact ⟨tb, by rw [← hv, ← h]⟩
  | n + 2 => simp at h
theorem keep_app {l b : CbLed} (h : ∀ p ∈ l, p ∈ b) : ∀ p ∈ l ++ b, p ∈ b := fun p hp => (List.mem_append.mp hp).elim (h p) id
theorem two_ok {x y : Int} : ∀ d ∈ [Dat.int x, Dat.int y], kqdOk 8 d = true := by
  intro d hd
  simp only [List.mem_cons, List.not_mem_nil, or_false] at hd
  rcases hd with rfl | rfl <;> rfl
theorem dat_int {n : CbLed} {i j : Int} {t : Tok} (h : i = j) : DatIn n (.int i t) (.int j) := h ▸ .int _ _
theorem law3 (w : World) (a b : Int) (x0 d0 nT cT : Addr) (vs : List Value) (bs : Bool) (twx twb twn twnt wk1 wk2 wk3 wk4 wk5 : CbTok) (x0q d0q nTq cTq : Addr) (vsq : List Value) (bsq : Bool) (twxq twbq twnq twntq wk1q wk2q wk3q wk4q wk5q : CbTok) (D4 : Addr) (t1 t2 : CbTok) (kw : Nat) (o2 : Obj) (pt ptf : Array Value) : ∀ (loose : List Str) (mean : ExcName → Option Value) (mg mb : Frm) (dp un : Nat) (gd : Option (List Code)) (outer : List Env) (A₀ : Around) (base g : Heap) (L : Addr) (m0 : Frm) (s : Shared) (Q : Flow → Shared → Prop) (E : Value → Shared → Prop), Below A₀ base outer g → Fr g L s.heap m0 → (MyK w).In g → Top topProg loose mean mg mb g → AllBare s.gens → dp < 800 → un < 4800 → @LT.lt Nat _ 89 L → @LT.lt Nat _ 110 L → @LT.lt Nat _ 117 L → @LT.lt Nat _ 201 L → RetLw g L s Q → PassesOwn (model MyProg w) (lwA dp un gd L outer) (lwEnv L) E →
    News g L s.heap ((L + 1 + 1, o2) :: (x0, instObj 83 d0) :: (d0, wsDict w (lead a) (wsOf a).2.2.1 (wsOf a).2.2.2 nT bs twx twn twnt wk1 wk2 wk3 wk4 wk5) :: (nT, tupO #[.ref cT, .int (wsOf a).2.1 twb]) :: (cT, tupO vs.toArray) :: (x0q, instObj 83 d0q) :: (d0q, wsDict w (lead b) (wsOf b).2.2.1 (wsOf b).2.2.2 nTq bsq twxq twnq twntq wk1q wk2q wk3q wk4q wk5q) :: (nTq, tupO #[.ref cTq, .int (wsOf b).2.1 twbq]) :: (cTq, tupO vsq.toArray) :: (D4, W.listOf #[.str (lead a) t1, .str (lead b) t2] kw) :: (89, tabObj ptf) :: (201, tabObj pt) :: (110, tabObj #[]) :: (117, tabObj #[]) :: []) → o2.data = .cell none → m0 (Str.ofString "coins") = some (.ref x0) → m0 (Str.ofString "debts") = some (.ref x0q) → m0 (Str.ofString "words") = some (.ref D4) → IntsAre vs (wsOf a).1 → IntsAre vsq (wsOf b).1 →
    (∀ p ∈ ((x0, instObj 83 d0) :: (d0, wsDict w (lead a) (wsOf a).2.2.1 (wsOf a).2.2.2 nT bs twx twn twnt wk1 wk2 wk3 wk4 wk5) :: (nT, tupO #[.ref cT, .int (wsOf a).2.1 twb]) :: (cT, tupO vs.toArray) :: (x0q, instObj 83 d0q) :: (d0q, wsDict w (lead b) (wsOf b).2.2.1 (wsOf b).2.2.2 nTq bsq twxq twnq twntq wk1q wk2q wk3q wk4q wk5q) :: (nTq, tupO #[.ref cTq, .int (wsOf b).2.1 twbq]) :: (cTq, tupO vsq.toArray) :: (D4, W.listOf #[.str (lead a) t1, .str (lead b) t2] kw) :: (89, tabObj ptf) :: (201, tabObj pt) :: [] : CbLed), p.1 ≠ L + 1 + 1 ∧ p.1 ≠ 110 ∧ p.1 ≠ 117) →
    wpAny (model MyProg w) (lwA dp un gd L outer) (execs lawRest3 (lwEnv L)) Q E s := by
  dsimp only [MyProg, MyK]
  k_fill
  k_with_none
  k_with "my room" => ((try simp only [depth_under_make, depth_under_kw, depth_in1, depth_deeper, depth_caller]); show _ < 1000; (try dsimp only [ktrTop]); (first | exact lt_rm hdp rfl | exact lt_rm hun rfl | exact lt_rm0 hdp rfl | exact lt_rm0 hun rfl | exact lt_rmB hdp rfl | exact lt_rmB hun rfl | exact lt_rmC hdp rfl | exact lt_rmC hun rfl | omega))
  k_with "my all" => (first | assumption | (refine tnAll (by assumption) ?_; omega) | (refine tnAll2 (by assumption) ?_; omega))
  k_with "my ne" => (first | (with_reducible assumption) | exact Ne.symm (by with_reducible assumption))
  k_with "enter" => (refine wpAny_call ?_; k_dflt (first
    | cell_enter
    | (refine' code_defC ?k1 ?k2 ?k3 ?k4 ?k5 ?kA ?kF ?kK ?k6 ?k7 ?k8 ?k9 ?kB ?kD ?_ ?c2 ?c3 ?c4; (case kA => exact rfl); (case kF => exact rfl); (case kK => assumption); (case k1 => k_asm); (case k2 => k_asm); (case k3 => k_asm); (case k4 => k_asm); (case k5 => k_asm); (case k6 => k_is); (case k7 => k_is); (case k8 => k_room); (case k9 => exact BindsTo.of_eq rfl); (case kB => exact rfl); (case kD => decide +kernel); (case c2 => exact rfl); (case c3 => exact rfl); (case c4 => exact rfl); k_whole; intro g' L' h' tk' cells' FG' F' N' Y' B' X' T' l1; (try k_lt l1); k_cells Y'; (try simp only [List.cons_append, List.nil_append] at N'); (try dsimp only); (try k_lift B'); (try k_fold))))
  k_with "my call ref" => (refine hold ?_)
  k_with "my eval Name" => (k_here; k_dflt (first | (refine nameX_L (by k_asm) (by with_unfolding_all exact hm1) ?_ (by rfl) (by rfl)) | (refine nameX_L (by k_asm) (by with_unfolding_all exact hm2) ?_ (by rfl) (by rfl)) | (refine nameX_L (by k_asm) (by with_unfolding_all exact hm3) ?_ (by rfl) (by rfl))))
  k_with "my exec For Name Call cons nil" => (k_here; k_dflt (refine For_turns (by k_asm) ?_ (hE := hPE)))
  k_with "my pyIter ref" => (refine hold ?_)
  k_with "my compareOp NotEq ref ref" => (refine hold ?_)
  k_with "my compareOp NotEq float int" => (refine hold ?_)
  k_with "my eval ListComp" => (k_here; k_dflt (refine LCg.ListComp_U (by k_asm) (by with_unfolding_all rfl) (by decide) (by rfl) (by decide) (by rfl) ?_))
  k_with "my CompEnd" => (k_here; k_dflt (refine LCg.CompEnd.intro (by assumption) (by assumption) _ (fun _ h => h) (by with_unfolding_all assumption) (by lcg_src) ?_); k_dflt (exact ⟨rfl, _, rfl⟩))
  k_with "my CompRest" => (refine hold ?_)
  k_with "my CompSrc" => (refine hold ?_)
  k_with "my CompSrcT" => (refine hold ?_)
  k_with "my ne" => (first | (with_reducible assumption) | exact Ne.symm (by with_reducible assumption)  | exact neN (by show @Ne Nat _ _; omega))
  intro loose mean mg mb dp un gd outer A₀ base g L m0 s Q E hB hF hX hT hG hdp hun l89 l110 l117 l201 hret hPE hN hd2 hm1 hm2 hm3 hI hIq hFx
  dsimp only [lwA, lwEnv, lawScope, lawRest3]
  k_steps
  refine hold_mk ?_
  k_dflt (refine range_turns2 (n := 5) (by rfl) (by assumption) (by decide) (by rfl) (by k_asm) (by k_asm) ?_)
  intro I1 lI1
  refine ⟨JL ((x0, instObj 83 d0) :: (d0, wsDict w (lead a) (wsOf a).2.2.1 (wsOf a).2.2.2 nT bs twx twn twnt wk1 wk2 wk3 wk4 wk5) :: (nT, tupO #[.ref cT, .int (wsOf a).2.1 twb]) :: (cT, tupO vs.toArray) :: (x0q, instObj 83 d0q) :: (d0q, wsDict w (lead b) (wsOf b).2.2.1 (wsOf b).2.2.2 nTq bsq twxq twnq twntq wk1q wk2q wk3q wk4q wk5q) :: (nTq, tupO #[.ref cTq, .int (wsOf b).2.1 twbq]) :: (cTq, tupO vsq.toArray) :: (D4, W.listOf #[.str (lead a) t1, .str (lead b) t2] kw) :: (89, tabObj ptf) :: (201, tabObj pt) :: []) x0 x0q D4 I1 L, ?_, ?_, ?_⟩
  · refine JL_mk hd2 (fun p hp => List.mem_append_left [(110, tabObj #[]), (117, tabObj #[])] hp) ⟨.inl (by k_mem), .inl (by k_mem)⟩ ?_ (fun p hp => Nat.ne_of_lt (lI1 p (.tail _ hp))) (by with_unfolding_all exact hm1) (by with_unfolding_all exact hm2) (by with_unfolding_all exact hm3)
    have hq : ∀ p ∈ ((x0, instObj 83 d0) :: (d0, wsDict w (lead a) (wsOf a).2.2.1 (wsOf a).2.2.2 nT bs twx twn twnt wk1 wk2 wk3 wk4 wk5) :: (nT, tupO #[.ref cT, .int (wsOf a).2.1 twb]) :: (cT, tupO vs.toArray) :: (x0q, instObj 83 d0q) :: (d0q, wsDict w (lead b) (wsOf b).2.2.1 (wsOf b).2.2.2 nTq bsq twxq twnq twntq wk1q wk2q wk3q wk4q wk5q) :: (nTq, tupO #[.ref cTq, .int (wsOf b).2.1 twbq]) :: (cTq, tupO vsq.toArray) :: (D4, W.listOf #[.str (lead a) t1, .str (lead b) t2] kw) :: (89, tabObj ptf) :: (201, tabObj pt) :: [] : CbLed) ++ [(110, tabObj #[]), (117, tabObj #[])], p.1 ≠ L + 1 + 1 := List.forall_mem_append.mpr ⟨fun p hp => (hFx p hp).1, List.forall_mem_cons.mpr ⟨neN (by show @Ne Nat _ _; (try dsimp only); omega), List.forall_mem_cons.mpr ⟨neN (by show @Ne Nat _ _; (try dsimp only); omega), fun _ h => nomatch h⟩⟩⟩
    exact hq
  · intro i1 m1 n1 t1x h1 tk1 it hi hJ F1 N1 hitF
    revert N1
    refine hJ (fun nn => News _ _ _ ((I1, it) :: nn) → _) ?_
    clear hJ
    intro oc qc rest hdc hs hT9 ho1 ho2 hm1 hm2 hm3 N1
    replace N1 := cb_drop N1 (sub_fix hs)
    simp only [List.cons_append, List.nil_append] at N1
    have hme := fun p hp => (hFx p hp).1
    simp only [List.forall_mem_cons] at hme
    refine aE12 hme ?_
    clear hme
    intro e1 e2 e3 e4 e5 e6 e7 e8 e9 e10 e11 _
    have hcI : L + 1 + 1 ≠ I1 := Nat.ne_of_lt (lI1 (_, _) (.head _))
    have hM1 : (1 : Int) ≤ (1 + (i1 : Int)) := by omega
    have hM2 : (1 + (i1 : Int)) ≤ 5 := by omega
    refine aE5 (il_col a hM1 hM2) ?_
    intro eX bX0 bX1 bX2 bX3
    refine aE4 (il_col b hM1 hM2) ?_
    intro eY bY0 bY1 _
    rw [← eX] at bX0 bX1 bX2 bX3
    rw [← eY] at bY0 bY1
    obtain ⟨r1, r2, hp39⟩ := plain3 bX0 bX1 bY0 bY1 hM1 hM2
    refine aE5 hp39 ?_
    clear hp39
    intro tp9 rk9 c1 c2 c3
    have tp1 := tp9.1
    have tp2 := tp9.2
    have rk1 := rk9.1
    have rk2 := rk9.2
    k_steps
    refine hold_mk ?_
    k_dflt (refine c_il w x0 d0 nT cT vs bs (lead a) (wsOf a) twx twb twn twnt wk1 wk2 wk3 wk4 wk5 _ _ _ _ _ _ _ _ _ _ _ _ _ _ _ _ _ _ _ _ _ _ _ _ (by k_asm) (by k_asm) (by k_asm) (cb_drop (by k_asm) permA) (by k_asm) (by first | rfl | assumption) (⟨by omega, by omega, pre_of3 (wsOf_bd a) hI⟩) (by (try simp only [depth_under_make, depth_under_kw, depth_in1, depth_deeper, depth_caller]); show _ < _; (try dsimp only [ktrTop]); (first | exact lt_rm hdp rfl | exact lt_rm hun rfl | exact lt_rm0 hdp rfl | exact lt_rm0 hun rfl | exact lt_rmB hdp rfl | exact lt_rmB hun rfl | exact lt_rmC hdp rfl | exact lt_rmC hun rfl | omega)) (by (try simp only [units_under_make, units_under_kw, units_in1, units_deeper, units_caller]); show _ < _; (try dsimp only [ktrTop]); (first | exact lt_rm hdp rfl | exact lt_rm hun rfl | exact lt_rm0 hdp rfl | exact lt_rm0 hun rfl | exact lt_rmB hdp rfl | exact lt_rmB hun rfl | exact lt_rmC hdp rfl | exact lt_rmC hun rfl | omega)) ?_)
    intro t6 h6 tk6 F6 N6
    replace N6 := cb_drop N6 permA'
    k_steps
    refine hold_mk ?_
    k_dflt (refine c_il w x0q d0q nTq cTq vsq bsq (lead b) (wsOf b) twxq twbq twnq twntq wk1q wk2q wk3q wk4q wk5q _ _ _ _ _ _ _ _ _ _ _ _ _ _ _ _ _ _ _ _ _ _ _ _ (by k_asm) (by k_asm) (by k_asm) (cb_drop (by k_asm) permB) (by k_asm) (by first | rfl | assumption) (⟨by omega, by omega, pre_of3 (wsOf_bd b) hIq⟩) (by (try simp only [depth_under_make, depth_under_kw, depth_in1, depth_deeper, depth_caller]); show _ < _; (try dsimp only [ktrTop]); (first | exact lt_rm hdp rfl | exact lt_rm hun rfl | exact lt_rm0 hdp rfl | exact lt_rm0 hun rfl | exact lt_rmB hdp rfl | exact lt_rmB hun rfl | exact lt_rmC hdp rfl | exact lt_rmC hun rfl | omega)) (by (try simp only [units_under_make, units_under_kw, units_in1, units_deeper, units_caller]); show _ < _; (try dsimp only [ktrTop]); (first | exact lt_rm hdp rfl | exact lt_rm hun rfl | exact lt_rm0 hdp rfl | exact lt_rm0 hun rfl | exact lt_rmB hdp rfl | exact lt_rmB hun rfl | exact lt_rmC hdp rfl | exact lt_rmC hun rfl | omega)) ?_)
    intro t7 h6 tk6 F6 N6
    replace N6 := cb_drop N6 permB'
    k_steps
    refine hold_mk ?_
    k_dflt (refine LCg.CompSrc.ledger (by rfl) (by k_asm) (by k_asm) (by k_mem) (le_size (k := 100) (by simp) rfl) ?_)
    intro g9
    refine rest_ints [a, b] (fun c => col (lead c) (1 + (i1 : Int))) (by rfl) ?turn ?_
    case turn =>
      intro i k9 v I oI C oC D m2 ys h8 tk8 E8 hk9 hv9 hC9 hx9 F9 N9 off9 ne9
      obtain ⟨tv, rfl⟩ := two_str hk9 hv9
      have hsz9 := (lead_pre k9).1
      k_steps
      refine hold_mk ?_
      k_dflt (refine c_col w _ _ _ _ _ _ _ _ _ _ _ _ _ _ _ _ _ _ _ _ _ _ _ _ _ _ (by k_asm) (by k_asm) (by k_asm) (by k_asm) (by k_asm) (by first | rfl | assumption) (⟨by omega, by omega, by omega⟩) (by (try simp only [depth_under_make, depth_under_kw, depth_in1, depth_deeper, depth_caller]); show _ < _; (try dsimp only [ktrTop]); (first | exact lt_rm hdp rfl | exact lt_rm hun rfl | exact lt_rm0 hdp rfl | exact lt_rm0 hun rfl | exact lt_rmB hdp rfl | exact lt_rmB hun rfl | exact lt_rmC hdp rfl | exact lt_rmC hun rfl | omega)) (by (try simp only [units_under_make, units_under_kw, units_in1, units_deeper, units_caller]); show _ < _; (try dsimp only [ktrTop]); (first | exact lt_rm hdp rfl | exact lt_rm hun rfl | exact lt_rm0 hdp rfl | exact lt_rm0 hun rfl | exact lt_rmB hdp rfl | exact lt_rmB hun rfl | exact lt_rmC hdp rfl | exact lt_rmC hun rfl | omega)) ?_)
      intro t6 h6 tk6 F6 N6
      k_steps
    intro ys hy D h9 tk9 F9 N9 O9
    k_steps
    refine hold_mk ?_
    k_dflt (refine ne_same (ds := [Dat.int (col (lead a) (1 + (i1 : Int))), Dat.int (col (lead b) (1 + (i1 : Int)))]) (n₁ := []) (n₂ := []) (by k_asm) (by k_mem) rfl rfl (.cons (dat_int eX) (.cons (dat_int (by omega)) .nil)) (fun _ h => nomatch h) (by k_mem) rfl rfl (ints_dat hy) (fun _ h => nomatch h) two_ok ?_ ?_)
    · exact Nat.lt_of_lt_of_le (Nat.add_lt_add_right hun 64) (Nat.le_of_ble_eq_true rfl)
    k_steps
    rename Obj => oc9
    have hIL : @LT.lt Nat _ (L + 1 + 1) I1 := lI1 (_, _) (.head _)
    refine hold_mk ?_
    k_dflt (refine c_told w _ _ _ _ _ _ _ _ _ _ _ _ _ _ _ _ _ _ _ _ _ _ _ _ _ _ _ _ (by k_asm) (by k_asm) (by k_asm) (by k_asm) (by k_asm) (by first | rfl | assumption) (⟨by omega, by omega, by omega, by omega, bX2, by omega, by omega, hT9.sub (fun p hp => .tail _ (.tail _ (.tail _ (.tail _ (.tail _ (.tail _ (.tail _ (.tail _ (.tail _ (.tail _ (.tail _ (.tail _ (.tail _ (.tail _ (.tail _ (hp)))))))))))))))), tp1⟩) (by (try simp only [depth_under_make, depth_under_kw, depth_in1, depth_deeper, depth_caller]); show _ < _; (try dsimp only [ktrTop]); (first | exact lt_rm hdp rfl | exact lt_rm hun rfl | exact lt_rm0 hdp rfl | exact lt_rm0 hun rfl | exact lt_rmB hdp rfl | exact lt_rmB hun rfl | exact lt_rmC hdp rfl | exact lt_rmC hun rfl | omega)) (by (try simp only [units_under_make, units_under_kw, units_in1, units_deeper, units_caller]); show _ < _; (try dsimp only [ktrTop]); (first | exact lt_rm hdp rfl | exact lt_rm hun rfl | exact lt_rm0 hdp rfl | exact lt_rm0 hun rfl | exact lt_rmB hdp rfl | exact lt_rmB hun rfl | exact lt_rmC hdp rfl | exact lt_rmC hun rfl | omega)) ?_)
    intro t8 base1 h8 tk8 F8 N8 hT8 hk8
    have KEbase1 : ∀ p ∈ ((I1, it) :: (L + 1 + 1, oc9) :: (x0, instObj 83 d0) :: (d0, wsDict w (lead a) (wsOf a).2.2.1 (wsOf a).2.2.2 nT bs twx twn twnt wk1 wk2 wk3 wk4 wk5) :: (nT, tupO #[.ref cT, .int (wsOf a).2.1 twb]) :: (cT, tupO vs.toArray) :: (x0q, instObj 83 d0q) :: (d0q, wsDict w (lead b) (wsOf b).2.2.1 (wsOf b).2.2.2 nTq bsq twxq twnq twntq wk1q wk2q wk3q wk4q wk5q) :: (nTq, tupO #[.ref cTq, .int (wsOf b).2.1 twbq]) :: (cTq, tupO vsq.toArray) :: (D4, W.listOf #[.str (lead a) t1, .str (lead b) t2] kw) :: (89, tabObj ptf) :: (201, tabObj pt) :: [] : CbLed), p ∈ base1 := List.forall_mem_cons.mpr ⟨hk8 (I1, it) (by k_mem) (neN (by show @Ne Nat _ _; omega)) (neN (by show @Ne Nat _ _; omega)), List.forall_mem_cons.mpr ⟨hk8 (L + 1 + 1, oc9) (by k_mem) (neN (by show @Ne Nat _ _; omega)) (neN (by show @Ne Nat _ _; omega)), List.forall_mem_cons.mpr ⟨hk8 _ (by k_mem) (hFx _ (by k_mem)).2.1 (hFx _ (by k_mem)).2.2, List.forall_mem_cons.mpr ⟨hk8 _ (by k_mem) (hFx _ (by k_mem)).2.1 (hFx _ (by k_mem)).2.2, List.forall_mem_cons.mpr ⟨hk8 _ (by k_mem) (hFx _ (by k_mem)).2.1 (hFx _ (by k_mem)).2.2, List.forall_mem_cons.mpr ⟨hk8 _ (by k_mem) (hFx _ (by k_mem)).2.1 (hFx _ (by k_mem)).2.2, List.forall_mem_cons.mpr ⟨hk8 _ (by k_mem) (hFx _ (by k_mem)).2.1 (hFx _ (by k_mem)).2.2, List.forall_mem_cons.mpr ⟨hk8 _ (by k_mem) (hFx _ (by k_mem)).2.1 (hFx _ (by k_mem)).2.2, List.forall_mem_cons.mpr ⟨hk8 _ (by k_mem) (hFx _ (by k_mem)).2.1 (hFx _ (by k_mem)).2.2, List.forall_mem_cons.mpr ⟨hk8 _ (by k_mem) (hFx _ (by k_mem)).2.1 (hFx _ (by k_mem)).2.2, List.forall_mem_cons.mpr ⟨hk8 _ (by k_mem) (hFx _ (by k_mem)).2.1 (hFx _ (by k_mem)).2.2, List.forall_mem_cons.mpr ⟨hk8 _ (by k_mem) (hFx _ (by k_mem)).2.1 (hFx _ (by k_mem)).2.2, List.forall_mem_cons.mpr ⟨hk8 _ (by k_mem) (hFx _ (by k_mem)).2.1 (hFx _ (by k_mem)).2.2, fun _ h => nomatch h⟩⟩⟩⟩⟩⟩⟩⟩⟩⟩⟩⟩⟩
    replace N8 := cb_drop N8 (keep_app KEbase1)
    simp only [List.cons_append, List.nil_append] at N8
    k_steps
    refine hold_mk ?_
    k_dflt (refine c_told w _ _ _ _ _ _ _ _ _ _ _ _ _ _ _ _ _ _ _ _ _ _ _ _ _ _ _ _ (by k_asm) (by k_asm) (by k_asm) (by k_asm) (by k_asm) (by first | rfl | assumption) (⟨by omega, by omega, by omega, by omega, .inl (by omega), by omega, by omega, hT8.sub (fun p hp => .tail _ (.tail _ (.tail _ (.tail _ (.tail _ (.tail _ (.tail _ (.tail _ (.tail _ (.tail _ (.tail _ (.tail _ (.tail _ (hp)))))))))))))), tp2⟩) (by (try simp only [depth_under_make, depth_under_kw, depth_in1, depth_deeper, depth_caller]); show _ < _; (try dsimp only [ktrTop]); (first | exact lt_rm hdp rfl | exact lt_rm hun rfl | exact lt_rm0 hdp rfl | exact lt_rm0 hun rfl | exact lt_rmB hdp rfl | exact lt_rmB hun rfl | exact lt_rmC hdp rfl | exact lt_rmC hun rfl | omega)) (by (try simp only [units_under_make, units_under_kw, units_in1, units_deeper, units_caller]); show _ < _; (try dsimp only [ktrTop]); (first | exact lt_rm hdp rfl | exact lt_rm hun rfl | exact lt_rm0 hdp rfl | exact lt_rm0 hun rfl | exact lt_rmB hdp rfl | exact lt_rmB hun rfl | exact lt_rmC hdp rfl | exact lt_rmC hun rfl | omega)) ?_)
    intro t9 base2 h10 tk10 F10 N10 hT10 hk10
    have KEbase2 : ∀ p ∈ ((I1, it) :: (L + 1 + 1, oc9) :: (x0, instObj 83 d0) :: (d0, wsDict w (lead a) (wsOf a).2.2.1 (wsOf a).2.2.2 nT bs twx twn twnt wk1 wk2 wk3 wk4 wk5) :: (nT, tupO #[.ref cT, .int (wsOf a).2.1 twb]) :: (cT, tupO vs.toArray) :: (x0q, instObj 83 d0q) :: (d0q, wsDict w (lead b) (wsOf b).2.2.1 (wsOf b).2.2.2 nTq bsq twxq twnq twntq wk1q wk2q wk3q wk4q wk5q) :: (nTq, tupO #[.ref cTq, .int (wsOf b).2.1 twbq]) :: (cTq, tupO vsq.toArray) :: (D4, W.listOf #[.str (lead a) t1, .str (lead b) t2] kw) :: (89, tabObj ptf) :: (201, tabObj pt) :: [] : CbLed), p ∈ base2 := List.forall_mem_cons.mpr ⟨hk10 (I1, it) (by k_mem) (neN (by show @Ne Nat _ _; omega)) (neN (by show @Ne Nat _ _; omega)), List.forall_mem_cons.mpr ⟨hk10 (L + 1 + 1, oc9) (by k_mem) (neN (by show @Ne Nat _ _; omega)) (neN (by show @Ne Nat _ _; omega)), List.forall_mem_cons.mpr ⟨hk10 _ (by k_mem) (hFx _ (by k_mem)).2.1 (hFx _ (by k_mem)).2.2, List.forall_mem_cons.mpr ⟨hk10 _ (by k_mem) (hFx _ (by k_mem)).2.1 (hFx _ (by k_mem)).2.2, List.forall_mem_cons.mpr ⟨hk10 _ (by k_mem) (hFx _ (by k_mem)).2.1 (hFx _ (by k_mem)).2.2, List.forall_mem_cons.mpr ⟨hk10 _ (by k_mem) (hFx _ (by k_mem)).2.1 (hFx _ (by k_mem)).2.2, List.forall_mem_cons.mpr ⟨hk10 _ (by k_mem) (hFx _ (by k_mem)).2.1 (hFx _ (by k_mem)).2.2, List.forall_mem_cons.mpr ⟨hk10 _ (by k_mem) (hFx _ (by k_mem)).2.1 (hFx _ (by k_mem)).2.2, List.forall_mem_cons.mpr ⟨hk10 _ (by k_mem) (hFx _ (by k_mem)).2.1 (hFx _ (by k_mem)).2.2, List.forall_mem_cons.mpr ⟨hk10 _ (by k_mem) (hFx _ (by k_mem)).2.1 (hFx _ (by k_mem)).2.2, List.forall_mem_cons.mpr ⟨hk10 _ (by k_mem) (hFx _ (by k_mem)).2.1 (hFx _ (by k_mem)).2.2, List.forall_mem_cons.mpr ⟨hk10 _ (by k_mem) (hFx _ (by k_mem)).2.1 (hFx _ (by k_mem)).2.2, List.forall_mem_cons.mpr ⟨hk10 _ (by k_mem) (hFx _ (by k_mem)).2.1 (hFx _ (by k_mem)).2.2, fun _ h => nomatch h⟩⟩⟩⟩⟩⟩⟩⟩⟩⟩⟩⟩⟩
    replace N10 := cb_drop N10 (keep_app KEbase2)
    simp only [List.cons_append, List.nil_append] at N10
    k_steps
    refine hold_mk ?_
    k_dflt (refine c_rank w _ r1 _ _ _ _ _ _ _ _ _ _ _ _ _ _ _ _ _ _ _ _ _ _ _ _ _ _ _ (by k_asm) (by k_asm) (by k_asm) (by k_asm) (by k_asm) (by first | rfl | assumption) (⟨by omega, by omega, by omega, by omega, by omega, by omega, rk1⟩) (by (try simp only [depth_under_make, depth_under_kw, depth_in1, depth_deeper, depth_caller]); show _ < _; (try dsimp only [ktrTop]); (first | exact lt_rm hdp rfl | exact lt_rm hun rfl | exact lt_rm0 hdp rfl | exact lt_rm0 hun rfl | exact lt_rmB hdp rfl | exact lt_rmB hun rfl | exact lt_rmC hdp rfl | exact lt_rmC hun rfl | omega)) (by (try simp only [units_under_make, units_under_kw, units_in1, units_deeper, units_caller]); show _ < _; (try dsimp only [ktrTop]); (first | exact lt_rm hdp rfl | exact lt_rm hun rfl | exact lt_rm0 hdp rfl | exact lt_rm0 hun rfl | exact lt_rmB hdp rfl | exact lt_rmB hun rfl | exact lt_rmC hdp rfl | exact lt_rmC hun rfl | omega)) ?_)
    intro t1r h11 tk11 F11 N11
    k_steps
    refine hold_mk ?_
    k_dflt (refine PyProof.Rows.ne_fi ?_)
    rw [c1]
    k_steps
    refine hold_mk ?_
    k_dflt (refine c_rank w _ r2 _ _ _ _ _ _ _ _ _ _ _ _ _ _ _ _ _ _ _ _ _ _ _ _ _ _ _ (by k_asm) (by k_asm) (by k_asm) (by k_asm) (by k_asm) (by first | rfl | assumption) (⟨by omega, by omega, by omega, by omega, by omega, by omega, rk2⟩) (by (try simp only [depth_under_make, depth_under_kw, depth_in1, depth_deeper, depth_caller]); show _ < _; (try dsimp only [ktrTop]); (first | exact lt_rm hdp rfl | exact lt_rm hun rfl | exact lt_rm0 hdp rfl | exact lt_rm0 hun rfl | exact lt_rmB hdp rfl | exact lt_rmB hun rfl | exact lt_rmC hdp rfl | exact lt_rmC hun rfl | omega)) (by (try simp only [units_under_make, units_under_kw, units_in1, units_deeper, units_caller]); show _ < _; (try dsimp only [ktrTop]); (first | exact lt_rm hdp rfl | exact lt_rm hun rfl | exact lt_rm0 hdp rfl | exact lt_rm0 hun rfl | exact lt_rmB hdp rfl | exact lt_rmB hun rfl | exact lt_rmC hdp rfl | exact lt_rmC hun rfl | omega)) ?_)
    intro t2r h11 tk11 F11 N11
    k_steps
    refine hold_mk ?_
    k_dflt (refine PyProof.Rows.ne_fi ?_)
    rw [c2]
    k_steps
    refine hold_mk ?_
    k_dflt (refine PyProof.Rows.ne_fi ?_)
    rw [c3]
    k_steps
    exact law_end (fix := (x0, instObj 83 d0) :: (d0, wsDict w (lead a) (wsOf a).2.2.1 (wsOf a).2.2.2 nT bs twx twn twnt wk1 wk2 wk3 wk4 wk5) :: (nT, tupO #[.ref cT, .int (wsOf a).2.1 twb]) :: (cT, tupO vs.toArray) :: (x0q, instObj 83 d0q) :: (d0q, wsDict w (lead b) (wsOf b).2.2.1 (wsOf b).2.2.2 nTq bsq twxq twnq twntq wk1q wk2q wk3q wk4q wk5q) :: (nTq, tupO #[.ref cTq, .int (wsOf b).2.1 twbq]) :: (cTq, tupO vsq.toArray) :: (D4, W.listOf #[.str (lead a) t1, .str (lead b) t2] kw) :: (89, tabObj ptf) :: (201, tabObj pt) :: []) (c := L + 1 + 1) (oc := oc9) (by k_asm) (by k_asm) (by k_mem) (by k_mem) hcI hitF (by assumption) (List.forall_mem_cons.mpr ⟨⟨by k_mem, (hFx _ (by k_mem)).1, ho2 _ (hs _ (by k_mem))⟩, List.forall_mem_cons.mpr ⟨⟨by k_mem, (hFx _ (by k_mem)).1, ho2 _ (hs _ (by k_mem))⟩, List.forall_mem_cons.mpr ⟨⟨by k_mem, (hFx _ (by k_mem)).1, ho2 _ (hs _ (by k_mem))⟩, List.forall_mem_cons.mpr ⟨⟨by k_mem, (hFx _ (by k_mem)).1, ho2 _ (hs _ (by k_mem))⟩, List.forall_mem_cons.mpr ⟨⟨by k_mem, (hFx _ (by k_mem)).1, ho2 _ (hs _ (by k_mem))⟩, List.forall_mem_cons.mpr ⟨⟨by k_mem, (hFx _ (by k_mem)).1, ho2 _ (hs _ (by k_mem))⟩, List.forall_mem_cons.mpr ⟨⟨by k_mem, (hFx _ (by k_mem)).1, ho2 _ (hs _ (by k_mem))⟩, List.forall_mem_cons.mpr ⟨⟨by k_mem, (hFx _ (by k_mem)).1, ho2 _ (hs _ (by k_mem))⟩, List.forall_mem_cons.mpr ⟨⟨by k_mem, (hFx _ (by k_mem)).1, ho2 _ (hs _ (by k_mem))⟩, List.forall_mem_cons.mpr ⟨⟨by k_mem, (hFx _ (by k_mem)).1, ho2 _ (hs _ (by k_mem))⟩, List.forall_mem_cons.mpr ⟨⟨by k_mem, (hFx _ (by k_mem)).1, ho2 _ (hs _ (by k_mem))⟩, fun _ h => nomatch h⟩⟩⟩⟩⟩⟩⟩⟩⟩⟩⟩) (hT10.sub (fun p hp => .tail _ (.tail _ (.tail _ (.tail _ (.tail _ (.tail _ (.tail _ (.tail _ (.tail _ (.tail _ (.tail _ (.tail _ (.tail _ (hp))))))))))))))) ⟨neN (by show @Ne Nat _ _; omega), neN (by show @Ne Nat _ _; omega), neN (by show @Ne Nat _ _; omega), neN (by show @Ne Nat _ _; omega)⟩ (fun rest9 q1 q2 q3 q4 => JL_mk (by assumption) q1 q2 q3 q4 (by with_unfolding_all exact hm1) (by with_unfolding_all exact hm2) (by with_unfolding_all exact hm3))
  · intro m1 n1 h1 tk1 hJ F1 N1
    revert N1
    refine hJ (fun nn => News _ _ _ nn → _) ?_
    clear hJ
    intro oc qc rest hdc hs hT9 ho1 ho2 hm1 hm2 hm3 N1
    k_steps
    refine hret _ _ _ _ hG (by k_asm) (GrownAt.of N1 (.tail _ (hs _ (by k_mem)))) (tab_grown hT9.1 (cb_drop N1 (fun _ h => .tail _ h))) (tab_grown hT9.2 (cb_drop N1 (fun _ h => .tail _ h))) (GrownAt.of N1 (.tail _ (hs _ (by k_mem))))
theorem wsOf_eq (c : Int) : wsF (lead c).cps.toList ([], 0, 0, 0) = wsOf c := rfl
theorem wsT_eq (c : Int) : wsF (leadT c).cps.toList ([], 0, 0, 0) = wsT c := rfl
theorem dat3_ok {ns : List I3} : ∀ d ∈ ns.map dat3, kqdOk 8 d = true := by
  intro d hd
  obtain ⟨r, _, rfl⟩ := List.mem_map.mp hd
  simp [kqdOk]
def rowTx (r : I3) : Str := toString r.1
theorem news_ins {h₀ h : Heap} {L : Addr} {x1 x2 x3 p : Addr × Obj} {l : CbLed} (N : News h₀ L h (x1 :: x2 :: x3 :: l)) (hp : p ∈ x1 :: x2 :: x3 :: l) : News h₀ L h (x1 :: x2 :: x3 :: p :: l) := fun q hq => by
  simp only [List.mem_cons] at hq
  rcases hq with rfl | rfl | rfl | rfl | hq
  · exact N _ (.head _)
  · exact N _ (.tail _ (.head _))
  · exact N _ (.tail _ (.tail _ (.head _)))
  · exact N _ hp
  · exact N _ (.tail _ (.tail _ (.tail _ hq)))
theorem fwTs_eq (ns : List I3) : fwTs ns = ns.map rowTx := by
  unfold fwTs
  refine List.ext_getElem? fun i => ?_
  rw [List.getElem?_map, List.getElem?_map]
  by_cases h : i < ns.length
  · rw [List.getElem?_range h, List.getElem?_eq_getElem h]
    simp only [Option.map_some]
    rw [fwTx_at (List.getElem?_eq_getElem h)]
    rfl
  · rw [List.getElem?_eq_none (by simpa using h), List.getElem?_eq_none (by simpa using h)]
    rfl
theorem rows_ok {ns : List I3} (hbd : ∀ r ∈ ns, 0 ≤ r.1 ∧ r.1 < 100) (hl : ns.length ≤ 100) : ((ns.map rowTx).map (·.length)).sum + (ns.map rowTx).length * (Str.ofString ", ").length ≤ 16777216 := by
  rw [← fwTs_eq]
  have e : (fwTs ns).length = ns.length := by simp [fwTs]
  have h2 := sum_le2 (l := (fwTs ns).map (·.length)) fun y hy => by
    obtain ⟨z, hz, rfl⟩ := List.mem_map.mp hy
    exact fw_tx hbd z hz
  rw [List.length_map] at h2
  rw [e] at h2 ⊢
  rw [show (Str.ofString ", ").length = 2 from by decide +kernel]
  omega
theorem ne_str_same {prog : Program} {w : World} {A : Around} {E : Value → Shared → Prop} {s : Shared} {x y : Str} {t u : Tok} {Q : Value → Shared → Prop} (e : x = y) (h : Q (.bool false) s) : wpAny (model prog w) A (compareOp .NotEq (.str x t) (.str y u)) Q E s := by
  refine PyProof.Rows.ne_str ?_
  rw [e, bne_self_eq_false]
  exact h
theorem fwT_many {ns : List I3} (h : 1 < ns.length) : fwT ns = Str.ofString "at tab sizes " ++ Txt.join (Str.ofString ", ") (ns.map rowTx) := by
  unfold fwT fwJoin
  rw [if_pos h, fwTs_eq, show Str.ofString "at tab sizes" ++ Str.ofString " " = Str.ofString "at tab sizes " from by decide +kernel]
theorem fwT_few {ns : List I3} (h : ¬ 1 < ns.length) : fwT ns = Str.ofString "at tab size " ++ Txt.join (Str.ofString ", ") (ns.map rowTx) := by
  unfold fwT fwJoin
  rw [if_neg h, fwTs_eq, show Str.ofString "at tab size" ++ Str.ofString " " = Str.ofString "at tab size " from by decide +kernel]
theorem perm12 {a1 a2 a3 a4 b1 b2 b3 b4 c1 c2 c3 c4 : Addr × Obj} {l : CbLed} : ∀ q ∈ a1 :: a2 :: a3 :: a4 :: c1 :: c2 :: c3 :: c4 :: b1 :: b2 :: b3 :: b4 :: l, q ∈ c1 :: c2 :: c3 :: c4 :: b1 :: b2 :: b3 :: b4 :: a1 :: a2 :: a3 :: a4 :: l := swapL [a1, a2, a3, a4] [c1, c2, c3, c4, b1, b2, b3, b4]
theorem sub_led {D : Addr × Obj} {l m b : CbLed} (h : ∀ p ∈ l, p ∈ b) (hm : ∀ p ∈ m, p ∈ l) : ∀ p ∈ D :: (m ++ b), p ∈ D :: b := by
  intro p hp
  rcases List.mem_cons.mp hp with rfl | hp
  · exact .head _
  · rcases List.mem_append.mp hp with hp | hp
    · exact .tail _ (h p (hm p hp))
    · exact .tail _ hp
theorem dat_off {h₀ h : Heap} {L P : Addr} {o : Obj} {bl : CbLed} (N : News h₀ L h bl) (hP : (P, o) ∈ bl) (hc : o.cls ≠ .type "tuple") {ns : List I3} : ∀ {vs : List Value}, DatAll bl vs (ns.map dat3) → DatAll (bl.filter fun p => p.1 != P) vs (ns.map dat3) := by
  induction ns with
  | nil =>
    intro vs h
    rw [da_nil h]
    exact .nil
  | cons r ns ih =>
    intro vs h
    obtain ⟨v, vs', e, hd, hr⟩ := da_cons h
    obtain ⟨T, t1, t2, t3, k, e2, hm⟩ := dat3_inv hd
    rw [e, e2]
    refine .cons (.tuple (vs := [_, _, _]) (List.mem_filter.mpr ⟨hm, bne_iff_ne.mpr fun q => hc ?_⟩) (.cons (.int _ _) (.cons (.int _ _) (.cons (.int _ _) .nil)))) (ih hr)
    have e1 := (N _ hm).1
    have e2 := (N _ hP).1
    dsimp only at e1 e2 q
    rw [q, e2] at e1
    rw [Option.some.inj e1]
theorem law2 (w : World) (a b : Int) (D4 : Addr) (t1 t2 : CbTok) (kw : Nat) (o2 : Obj) (pt : Array Value) : ∀ (loose : List Str) (mean : ExcName → Option Value) (mg mb : Frm) (dp un : Nat) (gd : Option (List Code)) (outer : List Env) (A₀ : Around) (base g : Heap) (L : Addr) (m0 : Frm) (s : Shared) (Q : Flow → Shared → Prop) (E : Value → Shared → Prop), Below A₀ base outer g → Fr g L s.heap m0 → (MyK w).In g → Top topProg loose mean mg mb g → AllBare s.gens → dp < 800 → un < 4800 → @LT.lt Nat _ 89 L → @LT.lt Nat _ 110 L → @LT.lt Nat _ 117 L → @LT.lt Nat _ 201 L → RetLw g L s Q → PassesOwn (model MyProg w) (lwA dp un gd L outer) (lwEnv L) E →
    News g L s.heap ((D4, W.listOf #[.str (lead a) t1, .str (lead b) t2] kw) :: (L + 1 + 1, o2) :: (89, tabObj #[]) :: (201, tabObj pt) :: (110, tabObj #[]) :: (117, tabObj #[]) :: []) → o2.data = .cell none → m0 (Str.ofString "words") = some (.ref D4) →
    (L + 1 + 1 ≠ D4 ∧ 89 ≠ D4 ∧ 201 ≠ D4 ∧ 110 ≠ D4 ∧ 117 ≠ D4) →
    wpAny (model MyProg w) (lwA dp un gd L outer) (execs lawRest2 (lwEnv L)) Q E s := by
  dsimp only [MyProg, MyK]
  k_fill
  k_with_none
  k_with "my room" => ((try simp only [depth_under_make, depth_under_kw, depth_in1, depth_deeper, depth_caller]); show _ < 1000; (try dsimp only [ktrTop]); (first | exact lt_rm hdp rfl | exact lt_rm hun rfl | exact lt_rm0 hdp rfl | exact lt_rm0 hun rfl | exact lt_rmB hdp rfl | exact lt_rmB hun rfl | exact lt_rmC hdp rfl | exact lt_rmC hun rfl | omega))
  k_with "my all" => (first | assumption | (refine tnAll (by assumption) ?_; omega) | (refine tnAll2 (by assumption) ?_; omega))
  k_with "my ne" => (first | (with_reducible assumption) | exact Ne.symm (by with_reducible assumption))
  k_with "enter" => (refine wpAny_call ?_; k_dflt (first
    | cell_enter
    | (refine' code_defC ?k1 ?k2 ?k3 ?k4 ?k5 ?kA ?kF ?kK ?k6 ?k7 ?k8 ?k9 ?kB ?kD ?_ ?c2 ?c3 ?c4; (case kA => exact rfl); (case kF => exact rfl); (case kK => assumption); (case k1 => k_asm); (case k2 => k_asm); (case k3 => k_asm); (case k4 => k_asm); (case k5 => k_asm); (case k6 => k_is); (case k7 => k_is); (case k8 => k_room); (case k9 => exact BindsTo.of_eq rfl); (case kB => exact rfl); (case kD => decide +kernel); (case c2 => exact rfl); (case c3 => exact rfl); (case c4 => exact rfl); k_whole; intro g' L' h' tk' cells' FG' F' N' Y' B' X' T' l1; (try k_lt l1); k_cells Y'; (try simp only [List.cons_append, List.nil_append] at N'); (try dsimp only); (try k_lift B'); (try k_fold))))
  k_with "my call ref" => (refine hold ?_)
  k_with "my eval Name" => (k_here; k_dflt (refine nameX_L (by k_asm) (by with_unfolding_all exact hm1) ?_ (by rfl) (by rfl)))
  k_with "my binaryOp Add str str" => (refine hold ?_)
  k_with "my call type:str" => (k_here; k_dflt (refine P.str_of_int (shown (N := 2 ^ 1920) (by omega) (by omega) (Int.le_refl _)) ?_))
  k_with "my CompEnd" => (k_here; k_dflt (refine LCg.CompEnd.intro (by assumption) N9 _ (fun _ h => h) off9 (by lcg_src) ?_); k_dflt (exact kct_el rfl rfl rfl))
  k_with "my call builtin:str.join" => (refine hold ?_)
  k_with "my call builtin:len" => (k_here; k_dflt (refine fw_len (n := ns.length) (by k_asm) (by k_mem) (hA2.length.trans (List.length_map ..)) hnl ?_))
  k_with "my compareOp NotEq str str" => (refine hold ?_)
  k_with "my compareOp NotEq ref ref" => (refine hold ?_)
  k_with "my eval ListComp" => (k_here; k_dflt (refine LCg.ListComp_U (by k_asm) (by with_unfolding_all rfl) (by decide) (by rfl) (by decide) (by rfl) ?_))
  k_with "my CompRest" => (refine hold ?_)
  k_with "my CompSrc" => (refine hold ?_)
  k_with "my CompSrcT" => (refine hold ?_)
  k_with "my execs cons" => ((with_reducible show wpAny _ _ (execs (Stmt.For _ _ _ _ _ :: _) _) _ _ _); refine hold ?_)
  k_with "my ne" => (first | (with_reducible assumption) | exact Ne.symm (by with_reducible assumption)  | exact neN (by show @Ne Nat _ _; omega))
  intro loose mean mg mb dp un gd outer A₀ base g L m0 s Q E hB hF hX hT hG hdp hun l89 l110 l117 l201 hret hPE hN hd2 hm1 hD4
  obtain ⟨g1, g2, g3, g4, g5⟩ := hD4
  dsimp only [lwA, lwEnv, lawScope, lawRest2]
  k_steps
  obtain ⟨M, ns, hM, hdu, hwi, hnl, hnb⟩ := plain2 a b
  refine hold_mk ?_
  k_dflt (refine c_ws w _ (lead a) _ _ _ _ _ _ _ _ _ _ _ _ _ _ _ _ _ _ _ _ _ _ (by k_asm) (by k_asm) (by k_asm) (by k_asm) (by k_asm) (by first | rfl | assumption) (⟨by have := (lead_pre a).1; omega, (lead_pre a).2⟩) (by (try simp only [depth_under_make, depth_under_kw, depth_in1, depth_deeper, depth_caller]); show _ < _; (try dsimp only [ktrTop]); (first | exact lt_rm hdp rfl | exact lt_rm hun rfl | exact lt_rm0 hdp rfl | exact lt_rm0 hun rfl | exact lt_rmB hdp rfl | exact lt_rmB hun rfl | exact lt_rmC hdp rfl | exact lt_rmC hun rfl | omega)) (by (try simp only [units_under_make, units_under_kw, units_in1, units_deeper, units_caller]); show _ < _; (try dsimp only [ktrTop]); (first | exact lt_rm hdp rfl | exact lt_rm hun rfl | exact lt_rm0 hdp rfl | exact lt_rm0 hun rfl | exact lt_rmB hdp rfl | exact lt_rmB hun rfl | exact lt_rmC hdp rfl | exact lt_rmC hun rfl | omega)) ?_)
  intro x0 d0 nT cT vs bs twx twb twn twnt wk1 wk2 wk3 wk4 wk5 h6 tk6 hw1 hw2 hw3 hw4 F6 N6 hI
  rw [wsOf_eq a] at N6 hI
  k_steps
  refine hold_mk ?_
  k_dflt (refine c_ws w _ (lead b) _ _ _ _ _ _ _ _ _ _ _ _ _ _ _ _ _ _ _ _ _ _ (by k_asm) (by k_asm) (by k_asm) (by k_asm) (by k_asm) (by first | rfl | assumption) (⟨by have := (lead_pre b).1; omega, (lead_pre b).2⟩) (by (try simp only [depth_under_make, depth_under_kw, depth_in1, depth_deeper, depth_caller]); show _ < _; (try dsimp only [ktrTop]); (first | exact lt_rm hdp rfl | exact lt_rm hun rfl | exact lt_rm0 hdp rfl | exact lt_rm0 hun rfl | exact lt_rmB hdp rfl | exact lt_rmB hun rfl | exact lt_rmC hdp rfl | exact lt_rmC hun rfl | omega)) (by (try simp only [units_under_make, units_under_kw, units_in1, units_deeper, units_caller]); show _ < _; (try dsimp only [ktrTop]); (first | exact lt_rm hdp rfl | exact lt_rm hun rfl | exact lt_rm0 hdp rfl | exact lt_rm0 hun rfl | exact lt_rmB hdp rfl | exact lt_rmB hun rfl | exact lt_rmC hdp rfl | exact lt_rmC hun rfl | omega)) ?_)
  intro x0q d0q nTq cTq vsq bsq twxq twbq twnq twntq wk1q wk2q wk3q wk4q wk5q h6 tk6 hw1q hw2q hw3q hw4q F6 N6 hIq
  rw [wsOf_eq b] at N6 hIq
  k_steps
  refine hold_mk ?_
  k_dflt (refine PyProof.Rows.add_str ?_ (le_size (leadT_len b) rfl))
  intro t9 tk9
  k_steps
  refine hold_mk ?_
  k_dflt (refine c_ws w _ (leadT b) _ _ _ _ _ _ _ _ _ _ _ _ _ _ _ _ _ _ _ _ _ _ (by k_asm) (by k_asm) (by k_asm) (by k_asm) (by k_asm) (by first | rfl | assumption) (leadT_pre b) (by (try simp only [depth_under_make, depth_under_kw, depth_in1, depth_deeper, depth_caller]); show _ < _; (try dsimp only [ktrTop]); (first | exact lt_rm hdp rfl | exact lt_rm hun rfl | exact lt_rm0 hdp rfl | exact lt_rm0 hun rfl | exact lt_rmB hdp rfl | exact lt_rmB hun rfl | exact lt_rmC hdp rfl | exact lt_rmC hun rfl | omega)) (by (try simp only [units_under_make, units_under_kw, units_in1, units_deeper, units_caller]); show _ < _; (try dsimp only [ktrTop]); (first | exact lt_rm hdp rfl | exact lt_rm hun rfl | exact lt_rm0 hdp rfl | exact lt_rm0 hun rfl | exact lt_rmB hdp rfl | exact lt_rmB hun rfl | exact lt_rmC hdp rfl | exact lt_rmC hun rfl | omega)) ?_)
  intro x0r d0r nTr cTr vsr bsr twxr twbr twnr twntr wk1r wk2r wk3r wk4r wk5r h6 tk6 hw1r hw2r hw3r hw4r F6 N6 hIr
  rw [wsT_eq b] at N6 hIr
  k_steps
  refine hold_mk ?_
  k_dflt (refine c_nlw w x0 d0 nT cT vs bs (lead a) (wsOf a) twx twb twn twnt wk1 wk2 wk3 wk4 wk5 x0r d0r nTr cTr vsr bsr (leadT b) (wsT b) twxr twbr twnr twntr wk1r wk2r wk3r wk4r wk5r _ _ _ _ _ _ _ _ _ _ _ _ _ _ _ _ _ _ _ _ _ _ (by k_asm) (by k_asm) (by k_asm) (cb_drop (by k_asm) perm12) (by k_asm) (by first | rfl | assumption) (⟨pre_of3 (wsOf_bd a) hI, pre_of3 (wsT_bd b) hIr⟩) (by (try simp only [depth_under_make, depth_under_kw, depth_in1, depth_deeper, depth_caller]); show _ < _; (try dsimp only [ktrTop]); (first | exact lt_rm hdp rfl | exact lt_rm hun rfl | exact lt_rm0 hdp rfl | exact lt_rm0 hun rfl | exact lt_rmB hdp rfl | exact lt_rmB hun rfl | exact lt_rmC hdp rfl | exact lt_rmC hun rfl | omega)) (by (try simp only [units_under_make, units_under_kw, units_in1, units_deeper, units_caller]); show _ < _; (try dsimp only [ktrTop]); (first | exact lt_rm hdp rfl | exact lt_rm hun rfl | exact lt_rm0 hdp rfl | exact lt_rm0 hun rfl | exact lt_rmB hdp rfl | exact lt_rmB hun rfl | exact lt_rmC hdp rfl | exact lt_rmC hun rfl | omega)) ?_)
  intro D1 vs1 kd1 base1 h6 tk6 F6 N6 hA1 hs1 hd1
  replace N6 := cb_drop N6 (sub_led hs1 (fun _ h => h))
  simp only [List.cons_append, List.nil_append] at N6
  k_steps
  refine hold_mk ?_
  k_dflt (refine c_pay w _ (lead a) (lead b) _ _ M _ _ _ _ _ _ _ _ _ _ _ _ _ _ _ _ _ _ _ _ _ (by k_asm) (by k_asm) (by k_asm) (by k_asm) (by k_asm) (by first | rfl | assumption) (⟨by have := (lead_pre a).1; omega, by have := (lead_pre b).1; omega, hM⟩) (by (try simp only [depth_under_make, depth_under_kw, depth_in1, depth_deeper, depth_caller]); show _ < _; (try dsimp only [ktrTop]); (first | exact lt_rm hdp rfl | exact lt_rm hun rfl | exact lt_rm0 hdp rfl | exact lt_rm0 hun rfl | exact lt_rmB hdp rfl | exact lt_rmB hun rfl | exact lt_rmC hdp rfl | exact lt_rmC hun rfl | omega)) (by (try simp only [units_under_make, units_under_kw, units_in1, units_deeper, units_caller]); show _ < _; (try dsimp only [ktrTop]); (first | exact lt_rm hdp rfl | exact lt_rm hun rfl | exact lt_rm0 hdp rfl | exact lt_rm0 hun rfl | exact lt_rmB hdp rfl | exact lt_rmB hun rfl | exact lt_rmC hdp rfl | exact lt_rmC hun rfl | omega)) ?_)
  intro D2 vs2 kd2 base2 h6 tk6 F6 N6 hA2 hs2 hd2b
  rw [hdu] at hA2
  rw [hwi] at hA1
  replace N6 := cb_drop N6 (sub_led hs2 (fun _ h => h))
  simp only [List.cons_append, List.nil_append] at N6
  k_steps
  refine hold_mk ?_
  k_dflt (refine ne_same (ds := ns.map dat3) (by k_asm) (by k_mem) rfl rfl hA1 (fun p hp => .tail _ (.tail _ (.tail _ (.tail _ (.tail _ (.tail _ (.tail _ (.tail _ (.tail _ (.tail _ (.tail _ (.tail _ (.tail _ (.tail _ (.tail _ (.tail _ (.tail _ (.tail _ (.tail _ (.tail _ (List.mem_append_left _ hp))))))))))))))))))))) (by k_mem) rfl rfl hA2 (fun p hp => .tail _ (.tail _ (.tail _ (.tail _ (.tail _ (.tail _ (.tail _ (.tail _ (.tail _ (.tail _ (.tail _ (.tail _ (.tail _ (.tail _ (.tail _ (.tail _ (.tail _ (.tail _ (.tail _ (.tail _ (List.mem_append_right _ hp))))))))))))))))))))) dat3_ok ?_ ?_)
  · exact Nat.lt_of_lt_of_le (Nat.add_lt_add_right hun 64) (Nat.le_of_ble_eq_true rfl)
  k_steps
  refine hold_mk ?_
  k_dflt (refine LCg.CompSrc.ledger (by rfl) (by k_asm) (by k_asm) (by k_mem) (le_size (k := 100) (by rw [List.size_toArray, hA2.length, List.length_map]; exact hnl) rfl) ?_)
  intro g9
  refine rest_strs ns rowTx (by rw [List.size_toArray, hA2.length, List.length_map]) ?turn ?_
  case turn =>
    intro i k9 v I oI C oC D m2 ys h8 tk8 E8 hk9 hv9 hC9 hx9 F9 N9 off9 ne9
    obtain ⟨r, T, u1, u2, u3, k3, hr, rfl, hT3⟩ := dat3_at hA2 (show vs2[i]? = some v by simpa using hv9)
    obtain rfl : r = k9 := Option.some.inj (hr.symm.trans hk9)
    have N9b := news_ins N9 (.tail _ (.tail _ (.tail _ (.tail _ (.tail _ (.tail _ (.tail _ (.tail _ (.tail _ (.tail _ (.tail _ (.tail _ (.tail _ (.tail _ (.tail _ (.tail _ (.tail _ (.tail _ (.tail _ (.tail _ (.tail _ (.tail _ (.tail _ (List.mem_append_right _ hT3))))))))))))))))))))))))
    have hb0 := hnb r (List.mem_of_getElem? hr)
    k_steps
  intro ys hy D3 h9 tk9 F9 N9 O9
  k_steps
  refine hold_mk ?_
  k_dflt (refine PyProof.Rows.join_list (D := D3) (items := ys.toArray) (ys := ns.map rowTx) ⟨_, (N9 _ (.head _)).1, rfl, _, rfl⟩ hy (rows_ok hnb hnl) ?_)
  intro t7 k7
  k_steps
  rename News _ _ _ _ => N6
  have H89 : @LT.lt Nat _ 89 d0 := kst_ltOf hw4 (89, tabObj #[]) (by k_mem)
  have H89q : @LT.lt Nat _ 89 d0q := kst_ltOf hw4q (89, tabObj #[]) (by k_mem)
  have H110 : @LT.lt Nat _ 110 d0 := kst_ltOf hw4 (110, tabObj #[]) (by k_mem)
  have H110q : @LT.lt Nat _ 110 d0q := kst_ltOf hw4q (110, tabObj #[]) (by k_mem)
  have H117 : @LT.lt Nat _ 117 d0 := kst_ltOf hw4 (117, tabObj #[]) (by k_mem)
  have H117q : @LT.lt Nat _ 117 d0q := kst_ltOf hw4q (117, tabObj #[]) (by k_mem)
  have HL : @LT.lt Nat _ (L + 1 + 1) d0 := kst_ltOf hw4 (L + 1 + 1, o2) (by k_mem)
  have HLq : @LT.lt Nat _ (L + 1 + 1) d0q := kst_ltOf hw4q (L + 1 + 1, o2) (by k_mem)
  have hm89 : (89, tabObj #[]) ∈ base1 := hs1 _ (by k_mem)
  have hNb : News _ _ _ base1 := cb_drop N6 (fun p hp => .tail _ (.tail _ (.tail _ (.tail _ (.tail _ (.tail _ (.tail _ (.tail _ (.tail _ (.tail _ (.tail _ (.tail _ (.tail _ (.tail _ (.tail _ (.tail _ (.tail _ (.tail _ (.tail _ (.tail _ (.tail _ (List.mem_append_left _ hp))))))))))))))))))))))
  have hdf := dat_off hNb hm89 (by decide) hA1
  have hN89 : News _ _ _ ((89, tabObj #[]) :: (D1, W.listOf vs1.toArray kd1) :: (D2, W.listOf vs2.toArray kd2) :: (x0, instObj 83 d0) :: (d0, wsDict w (lead a) (wsOf a).2.2.1 (wsOf a).2.2.2 nT bs twx twn twnt wk1 wk2 wk3 wk4 wk5) :: (nT, tupO #[.ref cT, .int (wsOf a).2.1 twb]) :: (cT, tupO vs.toArray) :: (x0q, instObj 83 d0q) :: (d0q, wsDict w (lead b) (wsOf b).2.2.1 (wsOf b).2.2.2 nTq bsq twxq twnq twntq wk1q wk2q wk3q wk4q wk5q) :: (nTq, tupO #[.ref cTq, .int (wsOf b).2.1 twbq]) :: (cTq, tupO vsq.toArray) :: (D4, W.listOf #[.str (lead a) t1, .str (lead b) t2] kw) :: (L + 1 + 1, o2) :: (201, tabObj pt) :: (110, tabObj #[]) :: (117, tabObj #[]) :: base1.filter (fun p => p.1 != 89)) := List.forall_mem_cons.mpr ⟨N6 _ (by k_mem), List.forall_mem_cons.mpr ⟨N6 _ (by k_mem), List.forall_mem_cons.mpr ⟨N6 _ (by k_mem), List.forall_mem_cons.mpr ⟨N6 _ (by k_mem), List.forall_mem_cons.mpr ⟨N6 _ (by k_mem), List.forall_mem_cons.mpr ⟨N6 _ (by k_mem), List.forall_mem_cons.mpr ⟨N6 _ (by k_mem), List.forall_mem_cons.mpr ⟨N6 _ (by k_mem), List.forall_mem_cons.mpr ⟨N6 _ (by k_mem), List.forall_mem_cons.mpr ⟨N6 _ (by k_mem), List.forall_mem_cons.mpr ⟨N6 _ (by k_mem), List.forall_mem_cons.mpr ⟨N6 _ (by k_mem), List.forall_mem_cons.mpr ⟨N6 _ (by k_mem), List.forall_mem_cons.mpr ⟨N6 _ (by k_mem), List.forall_mem_cons.mpr ⟨N6 _ (by k_mem), List.forall_mem_cons.mpr ⟨N6 _ (by k_mem), fun p hp => hNb p (List.mem_filter.mp hp).1⟩⟩⟩⟩⟩⟩⟩⟩⟩⟩⟩⟩⟩⟩⟩⟩
  refine hold_mk ?_
  k_dflt (refine c_fw w D1 vs1 kd1 _ ns _ _ _ _ _ _ _ _ _ _ _ _ _ _ _ _ _ _ _ _ _ (by k_asm) (by k_asm) (by k_asm) (hN89) (by k_asm) (by first | rfl | assumption) (⟨hG, hdf.mono (fun p hp => .tail _ (.tail _ (.tail _ (.tail _ (.tail _ (.tail _ (.tail _ (.tail _ (.tail _ (.tail _ (.tail _ (.tail _ (.tail _ (.tail _ (hp))))))))))))))), List.forall_mem_cons.mpr ⟨Ne.symm (hd2b (D1, _) (hs2 _ (.head _))), List.forall_mem_cons.mpr ⟨hd1 _ (hs1 _ (by k_mem)), List.forall_mem_cons.mpr ⟨hd1 _ (hs1 _ (by k_mem)), List.forall_mem_cons.mpr ⟨hd1 _ (hs1 _ (by k_mem)), List.forall_mem_cons.mpr ⟨hd1 _ (hs1 _ (by k_mem)), List.forall_mem_cons.mpr ⟨hd1 _ (hs1 _ (by k_mem)), List.forall_mem_cons.mpr ⟨hd1 _ (hs1 _ (by k_mem)), List.forall_mem_cons.mpr ⟨hd1 _ (hs1 _ (by k_mem)), List.forall_mem_cons.mpr ⟨hd1 _ (hs1 _ (by k_mem)), List.forall_mem_cons.mpr ⟨hd1 _ (hs1 _ (by k_mem)), List.forall_mem_cons.mpr ⟨hd1 _ (hs1 _ (by k_mem)), List.forall_mem_cons.mpr ⟨hd1 _ (hs1 _ (by k_mem)), List.forall_mem_cons.mpr ⟨hd1 _ (hs1 _ (by k_mem)), List.forall_mem_cons.mpr ⟨hd1 _ (hs1 _ (by k_mem)), fun p hp => hd1 p (List.mem_filter.mp hp).1⟩⟩⟩⟩⟩⟩⟩⟩⟩⟩⟩⟩⟩⟩, List.forall_mem_cons.mpr ⟨Ne.symm (hd1 (89, _) hm89), List.forall_mem_cons.mpr ⟨Ne.symm (hd2b (89, _) (hs2 _ (by k_mem))), List.forall_mem_cons.mpr ⟨neN (by show @Ne Nat _ _; (try dsimp only); omega), List.forall_mem_cons.mpr ⟨neN (by show @Ne Nat _ _; (try dsimp only); omega), List.forall_mem_cons.mpr ⟨neN (by show @Ne Nat _ _; (try dsimp only); omega), List.forall_mem_cons.mpr ⟨neN (by show @Ne Nat _ _; (try dsimp only); omega), List.forall_mem_cons.mpr ⟨neN (by show @Ne Nat _ _; (try dsimp only); omega), List.forall_mem_cons.mpr ⟨neN (by show @Ne Nat _ _; (try dsimp only); omega), List.forall_mem_cons.mpr ⟨neN (by show @Ne Nat _ _; (try dsimp only); omega), List.forall_mem_cons.mpr ⟨neN (by show @Ne Nat _ _; (try dsimp only); omega), List.forall_mem_cons.mpr ⟨Ne.symm g2, List.forall_mem_cons.mpr ⟨neN (by show @Ne Nat _ _; (try dsimp only); omega), List.forall_mem_cons.mpr ⟨neN (show @Ne Nat 201 89 by decide), List.forall_mem_cons.mpr ⟨neN (show @Ne Nat 110 89 by decide), List.forall_mem_cons.mpr ⟨neN (show @Ne Nat 117 89 by decide), fun p hp => bne_iff_ne.mp (List.mem_filter.mp hp).2⟩⟩⟩⟩⟩⟩⟩⟩⟩⟩⟩⟩⟩⟩⟩, hnl, hnb⟩) (by (try simp only [depth_under_make, depth_under_kw, depth_in1, depth_deeper, depth_caller]); show _ < _; (try dsimp only [ktrTop]); (first | exact lt_rm hdp rfl | exact lt_rm hun rfl | exact lt_rm0 hdp rfl | exact lt_rm0 hun rfl | exact lt_rmB hdp rfl | exact lt_rmB hun rfl | exact lt_rmC hdp rfl | exact lt_rmC hun rfl | omega)) (by (try simp only [units_under_make, units_under_kw, units_in1, units_deeper, units_caller]); show _ < _; (try dsimp only [ktrTop]); (first | exact lt_rm hdp rfl | exact lt_rm hun rfl | exact lt_rm0 hdp rfl | exact lt_rm0 hun rfl | exact lt_rmB hdp rfl | exact lt_rmB hun rfl | exact lt_rmC hdp rfl | exact lt_rmC hun rfl | omega)) ?_)
  intro ptf t9 h6 tk6 g9 hG9 F6 N6f
  k_steps
  · refine hold_mk ?_
    k_dflt (refine PyProof.Rows.add_str ?_ (le_size (k := 500) (by rw [← fwTs_eq]; exact fw_sz (by decide +kernel) hnb hnl) rfl))
    intro t9 tk9
    k_steps
    refine hold_mk ?_
    k_dflt (refine ne_str_same (fwT_many (by omega)) ?_)
    k_steps
    refine hold_mk ?_
    rename News _ _ _ _ => hN8
    have hD5 : ∀ p ∈ ((x0, instObj 83 d0) :: (d0, wsDict w (lead a) (wsOf a).2.2.1 (wsOf a).2.2.2 nT bs twx twn twnt wk1 wk2 wk3 wk4 wk5) :: (nT, tupO #[.ref cT, .int (wsOf a).2.1 twb]) :: (cT, tupO vs.toArray) :: (x0q, instObj 83 d0q) :: (d0q, wsDict w (lead b) (wsOf b).2.2.1 (wsOf b).2.2.2 nTq bsq twxq twnq twntq wk1q wk2q wk3q wk4q wk5q) :: (nTq, tupO #[.ref cTq, .int (wsOf b).2.1 twbq]) :: (cTq, tupO vsq.toArray) :: (D4, W.listOf #[.str (lead a) t1, .str (lead b) t2] kw) :: (89, tabObj ptf) :: (201, tabObj pt) :: [] : CbLed), p.1 ≠ L + 1 + 1 ∧ p.1 ≠ 110 ∧ p.1 ≠ 117 := List.forall_mem_cons.mpr ⟨⟨neN (by show @Ne Nat _ _; (try dsimp only); omega), neN (by show @Ne Nat _ _; (try dsimp only); omega), neN (by show @Ne Nat _ _; (try dsimp only); omega)⟩, List.forall_mem_cons.mpr ⟨⟨neN (by show @Ne Nat _ _; (try dsimp only); omega), neN (by show @Ne Nat _ _; (try dsimp only); omega), neN (by show @Ne Nat _ _; (try dsimp only); omega)⟩, List.forall_mem_cons.mpr ⟨⟨neN (by show @Ne Nat _ _; (try dsimp only); omega), neN (by show @Ne Nat _ _; (try dsimp only); omega), neN (by show @Ne Nat _ _; (try dsimp only); omega)⟩, List.forall_mem_cons.mpr ⟨⟨neN (by show @Ne Nat _ _; (try dsimp only); omega), neN (by show @Ne Nat _ _; (try dsimp only); omega), neN (by show @Ne Nat _ _; (try dsimp only); omega)⟩, List.forall_mem_cons.mpr ⟨⟨neN (by show @Ne Nat _ _; (try dsimp only); omega), neN (by show @Ne Nat _ _; (try dsimp only); omega), neN (by show @Ne Nat _ _; (try dsimp only); omega)⟩, List.forall_mem_cons.mpr ⟨⟨neN (by show @Ne Nat _ _; (try dsimp only); omega), neN (by show @Ne Nat _ _; (try dsimp only); omega), neN (by show @Ne Nat _ _; (try dsimp only); omega)⟩, List.forall_mem_cons.mpr ⟨⟨neN (by show @Ne Nat _ _; (try dsimp only); omega), neN (by show @Ne Nat _ _; (try dsimp only); omega), neN (by show @Ne Nat _ _; (try dsimp only); omega)⟩, List.forall_mem_cons.mpr ⟨⟨neN (by show @Ne Nat _ _; (try dsimp only); omega), neN (by show @Ne Nat _ _; (try dsimp only); omega), neN (by show @Ne Nat _ _; (try dsimp only); omega)⟩, List.forall_mem_cons.mpr ⟨⟨Ne.symm g1, Ne.symm g4, Ne.symm g5⟩, List.forall_mem_cons.mpr ⟨⟨neN (by show @Ne Nat _ _; (try dsimp only); omega), neN (by show @Ne Nat _ _; (try dsimp only); omega), neN (by show @Ne Nat _ _; (try dsimp only); omega)⟩, List.forall_mem_cons.mpr ⟨⟨neN (by show @Ne Nat _ _; (try dsimp only); omega), neN (by show @Ne Nat _ _; (try dsimp only); omega), neN (by show @Ne Nat _ _; (try dsimp only); omega)⟩, (fun _ h => nomatch h)⟩⟩⟩⟩⟩⟩⟩⟩⟩⟩⟩
    exact law3 w a b x0 d0 nT cT vs bs twx twb twn twnt wk1 wk2 wk3 wk4 wk5 x0q d0q nTq cTq vsq bsq twxq twbq twnq twntq wk1q wk2q wk3q wk4q wk5q D4 t1 t2 kw o2 pt ptf loose mean mg mb dp un gd outer A₀ base g L _ _ Q E hB (by k_asm) hX hT hG9 hdp hun l89 l110 l117 l201 hret hPE ((List.forall_mem_cons.mpr ⟨hN8 _ (by k_mem), List.forall_mem_cons.mpr ⟨hN8 _ (by k_mem), List.forall_mem_cons.mpr ⟨hN8 _ (by k_mem), List.forall_mem_cons.mpr ⟨hN8 _ (by k_mem), List.forall_mem_cons.mpr ⟨hN8 _ (by k_mem), List.forall_mem_cons.mpr ⟨hN8 _ (by k_mem), List.forall_mem_cons.mpr ⟨hN8 _ (by k_mem), List.forall_mem_cons.mpr ⟨hN8 _ (by k_mem), List.forall_mem_cons.mpr ⟨hN8 _ (by k_mem), List.forall_mem_cons.mpr ⟨hN8 _ (by k_mem), List.forall_mem_cons.mpr ⟨hN8 _ (by k_mem), List.forall_mem_cons.mpr ⟨hN8 _ (by k_mem), List.forall_mem_cons.mpr ⟨hN8 _ (by k_mem), List.forall_mem_cons.mpr ⟨hN8 _ (by k_mem), fun _ h => nomatch h⟩⟩⟩⟩⟩⟩⟩⟩⟩⟩⟩⟩⟩⟩)) hd2 rfl rfl (by with_unfolding_all exact hm1) hI hIq hD5 
  · refine hold_mk ?_
    k_dflt (refine PyProof.Rows.add_str ?_ (le_size (k := 500) (by rw [← fwTs_eq]; exact fw_sz (by decide +kernel) hnb hnl) rfl))
    intro t9 tk9
    k_steps
    refine hold_mk ?_
    k_dflt (refine ne_str_same (fwT_few (by omega)) ?_)
    k_steps
    refine hold_mk ?_
    rename News _ _ _ _ => hN8
    have hD5 : ∀ p ∈ ((x0, instObj 83 d0) :: (d0, wsDict w (lead a) (wsOf a).2.2.1 (wsOf a).2.2.2 nT bs twx twn twnt wk1 wk2 wk3 wk4 wk5) :: (nT, tupO #[.ref cT, .int (wsOf a).2.1 twb]) :: (cT, tupO vs.toArray) :: (x0q, instObj 83 d0q) :: (d0q, wsDict w (lead b) (wsOf b).2.2.1 (wsOf b).2.2.2 nTq bsq twxq twnq twntq wk1q wk2q wk3q wk4q wk5q) :: (nTq, tupO #[.ref cTq, .int (wsOf b).2.1 twbq]) :: (cTq, tupO vsq.toArray) :: (D4, W.listOf #[.str (lead a) t1, .str (lead b) t2] kw) :: (89, tabObj ptf) :: (201, tabObj pt) :: [] : CbLed), p.1 ≠ L + 1 + 1 ∧ p.1 ≠ 110 ∧ p.1 ≠ 117 := List.forall_mem_cons.mpr ⟨⟨neN (by show @Ne Nat _ _; (try dsimp only); omega), neN (by show @Ne Nat _ _; (try dsimp only); omega), neN (by show @Ne Nat _ _; (try dsimp only); omega)⟩, List.forall_mem_cons.mpr ⟨⟨neN (by show @Ne Nat _ _; (try dsimp only); omega), neN (by show @Ne Nat _ _; (try dsimp only); omega), neN (by show @Ne Nat _ _; (try dsimp only); omega)⟩, List.forall_mem_cons.mpr ⟨⟨neN (by show @Ne Nat _ _; (try dsimp only); omega), neN (by show @Ne Nat _ _; (try dsimp only); omega), neN (by show @Ne Nat _ _; (try dsimp only); omega)⟩, List.forall_mem_cons.mpr ⟨⟨neN (by show @Ne Nat _ _; (try dsimp only); omega), neN (by show @Ne Nat _ _; (try dsimp only); omega), neN (by show @Ne Nat _ _; (try dsimp only); omega)⟩, List.forall_mem_cons.mpr ⟨⟨neN (by show @Ne Nat _ _; (try dsimp only); omega), neN (by show @Ne Nat _ _; (try dsimp only); omega), neN (by show @Ne Nat _ _; (try dsimp only); omega)⟩, List.forall_mem_cons.mpr ⟨⟨neN (by show @Ne Nat _ _; (try dsimp only); omega), neN (by show @Ne Nat _ _; (try dsimp only); omega), neN (by show @Ne Nat _ _; (try dsimp only); omega)⟩, List.forall_mem_cons.mpr ⟨⟨neN (by show @Ne Nat _ _; (try dsimp only); omega), neN (by show @Ne Nat _ _; (try dsimp only); omega), neN (by show @Ne Nat _ _; (try dsimp only); omega)⟩, List.forall_mem_cons.mpr ⟨⟨neN (by show @Ne Nat _ _; (try dsimp only); omega), neN (by show @Ne Nat _ _; (try dsimp only); omega), neN (by show @Ne Nat _ _; (try dsimp only); omega)⟩, List.forall_mem_cons.mpr ⟨⟨Ne.symm g1, Ne.symm g4, Ne.symm g5⟩, List.forall_mem_cons.mpr ⟨⟨neN (by show @Ne Nat _ _; (try dsimp only); omega), neN (by show @Ne Nat _ _; (try dsimp only); omega), neN (by show @Ne Nat _ _; (try dsimp only); omega)⟩, List.forall_mem_cons.mpr ⟨⟨neN (by show @Ne Nat _ _; (try dsimp only); omega), neN (by show @Ne Nat _ _; (try dsimp only); omega), neN (by show @Ne Nat _ _; (try dsimp only); omega)⟩, (fun _ h => nomatch h)⟩⟩⟩⟩⟩⟩⟩⟩⟩⟩⟩
    exact law3 w a b x0 d0 nT cT vs bs twx twb twn twnt wk1 wk2 wk3 wk4 wk5 x0q d0q nTq cTq vsq bsq twxq twbq twnq twntq wk1q wk2q wk3q wk4q wk5q D4 t1 t2 kw o2 pt ptf loose mean mg mb dp un gd outer A₀ base g L _ _ Q E hB (by k_asm) hX hT hG9 hdp hun l89 l110 l117 l201 hret hPE ((List.forall_mem_cons.mpr ⟨hN8 _ (by k_mem), List.forall_mem_cons.mpr ⟨hN8 _ (by k_mem), List.forall_mem_cons.mpr ⟨hN8 _ (by k_mem), List.forall_mem_cons.mpr ⟨hN8 _ (by k_mem), List.forall_mem_cons.mpr ⟨hN8 _ (by k_mem), List.forall_mem_cons.mpr ⟨hN8 _ (by k_mem), List.forall_mem_cons.mpr ⟨hN8 _ (by k_mem), List.forall_mem_cons.mpr ⟨hN8 _ (by k_mem), List.forall_mem_cons.mpr ⟨hN8 _ (by k_mem), List.forall_mem_cons.mpr ⟨hN8 _ (by k_mem), List.forall_mem_cons.mpr ⟨hN8 _ (by k_mem), List.forall_mem_cons.mpr ⟨hN8 _ (by k_mem), List.forall_mem_cons.mpr ⟨hN8 _ (by k_mem), List.forall_mem_cons.mpr ⟨hN8 _ (by k_mem), fun _ h => nomatch h⟩⟩⟩⟩⟩⟩⟩⟩⟩⟩⟩⟩⟩⟩)) hd2 rfl rfl (by with_unfolding_all exact hm1) hI hIq hD5
theorem strs_dat {n : CbLed} : ∀ {vs : List Value} {xs : List Str}, StrsAre vs xs → DatAll n vs (xs.map Dat.str)
  | _, _, .nil => .nil
  | _, _, .cons _ _ r => .cons (.str _ _) (strs_dat r)
theorem news6 {h₀ h : Heap} {L : Addr} {p1 p2 p3 p4 p5 p6 : Addr × Obj} {led : CbLed} (N : News h₀ L h led) (m1 : p1 ∈ led) (m2 : p2 ∈ led) (m3 : p3 ∈ led) (m4 : p4 ∈ led) (m5 : p5 ∈ led) (m6 : p6 ∈ led) : News h₀ L h [p1, p2, p3, p4, p5, p6] := by
  intro p hp
  simp only [List.mem_cons, List.not_mem_nil, or_false] at hp
  rcases hp with rfl | rfl | rfl | rfl | rfl | rfl <;> exact N _ (by assumption)
theorem off1_mem {D : Addr} : ∀ {l : CbLed} {p : Addr × Obj}, LCg.Off1 D l → p ∈ l → p.1 ≠ D
  | [], _, _, h => nomatch h
  | q :: r, p, h, hm => by
    rcases List.mem_cons.mp hm with rfl | hm
    · exact h.1
    · exact off1_mem h.2 hm
theorem perm3 {y1 y2 y3 x1 x2 x3 x4 x5 x6 x7 x8 x9 x10 : Addr × Obj} {l : CbLed} : ∀ q ∈ x1 :: x2 :: x3 :: x4 :: x5 :: x6 :: x7 :: x8 :: x9 :: x10 :: y1 :: y2 :: y3 :: l, q ∈ y1 :: y2 :: y3 :: x1 :: x2 :: x3 :: x4 :: x5 :: x6 :: x7 :: x8 :: x9 :: x10 :: l := swapL [x1, x2, x3, x4, x5, x6, x7, x8, x9, x10] [y1, y2, y3]
theorem perm3b {y1 y2 y3 x1 x2 x3 x4 x5 x6 x7 x8 x9 x10 : Addr × Obj} {l : CbLed} : ∀ q ∈ y1 :: y2 :: y3 :: x1 :: x2 :: x3 :: x4 :: x5 :: x6 :: x7 :: x8 :: x9 :: x10 :: l, q ∈ x1 :: x2 :: x3 :: x4 :: x5 :: x6 :: x7 :: x8 :: x9 :: x10 :: y1 :: y2 :: y3 :: l := swapL [y1, y2, y3] [x1, x2, x3, x4, x5, x6, x7, x8, x9, x10]
theorem rd_above {e ctx cat lst cg g f n8 d x pl : Addr} (h : @LT.lt Nat _ e ctx) (c1 : @LT.lt Nat _ ctx cat) (c2 : @LT.lt Nat _ cat lst) (c3 : @LT.lt Nat _ lst cg) (c4 : @LT.lt Nat _ cg g) (c5 : @LT.lt Nat _ g f) (c6 : @LT.lt Nat _ f n8) (c7 : @LT.lt Nat _ n8 d) (c8 : @LT.lt Nat _ d x) (c9 : @LT.lt Nat _ x pl) :
    e ≠ ctx ∧ e ≠ cat ∧ e ≠ lst ∧ e ≠ cg ∧ e ≠ g ∧ e ≠ f ∧ e ≠ n8 ∧ e ≠ d ∧ e ≠ x ∧ e ≠ pl := by
  refine ⟨neN ?_, neN ?_, neN ?_, neN ?_, neN ?_, neN ?_, neN ?_, neN ?_, neN ?_, neN ?_⟩ <;> (show @Ne Nat _ _; omega)
theorem rd_d {news : CbLed} {ctx cat lst cg g f n8 d x : Addr} (h : AllLt ctx news) (c1 : @LT.lt Nat _ ctx cat) (c2 : @LT.lt Nat _ cat lst) (c3 : @LT.lt Nat _ lst cg) (c4 : @LT.lt Nat _ cg g) (c5 : @LT.lt Nat _ g f) (c6 : @LT.lt Nat _ f n8) (c7 : @LT.lt Nat _ n8 d) (c8 : @LT.lt Nat _ d x) : ∀ p ∈ news, p.1 ≠ d :=
  fun p hp => Nat.ne_of_lt (Nat.lt_trans (kst_ltOf h p hp) (show @LT.lt Nat _ ctx d by omega))
theorem rd_lst {news : CbLed} {ctx cat lst : Addr} (h : AllLt ctx news) (c1 : @LT.lt Nat _ ctx cat) (c2 : @LT.lt Nat _ cat lst) : ∀ p ∈ news, p.1 ≠ lst :=
  fun p hp => Nat.ne_of_lt (Nat.lt_trans (kst_ltOf h p hp) (show @LT.lt Nat _ ctx lst by omega))
theorem off3_sw {I C D a b c : Addr} {o1 o2 o3 p1 p2 p3 : Obj} {rest : CbLed} (h : LCg.Off3 I C D ((a, o1) :: (b, o2) :: (c, o3) :: rest)) : LCg.Off3 I C D ((a, p1) :: (b, p2) :: (c, p3) :: rest) := ⟨h.1, h.2.1, h.2.2.1, h.2.2.2⟩
theorem two_at {a b : Int} {ta tb : Tok} {i : Nat} {k : Int} {v : Value} (h : [a, b][i]? = some k) (hv : (#[Value.int a ta, .int b tb] : Array Value)[i]? = some v) : (k = a ∨ k = b) ∧ ∃ t, v = .int k t := by
  match i with
  | 0 => simp at h hv; exact ⟨.inl h.symm, ta, by rw [← hv, ← h]⟩
  | 1 => simp at h hv; exact ⟨.inr h.symm, tb, by rw [← hv, ← h]⟩
  | n + 2 => simp at h
theorem lead_len (c : Int) : (lead c).length ≤ 8 := by
  have h1 := len_mul_one sp_is (n := c.fmod 3) (N := 2) (by have := Int.fmod_lt_of_pos c (b := 3) (by decide); omega)
  have h2 := len_mul_one tb_is (n := (c.fdiv 3).fmod 2) (N := 1) (by have := Int.fmod_lt_of_pos (c.fdiv 3) (b := 2) (by decide); omega)
  have h3 := len_mul_one sp_is (n := (c.fdiv 6).fmod 4) (N := 3) (by have := Int.fmod_lt_of_pos (c.fdiv 6) (b := 4) (by decide); omega)
  unfold lead
  simp only [Str.length_append]
  omega
theorem wri_pre (c : Int) : (lead c).length ≤ 20 ∧ 0 ≤ (c.fdiv 24).fmod 2 ∧ (c.fdiv 24).fmod 2 ≤ 1 := by
  have := lead_len c
  have := Int.fmod_lt_of_pos (c.fdiv 24) (b := 2) (by decide)
  have := Int.fmod_nonneg_of_pos (c.fdiv 24) (b := 2) (by decide)
  omega
abbrev tb0 : CbLed := [(89, tabObj #[]), (201, tabObj #[]), (110, tabObj #[]), (117, tabObj #[])]
abbrev tb1 : CbLed := [(89, tabObj #[]), (110, tabObj #[]), (117, tabObj #[])]
theorem perm201 {x1 x2 x3 x4 x5 : Addr × Obj} : ∀ q ∈ (201, tabObj #[]) :: x1 :: x2 :: x3 :: x4 :: x5 :: tb1, q ∈ x1 :: x2 :: x3 :: x4 :: x5 :: tb0 := swapL [(201, tabObj #[])] [x1, x2, x3, x4, x5, (89, tabObj #[])]
theorem law1 (w : World) (S : Addr) (vs : List Value) (ns : List Int) (o1 o2 : Obj) : ∀ (loose : List Str) (mean : ExcName → Option Value) (mg mb : Frm) (dp un : Nat) (gd : Option (List Code)) (outer : List Env) (A₀ : Around) (base g : Heap) (L : Addr) (m0 : Frm) (s : Shared) (Q : Flow → Shared → Prop) (E : Value → Shared → Prop), Below A₀ base outer g → Fr g L s.heap m0 → (MyK w).In g → Top topProg loose mean mg mb g → AllBare s.gens → dp < 800 → un < 4800 → @LT.lt Nat _ 89 L → @LT.lt Nat _ 110 L → @LT.lt Nat _ 117 L → @LT.lt Nat _ 201 L → RetLw g L s Q → PassesOwn (model MyProg w) (lwA dp un gd L outer) (lwEnv L) E →
    News g L s.heap ((L + 1 + 1, o2) :: (L + 1, o1) :: tb0) → o2.data = .cell none → o1.data = .cell none → m0 (Str.ofString "script") = some (.ref S) → g.IsList S vs.toArray → IntsAre vs ns → ns.length ≤ 63 →
    wpAny (model MyProg w) (lwA dp un gd L outer) (execs lawBody (lwEnv L)) Q E s := by
  dsimp only [MyProg, MyK]
  k_fill
  k_with_none
  k_with "my room" => ((try simp only [depth_under_make, depth_under_kw, depth_in1, depth_deeper, depth_caller]); show _ < 1000; (try dsimp only [ktrTop]); (first | exact lt_rm hdp rfl | exact lt_rm hun rfl | exact lt_rm0 hdp rfl | exact lt_rm0 hun rfl | exact lt_rmB hdp rfl | exact lt_rmB hun rfl | exact lt_rmC hdp rfl | exact lt_rmC hun rfl | omega))
  k_with "my all" => (first | assumption | (refine tnAll (by assumption) ?_; omega) | (refine tnAll2 (by assumption) ?_; omega))
  k_with "my ne" => (first | (with_reducible assumption) | exact Ne.symm (by with_reducible assumption))
  k_with "enter" => (refine wpAny_call ?_; k_dflt (first
    | cell_enter
    | (refine' code_defC ?k1 ?k2 ?k3 ?k4 ?k5 ?kA ?kF ?kK ?k6 ?k7 ?k8 ?k9 ?kB ?kD ?_ ?c2 ?c3 ?c4; (case kA => exact rfl); (case kF => exact rfl); (case kK => assumption); (case k1 => k_asm); (case k2 => k_asm); (case k3 => k_asm); (case k4 => k_asm); (case k5 => k_asm); (case k6 => k_is); (case k7 => k_is); (case k8 => k_room); (case k9 => exact BindsTo.of_eq rfl); (case kB => exact rfl); (case kD => decide +kernel); (case c2 => exact rfl); (case c3 => exact rfl); (case c4 => exact rfl); k_whole; intro g' L' h' tk' cells' FG' F' N' Y' B' X' T' l1; (try k_lt l1); k_cells Y'; (try simp only [List.cons_append, List.nil_append] at N'); (try dsimp only); (try k_lift B'); (try k_fold))))
  k_with "my call ref" => (refine hold ?_)
  k_with "my eval ListComp" => (k_here; k_dflt (refine LCg.ListComp_U (by k_asm) (by with_unfolding_all rfl) (by decide) (by rfl) (by decide) (by rfl) ?_))
  k_with "my call builtin:str.join" => (refine hold ?_)
  k_with "my off3" => ((repeat' (first | exact rd_d (by with_unfolding_all exact hc10) hc1 hc2 hc3 hc4 hc5 hc6 hc7 hc8 | exact rd_lst (by with_unfolding_all exact hc10) hc1 hc2 | refine List.forall_mem_cons.mpr ⟨?_, ?_⟩)); all_goals (first | assumption | exact Ne.symm (by assumption)))
  k_with "my off2" => ((repeat' (first | exact List.forall_mem_nil _ | refine List.forall_mem_cons.mpr ⟨?_, ?_⟩)); all_goals (first | assumption | exact Ne.symm (by assumption) | exact neN (by show @Ne Nat _ _; (try dsimp only); omega)))
  k_with "my ne" => (first | (with_reducible assumption) | exact Ne.symm (by with_reducible assumption)  | exact neN (by show @Ne Nat _ _; omega))
  k_with "my compareOp NotEq ref ref" => (refine hold ?_)
  k_with "my execs cons" => ((with_reducible show wpAny _ _ (execs (Stmt.Assign [Expr.Name (Str.ofString "coins") _] _ _ :: _) _) _ _ _); refine hold ?_)
  k_with "my CompRest" => (refine hold ?_)
  k_with "my CompSrc" => (refine hold ?_)
  k_with "my CompSrcT" => (refine hold ?_)
  k_with "my CompEnd" => (k_here; k_dflt (refine LCg.CompEnd.intro (by assumption) (by assumption) _ (fun _ h => h) ?_ (by lcg_src) ?_); (first | (with_reducible exact off9) | k_dflt (exact off3_sw off9)); (first | ((with_reducible show KCtEl _ _ _ _); k_dflt (exact kct_el rfl rfl rfl)) | skip))
  k_with "my off" => (simp only [List.forall_mem_cons, List.forall_mem_nil, and_true]; refine' ⟨?_, ?_, ?_, ?_, ?_, ?_, ?_⟩ <;> (first | (exact fun _ h => nomatch h) | exact neN (by show @Ne Nat _ _; omega) | (refine' ⟨?_, ?_, ?_⟩ <;> (first | (exact fun _ h => nomatch h) | exact neN (by show @Ne Nat _ _; omega)))))
  k_with "my eval Name" => (k_here; k_dflt (refine nameX_L (by k_asm) (by with_unfolding_all exact hm1) ?_ (by rfl) (by rfl)))
  intro loose mean mg mb dp un gd outer A₀ base g L m0 s Q E hB hF hX hT hG hdp hun l89 l110 l117 l201 hret hPE hN hd2 hd1 hm1 hS hI hlen
  dsimp only [lwA, lwEnv, lawScope, lawBody]
  k_steps
  refine hold_mk ?_
  k_dflt (refine c_cel w _ S _ _ vs ns _ _ _ _ _ _ _ _ _ _ _ _ _ _ _ _ _ _ _ _ _ _ _ (by k_asm) (by k_asm) (by k_asm) (by k_asm) (by k_asm) (by first | rfl | assumption) (⟨hS, hI, hlen, by k_extra "my off"⟩) (by (try simp only [depth_under_make, depth_under_kw, depth_in1, depth_deeper, depth_caller]); show _ < _; (try dsimp only [ktrTop]); (first | exact lt_rm hdp rfl | exact lt_rm hun rfl | exact lt_rm0 hdp rfl | exact lt_rm0 hun rfl | exact lt_rmB hdp rfl | exact lt_rmB hun rfl | exact lt_rmC hdp rfl | exact lt_rmC hun rfl | omega)) (by (try simp only [units_under_make, units_under_kw, units_in1, units_deeper, units_caller]); show _ < _; (try dsimp only [ktrTop]); (first | exact lt_rm hdp rfl | exact lt_rm hun rfl | exact lt_rm0 hdp rfl | exact lt_rm0 hun rfl | exact lt_rmB hdp rfl | exact lt_rmB hun rfl | exact lt_rmC hdp rfl | exact lt_rmC hun rfl | omega)) ?_)
  intro ta tb h1 tk1 ha hb ha2 hb2 F1 N1
  obtain ⟨ab, hab⟩ : ∃ ab, celF 0 (22, 33) (ns.take 18) = ab := ⟨_, rfl⟩
  rw [hab] at ha hb ha2 hb2 N1
  obtain ⟨a, b⟩ := ab
  dsimp only at ha hb ha2 hb2 N1
  k_steps
  refine hold_mk ?_
  k_dflt (refine LCg.CompSrc.ledger (by rfl) (by k_asm) (by k_asm) (by k_mem) (le_size (k := 100) (by simp) rfl) ?_)
  intro g9
  refine rest_strs [a, b] (fun c => lead c) (by rfl) ?turn1 ?_
  case turn1 =>
    intro i k9 v I oI C oC D m2 ys h8 tk8 E8 hk9 hv9 hC9 hx9 F9 N9 off9 ne9
    obtain ⟨hk9, tv, rfl⟩ := two_at hk9 hv9
    k_steps
    refine hold_mk ?_
    k_dflt (refine c_lead w _ _ _ _ _ _ _ _ _ _ _ _ _ _ _ _ _ _ _ _ _ _ _ _ (by k_asm) (by k_asm) (by k_asm) (by k_asm) (by k_asm) (by first | rfl | assumption) (by rcases hk9 with rfl | rfl <;> omega) (by (try simp only [depth_under_make, depth_under_kw, depth_in1, depth_deeper, depth_caller]); show _ < _; (try dsimp only [ktrTop]); (first | exact lt_rm hdp rfl | exact lt_rm hun rfl | exact lt_rm0 hdp rfl | exact lt_rm0 hun rfl | exact lt_rmB hdp rfl | exact lt_rmB hun rfl | exact lt_rmC hdp rfl | exact lt_rmC hun rfl | omega)) (by (try simp only [units_under_make, units_under_kw, units_in1, units_deeper, units_caller]); show _ < _; (try dsimp only [ktrTop]); (first | exact lt_rm hdp rfl | exact lt_rm hun rfl | exact lt_rm0 hdp rfl | exact lt_rm0 hun rfl | exact lt_rmB hdp rfl | exact lt_rmB hun rfl | exact lt_rmC hdp rfl | exact lt_rmC hun rfl | omega)) ?_)
    intro t6 h6 tk6 F6 N6
    k_steps
  intro ys hy D h9 tk9 F9 N9 O9
  have u1 : D ≠ 201 := Ne.symm (off1_mem O9 (by k_mem : (201, tabObj #[]) ∈ _))
  refine aE8 (O9) ?_
  intro W1 W2 W3 W4 W5 W6 W7 W8
  k_steps
  refine hold_mk ?_
  k_dflt (refine LCg.CompSrc.ledger (by rfl) (by k_asm) (by k_asm) (by k_mem) (le_size (k := 100) (by simp) rfl) ?_)
  intro g9
  refine rest_strs [a, b] (fun c => wri (lead c) ((c.fdiv 24).fmod 2)) (by rfl) ?turn2 ?_
  case turn2 =>
    intro i k9 v I oI C oC D m2 ys h8 tk8 E8 hk9 hv9 hC9 hx9 F9 N9 off9 ne9
    obtain ⟨hk9, tv, rfl⟩ := two_at hk9 hv9
    k_steps
    refine hold_mk ?_
    k_dflt (refine c_lead w _ _ _ _ _ _ _ _ _ _ _ _ _ _ _ _ _ _ _ _ _ _ _ _ (by k_asm) (by k_asm) (by k_asm) (by k_asm) (by k_asm) (by first | rfl | assumption) (by rcases hk9 with rfl | rfl <;> omega) (by (try simp only [depth_under_make, depth_under_kw, depth_in1, depth_deeper, depth_caller]); show _ < _; (try dsimp only [ktrTop]); (first | exact lt_rm hdp rfl | exact lt_rm hun rfl | exact lt_rm0 hdp rfl | exact lt_rm0 hun rfl | exact lt_rmB hdp rfl | exact lt_rmB hun rfl | exact lt_rmC hdp rfl | exact lt_rmC hun rfl | omega)) (by (try simp only [units_under_make, units_under_kw, units_in1, units_deeper, units_caller]); show _ < _; (try dsimp only [ktrTop]); (first | exact lt_rm hdp rfl | exact lt_rm hun rfl | exact lt_rm0 hdp rfl | exact lt_rm0 hun rfl | exact lt_rmB hdp rfl | exact lt_rmB hun rfl | exact lt_rmC hdp rfl | exact lt_rmC hun rfl | omega)) ?_)
    intro t6 h6 tk6 F6 N6
    k_steps
    refine hold_mk ?_
    k_dflt (refine c_wri w _ _ _ _ _ _ _ _ _ _ _ _ _ _ _ _ _ _ _ _ _ _ _ _ _ _ (by k_asm) (by k_asm) (by k_asm) (by k_asm) (by k_asm) (by first | rfl | assumption) (wri_pre _) (by (try simp only [depth_under_make, depth_under_kw, depth_in1, depth_deeper, depth_caller]); show _ < _; (try dsimp only [ktrTop]); (first | exact lt_rm hdp rfl | exact lt_rm hun rfl | exact lt_rm0 hdp rfl | exact lt_rm0 hun rfl | exact lt_rmB hdp rfl | exact lt_rmB hun rfl | exact lt_rmC hdp rfl | exact lt_rmC hun rfl | omega)) (by (try simp only [units_under_make, units_under_kw, units_in1, units_deeper, units_caller]); show _ < _; (try dsimp only [ktrTop]); (first | exact lt_rm hdp rfl | exact lt_rm hun rfl | exact lt_rm0 hdp rfl | exact lt_rm0 hun rfl | exact lt_rmB hdp rfl | exact lt_rmB hun rfl | exact lt_rmC hdp rfl | exact lt_rmC hun rfl | omega)) ?_)
    intro t7 h7 tk7 F7 N7
    k_steps
  intro ys2 hy2 D2 h9 tk9 F9 N9 O9
  have u2 : D2 ≠ 201 := Ne.symm (off1_mem O9 (by k_mem : (201, tabObj #[]) ∈ _))
  refine aE8 (O9) ?_
  intro V1 V2 V3 V4 V5 V6 V7 V8
  k_steps
  refine hold_mk ?_
  k_dflt (refine PyProof.Rows.join_list (D := D2) (items := ys2.toArray) (ys := [mk2 a, mk2 b]) ⟨_, (N9 _ (.head _)).1, rfl, _, rfl⟩ hy2 (text_ok a b) ?_)
  intro t7 k7
  k_steps
  refine hold_mk ?_
  k_dflt (refine c_rdr w _ (textOf a b) _ _ _ _ _ _ _ _ _ _ _ _ _ _ _ _ _ _ _ _ _ _ (by k_asm) (by k_asm) (by k_asm) (cb_drop (by k_asm) perm201) (by k_asm) (by first | rfl | assumption) (⟨text_size a b, by k_extra "my off2"⟩) (by (try simp only [depth_under_make, depth_under_kw, depth_in1, depth_deeper, depth_caller]); show _ < _; (try dsimp only [ktrTop]); (first | exact lt_rm hdp rfl | exact lt_rm hun rfl | exact lt_rm0 hdp rfl | exact lt_rm0 hun rfl | exact lt_rmB hdp rfl | exact lt_rmB hun rfl | exact lt_rmC hdp rfl | exact lt_rmC hun rfl | omega)) (by (try simp only [units_under_make, units_under_kw, units_in1, units_deeper, units_caller]); show _ < _; (try dsimp only [ktrTop]); (first | exact lt_rm hdp rfl | exact lt_rm hun rfl | exact lt_rm0 hdp rfl | exact lt_rm0 hun rfl | exact lt_rmB hdp rfl | exact lt_rmB hun rfl | exact lt_rmC hdp rfl | exact lt_rmC hun rfl | omega)) ?_)
  intro x d pl n8 f g cg lst cat ctx od8 ofn og ocg ocat octx k1 t1 k2 k3 t3 k4 kk pt tp h6 tk6 hC10 hFN hRC F6 N6
  refine aE10 hC10 ?_
  clear hC10
  intro hc1 hc2 hc3 hc4 hc5 hc6 hc7 hc8 hc9 hc10
  refine aE10 (rd_above (kst_ltOf hc10 (_, _) (.tail _ (.tail _ (.tail _ (.tail _ (.head _)))))) hc1 hc2 hc3 hc4 hc5 hc6 hc7 hc8 hc9) ?_
  intro v1 v2 v3 v4 v5 v6 v7 v8 v9 v10
  refine aE10 (rd_above (kst_ltOf hc10 (_, _) (.tail _ (.tail _ (.tail _ (.tail _ (.tail _ (.head _))))))) hc1 hc2 hc3 hc4 hc5 hc6 hc7 hc8 hc9) ?_
  intro z1 z2 z3 z4 z5 z6 z7 z8 z9 z10
  k_steps
  obtain ⟨qa, qb, na, ra, hAt, hna, hqa, hqb⟩ := text_at a b
  refine aE2 (lead_ws a) ?_
  intro hWa hLa
  refine aE2 (lead_ws b) ?_
  intro hWb hLb
  refine hold_mk ?_
  k_dflt (refine LCg.CompSrc.ledger (by rfl) (by k_asm) (by k_asm) (by k_mem) (le_size (k := 100) (by simp) rfl) ?_)
  intro g9
  refine LCg.CompRest.succ ?_
  intro v I3 oI3 C3 oC3 D3 m2 h8 tk8 E8 hv9 hC9 hx9 F9 N9 off9 ne9
  obtain rfl : v = .int a ta := (by simpa using hv9.symm)
  refine aE3 (off9.mem (d, _) (by k_mem)) ?_
  intro o11 o12 o13
  refine aE3 (off9.mem (lst, _) (by k_mem)) ?_
  intro o21 o22 o23
  k_steps
  refine hold_mk ?_
  k_dflt (refine c_tok w x d pl n8 f g cg lst cat ctx od8 ofn og ocg ocat octx k1 t1 k2 k3 t3 k4 kk _ (textOf a b) 1 0 _ [] qa (ll a) _ _ _ _ _ _ _ _ _ _ _ _ _ _ _ _ _ _ _ _ _ _ (by k_asm) (by k_asm) (by k_asm) (cb_drop (by k_asm) perm3) (by k_asm) (by first | rfl | assumption) (⟨hAt, .inl rfl, hqa, text_size a b, by decide, by decide, ⟨hc1, hc2, hc3, hc4, hc5, hc6, hc7, hc8, hc9, by k_extra "my off3", by k_extra "my off3"⟩, hFN, hRC, hWa, by omega⟩) (by (try simp only [depth_under_make, depth_under_kw, depth_in1, depth_deeper, depth_caller]); show _ < _; (try dsimp only [ktrTop]); (first | exact lt_rm hdp rfl | exact lt_rm hun rfl | exact lt_rm0 hdp rfl | exact lt_rm0 hun rfl | exact lt_rmB hdp rfl | exact lt_rmB hun rfl | exact lt_rmC hdp rfl | exact lt_rmC hun rfl | omega)) (by (try simp only [units_under_make, units_under_kw, units_in1, units_deeper, units_caller]); show _ < _; (try dsimp only [ktrTop]); (first | exact lt_rm hdp rfl | exact lt_rm hun rfl | exact lt_rm0 hdp rfl | exact lt_rm0 hun rfl | exact lt_rmB hdp rfl | exact lt_rmB hun rfl | exact lt_rmC hdp rfl | exact lt_rmC hun rfl | omega)) ?_)
  intro ln1 p1 k1a t1a tt1 tp1 h6 tk6 hl1 hl2 hAt2 F6 N6
  replace N6 := cb_drop N6 perm3b
  k_steps
  refine hold_mk ?_
  refine LCg.CompRest.succ ?_
  intro v I4 oI4 C4 oC4 D3 m2 h8 tk8 E8 hv9 hC9 hx9 F9 N9 off9 ne9
  obtain rfl : v = .int b tb := (by simpa using hv9.symm)
  refine aE3 (off9.mem (d, _) (by k_mem)) ?_
  intro o11 o12 o13
  refine aE3 (off9.mem (lst, _) (by k_mem)) ?_
  intro o21 o22 o23
  k_steps
  refine hold_mk ?_
  k_dflt (refine c_tok w x d pl n8 f g cg lst cat ctx od8 ofn og ocg ocat octx k1a t1a k2 k3 t3 k4 kk _ (textOf a b) ln1 p1 _ na qb (ll b) _ _ _ _ _ _ _ _ _ _ _ _ _ _ _ _ _ _ _ _ _ _ (by k_asm) (by k_asm) (by k_asm) (cb_drop (by k_asm) perm3) (by k_asm) (by first | rfl | assumption) (⟨hAt2, hna, hqb, text_size a b, by omega, by omega, ⟨hc1, hc2, hc3, hc4, hc5, hc6, hc7, hc8, hc9, by k_extra "my off3", by k_extra "my off3"⟩, hFN, hRC, hWb, by omega⟩) (by (try simp only [depth_under_make, depth_under_kw, depth_in1, depth_deeper, depth_caller]); show _ < _; (try dsimp only [ktrTop]); (first | exact lt_rm hdp rfl | exact lt_rm hun rfl | exact lt_rm0 hdp rfl | exact lt_rm0 hun rfl | exact lt_rmB hdp rfl | exact lt_rmB hun rfl | exact lt_rmC hdp rfl | exact lt_rmC hun rfl | omega)) (by (try simp only [units_under_make, units_under_kw, units_in1, units_deeper, units_caller]); show _ < _; (try dsimp only [ktrTop]); (first | exact lt_rm hdp rfl | exact lt_rm hun rfl | exact lt_rm0 hdp rfl | exact lt_rm0 hun rfl | exact lt_rmB hdp rfl | exact lt_rmB hun rfl | exact lt_rmC hdp rfl | exact lt_rmC hun rfl | omega)) ?_)
  intro ln2 p2 k1b t1b tt2 tp2 h6 tk6 hl3 hl4 hAt3 F6 N6
  replace N6 := cb_drop N6 perm3b
  k_steps
  refine hold_mk ?_
  refine LCg.CompRest.zero ?_
  intro D4 h9 tk9 F9 N9 O9
  simp only [LCg.Off1, and_true] at O9
  k_steps
  refine hold_mk ?_
  rw [ll_str a, ll_str b] at *
  k_dflt (refine ne_same (ds := [Dat.str (lead a), Dat.str (lead b)]) (n₁ := []) (n₂ := []) (xs := _) (ys := ys) (by k_asm) (by k_mem) rfl rfl ?_ (fun _ h => nomatch h) (by k_mem) rfl rfl (strs_dat hy) (fun _ h => nomatch h) ?_ ?_ ?_)
  · exact .cons (.str _ _) (.cons (.str _ _) .nil)
  · intro e he
    simp only [List.mem_cons, List.not_mem_nil, or_false] at he
    rcases he with rfl | rfl
    · exact lead_ok a
    · exact lead_ok b
  · exact Nat.lt_of_lt_of_le (Nat.add_lt_add_right hun 64) (Nat.le_of_ble_eq_true rfl)
  k_steps
  refine hold_mk ?_
  rename News _ _ _ ((D4, _) :: _) => hNf
  exact law2 w a b D4 _ _ _ o2 pt loose mean mg mb dp un gd outer A₀ base _ L _ _ Q E hB (by k_asm) hX hT hG hdp hun l89 l110 l117 l201 hret hPE (news6 hNf (.head _) (by k_mem) (by k_mem) (by k_mem) (by k_mem) (by k_mem)) hd2 rfl (by refine aE19 O9 ?_; intro q1 q2 q3 q4 q5 q6 q7 q8 q9 q10 q11 q12 q13 q14 q15 q16 q17 q18 q19; exact ⟨by assumption, by assumption, by assumption, by assumption, by assumption⟩)
end
abbrev lawTabs : List (Addr × Addr) := [(93, 89), (205, 201), (114, 110), (121, 117)]
theorem law_post {M : Model} {A : Around} {cd : Code} {s s₁ : Shared} {cw : ClaimW} {cl : Str → Option Addr} {mean : ExcName → Option Value} {args : List WData} {tabs : List (Addr × Addr)} (hT : TabsAt tabs s₁.heap) (hr : ∀ a x, cw.raises a x = false) (hp : cw.post args (.bool true) args = true)
    (h : codeAny M A cd (fun r s' => (r = .ok (.ret (.bool true)) ∧ (∀ b o, (ghostOf s₁.heap tabs).get? b = some o → s'.heap.get? b = some o) ∧ s'.os = s₁.os ∧ AllBare s'.gens) ∧ GrownAll tabs s'.heap) s) : codeAny M A cd (GoodWG cw cl mean args s₁) s :=
  codeAny_mono h fun r s' ⟨⟨hc, hk, hos, hg⟩, hgr⟩ => by
    have keep : ∀ b o, b ∉ tabs.map (·.2) → s₁.heap.get? b = some o → s'.heap.get? b = some o := fun b o hb e => hk b o (ghost_ne e hb)
    have grown : ∀ b o, b ∈ tabs.map (·.2) → s₁.heap.get? b = some o → isCodeTable s₁.heap b ∧ o = tabObj #[] ∧ ∃ ps, s'.heap.get? b = some (tabObj ps) := fun b o hb e => by
      obtain ⟨q, hq, rfl⟩ := List.mem_map.mp hb
      have e2 := (hT q hq).2
      rw [e] at e2
      exact ⟨((hT q hq).1.tab (hT q hq).2).isCodeTable, Option.some.inj e2, hgr.get q hq⟩
    refine ⟨.inl ⟨_, _, _, hc, hr _, .bool true, hp, fun _ => ⟨List.nodup_nil, fun _ h => nomatch h⟩⟩, ⟨fun b o e => ?_, fun b o e => ?_⟩, hos, hg⟩
    · by_cases hb : b ∈ tabs.map (·.2)
      · obtain ⟨ht, rfl, ps, hP⟩ := grown b o hb e
        exact .inr (.inl ⟨ht, rfl, #[], ps, rfl, by rw [Array.empty_append]; exact hP⟩)
      · exact .inl (keep b o hb e)
    · by_cases hb : b ∈ tabs.map (·.2)
      · obtain ⟨_, _, ps, hP⟩ := grown b o hb e
        exact ⟨_, hP⟩
      · exact ⟨_, keep b o hb e⟩
theorem law_says (args ds : List WData) : PySem.Challenge.rw_sl0030_01.row.claim.post args (.bool true) ds = true := by kernel_rfl
theorem law_addr {P : Params} {h : Heap} {mg : Str → Option Value} {fa : Addr} (X : (lawK P).In h) (G : h.Ns mainGlobals mg) (hm : mg (Str.ofString "law") = some (.ref fa)) : fa = 252 := by
  have e := mg_of (n := Str.ofString "law") (v := .ref 252) X G (by kernel_rfl)
  rw [hm] at e
  exact Value.ref.inj (Option.some.inj e)
theorem law_cd {P : Params} {h : Heap} {mg : Str → Option Value} {fa : Addr} {o : Obj} {fd : FuncData} (X : (lawK P).In h) (G : h.Ns mainGlobals mg) (hm : mg (Str.ofString "law") = some (.ref fa)) (ho : h.get? fa = some o) (hd : o.data = .func fd) : fd.code = .ref 251 :=
  law_code (x := Str.ofString "law") (c := 251) (P := 249) X G (by kernel_rfl) hm ho hd
theorem law_tabs {P : Params} {h : Heap} (X : (lawK P).In h) (T : ∀ p ∈ [89, 110, 117, 201], h.get? p = some (tabObj #[])) : TabsAt lawTabs h :=
  List.forall_mem_cons.mpr ⟨⟨codeHd_of_K X (by kernel_rfl), T 89 (by decide)⟩, List.forall_mem_cons.mpr ⟨⟨codeHd_of_K X (by kernel_rfl), T 201 (by decide)⟩,
    List.forall_mem_cons.mpr ⟨⟨codeHd_of_K X (by kernel_rfl), T 110 (by decide)⟩, List.forall_mem_cons.mpr ⟨⟨codeHd_of_K X (by kernel_rfl), T 117 (by decide)⟩, fun _ h => nomatch h⟩⟩⟩⟩
theorem law_tail {w : World} {p : Program} {loose : List Str} {mean : ExcName → Option Value} {mg mb m0 : Frm} {s₁ : Shared} {S fa : Addr} {cd : Value} {vs : List Value} {ns : List Int} {h₁ : Heap} {tk₁ : Nat} {o1 o2 : Obj} {Q : Flow → Shared → Prop} {E : Value → Shared → Prop}
    (T : Top p loose mean mg mb s₁.heap) (KX : (lawK w.params).In s₁.heap) (hT9 : TabsAt lawTabs s₁.heap) (hg : s₁.gens = #[]) (he : cd = .ref 251) (hfa : fa = 252)
    (F : Fr s₁.heap s₁.heap.objs.size h₁ m0) (N : News s₁.heap s₁.heap.objs.size h₁ [(s₁.heap.objs.size + 1 + 1, o2), (s₁.heap.objs.size + 1, o1)])
    (c2 : o2.data = .cell none) (c1 : o1.data = .cell none) (hm : m0 (Str.ofString "script") = some (.ref S)) (hS : s₁.heap.IsList S vs.toArray) (hI : IntsAre vs ns) (hl : ¬ 63 < ns.length)
    (hE : PassesOwn (model MyProg w) (callerA.deeper (envOfC (Str.ofString "law") lawScope s₁.heap.objs.size fa cd)) (envOfC (Str.ofString "law") lawScope s₁.heap.objs.size fa cd) E)
    (hQ : ∀ (h' : Heap) (tk' : Nat) (g' : Array GenState), AllBare g' → (∀ b o, (ghostOf s₁.heap lawTabs).get? b = some o → h'.get? b = some o) → GrownAll lawTabs h' → Q (.ret (.bool true)) ⟨h', g', s₁.drawn, tk', s₁.os⟩) :
    wpAny (model MyProg w) (callerA.deeper (envOfC (Str.ofString "law") lawScope s₁.heap.objs.size fa cd)) (execs lawBody (envOfC (Str.ofString "law") lawScope s₁.heap.objs.size fa cd)) Q E ⟨h₁, s₁.gens, s₁.drawn, tk₁, s₁.os⟩ := by
  subst he
  subst hfa
  have l0 := ghost_lt hT9 F
  have K' := ghost_below hT9
  refine law1 w S vs ns o1 o2 _ _ _ _ (callerA.deeper (lwEnv s₁.heap.objs.size)).depth (callerA.deeper (lwEnv s₁.heap.objs.size)).units (callerA.deeper (lwEnv s₁.heap.objs.size)).guards [] callerA _ (ghostOf s₁.heap lawTabs) _ m0 ⟨h₁, s₁.gens, s₁.drawn, tk₁, s₁.os⟩ Q E K' (ghost_fr hT9 F) (ghost_K hT9 KX (by kernel_rfl)) (ghost_top hT9 T) (AllBare.of_eq hg) ?_ ?_ (l0 (89, tabObj #[]) (by simp)) (l0 (110, tabObj #[]) (by simp)) (l0 (117, tabObj #[]) (by simp)) (l0 (201, tabObj #[]) (by simp)) ?_ hE (ghost_news hT9 F N) c2 c1 hm (ghost_list hT9 hS) hI (by omega)
  · rw [show (callerA.deeper (lwEnv s₁.heap.objs.size)).depth = callerA.depth + 1 from rfl]; decide +kernel
  · rw [show (callerA.deeper (lwEnv s₁.heap.objs.size)).units = callerA.units + 3 from rfl]; decide +kernel
  · intro h' tk' g' m' a F' g1 g2 g3 g4
    exact hQ h' tk' g' a F'.keep ⟨g1, g4, g2, g3, trivial⟩
end Mine
open Mine
set_option maxRecDepth 100000 in
set_option maxHeartbeats 8000000 in
theorem PySem.Challenge.cw_sl0030_01_holds : PySem.Challenge.rw_sl0030_01.Holds := by
  w_on
  refine holds_law said0 fun said => ?_
  refine holds_open (q := view) (loose := [PySem.Str.ofString "Whitespace"]) (Xt := lawXt) (XP := XL view []) (Yf := Hook.obs hk) (Ya := Hook.val hk) (YP := Hook.says hk) (N := 3148) left_law (Hook.of hk) (Hook.keeps hk) (fun s e => xl_of s (Bool.and_eq_true_iff.mp e).1) XL.keeps (by rfl) (by rfl) (by rfl) (fun s e => recFacts_of (Bool.and_eq_true_iff.mp e).2) (by rfl) (by first | assumption | decide +kernel) (by decide +kernel) ⟨rfl, rfl, rfl, rfl, rfl, by decide +kernel⟩ ?hw ?hc
  case hw => w_witness2
  intro w s₀ s₁ mg mb G Y fa o pm cd doc dV kV ho hd hcd hD hmg hg args vals as hpre hlay hrd hwl hlo
  have KX := km_in_of Y
  have KT := km_tabs_of Y
  have X := (Ground.X G).1
  have V := (Ground.X G).2
  refine Ground.open G ?_
  intro T B D TE TW
  have hT9 := law_tabs KX KT
  have he9 := law_cd KX (Top.g T) hmg ho hd
  have hfa := law_addr KX (Top.g T) hmg
  clear KT Y
  clear hmg
  wrow_args hpre hlay hrd hwl hlo
  refine enter_call ?_
  w_top on
  refine law_post hT9 (fun _ _ => rfl) (law_says _ _) ?_
  w_call any ho hd hcd hD T F
  clear hd
  rename IntsAre _ _ => hI0
  rename Heap.IsList _ _ _ => hS0
  rename News _ _ _ _ => N0
  rename ¬ _ < _ => hl0
  rename (_ : Obj).data = Data.cell (bindC _ _ _ (Str.ofString "m")) => d2
  rename (_ : Obj).data = Data.cell (bindC _ _ _ (Str.ofString "machine")) => d1
  refine law_tail T KX hT9 hg he9 hfa F N0 d2 d1 rfl hS0 hI0 (fun q => hl0 (by omega)) ?pe ?pq
  case pe => passes_own
  case pq => exact fun h' tk' g' a k gr => ⟨⟨rfl, k, rfl, a⟩, gr⟩
